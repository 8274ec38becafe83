import PyProof.Rows.All
import Wide.All
import OpenK.AllK
import Wide.FinOn
import PySem.Challenge.RW_qh0058_01
set_option Elab.async false
set_option autoImplicit false
set_option maxRecDepth 100000
set_option maxHeartbeats 8000000
namespace Mine
section
open PySem PySem.W PyProof.Rows PySem.W.Fast
noncomputable abbrev pw : Program := PySem.Challenge.pw_qh0058_01
noncomputable def tp (i : Nat) : Option Stmt := pw.main.body[i]?
noncomputable def mt (i j : Nat) : Option Stmt := match tp i with
  | some (.ClassDef _ _ _ b _ _ _ _ _ _ _) => b[j]?
  | _ => none
noncomputable def dE (P : Params) (k : Str) (t : Tok) (v : Value) : DictEntry := { hash := PyData.keyHash P k, key := .str k t, val := v }
noncomputable def cO (l : List Value) : Obj := { cls := .type "code", data := .fields l.toArray }
noncomputable def tO (l : List Value) : Obj := { cls := .type "tuple", data := .seq l.toArray }
noncomputable def dO (l : List DictEntry) (n : Nat) : Obj := { cls := .type "dict", data := .dict l.toArray n }
noncomputable def fO (o : Option Stmt) (q m : Str) (t : Tok) (c : Addr) (d k : Value) : Obj := match o with
  | some (.FunctionDef name args body _ _ _ scope _ _ _) => { cls := .type "function", data := .func { name := name, qualname := q, params := args, body := .stmts body, scope := scope, globals := 3, closure := [], defaults := d, kwdefaults := k, pyModule := .str m t, code := .ref c } }
  | _ => { cls := .none, data := .plain }
noncomputable def kH (P : Params) : Frag := [
(2,{cls:=.none,data:=.dict #[dE P "type.__subclasses__.Exception.0" 212 (.int 31 0),dE P "type.__subclasses__.Exception.n" 213 (.int 1 0)] 2}),
(3,dO [dE P "__name__" 165 (.str "law_qh0058_01" 569),dE P "__doc__" 166 .none,dE P "__package__" 167 .none,dE P "__loader__" 168 (.builtin "__main__.__loader__#opaque"),dE P "__spec__" 169 .none,dE P "__annotations__" 170 (.ref 6),dE P "__builtins__" 171 (.ref 4),dE P "__file__" 173 (.str "/claim/cut.py" 172),dE P "__cached__" 174 .none,dE P "_wall" 193 (.ref 21),dE P "Error" 215 (.ref 90),dE P "Error_ftplib" 216 (.ref 31),dE P "error_reply" 232 (.ref 44),dE P "error_proto" 248 (.ref 56),dE P "parse229" 261 (.ref 65),dE P "parse257" 272 (.ref 72),dE P "bytes_types" 275 (.ref 73),dE P "_bytes_from_decode_data" 282 (.ref 80),dE P "Error_binascii" 303 (.ref 90),dE P "_ascii_buffer" 311 (.ref 100),dE P "_buffer" 319 (.ref 107),dE P "_truth" 327 (.ref 114),dE P "_B64" 329 (.bytes #[65,66,67,68,69,70,71,72,73,74,75,76,77,78,79,80,81,82,83,84,85,86,87,88,89,90,97,98,99,100,101,102,103,104,105,106,107,108,109,110,111,112,113,114,115,116,117,118,119,120,121,122,48,49,50,51,52,53,54,55,56,57,43,47] 328),dE P "_b64_value" 336 (.ref 121),dE P "a2b_base64" 352 (.ref 129),dE P "b2a_base64" 366 (.ref 137),dE P "b64encode" 377 (.ref 145),dE P "b64decode" 386 (.ref 153),dE P "_NODE_OUT" 391 (.int (-1) 390),dE P "_NODE_DONE" 394 (.int (-2) 393),dE P "_NodeInfo" 431 (.ref 172),dE P "CycleError" 449 (.ref 187),dE P "TopologicalSorter" 568 (.ref 269),dE P "_law_folders" 582 (.ref 280),dE P "_law_rounds" 588 (.ref 285),dE P "_law_replies" 594 (.ref 290),dE P "_law_asked" 603 (.ref 297),dE P "_law_bits" 609 (.ref 302),dE P "_law_holds" 615 (.ref 307),dE P "_law_depth" 624 (.ref 314),dE P "law" 630 (.ref 319)] 41),
(20,cO [.str "_wall" 187,.str "_wall" 188,.str "/claim/cut.py" 189,.int 1 0,.int 1 0,.int 0 0,.int 0 0,.int 3 0,.ref 15,.bool true,.int 181 0,.ref 16,.none,.ref 17,.ref 18,.ref 19,.int 191 0,.int 1 0,.str "/claim/cut.py" 192]),
(21,fO (tp 0) "_wall" "__main__" 164 20 .none .none),
(22,tO [.type "Exception"]),
(29,tO []),
(30,dO [dE P "__module__" 203 (.str "cpy313.ftplib" 194),dE P "__firstlineno__" 207 (.int 5 206),dE P "__static_attributes__" 208 (.ref 29),dE P "__weakref__" 210 (.ref 32),dE P "__doc__" 211 .none] 3),
(31,{cls:=.type "type",data:=.cls {name:="Error",bases:=[.type "Exception"],mro:=[.ref 31,.type "Exception",.type "BaseException",.type "object"],ns:=30,qualname:="Error",subclasses:=[.ref 44,.ref 56]},slots:=#[some (.ref 22),none,some (.str "Error" 196),some (.str "Error" 204),some (.builtin "Exception.__new__"),some (.bool true)]}),
(32,{cls:=.type "getset_descriptor",data:=.fields #[.str "__weakref__" 209,.ref 31,.builtin "ExceptionGroup.__weakref__",.none]}),
(35,tO [.ref 31]),
(42,tO []),
(43,dO [dE P "__module__" 224 (.str "cpy313.ftplib" 194),dE P "__firstlineno__" 228 (.int 8 227),dE P "__static_attributes__" 229 (.ref 42),dE P "__doc__" 230 .none] 2),
(44,{cls:=.type "type",data:=.cls {name:="error_reply",bases:=[.ref 31],mro:=[.ref 44,.ref 31,.type "Exception",.type "BaseException",.type "object"],ns:=43,qualname:="error_reply"},slots:=#[some (.ref 35),none,some (.str "error_reply" 217),some (.str "error_reply" 225),some (.builtin "Exception.__new__"),some (.bool true)]}),
(47,tO [.ref 31]),
(54,tO []),
(55,dO [dE P "__module__" 240 (.str "cpy313.ftplib" 194),dE P "__firstlineno__" 244 (.int 10 243),dE P "__static_attributes__" 245 (.ref 54),dE P "__doc__" 246 .none] 2),
(56,{cls:=.type "type",data:=.cls {name:="error_proto",bases:=[.ref 31],mro:=[.ref 56,.ref 31,.type "Exception",.type "BaseException",.type "object"],ns:=55,qualname:="error_proto"},slots:=#[some (.ref 47),none,some (.str "error_proto" 233),some (.str "error_proto" 241),some (.builtin "Exception.__new__"),some (.bool true)]}),
(64,cO [.str "parse229" 249,.str "parse229" 250,.str "/claim/cut.py" 251,.int 12 0,.int 2 0,.int 0 0,.int 0 0,.int 3 0,.ref 59,.bool true,.int 181 0,.ref 60,.none,.ref 61,.ref 62,.ref 63,.int 259 0,.int 12 0,.str "/claim/cut.py" 260]),
(65,fO (tp 6) "parse229" "cpy313.ftplib" 194 64 .none .none),
(71,cO [.str "parse257" 262,.str "parse257" 263,.str "/claim/cut.py" 264,.int 29 0,.int 1 0,.int 0 0,.int 0 0,.int 3 0,.ref 66,.bool true,.int 181 0,.ref 67,.none,.ref 68,.ref 69,.ref 70,.int 270 0,.int 29 0,.str "/claim/cut.py" 271]),
(72,fO (tp 7) "parse257" "cpy313.ftplib" 194 71 .none .none),
(73,tO [.type "bytes",.type "bytearray"]),
(79,cO [.str "_bytes_from_decode_data" 276,.str "_bytes_from_decode_data" 277,.str "/claim/cut.py" 278,.int 48 0,.int 1 0,.int 0 0,.int 0 0,.int 3 0,.ref 74,.bool true,.int 181 0,.ref 75,.none,.ref 76,.ref 77,.ref 78,.int 280 0,.int 48 0,.str "/claim/cut.py" 281]),
(80,fO (tp 10) "_bytes_from_decode_data" "cpy313.base64" 273 79 .none .none),
(81,tO [.type "ValueError"]),
(88,tO []),
(89,dO [dE P "__module__" 292 (.str "binascii" 283),dE P "__firstlineno__" 296 (.int 61 295),dE P "__static_attributes__" 297 (.ref 88),dE P "__weakref__" 299 (.ref 91),dE P "__doc__" 300 .none] 3),
(90,{cls:=.type "type",data:=.cls {name:="Error",bases:=[.type "ValueError"],mro:=[.ref 90,.type "ValueError",.type "Exception",.type "BaseException",.type "object"],ns:=89,qualname:="Error"},slots:=#[some (.ref 81),none,some (.str "Error" 285),some (.str "Error" 293),some (.builtin "ValueError.__new__"),some (.bool true)]}),
(91,{cls:=.type "getset_descriptor",data:=.fields #[.str "__weakref__" 298,.ref 90,.builtin "ExceptionGroup.__weakref__",.none]}),
(99,cO [.str "_ascii_buffer" 304,.str "_ascii_buffer" 305,.str "/claim/cut.py" 306,.int 64 0,.int 1 0,.int 0 0,.int 0 0,.int 3 0,.ref 94,.bool true,.int 181 0,.ref 95,.none,.ref 96,.ref 97,.ref 98,.int 309 0,.int 64 0,.str "/claim/cut.py" 310]),
(100,fO (tp 14) "_ascii_buffer" "binascii" 283 99 .none .none),
(106,cO [.str "_buffer" 312,.str "_buffer" 313,.str "/claim/cut.py" 314,.int 75 0,.int 1 0,.int 0 0,.int 0 0,.int 3 0,.ref 101,.bool true,.int 181 0,.ref 102,.none,.ref 103,.ref 104,.ref 105,.int 317 0,.int 75 0,.str "/claim/cut.py" 318]),
(107,fO (tp 15) "_buffer" "binascii" 283 106 .none .none),
(113,cO [.str "_truth" 320,.str "_truth" 321,.str "/claim/cut.py" 322,.int 82 0,.int 1 0,.int 0 0,.int 0 0,.int 3 0,.ref 108,.bool true,.int 181 0,.ref 109,.none,.ref 110,.ref 111,.ref 112,.int 325 0,.int 82 0,.str "/claim/cut.py" 326]),
(114,fO (tp 16) "_truth" "binascii" 283 113 .none .none),
(120,cO [.str "_b64_value" 330,.str "_b64_value" 331,.str "/claim/cut.py" 332,.int 88 0,.int 1 0,.int 0 0,.int 0 0,.int 3 0,.ref 115,.bool true,.int 181 0,.ref 116,.none,.ref 117,.ref 118,.ref 119,.int 334 0,.int 88 0,.str "/claim/cut.py" 335]),
(121,fO (tp 18) "_b64_value" "binascii" 283 120 .none .none),
(122,dO [dE P "strict_mode" 337 (.bool false)] 1),
(128,cO [.str "a2b_base64" 338,.str "a2b_base64" 339,.str "/claim/cut.py" 340,.int 100 0,.int 1 0,.int 1 0,.int 1 0,.int 3 0,.ref 123,.bool true,.int 181 0,.ref 124,.none,.ref 125,.ref 126,.ref 127,.int 350 0,.int 100 0,.str "/claim/cut.py" 351]),
(129,fO (tp 19) "a2b_base64" "binascii" 283 128 .none (.ref 122)),
(130,dO [dE P "newline" 353 (.bool true)] 1),
(136,cO [.str "b2a_base64" 354,.str "b2a_base64" 355,.str "/claim/cut.py" 356,.int 154 0,.int 1 0,.int 1 0,.int 1 0,.int 3 0,.ref 131,.bool true,.int 181 0,.ref 132,.none,.ref 133,.ref 134,.ref 135,.int 364 0,.int 154 0,.str "/claim/cut.py" 365]),
(137,fO (tp 20) "b2a_base64" "binascii" 283 136 .none (.ref 130)),
(138,tO [.none]),
(144,cO [.str "b64encode" 369,.str "b64encode" 370,.str "/claim/cut.py" 371,.int 177 0,.int 2 0,.int 0 0,.int 0 0,.int 3 0,.ref 139,.bool true,.int 181 0,.ref 140,.none,.ref 141,.ref 142,.ref 143,.int 375 0,.int 177 0,.str "/claim/cut.py" 376]),
(145,fO (tp 22) "b64encode" "cpy313.base64" 367 144 (.ref 138) .none),
(146,tO [.none,.bool false]),
(152,cO [.str "b64decode" 378,.str "b64decode" 379,.str "/claim/cut.py" 380,.int 183 0,.int 3 0,.int 0 0,.int 0 0,.int 3 0,.ref 147,.bool true,.int 181 0,.ref 148,.none,.ref 149,.ref 150,.ref 151,.int 384 0,.int 183 0,.str "/claim/cut.py" 385]),
(153,fO (tp 23) "b64decode" "cpy313.base64" 367 152 (.ref 146) .none),
(161,tO [.str "node" 407,.str "npredecessors" 408,.str "successors" 409]),
(167,cO [.str "__init__" 411,.str "_NodeInfo.__init__" 412,.str "/claim/cut.py" 413,.int 196 0,.int 2 0,.int 0 0,.int 0 0,.int 3 0,.ref 162,.bool true,.int 181 0,.ref 163,.none,.ref 164,.ref 165,.ref 166,.int 416 0,.int 196 0,.str "/claim/cut.py" 417]),
(168,fO (mt 27 1) "_NodeInfo.__init__" "cpy313.graphlib" 387 167 .none .none),
(169,tO [.str "node" 419,.str "npredecessors" 420,.str "successors" 421]),
(171,dO [dE P "__module__" 402 (.str "cpy313.graphlib" 387),dE P "__firstlineno__" 406 (.int 193 405),dE P "__slots__" 410 (.ref 161),dE P "__init__" 418 (.ref 168),dE P "__static_attributes__" 422 (.ref 169),dE P "node" 424 (.ref 173),dE P "npredecessors" 426 (.ref 174),dE P "successors" 428 (.ref 175),dE P "__doc__" 429 .none] 5),
(172,{cls:=.type "type",data:=.cls {name:="_NodeInfo",bases:=[.type "object"],mro:=[.ref 172,.type "object"],ns:=171,qualname:="_NodeInfo",hasDict:=false,slotNames:=["node","npredecessors","successors"]},slots:=#[none,none,some (.str "_NodeInfo" 395),some (.str "_NodeInfo" 403),some (.builtin "object.__new__"),some (.bool false)]}),
(173,{cls:=.type "member_descriptor",data:=.fields #[.str "node" 423,.ref 172,.builtin "proto.slot",.builtin "proto.slot#set",.int 2 0]}),
(174,{cls:=.type "member_descriptor",data:=.fields #[.str "npredecessors" 425,.ref 172,.builtin "proto.slot",.builtin "proto.slot#set",.int 1 0]}),
(175,{cls:=.type "member_descriptor",data:=.fields #[.str "successors" 427,.ref 172,.builtin "proto.slot",.builtin "proto.slot#set",.int 0 0]}),
(178,tO [.type "ValueError"]),
(185,tO []),
(186,dO [dE P "__module__" 439 (.str "cpy313.graphlib" 387),dE P "__firstlineno__" 443 (.int 200 442),dE P "__static_attributes__" 444 (.ref 185),dE P "__weakref__" 446 (.ref 188),dE P "__doc__" 447 .none] 3),
(187,{cls:=.type "type",data:=.cls {name:="CycleError",bases:=[.type "ValueError"],mro:=[.ref 187,.type "ValueError",.type "Exception",.type "BaseException",.type "object"],ns:=186,qualname:="CycleError"},slots:=#[some (.ref 178),none,some (.str "CycleError" 432),some (.str "CycleError" 440),some (.builtin "ValueError.__new__"),some (.bool true)]}),
(188,{cls:=.type "getset_descriptor",data:=.fields #[.str "__weakref__" 445,.ref 187,.builtin "ExceptionGroup.__weakref__",.none]}),
(198,tO [.none]),
(204,cO [.str "__init__" 462,.str "TopologicalSorter.__init__" 463,.str "/claim/cut.py" 464,.int 204 0,.int 2 0,.int 0 0,.int 0 0,.int 3 0,.ref 199,.bool true,.int 181 0,.ref 200,.none,.ref 201,.ref 202,.ref 203,.int 469 0,.int 204 0,.str "/claim/cut.py" 470]),
(205,fO (mt 29 0) "TopologicalSorter.__init__" "cpy313.graphlib" 387 204 (.ref 198) .none),
(211,cO [.str "_get_nodeinfo" 472,.str "TopologicalSorter._get_nodeinfo" 473,.str "/claim/cut.py" 474,.int 213 0,.int 2 0,.int 0 0,.int 0 0,.int 3 0,.ref 206,.bool true,.int 181 0,.ref 207,.none,.ref 208,.ref 209,.ref 210,.int 478 0,.int 213 0,.str "/claim/cut.py" 479]),
(212,fO (mt 29 1) "TopologicalSorter._get_nodeinfo" "cpy313.graphlib" 387 211 .none .none),
(218,cO [.str "add" 481,.str "TopologicalSorter.add" 482,.str "/claim/cut.py" 483,.int 218 0,.int 2 0,.int 0 0,.int 0 0,.int 7 0,.ref 213,.bool true,.int 181 0,.ref 214,.none,.ref 215,.ref 216,.ref 217,.int 490 0,.int 218 0,.str "/claim/cut.py" 491]),
(219,fO (mt 29 2) "TopologicalSorter.add" "cpy313.graphlib" 387 218 .none .none),
(223,cO [.str "prepare" 493,.str "TopologicalSorter.prepare" 494,.str "/claim/cut.py" 495,.int 227 0,.int 1 0,.int 0 0,.int 0 0,.int 3 0,.ref 220,.bool true,.int 181 0,.ref 221,.none,.none,.none,.ref 222,.int 496 0,.int 227 0,.str "/claim/cut.py" 497]),
(224,fO (mt 29 3) "TopologicalSorter.prepare" "cpy313.graphlib" 387 223 .none .none),
(230,cO [.str "get_ready" 499,.str "TopologicalSorter.get_ready" 500,.str "/claim/cut.py" 501,.int 235 0,.int 1 0,.int 0 0,.int 0 0,.int 3 0,.ref 225,.bool true,.int 181 0,.ref 226,.none,.ref 227,.ref 228,.ref 229,.int 506 0,.int 235 0,.str "/claim/cut.py" 507]),
(231,fO (mt 29 4) "TopologicalSorter.get_ready" "cpy313.graphlib" 387 230 .none .none),
(237,cO [.str "is_active" 509,.str "TopologicalSorter.is_active" 510,.str "/claim/cut.py" 511,.int 246 0,.int 1 0,.int 0 0,.int 0 0,.int 3 0,.ref 232,.bool true,.int 181 0,.ref 233,.none,.ref 234,.ref 235,.ref 236,.int 513 0,.int 246 0,.str "/claim/cut.py" 514]),
(238,fO (mt 29 5) "TopologicalSorter.is_active" "cpy313.graphlib" 387 237 .none .none),
(244,cO [.str "__bool__" 516,.str "TopologicalSorter.__bool__" 517,.str "/claim/cut.py" 518,.int 251 0,.int 1 0,.int 0 0,.int 0 0,.int 3 0,.ref 239,.bool true,.int 181 0,.ref 240,.none,.ref 241,.ref 242,.ref 243,.int 520 0,.int 251 0,.str "/claim/cut.py" 521]),
(245,fO (mt 29 6) "TopologicalSorter.__bool__" "cpy313.graphlib" 387 244 .none .none),
(251,cO [.str "done" 523,.str "TopologicalSorter.done" 524,.str "/claim/cut.py" 525,.int 254 0,.int 1 0,.int 0 0,.int 0 0,.int 7 0,.ref 246,.bool true,.int 181 0,.ref 247,.none,.ref 248,.ref 249,.ref 250,.int 534 0,.int 254 0,.str "/claim/cut.py" 535]),
(252,fO (mt 29 7) "TopologicalSorter.done" "cpy313.graphlib" 387 251 .none .none),
(258,cO [.str "_find_cycle" 537,.str "TopologicalSorter._find_cycle" 538,.str "/claim/cut.py" 539,.int 277 0,.int 1 0,.int 0 0,.int 0 0,.int 3 0,.ref 253,.bool true,.int 181 0,.ref 254,.none,.ref 255,.ref 256,.ref 257,.int 547 0,.int 277 0,.str "/claim/cut.py" 548]),
(259,fO (mt 29 8) "TopologicalSorter._find_cycle" "cpy313.graphlib" 387 258 .none .none),
(265,cO [.str "static_order" 550,.str "TopologicalSorter.static_order" 551,.str "/claim/cut.py" 552,.int 306 0,.int 1 0,.int 0 0,.int 0 0,.int 3 0,.ref 260,.bool true,.int 181 0,.ref 261,.none,.ref 262,.ref 263,.ref 264,.int 554 0,.int 306 0,.str "/claim/cut.py" 555]),
(266,fO (mt 29 9) "TopologicalSorter.static_order" "cpy313.graphlib" 387 265 .none .none),
(267,tO [.str "_nfinished" 557,.str "_node2info" 558,.str "_npassedout" 559,.str "_ready_nodes" 560]),
(268,dO [dE P "__module__" 457 (.str "cpy313.graphlib" 387),dE P "__firstlineno__" 461 (.int 202 460),dE P "__init__" 471 (.ref 205),dE P "_get_nodeinfo" 480 (.ref 212),dE P "add" 492 (.ref 219),dE P "prepare" 498 (.ref 224),dE P "get_ready" 508 (.ref 231),dE P "is_active" 515 (.ref 238),dE P "__bool__" 522 (.ref 245),dE P "done" 536 (.ref 252),dE P "_find_cycle" 549 (.ref 259),dE P "static_order" 556 (.ref 266),dE P "__static_attributes__" 561 (.ref 267),dE P "__dict__" 563 (.ref 270),dE P "__weakref__" 565 (.ref 271),dE P "__doc__" 566 .none] 4),
(269,{cls:=.type "type",data:=.cls {name:="TopologicalSorter",bases:=[.type "object"],mro:=[.ref 269,.type "object"],ns:=268,qualname:="TopologicalSorter"},slots:=#[none,none,some (.str "TopologicalSorter" 450),some (.str "TopologicalSorter" 458),some (.builtin "object.__new__"),some (.bool true)]}),
(270,{cls:=.type "getset_descriptor",data:=.fields #[.str "__dict__" 562,.ref 269,.builtin "function.__dict__",.builtin "function.__dict__#set"]}),
(271,{cls:=.type "getset_descriptor",data:=.fields #[.str "__weakref__" 564,.ref 269,.builtin "ExceptionGroup.__weakref__",.none]}),
(279,cO [.str "_law_folders" 571,.str "_law_folders" 572,.str "/claim/cut.py" 573,.int 309 0,.int 1 0,.int 0 0,.int 0 0,.int 3 0,.ref 274,.bool true,.int 181 0,.ref 275,.none,.ref 276,.ref 277,.ref 278,.int 580 0,.int 309 0,.str "/claim/cut.py" 581]),
(280,fO (tp 31) "_law_folders" "law_qh0058_01" 569 279 .none .none),
(284,cO [.str "_law_rounds" 583,.str "_law_rounds" 584,.str "/claim/cut.py" 585,.int 316 0,.int 1 0,.int 0 0,.int 0 0,.int 3 0,.ref 281,.bool true,.int 181 0,.ref 282,.none,.none,.none,.ref 283,.int 586 0,.int 316 0,.str "/claim/cut.py" 587]),
(285,fO (tp 32) "_law_rounds" "law_qh0058_01" 569 284 .none .none),
(289,cO [.str "_law_replies" 589,.str "_law_replies" 590,.str "/claim/cut.py" 591,.int 331 0,.int 2 0,.int 0 0,.int 0 0,.int 3 0,.ref 286,.bool true,.int 181 0,.ref 287,.none,.none,.none,.ref 288,.int 592 0,.int 331 0,.str "/claim/cut.py" 593]),
(290,fO (tp 33) "_law_replies" "law_qh0058_01" 569 289 .none .none),
(296,cO [.str "_law_asked" 595,.str "_law_asked" 596,.str "/claim/cut.py" 597,.int 340 0,.int 2 0,.int 0 0,.int 0 0,.int 3 0,.ref 291,.bool true,.int 181 0,.ref 292,.none,.ref 293,.ref 294,.ref 295,.int 601 0,.int 340 0,.str "/claim/cut.py" 602]),
(297,fO (tp 34) "_law_asked" "law_qh0058_01" 569 296 .none .none),
(301,cO [.str "_law_bits" 604,.str "_law_bits" 605,.str "/claim/cut.py" 606,.int 347 0,.int 1 0,.int 0 0,.int 0 0,.int 3 0,.ref 298,.bool true,.int 181 0,.ref 299,.none,.none,.none,.ref 300,.int 607 0,.int 347 0,.str "/claim/cut.py" 608]),
(302,fO (tp 35) "_law_bits" "law_qh0058_01" 569 301 .none .none),
(306,cO [.str "_law_holds" 610,.str "_law_holds" 611,.str "/claim/cut.py" 612,.int 356 0,.int 2 0,.int 0 0,.int 0 0,.int 3 0,.ref 303,.bool true,.int 181 0,.ref 304,.none,.none,.none,.ref 305,.int 613 0,.int 356 0,.str "/claim/cut.py" 614]),
(307,fO (tp 36) "_law_holds" "law_qh0058_01" 569 306 .none .none),
(313,cO [.str "_law_depth" 616,.str "_law_depth" 617,.str "/claim/cut.py" 618,.int 366 0,.int 2 0,.int 0 0,.int 0 0,.int 3 0,.ref 308,.bool true,.int 181 0,.ref 309,.none,.ref 310,.ref 311,.ref 312,.int 622 0,.int 366 0,.str "/claim/cut.py" 623]),
(314,fO (tp 37) "_law_depth" "law_qh0058_01" 569 313 .none .none),
(318,cO [.str "law" 625,.str "law" 626,.str "/claim/cut.py" 627,.int 372 0,.int 1 0,.int 0 0,.int 0 0,.int 3 0,.ref 315,.bool true,.int 181 0,.ref 316,.none,.none,.none,.ref 317,.int 628 0,.int 372 0,.str "/claim/cut.py" 629]),
(319,fO (tp 38) "law" "law_qh0058_01" 569 318 .none .none)]
noncomputable def kA : List Addr := [2,3,20,21,22,29,30,31,32,35,42,43,44,47,54,55,56,64,65,71,72,73,79,80,81,88,89,90,91,99,100,106,107,113,114,120,121,122,128,129,130,136,137,138,144,145,146,152,153,161,167,168,169,171,172,173,174,175,178,185,186,187,188,198,204,205,211,212,218,219,223,224,230,231,237,238,244,245,251,252,258,259,265,266,267,268,269,270,271,279,280,284,285,289,290,296,297,301,302,306,307,313,314,318,319]
noncomputable def keepL : List Nat := [0,3,4,5,6,7,9,10,12,13,14,15,16,17,18,25,26,27,28,29,31,32,33,34,35,36,37,38]
noncomputable def qv : Program := view pw keepL
noncomputable def looseL : List Str := ["Error_ftplib", "bytes_types", "Error_binascii", "a2b_base64", "b2a_base64", "b64encode", "b64decode", "_NodeInfo"]
theorem left_of {p q : Program} {loose : List Str} {Xt : Shared → Bool} {α : Type} {Yf : Shared → α} {Ya : World → α} {N : Nat}
  {tt} (e1 : treeTable = tt) {ie} (e2 : @importEnds = ie) {tr} (e3 : @topRun = tr) {st} (e4 : @start = st) {os} (e5 : @openSeen = os) {fm} (e6 : @fenceModules? = fm)
  (h : ∀ w : World, (((ie tt (opening p) w N (st (opening p)).1 (st (opening p)).2).bind (fm p)).bind fun bg => match bg.heap.isNs mainGlobals && bg.gens.size == 0 with
    | true => (tr tt p w bg.heap.objs.size (bg.heap.nsMap mainGlobals "__annotations__") N bg (topStub p)).bind fun az => match staticsOk (importedModules p.main.body) bg.heap az.heap && namesBound p az.heap && gensDone az && laidKept bg.heap az.heap with
      | true => some az
      | false => none
    | false => none).map (fun s => (os q loose (importedModules p.main.body) Xt true s, Yf s)) = some (openGood q loose, Ya w)) : LeftO p q loose Xt Yf Ya N := by
  subst e1 e2 e3 e4 e5 e6
  exact h
noncomputable abbrev HK : Hook := kHook kH kA (fun _ => by kernel_rfl)
theorem said : PySem.Challenge.rw_qh0058_01.wellSaid = true := (congrFun te9446332074065402090 PySem.Challenge.rw_qh0058_01).trans (by kernel_rfl)
theorem left : LeftO pw qv looseL (fun s => xlAt qv [] s && recOk (RowW.records PySem.Challenge.rw_qh0058_01.row.toRowW) s) (Hook.obs HK) (Hook.val HK) 5200 :=
  left_of te14364793385576792824 te10274390034422433532 te14082659384304107361 te1435165496053646825 te4187177175401517315 te14289696077712309145 (fun w => by kernel_rfl)
noncomputable def dR : DefRec := match tp 38 with
  | some (.FunctionDef name args body _ _ _ scope _ _ pos) => { name := name, params := args, body := body, scope := scope, pos := pos }
  | _ => { name := "", params := ⟨[], [], none, [], [], none, []⟩, body := [], scope := { kind := .function, names := [], isGenerator := false, isCoroutine := false }, pos := ⟨0, 0, 0, 0⟩ }
theorem head (call : WalkO qv looseL (XL qv []) (Hook.says HK) PySem.Challenge.rw_qh0058_01.row.toRowW dR [] fun f vs => PySem.call f vs) : PySem.Challenge.rw_qh0058_01.Holds := by
  refine holds_law said fun sd => ?_
  exact holds_open (q := qv) (loose := looseL) (Xt := fun s => xlAt qv [] s && recOk (RowW.records PySem.Challenge.rw_qh0058_01.row.toRowW) s) (XP := XL qv []) (Yf := Hook.obs HK) (Ya := Hook.val HK) (YP := Hook.says HK) (N := 5200) left (Hook.of HK) (Hook.keeps HK) (fun s e => xl_of s (Bool.and_eq_true_iff.mp e).1) XL.keeps (by kernel_rfl) (by kernel_rfl) (by kernel_rfl) (fun s e => recFacts_of (Bool.and_eq_true_iff.mp e).2) (by kernel_rfl) (by first | assumption | decide +kernel) (by decide +kernel) ⟨rfl, rfl, rfl, rfl, rfl, by decide +kernel⟩ ⟨[.list []], by decide +kernel, by decide +kernel⟩ call
end
end Mine
namespace Mine
open PySem PySem.Spec PySem.Calls PyProof.Rows PySem.W
noncomputable section
inductive V where
 | none
 | bool (b : Bool)
 | int (i : Int)
 | str (x : Str)
 | bytes (b : Array UInt8)
 | type (n : String)
 | blt (n : String)
 | top (a : Nat)
 | ref (l : Nat)
deriving DecidableEq, Inhabited
inductive O where
 | list (xs : List V)
 | tup (xs : List V)
 | dict (es : List (Int × V)) (ep : Nat)
 | dvals (l : Nat)
 | range (a b c : Int)
 | set (xs : List Int)
 | inst (c d : Nat) (sl : List (Option V))
 | idict (fs : List (Str × V))
 | liter (l i : Nat)
 | mnext (l : Nat)
 | exc (c : V) (t : Nat)
 | dead
deriving DecidableEq, Inhabited
structure St where
 loc : List (Option V)
 heap : List O
deriving Inhabited
inductive zV (α : Type) where
 | ok (a : α) (σ : St)
 | exc (c : V) (args : List V) (σ : St)
 | bad
namespace zV
noncomputable def bind {α β : Type} : zV α → (α → St → zV β) → zV β
 | .ok a σ, f => f a σ
 | .exc c as σ, _ => .exc c as σ
 | .bad, _ => .bad
@[simp] theorem bind_ok {α β : Type} (a : α) (σ : St) (f : α → St → zV β) : (zV.ok a σ).bind f = f a σ := rfl
@[simp] theorem bind_exc {α β : Type} (c : V) (as : List V) (σ : St) (f : α → St → zV β) : (zV.exc c as σ : zV α).bind f = .exc c as σ := rfl
@[simp] theorem bind_bad {α β : Type} (f : α → St → zV β) : (zV.bad : zV α).bind f = .bad := rfl
end zV
inductive RefR (ρ : List Addr) (l : Nat) (v : Value) : Prop
 | mk (a : Addr) (h : ρ[l]? = some a) (e : v = .ref a)
noncomputable def VR (ρ : List Addr) : V → Value → Prop
 | .none, v => v = .none
 | .bool b, v => v = .bool b
 | .int i, v => ∃ t, v = .int i t
 | .str x, v => ∃ t, v = .str x t
 | .bytes b, v => ∃ t, v = .bytes b t
 | .type n, v => v = .type n
 | .blt n, v => v = .builtin n
 | .top a, v => v = .ref a
 | .ref l, v => RefR ρ l v
theorem VR.mono {ρ more : List Addr} {v : V} {x : Value} (h : VR ρ v x) : VR (ρ ++ more) v x := by
 cases v <;> first | exact h | skip
 obtain ⟨a, h1, h2⟩ := h
 refine ⟨a, ?_, h2⟩
 obtain ⟨hl, _⟩ := List.getElem?_eq_some_iff.mp h1
 rw [List.getElem?_append_left hl]
 exact h1
inductive ConR (P : Value → Prop) (Q : List Value → Prop) (ys : List Value) : Prop
 | mk (x : Value) (xs : List Value) (e : ys = x :: xs) (h : P x) (r : Q xs)
noncomputable def bL (ρ : List Addr) : List V → List Value → Prop
 | [], ys => ys = []
 | v :: vs, ys => ConR (VR ρ v) (bL ρ vs) ys
theorem bL.mono {ρ more : List Addr} : ∀ {vs : List V} {xs : List Value}, bL ρ vs xs → bL (ρ ++ more) vs xs
 | [], _, h => h
 | _ :: _, _, ⟨x, xs, e, h, r⟩ => ⟨x, xs, e, h.mono, r.mono⟩
theorem bL.length {ρ : List Addr} : ∀ {vs : List V} {xs : List Value}, bL ρ vs xs → xs.length = vs.length
 | [], _, h => by cases h; rfl
 | _ :: vs, _, ⟨x, xs, e, _, r⟩ => by subst e; simp [r.length]
theorem bL.get {ρ : List Addr} : ∀ {vs : List V} {xs : List Value}, bL ρ vs xs → ∀ {i : Nat} {v : V}, vs[i]? = some v → ∃ x, xs[i]? = some x ∧ VR ρ v x
 | [], _, _, i, v, e => by simp at e
 | _ :: vs, _, ⟨x, xs, e, h, r⟩, 0, v, e' => by subst e; simp at e'; subst e'; exact ⟨x, by simp, h⟩
 | _ :: vs, _, ⟨x, xs, e, h, r⟩, i + 1, v, e' => by subst e; simp at e'; obtain ⟨y, h1, h2⟩ := r.get e'; exact ⟨y, by simpa using h1, h2⟩
theorem bL.append {ρ : List Addr} : ∀ {vs ws : List V} {xs ys : List Value}, bL ρ vs xs → bL ρ ws ys → bL ρ (vs ++ ws) (xs ++ ys)
 | [], _, _, _, h, g => by cases h; exact g
 | _ :: vs, _, _, _, ⟨x, xs, e, h, r⟩, g => by subst e; exact ⟨x, _, rfl, h, r.append g⟩
theorem bL.nil {ρ : List Addr} : bL ρ [] [] := rfl
theorem bL.cons {ρ : List Addr} {v : V} {vs : List V} {x : Value} {xs : List Value} (h : VR ρ v x) (r : bL ρ vs xs) : bL ρ (v :: vs) (x :: xs) := ⟨x, xs, rfl, h, r⟩
theorem bL.one {ρ : List Addr} {v : V} {x : Value} (h : VR ρ v x) : bL ρ [v] [x] := .cons h .nil
theorem bL.set {ρ : List Addr} : ∀ {vs : List V} {xs : List Value}, bL ρ vs xs → ∀ {i : Nat} {v : V} {x : Value}, VR ρ v x → bL ρ (vs.set i v) (xs.set i x)
 | [], _, h, _, _, _, _ => by cases h; exact rfl
 | _ :: vs, _, ⟨x, xs, e, h, r⟩, 0, _, _, g => by subst e; exact ⟨_, _, rfl, g, r⟩
 | _ :: vs, _, ⟨x, xs, e, h, r⟩, i + 1, _, _, g => by subst e; exact ⟨_, _, rfl, h, r.set g⟩
theorem bL.take {ρ : List Addr} : ∀ {vs : List V} {xs : List Value} (n : Nat), bL ρ vs xs → bL ρ (vs.take n) (xs.take n)
 | [], _, n, h => by cases h; simp; exact rfl
 | _ :: vs, _, 0, ⟨x, xs, e, h, r⟩ => by simp; exact rfl
 | _ :: vs, _, n + 1, ⟨x, xs, e, h, r⟩ => by subst e; exact ⟨_, _, rfl, h, r.take n⟩
theorem bL.drop {ρ : List Addr} : ∀ {vs : List V} {xs : List Value} (n : Nat), bL ρ vs xs → bL ρ (vs.drop n) (xs.drop n)
 | [], _, n, h => by cases h; simp; exact rfl
 | _ :: vs, _, 0, ⟨x, xs, e, h, r⟩ => by subst e; exact ⟨_, _, rfl, h, r⟩
 | _ :: vs, _, n + 1, ⟨x, xs, e, h, r⟩ => by subst e; exact r.drop n
noncomputable def zP (ρ : List Addr) : Option V → Option Value → Prop
 | .none, v => v = none
 | some v, x => ∃ y, x = some y ∧ VR ρ v y
theorem zP.mono {ρ more : List Addr} {v : Option V} {x : Option Value} (h : zP ρ v x) : zP (ρ ++ more) v x := by
 cases v with
 | none => exact h
 | some v => obtain ⟨y, e, h⟩ := h; exact ⟨y, e, h.mono⟩
noncomputable def zQ (ρ : List Addr) : Option V → Option Value → Prop
 | .none, _ => True
 | some v, x => ∃ y, x = some y ∧ VR ρ v y
theorem zQ.mono {ρ more : List Addr} {v : Option V} {x : Option Value} (h : zQ ρ v x) : zQ (ρ ++ more) v x := by
 cases v with
 | none => trivial
 | some v => obtain ⟨y, e, h⟩ := h; exact ⟨y, e, h.mono⟩
theorem zP.l {ρ : List Addr} {v : Option V} {x : Option Value} (h : zP ρ v x) : zQ ρ v x := by
 cases v with
 | none => trivial
 | some v => exact h
noncomputable def cG (ρ : List Addr) : List (Int × V) → List (Int × Value) → Prop
 | [], ys => ys = []
 | (k, v) :: es, ys => ∃ x r, ys = (k, x) :: r ∧ VR ρ v x ∧ cG ρ es r
theorem cG.mono {ρ more : List Addr} : ∀ {es : List (Int × V)} {ys : List (Int × Value)}, cG ρ es ys → cG (ρ ++ more) es ys
 | [], _, h => h
 | (_, _) :: _, _, ⟨x, r, e, h, q⟩ => ⟨x, r, e, h.mono, q.mono⟩
noncomputable def dJ (ρ : List Addr) : List (Str × V) → List DictEntry → Prop
 | [], ys => ys = []
 | (k, v) :: es, ys => ∃ e r, ys = e :: r ∧ (∃ t, e.key = .str k t) ∧ VR ρ v e.val ∧ dJ ρ es r
theorem dJ.mono {ρ more : List Addr} : ∀ {es : List (Str × V)} {ys : List DictEntry}, dJ ρ es ys → dJ (ρ ++ more) es ys
 | [], _, h => h
 | (_, _) :: _, _, ⟨x, r, e, t, h, q⟩ => ⟨x, r, e, t, h.mono, q.mono⟩
noncomputable def dD (ρ : List Addr) : List (Option V) → List (Option Value) → Prop
 | [], ys => ys = []
 | v :: es, ys => ∃ x r, ys = x :: r ∧ zP ρ v x ∧ dD ρ es r
theorem dD.mono {ρ more : List Addr} : ∀ {es : List (Option V)} {ys : List (Option Value)}, dD ρ es ys → dD (ρ ++ more) es ys
 | [], _, h => h
 | _ :: _, _, ⟨x, r, e, h, q⟩ => ⟨x, r, e, h.mono, q.mono⟩
section
variable (prog : Program) (w : World)
inductive SeqR (ρ : List Addr) (c : String) (xs : List V) (ob : Obj) : Prop
 | mk (vs : List Value) (n : Nat) (e : ob = { cls := .type c, data := .seq vs.toArray n }) (h : bL ρ xs vs)
noncomputable def zX (ρ : List Addr) : O → Obj → Prop
 | .list xs, ob => SeqR ρ "list" xs ob
 | .tup xs, ob => SeqR ρ "tuple" xs ob
 | .dict es ep, ob => ∃ kvs, ob.IsDictOf (intKind prog w) kvs ∧ cG ρ es kvs ∧ ∃ es', ob.data = .dict es' ep
 | .dvals l, ob => ∃ a, ρ[l]? = some a ∧ ob = { cls := .type "dict_values", data := .fields #[.ref a] }
 | .range a b c, ob => ∃ t u v, ob = { cls := .type "range", dict := none, data := .fields #[.int a t, .int b u, .int c v], slots := #[] }
 | .set xs, ob => ∃ es ep t, ob.ExactSet ∧ ob.data = .set es ep t ∧ ElemsOf (intKind prog w) es.toList ∧ (∀ k, xs.contains k = true ↔ ∃ e ∈ es.toList, (intKind prog w).is k e.2 = true)
   ∧ es.size < scanBound ∧ t.fits es.size = true ∧ es.size = xs.length
 | .inst c d sl, ob => ∃ dx sx, ρ[d]? = some dx ∧ ob = { cls := .ref c, dict := some dx, data := .plain, slots := List.toArray sx } ∧ dD ρ sl sx
 | .idict fs, ob => ∃ es n, ob = dictOf es n ∧ dJ ρ fs es
 | .liter l i, ob => ∃ a, ρ[l]? = some a ∧ ob = { cls := .type "list_iterator", data := .fields #[.ref a, .int i 0] }
 | .mnext l, ob => ∃ a, ρ[l]? = some a ∧ ob = { cls := .type "method-wrapper", data := .fields #[.builtin "list_iterator.__next__", .ref a] }
 | .exc c t, ob => ∃ a vs, VR ρ c ob.cls ∧ ρ[t]? = some a ∧ ob.data = .fields vs ∧ vs[0]? = some (.ref a)
 | .dead, ob => ∃ vs, ob.data = .fields vs
theorem cr {ρ more : List Addr} {l : Nat} {a : Addr} (h : ρ[l]? = some a) : (ρ ++ more)[l]? = some a := by
 obtain ⟨hl, _⟩ := List.getElem?_eq_some_iff.mp h
 rw [List.getElem?_append_left hl]
 exact h
variable {prog w}
theorem zX.mono {ρ more : List Addr} {o : O} {ob : Obj} (h : zX prog w ρ o ob) : zX prog w (ρ ++ more) o ob := by
 cases o with
 | list xs => obtain ⟨vs, n, e, h⟩ := h; exact ⟨vs, n, e, h.mono⟩
 | tup xs => obtain ⟨vs, n, e, h⟩ := h; exact ⟨vs, n, e, h.mono⟩
 | dict es ep => obtain ⟨kvs, e, h, q⟩ := h; exact ⟨kvs, e, h.mono, q⟩
 | dvals l => obtain ⟨a, e, h⟩ := h; exact ⟨a, cr e, h⟩
 | range a b c => exact h
 | set xs => exact h
 | inst c d sl => obtain ⟨dx, sx, e, h, q⟩ := h; exact ⟨dx, sx, cr e, h, q.mono⟩
 | idict fs => obtain ⟨es, n, e, h⟩ := h; exact ⟨es, n, e, h.mono⟩
 | liter l i => obtain ⟨a, e, h⟩ := h; exact ⟨a, cr e, h⟩
 | mnext l => obtain ⟨a, e, h⟩ := h; exact ⟨a, cr e, h⟩
 | exc c t => obtain ⟨a, vs, h1, h2, h3⟩ := h; exact ⟨a, vs, h1.mono, cr h2, h3⟩
 | dead => exact h
end
structure Cx where
 A : Around
 env : Env
 fenv : Env
 outer : List Env
 vars : List (Str × Nat)
 cells : List (Str × Nat × Addr)
 k : Nat
structure Cx.Ok (C : Cx) : Prop where
 fr : C.A.frames = some (C.fenv :: C.outer)
 kind : C.env.scope.kind = .function
 glob : C.env.globals = mainGlobals
 bltn : C.env.builtins = builtinsNs
 frame : C.env.frame = C.fenv.frame
 loc : ∀ p ∈ C.vars, C.env.kindOf p.1 = some .local
 cel : ∀ p ∈ C.cells, (C.env.kindOf p.1 = some .cell ∨ C.env.kindOf p.1 = some .free) ∧ C.env.cells.lookup p.1 = some p.2.2
 depth : C.A.depth + C.k < recursionLimit
 units : C.A.units + 8 * C.k + 100 < cLine
 uni : ∀ p ∈ C.vars, ∀ q ∈ C.vars, (p.1 = q.1 ↔ p.2 = q.2)
 unc : ∀ p ∈ C.cells, ∀ q ∈ C.cells, (p.2.2 = q.2.2 ↔ p.2.1 = q.2.1)
 dis : ∀ p ∈ C.vars, ∀ q ∈ C.cells, p.2 ≠ q.2.1
noncomputable def Cx.idx (C : Cx) : List Nat := C.vars.map (·.2) ++ C.cells.map (·.2.1)
inductive FrS (base h : Heap) (e : Env) : Prop
 | mk (k : e.scope.kind ≠ .module) (L : Addr) (o : Obj) (es : Array DictEntry) (n : Nat) (h1 : e.frame = some L) (h2 : base.get? L = none) (h3 : h.get? L = some o) (h4 : o.data = .dict es n)
noncomputable def zZ (base h : Heap) (l : List Env) : Prop := ∀ e ∈ l, FrS base h e
structure yK (ac : Heap) (mg mb : Str → Option Value) : Prop where
 g : ac.Ns mainGlobals mg
 b : ac.Ns builtinsNs mb
 nolimit : ac.NoLimit
 builtins : ∀ x : Str, x ≠ "__name__" → mb x = bootBuiltins x
noncomputable def zU (C : Cx) (ρ : List Addr) (a : Addr) : Prop := a ∈ ρ ∨ a = C.env.locals ∨ ∃ p ∈ C.cells, p.2.2 = a
inductive ObR (prog : Program) (w : World) (ρ : List Addr) (o : O) (h : Heap) (a : Addr) : Prop
 | mk (ob : Obj) (h1 : h.get? a = some ob) (h2 : zX prog w ρ o ob)
inductive wS (ac : Heap) (L : Addr) (ρ : List Addr) (v : Option V) (h : Heap) (a : Addr) : Prop
 | mk (h1 : ac.get? a = none) (h2 : a ∉ ρ) (h3 : a ≠ L) (x : Option Value) (h4 : h.IsCell a x) (h5 : zQ ρ v x)
inductive NsR (L : Addr) (vars : List (Str × Nat)) (ρ : List Addr) (loc : List (Option V)) (h : Heap) : Prop
 | mk (m : Str → Option Value) (h1 : h.Ns L m) (h2 : ∀ p ∈ vars, zQ ρ (loc[p.2]?).join (m p.1))
theorem wS.n {ac : Heap} {L : Addr} {ρ : List Addr} {v : Option V} {h : Heap} {a : Addr} : wS ac L ρ v h a → a ∉ ρ
 | .mk _ h _ _ _ _ => h
theorem wS.l {ac : Heap} {L : Addr} {ρ : List Addr} {v : Option V} {h : Heap} {a : Addr} : wS ac L ρ v h a → a ≠ L
 | .mk _ _ h _ _ _ => h
theorem wS.of {ac : Heap} {L : Addr} {ρ : List Addr} {v : Option V} {h : Heap} {a : Addr} (h1 : ac.get? a = none) (h2 : a ∉ ρ) (h3 : a ≠ L) : (∃ x, h.IsCell a x ∧ zQ ρ v x) → wS ac L ρ v h a
 | ⟨x, h4, h5⟩ => ⟨h1, h2, h3, x, h4, h5⟩
structure eh (prog : Program) (w : World) (ac : Heap) (ρ : List Addr) (H : List O) (s : Shared) : Prop where
 base : ac.StaysIn s.heap
 len : ρ.length = H.length
 obj : ∀ (l : Nat) (o : O) (a : Addr), H[l]? = some o → ρ[l]? = some a → ObR prog w ρ o s.heap a
 nodup : ρ.Nodup
 new : ∀ a ∈ ρ, ac.get? a = none
 sys : ∀ (l : Nat) (es : List (Int × V)) (ep : Nat) (a : Addr), H[l]? = some (.dict es ep) → ρ[l]? = some a → a ≠ sysModules
 main : ∃ o, ac.get? mainGlobals = some o
structure zT (prog : Program) (w : World) (ac : Heap) (C : Cx) (ρ : List Addr) (σ : St) (s : Shared) : Prop where
 hp : eh prog w ac ρ σ.heap s
 ns : NsR C.env.locals C.vars ρ σ.loc s.heap
 lnew : ac.get? C.env.locals = none ∧ C.env.locals ∉ ρ
 cel : ∀ p ∈ C.cells, wS ac C.env.locals ρ (σ.loc[p.2.1]?).join s.heap p.2.2
 frs : zZ ac s.heap (C.fenv :: C.outer)
 frn : ∀ e ∈ C.fenv :: C.outer, ∀ L, e.frame = some L → L ∉ ρ ∧ ∀ p ∈ C.cells, p.2.2 ≠ L
 locs : ∀ i ∈ C.idx, i < σ.loc.length
noncomputable def iQ (o o' : Obj) : Prop := o' = o ∨ ((∃ es n, o.data = .dict es n) ∧ ∃ sl, o' = { o with slots := sl })
theorem iQ.refl (o : Obj) : iQ o o := .inl rfl
theorem iQ.trans {a b c : Obj} (h : iQ a b) (g : iQ b c) : iQ a c := by
 rcases h with rfl | ⟨h, sl, rfl⟩
 ·exact g
 ·rcases g with rfl | ⟨_, sl', rfl⟩
  ·exact .inr ⟨h, sl, rfl⟩
  ·exact .inr ⟨h, sl', rfl⟩
noncomputable def Pres (own : Addr → Prop) (s s' : Shared) : Prop := ∀ a o, s.heap.get? a = some o → ¬ own a → ∃ o', s'.heap.get? a = some o' ∧ iQ o o'
noncomputable def rV (s s' : Shared) : Prop := s'.gens = s.gens ∧ s'.drawn = s.drawn ∧ s'.os = s.os
theorem rV.refl (s : Shared) : rV s s := ⟨rfl, rfl, rfl⟩
theorem rV.trans {a b c : Shared} (h : rV a b) (g : rV b c) : rV a c := ⟨g.1.trans h.1, g.2.1.trans h.2.1, g.2.2.trans h.2.2⟩
structure Step (prog : Program) (w : World) (ac : Heap) (C : Cx) (ρ : List Addr) (σ : St) (s : Shared) (ρ' : List Addr) (σ' : St) (s' : Shared) : Prop where
 rel : zT prog w ac C ρ' σ' s'
 ext : ∃ more, ρ' = ρ ++ more ∧ ∀ a ∈ more, s.heap.get? a = none
 pres : Pres (zU C ρ) s s'
 loc : ∀ i, i ∉ C.idx → σ'.loc[i]? = σ.loc[i]?
 rest : rV s s'
section
variable {prog : Program} {w : World} {ac : Heap} {C : Cx}
theorem Step.refl {ρ : List Addr} {σ : St} {s : Shared} (r : zT prog w ac C ρ σ s) : Step prog w ac C ρ σ s ρ σ s :=
 ⟨r, ⟨[], by simp, by simp⟩, fun _ o e _ => ⟨o, e, .refl o⟩, fun _ _ => rfl, .refl s⟩
theorem Step.trans {ρ ρ' ρ'' : List Addr} {σ σ' σ'' : St} {s s' s'' : Shared} (a : Step prog w ac C ρ σ s ρ' σ' s') (b : Step prog w ac C ρ' σ' s' ρ'' σ'' s'') : Step prog w ac C ρ σ s ρ'' σ'' s'' := by
 obtain ⟨m1, e1, n1⟩ := a.ext
 obtain ⟨m2, e2, n2⟩ := b.ext
 have alive : ∀ x o, s.heap.get? x = some o → ¬ zU C ρ x → ¬ zU C ρ' x := fun x o hx hn hx' => by
  rcases hx' with h | h
  ·rw [e1, List.mem_append] at h
   rcases h with h | h
   ·exact hn (.inl h)
   ·rw [n1 x h] at hx; cases hx
  ·exact hn (.inr h)
 refine ⟨b.rel, ⟨m1 ++ m2, by rw [e2, e1, List.append_assoc], fun x hx => ?_⟩, fun x o hx hn => ?_, fun i hi => (b.loc i hi).trans (a.loc i hi), a.rest.trans b.rest⟩
 ·rcases List.mem_append.mp hx with h | h
  ·exact n1 x h
  ·cases q : s.heap.get? x with
   | none => rfl
   | some o =>
    exfalso
    by_cases ho : zU C ρ x
    ·-- owned before: it lies in s' too
     rcases ho with h' | h' | ⟨p, hp, h'⟩
     ·have := b.rel.hp.nodup
      rw [e2] at this
      exact (List.nodup_append.mp this).2.2 x (e1 ▸ List.mem_append_left _ h') x h rfl
     ·subst h'
      exact b.rel.lnew.2 (e2 ▸ List.mem_append_right _ h)
     ·exact (b.rel.cel p hp).n (h' ▸ e2 ▸ List.mem_append_right _ h)
    ·obtain ⟨o', q', _⟩ := a.pres x o q ho
     rw [n2 x h] at q'; cases q'
 ·obtain ⟨o', h', e'⟩ := a.pres x o hx hn
  obtain ⟨o'', h'', e''⟩ := b.pres x o' h' (alive x o hx hn)
  exact ⟨o'', h'', e'.trans e''⟩
theorem Step.vr {ρ ρ' : List Addr} {σ σ' : St} {s s' : Shared} (a : Step prog w ac C ρ σ s ρ' σ' s') {v : V} {x : Value} (h : VR ρ v x) : VR ρ' v x := by
 obtain ⟨m, rfl, _⟩ := a.ext; exact h.mono
theorem Step.all {ρ ρ' : List Addr} {σ σ' : St} {s s' : Shared} (a : Step prog w ac C ρ σ s ρ' σ' s') {v : List V} {x : List Value} (h : bL ρ v x) : bL ρ' v x := by
 obtain ⟨m, rfl, _⟩ := a.ext; exact h.mono
inductive TbR (bG : Heap) (own : Addr → Prop) (h : Heap) (a : Addr) (vs : Array Value) : Prop
 | mk (T : Addr) (oT : Obj) (ts : Array Value) (e : vs[1]? = some (.ref T)) (h1 : T ≠ a) (h2 : bG.get? T = none) (h3 : ¬ own T) (h4 : h.get? T = some oT) (h5 : oT.data = .fields ts) (h6 : ts[3]? = some .none)
inductive cH (bG : Heap) (own : Addr → Prop) (ρ : List Addr) (c : V) (args : List V) (e : Value) (h : Heap) : Prop
 | mk (a : Addr) (oe : Obj) (vs : Array Value) (t : Addr) (as : List Value) (n : Nat) (e1 : e = .ref a) (h1 : bG.get? a = none) (h2 : ¬ own a) (h3 : h.get? a = some oe) (h4 : VR ρ c oe.cls) (h5 : oe.data = .fields vs) (h6 : vs[0]? = some (.ref t))
  (g1 : bG.get? t = none) (g2 : ¬ own t) (g3 : h.get? t = some { cls := .type "tuple", data := .seq (List.toArray as) n }) (g4 : bL ρ args as) (tb : vs[1]? = some .none ∨ TbR bG own h a vs)
noncomputable def zW (prog : Program) (w : World) (ac : Heap) (C : Cx) {α β : Type} (R : List Addr → β → α → Prop) (ρ : List Addr) (σ : St) (s : Shared) (o : zV β) (v : α) (s' : Shared) : Prop :=
 match o with
 | .ok b σ' => ∃ ρ', R ρ' b v ∧ Step prog w ac C ρ σ s ρ' σ' s'
 | _ => False
noncomputable def z3 (prog : Program) (w : World) (ac : Heap) (C : Cx) {β : Type} (ρ : List Addr) (σ : St) (s : Shared) (o : zV β) (e : Value) (s' : Shared) : Prop :=
 match o with
 | .exc c args σ' => ∃ ρ', cH s.heap (zU C ρ') ρ' c args e s'.heap ∧ Step prog w ac C ρ σ s ρ' σ' s'
 | _ => False
noncomputable def zS (prog : Program) (w : World) (ac : Heap) (C : Cx) {α β : Type} (R : List Addr → β → α → Prop) (m : St → zV β) (t : Sem α) : Prop := ∀ ρ σ s, zT prog w ac C ρ σ s → m σ ≠ .bad → wpAny (model prog w) C.A t (zW prog w ac C R ρ σ s (m σ)) (z3 prog w ac C ρ σ s (m σ)) s
end
section
variable {prog : Program} {w : World} {ac : Heap} {C : Cx} {ρ ρ' : List Addr} {σ σ' : St} {s s' : Shared} {α β γ δ : Type}
theorem eh.at {H : List O} (r : eh prog w ac ρ H s) {l : Nat} {o : O} (h : H[l]? = some o) : ∃ a ob, ρ[l]? = some a ∧ a ∈ ρ ∧ s.heap.get? a = some ob ∧ zX prog w ρ o ob := by
 obtain ⟨hl, _⟩ := List.getElem?_eq_some_iff.mp h
 have hl' : l < ρ.length := r.len ▸ hl
 have e : ρ[l]? = some ρ[l] := List.getElem?_eq_getElem hl'
 obtain ⟨ob, h1, h2⟩ := r.obj l o _ h e
 exact ⟨ρ[l], ob, e, List.getElem_mem hl', h1, h2⟩
theorem eh.keep {H : List O} (r : eh prog w ac ρ H s) (k : ∀ a o, s.heap.get? a = some o → (ac.get? a ≠ none ∨ a ∈ ρ) → s'.heap.get? a = some o) : eh prog w ac ρ H s' :=
 ⟨fun b o e => k b o (r.base b o e) (.inl (by rw [e]; simp)), r.len, fun l o a h e => by
  obtain ⟨ob, h1, h2⟩ := r.obj l o a h e
  exact ⟨ob, k a ob h1 (.inr (List.mem_of_getElem? e)), h2⟩, r.nodup, r.new, r.sys, r.main⟩
theorem d7 {h h' : Heap} {a : Addr} {m : Str → Option Value} (x : h.Ns a m) (k : ∀ o, h.get? a = some o → ∃ o', h'.get? a = some o' ∧ iQ o o') : h'.Ns a m := by
 obtain ⟨o, es, ep, ho, hd, r⟩ := x
 obtain ⟨o', ho', hs⟩ := k o ho
 refine ⟨o', es, ep, ho', ?_, r⟩
 rcases hs with rfl | ⟨_, sl, rfl⟩ <;> exact hd
theorem dt {h h' : Heap} {l : List Env} (x : zZ ac h l) (k : ∀ e ∈ l, ∀ L, e.frame = some L → ∀ o, h.get? L = some o → ∃ o', h'.get? L = some o' ∧ iQ o o') : zZ ac h' l := by
 intro e he
 obtain ⟨hk, L, o, es, n, hf, hb, ho, hd⟩ := x e he
 obtain ⟨o', ho', hs⟩ := k e he L hf o ho
 refine ⟨hk, L, o', es, n, hf, hb, ho', ?_⟩
 rcases hs with rfl | ⟨_, sl, rfl⟩ <;> assumption
theorem zT.keepUp (r : zT prog w ac C ρ σ s) (k : ∀ a o, s.heap.get? a = some o → ∃ o', s'.heap.get? a = some o' ∧ iQ o o') (kb : ∀ a o, s.heap.get? a = some o → (ac.get? a ≠ none ∨ a ∈ ρ) → s'.heap.get? a = some o)
  (q : rV s s') : Step prog w ac C ρ σ s ρ σ s' := by
 refine ⟨⟨r.hp.keep kb, ?_, r.lnew, fun p hp => ?_, dt r.frs fun e _ L _ o ho => k L o ho, r.frn, r.locs⟩, ⟨[], by simp, by simp⟩, fun a o e _ => k a o e, fun _ _ => rfl, q⟩
 ·obtain ⟨m, hm, hv⟩ := r.ns
  exact ⟨m, d7 hm fun o ho => k _ o ho, hv⟩
 ·obtain ⟨h1, h2, h3, v, h4, h5⟩ := r.cel p hp
  obtain ⟨o, ho, hd⟩ := h4
  obtain ⟨o', e', hs⟩ := k _ _ ho
  refine ⟨h1, h2, h3, v, ⟨o', e', ?_⟩, h5⟩
  rcases hs with rfl | ⟨hc, sl, rfl⟩ <;> exact hd
theorem zT.keep (r : zT prog w ac C ρ σ s) (k : ∀ a o, s.heap.get? a = some o → s'.heap.get? a = some o) (q : rV s s') : Step prog w ac C ρ σ s ρ σ s' :=
 r.keepUp (fun a o e => ⟨o, k a o e, .refl o⟩) (fun a o e _ => k a o e) q
theorem zT.toks (r : zT prog w ac C ρ σ s) (t : Nat) : Step prog w ac C ρ σ s ρ σ { s with toks := t } := r.keep (fun _ _ e => e) ⟨rfl, rfl, rfl⟩
theorem zT.grow (r : zT prog w ac C ρ σ s) (ob : Obj) (t : Nat) : Step prog w ac C ρ σ s ρ σ { s with heap := s.heap.push ob, toks := t } := r.keep (fun _ _ e => Heap.get?_push_of_some _ e) ⟨rfl, rfl, rfl⟩
theorem eh.fresh {H : List O} (r : eh prog w ac ρ H s) : s.heap.objs.size ∉ ρ := fun hm => by
 obtain ⟨l, hl, e⟩ := List.mem_iff_getElem.mp hm
 have e' : ρ[l]? = some s.heap.objs.size := by rw [List.getElem?_eq_getElem hl, e]
 have hl2 : l < H.length := r.len ▸ hl
 obtain ⟨ob, h1, _⟩ := r.obj l _ _ (List.getElem?_eq_getElem hl2) e'
 exact Nat.lt_irrefl _ (Heap.lt_size h1)
theorem eh.notSys {H : List O} (r : eh prog w ac ρ H s) : s.heap.objs.size ≠ sysModules := by
 obtain ⟨o, ho⟩ := r.main
 have h3 : 3 < s.heap.objs.size := Heap.lt_size (r.base _ _ ho)
 exact Nat.ne_of_gt (Nat.lt_trans (by decide : 1 < 3) h3)
theorem eh.alloc {H : List O} (r : eh prog w ac ρ H s) {o : O} {ob : Obj} {t : Nat} (hf : ob.isFreed = false) (ho : zX prog w (ρ ++ [s.heap.objs.size]) o ob) :
  eh prog w ac (ρ ++ [s.heap.objs.size]) (H ++ [o]) { s with heap := s.heap.push ob, toks := t } := by
 refine ⟨fun b o e => Heap.get?_push_of_some _ (r.base b o e), by simp [r.len], fun l o' a h e => ?_, ?_, fun a ha => ?_, ?_, r.main⟩
 ·by_cases hl : l < ρ.length
  ·rw [List.getElem?_append_left hl] at e
   rw [List.getElem?_append_left (r.len ▸ hl)] at h
   obtain ⟨ob', h1, h2⟩ := r.obj l o' a h e
   exact ⟨ob', Heap.get?_push_of_some _ h1, h2.mono⟩
  ·have hl' : l = ρ.length := by
    have := (List.getElem?_eq_some_iff.mp e).1
    simp at this; lia
   subst hl'
   rw [List.getElem?_append_right (Nat.le_refl _)] at e
   rw [r.len, List.getElem?_append_right (Nat.le_refl _)] at h
   simp at e h
   subst e h
   exact ⟨ob, Heap.get?_push_size _ hf, ho⟩
 ·exact List.nodup_append.mpr ⟨r.nodup, by simp, fun a ha b hb => by simp at hb; subst hb; intro e; subst e; exact r.fresh ha⟩
 ·rcases List.mem_append.mp ha with h | h
  ·exact r.new a h
  ·simp at h; subst h; exact r.base.fresh
 ·intro l es ep a h e
  by_cases hl : l < ρ.length
  ·rw [List.getElem?_append_left hl] at e
   rw [List.getElem?_append_left (r.len ▸ hl)] at h
   exact r.sys l es ep a h e
  ·have hl' : l = ρ.length := by
    have := (List.getElem?_eq_some_iff.mp e).1
    simp at this; lia
   subst hl'
   rw [List.getElem?_append_right (Nat.le_refl _)] at e
   simp at e
   subst e
   exact r.notSys
theorem zT.alloc (r : zT prog w ac C ρ σ s) {o : O} {ob : Obj} {t : Nat} (hf : ob.isFreed = false) (ho : zX prog w (ρ ++ [s.heap.objs.size]) o ob) :
  Step prog w ac C ρ σ s (ρ ++ [s.heap.objs.size]) { σ with heap := σ.heap ++ [o] } { s with heap := s.heap.push ob, toks := t } := by
 have kp : ∀ a o, s.heap.get? a = some o → (s.heap.push ob).get? a = some o := fun _ _ e => Heap.get?_push_of_some _ e
 have ne : ∀ {a : Addr} {o : Obj}, s.heap.get? a = some o → a ≠ s.heap.objs.size := fun e => Nat.ne_of_lt (Heap.lt_size e)
 refine ⟨⟨r.hp.alloc hf ho, ?_, ⟨r.lnew.1, ?_⟩, fun p hp => ?_, dt r.frs fun _ _ L _ o e => ⟨o, kp L o e, .refl o⟩, fun e he L hL => ⟨?_, (r.frn e he L hL).2⟩, r.locs⟩, ⟨[s.heap.objs.size], rfl, fun a ha => ?_⟩, fun a o e _ => ⟨o, kp a o e, .refl o⟩, fun _ _ => rfl, ⟨rfl, rfl, rfl⟩⟩
 ·obtain ⟨m, hm, hv⟩ := r.ns
  exact ⟨m, hm.keeps kp, fun p hp => (hv p hp).mono⟩
 ·obtain ⟨m, hm, hv⟩ := r.ns
  intro h
  rcases List.mem_append.mp h with h | h
  ·exact r.lnew.2 h
  ·simp at h; exact Nat.lt_irrefl _ (h ▸ hm.lt)
 ·obtain ⟨g1, g2, g3, v, g4, g5⟩ := r.cel p hp
  refine ⟨g1, fun h => ?_, g3, v, g4.keeps kp, g5.mono⟩
  rcases List.mem_append.mp h with h | h
  ·exact g2 h
  ·obtain ⟨o, ho, _⟩ := g4
   simp at h; exact ne ho h
 ·obtain ⟨_, L', o, es, n, hf', _, ho', _⟩ := r.frs e he
  rw [hL] at hf'; cases hf'
  intro h
  rcases List.mem_append.mp h with h | h
  ·exact (r.frn e he L hL).1 h
  ·simp at h; exact ne ho' h
 ·simp at ha; subst ha; exact Heap.get?_none_of_le (Nat.le_refl _)
theorem iv {l : List Addr} (h : l.Nodup) {i j : Nat} {a : Addr} (hi : l[i]? = some a) (hj : l[j]? = some a) : i = j := by
 obtain ⟨hi', ei⟩ := List.getElem?_eq_some_iff.mp hi
 obtain ⟨hj', ej⟩ := List.getElem?_eq_some_iff.mp hj
 have hp := List.pairwise_iff_getElem.mp h
 rcases Nat.lt_trichotomy i j with q | q | q
 ·exact absurd (ei.trans ej.symm) (hp i j hi' hj' q)
 ·exact q
 ·exact absurd (ej.trans ei.symm) (hp j i hj' hi' q)
theorem eh.upd {H : List O} (r : eh prog w ac ρ H s) {l : Nat} {a : Addr} {o : O} {ob : Obj} {h' : Heap} {t : Nat} (hl : ρ[l]? = some a) (hs : Heap.SameBut a s.heap h') (hg : h'.get? a = some ob) (ho : zX prog w ρ o ob) (hsy : ∀ es ep, o = .dict es ep → a ≠ sysModules := by nofun) :
  eh prog w ac ρ (H.set l o) { s with heap := h', toks := t } := by
 have ha : ac.get? a = none := (r.new a (List.mem_of_getElem? hl))
 refine ⟨fun b o' e => (hs.2 b (by rintro rfl; rw [ha] at e; cases e)).trans (r.base b o' e), by simp [r.len], fun j o' b h e => ?_, r.nodup, r.new, fun j es ep b h e => ?_, r.main⟩
 rotate_left
 ·by_cases hj : l = j
  ·subst hj
   rw [hl] at e; cases e
   rw [List.getElem?_set] at h
   simp only [if_true] at h
   split at h
   ·cases h; exact hsy _ _ rfl
   ·cases h
  ·rw [List.getElem?_set_ne hj] at h
   exact r.sys j es ep b h e
 by_cases hj : l = j
 ·subst hj
  rw [hl] at e; cases e
  rw [List.getElem?_set] at h
  simp only [if_true] at h
  split at h
  ·cases h; exact ⟨ob, hg, ho⟩
  ·cases h
 ·rw [List.getElem?_set_ne hj] at h
  obtain ⟨ob', h1, h2⟩ := r.obj j o' b h e
  have hne : b ≠ a := fun q => hj (iv r.nodup hl (q ▸ e))
  exact ⟨ob', (hs.2 b hne).trans h1, h2⟩
theorem zT.upd (r : zT prog w ac C ρ σ s) {l : Nat} {a : Addr} {o : O} {ob : Obj} {h' : Heap} {t : Nat} (hl : ρ[l]? = some a) (hs : Heap.SameBut a s.heap h') (hg : h'.get? a = some ob) (ho : zX prog w ρ o ob) (hsy : ∀ es ep, o = .dict es ep → a ≠ sysModules := by nofun) :
  Step prog w ac C ρ σ s ρ { σ with heap := σ.heap.set l o } { s with heap := h', toks := t } := by
 have hm := List.mem_of_getElem? hl
 have ot : ∀ {b : Addr}, b ∉ ρ → h'.get? b = s.heap.get? b := fun {b} hb => hs.2 b (by rintro rfl; exact hb hm)
 refine ⟨⟨r.hp.upd hl hs hg ho hsy, ?_, r.lnew, fun p hp => ?_, dt r.frs fun e he L hL o e' => ⟨o, (ot (r.frn e he L hL).1).trans e', .refl o⟩, r.frn, r.locs⟩, ⟨[], by simp, by simp⟩, fun b o' e hb => ⟨o', (ot fun h => hb (.inl h)).trans e, .refl o'⟩, fun _ _ => rfl, ⟨rfl, rfl, rfl⟩⟩
 ·obtain ⟨m, hm', hv⟩ := r.ns
  exact ⟨m, d7 hm' fun o e => ⟨o, (ot r.lnew.2).trans e, .refl o⟩, hv⟩
 ·obtain ⟨g1, g2, g3, v, g4, g5⟩ := r.cel p hp
  obtain ⟨o, ho, hd⟩ := g4
  exact ⟨g1, g2, g3, v, ⟨o, (ot g2).trans ho, hd⟩, g5⟩
theorem ib {l : List (Option V)} {i j : Nat} {v : V} (h : i < l.length) : ((l.set i (some v))[j]?).join = if i = j then some v else (l[j]?).join := by
 rw [List.getElem?_set]
 by_cases e : i = j
 ·subst e; simp [h]
 ·simp [e]
theorem zT.store (ok : C.Ok) (r : zT prog w ac C ρ σ s) {x : Str} {i : Nat} {v : V} {v' : Value} {m : Str → Option Value} {h' : Heap} {t : Nat} (hx : (x, i) ∈ C.vars) (hv : VR ρ v v') (hm : s.heap.Ns C.env.locals m) (hvs : ∀ p ∈ C.vars, zQ ρ (σ.loc[p.2]?).join (m p.1))
  (hn : h'.Ns C.env.locals (fun y => if y = x then some v' else m y)) (hs : Heap.SameBut C.env.locals s.heap h') :
  Step prog w ac C ρ σ s ρ { σ with loc := σ.loc.set i (some v) } { s with heap := h', toks := t } := by
 have hi : i ∈ C.idx := by unfold Cx.idx; exact List.mem_append_left _ (List.mem_map.mpr ⟨_, hx, rfl⟩)
 have hil := r.locs i hi
 have ot : ∀ {b : Addr}, b ≠ C.env.locals → h'.get? b = s.heap.get? b := fun hb => hs.2 _ hb
 have fr : ∀ e ∈ C.fenv :: C.outer, ∀ L, e.frame = some L → L ≠ C.env.locals → h'.get? L = s.heap.get? L := fun _ _ L _ hL => ot hL
 refine ⟨⟨⟨fun b o e => (ot (by rintro rfl; rw [r.lnew.1] at e; cases e)).trans (r.hp.base b o e), r.hp.len, fun l o a h e => ?_, r.hp.nodup, r.hp.new, r.hp.sys, r.hp.main⟩, ⟨_, hn, fun p hp => ?_⟩, r.lnew, fun p hp => ?_, ?_, r.frn, fun j hj => by simpa using r.locs j hj⟩,
  ⟨[], by simp, by simp⟩, fun b o e hb => ⟨o, (ot fun q => hb (.inr (.inl q))).trans e, .refl o⟩, fun j hj => ?_, ⟨rfl, rfl, rfl⟩⟩
 ·obtain ⟨ob, h1, h2⟩ := r.hp.obj l o a h e
  exact ⟨ob, (ot (by rintro rfl; exact r.lnew.2 (List.mem_of_getElem? e))).trans h1, h2⟩
 ·have := hvs p hp
  have hu := ok.uni (x, i) hx p hp
  dsimp only at hu ⊢
  rw [ib hil]
  by_cases e : i = p.2
  ·rw [if_pos e, if_pos (hu.mpr e).symm]
   exact ⟨v', rfl, hv⟩
  ·rw [if_neg e, if_neg fun q => e (hu.mp q.symm)]
   exact this
 ·obtain ⟨g1, g2, g3, v0, ⟨o, ho, hd⟩, g5⟩ := r.cel p hp
  refine ⟨g1, g2, g3, v0, ⟨o, (ot g3).trans ho, hd⟩, ?_⟩
  dsimp only
  rw [ib hil, if_neg (ok.dis (x, i) hx p hp)]
  exact g5
 ·intro e he
  obtain ⟨hk, L, o, es, n, hf, hb, ho, hd⟩ := r.frs e he
  by_cases hL : L = C.env.locals
  ·subst hL
   obtain ⟨o', es', ep', ho', hd', _⟩ := hn
   exact ⟨hk, _, o', es', ep', hf, hb, ho', hd'⟩
  ·exact ⟨hk, L, o, es, n, hf, hb, (ot hL).trans ho, hd⟩
 ·dsimp only
  rw [List.getElem?_set_ne]
  rintro rfl; exact hj hi
theorem zT.storeCell (ok : C.Ok) (r : zT prog w ac C ρ σ s) {x : Str} {i : Nat} {a : Addr} {v : V} {v' : Value} {h' : Heap} {t : Nat} (hx : (x, i, a) ∈ C.cells) (hv : VR ρ v v')
  (hn : h'.IsCell a (some v')) (hs : Heap.SameBut a s.heap h') :
  Step prog w ac C ρ σ s ρ { σ with loc := σ.loc.set i (some v) } { s with heap := h', toks := t } := by
 have hi : i ∈ C.idx := by unfold Cx.idx; exact List.mem_append_right _ (List.mem_map.mpr ⟨_, hx, rfl⟩)
 have hil := r.locs i hi
 obtain ⟨a1, a2, a3, _, _, _⟩ := r.cel _ hx
 dsimp only at a1 a2 a3
 have ot : ∀ {b : Addr}, b ≠ a → h'.get? b = s.heap.get? b := fun hb => hs.2 _ hb
 refine ⟨⟨⟨fun b o e => (ot (by rintro rfl; rw [a1] at e; cases e)).trans (r.hp.base b o e), r.hp.len, fun l o b h e => ?_, r.hp.nodup, r.hp.new, r.hp.sys, r.hp.main⟩, ?_, r.lnew, fun p hp => ?_, ?_, r.frn, fun j hj => by simpa using r.locs j hj⟩,
  ⟨[], by simp, by simp⟩, fun b o e hb => ⟨o, (ot fun q => hb (.inr (.inr ⟨_, hx, q.symm⟩))).trans e, .refl o⟩, fun j hj => ?_, ⟨rfl, rfl, rfl⟩⟩
 ·obtain ⟨ob, h1, h2⟩ := r.hp.obj l o b h e
  exact ⟨ob, (ot (by rintro rfl; exact a2 (List.mem_of_getElem? e))).trans h1, h2⟩
 ·obtain ⟨m, hm, hvs⟩ := r.ns
  refine ⟨m, d7 hm fun o e => ⟨o, (ot (Ne.symm a3)).trans e, .refl o⟩, fun p hp => ?_⟩
  dsimp only
  rw [ib hil, if_neg (Ne.symm (ok.dis p hp _ hx))]
  exact hvs p hp
 ·obtain ⟨g1, g2, g3, v0, ⟨o, ho, hd⟩, g5⟩ := r.cel p hp
  have hu := ok.unc _ hx p hp
  dsimp only at hu ⊢
  by_cases e : a = p.2.2
  ·refine ⟨g1, g2, g3, some v', e ▸ hn, ?_⟩
   rw [ib hil, if_pos (hu.mp e)]
   exact ⟨v', rfl, hv⟩
  ·refine ⟨g1, g2, g3, v0, ⟨o, (ot (Ne.symm e)).trans ho, hd⟩, ?_⟩
   rw [ib hil, if_neg fun q => e (hu.mpr q)]
   exact g5
 ·exact dt r.frs fun e he L hL o e' => ⟨o, (ot (Ne.symm ((r.frn e he L hL).2 _ hx))).trans e', .refl o⟩
 ·dsimp only
  rw [List.getElem?_set_ne]
  rintro rfl; exact hj hi
noncomputable abbrev At (prog : Program) (w : World) (ac : Heap) (C : Cx) (R : List Addr → β → α → Prop) (ρ : List Addr) (σ : St) (s : Shared) (o : zV β) (t : Sem α) : Prop := o ≠ .bad → wpAny (model prog w) C.A t (zW prog w ac C R ρ σ s o) (z3 prog w ac C ρ σ s o) s
theorem zW.trans {R : List Addr → β → α → Prop} {o : zV β} {v : α} {s'' : Shared} (st : Step prog w ac C ρ σ s ρ' σ' s') (h : zW prog w ac C R ρ' σ' s' o v s'') : zW prog w ac C R ρ σ s o v s'' := by
 cases o with
 | ok b σ'' => obtain ⟨ρ'', hr, st'⟩ := h; exact ⟨ρ'', hr, st.trans st'⟩
 | exc => exact h
 | bad => exact h
theorem bo (r : zT prog w ac C ρ σ s) : ∀ a, zU C ρ a → s.heap.get? a ≠ none := by
 rintro a (h | h | ⟨p, hp, h⟩)
 ·obtain ⟨l, hl, e⟩ := List.mem_iff_getElem.mp h
  have e' : ρ[l]? = some a := by rw [List.getElem?_eq_getElem hl, e]
  have hl2 : l < σ.heap.length := r.hp.len ▸ hl
  obtain ⟨ob, h1, _⟩ := r.hp.obj l _ _ (List.getElem?_eq_getElem hl2) e'
  rw [h1]; simp
 ·subst h
  obtain ⟨m, ⟨o, _, _, ho, _⟩, _⟩ := r.ns
  rw [ho]; simp
 ·subst h
  obtain ⟨_, _, _, v, ⟨o, ho, _⟩, _⟩ := r.cel p hp
  rw [ho]; simp
theorem Step.live (st : Step prog w ac C ρ σ s ρ' σ' s') {a : Addr} (h : s.heap.get? a ≠ none) : s'.heap.get? a ≠ none := by
 obtain ⟨o, ho⟩ := Option.ne_none_iff_exists'.mp h
 by_cases hw : zU C ρ a
 ·obtain ⟨m, e, _⟩ := st.ext
  refine bo st.rel a ?_
  rcases hw with q | q
  ·exact .inl (e ▸ List.mem_append_left _ q)
  ·exact .inr q
 ·obtain ⟨o', ho', _⟩ := st.pres a o ho hw
  rw [ho']; simp
noncomputable abbrev wO (o : Obj) : Prop := (∃ vs, o.data = .fields vs) ∨ ∃ vs n, o.data = .seq vs n
theorem cH.map {bG lj h h' : Heap} {own own' : Addr → Prop} {c : V} {args : List V} {e : Value} (f : cH lj own' ρ c args e h) (kc : ∀ x, VR ρ c x → VR ρ' c x) (ka : ∀ xs, bL ρ args xs → bL ρ' args xs)
  (k : ∀ a o, lj.get? a = none → ¬ own' a → h.get? a = some o → wO o → bG.get? a = none ∧ ¬ own a ∧ h'.get? a = some o) : cH bG own ρ' c args e h' := by
 obtain ⟨a, oe, vs, t, as, n, e1, ha, hao, hoe, hc, hd, h0, ht, hto, htt, has, hv1⟩ := f
 have ka1 := k a oe ha hao hoe (.inl ⟨_, hd⟩)
 have kt := k t _ ht hto htt (.inr ⟨_, _, rfl⟩)
 refine ⟨a, oe, vs, t, as, n, e1, ka1.1, ka1.2.1, ka1.2.2, kc _ hc, hd, h0, kt.1, kt.2.1, kt.2.2, ka _ has, hv1.imp_right ?_⟩
 intro ⟨T, oT, ts, h1, h2, h3, h4, h5, h6, h7⟩
 have kT := k T oT h3 h4 h5 (.inl ⟨_, h6⟩)
 exact ⟨T, oT, ts, h1, h2, kT.1, kT.2.1, kT.2.2, h6, h7⟩
theorem cH.before {bG lj h : Heap} {own : Addr → Prop} {c : V} {args : List V} {e : Value} (f : cH lj own ρ c args e h) (k : ∀ a, bG.get? a ≠ none → lj.get? a ≠ none) : cH bG own ρ c args e h :=
 f.map (fun _ h => h) (fun _ h => h) fun a _ h1 h2 h3 _ => ⟨Classical.byContradiction fun q => k a q h1, h2, h3⟩
theorem z3.trans {o : zV β} {e : Value} {s'' : Shared} (st : Step prog w ac C ρ σ s ρ' σ' s') (h : z3 prog w ac C ρ' σ' s' o e s'') : z3 prog w ac C ρ σ s o e s'' := by
 cases o with
 | exc c as σ'' => obtain ⟨ρ'', hr, st'⟩ := h; exact ⟨ρ'', hr.before fun _ => st.live, st.trans st'⟩
 | ok => exact h
 | bad => exact h
theorem At.trans {R : List Addr → β → α → Prop} {o : zV β} {t : Sem α} (st : Step prog w ac C ρ σ s ρ' σ' s') (h : At prog w ac C R ρ' σ' s' o t) (hb : o ≠ .bad) :
  wpAny (model prog w) C.A t (zW prog w ac C R ρ σ s o) (z3 prog w ac C ρ σ s o) s' := wpAny_mono (h hb) (fun _ _ => zW.trans st) (fun _ _ => z3.trans st)
theorem At.next {R : List Addr → β → α → Prop} {m : zV β} {t : Sem α} {f : β → St → zV γ} {Q : α → Shared → Prop} {v : zV γ} (h : At prog w ac C R ρ σ s m t) (e : v = m.bind f) (hb : v ≠ .bad)
  (k : ∀ b ae aw az a, m = .ok b ae → R aw b a → Step prog w ac C ρ σ s aw ae az → v = f b ae → Q a az) :
  wpAny (model prog w) C.A t Q (z3 prog w ac C ρ σ s v) s := by
 subst e
 refine wpAny_mono (h fun q => hb (by rw [q]; rfl)) (fun a az ac => ?_) fun e az ac => ?_
 ·cases m with
  | ok b ae => obtain ⟨aw, hr, st⟩ := ac; exact k b ae aw az a rfl hr st rfl
  | exc => exact ac.elim
  | bad => exact ac.elim
 ·cases m with
  | exc c as ae => exact ac
  | ok => exact ac.elim
  | bad => exact ac.elim
theorem zu {R : List Addr → β → α → Prop} {b : β} {v : α} (hr : R ρ' b v) (st : Step prog w ac C ρ σ s ρ' σ' s') : zW prog w ac C R ρ σ s (.ok b σ') v s' := ⟨ρ', hr, st⟩
theorem zS.at {R : List Addr → β → α → Prop} {m : St → zV β} {t : Sem α} (h : zS prog w ac C R m t) (r : zT prog w ac C ρ σ s) : At prog w ac C R ρ σ s (m σ) t := h ρ σ s r
end
noncomputable abbrev bi (prog : Program) (w : World) (ac : Heap) (C : Cx) (m : St → zV V) (t : Sem Value) : Prop := zS prog w ac C VR m t
noncomputable def t6 (prog : Program) (w : World) (ac : Heap) (C : Cx) {α β : Type} (R : List Addr → β → α → Prop) (f : V → St → zV β) (t : Value → Sem α) : Prop := ∀ ρ σ s a a', zT prog w ac C ρ σ s → VR ρ a a' → At prog w ac C R ρ σ s (f a σ) (t a')
noncomputable def yL (prog : Program) (w : World) (ac : Heap) (C : Cx) {α β : Type} (R : List Addr → β → α → Prop) (f : V → V → St → zV β) (t : Value → Value → Sem α) : Prop := ∀ ρ σ s a a' b b', zT prog w ac C ρ σ s → VR ρ a a' → VR ρ b b' → At prog w ac C R ρ σ s (f a b σ) (t a' b')
noncomputable def gK : List Addr → Bool → Bool → Prop := fun _ b c => c = b
noncomputable def fX : List Addr → Unit → Unit → Prop := fun _ _ _ => True
section
variable {prog : Program} {w : World} {ac : Heap} {C : Cx}
noncomputable def ai (i : Nat) : St → zV V := fun σ => match (σ.loc[i]?).join with
 | some v => .ok v σ
 | none => .bad
theorem u0 (ok : C.Ok) {x : Str} {i : Nat} {pos : Pos} (hx : (x, i) ∈ C.vars) (hd : (x == ("__debug__" : Str)) = false) : bi prog w ac C (ai i) (eval (.Name x pos) C.env) := by
 intro ρ σ s r hb
 obtain ⟨m, hm, hv⟩ := r.ns
 have hvx := hv (x, i) hx
 unfold ai at hb ⊢
 cases q : (σ.loc[i]?).join with
 | none => rw [q] at hb; exact absurd rfl hb
 | some v =>
  simp only [q] at hvx hb ⊢
  obtain ⟨y, e, hy⟩ := hvx
  exact wpAny_Name (wpAny_loadName_local ok.kind (ok.loc _ hx) hm e (zu hy (.refl r))) hd
theorem ss (ok : C.Ok) {x : Str} {i : Nat} {a : Addr} {pos : Pos} (hx : (x, i, a) ∈ C.cells) (hd : (x == ("__debug__" : Str)) = false) (hq : (x == ("__classdict__" : Str)) = false) : bi prog w ac C (ai i) (eval (.Name x pos) C.env) := by
 intro ρ σ s r hb
 obtain ⟨_, _, _, v, hc, hv⟩ := r.cel _ hx
 unfold ai at hb ⊢
 cases q : (σ.loc[i]?).join with
 | none => rw [q] at hb; exact absurd rfl hb
 | some v' =>
  simp only [q] at hv hb ⊢
  obtain ⟨y, e, hy⟩ := hv
  subst e
  obtain ⟨hk, hl⟩ := ok.cel _ hx
  have ic : s.heap.IsCell a (some y) := hc
  rcases hk with hk | hk
  ·exact wpAny_Name (wpAny_loadName_cell ok.kind hk hl ic (zu hy (.refl r))) hd
  ·exact wpAny_Name (wpAny_loadName_free ok.kind hk hl ic (zu hy (.refl r)) hq) hd
end
section
variable {α β γ : Type}
noncomputable def gc (vs : List V) (k : V → List V → zV β) : zV β := match vs with
 | a :: as => k a as
 | [] => .bad
noncomputable def g0 (vs : List V) (k : zV β) : zV β := match vs with
 | [] => k
 | _ => .bad
noncomputable def g1 (vs : List V) (k : V → zV β) : zV β := gc vs fun a as => g0 as (k a)
noncomputable def g2 (vs : List V) (k : V → V → zV β) : zV β := gc vs fun a as => g1 as (k a)
noncomputable def gO (o : Option γ) (k : γ → zV β) : zV β := match o with
 | some x => k x
 | none => .bad
noncomputable def zL (v : V) : Option (Int) := match v with | .int i => some i | _ => none
noncomputable def zI (v : V) : Option (Str) := match v with | .str x => some x | _ => none
noncomputable def asB (v : V) : Option (Bool) := match v with | .bool b => some b | _ => none
noncomputable def asY (v : V) : Option (Array UInt8) := match v with | .bytes b => some b | _ => none
noncomputable def asT (v : V) : Option (String) := match v with | .type n => some n | _ => none
noncomputable def zJ (v : V) : Option (Nat) := match v with | .ref l => some l | _ => none
noncomputable def zK (o : O) : Option (List V) := match o with | .list xs => some xs | _ => none
noncomputable def zH (o : O) : Option (List V) := match o with | .tup xs => some xs | _ => none
noncomputable def zN (o : O) : Option (List (Int × V) × Nat) := match o with | .dict es ep => some (es, ep) | _ => none
noncomputable def zM (o : O) : Option (List Int) := match o with | .set xs => some xs | _ => none
theorem bS {X Y : Type} {f : X → Option Y} {g : Y → X} (h : ∀ v, f v = none ∨ (f v).map g = some v) {v : X} {i : Y} (e : f v = some i) : v = g i := by
 rcases h v with q | q <;> rw [e] at q
 ·exact absurd q (Option.some_ne_none i)
 ·exact (Option.some.inj q).symm
theorem uJ (v : V) : zL v = none ∨ (zL v).map .int = some v := by cases v <;> first | exact .inl rfl | exact .inr rfl
theorem lG (v : V) : zI v = none ∨ (zI v).map .str = some v := by cases v <;> first | exact .inl rfl | exact .inr rfl
theorem yG (v : V) : asB v = none ∨ (asB v).map .bool = some v := by cases v <;> first | exact .inl rfl | exact .inr rfl
theorem yC (v : V) : asY v = none ∨ (asY v).map .bytes = some v := by cases v <;> first | exact .inl rfl | exact .inr rfl
theorem yE (v : V) : asT v = none ∨ (asT v).map .type = some v := by cases v <;> first | exact .inl rfl | exact .inr rfl
theorem iL (v : V) : zJ v = none ∨ (zJ v).map .ref = some v := by cases v <;> first | exact .inl rfl | exact .inr rfl
theorem jr (o : O) : zK o = none ∨ (zK o).map .list = some o := by cases o <;> first | exact .inl rfl | exact .inr rfl
theorem om (o : O) : zH o = none ∨ (zH o).map .tup = some o := by cases o <;> first | exact .inl rfl | exact .inr rfl
theorem rJ (o : O) : zN o = none ∨ (zN o).map (fun p => .dict p.1 p.2) = some o := by cases o <;> first | exact .inl rfl | exact .inr rfl
theorem uL (o : O) : zM o = none ∨ (zM o).map .set = some o := by cases o <;> first | exact .inl rfl | exact .inr rfl
noncomputable def gI (v : V) (k : Int → zV β) : zV β := gO (zL v) k
noncomputable def gS (v : V) (k : Str → zV β) : zV β := gO (zI v) k
noncomputable def gB (v : V) (k : Bool → zV β) : zV β := gO (asB v) k
noncomputable def gY (v : V) (k : Array UInt8 → zV β) : zV β := gO (asY v) k
noncomputable def gT (v : V) (k : String → zV β) : zV β := gO (asT v) k
noncomputable def gh (v : V) (H : List O) (k : Nat → O → zV β) : zV β := gO (zJ v) fun l => gO H[l]? (k l)
noncomputable def gl (v : V) (H : List O) (k : Nat → List V → zV β) : zV β := gh v H fun l o => gO (zK o) (k l)
noncomputable def gt (v : V) (H : List O) (k : Nat → List V → zV β) : zV β := gh v H fun l o => gO (zH o) (k l)
noncomputable def gd (v : V) (H : List O) (k : Nat → List (Int × V) → Nat → zV β) : zV β := gh v H fun l o => gO (zN o) fun p => k l p.1 p.2
noncomputable def ge (v : V) (H : List O) (k : Nat → List Int → zV β) : zV β := gh v H fun l o => gO (zM o) (k l)
noncomputable def zz {X : Type} (f : O → Option X) (v : V) (H : List O) : Bool := (zJ v).any fun l => H[l]?.any fun o => (f o).isSome
theorem ra {X : Type} (f : O → Option X) {v : V} {H : List O} (h : zz f v H = true) : ∃ l o, v = .ref l ∧ H[l]? = some o ∧ ∃ i, f o = some i := by
 obtain ⟨l, hl, h⟩ := Option.any_eq_true .. |>.mp h
 obtain ⟨o, ho, h⟩ := Option.any_eq_true .. |>.mp h
 exact ⟨l, o, bS iL hl, ho, Option.isSome_iff_exists.mp h⟩
noncomputable def aO : V → List O → Bool := zz zK
noncomputable def bQ : V → List O → Bool := zz zN
noncomputable def eu : V → List O → Bool := zz zM
noncomputable def bH (v : V) (_ : List O) : Bool := (zI v).isSome
variable {prog : Program} {w : World} {ac : Heap} {C : Cx} {ρ : List Addr} {σ : St} {s : Shared} {R : List Addr → β → α → Prop} {H : List O} {v : V} {x : Value} {vs : List V} {xs : List Value} {t : Value → Sem α} {u : Sem α}
theorem rI {k : V → List V → zV β} {t : List Value → Sem α} (ha : bL ρ vs xs) (q : ∀ v vs x xs, VR ρ v x → bL ρ vs xs → At prog w ac C R ρ σ s (k v vs) (t (x :: xs))) : At prog w ac C R ρ σ s (gc vs k) (t xs) := by
 cases vs with
 | nil => exact fun h => absurd rfl h
 | cons v vs => obtain ⟨x, xs, rfl, hv, ha⟩ := ha; exact q v vs x xs hv ha
theorem jX {k : zV β} {t : List Value → Sem α} (ha : bL ρ vs xs) (q : At prog w ac C R ρ σ s k (t [])) : At prog w ac C R ρ σ s (g0 vs k) (t xs) := by
 cases vs with
 | nil => cases ha; exact q
 | cons v vs => exact fun h => absurd rfl h
theorem dw {k : V → zV β} {t : List Value → Sem α} (ha : bL ρ vs xs) (q : ∀ v x, VR ρ v x → At prog w ac C R ρ σ s (k v) (t [x])) : At prog w ac C R ρ σ s (g1 vs k) (t xs) :=
 rI ha fun v _ x _ hv ha => jX (t := fun xs => t (x :: xs)) ha (q v x hv)
theorem yy {k : V → V → zV β} {t : List Value → Sem α} (ha : bL ρ vs xs) (q : ∀ v u x y, VR ρ v x → VR ρ u y → At prog w ac C R ρ σ s (k v u) (t [x, y])) : At prog w ac C R ρ σ s (g2 vs k) (t xs) :=
 rI ha fun v _ x _ hv ha => dw (t := fun xs => t (x :: xs)) ha fun u y hu => q v u x y hv hu
theorem bA {o : Option γ} {k : γ → zV β} (q : ∀ y, o = some y → At prog w ac C R ρ σ s (k y) u) : At prog w ac C R ρ σ s (gO o k) u := by
 cases o with
 | some y => exact q y rfl
 | none => exact fun h => absurd rfl h
theorem fe {k : Int → zV β} (hv : VR ρ v x) (q : ∀ i j, At prog w ac C R ρ σ s (k i) (t (.int i j))) : At prog w ac C R ρ σ s (gI v k) (t x) := bA fun i h => by cases bS uJ h; obtain ⟨j, rfl⟩ := hv; exact q i j
theorem dA {k : Str → zV β} (hv : VR ρ v x) (q : ∀ i j, At prog w ac C R ρ σ s (k i) (t (.str i j))) : At prog w ac C R ρ σ s (gS v k) (t x) := bA fun i h => by cases bS lG h; obtain ⟨j, rfl⟩ := hv; exact q i j
theorem at_gB {k : Bool → zV β} (hv : VR ρ v x) (q : ∀ i, At prog w ac C R ρ σ s (k i) (t (.bool i))) : At prog w ac C R ρ σ s (gB v k) (t x) := bA fun i h => by cases bS yG h; cases hv; exact q i
theorem wG {k : Array UInt8 → zV β} (hv : VR ρ v x) (q : ∀ i j, At prog w ac C R ρ σ s (k i) (t (.bytes i j))) : At prog w ac C R ρ σ s (gY v k) (t x) := bA fun i h => by cases bS yC h; obtain ⟨j, rfl⟩ := hv; exact q i j
theorem wH {k : String → zV β} (hv : VR ρ v x) (q : ∀ i, At prog w ac C R ρ σ s (k i) (t (.type i))) : At prog w ac C R ρ σ s (gT v k) (t x) := bA fun i h => by cases bS yE h; cases hv; exact q i
theorem a8 {p : Prop} {d : Decidable p} {o : zV β} (q : p → At prog w ac C R ρ σ s o u) : At prog w ac C R ρ σ s (if p then o else .bad) u := by
 by_cases h : p
 ·rw [if_pos h]; exact q h
 ·rw [if_neg h]; exact fun h => absurd rfl h
theorem bw {c : Bool} {o o' : zV β} (q : At prog w ac C R ρ σ s o u) (q' : At prog w ac C R ρ σ s o' u) : At prog w ac C R ρ σ s (cond c o o') u := by
 cases c
 ·exact q'
 ·exact q
theorem lE {k : Nat → O → zV β} (hv : VR ρ v x) (q : ∀ l a o, ρ[l]? = some a → H[l]? = some o → At prog w ac C R ρ σ s (k l o) (t (.ref a))) : At prog w ac C R ρ σ s (gh v H k) (t x) := bA fun l h => by
 cases bS iL h; obtain ⟨a, hl, rfl⟩ := hv; exact bA fun o ho => q l a o hl ho
theorem fB {k : Nat → List V → zV β} (r : eh prog w ac ρ H s) (hv : VR ρ v x) (q : ∀ l a ys vs n, ρ[l]? = some a → H[l]? = some (.list ys) → s.heap.get? a = some { cls := .type "list", data := .seq vs.toArray n } → bL ρ ys vs → At prog w ac C R ρ σ s (k l ys) (t (.ref a))) :
  At prog w ac C R ρ σ s (gl v H k) (t x) := lE hv fun l a o hl ho => bA fun ys h => by
 cases bS jr h; obtain ⟨ob, h1, vs, n, rfl, hv⟩ := r.obj _ _ _ ho hl; exact q l a ys vs n hl ho h1 hv
theorem tZ {k : Nat → List V → zV β} (r : eh prog w ac ρ H s) (hv : VR ρ v x) (q : ∀ l a ys vs n, ρ[l]? = some a → H[l]? = some (.tup ys) → s.heap.get? a = some { cls := .type "tuple", data := .seq vs.toArray n } → bL ρ ys vs → At prog w ac C R ρ σ s (k l ys) (t (.ref a))) :
  At prog w ac C R ρ σ s (gt v H k) (t x) := lE hv fun l a o hl ho => bA fun ys h => by
 cases bS om h; obtain ⟨ob, h1, vs, n, rfl, hv⟩ := r.obj _ _ _ ho hl; exact q l a ys vs n hl ho h1 hv
theorem rH {k : Nat → List (Int × V) → Nat → zV β} (hv : VR ρ v x) (q : ∀ l a es ep, ρ[l]? = some a → H[l]? = some (.dict es ep) → At prog w ac C R ρ σ s (k l es ep) (t (.ref a))) : At prog w ac C R ρ σ s (gd v H k) (t x) :=
 lE hv fun l a _ hl ho => bA fun p h => q l a p.1 p.2 hl (bS rJ h ▸ ho)
theorem yx {k : Nat → List Int → zV β} (hv : VR ρ v x) (q : ∀ l a es, ρ[l]? = some a → H[l]? = some (.set es) → At prog w ac C R ρ σ s (k l es) (t (.ref a))) : At prog w ac C R ρ σ s (ge v H k) (t x) :=
 lE hv fun l a _ hl ho => bA fun p h => q l a p hl (bS uL h ▸ ho)
theorem jm {o : Option γ} {k : γ → zV β} (h : gO o k ≠ .bad) : ∃ y, o = some y ∧ k y ≠ .bad := by
 cases o with
 | some y => exact ⟨y, rfl, h⟩
 | none => exact absurd rfl h
theorem yj {v : V} {H : List O} {k : Nat → List V → zV β} (h : gl v H k ≠ .bad) : ∃ l ys, v = .ref l ∧ H[l]? = some (.list ys) := by
 obtain ⟨l, hl, h⟩ := jm h
 obtain ⟨o, ho, h⟩ := jm h
 obtain ⟨ys, hy, h⟩ := jm h
 exact ⟨l, ys, bS iL hl, bS jr hy ▸ ho⟩
end
section
variable {prog : Program} {w : World} {ac : Heap} {C : Cx} {mg mb : Str → Option Value} {α β : Type}
noncomputable def aa (v : β) : St → zV β := fun σ => .ok v σ
noncomputable def dU : St → zV β := fun _ => .bad
theorem ia {R : List Addr → β → α → Prop} {t : Sem α} : zS prog w ac C R dU t := fun _ _ _ _ hb => absurd rfl hb
theorem nA (ok : C.Ok) (T : yK ac mg mb) {x : Str} {pos : Pos} {v : V} {v' : Value} (hk : C.env.kindOf x = some .globalImplicit) (hv : mg x = some v') (hr : ∀ ρ, VR ρ v v') (hd : (x == ("__debug__" : Str)) = false) :
  bi prog w ac C (aa v) (eval (.Name x pos) C.env) := by
 intro ρ σ s r _
 refine Name_function_global ok.kind hk (loadGlobal_global (mg := mg) ?_ hv (zu (hr ρ) (.refl r))) hd
 rw [ok.glob]
 exact T.g.keeps r.hp.base
theorem nB (ok : C.Ok) (T : yK ac mg mb) {x : Str} {pos : Pos} {v : V} {v' : Value} (hk : C.env.kindOf x = some .globalImplicit) (hm : mg x = none) (hn : x ≠ "__name__") (hv : bootBuiltins x = some v') (hr : ∀ ρ, VR ρ v v') (hd : (x == ("__debug__" : Str)) = false) :
  bi prog w ac C (aa v) (eval (.Name x pos) C.env) := by
 intro ρ σ s r _
 refine Name_function_global ok.kind hk (loadGlobal_builtin (mg := mg) (mb := mb) ?_ hm ?_ ?_ (zu (hr ρ) (.refl r))) hd
 ·rw [ok.glob]; exact T.g.keeps r.hp.base
 ·rw [ok.bltn]; exact T.b.keeps r.hp.base
 ·rw [T.builtins x hn, hv]
noncomputable def cV : Const → Option V
 | .none => some .none
 | .bool b => some (.bool b)
 | .int i => some (.int i)
 | .str x => some (.str x)
 | _ => none
theorem af {c : Const} {v : V} {k : Nat} {pos : Pos} (h : cV c = some v) : bi prog w ac C (aa v) (eval (.Constant c k pos) C.env) := by
 intro ρ σ s r _
 show wpAny _ _ (constValue C.env c) _ _ s
 cases c <;> simp [cV] at h <;> subst h
 ·exact wpAny_pure (zu rfl (.refl r))
 ·exact wpAny_pure (zu rfl (.refl r))
 ·exact wpAny_mkInt (zu ⟨_, rfl⟩ (r.toks _))
 ·exact wpAny_mkText (zu ⟨_, rfl⟩ (r.toks _))
noncomputable def small (i : Int) : Bool := decide (i.natAbs < 2 ^ 64)
@[reducible] def tV (x : Str) (n : Int) : Decidable (MulOk x n) := by unfold MulOk; infer_instance
noncomputable def zA (f : Int → Int → zV V) (a b : V) : zV V := gI a fun x => gI b fun y => f x y
noncomputable def wL (σ : St) (a b : V) : zV V := cond (zL a).isSome (zA (fun a b => .ok (.int (a + b)) σ) a b) (cond (bH a σ.heap) (gS a fun x => gS b fun y => if x.length + y.length ≤ sizeLine then .ok (.str (x ++ y)) σ else .bad) (gl a σ.heap fun _ xs => gl b σ.heap fun _ ys => if xs.length + ys.length ≤ sizeLine then .ok (.ref σ.heap.length) { σ with heap := σ.heap ++ [.list (xs ++ ys)] } else .bad))
noncomputable def mulB (σ : St) (a b : V) : zV V := cond (zL a).isSome (zA (fun a b => if small a then .ok (.int (a * b)) σ else .bad) a b) (gS a fun x => gI b fun n => @ite _ (MulOk x n) (tV x n) (.ok (.str (Txt.mul x n)) σ) .bad)
noncomputable def zr (op : Operator) (a b : V) (σ : St) : zV V := match op with
 | .Add => wL σ a b
 | .Sub => zA (fun a b => .ok (.int (a - b)) σ) a b
 | .Mult => mulB σ a b
 | .FloorDiv => zA (fun a b => if b ≠ 0 ∧ small b then .ok (.int (a.fdiv b)) σ else .bad) a b
 | .Mod => zA (fun a b => if b ≠ 0 then .ok (.int (a.fmod b)) σ else .bad) a b
 | .LShift => zA (fun a n => if 0 ≤ n ∧ n ≤ 1000 ∧ small a then .ok (.int (a * 2 ^ n.toNat)) σ else .bad) a b
 | .RShift => zA (fun a n => if 0 ≤ n then .ok (.int (a.fdiv (2 ^ n.toNat))) σ else .bad) a b
 | .BitAnd => zA (fun a b => .ok (.int (Builtin.bitAnd a b)) σ) a b
 | .BitOr => zA (fun a b => .ok (.int (Builtin.bitOr a b)) σ) a b
 | .Pow => zA (fun a n => if 0 ≤ n ∧ n ≤ 1000 ∧ small a then .ok (.int (a ^ n.toNat)) σ else .bad) a b
 | _ => .bad
theorem gN {i : Int} (h : small i = true) : i.natAbs < 2 ^ 64 := of_decide_eq_true h
theorem kQ {a b : Int} (h : small b = true) : Builtin.divisionGoesByPylong a b = false := by
 have hb := gN h
 unfold Builtin.divisionGoesByPylong
 simp only [Bool.and_eq_false_iff]
 left
 apply decide_eq_false
 by_cases h0 : b = 0
 ·simp [h0]
 ·have hl : b.natAbs.log2 < 64 := (Nat.log2_lt (by lia)).mpr hb
  have hn : (b == 0) = false := by simpa using h0
  simp only [hn, Bool.false_eq_true, if_false]
  lia
theorem mh {a b : Int} (h : small a = true) : IntMulOk a b := IntMulOk.of_left (by
 have := gN h
 exact intBits_le_64 (by lia) (by lia))
theorem bv {H : List O} {ρ : List Addr} {s : Shared} (r : eh prog w ac ρ H s) (a : Addr) : (ρ ++ [a])[H.length]? = some a := by
 rw [← r.len]; simp
theorem eC {R : List Addr → V → α → Prop} {ρ : List Addr} {σ : St} {s : Shared} {f : Int → Int → zV V} {a b : V} {a' b' : Value} {T : Value → Value → Sem α} (ha : VR ρ a a') (hb : VR ρ b b') (q : ∀ x y t u, At prog w ac C R ρ σ s (f x y) (T (.int x t) (.int y u))) : At prog w ac C R ρ σ s (zA f a b) (T a' b') :=
 fe (t := fun a' => T a' b') ha fun x t => fe (t := fun b' => T (.int x t) b') hb fun y u => q x y t u
theorem sw {ρ : List Addr} {σ : St} {s : Shared} {a b : V} {a' b' : Value} (r : zT prog w ac C ρ σ s) (ha : VR ρ a a') (hb : VR ρ b b') : At prog w ac C VR ρ σ s (wL σ a b) (binaryOp .Add a' b') :=
 bw (eC (T := binaryOp .Add) ha hb fun x y t u _ => add_int (zu ⟨_, rfl⟩ (r.toks _)))
  (bw (dA (t := fun a' => binaryOp .Add a' b') ha fun x t => dA (t := fun b' => binaryOp .Add (.str x t) b') hb fun y u => a8 fun h _ => add_str (fun t' k => zu ⟨_, rfl⟩ (r.toks _)) h)
   (fB (t := fun a' => binaryOp .Add a' b') r.hp ha fun l x ys vs n _ _ g1 hv => fB (t := fun b' => binaryOp .Add (.ref x) b') r.hp hb fun l' x' zs ws n' _ _ g2 hw => a8 fun hsz _ => by
    refine concat_meets ⟨_, g1, rfl⟩ ⟨_, g2, rfl⟩ noFill_list_add seq_list_add PySem.F.slot_list_add PySem.F.entry_list_add (PySem.F.args_list_add_2 _ _) (list_addW _ _ vs.toArray ws.toArray n n' none none #[] #[] (by simpa [hv.length, hw.length] using hsz)) ⟨g1, g2, ?_⟩
    rw [List.append_toArray]
    exact zu (ρ' := ρ ++ [s.heap.objs.size]) ⟨_, bv r.hp _, rfl⟩ (r.alloc (t := s.toks) rfl ⟨_, 0, rfl, (hv.append hw).mono⟩)))
theorem sk {ρ : List Addr} {σ : St} {s : Shared} {a b : V} {a' b' : Value} (r : zT prog w ac C ρ σ s) (ha : VR ρ a a') (hb : VR ρ b b') : At prog w ac C VR ρ σ s (mulB σ a b) (binaryOp .Mult a' b') :=
 bw (eC (T := binaryOp .Mult) ha hb fun x y t u => a8 fun h _ => mul_int (zu ⟨_, rfl⟩ (r.toks _)) (mh h))
  (dA (t := fun a' => binaryOp .Mult a' b') ha fun x t => fe (t := fun b' => binaryOp .Mult (.str x t) b') hb fun n u => a8 fun h _ => SB.mul h fun t' k => zu ⟨_, rfl⟩ (r.toks _))
theorem uZ (op : Operator) : yL prog w ac C VR (zr op) (fun a b => binaryOp op a b) := by
 intro ρ σ s a a' b b' r ha hb
 have tk : ∀ {v : V} {x : Value}, VR ρ v x → zW prog w ac C VR ρ σ s (.ok v σ) x { s with toks := s.toks + 1 } := fun h => zu h (r.toks _)
 cases op with
 | Add => exact sw r ha hb
 | Mult => exact sk r ha hb
 | Sub => exact eC (T := binaryOp .Sub) ha hb fun x y t u _ => sub_int (tk ⟨_, rfl⟩)
 | FloorDiv => exact eC (T := binaryOp .FloorDiv) ha hb fun x y t u => a8 fun h _ => floordiv_int h.1 (tk ⟨_, rfl⟩) (.inl (kQ h.2))
 | Mod => exact eC (T := binaryOp .Mod) ha hb fun x y t u => a8 fun h _ => mod_int' h (tk ⟨_, rfl⟩)
 | LShift => exact eC (T := binaryOp .LShift) ha hb fun x y t u => a8 fun h _ => lshift_int_small h.1 (by have := h.2.1; lia) (gN h.2.2) (tk ⟨_, rfl⟩)
 | RShift => exact eC (T := binaryOp .RShift) ha hb fun x y t u => a8 fun h _ => rshift_int h (tk ⟨_, rfl⟩)
 | BitAnd => exact eC (T := binaryOp .BitAnd) ha hb fun x y t u _ => and_int (tk ⟨_, rfl⟩)
 | BitOr => exact eC (T := binaryOp .BitOr) ha hb fun x y t u _ => or_int (tk ⟨_, rfl⟩)
 | Pow => exact eC (T := binaryOp .Pow) ha hb fun x y t u => a8 fun h _ => pow_int_small h.1 (by have := h.2.1; lia) (gN h.2.2) (tk ⟨_, rfl⟩)
 | _ => exact fun h => absurd rfl h
end
section
variable {prog : Program} {w : World} {ac : Heap} {C : Cx} {mg mb : Str → Option Value} {α β : Type}
noncomputable def yp (v : V) : Option PyData := match v with
 | .none => some .none
 | .bool b => some (.bool b)
 | .int i => some (.int i)
 | .str x => some (.str x)
 | _ => none
noncomputable def dataOf : Nat → List O → V → Option PyData
 | 0, _, _ => none
 | n + 1, H, v => (yp v).or ((zJ v).bind fun l => H[l]?.bind fun o => ((zK o).bind fun xs => (xs.mapM (dataOf n H)).map .list).or ((zH o).bind fun xs => (xs.mapM (dataOf n H)).map .tuple))
theorem n4 {n l : Nat} {H : List O} {o : O} (h : H[l]? = some o) : dataOf (n + 1) H (.ref l) = ((zK o).bind fun xs => (xs.mapM (dataOf n H)).map .list).or ((zH o).bind fun xs => (xs.mapM (dataOf n H)).map .tuple) := by
 show H[l]?.bind _ = _; rw [h]; rfl
theorem kO {h : Heap} {ρ : List Addr} {f : V → Option PyData} (hf : ∀ v x d, VR ρ v x → f v = some d → ∃ as, Reads h x d as) : ∀ (vs : List V) (xs : List Value) (ds : List PyData), bL ρ vs xs → vs.mapM f = some ds → ∃ as, ReadsAll h xs ds as := by
 intro vs
 induction vs with
 | nil => intro xs ds ha hm; cases ha; cases hm; exact ⟨_, .nil⟩
 | cons v vs ih =>
  intro xs ds ⟨x, r, e, hv, hr⟩ hm
  subst e
  rw [List.mapM_cons] at hm
  obtain ⟨d, hd, hm⟩ := Option.bind_eq_some_iff.mp hm
  obtain ⟨ds', hds, hm⟩ := Option.bind_eq_some_iff.mp hm
  cases hm
  obtain ⟨as, h1⟩ := hf v x d hv hd
  obtain ⟨bs, h2⟩ := ih r ds' hr hds
  exact ⟨_, .cons h1 h2⟩
theorem xN {h : Heap} {ρ : List Addr} {v : V} {x : Value} {d : PyData} (hv : VR ρ v x) (hd : yp v = some d) : ∃ as, Reads h x d as := by
 cases v with
 | none => cases hd; cases hv; exact ⟨_, .none⟩
 | bool b => cases hd; cases hv; exact ⟨_, .bool b⟩
 | int i => cases hd; obtain ⟨t, rfl⟩ := hv; exact ⟨_, .int i t⟩
 | str i => cases hd; obtain ⟨t, rfl⟩ := hv; exact ⟨_, .str i t⟩
 | _ => cases hd
theorem nG {ρ : List Addr} {H : List O} {s : Shared} (r : eh prog w ac ρ H s) (n : Nat) : ∀ (v : V) (x : Value) (d : PyData), VR ρ v x → dataOf n H v = some d → ∃ as, Reads s.heap x d as := by
 induction n with
 | zero => intro _ _ _ _ h; cases h
 | succ n ih =>
  intro v x d hv h
  rcases Option.or_eq_some_iff.mp h with h | ⟨_, k⟩
  ·exact xN hv h
  clear h
  obtain ⟨l, hl, k⟩ := Option.bind_eq_some_iff.mp k
  obtain ⟨o, q, h⟩ := Option.bind_eq_some_iff.mp k
  clear k
  cases bS iL hl
  obtain ⟨a, ha, rfl⟩ := hv
  rcases Option.or_eq_some_iff.mp h with h | ⟨_, h⟩
  ·obtain ⟨xs, hx, h⟩ := Option.bind_eq_some_iff.mp h
   obtain ⟨ds, hm, rfl⟩ := Option.map_eq_some_iff.mp h
   cases bS jr hx
   obtain ⟨ob, h1, vs, k, rfl, hvs⟩ := r.obj _ _ _ q ha
   obtain ⟨as, hr⟩ := kO ih xs vs ds hvs hm
   exact ⟨_, .list h1 rfl rfl hr⟩
  ·obtain ⟨xs, hx, h⟩ := Option.bind_eq_some_iff.mp h
   obtain ⟨ds, hm, rfl⟩ := Option.map_eq_some_iff.mp h
   cases bS om hx
   obtain ⟨ob, h1, vs, k, rfl, hvs⟩ := r.obj _ _ _ q ha
   obtain ⟨as, hr⟩ := kO ih xs vs ds hvs hm
   exact ⟨_, .tuple h1 rfl rfl hr⟩
noncomputable def zE (H : List O) (a b : V) : Option Bool := (dataOf 8 H a).bind fun da => (dataOf 8 H b).bind fun db => if SeqAt.shaped da && SeqAt.shaped db then some (PyData.eqv da db) else none
noncomputable def mY (σ : St) (o : Option Bool) : zV V := gO o fun b => .ok (.bool b) σ
noncomputable def eqB (a b : V) (σ : St) : zV V := cond ((zL a).isSome && (zL b).isSome) (zA (fun x y => .ok (.bool (x == y)) σ) a b) (cond ((zI a).isSome && (zI b).isSome) (gS a fun x => gS b fun y => .ok (.bool (x == y)) σ) (mY σ (zE σ.heap a b)))
noncomputable def neB (a b : V) (σ : St) : zV V := cond ((zL a).isSome && (zL b).isSome) (zA (fun x y => .ok (.bool (x != y)) σ) a b) (mY σ ((zE σ.heap a b).map (!·)))
noncomputable def wX (v : V) : Bool := match v with | .none => true | _ => false
noncomputable def isB (a b : V) (σ : St) : zV V := cond (asT b).isSome (gT b fun y => gT a fun x => .ok (.bool (x == y)) σ) (if wX b = true then .ok (.bool (wX a)) σ else .bad)
noncomputable def isnB (a b : V) (σ : St) : zV V := if wX b = true then .ok (.bool (!wX a)) σ else .bad
noncomputable def inB (a b : V) (σ : St) : zV V := gI a fun k => cond (eu b σ.heap) (ge b σ.heap fun _ xs => .ok (.bool (xs.contains k)) σ) (gd b σ.heap fun _ es _ => .ok (.bool ((es.lookup k).isSome)) σ)
noncomputable def j3 (op : CmpOp) (a b : V) (σ : St) : zV V := match op with
 | .Lt => zA (fun a b => .ok (.bool (decide (a < b))) σ) a b
 | .LtE => zA (fun a b => .ok (.bool (decide (a ≤ b))) σ) a b
 | .Gt => zA (fun a b => .ok (.bool (decide (b < a))) σ) a b
 | .GtE => zA (fun a b => .ok (.bool (decide (b ≤ a))) σ) a b
 | .Eq => eqB a b σ
 | .NotEq => neB a b σ
 | .Is => isB a b σ
 | .IsNot => isnB a b σ
 | .In => inB a b σ
 | _ => .bad
theorem rb {v : V} (h : wX v = true) : v = .none := by cases v <;> first | rfl | cases h
theorem pN {ρ : List Addr} {v : V} {x : Value} (h : VR ρ v x) : (x == Value.none) = wX v := by
 cases v <;> first | (cases h; rfl; done) | (obtain ⟨t, rfl⟩ := h; rfl; done) | (obtain ⟨a, _, rfl⟩ := h; rfl; done)
theorem pairs_at {ρ : List Addr} : ∀ {es : List (Int × V)} {kvs : List (Int × Value)}, cG ρ es kvs → ∀ k, zP ρ (es.lookup k) (valueAt kvs k)
 | [], _, h, k => by cases h; simp [valueAt, zP]
 | (j, v) :: es, _, ⟨x, r, e, hv, hr⟩, k => by
  subst e
  have ih := pairs_at hr k
  by_cases hk : k = j
  ·subst hk; simp [valueAt, zP, hv]
  ·have h1 : (k == j) = false := by simpa using hk
   have h2 : decide (j = k) = false := by simpa using fun q : j = k => hk q.symm
   rw [List.lookup_cons, h1]
   simpa [valueAt, List.find?_cons, h2] using ih
theorem isSome_of {ρ : List Addr} {v : Option V} {x : Option Value} (h : zP ρ v x) : x.isSome = v.isSome := by
 cases v with
 | none => cases h; rfl
 | some v => obtain ⟨y, rfl, _⟩ := h; rfl
theorem nY {ρ : List Addr} {H : List O} {s : Shared} (r : eh prog w ac ρ H s) {a b : V} {a' b' : Value} (ha : VR ρ a a') (hb : VR ρ b b') {cR : Bool} (h : zE H a b = some cR) : ∃ da db as bs, Reads s.heap a' da as ∧ Reads s.heap b' db bs ∧ SeqAt.shaped da = true ∧ SeqAt.shaped db = true ∧ PyData.eqv da db = cR := by
 obtain ⟨da, hda, h⟩ := Option.bind_eq_some_iff.mp h
 obtain ⟨db, hdb, h⟩ := Option.bind_eq_some_iff.mp h
 obtain ⟨hs, h⟩ := Option.ite_none_right_eq_some.mp h
 obtain ⟨as, r1⟩ := nG r 8 a a' da ha hda
 obtain ⟨bs, r2⟩ := nG r 8 b b' db hb hdb
 exact ⟨da, db, as, bs, r1, r2, (Bool.and_eq_true_iff.mp hs).1, (Bool.and_eq_true_iff.mp hs).2, Option.some.inj h⟩
theorem yt (ok : C.Ok) {ρ : List Addr} {σ : St} {s : Shared} (r : zT prog w ac C ρ σ s) {a b : V} {a' b' : Value} (ha : VR ρ a a') (hb : VR ρ b b') : At prog w ac C VR ρ σ s (mY σ (zE σ.heap a b)) (compareOp .Eq a' b') := bA fun cR q _ => by
 obtain ⟨da, db, as, bs, r1, r2, s1, s2, e⟩ := nY r.hp ha hb q
 exact SeqAt.compareEq_shaped r1 r2 s1 s2 (by have := ok.units; lia) (zu (congrArg Value.bool e) (.refl r))
theorem yr (ok : C.Ok) {ρ : List Addr} {σ : St} {s : Shared} (r : zT prog w ac C ρ σ s) {a b : V} {a' b' : Value} (ha : VR ρ a a') (hb : VR ρ b b') : At prog w ac C VR ρ σ s (mY σ ((zE σ.heap a b).map (!·))) (compareOp .NotEq a' b') := bA fun cR q _ => by
 obtain ⟨b₁, q', rfl⟩ := Option.map_eq_some_iff.mp q
 obtain ⟨da, db, as, bs, r1, r2, s1, s2, e⟩ := nY r.hp ha hb q'
 exact SeqAt.compareNe_shaped r1 r2 s1 s2 (by have := ok.units; lia) (zu (congrArg (fun x => Value.bool (!x)) e) (.refl r))
theorem gP (ok : C.Ok) (op : CmpOp) : yL prog w ac C VR (j3 op) (fun a b => compareOp op a b) := by
 intro ρ σ s a a' b b' r ha hb
 have here : ∀ {v : V} {x : Value}, VR ρ v x → zW prog w ac C VR ρ σ s (.ok v σ) x s := fun h => zu h (.refl r)
 cases op with
 | Lt => exact eC (T := compareOp .Lt) ha hb fun x y t u _ => lt_int (here rfl)
 | LtE => exact eC (T := compareOp .LtE) ha hb fun x y t u _ => le_int (here rfl)
 | Gt => exact eC (T := compareOp .Gt) ha hb fun x y t u _ => gt_int (here rfl)
 | GtE => exact eC (T := compareOp .GtE) ha hb fun x y t u _ => ge_int (here rfl)
 | Eq =>
  exact bw (eC (T := compareOp .Eq) ha hb fun x y t u _ => eq_int (here (v := .bool (x == y)) rfl))
   (bw (dA (t := fun a' => compareOp .Eq a' b') ha fun x t => dA (t := fun b' => compareOp .Eq (.str x t) b') hb fun y u _ => eq_str (here (v := .bool (x == y)) rfl)) (yt ok r ha hb))
 | NotEq => exact bw (eC (T := compareOp .NotEq) ha hb fun x y t u _ => ne_int (here (v := .bool (x != y)) rfl)) (yr ok r ha hb)
 | Is =>
  exact bw (wH (t := fun b' => compareOp .Is a' b') hb fun y => wH (t := fun a' => compareOp .Is a' (.type y)) ha fun x _ => wpAny_is_plain rfl (here (v := .bool (x == y)) (congrArg Value.bool (Bool.eq_iff_iff.mpr (by simp)))))
   (a8 fun h _ => by cases rb h; cases hb; exact is_none_gen (here (pN ha ▸ rfl)))
 | IsNot => exact a8 fun h _ => by cases rb h; cases hb; exact isnot_none_gen (here (pN ha ▸ rfl))
 | In =>
  exact fe (t := fun a' => compareOp .In a' b') ha fun k t => bw
   (yx (t := fun b' => compareOp .In (.int k t) b') hb fun l x xs hx q _ => by
    obtain ⟨ob, h1, es, ep, tb, h2, h3, h4, h5, h6, h7, h8⟩ := r.hp.obj _ _ _ q hx
    exact wpAny_inSet_of (knd := intKind prog w) (intKind_is _ _ _ _) rfl (S := fun k => xs.contains k) (n := xs.length) ⟨ob, es, ep, tb, h1, h2, h3, h4, h5, h6, h7, h8⟩ (zu rfl (r.toks _)))
   (rH (t := fun b' => compareOp .In (.int k t) b') hb fun l x es ep hx q _ => by
    obtain ⟨ob, h1, kvs, h2, h3, _⟩ := r.hp.obj _ _ _ q hx
    exact wpAny_in_of (knd := intKind prog w) (intKind_is _ _ _ _) (beq_eq_false_iff_ne.mpr (r.hp.sys _ _ _ _ q hx)) (Heap.DictOf.mapOf (Heap.dictOf_iff.mpr ⟨ob, h1, h2⟩)) (zu (congrArg Value.bool (isSome_of (pairs_at h3 k))) (r.toks _)))
 | NotIn => exact fun h => absurd rfl h
end
inductive F where
 | next | brk | cont
 | ret (v : V)
deriving DecidableEq
noncomputable def FR (ρ : List Addr) : F → Flow → Prop
 | .next, f => f = .next
 | .brk, f => f = .brk
 | .cont, f => f = .cont
 | .ret v, f => ∃ x, f = .ret x ∧ VR ρ v x
noncomputable def zV.calm {α : Type} : zV α → zV α
 | .exc .. => .bad
 | o => o
@[simp] theorem zV.calm_ok {α : Type} (a : α) (σ : St) : (zV.ok a σ).calm = .ok a σ := rfl
section
variable {prog : Program} {w : World} {ac : Heap} {C : Cx} {mg mb : Str → Option Value} {α β γ : Type} {ρ ρ' : List Addr} {σ σ' : St} {s s' : Shared}
theorem At.calm {R : List Addr → β → α → Prop} {o : zV β} {t : Sem α} {Q : α → Shared → Prop} {E : Value → Shared → Prop} (h : At prog w ac C R ρ σ s o t) (hb : o.calm ≠ .bad)
  (k : ∀ b ae aw az a, o.calm = .ok b ae → R aw b a → Step prog w ac C ρ σ s aw ae az → Q a az) : wpAny (model prog w) C.A t Q E s := by
 cases o with
 | ok b ae => exact wpAny_mono (h (by simp)) (fun a az ⟨aw, hr, st⟩ => k b ae aw az a rfl hr st) fun _ _ x => x.elim
 | exc => exact absurd rfl hb
 | bad => exact absurd rfl hb
theorem zS.gen {R : List Addr → β → α → Prop} {m : St → zV β} {t : Sem α} (h : ∀ ρ σ s z, zT prog w ac C ρ σ s → z = m σ → z ≠ .bad → wpAny (model prog w) C.A t (zW prog w ac C R ρ σ s z) (z3 prog w ac C ρ σ s z) s) : zS prog w ac C R m t := fun ρ σ s r hn => h ρ σ s _ r rfl hn
theorem fp {p : Prop} [Decidable p] {o z : zV β} (h : (if p then o else .bad) = z) (hz : z ≠ .bad) : p ∧ o = z := by
 by_cases hp : p
 ·rw [if_pos hp] at h; exact ⟨hp, h⟩
 ·rw [if_neg hp] at h; exact absurd h.symm hz
theorem At.calmF {R : List Addr → β → α → Prop} {m : zV β} {t : Sem α} {f : β → St → zV γ} {z : zV γ} {Q : α → Shared → Prop} {E : Value → Shared → Prop} (h : At prog w ac C R ρ σ s m t) (hf : m.calm.bind f = z) (hz : z ≠ .bad)
  (k : ∀ b ae aw az a, R aw b a → Step prog w ac C ρ σ s aw ae az → f b ae = z → Q a az) : wpAny (model prog w) C.A t Q E s :=
 h.calm (fun q => hz (hf.symm.trans (by rw [q]; rfl))) fun b ae aw az a e hr st => k b ae aw az a hr st (by rw [e] at hf; exact hf)
noncomputable def bp (f : V → V → St → zV β) (ml mr : St → zV V) : St → zV β := fun σ => (ml σ).bind fun a ae => (mr ae).bind fun b aq => f a b aq
noncomputable abbrev aR (op : Operator) := bp (zr op)
noncomputable abbrev aW (op : CmpOp) := bp (j3 op)
theorem At.then {R : List Addr → β → α → Prop} {m : zV β} {t : Sem α} {f : β → St → zV γ} {Q : α → Shared → Prop} {v : zV γ} {cu : List Addr} {ct : St} {bg : Shared} (iX : Step prog w ac C cu ct bg ρ σ s) (h : At prog w ac C R ρ σ s m t) (e : v = m.bind f) (hb : v ≠ .bad)
  (k : ∀ b ae aw az a, m = .ok b ae → R aw b a → Step prog w ac C ρ σ s aw ae az → Step prog w ac C cu ct bg aw ae az → v = f b ae → Q a az) :
  wpAny (model prog w) C.A t Q (z3 prog w ac C cu ct bg v) s :=
 wpAny_mono (h.next e hb fun b ae aw az a e' hr st e'' => k b ae aw az a e' hr st (iX.trans st) e'') (fun _ _ h => h) fun _ _ => z3.trans iX
theorem aA {op : Operator} {ml mr : St → zV V} {l r : Expr} {pos : Pos} (hl : bi prog w ac C ml (eval l C.env)) (hr : bi prog w ac C mr (eval r C.env)) : bi prog w ac C (aR op ml mr) (eval (.BinOp l op r pos) C.env) := by
 refine zS.gen fun ρ σ s z r e hb => ?_
 refine wpAny_BinOp ((hl.at r).next e hb fun a ae aw az a' _ va au e => ?_)
 refine (hr.at au.rel).then au e hb fun b aq aK aT b' _ vb aJ st e => ?_
 subst e
 exact (uZ op aK aq aT a a' b b' aJ.rel (aJ.vr va) vb).trans st hb
theorem jy (ok : C.Ok) {op : CmpOp} {ml mr : St → zV V} {l r : Expr} {pos : Pos} (hl : bi prog w ac C ml (eval l C.env)) (hr : bi prog w ac C mr (eval r C.env)) (hm : behindInMarks op r = false) : bi prog w ac C (aW op ml mr) (eval (.Compare l [op] [r] pos) C.env) := by
 refine zS.gen fun ρ σ s z r e hb => ?_
 refine wpAny_Compare1 ((hl.at r).next e hb fun a ae aw az a' _ va au e => ?_) hm
 refine (hr.at au.rel).then au e hb fun b aq aK aT b' _ vb aJ st e => ?_
 subst e
 exact (gP ok op aK aq aT a a' b b' aJ.rel (aJ.vr va) vb).trans st hb
noncomputable def bU (v : V) (σ : St) : zV Bool := match v with
 | .none => .ok false σ
 | .bool b => .ok b σ
 | .int i => .ok (i != 0) σ
 | .ref l => match σ.heap[l]? with
  | some (.list xs) => if xs.length ≤ sizeLine then .ok (!xs.isEmpty) σ else .bad
  | some (.tup xs) => if xs.length ≤ sizeLine then .ok (!xs.isEmpty) σ else .bad
  | _ => .bad
 | _ => .bad
theorem iZ {n : Nat} (h : n ≤ sizeLine) : (n : Int) < 2 ^ 63 := by rw [sizeLine_eq] at h; lia
theorem eL {xs : List V} {vs : List Value} (h : bL ρ xs vs) : (!vs.toArray.isEmpty) = !xs.isEmpty := by
 cases xs with
 | nil => cases h; rfl
 | cons x xs => obtain ⟨y, ys, rfl, _⟩ := h; rfl
theorem dN : t6 prog w ac C gK bU truthy := by
 intro ρ σ s a a' r ha hn
 have here : ∀ {b : Bool}, zW prog w ac C gK ρ σ s (.ok b σ) b s := fun {b} => zu rfl (.refl r)
 cases a with
 | none => cases ha; exact truthy_none here
 | bool b => cases ha; exact wpAny_truthy_bool here
 | int i => obtain ⟨t, rfl⟩ := ha; exact truthy_int here
 | ref l =>
  obtain ⟨x, hx, rfl⟩ := ha
  unfold bU at hn ⊢
  dsimp only at hn ⊢
  split at hn
  ·rename_i xs q
   obtain ⟨ob, h1, vs, n, rfl, hv⟩ := r.hp.obj _ _ _ q hx
   split at hn
   ·rename_i hs
    rw [if_pos hs]
    refine wpAny_truthy_list (items := vs.toArray) ⟨_, h1, rfl, n, rfl⟩ (iZ (by simpa [hv.length] using hs)) (zu ?_ (r.toks _))
    exact eL hv
   ·exact absurd rfl hn
  ·rename_i xs q
   obtain ⟨ob, h1, vs, n, rfl, hv⟩ := r.hp.obj _ _ _ q hx
   split at hn
   ·rename_i hs
    rw [if_pos hs]
    refine ktl_truthy (items := vs.toArray) h1 (by have := iZ hs; simp [hv.length]; lia) (zu ?_ (r.toks _))
    exact eL hv
   ·exact absurd rfl hn
  ·exact absurd rfl hn
 | str | bytes | type | blt | top => exact absurd rfl hn
noncomputable abbrev pL (prog : Program) (w : World) (ac : Heap) (C : Cx) (m : St → zV Bool) (e : Expr) : Prop := zS prog w ac C gK m (isTrue e C.env (eval e C.env))
noncomputable def aB (m : St → zV V) : St → zV Bool := fun σ => (m σ).bind bU
theorem ce {m : St → zV V} {e : Expr} (h : bi prog w ac C m (eval e C.env)) (hp : isTrue e C.env (eval e C.env) = do let v ← eval e C.env; standAt e.pos; holding [v] (truthy v)) : pL prog w ac C (aB m) e := by
 refine zS.gen fun ρ σ s z r e hb => ?_
 refine isTrue_plain ((h.at r).next e hb fun a ae aw az a' _ va au e => ?_) hp
 subst e
 exact (dN aw ae az a a' au.rel va).trans au hb
theorem ay (ok : C.Ok) {op : CmpOp} {ml mr : St → zV V} {l r : Expr} {pos : Pos} (hl : bi prog w ac C ml (eval l C.env)) (hr : bi prog w ac C mr (eval r C.env)) (hm : behindInMarks op r = false) : pL prog w ac C (aB (aW op ml mr)) (.Compare l [op] [r] pos) := by
 intro ρ σ s r hb
 have e0 : aB (aW op ml mr) σ = (ml σ).bind fun a ae => (mr ae).bind fun b aq => (j3 op a b aq).bind bU := by
  unfold aB aW bp
  cases ml σ with
  | ok a ae => dsimp; cases mr ae <;> rfl
  | exc => rfl
  | bad => rfl
 rw [e0] at hb ⊢
 refine wpAny_isTrue_Compare1 ((hl.at r).next rfl hb fun a ae aw az a' _ va au e => ?_) hm
 rw [e] at hb ⊢
 refine (hr.at au.rel).then au rfl hb fun b aq aK aT b' _ vb aJ st e => ?_
 rw [e] at hb ⊢
 refine At.then st (gP ok op aK aq aT a a' b b' aJ.rel (aJ.vr va) vb) rfl hb fun c aS b0 bF c' _ vc _ st' e => ?_
 rw [e] at hb ⊢
 exact (dN b0 aS bF c c' st'.rel vc).trans st' hb
noncomputable def n8 (op op' : CmpOp) (ml mr mr' : St → zV V) : St → zV Bool := fun σ => (ml σ).bind fun a ae => (mr ae).bind fun b aq => (j3 op a b aq).bind fun c aS => (bU c aS).bind fun t cg => if t then (mr' cg).bind fun d fD => (j3 op' b d fD).bind bU else .ok false cg
theorem gg (ok : C.Ok) {op op' : CmpOp} {ml mr mr' : St → zV V} {l r r' : Expr} {pos : Pos} (hl : bi prog w ac C ml (eval l C.env)) (hr : bi prog w ac C mr (eval r C.env)) (hr' : bi prog w ac C mr' (eval r' C.env))
  (hm : lastMarks [op, op'] [r, r'] = false) : pL prog w ac C (n8 op op' ml mr mr') (.Compare l [op, op'] [r, r'] pos) := by
 intro ρ σ s r hb
 refine isTrue_chain ((hl.at r).next rfl hb fun a ae aw az a' _ va au e => ?_) hm
 revert hb; refine e ▸ fun hb => ?_
 refine test_link ((hr.at au.rel).then au rfl hb fun b aq aK aT b' _ vb aJ st e => ?_)
 revert hb; refine e ▸ fun hb => ?_
 refine At.then st (gP ok op aK aq aT a a' b b' aJ.rel (aJ.vr va) vb) rfl hb fun c aS b0 bF c' _ vc b9 st' e => ?_
 revert hb; refine e ▸ fun hb => ?_
 refine At.then st' (dN b0 aS bF c c' st'.rel vc) rfl hb fun t cg iV j9 t' _ vt iW st'' e => ?_
 revert hb; refine e ▸ fun hb => ?_
 cases vt
 cases t with
 | false => exact zu rfl st''
 | true =>
  refine test_last ((hr'.at st''.rel).then st'' rfl hb fun d fD ua s₅ d' _ vd pT st5 e => ?_)
  revert hb; refine e ▸ fun hb => ?_
  refine At.then st5 (gP ok op' ua fD s₅ b b' d d' pT.rel (pT.vr (iW.vr (b9.vr vb))) vd) rfl hb fun f σ₆ ρ₆ s₆ f' _ vf _ st6 e => ?_
  revert hb; refine e ▸ fun hb => ?_
  exact (dN ρ₆ σ₆ s₆ f f' st6.rel vf).trans st6 hb
end
section
variable {prog : Program} {w : World} {ac : Heap} {C : Cx} {mg mb : Str → Option Value} {α β γ : Type} {ρ ρ' : List Addr} {σ σ' : St} {s s' : Shared}
noncomputable def zB (t : St → zV Bool) (a b : St → zV β) : St → zV β := fun σ => (t σ).bind fun c ae => if c then a ae else b ae
noncomputable def uq (t : St → zV Bool) : St → zV Bool := fun σ => (t σ).bind fun c ae => .ok (!c) ae
noncomputable abbrev gz (a b : St → zV Bool) : St → zV Bool := zB a b (aa false)
noncomputable abbrev zq (a b : St → zV Bool) : St → zV Bool := zB a (aa true) b
theorem lT {t : St → zV Bool} {x : Expr} {pos : Pos} (h : pL prog w ac C t x) : pL prog w ac C (uq t) (.UnaryOp .Not x pos) := by
 refine zS.gen fun ρ σ s z r e hb => ?_
 refine wpAny_isTrue_Not ((h.at r).next e hb fun a ae aw az a' _ va au e => ?_)
 subst e
 cases va
 exact zu rfl au
theorem yw {R : List Addr → β → α → Prop} {t : St → zV Bool} {a b : St → zV β} {ta tb : Sem α} {tt : Sem Bool} (ht : zS prog w ac C gK t tt) (ha : zS prog w ac C R a ta) (hb' : zS prog w ac C R b tb) (r : zT prog w ac C ρ σ s) (hb : zB t a b σ ≠ .bad) :
  wpAny (model prog w) C.A tt (fun c az => if c then wpAny (model prog w) C.A ta (zW prog w ac C R ρ σ s (zB t a b σ)) (z3 prog w ac C ρ σ s (zB t a b σ)) az else wpAny (model prog w) C.A tb (zW prog w ac C R ρ σ s (zB t a b σ)) (z3 prog w ac C ρ σ s (zB t a b σ)) az) (z3 prog w ac C ρ σ s (zB t a b σ)) s := by
 refine (ht.at r).next rfl hb fun c ae aw az c' _ vc au e => ?_
 rw [e] at hb ⊢
 cases vc
 cases c with
 | true => simp only [if_true] at hb ⊢; exact (ha.at au.rel).trans au hb
 | false => simp only [Bool.false_eq_true, if_false] at hb ⊢; exact (hb'.at au.rel).trans au hb
theorem eI {t : St → zV Bool} {a b : St → zV V} {x y z : Expr} {pos : Pos} (ht : pL prog w ac C t x) (ha : bi prog w ac C a (eval y C.env)) (hb : bi prog w ac C b (eval z C.env)) : bi prog w ac C (zB t a b) (eval (.IfExp x y z pos) C.env) :=
 fun _ _ _ r hn => wpAny_IfExp (yw ht ha hb r hn)
noncomputable abbrev iO (prog : Program) (w : World) (ac : Heap) (C : Cx) (op : BoolOp) (m : St → zV Bool) (es : List Expr) : Prop := zS prog w ac C gK m (allTrue op es C.env)
theorem cn : iO prog w ac C .And (aa true) [] := fun _ _ _ r _ => wpAny_allTrue_And_nil (zu rfl (.refl r))
theorem eU : iO prog w ac C .Or (aa false) [] := fun _ _ _ r _ => wpAny_allTrue_Or_nil (zu rfl (.refl r))
theorem bc {t u : St → zV Bool} {x : Expr} {rest : List Expr} (ht : pL prog w ac C t x) (hu : iO prog w ac C .And u rest) : iO prog w ac C .And (gz t u) (x :: rest) := by
 refine zS.gen fun ρ σ s z r e hb => ?_
 refine wpAny_allTrue_And_cons ((ht.at r).next e hb fun c ae aw az c' _ vc au e => ?_)
 subst e
 cases vc
 cases c with
 | true => simp only [if_true] at hb ⊢; exact (hu.at au.rel).trans au hb
 | false => simp only [Bool.false_eq_true, if_false] at hb ⊢; exact zu rfl au
theorem aV {t u : St → zV Bool} {x : Expr} {rest : List Expr} (ht : pL prog w ac C t x) (hu : iO prog w ac C .Or u rest) : iO prog w ac C .Or (zq t u) (x :: rest) := by
 refine zS.gen fun ρ σ s z r e hb => ?_
 refine wpAny_allTrue_Or_cons ((ht.at r).next e hb fun c ae aw az c' _ vc au e => ?_)
 subst e
 cases vc
 cases c with
 | true => simp only [if_true] at hb ⊢; exact zu rfl au
 | false => simp only [Bool.false_eq_true, if_false] at hb ⊢; exact (hu.at au.rel).trans au hb
theorem cA {t : St → zV Bool} {es : List Expr} {op : BoolOp} {pos : Pos} (h : iO prog w ac C op t es) : pL prog w ac C t (.BoolOp op es pos) := fun ρ σ s r hn => wpAny_isTrue_BoolOp (h ρ σ s r hn)
noncomputable def orV (a b : St → zV V) : St → zV V := fun σ => (a σ).bind fun v ae => (bU v ae).bind fun t aq => if t then .ok v aq else b aq
theorem uY {a b : St → zV V} {x y : Expr} {pos : Pos} (ha : bi prog w ac C a (eval x C.env)) (hb' : bi prog w ac C b (eval y C.env)) : bi prog w ac C (orV a b) (eval (.BoolOp .Or [x, y] pos) C.env) := by
 refine zS.gen fun ρ σ s z r e hb => ?_
 refine wpAny_Or2 ((ha.at r).next e hb fun v ae aw az v' _ vv au e => ?_)
 refine At.then au (dN aw ae az v v' au.rel vv) e hb fun t aq aK aT t' _ vt aJ st e => ?_
 subst e
 cases vt
 cases t with
 | true => simp only [if_true] at hb ⊢; exact zu (aJ.vr vv) st
 | false => simp only [Bool.false_eq_true, if_false] at hb ⊢; exact (hb'.at st.rel).trans st hb
noncomputable def tq (v : V) (σ : St) : zV V := match v with | .int i => .ok (.int (-i)) σ | _ => .bad
theorem lU {m : St → zV V} {x : Expr} {pos : Pos} (h : bi prog w ac C m (eval x C.env)) : bi prog w ac C (fun σ => (m σ).bind tq) (eval (.UnaryOp .USub x pos) C.env) := by
 refine zS.gen fun ρ σ s z r e hb => ?_
 refine wpAny_UnaryOp ((h.at r).next e hb fun a ae aw az a' _ va au e => ?_)
 subst e
 cases a <;> first | exact absurd rfl hb | skip
 obtain ⟨t, rfl⟩ := va
 exact neg_int (zu ⟨_, rfl⟩ (au.trans (au.rel.toks _)))
noncomputable abbrev j4 (prog : Program) (w : World) (ac : Heap) (C : Cx) (f : V → St → zV Unit) (t : Expr) : Prop := t6 prog w ac C fX f (assign t C.env)
noncomputable def ao (i : Nat) (v : V) (σ : St) : zV Unit := .ok () { σ with loc := σ.loc.set i (some v) }
theorem dW (ok : C.Ok) {x : Str} {i : Nat} (hx : (x, i) ∈ C.vars) : t6 prog w ac C fX (ao i) (storeName C.env x) := by
 intro ρ σ s a a' r ha hb
 obtain ⟨m, hm, hvs⟩ := r.ns
 exact wpAny_storeName_local (ok.loc _ hx) hm (fun h' hn hs => zu trivial (r.store ok hx ha hm hvs hn hs)) (by rw [ok.kind]; rfl)
theorem fJ (ok : C.Ok) {x : Str} {i : Nat} {pos : Pos} (hx : (x, i) ∈ C.vars) : j4 prog w ac C (ao i) (.Name x pos) :=
 fun ρ σ s a a' r ha hb => wpAny_assign_Name (dW ok hx ρ σ s a a' r ha hb)
theorem kF (ok : C.Ok) {x : Str} {i : Nat} {c : Addr} {pos : Pos} (hx : (x, i, c) ∈ C.cells) (hk : C.env.kindOf x = some .cell) : j4 prog w ac C (ao i) (.Name x pos) := by
 intro ρ σ s a a' r ha hb
 obtain ⟨_, _, _, v, hc, _⟩ := r.cel _ hx
 exact wpAny_assign_Name (wpAny_storeName_cell ok.kind hk (ok.cel _ hx).2 hc fun h' hn hs => zu trivial (r.storeCell (t := s.toks) ok hx ha hn hs))
theorem kB {m : St → zV V} {f : V → St → zV Unit} {t v : Expr} {pos : Pos} (hv : bi prog w ac C m (eval v C.env)) (ht : j4 prog w ac C f t) :
  bi prog w ac C (fun σ => (m σ).bind fun v ae => (f v ae).bind fun _ aq => .ok v aq) (eval (.NamedExpr t v pos) C.env) := by
 refine zS.gen fun ρ σ s z r e hb => ?_
 refine wpAny_NamedExpr ((hv.at r).next e hb fun a ae aw az a' _ va au e => ?_)
 refine At.then au (ht aw ae az a a' au.rel va) e hb fun _ aq aK aT _ _ _ aJ st e => ?_
 subst e
 exact zu (aJ.vr va) st
noncomputable abbrev gL (prog : Program) (w : World) (ac : Heap) (C : Cx) (m : St → zV F) (st : Stmt) : Prop := zS prog w ac C FR m (exec st C.env)
noncomputable abbrev fW (prog : Program) (w : World) (ac : Heap) (C : Cx) (m : St → zV F) (sts : List Stmt) : Prop := zS prog w ac C FR m (execs sts C.env)
noncomputable def aM (a b : St → zV F) : St → zV F := fun σ => (a σ).bind fun f ae => match f with | .next => b ae | f => .ok f ae
theorem aD : fW prog w ac C (aa .next) [] := fun _ _ _ r _ => wpAny_execs_nil (zu rfl (.refl r))
theorem ah {a b : St → zV F} {st : Stmt} {rest : List Stmt} (ha : gL prog w ac C a st) (hb' : fW prog w ac C b rest) : fW prog w ac C (aM a b) (st :: rest) := by
 refine zS.gen fun ρ σ s z r e hb => ?_
 refine wpAny_execs_cons ((ha.at r).next e hb fun f ae aw az f' _ vf au e => ?_)
 subst e
 cases f with
 | next => cases vf; exact (hb'.at au.rel).trans au hb
 | brk => cases vf; exact zu rfl au
 | cont => cases vf; exact zu rfl au
 | ret v => obtain ⟨x, rfl, hv⟩ := vf; exact zu ⟨x, rfl, hv⟩ au
theorem ar {a : St → zV F} {st : Stmt} (ha : gL prog w ac C a st) : fW prog w ac C a [st] := by
 intro ρ σ s r hb
 refine wpAny_execs_cons (wpAny_mono (ha.at r hb) (fun f az h => ?_) fun _ _ h => h)
 cases hm : a σ with
 | ok f' ae =>
  rw [hm] at h
  obtain ⟨aw, vf, au⟩ := h
  cases f' with
  | next => cases vf; exact wpAny_execs_nil (zu rfl au)
  | brk => cases vf; exact zu rfl au
  | cont => cases vf; exact zu rfl au
  | ret v => obtain ⟨x, rfl, hv⟩ := vf; exact zu ⟨x, rfl, hv⟩ au
 | exc => rw [hm] at h; exact h.elim
 | bad => rw [hm] at h; exact h.elim
noncomputable def an (m : St → zV V) (f : V → St → zV Unit) : St → zV F := fun σ => (m σ).bind fun v ae => (f v ae).bind fun _ aq => .ok .next aq
theorem al {m : St → zV V} {f : V → St → zV Unit} {t v : Expr} {pos : Pos} (hv : bi prog w ac C m (eval v C.env)) (ht : j4 prog w ac C f t)
  (hs : swapsWithSole [t] v pos.line C.env = pure false) (hw : swappedStores [t] v C.env = pure none) (he : (assignEach [t] C.env).map (·.2) = [assign t C.env]) :
  gL prog w ac C (an m f) (.Assign [t] v pos) := by
 refine zS.gen fun ρ σ s z r e hb => ?_
 refine wpAny_Assign_stores ((hv.at r).next e hb fun a ae aw az a' _ va au e => ?_) hs hw
 rw [he]
 show wpAny _ _ (assign t C.env a') _ _ _
 refine At.then au (ht aw ae az a a' au.rel va) e hb fun _ aq aK aT _ _ _ aJ st e => ?_
 subst e
 exact zu rfl st
noncomputable def jY (m : St → zV V) (f g : V → St → zV Unit) : St → zV F := fun σ => (m σ).bind fun v ae => (f v ae).bind fun _ aq => (g v aq).bind fun _ aS => .ok .next aS
theorem lX {m : St → zV V} {f g : V → St → zV Unit} {t u v : Expr} {pos : Pos} (hv : bi prog w ac C m (eval v C.env)) (ht : j4 prog w ac C f t) (hu : j4 prog w ac C g u)
  (hw : swappedStores [t, u] v C.env = pure none) (he : (assignEach [t, u] C.env).map (·.2) = [assign t C.env, assign u C.env]) :
  gL prog w ac C (jY m f g) (.Assign [t, u] v pos) := by
 refine zS.gen fun ρ σ s z r e hb => ?_
 refine wpAny_Assign_two ((hv.at r).next e hb fun a ae aw az a' _ va au e => ?_) he hw
 refine At.then au (ht aw ae az a a' au.rel va) e hb fun _ aq aK aT _ _ _ aJ st e => ?_
 refine At.then st (hu aK aq aT a a' aJ.rel (aJ.vr va)) e hb fun _ aS b0 bF _ _ _ b9 st' e => ?_
 subst e
 exact zu rfl st'
noncomputable def bE (m : St → zV V) : St → zV F := fun σ => (m σ).bind fun _ ae => .ok .next ae
theorem bj {m : St → zV V} {v : Expr} {pos : Pos} (hv : bi prog w ac C m (eval v C.env)) (hi : interactive C.env = false) (hs : swapsWith v none pos.line C.env = pure false) : gL prog w ac C (bE m) (.Expr v pos) := by
 refine zS.gen fun ρ σ s z r e hb => ?_
 refine wpAny_Expr_any ((hv.at r).next e hb fun a ae aw az a' _ va au e => ?_) hi hs
 subst e
 exact zu rfl au
theorem aQ {t : St → zV Bool} {a b : St → zV F} {x : Expr} {y z : List Stmt} {pos : Pos} (ht : pL prog w ac C t x) (ha : fW prog w ac C a y) (hb : fW prog w ac C b z) : gL prog w ac C (zB t a b) (.If x y z pos) :=
 fun _ _ _ r hn => wpAny_If (yw ht ha hb r hn)
noncomputable def dh (m : St → zV V) : St → zV F := fun σ => (m σ).bind fun v ae => .ok (.ret v) ae
theorem aZ {m : St → zV V} {v : Expr} {pos : Pos} (hv : bi prog w ac C m (eval v C.env)) : gL prog w ac C (dh m) (.Return (some v) pos) := by
 refine zS.gen fun ρ σ s z r e hb => ?_
 refine wpAny_Return_some ((hv.at r).next e hb fun a ae aw az a' _ va au e => ?_)
 subst e
 exact zu ⟨a', rfl, va⟩ au
theorem fH {pos : Pos} : gL prog w ac C (aa .brk) (.Break pos) := fun _ _ _ r _ => wpAny_Break (zu rfl (.refl r))
theorem dB {pos : Pos} : gL prog w ac C (aa .cont) (.Continue pos) := fun _ _ _ r _ => wpAny_Continue (zu rfl (.refl r))
noncomputable def opI (op : Operator) (a b : V) (σ : St) : zV V := match op with
 | .Add =>
  cond (zL a).isSome (zA (fun a b => .ok (.int (a + b)) σ) a b) (gS a fun x => gS b fun y => if x.length + y.length ≤ sizeLine then .ok (.str (x ++ y)) σ else .bad)
 | .Sub => zA (fun a b => .ok (.int (a - b)) σ) a b
 | _ => .bad
theorem qa (op : Operator) : yL prog w ac C VR (opI op) (fun a b => inplaceOp op a b) := by
 intro ρ σ s a a' b b' r ha hb
 cases op with
 | Add =>
  exact bw (eC (T := inplaceOp .Add) ha hb fun x y t u _ => iadd_int (zu ⟨_, rfl⟩ (r.toks _)))
   (dA (t := fun a' => inplaceOp .Add a' b') ha fun x t => dA (t := fun b' => inplaceOp .Add (.str x t) b') hb fun y u => a8 fun h _ => iadd_str (fun t' k => zu ⟨_, rfl⟩ (r.toks _)) h)
 | Sub => exact eC (T := inplaceOp .Sub) ha hb fun x y t u _ => isub_int (zu ⟨_, rfl⟩ (r.toks _))
 | _ => exact fun h => absurd rfl h
theorem kC (ok : C.Ok) {x : Str} {i : Nat} (hx : (x, i) ∈ C.vars) : bi prog w ac C (ai i) (loadName C.env x) := by
 intro ρ σ s r hb
 obtain ⟨m, hm, hv⟩ := r.ns
 have hvx := hv (x, i) hx
 unfold ai at hb ⊢
 cases q : (σ.loc[i]?).join with
 | none => rw [q] at hb; exact absurd rfl hb
 | some v =>
  simp only [q] at hvx hb ⊢
  obtain ⟨y, e, hy⟩ := hvx
  exact wpAny_loadName_local ok.kind (ok.loc _ hx) hm e (zu hy (.refl r))
noncomputable def w0 (op : Operator) (i : Nat) (m : St → zV V) : St → zV F := fun σ => (ai i σ).bind fun a ae => (m ae).bind fun b aq => (opI op a b aq).bind fun c aS => (ao i c aS).bind fun _ cg => .ok .next cg
theorem u5 (ok : C.Ok) {op : Operator} {x : Str} {i : Nat} {m : St → zV V} {v : Expr} {p pos : Pos} (hx : (x, i) ∈ C.vars) (hv : bi prog w ac C m (eval v C.env)) : gL prog w ac C (w0 op i m) (.AugAssign (.Name x p) op v pos) := by
 refine zS.gen fun ρ σ s z r e hb => ?_
 refine wpAny_AugAssign_Name (((kC ok hx).at r).next e hb fun a ae aw az a' _ va au e => ?_)
 refine (hv.at au.rel).then au e hb fun b aq aK aT b' _ vb aJ st e => ?_
 refine At.then st (qa op aK aq aT a a' b b' aJ.rel (aJ.vr va) vb) e hb fun c aS b0 bF c' _ vc b9 st' e => ?_
 refine At.then st' (dW ok hx b0 aS bF c c' b9.rel vc) e hb fun _ cg iV j9 _ _ _ iW st'' e => ?_
 subst e
 exact zu rfl st''
noncomputable def bT (t : St → zV Bool) (b e : St → zV F) : Nat → St → zV F
 | 0, _ => .bad
 | n + 1, σ => (t σ).calm.bind fun c ae => if c then ((b ae).calm.bind fun f aq => match f with
   | .next | .cont => bT t b e n aq
   | .brk => .ok .next aq
   | .ret v => .ok (.ret v) aq) else (e ae).calm
inductive WhI (prog : Program) (w : World) (ac : Heap) (C : Cx) (ρ : List Addr) (σ : St) (s : Shared) (f : Nat → St → zV F) (o : zV F) (k : Nat) (s' : Shared) : Prop
 | mk (ρ' : List Addr) (σ' : St) (st : Step prog w ac C ρ σ s ρ' σ' s') (hf : f k σ' = o)
theorem dM {t : St → zV Bool} {b e : St → zV F} {x : Expr} {y z : List Stmt} {pos : Pos} (n : Nat) (ht : pL prog w ac C t x) (hb : fW prog w ac C b y) (he : fW prog w ac C e z) : gL prog w ac C (bT t b e n) (.While x y z pos) := by
 refine zS.gen fun ρ σ s o r ho hn => ?_
 refine wpAny_While (codeAny_mono (R := fun r s' => ∃ f, r = .ok f ∧ zW prog w ac C FR ρ σ s o f s') ?_ fun r s' ⟨f, e, h⟩ => by subst e; exact h)
 refine codeAny_whileLoop (I := WhI prog w ac C ρ σ s (bT t b e) o) (fun k bg ⟨cu, ct, iX, hf⟩ => ?_) n ⟨ρ, σ, .refl r, ho.symm⟩
 cases k with
 | zero => exact absurd hf.symm hn
 | succ k =>
  refine (ht.at iX.rel).calmF hf hn fun c ae aw az c' vc au hf => ?_
  cases vc
  cases c with
  | true =>
   refine (hb.at au.rel).calmF hf hn fun f aq aK aT f' vf aJ hf => ?_
   have st := (iX.trans au).trans aJ
   cases f with
   | next => cases vf; exact ⟨k, Nat.lt_succ_self k, aK, aq, st, hf⟩
   | cont => cases vf; exact ⟨k, Nat.lt_succ_self k, aK, aq, st, hf⟩
   | brk => cases vf; exact ⟨_, rfl, hf ▸ zu rfl st⟩
   | ret v => obtain ⟨x, rfl, hv⟩ := vf; exact ⟨_, rfl, hf ▸ zu ⟨x, rfl, hv⟩ st⟩
  | false =>
   refine (he.at au.rel).calm (fun q => hn (hf.symm.trans q)) fun f aq aK aT f' jR vf aJ => ?_
   exact ⟨_, rfl, (jR.symm.trans hf) ▸ zu vf ((iX.trans au).trans aJ)⟩
end
noncomputable def ut (h : Heap) (S : List Addr) : Heap := ⟨h.objs.mapIdx fun i o => if i ∈ S then { o with data := .freed } else o, h.life⟩
theorem gW (h : Heap) (S : List Addr) (a : Addr) : (ut h S).get? a = if a ∈ S then none else h.get? a := by
 unfold Heap.get? ut
 dsimp only
 rw [Array.getElem?_mapIdx]
 by_cases hs : a ∈ S
 ·rw [if_pos hs]
  cases h.objs[a]? with
  | none => rfl
  | some o => simp [hs]
 ·rw [if_neg hs]
  cases h.objs[a]? with
  | none => rfl
  | some o => simp [hs]
theorem o7 (h : Heap) (S : List Addr) : (ut h S).StaysIn h := fun b o e => by
 rw [gW] at e
 split at e
 ·cases e
 ·exact e
section
variable {prog : Program} {w : World} {ac : Heap} {A : Around} {E : Value → Shared → Prop} {ρ : List Addr} {s : Shared} {M : Model}
noncomputable def bD (l : List Env) : List Addr := l.filterMap (·.frame)
theorem zZ.mem {h : Heap} {l : List Env} (x : zZ ac h l) {L : Addr} (hm : L ∈ bD l) : ac.get? L = none ∧ ∃ o es n, h.get? L = some o ∧ o.data = .dict es n := by
 obtain ⟨e, he, hf⟩ := List.mem_filterMap.mp hm
 obtain ⟨_, L', o, es, n, hf', hb, ho, hd⟩ := x e he
 rw [hf] at hf'; cases hf'
 exact ⟨hb, o, es, n, ho, hd⟩
theorem zZ.fun {h base : Heap} : ∀ {l : List Env}, zZ ac h l → (∀ L ∈ bD l, base.get? L = none) → h.FunFrames base l
 | [], _, _ => trivial
 | e :: l, x, hb => by
  obtain ⟨hk, L, o, es, n, hf, _, ho, hd⟩ := x e (.head _)
  refine ⟨hk, ⟨L, o, hf, hb L (by simp [bD, hf]), ho, fun vs q => by rw [hd] at q; cases q⟩, zZ.fun (fun e' he' => x e' (.tail _ he')) fun L' hL' => hb L' ?_⟩
  simp only [bD, List.filterMap_cons, hf] at hL' ⊢
  exact .tail _ hL'
theorem jf {bG : Heap} {own : Addr → Prop} {env : Env} {outer : List Env} {L : Addr} {c : V} {args : List V} {e : Value} {Q : Unit → Shared → Prop} (hfr : A.frames = some (env :: outer)) (hL : env.frame = some L) (frs : zZ ac s.heap (env :: outer)) (fl : cH bG own ρ c args e s.heap)
  (hown : ∀ a, own a → s.heap.get? a ≠ none) (hb0 : ∀ a, ac.get? a ≠ none → bG.get? a ≠ none) (hlive : ∀ a, bG.get? a ≠ none → s.heap.get? a ≠ none)
  (hQ : ∀ h', (∀ a o, s.heap.get? a = some o → (own a ∨ ac.get? a ≠ none ∨ e ≠ .ref a ∧ ∀ vs, o.data ≠ .fields vs ) → ∃ o', h'.get? a = some o' ∧ iQ o o') →
   (∀ a o, s.heap.get? a = some o → (own a ∨ ac.get? a ≠ none) → a ∉ bD (env :: outer) → h'.get? a = some o) → cH bG own ρ c args e h' →
   (∃ ea T, e = .ref ea ∧ ¬ own ea ∧ ¬ own T ∧ bG.get? ea = none ∧ bG.get? T = none ∧ ∀ a o, s.heap.get? a = some o → a ≠ ea → a ≠ T → ∃ o', h'.get? a = some o' ∧ iQ o o') → Q () { s with heap := h' }) :
  wpAny M A (noteFrame e env) (fun _ s' => wpAny M A (setFlight e none) Q E s') E s := by
 obtain ⟨a, oe, vs, t, as, n, rfl, ha, hao, hoe, hc, hd, h0, ht, hto, htt, has, hv1⟩ := fl
 obtain ⟨T, hT1, hT2, hTT⟩ : ∃ T, bG.get? T = none ∧ ¬ own T ∧ ((vs[1]? = some .none ∧ T = a) ∨ ∃ oT ts, vs[1]? = some (.ref T) ∧ T ≠ a ∧ s.heap.get? T = some oT ∧ oT.data = .fields ts ∧ ts[3]? = some .none) := by
  rcases hv1 with h | ⟨T, oT, ts, h1, h2, h3, h4, h5, h6, h7⟩
  ·exact ⟨a, ha, hao, .inl ⟨h, rfl⟩⟩
  ·exact ⟨T, h3, h4, .inr ⟨oT, ts, h1, h2, h5, h6, h7⟩⟩
 let S := a :: T :: bD (env :: outer)
 have hTf : ∀ {o : Obj}, s.heap.get? T = some o → ∃ ws, o.data = .fields ws := fun {o} q => by
  rcases hTT with ⟨_, rfl⟩ | ⟨oT, ts, _, _, h5, h6, _⟩
  ·rw [hoe] at q; cases q; exact ⟨vs, hd⟩
  ·rw [h5] at q; cases q; exact ⟨ts, h6⟩
 have bs : (ut s.heap S).StaysIn s.heap := o7 _ _
 have bmem : ∀ {x}, x ∈ S → (ut s.heap S).get? x = none := fun hx => by rw [gW, if_pos hx]
 have bout : ∀ {x o}, s.heap.get? x = some o → x ∉ S → (ut s.heap S).get? x = some o := fun q hx => by rw [gW, if_neg hx]; exact q
 have ff : s.heap.FunFrames (ut s.heap S) (env :: outer) := frs.fun fun L hL => bmem (.tail _ (.tail _ hL))
 have fin : ∀ h', Heap.LeftW (ut s.heap S) (env :: outer) a oe.cls (.ref t) s.heap h' → Q () { s with heap := h' } := by
  rintro h' ⟨k1, k2, ⟨oe', vs', T', oT', ts', g1, ⟨g2, g3⟩, g4, g5, g6, g7, g8, g9, g10⟩, k4⟩
  have fr' : ∀ L ∈ bD (env :: outer), ∀ o, s.heap.get? L = some o → ∃ sl, h'.get? L = some { o with slots := sl } := fun L hL o ho => by
   obtain ⟨_, o', es, m, ho', hd'⟩ := frs.mem hL
   rw [ho] at ho'; cases ho'
   exact k4 L o ho fun ws q => by rw [hd'] at q; cases q
  have same : ∀ x o, s.heap.get? x = some o → x ≠ a → x ≠ T → ∃ o', h'.get? x = some o' ∧ iQ o o' := fun x o hx hxa hxT => by
   by_cases hf : x ∈ bD (env :: outer)
   ·obtain ⟨_, o', es, m, ho', hd'⟩ := frs.mem hf
    rw [hx] at ho'; cases ho'
    obtain ⟨sl, q⟩ := fr' x hf o hx
    exact ⟨_, q, .inr ⟨⟨es, m, hd'⟩, sl, rfl⟩⟩
   ·exact ⟨o, k1 x o (bout hx (by simp [S, hxa, hxT, hf])), .refl o⟩
  have exact' : ∀ x o, s.heap.get? x = some o → x ≠ a → x ≠ T → x ∉ bD (env :: outer) → h'.get? x = some o := fun x o hx hxa hxT hf => k1 x o (bout hx (by simp [S, hxa, hxT, hf]))
  have oth : ∀ x, (own x ∨ ac.get? x ≠ none) → x ≠ a ∧ x ≠ T := fun x hx => by
   rcases hx with hx | hx
   ·exact ⟨by rintro rfl; exact hao hx, by rintro rfl; exact hT2 hx⟩
   ·exact ⟨by rintro rfl; exact hb0 _ hx ha, by rintro rfl; exact hb0 _ hx hT1⟩
  have hta : t ≠ a := by rintro rfl; rw [hoe] at htt; cases htt; cases hd
  have htT : t ≠ T := by rintro rfl; obtain ⟨ws, q⟩ := hTf htt; cases q
  have htf : t ∉ bD (env :: outer) := fun hm => by
   obtain ⟨_, o', es, m, ho', hd'⟩ := frs.mem hm
   rw [htt] at ho'; cases ho'; cases hd'
  have hT' : bG.get? T' = none ∧ ¬ own T' := by
   rw [gW] at g6
   split at g6
   ·rename_i hm
    simp only [S, List.mem_cons] at hm
    rcases hm with rfl | rfl | hm
    ·exact absurd rfl g7
    ·exact ⟨hT1, hT2⟩
    ·obtain ⟨_, o', es, m, ho', hd'⟩ := frs.mem hm
     obtain ⟨sl, q⟩ := fr' T' hm o' ho'
     rw [g8] at q; cases q
     rw [hd'] at g9; cases g9
   ·refine ⟨?_, fun q => hown _ q g6⟩
    cases q : bG.get? T' with
    | none => rfl
    | some o => exact absurd g6 (hlive _ (by rw [q]; simp))
  refine hQ h' (fun x o hx hor => ?_) (fun x o hx hor hf => exact' x o hx (oth x hor).1 (oth x hor).2 hf) ?_ ⟨a, T, rfl, hao, hT2, ha, hT1, same⟩
  ·rcases hor with h | h | ⟨h, h'⟩
   ·exact same x o hx (oth x (.inl h)).1 (oth x (.inl h)).2
   ·exact same x o hx (oth x (.inr h)).1 (oth x (.inr h)).2
   ·refine same x o hx (fun q => h (q ▸ rfl)) fun q => ?_
    subst q
    obtain ⟨ws, q⟩ := hTf hx
    exact h' ws q
  ·exact ⟨a, oe', vs', t, as, n, rfl, ha, hao, g1, g2 ▸ hc, g4, g3, ht, hto, exact' t _ htt hta htT htf, has, .inr ⟨T', oT', ts', g5, g7, hT'.1, hT'.2, g8, g9, g10⟩⟩
 rcases hTT with ⟨hv, rfl⟩ | ⟨oT, ts, hv, hne, h5, h6, h7⟩
 ·unfold noteFrame
  simp only [hL]
  refine wpAny_bind (wpAny_field hoe hd hv ?_)
  rw [if_neg (by decide)]
  exact wpAny_newEntryW hfr ff hL hoe bs (bmem (.head _)) hd (Array.getElem?_eq_some_iff.mp hv).1 h0 fin
 ·have oth : ∀ b, b ≠ T → (s.heap.update T (Obj.mapFields (·.setIfInBounds 3 Value.none))).get? b = s.heap.get? b := fun b hb => Heap.get?_update_other _ _ (Ne.symm hb)
  have nrec : ∀ b o, s.heap.get? b = some o → (∀ vs, o.data ≠ .fields vs) → b ≠ T := fun b o hb hnf q => by
   subst q; rw [h5] at hb; cases hb; exact hnf ts h6
  unfold noteFrame
  simp only [hL]
  refine wpAny_bind (wpAny_field hoe hd hv ?_)
  rw [if_pos (by simp)]
  refine wpAny_bind (wpAny_field h5 h6 h7 ?_)
  rw [if_neg (by simp [rawInt])]
  refine wpAny_bind (wpAny_setField h5 h6 (Array.getElem?_eq_some_iff.mp h7).1 ?_)
  refine wpAny_newEntryW hfr (ff.of_keeps fun b o hb hnf => ⟨o, (oth b (nrec b o hb hnf)).trans hb, rfl⟩) hL ((oth a (Ne.symm hne)).trans hoe)
   (fun b o hbo => (oth b fun q => by rw [q, bmem (.tail _ (.head _))] at hbo; cases hbo).trans (bs b o hbo)) (bmem (.head _)) hd (Array.getElem?_eq_some_iff.mp hv).1 h0
   fun h' x => fin h' ⟨x.1, x.2.1, x.2.2.1, fun b o hb hnf => x.2.2.2 b o ((oth b (nrec b o hb hnf)).trans hb) hnf⟩
theorem mE {bG : Heap} {own : Addr → Prop} {env : Env} {outer : List Env} {L : Addr} {c : V} {args : List V} {e : Value} {Q : Unit → Shared → Prop} (hfr : A.frames = some (env :: outer)) (hL : env.frame = some L) (frs : zZ ac s.heap (env :: outer)) (fl : cH bG own ρ c args e s.heap)
  (hown : ∀ a, own a → s.heap.get? a ≠ none) (hb0 : ∀ a, ac.get? a ≠ none → bG.get? a ≠ none) (hlive : ∀ a, bG.get? a ≠ none → s.heap.get? a ≠ none)
  (hQ : ∀ h', (∀ a o, s.heap.get? a = some o → (own a ∨ ac.get? a ≠ none ∨ e ≠ .ref a ∧ ∀ vs, o.data ≠ .fields vs ) → ∃ o', h'.get? a = some o' ∧ iQ o o') →
   (∀ a o, s.heap.get? a = some o → (own a ∨ ac.get? a ≠ none) → a ∉ bD (env :: outer) → h'.get? a = some o) → cH bG own ρ c args e h' →
   (∃ ea T, e = .ref ea ∧ ¬ own ea ∧ ¬ own T ∧ bG.get? ea = none ∧ bG.get? T = none ∧ ∀ a o, s.heap.get? a = some o → a ≠ ea → a ≠ T → ∃ o', h'.get? a = some o' ∧ iQ o o') → Q () { s with heap := h' }) :
  wpAny M A (leaving env e) Q E s := wpAny_bind (jf hfr hL frs fl hown hb0 hlive hQ)
end
structure cF (prog : Program) (w : World) (ac : Heap) (ρ : List Addr) (H : List O) (s : Shared) (ρ' : List Addr) (H' : List O) (s' : Shared) : Prop where
 rel : eh prog w ac ρ' H' s'
 ext : ∃ more, ρ' = ρ ++ more ∧ ∀ a ∈ more, s.heap.get? a = none
 pres : Pres (· ∈ ρ) s s'
 rest : rV s s'
section
variable {prog : Program} {w : World} {ac : Heap} {C : Cx} {ρ ρ' ρ'' : List Addr} {σ : St} {H H' H'' : List O} {s s' s'' : Shared}
theorem cF.refl (r : eh prog w ac ρ H s) : cF prog w ac ρ H s ρ H s := ⟨r, ⟨[], by simp, by simp⟩, fun _ o e _ => ⟨o, e, .refl o⟩, .refl s⟩
theorem cF.trans (a : cF prog w ac ρ H s ρ' H' s') (b : cF prog w ac ρ' H' s' ρ'' H'' s'') : cF prog w ac ρ H s ρ'' H'' s'' := by
 obtain ⟨m1, e1, n1⟩ := a.ext
 obtain ⟨m2, e2, n2⟩ := b.ext
 refine ⟨b.rel, ⟨m1 ++ m2, by rw [e2, e1, List.append_assoc], fun x hx => ?_⟩, fun x o hx hn => ?_, a.rest.trans b.rest⟩
 ·rcases List.mem_append.mp hx with h | h
  ·exact n1 x h
  ·cases q : s.heap.get? x with
   | none => rfl
   | some o =>
    exfalso
    by_cases ho : x ∈ ρ
    ·have := b.rel.nodup
     rw [e2] at this
     exact (List.nodup_append.mp this).2.2 x (e1 ▸ List.mem_append_left _ ho) x h rfl
    ·obtain ⟨o', q', _⟩ := a.pres x o q ho
     rw [n2 x h] at q'; cases q'
 ·obtain ⟨o', h', e'⟩ := a.pres x o hx hn
  obtain ⟨o'', h'', e''⟩ := b.pres x o' h' fun hm => by
   rw [e1, List.mem_append] at hm
   rcases hm with h | h
   ·exact hn h
   ·rw [n1 x h] at hx; cases hx
  exact ⟨o'', h'', e'.trans e''⟩
theorem cF.all (a : cF prog w ac ρ H s ρ' H' s') {v : List V} {x : List Value} (h : bL ρ v x) : bL ρ' v x := by
 obtain ⟨m, rfl, _⟩ := a.ext; exact h.mono
theorem cF.up (r : zT prog w ac C ρ σ s) (a : cF prog w ac ρ σ.heap s ρ' H' s') : Step prog w ac C ρ σ s ρ' { σ with heap := H' } s' := by
 obtain ⟨m1, e1, n1⟩ := a.ext
 have live : ∀ {x o}, s.heap.get? x = some o → x ∉ ρ → x ∉ ρ' := fun hx hn hm => by
  rw [e1, List.mem_append] at hm
  rcases hm with h | h
  ·exact hn h
  ·rw [n1 _ h] at hx; cases hx
 refine ⟨⟨a.rel, ?_, ⟨r.lnew.1, ?_⟩, fun p hp => ?_, dt r.frs fun e he L hL o ho => a.pres L o ho (r.frn e he L hL).1, fun e he L hL => ⟨?_, (r.frn e he L hL).2⟩, r.locs⟩, a.ext, fun x o hx hn => a.pres x o hx fun h => hn (.inl h), fun _ _ => rfl, a.rest⟩
 ·obtain ⟨m, hm, hv⟩ := r.ns
  refine ⟨m, d7 hm fun o ho => a.pres _ o ho r.lnew.2, fun p hp => ?_⟩
  rw [e1]; exact (hv p hp).mono
 ·obtain ⟨m, ⟨o, _, _, ho, _⟩, _⟩ := r.ns
  exact live ho r.lnew.2
 ·obtain ⟨g1, g2, g3, v, ⟨o, ho, hd⟩, g5⟩ := r.cel p hp
  obtain ⟨o', ho', hs⟩ := a.pres _ o ho g2
  refine ⟨g1, live ho g2, g3, v, ⟨o', ho', ?_⟩, by rw [e1]; exact g5.mono⟩
  rcases hs with rfl | ⟨_, sl, rfl⟩ <;> exact hd
 ·obtain ⟨_, L', o, es, n, hf', _, ho', _⟩ := r.frs e he
  rw [hL] at hf'; cases hf'
  exact live ho' (r.frn e he L hL).1
noncomputable abbrev cY := List V → List O → zV V
noncomputable def FunP (prog : Program) (w : World) (ac : Heap) (ρ : List Addr) (H : List O) (s : Shared) (o : zV V) (r : Result) (s' : Shared) : Prop := match o with
 | .ok v τ => ∃ x ρ', r = .ok (.ret x) ∧ VR ρ' v x ∧ cF prog w ac ρ H s ρ' τ.heap s'
 | .exc c as τ => ∃ e ρ', r = .error e ∧ cH s.heap (· ∈ ρ') ρ' c as e s'.heap ∧ cF prog w ac ρ H s ρ' τ.heap s'
 | .bad => False
noncomputable def dy (prog : Program) (w : World) (ac : Heap) (k : Nat) (f : Value) (mk : List Value → Args) (m : cY) : Prop := ∀ A outer ρ H s vs xs, A.frames = some outer → A.handled = none → A.depth + k < recursionLimit → A.units + 8 * k + 100 < cLine → zZ ac s.heap outer → (∀ L ∈ bD outer, L ∉ ρ) → eh prog w ac ρ H s → bL ρ vs xs → m vs H ≠ .bad → codeAny (model prog w) A (.call f (mk xs)) (FunP prog w ac ρ H s (m vs H)) s
noncomputable abbrev av : List Value → Args := fun xs => ⟨xs, []⟩
noncomputable def bJ (m : cY) (vs : List V) (σ : St) : zV V := match m vs σ.heap with
 | .ok v τ => .ok v { σ with heap := τ.heap }
 | .exc c as τ => .exc c as { σ with heap := τ.heap }
 | .bad => .bad
theorem iu (r : zT prog w ac C ρ σ s) {a : Addr} {o : Obj} (ha : a ∉ ρ) (ho : s.heap.get? a = some o) (hd : wO o) : ¬ zU C ρ a := by
 rintro (h | h | ⟨p, hp, h⟩)
 ·exact ha h
 ·subst h
  obtain ⟨m, ⟨o', es, ep, ho', hd', _⟩, _⟩ := r.ns
  rw [ho] at ho'; cases ho'
  rcases hd with ⟨vs, q⟩ | ⟨vs, n, q⟩ <;> rw [hd'] at q <;> cases q
 ·subst h
  obtain ⟨_, _, _, v, ⟨o', ho', hd'⟩, _⟩ := r.cel p hp
  rw [ho] at ho'; cases ho'
  rcases hd with ⟨vs, q⟩ | ⟨vs, n, q⟩ <;> rw [hd'] at q <;> cases q
theorem cH.up {bG : Heap} (r : zT prog w ac C ρ σ s) {c : V} {as : List V} {e : Value} (f : cH bG (· ∈ ρ) ρ c as e s.heap) : cH bG (zU C ρ) ρ c as e s.heap :=
 f.map (fun _ h => h) (fun _ h => h) fun _ _ h1 h2 h3 h4 => ⟨h1, iu r h2 h3 h4, h3⟩
theorem cH.down {own : Addr → Prop} {bG h : Heap} {c : V} {as : List V} {e : Value} (f : cH bG own ρ c as e h) (hw : ∀ a ∈ ρ, own a) : cH bG (· ∈ ρ) ρ c as e h :=
 f.map (fun _ h => h) (fun _ h => h) fun _ _ h1 h2 h3 _ => ⟨h1, fun q => h2 (hw _ q), h3⟩
noncomputable def cS (prog : Program) (w : World) (ac : Heap) (C : Cx) (f : Value) (mk : List Value → Args) (g : List V → St → zV V) : Prop := ∀ ρ σ s vs xs, zT prog w ac C ρ σ s → bL ρ vs xs → At prog w ac C VR ρ σ s (g vs σ) (call f (mk xs).pos (mk xs).kw)
theorem ql (ok : C.Ok) (hq : C.A.handled = none) {k : Nat} {f : Value} {mk : List Value → Args} {m : cY} (hk : k ≤ C.k) (h : dy prog w ac k f mk m) : cS prog w ac C f mk (bJ m) := by
 intro ρ σ s vs xs r ha hn
 have hm : m vs σ.heap ≠ .bad := fun q => hn (by unfold bJ; rw [q])
 have hd := ok.depth
 have hu := ok.units
 have frm : ∀ L ∈ bD (C.fenv :: C.outer), L ∉ ρ := fun L hL => by
  obtain ⟨e, he, hf⟩ := List.mem_filterMap.mp hL
  exact (r.frn e he L hf).1
 refine wpAny_call (codeAny_mono (h C.A _ ρ σ.heap s vs xs ok.fr hq (by lia) (by lia) r.frs frm r.hp ha hm) fun res s' hp => ?_)
 unfold bJ at hn ⊢
 cases q : m vs σ.heap with
 | ok v τ =>
  rw [q] at hp
  obtain ⟨x, ρ', rfl, hv, st⟩ := hp
  exact zu hv (st.up r)
 | exc c as τ =>
  rw [q] at hp
  obtain ⟨e, ρ', rfl, hf, st⟩ := hp
  exact ⟨ρ', hf.up (st.up r).rel, st.up r⟩
 | bad => rw [q] at hp; exact hp.elim
end
structure wR (ac : Heap) (fa : Addr) (fd : FuncData) (body : List Stmt) : Prop where
 obj : ∃ o, ac.get? fa = some o ∧ o.data = .func fd
 cd : ac.CodeRec fd.code fd.qualname
 body : fd.body = .stmts body
 clo : fd.closure = []
 glob : fd.globals = mainGlobals
 bl : fd.builtins = builtinsNs
 co : fd.scope.isCoroutine = false
 gen : fd.scope.isGenerator = false
 kind : fd.scope.kind = .function
theorem pe {l : List (Str × Value)} (h : (l.map (·.1)).Nodup) {x : Str} {v : Value} (hm : (x, v) ∈ l) : l.lookup x = some v := by
 induction l with
 | nil => cases hm
 | cons p l ih =>
  obtain ⟨y, u⟩ := p
  rw [List.map_cons, List.nodup_cons] at h
  rcases List.mem_cons.mp hm with e | hm'
  ·cases e; simp
  ·have hne : (x == y) = false := by
    rw [beq_eq_false_iff_ne]
    intro q
    subst q
    exact h.1 (List.mem_map.mpr ⟨(x, v), hm', rfl⟩)
   rw [List.lookup_cons, hne]
   exact ih h.2 hm'
theorem mB {l : List (Str × Value)} {x : Str} (h : x ∉ l.map (·.1)) : l.lookup x = none := by
 induction l with
 | nil => rfl
 | cons p l ih =>
  obtain ⟨y, u⟩ := p
  rw [List.map_cons, List.mem_cons, not_or] at h
  have hne : (x == y) = false := by rw [beq_eq_false_iff_ne]; exact h.1
  rw [List.lookup_cons, hne]
  exact ih h.2
theorem rW {ps : List Str} {ys : List Value} (h : ys.length = ps.length) : (ps.zip ys).map (·.1) = ps := by
 rw [List.map_fst_zip]; lia
noncomputable def dH (n : Nat) (vs : List V) : List (Option V) := vs.map some ++ List.replicate (n - vs.length) none
theorem kW {n : Nat} {vs : List V} {i : Nat} : ((dH n vs)[i]?).join = vs[i]? := by
 unfold dH
 by_cases h : i < vs.length
 ·rw [List.getElem?_append_left (by simpa using h), List.getElem?_map, List.getElem?_eq_getElem h]; rfl
 ·have hn : vs[i]? = none := List.getElem?_eq_none (by lia)
  rw [List.getElem?_append_right (by simpa using h), hn, List.getElem?_replicate]
  split <;> rfl
theorem pY {ρ : List Addr} {params others : List Str} {ys : List Value} {ps : List V} {n : Nat} (hnd : (params ++ others).Nodup) (hl : ys.length = params.length) (ha : bL ρ ps ys) {x : Str} {i : Nat} (hx : (params ++ others)[i]? = some x) :
  zP ρ ((dH n ps)[i]?).join ((params.zip ys).reverse.lookup x) := by
 have hkeys : (((params.zip ys).reverse).map (·.1)) = params.reverse := by rw [List.map_reverse, rW hl]
 have hpn : params.Nodup := (List.nodup_append.mp hnd).1
 rw [kW]
 by_cases h : i < params.length
 ·have hps : ps.length = params.length := by rw [← hl, ha.length]
  rw [List.getElem?_append_left h] at hx
  have hi : i < ps.length := by lia
  obtain ⟨y, hy, hv⟩ := ha.get (List.getElem?_eq_getElem hi)
  rw [List.getElem?_eq_getElem hi]
  refine ⟨y, pe (by rw [hkeys]; exact (List.pairwise_reverse.mpr (hpn.imp fun h => Ne.symm h))) (List.mem_reverse.mpr ?_), hv⟩
  refine List.mem_of_getElem? (i := i) ?_
  rw [List.getElem?_zip_eq_some]
  exact ⟨hx, hy⟩
 ·have hps : ps.length = params.length := by rw [← hl, ha.length]
  rw [List.getElem?_eq_none (by lia)]
  refine mB ?_
  rw [hkeys, List.mem_reverse]
  intro hm
  rw [List.getElem?_append_right (by lia)] at hx
  exact (List.nodup_append.mp hnd).2.2 x hm x (List.mem_of_getElem? hx) rfl
section
variable {prog : Program} {w : World} {ac : Heap} {mg mb : Str → Option Value}
noncomputable def oA (prog : Program) (w : World) (ac : Heap) (fd : FuncData) (params : List Str) (mk : List Value → Args) (bnd : List V → List O → Option (List V × List O)) : Prop := ∀ A ρ H s vs xs ps b8, eh prog w ac ρ H s → bL ρ vs xs → bnd vs H = some (ps, b8) → wpAny (model prog w) A (bindArgs fd (mk xs)) (fun binds s' => ∃ ρ' ys, binds = params.zip ys ∧ ys.length = params.length ∧ bL ρ' ps ys ∧ cF prog w ac ρ H s ρ' b8 s') (fun _ _ => False) s
noncomputable def dj (n : Nat) (bnd : List V → List O → Option (List V × List O)) (body : St → zV F) : cY := fun vs H => match bnd vs H with
 | none => .bad
 | some (ps, b8) => match body ⟨dH n ps, b8⟩ with
  | .ok (.ret v) τ => .ok v τ
  | .ok .next τ => .ok .none τ
  | .ok _ _ => .bad
  | .exc c as τ => .exc c as τ
  | .bad => .bad
end
section
variable {prog : Program} {w : World} {ac : Heap} {C : Cx} {mg mb : Str → Option Value} {ρ : List Addr} {σ : St} {s : Shared}
noncomputable abbrev bK (prog : Program) (w : World) (ac : Heap) (C : Cx) (ms : St → zV (List V)) (pos : Pos) (args : List Expr) : Prop := zS prog w ac C bL ms (spliced (backTo pos (starEach args C.env)))
noncomputable def aj (m : St → zV V) (ms : St → zV (List V)) : St → zV (List V) := fun σ => (m σ).bind fun v ae => (ms ae).bind fun vs aq => .ok (v :: vs) aq
theorem ag {pos : Pos} : bK prog w ac C (aa []) pos [] := fun _ _ _ r _ => spliced_nil (zu rfl (.refl r))
theorem ad {m : St → zV V} {ms : St → zV (List V)} {pos : Pos} {e : Expr} {rest : List Expr} (h : bi prog w ac C m (eval e C.env)) (hr : bK prog w ac C ms pos rest)
  (he : starEach (e :: rest) C.env = (false, eval e C.env) :: starEach rest C.env) : bK prog w ac C (aj m ms) pos (e :: rest) := by
 refine zS.gen fun ρ σ s z r q hb => ?_
 rw [he]
 show wpAny _ _ (spliced ((false, eval e C.env) :: backTo pos (starEach rest C.env))) _ _ _
 refine spliced_cons ((h.at r).next q hb fun a ae aw az a' _ va au q => ?_)
 refine (hr.at au.rel).then au q hb fun b aq aK aT b' _ vb aJ st q => ?_
 subst q
 exact zu ⟨_, _, rfl, aJ.vr va, vb⟩ st
noncomputable def bu (ms : St → zV (List V)) : St → zV V := fun σ => (ms σ).bind fun vs ae => if vs.length ≤ sizeLine then .ok (.ref ae.heap.length) { ae with heap := ae.heap ++ [.list vs] } else .bad
noncomputable def hV (ms : St → zV (List V)) : St → zV V := fun σ => (ms σ).bind fun vs ae => if vs.length ≤ sizeLine then .ok (.ref ae.heap.length) { ae with heap := ae.heap ++ [.tup vs] } else .bad
theorem pv (r : zT prog w ac C ρ σ s) {vs : List V} {xs : List Value} (ha : bL ρ vs xs) : At prog w ac C VR ρ σ s (if vs.length ≤ sizeLine then .ok (.ref σ.heap.length) { σ with heap := σ.heap ++ [.list vs] } else .bad) (newList xs) := by
 intro hn
 split at hn
 ·rename_i h
  rw [if_pos h]
  exact wpAny_newList (zu (ρ' := ρ ++ [s.heap.objs.size]) ⟨_, bv r.hp _, rfl⟩ (r.alloc (t := s.toks) rfl ⟨_, 0, rfl, ha.mono⟩)) (by rw [ha.length]; exact h)
 ·exact absurd rfl hn
theorem m0 (r : zT prog w ac C ρ σ s) {vs : List V} {xs : List Value} (ha : bL ρ vs xs) : At prog w ac C VR ρ σ s (if vs.length ≤ sizeLine then .ok (.ref σ.heap.length) { σ with heap := σ.heap ++ [.tup vs] } else .bad) (newTuple xs) := by
 intro hn
 split at hn
 ·rename_i h
  rw [if_pos h]
  exact wpAny_newTuple (zu (ρ' := ρ ++ [s.heap.objs.size]) ⟨_, bv r.hp _, rfl⟩ (r.alloc (t := s.toks) rfl ⟨_, 0, rfl, ha.mono⟩)) (by rw [ha.length]; exact h)
 ·exact absurd rfl hn
theorem bn {ms : St → zV (List V)} {pos : Pos} {es : List Expr} (h : bK prog w ac C ms pos es) : bi prog w ac C (bu ms) (eval (.List es pos) C.env) := by
 refine zS.gen fun ρ σ s z r e hb => ?_
 refine List_ ((h.at r).next e hb fun a ae aw az a' _ va au e => ?_)
 subst e
 exact (pv au.rel va).trans au hb
theorem dF {ms : St → zV (List V)} {k : Nat} {pos : Pos} {es : List Expr} (h : bK prog w ac C ms pos es) : bi prog w ac C (hV ms) (eval (.Tuple es k pos) C.env) := by
 refine zS.gen fun ρ σ s z r e hb => ?_
 refine Tuple_ ((h.at r).next e hb fun a ae aw az a' _ va au e => ?_)
 subst e
 exact (m0 au.rel va).trans au hb
noncomputable def Keeps (ac : Heap) (M : Model) (f : Value) : Prop := ∀ h, ac.StaysIn h → ∃ k, (k = Keeper.frame ∨ k = Keeper.machine ∨ k = Keeper.boundFrame) ∧ Looks M h (keeperOf f) k
theorem q8 {M : Model} {id : String} : Keeps ac M (.builtin id) := fun _ _ => ⟨.machine, .inr (.inl rfl), .now⟩
theorem pf {M : Model} {id : String} : Keeps ac M (.type id) := fun _ _ => ⟨.machine, .inr (.inl rfl), .now⟩
theorem cx {f : Value} {args : List (Bool × Sem Value)} {Q : Args → Shared → Prop} {E : Value → Shared → Prop} {A : Around} {M : Model} (hp : args.any (·.1) = false) (h : wpAny M A (spliced args) (fun vs s' => Q ⟨vs, []⟩ s') E s) : wpAny M A (evalArgs f true args []) Q E s := by
 cases args with
 | nil =>
  unfold evalArgs
  show wpAny M A (spliced [] >>= _) Q E s
  refine wpAny_bind (wpAny_mono h (fun vs s' h' => ?_) fun _ _ x => x)
  refine wpAny_bind (wpAny_pure (wpAny_holding ?_))
  exact wpAny_bind (wpAny_pure (wpAny_bind (wpAny_pure (wpAny_pure h'))))
 | cons p rest =>
  obtain ⟨b, t⟩ := p
  have hb : b = false := by simp at hp; exact hp.1
  subst hb
  exact evalArgs_plain h
noncomputable def aC (ma : St → zV (List V)) (g : List V → St → zV V) : St → zV V := fun σ => (ma σ).bind g
theorem fG {v : V} {f : Value} {ma : St → zV (List V)} {g : List V → St → zV V} {x : Str} {np pos : Pos} {args : List Expr} (hk : Keeps ac (model prog w) f) (hn : bi prog w ac C (aa v) (eval (.Name x np) C.env)) (hv : ∀ ρ x, VR ρ v x → x = f)
  (ha : bK prog w ac C ma pos args) (hg : cS prog w ac C f av g) (hp : (backTo pos (starEach args C.env)).any (·.1) = false) : bi prog w ac C (aC ma g) (eval (.Call (.Name x np) args [] pos) C.env) := by
 refine zS.gen fun ρ σ s z r e hb => ?_
 refine wpAny_Call_ofName (At.next (f := fun _ ae => aC ma g ae) (hn.at r) e hb fun a ae aw az a' mM va au e => ?_)
 cases mM
 have := hv _ _ va
 subst this
 refine callWith_of (P := ac.StaysIn) (by rw [hp]; rfl) (fun h k => hk h k) (cx hp ((ha.at au.rel).then au e hb fun b aq aK aT b' _ vb aJ st e => ⟨st.rel.hp.base, ?_⟩))
 subst e
 exact (hg aK aq aT b b' st.rel vb).trans st hb
noncomputable def a7 (chk : V → List O → Bool) (f : V → List V → St → zV V) (mo : St → zV V) (ma : St → zV (List V)) : St → zV V := fun σ => (mo σ).bind fun v ae => if chk v ae.heap then (ma ae).bind fun vs aq => f v vs aq else .bad
structure ex (prog : Program) (w : World) (ac : Heap) (C : Cx) (T : String) (name : Str) (id : String) (chk : V → List O → Bool) (f : V → List V → St → zV V) : Prop where
 pa : PlainAttrs T
 slot : Slot T name id
 ty : typeOf (.builtin id) = pure (.type "method_descriptor")
 self : ∀ ρ H s v v', eh prog w ac ρ H s → VR ρ v v' → chk v H = true → s.TypeIs v' T ∧ ∀ a, v' = .ref a → ∃ ob, s.heap.get? a = some ob ∧ ob.dict = none
 call : ∀ ρ σ s v v' vs xs, zT prog w ac C ρ σ s → VR ρ v v' → bL ρ vs xs → At prog w ac C VR ρ σ s (f v vs σ) (call (.builtin id) (v' :: xs))
theorem aU {T : String} {name : Str} {id : String} {chk : V → List O → Bool} {f : V → List V → St → zV V} {mo : St → zV V} {ma : St → zV (List V)} {o : Expr} {apos pos : Pos} {args : List Expr} (M : ex prog w ac C T name id chk f)
  (ho : bi prog w ac C mo (eval o C.env)) (ha : bK prog w ac C ma pos args) (hbase : attributeBase o name C.env (eval o C.env) = eval o C.env) (hp : (backTo pos (starEach args C.env)).any (·.1) = false)
  (hfew : ((backTo pos (starEach args C.env)).all (fun x => !x.1) && (backToKw pos (keywordEach [] C.env)).all (fun x => x.1.isSome) && decide (args.length + ([] : List Keyword).length + (if ([] : List Keyword).isEmpty then 0 else 1) < 30)) = true)
  (hline : (apos.endLine == pos.line) = true) : bi prog w ac C (a7 chk f mo ma) (eval (.Call (.Attribute o name apos) args [] pos) C.env) := by
 refine zS.gen fun ρ σ s z r e hb => ?_
 refine wpAny_Call_method_lateS hbase hfew hline ((ho.at r).next e hb fun v ae aw az v' _ vv au e => ?_)
 obtain ⟨hc, e⟩ := fp e.symm hb
 obtain ⟨hT, hd⟩ := M.self aw _ az v v' au.rel.hp vv hc
 refine ⟨T, id, M.pa, M.slot, M.ty, hT, hd, callWith_builtin hp (cx hp ((ha.at au.rel).then au e.symm hb fun b aq aK aT b' _ vb aJ st e => ?_))⟩
 subst e
 exact (M.call aK aq aT v v' b b' st.rel (aJ.vr vv) vb).trans st hb
end
theorem cQ {xs : List V} {vs : List Value} {ρ : List Addr} (h : bL ρ xs vs) : vs.toArray.size = xs.length := by simp [h.length]
noncomputable def br (a b : V) (σ : St) : zV V := gI b fun k => cond (aO a σ.heap) (gl a σ.heap fun _ xs => cond (decide (0 ≤ k)) (if 0 ≤ k ∧ k < 2 ^ 63 then gO xs[k.toNat]? fun v => .ok v σ else .bad) (if k < 0 ∧ -(xs.length : Int) ≤ k ∧ -(2 ^ 63) ≤ k then gO xs[(k + xs.length).toNat]? fun v => .ok v σ else .bad)) (cond (bQ a σ.heap) (gd a σ.heap fun _ es _ => gO (es.lookup k) fun v => .ok v σ) (cond (bH a σ.heap) (gS a fun x => if -(2 ^ 63) ≤ k ∧ k < 2 ^ 63 then gO ((seqIndex? k x.length).bind (x.cps[·]?)) fun c => .ok (.str ⟨#[c]⟩) σ else .bad) (cond (asY a).isSome (gY a fun b => if b.size ≤ 1099511627776 ∧ 0 ≤ k ∧ k < b.size then .ok (.int (b.toList.getD k.toNat 0).toNat) σ else .bad) (gt a σ.heap fun _ xs => if -(2 ^ 63) ≤ k ∧ k < 2 ^ 63 then gO ((seqIndex? k xs.length).bind (xs[·]?)) fun v => .ok v σ else .bad))))
theorem dP {X : Type} {f : O → Option X} {l : Nat} {H : List O} {o : O} (h : H[l]? = some o) : zz f (.ref l) H = (f o).isSome := by
 show H[l]?.any _ = _; rw [h]; rfl
theorem iD {β : Type} {l : Nat} {H : List O} {o : O} {k : Nat → O → zV β} (h : H[l]? = some o) : gh (.ref l) H k = k l o := by
 show gO H[l]? _ = _; rw [h]; rfl
theorem kg {l : Nat} {xs : List V} {k : Int} {σ : St} (h : σ.heap[l]? = some (.list xs)) : br (.ref l) (.int k) σ = cond (decide (0 ≤ k)) (if 0 ≤ k ∧ k < 2 ^ 63 then gO xs[k.toNat]? fun v => .ok v σ else .bad)
  (if k < 0 ∧ -(xs.length : Int) ≤ k ∧ -(2 ^ 63) ≤ k then gO xs[(k + xs.length).toNat]? fun v => .ok v σ else .bad) := by
 show cond (zz zK _ _) _ _ = _
 rw [dP h]; show gl _ _ _ = _; exact iD h
theorem kh {l : Nat} {es : List (Int × V)} {ep : Nat} {k : Int} {σ : St} (h : σ.heap[l]? = some (.dict es ep)) : br (.ref l) (.int k) σ = gO (es.lookup k) fun v => .ok v σ := by
 show cond (zz zK _ _) _ (cond (zz zN _ _) _ _) = _
 rw [dP h, dP h]; exact .trans (show _ = gd (.ref l) σ.heap fun _ es _ => gO (es.lookup k) fun v => .ok v σ from rfl) (iD h)
theorem r9 {l : Nat} {xs : List V} {k : Int} {σ : St} (h : σ.heap[l]? = some (.tup xs)) : br (.ref l) (.int k) σ = if -(2 ^ 63) ≤ k ∧ k < 2 ^ 63 then gO ((seqIndex? k xs.length).bind (xs[·]?)) fun v => .ok v σ else .bad := by
 show cond (zz zK _ _) _ (cond (zz zN _ _) _ _) = _
 rw [dP h, dP h]; exact .trans (show _ = gt (.ref l) σ.heap fun _ xs => if -(2 ^ 63) ≤ k ∧ k < 2 ^ 63 then gO ((seqIndex? k xs.length).bind (xs[·]?)) fun v => .ok v σ else .bad from rfl) (iD h)
section
variable {prog : Program} {w : World} {ac : Heap} {C : Cx} {mg mb : Str → Option Value} {ρ : List Addr} {σ : St} {s : Shared}
theorem si {value slice : Expr} (hs : ∀ o k t, subscripted slice false o (.int k t) = operate [o, .int k t] (getItem o (.int k t))) : yL prog w ac C VR br (fun a b => subscriptTail value slice a b) := fun ρ σ s a a' b b' r ha hb =>
 fe (t := fun b' => subscriptTail value slice a' b') hb fun k u => bw (fB (t := fun a' => subscriptTail value slice a' (.int k u)) r.hp ha fun l x ys vs n _ _ h1 hv => bw
   (a8 fun h => bA fun v hg _ => by
    obtain ⟨y, hy, hvy⟩ := hv.get hg
    have il : s.heap.IsList x vs.toArray := ⟨_, h1, rfl, n, rfl⟩
    exact tail_any il.typeIs slot_list_getitem.lookup (wpAny_getItem_list il h.1 h.2 ((List.getElem?_toArray ..).trans hy) (zu hvy (.refl r))) (hs _ _ _))
   (a8 fun h => bA fun v hg _ => by
    obtain ⟨y, hy, hvy⟩ := hv.get hg
    have il : s.heap.IsList x vs.toArray := ⟨_, h1, rfl, n, rfl⟩
    have e : vs.toArray.size = ys.length := cQ hv
    exact tail_any il.typeIs slot_list_getitem.lookup (wpAny_getItem_list_neg il h.1 (by rw [e]; exact h.2.1) h.2.2 (by rw [e]; exact (List.getElem?_toArray ..).trans hy) (zu hvy (.refl r))) (hs _ _ _)))
  (bw (rH (t := fun a' => subscriptTail value slice a' (.int k u)) ha fun l x es ep hx q => bA fun v hg _ => by
   obtain ⟨ob, h1, kvs, h2, h3, _⟩ := r.hp.obj _ _ _ q hx
   have hd : s.heap.DictOf (intKind prog w) x kvs := Heap.dictOf_iff.mpr ⟨ob, h1, h2⟩
   have hvk := pairs_at h3 k
   rw [hg] at hvk
   obtain ⟨y, hy, hvy⟩ := hvk
   exact tail_any hd.mapOf.typeIs slot_dict_getitem.lookup (wpAny_getItem_of (knd := intKind prog w) (intKind_is _ _ _ _) hd.mapOf hy (zu hvy (r.toks _))) (hs _ _ _))
  (bw (dA (t := fun a' => subscriptTail value slice a' (.int k u)) ha fun x t => a8 fun h => bA fun c hi _ =>
   tail_any (typeIs_str s x t) slot_str_getitem.lookup (getItem_str (Bool.or_eq_false_iff.mpr ⟨decide_eq_false (Int.not_lt.mpr h.1), decide_eq_false (Int.not_le.mpr h.2)⟩) hi (zu ⟨_, rfl⟩ (r.toks _))) (hs _ _ _))
  (bw (wG (t := fun a' => subscriptTail value slice a' (.int k u)) ha fun ⟨bs⟩ t => a8 fun h _ =>
   tail_any (typeIs_bytes s _ t) FB.slot_bytes_getitem.lookup (getItem_bytes h.1 h.2.1 h.2.2 (zu (ρ' := ρ) ⟨_, rfl⟩ (r.toks _))) (hs _ _ _))
  (tZ (t := fun a' => subscriptTail value slice a' (.int k u)) r.hp ha fun l x ys vs n _ _ h1 hv => a8 fun h63 => bA fun v hg _ => by
   obtain ⟨j, hi, hg⟩ := Option.bind_eq_some_iff.mp hg
   obtain ⟨y, hy, hvy⟩ := hv.get hg
   have il : IsTup s.heap x vs.toArray := ⟨_, h1, rfl, n, rfl⟩
   exact tail_any il.typeIs slot_tuple_getitem.lookup (getItem_tuple il h63.1 h63.2 (by rewrite [cQ hv]; exact hi) ((List.getElem?_toArray ..).trans hy) (zu hvy (.refl r))) (hs _ _ _)))))
theorem a9 {mo mi : St → zV V} {value slice : Expr} {pos : Pos} (ho : bi prog w ac C mo (eval value C.env)) (hi : bi prog w ac C mi (eval slice C.env)) (hs : ∀ o k t, subscripted slice false o (.int k t) = operate [o, .int k t] (getItem o (.int k t))) :
  bi prog w ac C (bp br mo mi) (eval (.Subscript value slice pos) C.env) := by
 refine zS.gen fun ρ σ s z r e hb => ?_
 refine Subscript_ ((ho.at r).next e hb fun a ae aw az a' _ va au e => ?_)
 refine (hi.at au.rel).then au e hb fun b aq aK aT b' _ vb aJ st e => ?_
 subst e
 exact (si hs aK aq aT a a' b b' aJ.rel (aJ.vr va) vb).trans st hb
noncomputable def gJ : V → Option (Option Int)
 | .none => some none
 | .int i => some (some i)
 | _ => none
noncomputable def eA (xs : List V) (lo hi : Option Int) : List V := (sliceRange (sliceBounds lo hi none xs.length).1 (sliceBounds lo hi none xs.length).2.1 (sliceBounds lo hi none xs.length).2.2).filterMap (xs[·]?)
noncomputable def eG (v lo hi : V) (σ : St) : zV V := gO (gJ lo) fun l => gO (gJ hi) fun u => cond (bH v σ.heap) (gS v fun x => if x.length ≤ sizeLine then .ok (.str (Txt.slice x l u)) σ else .bad) (gl v σ.heap fun _ xs => if xs.length ≤ sizeLine then .ok (.ref σ.heap.length) { σ with heap := σ.heap ++ [.list (eA xs l u)] } else .bad)
noncomputable def cw (mo ml mu : St → zV V) : St → zV V := fun σ => (mo σ).bind fun v ae => (ml ae).bind fun l aq => (mu aq).bind fun u aS => eG v l u aS
noncomputable abbrev w8 (prog : Program) (w : World) (ac : Heap) (C : Cx) (m : St → zV V) (x : Option Expr) : Prop := bi prog w ac C m (evalPart x C.env)
theorem dq : w8 prog w ac C (aa .none) none := fun _ _ _ r _ => evalPart_none_step (zu rfl (.refl r))
theorem bN {m : St → zV V} {e : Expr} (h : bi prog w ac C m (eval e C.env)) : w8 prog w ac C m (some e) := h
theorem part_of {v : V} {x : Value} {o : Option Int} (h : VR ρ v x) (hp : gJ v = some o) : IsPart x o ∧ ∃ p : Option (Int × Tok), x = partValue p ∧ p.map (·.1) = o := by
 cases v <;> simp [gJ] at hp
 ·subst hp; cases h; exact ⟨.none, none, rfl, rfl⟩
 ·subst hp; obtain ⟨t, rfl⟩ := h; exact ⟨.int _ _, some (_, t), rfl, rfl⟩
theorem nJ {xs : List V} {vs : List Value} (h : bL ρ xs vs) (is : List Nat) : bL ρ (is.filterMap (xs[·]?)) (is.filterMap (vs[·]?)) := by
 induction is with
 | nil => exact .nil
 | cons i is ih =>
  rw [List.filterMap_cons, List.filterMap_cons]
  cases hx : xs[i]? with
  | none =>
   have : vs[i]? = none := by
    rw [List.getElem?_eq_none_iff] at hx ⊢
    rw [h.length]; exact hx
   rw [this]; exact ih
  | some v =>
   obtain ⟨y, hy, hv⟩ := h.get hx
   rw [hy]; exact .cons hv ih
theorem oR {x : Str} {t : Tok} {l u : Option (Int × Tok)} {Q : Value → Shared → Prop} (hsz : x.length ≤ sizeLine) (h : ∀ t' k, Q (.str (Txt.slice x (l.map (·.1)) (u.map (·.1))) t') { s with toks := k }) : (sliceMade x t l u none).post Q s := by
 unfold sliceMade
 refine post_val_or_made (fun hc => ?_) fun t' k => ?_
 ·have := Txt.slice_le x (l.map (·.1)) (u.map (·.1))
  unfold Txt.slice at this
  rw [if_neg (show ¬ ((1 : Int) == 1 && (Builtin.Str.strSliceIndices (l.map (·.1)) (u.map (·.1)) 1 x.length).length == x.length) = true from hc)] at this
  exact Nat.le_trans this hsz
 ·exact h t' k
theorem cT {mo ml mu : St → zV V} {value : Expr} {lo hi : Option Expr} {p pos : Pos} (ho : bi prog w ac C mo (eval value C.env)) (hl : w8 prog w ac C ml lo) (hu : w8 prog w ac C mu hi) :
  bi prog w ac C (cw mo ml mu) (eval (.Subscript value (.Slice lo hi none p) pos) C.env) := by
 refine zS.gen fun ρ σ s z r e hb => ?_
 refine Subscript_ ((ho.at r).next e hb fun a ae aw az a' _ va au e => ?_)
 refine wpAny_Slice ((hl.at au.rel).then au e hb fun b aq aK aT b' _ vb aJ st e => ?_)
 refine (hu.at st.rel).then st e hb fun c aS b0 bF c' _ vc b9 st' e => ?_
 subst e
 refine evalPart_none_step ?_
 have va' := b9.vr (aJ.vr va)
 have vb' := b9.vr vb
 have r3 := st'.rel
 have stp : Step prog w ac C b0 aS bF b0 aS { bF with heap := bF.heap.push { cls := .type "slice", data := .fields #[b', c', .none] } } := r3.grow _ bF.toks
 refine At.trans (st'.trans stp) (bA fun l hpl => bA fun u hpu => ?_) hb
 obtain ⟨pl, pl', epl, ml'⟩ := part_of vb' hpl
 obtain ⟨pu, pu', epu, mu'⟩ := part_of vc hpu
 refine bw (dA (t := fun x => subscriptTail value (.Slice lo hi none p) x (.ref bF.heap.objs.size)) va' fun x t => a8 fun hsz _ => ?_) (fB (t := fun x => subscriptTail value (.Slice lo hi none p) x (.ref bF.heap.objs.size)) stp.rel.hp va' fun l0 x xs vs n hx q h1 hv => a8 fun hsz _ => ?_)
 ·refine tail_any (typeIs_str _ x t) slot_str_getitem.lookup (wpAny_getItem_str_slice (l := pl') (u := pu') (st := none) ⟨_, Heap.get?_push_size _ rfl, rfl, by rw [epl, epu]; rfl⟩ rfl (oR hsz fun t' k => ?_)) (ops := _) rfl
  subst ml' mu'
  exact zu ⟨_, rfl⟩ (stp.rel.toks _)
 ·have il : Heap.IsList (bF.heap.push { cls := .type "slice", data := .fields #[b', c', .none] }) x vs.toArray := ⟨_, h1, rfl, n, rfl⟩
  refine tail_any (Heap.IsList.typeIs (s := { bF with heap := bF.heap.push { cls := .type "slice", data := .fields #[b', c', .none] } }) il) slot_list_getitem.lookup (wpAny_getItem_list_slice il (Heap.IsSliceOf.new ..) pl pu .none (by intro q; cases q) ?_ (by rw [cQ hv]; exact hsz)) (ops := _) rfl
  refine zu (ρ' := b0 ++ [(bF.heap.push { cls := .type "slice", data := .fields #[b', c', .none] }).objs.size]) ⟨_, bv stp.rel.hp _, rfl⟩ (stp.rel.alloc (t := bF.toks) rfl ⟨_, 0, rfl, ?_⟩)
  have := (nJ hv (sliceRange (sliceBounds l u none xs.length).1 (sliceBounds l u none xs.length).2.1 (sliceBounds l u none xs.length).2.2)).mono (more := [(bF.heap.push { cls := .type "slice", data := .fields #[b', c', .none] }).objs.size])
  unfold eA
  simpa [cQ hv, hv.length] using this
end
noncomputable abbrev jZ (src : Option (Nat × O)) (a : Addr) (ρ : List Addr) (H : List O) : Prop := ∀ l o, src = some (l, o) → H[l]? = some o ∧ ρ[l]? = some a
structure iN (prog : Program) (w : World) (ac : Heap) (A : Around) (I : Addr) (src : Option (Nat × O)) (a : Addr) (P : List V → Heap → Prop) : Prop where
 frame : ∀ xs h h', P xs h → h'.get? I = h.get? I → P xs h'
 live : ∀ xs h, P xs h → ∃ o vs, h.get? I = some o ∧ o.data = .fields vs
 item : ∀ x xs (s : Shared) ρ H (Q : Option Value → Shared → Prop) (E : Value → Shared → Prop), P (x :: xs) s.heap → eh prog w ac ρ H s → jZ src a ρ H → I ∉ ρ →
  (∀ v' h' tk, VR ρ x v' → P xs h' → Heap.ExtBut I s.heap h' → Q (some v') { s with heap := h', toks := tk }) → wpAny (model prog w) A (pyNext (.ref I)) Q E s
 done : ∀ (s : Shared) ρ H (Q : Option Value → Shared → Prop) (E : Value → Shared → Prop), P [] s.heap → eh prog w ac ρ H s → jZ src a ρ H → I ∉ ρ →
  (∀ h' tk, Heap.ExtBut I s.heap h' → Q none { s with heap := h', toks := tk }) → wpAny (model prog w) A (pyNext (.ref I)) Q E s
 self : ∀ xs (s : Shared) (Q : Value → Shared → Prop) (E : Value → Shared → Prop), P xs s.heap → Q (.ref I) s → wpAny (model prog w) A (pyIter (.ref I)) Q E s
noncomputable def ii (a b c : Int) : List V := (List.range (Builtin.Range.rangeSize a b c).toNat).map fun (i : Nat) => V.int (a + (i : Int) * c)
noncomputable def jh (l : Nat) (H : List O) (o : O) : Option (List V × Option (Nat × O)) := match o with
 | .list xs => some (xs, some (l, .list xs))
 | .tup xs => some (xs, some (l, .tup xs))
 | .dict es ep => some (es.map fun p => .int p.1, some (l, .dict es ep))
 | .dvals d => H[d]?.bind fun o => (zN o).map fun p => (p.1.map (·.2), some (d, .dict p.1 p.2))
 | .range a b c => if Builtin.Range.small a b c then some (ii a b c, none) else none
 | _ => none
noncomputable def bZ (v : V) (H : List O) : Option (List V × Option (Nat × O)) := match v with
 | .bytes b => some (b.toList.map fun c => .int c.toNat, none)
 | .str x => some (x.cps.toList.map fun c => .str ⟨#[c]⟩, none)
 | .ref l => H[l]?.bind (jh l H)
 | _ => none
theorem ck {l : Nat} {H : List O} {o : O} (h : H[l]? = some o) : bZ (.ref l) H = jh l H o := by
 show H[l]?.bind _ = _; rw [h]; rfl
section
variable {prog : Program} {w : World} {ac : Heap} {C : Cx} {mg mb : Str → Option Value} {α β γ : Type} {ρ ρ' : List Addr} {σ σ' : St} {s s' : Shared} {A : Around}
theorem dS {α : Type} {ys xs : List α} {x : α} {i : Nat} (h : ys.drop i = x :: xs) : ys[i]? = some x ∧ ys.drop (i + 1) = xs ∧ i < ys.length := by
 have hi : i < ys.length := by
  rcases Nat.lt_or_ge i ys.length with q | q
  ·exact q
  ·rw [List.drop_eq_nil_of_le q] at h; cases h
 rw [List.drop_eq_getElem_cons hi] at h
 cases h
 exact ⟨List.getElem?_eq_getElem hi, rfl, hi⟩
theorem eY {α : Type} {ys : List α} {i : Nat} (h : ys.drop i = []) : ys.length ≤ i := by
 have := congrArg List.length h
 simp at this; lia
theorem lM (hh : A.handled = none) {I a : Addr} {l : Nat} {ys : List V} :
  iN prog w ac A I (some (l, .list ys)) a (fun xs h => ∃ i, h.IsListIter I a i ∧ ys.drop i = xs) where
 frame := fun xs h h' ⟨i, p, q⟩ e => ⟨i, p.at fun o ho => by rw [e]; exact ho, q⟩
 live := fun xs h ⟨i, ⟨o, ho, _, hd⟩, _⟩ => ⟨o, _, ho, hd⟩
 item := fun x xs s ρ H Q E ⟨i, p, q⟩ r hs hI k => by
  obtain ⟨h1, h2⟩ := hs _ _ rfl
  obtain ⟨ob, h3, vs, n, rfl, hv⟩ := r.obj _ _ _ h1 h2
  obtain ⟨g1, g2, g3⟩ := dS q
  obtain ⟨v', hv1, hv2⟩ := hv.get g1
  have hne : a ≠ I := fun e => hI (e ▸ List.mem_of_getElem? h2)
  have il : s.heap.IsList a vs.toArray := ⟨_, h3, rfl, n, rfl⟩
  exact wpAny_pyNext_list_item p il (by simpa using hv1) fun h' hit hb => k v' h' s.toks hv2 ⟨i + 1, hit, g2⟩ hb.extBut
 done := fun s ρ H Q E ⟨i, p, q⟩ r hs hI k => by
  obtain ⟨h1, h2⟩ := hs _ _ rfl
  obtain ⟨ob, h3, vs, n, rfl, hv⟩ := r.obj _ _ _ h1 h2
  have il : s.heap.IsList a vs.toArray := ⟨_, h3, rfl, n, rfl⟩
  exact wpAny_pyNext_list_end hh p il (by have := eY q; simp [hv.length]; exact this) fun h' he => k h' s.toks he
 self := fun xs s Q E ⟨i, p, q⟩ h => wpAny_pyIter_listiter p h
theorem oB (hh : A.handled = none) {I a : Addr} {l : Nat} {ys : List V} :
  iN prog w ac A I (some (l, .tup ys)) a (fun xs h => ∃ i, h.IsTupleIter I a i ∧ ys.drop i = xs) where
 frame := fun xs h h' ⟨i, p, q⟩ e => ⟨i, p.at fun o ho => by rw [e]; exact ho, q⟩
 live := fun xs h ⟨i, ⟨o, ho, _, hd⟩, _⟩ => ⟨o, _, ho, hd⟩
 item := fun x xs s ρ H Q E ⟨i, p, q⟩ r hs hI k => by
  obtain ⟨h1, h2⟩ := hs _ _ rfl
  obtain ⟨ob, h3, vs, n, rfl, hv⟩ := r.obj _ _ _ h1 h2
  obtain ⟨g1, g2, g3⟩ := dS q
  obtain ⟨v', hv1, hv2⟩ := hv.get g1
  have il : s.heap.IsTuple a vs.toArray := ⟨_, h3, rfl, n, rfl⟩
  exact wpAny_pyNext_tuple_item p il (by simpa using hv1) fun h' hit hb => k v' h' s.toks hv2 ⟨i + 1, hit, g2⟩ hb.extBut
 done := fun s ρ H Q E ⟨i, p, q⟩ r hs hI k => by
  obtain ⟨h1, h2⟩ := hs _ _ rfl
  obtain ⟨ob, h3, vs, n, rfl, hv⟩ := r.obj _ _ _ h1 h2
  have il : s.heap.IsTuple a vs.toArray := ⟨_, h3, rfl, n, rfl⟩
  exact wpAny_pyNext_tuple_end hh p il (by have := eY q; simp [hv.length]; exact this) fun h' he => k h' s.toks he
 self := fun xs s Q E ⟨i, p, q⟩ h => wpAny_pyIter_tupleiter p h
theorem io : ∀ {es : List (Int × V)} {kvs : List (Int × Value)}, cG ρ es kvs → ∀ {i : Nat} {k : Int} {v : V}, es[i]? = some (k, v) → ∃ x, kvs[i]? = some (k, x) ∧ VR ρ v x
 | [], _, _, i, k, v, e => by simp at e
 | (k0, v0) :: es, _, ⟨x, r, e, h, q⟩, 0, k, v, e' => by subst e; simp at e'; obtain ⟨rfl, rfl⟩ := e'; exact ⟨x, by simp, h⟩
 | (k0, v0) :: es, _, ⟨x, r, e, h, q⟩, i + 1, k, v, e' => by subst e; simp at e'; obtain ⟨y, h1, h2⟩ := io q e'; exact ⟨y, by simpa using h1, h2⟩
theorem pairs_len : ∀ {es : List (Int × V)} {kvs : List (Int × Value)}, cG ρ es kvs → kvs.length = es.length
 | [], _, h => by cases h; rfl
 | (_, _) :: es, _, ⟨x, r, e, h, q⟩ => by subst e; simp [pairs_len q]
theorem dI {H : List O} (r : eh prog w ac ρ H s) {l : Nat} {a : Addr} {es : List (Int × V)} {ep : Nat} (h1 : H[l]? = some (.dict es ep)) (h2 : ρ[l]? = some a) :
  ∃ kvs, s.heap.DictAt (intKind prog w) a kvs ep ∧ cG ρ es kvs := by
 obtain ⟨ob, h3, kvs, ⟨es', ep', i1, i2, i3⟩, hp, es'', hd⟩ := r.obj _ _ _ h1 h2
 rw [hd] at i2; cases i2
 exact ⟨kvs, ⟨ob, es', h3, i1, hd, i3⟩, hp⟩
theorem lN (hh : A.handled = none) {I a : Addr} {l : Nat} {es : List (Int × V)} {ep : Nat} :
  iN prog w ac A I (some (l, .dict es ep)) a (fun xs h => ∃ i, h.IsKeyIter I a i es.length ep ∧ (es.map fun p => V.int p.1).drop i = xs) where
 frame := fun xs h h' ⟨i, p, q⟩ e => ⟨i, p.at fun o ho => by rw [e]; exact ho, q⟩
 live := fun xs h ⟨i, ⟨o, ho, _, hd⟩, _⟩ => ⟨o, _, ho, hd⟩
 item := fun x xs s ρ H Q E ⟨i, p, q⟩ r hs hI k => by
  obtain ⟨h1, h2⟩ := hs _ _ rfl
  obtain ⟨kvs, hd, hp⟩ := dI r h1 h2
  obtain ⟨g1, g2, g3⟩ := dS q
  rw [List.getElem?_map, Option.map_eq_some_iff] at g1
  obtain ⟨⟨k0, v0⟩, g1, rfl⟩ := g1
  obtain ⟨y, hy, _⟩ := io hp g1
  rw [← pairs_len hp] at p
  refine wpAny_pyNext_dict_item p hd hy fun key h' hkey hit hb => k key h' s.toks ?_ ⟨i + 1, by rw [← pairs_len hp]; exact hit, g2⟩ hb.extBut
  cases key <;> simp [intKind, Value.isInt] at hkey
  subst hkey
  exact ⟨_, rfl⟩
 done := fun s ρ H Q E ⟨i, p, q⟩ r hs hI k => by
  obtain ⟨h1, h2⟩ := hs _ _ rfl
  obtain ⟨kvs, hd, hp⟩ := dI r h1 h2
  rw [← pairs_len hp] at p
  exact wpAny_pyNext_dict_end hh p hd (by have := eY q; rw [List.length_map, ← pairs_len hp] at this; exact List.getElem?_eq_none this) fun h' he => k h' s.toks he
 self := fun xs s Q E ⟨i, p, q⟩ h => wpAny_pyIter_keyiter p h
theorem lL (hh : A.handled = none) {I a : Addr} {l : Nat} {es : List (Int × V)} {ep : Nat} :
  iN prog w ac A I (some (l, .dict es ep)) a (fun xs h => ∃ i, h.IsValIter I a i es.length ep ∧ (es.map (·.2)).drop i = xs) where
 frame := fun xs h h' ⟨i, p, q⟩ e => ⟨i, p.at fun o ho => by rw [e]; exact ho, q⟩
 live := fun xs h ⟨i, ⟨o, ho, _, hd⟩, _⟩ => ⟨o, _, ho, hd⟩
 item := fun x xs s ρ H Q E ⟨i, p, q⟩ r hs hI k => by
  obtain ⟨h1, h2⟩ := hs _ _ rfl
  obtain ⟨kvs, hd, hp⟩ := dI r h1 h2
  obtain ⟨g1, g2, g3⟩ := dS q
  rw [List.getElem?_map, Option.map_eq_some_iff] at g1
  obtain ⟨⟨k0, v0⟩, g1, rfl⟩ := g1
  obtain ⟨y, hy, hv⟩ := io hp g1
  rw [← pairs_len hp] at p
  exact wpAny_pyNext_values_item p hd hy fun h' hit hb => k y h' s.toks hv ⟨i + 1, by rw [← pairs_len hp]; exact hit, g2⟩ hb.extBut
 done := fun s ρ H Q E ⟨i, p, q⟩ r hs hI k => by
  obtain ⟨h1, h2⟩ := hs _ _ rfl
  obtain ⟨kvs, hd, hp⟩ := dI r h1 h2
  rw [← pairs_len hp] at p
  exact wpAny_pyNext_values_end hh p hd (by have := eY q; rw [List.length_map, ← pairs_len hp] at this; exact List.getElem?_eq_none this) fun h' he => k h' s.toks he
 self := fun xs s Q E ⟨i, p, q⟩ h => wpAny_pyIter_valiter p h
theorem fE {I : Addr} {n : Nat} {Pv : Nat → Value → Prop} {Sx : Nat → Heap → Prop} {ys : List V} (W : Walks prog w A I [I] [I] n Pv Sx) (hn : ys.length = n) (hp : ∀ ρ i v x, Pv i x → ys[i]? = some v → VR ρ v x)
  (hl : ∀ i h, Sx i h → ∃ o vs, h.get? I = some o ∧ o.data = .fields vs) {a : Addr} :
  iN prog w ac A I none a (fun xs h => ∃ i, Sx i h ∧ i ≤ n ∧ ys.drop i = xs) where
 frame := fun xs h h' ⟨i, p, q⟩ e => ⟨i, W.frame _ _ _ p fun b hb o ho => by simp at hb; subst hb; rw [e]; exact ho, q⟩
 live := fun xs h ⟨i, p, _⟩ => hl i h p
 item := fun x xs s ρ H Q E ⟨i, p, q0, q⟩ r hs hI k => by
  obtain ⟨g1, g2, g3⟩ := dS q
  exact W.item i s Q E (by lia) p fun v h' tk hv st' hb => k v h' tk (hp ρ i x v hv g1) ⟨i + 1, st', by lia, g2⟩ fun b o hbI e => hb b o (by simpa using hbI) e
 done := fun s ρ H Q E ⟨i, p, q0, q⟩ r hs hI k => by
  have := eY q
  have e : i = n := by lia
  subst e
  exact W.done s Q E p fun h' tk hb => k h' tk fun b o hbI e => hb b o (by simpa using hbI) e
 self := fun xs s Q E ⟨i, p, q⟩ h => W.self i s Q E p h
theorem sU (h : Heap) {x y z : Int} : IsRangeIter (h.push { cls := .type "range_iterator", data := .fields #[.int x 0, .int (Builtin.Range.rangeSize x y z) 0, .int z 0] }) h.objs.size (x + ((0 : Nat) : Int) * z) (((Builtin.Range.rangeSize x y z).toNat : Int) - ((0 : Nat) : Int)) z := by
 have h0 : 0 ≤ Builtin.Range.rangeSize x y z := by rw [rangeSize_toNat]; exact Int.natCast_nonneg _
 show Heap.get? _ _ = _
 rw [Heap.get?_push_size _ rfl]
 simp [Int.toNat_of_nonneg h0]
 exact ⟨rfl, rfl, rfl⟩
theorem sV {x y z : Int} (ρ : List Addr) (i : Nat) (v : V) (x' : Value) (hx : ∃ t, x' = .int (x + (i : Int) * z) t) (hy : (ii x y z)[i]? = some v) : VR ρ v x' := by
 obtain ⟨t', rfl⟩ := hx
 unfold ii at hy
 rw [List.getElem?_map] at hy
 obtain ⟨j, hj, rfl⟩ := Option.map_eq_some_iff.mp hy
 obtain ⟨hj1, hj2⟩ := List.getElem?_eq_some_iff.mp hj
 rw [List.getElem_range] at hj2
 subst hj2
 exact ⟨t', rfl⟩
theorem qu {x : Str} (ρ : List Addr) (i : Nat) (v : V) (y : Value) (hx : SignAt x i y) (hy : (x.cps.toList.map fun c => V.str ⟨#[c]⟩)[i]? = some v) : VR ρ v y := by
 obtain ⟨c, u, h1, rfl⟩ := hx
 rw [List.getElem?_map] at hy
 have : x.cps.toList[i]? = some c := by simpa using h1
 rw [this] at hy; cases hy
 exact ⟨u, rfl⟩
theorem rG (hh : A.handled = none) {H : List O} (r : eh prog w ac ρ H s) {v : V} {v' : Value} (hv : VR ρ v v') {xs : List V} {src : Option (Nat × O)} (hi : bZ v H = some (xs, src)) {Q : Value → Shared → Prop} {E : Value → Shared → Prop}
  (k : ∀ ob P a, jZ src a ρ H → (∀ A' : Around, A'.handled = none → iN prog w ac A' s.heap.objs.size src a P) → P xs (s.heap.push ob) → Q (.ref s.heap.objs.size) { s with heap := s.heap.push ob }) :
  wpAny (model prog w) A (pyIter v') Q E s := by
 cases v with
 | bytes b =>
  obtain ⟨t, rfl⟩ := hv
  cases hi
  refine KBw.pyIter_bytes (k _ _ 0 (fun _ _ q => by cases q) (fun A' hA => fE (KBw.walks hA s.heap.objs.size b t) (by simp) (fun ρ i v x hx hy => ?_) fun i h hx => ?_) ⟨0, ⟨_, Heap.get?_push_size _ rfl, rfl, rfl⟩, Nat.zero_le _, rfl⟩)
  ·obtain ⟨c, u, h1, rfl⟩ := hx
   rw [List.getElem?_map] at hy
   have : b.toList[i]? = some c := by simpa using h1
   rw [this] at hy; cases hy
   exact ⟨u, rfl⟩
  ·obtain ⟨o, ho, _, hd⟩ := hx
   exact ⟨o, _, ho, hd⟩
 | str x =>
  obtain ⟨t, rfl⟩ := hv
  cases hi
  cases ha : x.cps.all (· < 128)
  ·refine wpAny_pyIter_wide ha (k _ _ 0 (fun _ _ q => by cases q) (fun A' hA => fE (Walks.strWide hA _ x t) (by simp) qu fun i h hx => ?_) ⟨0, ⟨_, Heap.get?_push_size _ rfl, rfl, rfl⟩, Nat.zero_le _, rfl⟩)
   obtain ⟨o, ho, _, hd⟩ := hx
   exact ⟨o, _, ho, hd⟩
  ·refine wpAny_pyIter_ascii ha (k _ _ 0 (fun _ _ q => by cases q) (fun A' hA => fE (Walks.strAscii hA _ x t) (by simp) qu fun i h hx => ?_) ⟨0, ⟨_, Heap.get?_push_size _ rfl, rfl, rfl⟩, Nat.zero_le _, rfl⟩)
   obtain ⟨o, ho, _, hd⟩ := hx
   exact ⟨o, _, ho, hd⟩
 | ref l =>
  obtain ⟨a, ha, rfl⟩ := hv
  obtain ⟨o, q, hi⟩ := Option.bind_eq_some_iff.mp hi
  have sok : jZ (some (l, o)) a ρ H := fun l' o' e => by cases e; exact ⟨q, ha⟩
  cases o with
  | list ys =>
   cases hi
   obtain ⟨ob, h3, vs, n, rfl, hv⟩ := r.obj _ _ _ q ha
   have il : s.heap.IsList a vs.toArray := ⟨_, h3, rfl, n, rfl⟩
   exact wpAny_pyIter_list il (k _ _ a sok (fun A' hA => lM hA) ⟨0, ⟨_, Heap.get?_push_size _ rfl, rfl, rfl⟩, rfl⟩)
  | tup ys =>
   cases hi
   obtain ⟨ob, h3, vs, n, rfl, hv⟩ := r.obj _ _ _ q ha
   have il : s.heap.IsTuple a vs.toArray := ⟨_, h3, rfl, n, rfl⟩
   exact wpAny_pyIter_tuple il (k _ _ a sok (fun A' hA => oB hA) ⟨0, ⟨_, Heap.get?_push_size _ rfl, rfl, rfl⟩, rfl⟩)
  | dict es ep =>
   cases hi
   obtain ⟨kvs, hd, hp⟩ := dI r q ha
   exact wpAny_pyIter_dict (beq_eq_false_iff_ne.mpr (r.sys _ _ _ _ q ha)) hd (k _ _ a sok (fun A' hA => lN hA) ⟨0, ⟨_, Heap.get?_push_size _ rfl, rfl, by rw [pairs_len hp]; rfl⟩, rfl⟩)
  | dvals d =>
   obtain ⟨o, q', hi⟩ := Option.bind_eq_some_iff.mp hi
   obtain ⟨⟨es, ep⟩, ho, hi⟩ := Option.map_eq_some_iff.mp hi
   cases hi
   cases bS rJ ho
   obtain ⟨ob, h3, a', ha', rfl⟩ := r.obj _ _ _ q ha
   obtain ⟨kvs, hd, hp⟩ := dI r q' ha'
   exact wpAny_pyIter_values ⟨_, h3, rfl, rfl⟩ hd (k _ _ a' (fun l' o' e => by cases e; exact ⟨q', ha'⟩) (fun A' hA => lL hA) ⟨0, ⟨_, Heap.get?_push_size _ rfl, rfl, by rw [pairs_len hp]; rfl⟩, rfl⟩)
  | range x y z =>
   obtain ⟨hsm, hi⟩ := Option.ite_none_right_eq_some.mp hi
   cases hi
   obtain ⟨ob, h3, t, u, v, rfl⟩ := r.obj _ _ _ q ha
   refine wpAny_pyIter_range h3 hsm (k _ _ 0 (fun _ _ q => nomatch q) (fun A' hA => fE (Walks.range hA _ x z (Builtin.Range.rangeSize x y z).toNat) (ys := ii x y z) (by simp [ii]) sV fun i h hx => ⟨_, _, hx, rfl⟩) ⟨0, sU _, Nat.zero_le _, rfl⟩)
  | _ => cases hi
 | none | bool | int | type | blt | top => cases hi
end
section
variable {prog : Program} {w : World} {ac : Heap} {C : Cx} {mg mb : Str → Option Value} {α β γ : Type} {ρ ρ' aw : List Addr} {σ σ' ae : St} {s s' bg az : Shared} {A : Around}
theorem zT.but (r : zT prog w ac C ρ σ s) {I : Addr} {o : Obj} {vs : Array Value} {h' : Heap} (hI : I ∉ ρ) (hb : ac.get? I = none) (ho : s.heap.get? I = some o) (hd : o.data = .fields vs) (e : Heap.ExtBut I s.heap h') (tk : Nat) :
  zT prog w ac C ρ σ { s with heap := h', toks := tk } := by
 have nd : ∀ {a : Addr} {o' : Obj} {es : Array DictEntry} {n : Nat}, s.heap.get? a = some o' → o'.data = .dict es n → a ≠ I := fun h1 h2 q => by
  subst q; rw [ho] at h1; cases h1; rw [hd] at h2; cases h2
 refine ⟨⟨fun b o' q => e b o' (by rintro rfl; rw [hb] at q; cases q) (r.hp.base b o' q), r.hp.len, fun l o' a h1 h2 => ?_, r.hp.nodup, r.hp.new, r.hp.sys, r.hp.main⟩, ?_, r.lnew, fun p hp => ?_, fun en he => ?_, r.frn, r.locs⟩
 ·obtain ⟨ob, h3, h4⟩ := r.hp.obj l o' a h1 h2
  exact ⟨ob, e a ob (by rintro rfl; exact hI (List.mem_of_getElem? h2)) h3, h4⟩
 ·obtain ⟨m, ⟨o', es, ep, h3, h4, h5⟩, hv⟩ := r.ns
  exact ⟨m, ⟨o', es, ep, e _ _ (nd h3 h4) h3, h4, h5⟩, hv⟩
 ·obtain ⟨g1, g2, g3, v, ⟨o', h3, h4⟩, g5⟩ := r.cel p hp
  refine ⟨g1, g2, g3, v, ⟨o', e _ _ ?_ h3, h4⟩, g5⟩
  rintro rfl; rw [ho] at h3; cases h3; rw [hd] at h4; cases h4
 ·obtain ⟨hk, L, o', es, n, hf, hb', h3, h4⟩ := r.frs en he
  exact ⟨hk, L, o', es, n, hf, hb', e _ _ (nd h3 h4) h3, h4⟩
theorem Step.but (st : Step prog w ac C ρ σ bg aw ae az) {I : Addr} {o : Obj} {vs : Array Value} {h' : Heap} (hI0 : bg.heap.get? I = none) (hI : I ∉ aw) (hb : ac.get? I = none) (ho : az.heap.get? I = some o) (hd : o.data = .fields vs) (e : Heap.ExtBut I az.heap h') (tk : Nat) :
  Step prog w ac C ρ σ bg aw ae { az with heap := h', toks := tk } := by
 refine ⟨st.rel.but hI hb ho hd e tk, st.ext, fun a o' h1 h2 => ?_, st.loc, st.rest⟩
 obtain ⟨o'', h3, h4⟩ := st.pres a o' h1 h2
 exact ⟨o'', e a o'' (by rintro rfl; rw [hI0] at h1; cases h1) h3, h4⟩
theorem Step.same (st : Step prog w ac C ρ σ s aw ae az) (r : zT prog w ac C ρ σ s) {I : Addr} {o : Obj} {vs : Array Value} (hI : I ∉ ρ) (ho : s.heap.get? I = some o) (hd : o.data = .fields vs) : az.heap.get? I = s.heap.get? I ∧ I ∉ aw := by
 obtain ⟨o', h1, h2⟩ := st.pres I o ho (iu r hI ho (.inl ⟨vs, hd⟩))
 obtain ⟨more, e1, n1⟩ := st.ext
 refine ⟨?_, fun hm => ?_⟩
 ·rw [ho, h1]
  rcases h2 with rfl | ⟨⟨es, n, q⟩, _⟩
  ·rfl
  ·rw [hd] at q; cases q
 ·rw [e1, List.mem_append] at hm
  rcases hm with q | q
  ·exact hI q
  ·rw [n1 _ q] at ho; cases ho
theorem jZ.ext {src : Option (Nat × O)} {a : Addr} {H H' : List O} (h : jZ src a ρ H) (e : ∃ more, ρ' = ρ ++ more) (k : ∀ l o, src = some (l, o) → H'[l]? = some o) : jZ src a ρ' H' := fun l o q => by
 obtain ⟨more, rfl⟩ := e
 exact ⟨k l o q, cr (h l o q).2⟩
noncomputable def dL (src : Option (Nat × O)) (H : List O) : Bool := match src with
 | none => true
 | some (l, o) => decide (H[l]? = some o)
theorem eT {src : Option (Nat × O)} {H : List O} (h : dL src H = true) : ∀ l o, src = some (l, o) → H[l]? = some o := fun l o q => by
 subst q; simpa [dL] using h
noncomputable def gs (tgt : V → St → zV Unit) (body els : St → zV F) (src : Option (Nat × O)) : List V → St → zV F
 | [], σ => if dL src σ.heap then (els σ).calm else .bad
 | x :: xs, σ => if dL src σ.heap then (tgt x σ).calm.bind fun _ ae => (body ae).calm.bind fun f aq => match f with
   | .next | .cont => gs tgt body els src xs aq
   | .brk => .ok .next aq
   | .ret v => .ok (.ret v) aq else .bad
noncomputable def gZ (mi : St → zV V) (tgt : V → St → zV Unit) (body els : St → zV F) : St → zV F := fun σ => (mi σ).bind fun v ae => match bZ v ae.heap with
 | some (xs, src) => gs tgt body els src xs ae
 | none => .bad
inductive ForI (prog : Program) (w : World) (ac : Heap) (C : Cx) (ρ : List Addr) (σ : St) (bg : Shared) (P : List V → Heap → Prop) (I : Addr) (f : List V → St → zV F) (o : zV F) (k : Nat) (s' : Shared) : Prop
 | mk (ρ' : List Addr) (σ' : St) (ys : List V) (st : Step prog w ac C ρ σ bg ρ' σ' s') (hP : P ys s'.heap) (hI : I ∉ ρ') (hk : k = ys.length) (hf : f ys σ' = o)
theorem yA (hh : C.A.handled = none) {tgt : V → St → zV Unit} {body els : St → zV F} {target : Expr} {b z : List Stmt} (ht : j4 prog w ac C tgt target) (hb : fW prog w ac C body b) (he : fW prog w ac C els z)
  {I : Addr} {src : Option (Nat × O)} {a : Addr} {P : List V → Heap → Prop} {xs : List V} {ρ : List Addr} {σ : St} {bg s : Shared} (W : iN prog w ac C.A I src a P) (st : Step prog w ac C ρ σ bg ρ σ s) (hP : P xs s.heap) (hsrc : jZ src a ρ σ.heap) (hI : I ∉ ρ) (hI0 : bg.heap.get? I = none) (hIb : ac.get? I = none)
  {o : zV F} (hf : gs tgt body els src xs σ = o) (hn : o ≠ .bad) (htg : ∀ v, letOwnedTupleGo target (.ref I) v = pure ()) :
  codeAny (model prog w) C.A (.forLoop target (.ref I) b z C.env) (fun r s' => ∃ f, r = .ok f ∧ zW prog w ac C FR ρ σ bg o f s') s := by
 refine codeAny_forLoop (ht := htg) (I := ForI prog w ac C ρ σ bg P I (gs tgt body els src) o) (fun k s' ⟨ρ', σ', ys, st', hP', hI', hk, hf⟩ => ?_) xs.length ⟨ρ, σ, xs, st, hP, hI, rfl, hf⟩
 obtain ⟨oI, vI, hoI, hdI⟩ := W.live _ _ hP'
 have ext : ∃ more, ρ' = ρ ++ more := let ⟨m, e, _⟩ := st'.ext; ⟨m, e⟩
 cases ys with
 | nil =>
  obtain ⟨hs, hf⟩ := fp hf hn
  refine W.done s' ρ' σ'.heap _ _ hP' st'.rel.hp (hsrc.ext ext (eT hs)) hI' fun h' tk hx => ?_
  have st1 := st'.but hI0 hI' hIb hoI hdI hx tk
  refine (he.at st1.rel).calm (fun q => hn (hf.symm.trans q)) fun f aq aK aT f' jR vf aJ => ?_
  exact ⟨_, rfl, (jR.symm.trans hf) ▸ zu vf (st1.trans aJ)⟩
 | cons y ys =>
  obtain ⟨hs, hf⟩ := fp hf hn
  refine W.item y ys s' ρ' σ'.heap _ _ hP' st'.rel.hp (hsrc.ext ext (eT hs)) hI' fun v' h' tk hv hP1 hx => ?_
  have st1 := st'.but hI0 hI' hIb hoI hdI hx tk
  obtain ⟨oI1, vI1, hoI1, hdI1⟩ := W.live _ _ hP1
  refine At.calmF (ht ρ' σ' _ y v' st1.rel hv) hf hn fun _ ae aw az _ _ au hf => ?_
  obtain ⟨k1, k2⟩ := au.same st1.rel hI' hoI1 hdI1
  refine (hb.at au.rel).calmF hf hn fun f aq aK aT f' vf aJ hf => ?_
  obtain ⟨k3, k4⟩ := aJ.same au.rel k2 (k1.trans hoI1) hdI1
  have stt := (st1.trans au).trans aJ
  have hlt : ys.length < k := hk ▸ Nat.lt_succ_self _
  have nx : gs tgt body els src ys aq = o → ∃ k', k' < k ∧ ForI prog w ac C ρ σ bg P I (gs tgt body els src) o k' aT := fun hf => ⟨_, hlt, aK, aq, ys, stt, W.frame _ _ _ (W.frame _ _ _ hP1 k1) k3, k4, rfl, hf⟩
  cases f with
  | next => cases vf; exact nx hf
  | cont => cases vf; exact nx hf
  | brk => cases vf; exact ⟨_, rfl, hf ▸ zu rfl stt⟩
  | ret v => exact match vf with | ⟨x, e, hv'⟩ => e ▸ ⟨_, rfl, hf ▸ zu ⟨x, rfl, hv'⟩ stt⟩
theorem dZ (hh : C.A.handled = none) {mi : St → zV V} {tgt : V → St → zV Unit} {body els : St → zV F} {target iter : Expr} {b z : List Stmt} {pos : Pos} (hi : bi prog w ac C mi (eval iter C.env)) (ht : j4 prog w ac C tgt target) (hb : fW prog w ac C body b) (he : fW prog w ac C els z)
  (htg : ∀ it v, letOwnedTupleGo target it v = pure ()) (hs : ∀ x, foldedSetIterable iter C.env x = pure x) : gL prog w ac C (gZ mi tgt body els) (.For target iter b z pos) := by
 intro ρ σ s r hn
 refine wpAny_For ((hi.at r).next rfl hn fun v ae aw az v' _ vv au e => ?_) hs
 rw [e] at hn ⊢
 cases q : bZ v ae.heap with
 | none => rw [q] at hn; exact absurd rfl hn
 | some p =>
  obtain ⟨xs, src⟩ := p
  rw [q] at hn
  dsimp only at hn ⊢
  refine rG hh au.rel.hp vv q fun ob P a hsrc hW hP => ?_
  have hI0 : az.heap.get? az.heap.objs.size = none := Heap.get?_none_of_le (Nat.le_refl _)
  refine codeAny_mono (yA hh ht hb he (hW _ hh) (au.rel.grow ob az.toks) hP hsrc au.rel.hp.fresh hI0 au.rel.hp.base.fresh rfl hn (htg _)) fun r s' ⟨f, e, h⟩ => ?_
  subst e
  exact zW.trans au h
end
structure rQ (C C' : Cx) (j : Nat) (new : Addr → Prop) : Prop where
 A : C'.A = C.A
 fenv : C'.fenv = C.fenv
 outer : C'.outer = C.outer
 loc : new C'.env.locals
 vars : ∀ p ∈ C'.vars, p.2 = j
 cells : ∀ p ∈ C'.cells, p ∈ C.cells ∨ (p.2.1 = j ∧ new p.2.2)
noncomputable def e8 (j : Nat) (σ : St) : St := { σ with loc := σ.loc.take j }
section
variable {prog : Program} {w : World} {ac : Heap} {C C' : Cx} {mg mb : Str → Option Value} {α β γ : Type} {ρ cu aw aK : List Addr} {σ ct ae aq : St} {s bg az aT : Shared} {j : Nat} {new : Addr → Prop}
theorem rQ.idx (i : rQ C C' j new) {n : Nat} (h : n ∈ C'.idx) : n = j ∨ n ∈ C.idx := by
 unfold Cx.idx at h ⊢
 rcases List.mem_append.mp h with h | h
 ·obtain ⟨p, hp, rfl⟩ := List.mem_map.mp h
  exact .inl (i.vars p hp)
 ·obtain ⟨p, hp, rfl⟩ := List.mem_map.mp h
  rcases i.cells p hp with q | q
  ·exact .inr (List.mem_append_right _ (List.mem_map.mpr ⟨p, q, rfl⟩))
  ·exact .inl q.1
theorem tc (r : zT prog w ac C ρ σ s) (st : Step prog w ac C ρ σ s aw ae az) {a : Addr} {o : Obj} (ho : s.heap.get? a = some o) (hn : ¬ zU C ρ a) : a ∉ aw := fun hm => by
 obtain ⟨more, e1, n1⟩ := st.ext
 rw [e1, List.mem_append] at hm
 rcases hm with q | q
 ·exact hn (.inl q)
 ·rw [n1 _ q] at ho; cases ho
theorem Step.leave (ok : C.Ok) (i : rQ C C' j new) (ez : zT prog w ac C cu ct bg) (hj : ct.loc.length = j) (hnew : ∀ a, new a → bg.heap.get? a = none)
  (st : Step prog w ac C cu ct bg aw (e8 j ae) az) (st' : Step prog w ac C' aw ae az aK aq aT) : Step prog w ac C cu ct bg aK (e8 j aq) aT := by
 obtain ⟨m1, e1, n1⟩ := st.ext
 obtain ⟨m2, e2, n2⟩ := st'.ext
 have live : ∀ {a : Addr}, bg.heap.get? a ≠ none → a ∉ aw → (∀ p ∈ C'.cells, p ∈ C.cells → p.2.2 ≠ a) → ¬ zU C' aw a := fun {a} ha h1 h2 h => by
  rcases h with h | h | ⟨p, hp, h⟩
  ·exact h1 h
  ·subst h; exact ha (hnew _ i.loc)
  ·subst h
   rcases i.cells p hp with q | q
   ·exact h2 p hp q rfl
   ·exact ha (hnew _ q.2)
 have lt : ∀ {n : Nat}, n ∈ C.idx → n < j := fun h => hj ▸ ez.locs _ h
 have idx : ∀ {n : Nat}, n < j → n ∉ C'.cells.map (·.2.1) → aq.loc[n]? = ae.loc[n]? := fun {n} hn hc => st'.loc n fun h => by
  unfold Cx.idx at h
  rcases List.mem_append.mp h with h | h
  ·obtain ⟨p, hp, rfl⟩ := List.mem_map.mp h
   have := i.vars p hp; lia
  ·exact hc h
 have get : ∀ {σ : St} {n : Nat}, n < j → ((e8 j σ).loc[n]?) = σ.loc[n]? := fun {σ n} hn => by unfold e8; rw [List.getElem?_take_of_lt hn]
 have alive0 : ∀ {a : Addr}, zU C cu a → bg.heap.get? a ≠ none := fun h => bo ez _ h
 have locne : ∀ p ∈ C'.cells, p ∈ C.cells → p.2.2 ≠ C.env.locals := fun p hp q => (ez.cel p q).l
 have back : ∀ {a : Addr} {o : Obj}, az.heap.get? a = some o → ¬ zU C' aw a → ∃ o', aT.heap.get? a = some o' ∧ iQ o o' := fun h1 h2 => st'.pres _ _ h1 h2
 have keep2 : ∀ {a : Addr}, a ∉ aw → az.heap.get? a ≠ none → a ∉ aK := fun {a} h1 h2 hm => by
  rw [e2, List.mem_append] at hm
  rcases hm with q | q
  ·exact h1 q
  ·exact h2 (n2 _ q)
 refine ⟨⟨st'.rel.hp, ?_, ⟨ez.lnew.1, ?_⟩, fun p hp => ?_, ?_, fun e he L hL => ⟨?_, (st.rel.frn e he L hL).2⟩, fun n hn => ?_⟩, ⟨m1 ++ m2, by rw [e2, e1, List.append_assoc], fun a ha => ?_⟩, fun a o ho hn => ?_, fun n hn => ?_, st.rest.trans st'.rest⟩
 ·obtain ⟨m, hm, hv⟩ := st.rel.ns
  have hno : ¬ zU C' aw C.env.locals := live (alive0 (.inr (.inl rfl))) st.rel.lnew.2 locne
  refine ⟨m, d7 hm fun o ho => back ho hno, fun p hp => ?_⟩
  have hi : p.2 ∈ C.idx := by unfold Cx.idx; exact List.mem_append_left _ (List.mem_map.mpr ⟨p, hp, rfl⟩)
  have := hv p hp
  rw [get (lt hi)] at this ⊢
  rw [idx (lt hi), e2]
  ·exact this.mono
  ·intro hm'
   obtain ⟨q, hq, e⟩ := List.mem_map.mp hm'
   rcases i.cells q hq with g | g
   ·exact ok.dis p hp q g e.symm
   ·have := lt hi; lia
 ·obtain ⟨m, ⟨o, _, _, ho, _⟩, _⟩ := st.rel.ns
  exact keep2 st.rel.lnew.2 (by rw [ho]; simp)
 ·obtain ⟨g1, g2, g3, v, ⟨o, ho, hd⟩, g5⟩ := st.rel.cel p hp
  have hi : p.2.1 ∈ C.idx := by unfold Cx.idx; exact List.mem_append_right _ (List.mem_map.mpr ⟨p, hp, rfl⟩)
  refine .of g1 (keep2 g2 (by rw [ho]; simp)) g3 ?_
  rw [get (lt hi)] at g5 ⊢
  by_cases hc : ∃ q ∈ C'.cells, q.2.2 = p.2.2
  ·obtain ⟨q, hq, e⟩ := hc
   have hqC : q ∈ C.cells := by
    rcases i.cells q hq with g | g
    ·exact g
    ·exact absurd (hnew _ g.2) (e ▸ alive0 (.inr (.inr ⟨p, hp, rfl⟩)))
   obtain ⟨_, _, _, v', h4, h5⟩ := st'.rel.cel q hq
   have := (ok.unc q hqC p hp).mp e
   rw [e] at h4; rw [this] at h5
   exact ⟨v', h4, h5⟩
  ·have hno : ¬ zU C' aw p.2.2 := live (alive0 (.inr (.inr ⟨p, hp, rfl⟩))) g2 fun q hq _ e => hc ⟨q, hq, e⟩
   obtain ⟨o', ho', hs⟩ := back ho hno
   refine ⟨v, ⟨o', ho', ?_⟩, ?_⟩
   ·rcases hs with rfl | ⟨_, sl, rfl⟩ <;> exact hd
   ·rw [idx (lt hi), e2]
    ·exact g5.mono
    ·intro hm'
     obtain ⟨q, hq, e⟩ := List.mem_map.mp hm'
     rcases i.cells q hq with g | g
     ·exact hc ⟨q, hq, (ok.unc q g p hp).mpr e⟩
     ·have := lt hi; lia
 ·have := st'.rel.frs
  rwa [i.fenv, i.outer] at this
 ·obtain ⟨_, L', o, es, n, hf', _, ho', _⟩ := st.rel.frs e he
  rw [hL] at hf'; cases hf'
  exact keep2 (st.rel.frn e he L hL).1 (by rw [ho']; simp)
 ·have h1 := st.rel.locs n hn
  have h2 := lt hn
  unfold e8 at h1 ⊢
  simp only [List.length_take] at h1 ⊢
  have : n < aq.loc.length := by
   by_cases hc : n ∈ C'.idx
   ·exact st'.rel.locs n hc
   ·have e := st'.loc n hc
    have hl : n < ae.loc.length := by lia
    rw [List.getElem?_eq_getElem hl] at e
    exact (List.getElem?_eq_some_iff.mp e).1
  lia
 ·rcases List.mem_append.mp ha with h | h
  ·exact n1 a h
  ·cases q : bg.heap.get? a with
   | none => rfl
   | some o =>
    exfalso
    have hl := st.live (a := a) (by rw [q]; simp)
    exact hl (n2 a h)
 ·obtain ⟨o', h1, h2⟩ := st.pres a o ho hn
  have h3 := tc ez st ho hn
  obtain ⟨o'', h4, h5⟩ := back h1 (live (by rw [ho]; simp) h3 fun p _ hp e => hn (.inr (.inr ⟨p, hp, e⟩)))
  exact ⟨o'', h4, h2.trans h5⟩
 ·rw [← st.loc n hn]
  by_cases hnj : n < j
  ·rw [get hnj, get hnj]
   exact st'.loc n fun h => (i.idx h).elim (fun q => by lia) hn
  ·unfold e8
   rw [List.getElem?_eq_none (by simp; lia), List.getElem?_eq_none (by simp; lia)]
theorem Step.butNew (st : Step prog w ac C cu ct bg aw ae az) (ez : zT prog w ac C cu ct bg) {I : Addr} {h' : Heap} (hI0 : bg.heap.get? I = none) (hI : I ∉ aw) (hb : ac.get? I = none) (e : Heap.ExtBut I az.heap h') (tk : Nat) :
  Step prog w ac C cu ct bg aw ae { az with heap := h', toks := tk } := by
 have alive : ∀ {a : Addr}, bg.heap.get? a ≠ none → a ≠ I := fun h q => h (q ▸ hI0)
 refine ⟨⟨⟨fun b o' q => e b o' (by rintro rfl; rw [hb] at q; cases q) (st.rel.hp.base b o' q), st.rel.hp.len, fun l o' a h1 h2 => ?_, st.rel.hp.nodup, st.rel.hp.new, st.rel.hp.sys, st.rel.hp.main⟩, ?_, st.rel.lnew, fun p hp => ?_, fun en he => ?_, st.rel.frn, st.rel.locs⟩,
  st.ext, fun a o' h1 h2 => ?_, st.loc, st.rest⟩
 ·obtain ⟨ob, h3, h4⟩ := st.rel.hp.obj l o' a h1 h2
  exact ⟨ob, e a ob (by rintro rfl; exact hI (List.mem_of_getElem? h2)) h3, h4⟩
 ·obtain ⟨m, ⟨o', es, ep, h3, h4, h5⟩, hv⟩ := st.rel.ns
  exact ⟨m, ⟨o', es, ep, e _ _ (alive (bo ez _ (.inr (.inl rfl)))) h3, h4, h5⟩, hv⟩
 ·obtain ⟨g1, g2, g3, v, ⟨o', h3, h4⟩, g5⟩ := st.rel.cel p hp
  exact ⟨g1, g2, g3, v, ⟨o', e _ _ (alive (bo ez _ (.inr (.inr ⟨p, hp, rfl⟩)))) h3, h4⟩, g5⟩
 ·obtain ⟨hk, L, o', es, n, hf, hb', h3, h4⟩ := st.rel.frs en he
  obtain ⟨_, L0, o0, _, _, hf0, _, h0, _⟩ := ez.frs en he
  rw [hf] at hf0; cases hf0
  exact ⟨hk, L, o', es, n, hf, hb', e _ _ (alive (by rw [h0]; simp)) h3, h4⟩
 ·obtain ⟨o'', h3, h4⟩ := st.pres a o' h1 h2
  exact ⟨o'', e a o'' (by rintro rfl; rw [hI0] at h1; cases h1) h3, h4⟩
theorem zT.enter (i : rQ C C' j new) (r : zT prog w ac C ρ σ s) (hj : σ.loc.length = j) (hL : ∃ m, s.heap.Ns C'.env.locals m ∧ ∀ p ∈ C'.vars, m p.1 = none) (hl1 : ac.get? C'.env.locals = none) (hl2 : C'.env.locals ∉ ρ)
  (hc : ∀ p ∈ C'.cells, p ∉ C.cells → ac.get? p.2.2 = none ∧ p.2.2 ∉ ρ ∧ p.2.2 ≠ C'.env.locals ∧ s.heap.IsCell p.2.2 none) (hnc : ∀ p ∈ C.cells, ¬ new p.2.2) (hfr : ∀ e ∈ C.fenv :: C.outer, ∀ L, e.frame = some L → ¬ new L) :
  zT prog w ac C' ρ { σ with loc := σ.loc ++ [none] } s := by
 have get : ∀ {n : Nat}, n < j → (σ.loc ++ [none])[n]? = σ.loc[n]? := fun {n} hn => by rw [List.getElem?_append_left (by lia)]
 have getj : (((σ.loc ++ [none])[j]?).join : Option V) = none := by rw [← hj]; simp
 refine ⟨r.hp, ?_, ⟨hl1, hl2⟩, fun p hp => ?_, by rw [i.fenv, i.outer]; exact r.frs, fun e he L hL' => ?_, fun n hn => ?_⟩
 ·obtain ⟨m, hm, hv⟩ := hL
  refine ⟨m, hm, fun p hp => ?_⟩
  dsimp only
  rw [i.vars p hp, getj, hv p hp]
  trivial
 ·by_cases q : p ∈ C.cells
  ·obtain ⟨g1, g2, g3, v, g4, g5⟩ := r.cel p q
   refine ⟨g1, g2, fun e => hnc p q (e ▸ i.loc), v, g4, ?_⟩
   have : p.2.1 < j := hj ▸ r.locs _ (by unfold Cx.idx; exact List.mem_append_right _ (List.mem_map.mpr ⟨p, q, rfl⟩))
   dsimp only
   rw [get this]; exact g5
  ·obtain ⟨h1, h2, h3, h4⟩ := hc p hp q
   refine ⟨h1, h2, h3, none, h4, ?_⟩
   dsimp only
   rw [((i.cells p hp).resolve_left q).1, getj]
   trivial
 ·rw [i.fenv, i.outer] at he
  refine ⟨(r.frn e he L hL').1, fun p hp => ?_⟩
  rcases i.cells p hp with q | q
  ·exact (r.frn e he L hL').2 p q
  ·intro e'; exact hfr e he L hL' (e' ▸ q.2)
 ·show n < (σ.loc ++ [none]).length
  rcases i.idx hn with q | q
  ·simp; lia
  ·have := r.locs n q; simp; lia
noncomputable def c9 (l : Nat) (y : V) (σ : St) : zV Unit := match σ.heap[l]? with
 | some (.list ys) => if ys.length ≤ sizeLine then .ok () { σ with heap := σ.heap.set l (.list (ys ++ [y])) } else .bad
 | _ => .bad
noncomputable def c8 (j : Nat) (tests : St → zV Bool) (elt : St → zV V) (src : Option (Nat × O)) (l : Nat) : List V → St → zV Unit
 | [], σ => if dL src σ.heap then .ok () σ else .bad
 | x :: xs, σ => if dL src σ.heap then (ao j x σ).bind fun _ ae => (tests ae).calm.bind fun b aq =>
   if b then (elt aq).calm.bind fun y aS => (c9 l y aS).bind fun _ cg => c8 j tests elt src l xs cg else c8 j tests elt src l xs aq else .bad
noncomputable def bI (j : Nat) (mi : St → zV V) (tests : St → zV Bool) (elt : St → zV V) : St → zV V := fun σ => (mi σ).bind fun v ae => match bZ v ae.heap with
 | some (xs, src) => if ae.loc.length = j then (c8 j tests elt src ae.heap.length xs { loc := ae.loc ++ [none], heap := ae.heap ++ [.list []] }).bind fun _ aq => .ok (.ref ae.heap.length) (e8 j aq) else .bad
 | none => .bad
theorem lF (r : zT prog w ac C ρ σ s) {l : Nat} {a : Addr} {y : V} {y' : Value} {A : Around} {Q : Value → Shared → Prop} {E : Value → Shared → Prop} (hl : ρ[l]? = some a) (hy : VR ρ y y') (hn : c9 l y σ ≠ .bad)
  (k : ∀ σ' s', c9 l y σ = .ok () σ' → Step prog w ac C ρ σ s ρ σ' s' → Q .none s') : wpAny (model prog w) A (call (.builtin "list.append") [.ref a, y']) Q E s := by
 unfold c9 at hn k
 split at hn
 ·rename_i ys q
  split at hn
  ·rename_i hsz
   rw [q] at k
   simp only [hsz, if_true] at k
   obtain ⟨ob, h1, vs, n, rfl, hv⟩ := r.hp.obj _ _ _ q hl
   refine wpAny_list_append_plain (items := vs.toArray) ⟨n, h1⟩ (fun h' ⟨n', h2⟩ hs => k _ _ rfl (r.upd (t := s.toks) hl hs h2 ⟨vs ++ [y'], n', by simp, hv.append (.one hy)⟩)) (by simp [hv.length]; exact hsz)
  ·exact absurd rfl hn
 ·exact absurd rfl hn
end
structure yY (C C' : Cx) (scope : Scope) (j : Nat) (new : Addr → Prop) (s : Shared) (h' : Heap) (cenv : Env) : Prop where
 env : C'.env = { cenv with scope := relabel scope C.env }
 loc : cenv.locals = C'.env.locals
 inner : rQ C C' j new
 fresh : ∀ a, new a → s.heap.objs.size ≤ a
 kp : ∀ b o, s.heap.get? b = some o → h'.get? b = some o
 ns : ∃ m, h'.Ns C'.env.locals m ∧ ∀ p ∈ C'.vars, m p.1 = none
 cel : ∀ p ∈ C'.cells, p ∉ C.cells → p.2.2 ≠ C'.env.locals ∧ h'.IsCell p.2.2 none
noncomputable abbrev fu (ifs : List Expr) (env : Env) : Sem Bool := forIn ifs true fun c r => if r = true then do let ok ← isTrue c env (eval c env); pure (ForInStep.yield ok) else pure (ForInStep.yield r)
section
variable {prog : Program} {w : World} {ac : Heap} {C C' : Cx} {mg mb : Str → Option Value} {α β γ : Type} {ρ cu aw aK : List Addr} {σ ct ae aq : St} {s bg az aT : Shared} {j : Nat} {new : Addr → Prop}
inductive CompI (prog : Program) (w : World) (ac : Heap) (C C' : Cx) (aw : List Addr) (ae : St) (az : Shared) (P : List V → Heap → Prop) (I D : Addr) (j : Nat) (f : List V → St → zV Unit) (z : zV Unit) (k : Nat) (s' : Shared) : Prop
 | mk (ρ' : List Addr) (σ' : St) (ys : List V) (st : Step prog w ac C aw ae az ρ' (e8 j σ') s') (r : zT prog w ac C' ρ' σ' s') (hP : P ys s'.heap) (hI : I ∉ ρ') (mo : List Addr) (emo : ρ' = (aw ++ [D]) ++ mo) (hk : k = ys.length) (hf : f ys σ' = z)
theorem lC (ok : C.Ok) (hh : C.A.handled = none) {x : Str} {px pos p' : Pos} {scope : Scope} {iter elt : Expr} {ifs : List Expr} {cl : List (Str × Addr)} {mi : St → zV V} {tests : St → zV Bool} {me : St → zV V} {Shape : Cx → Prop} {use : Option (Value → Sem Unit)}
  {Q : Value → Shared → Prop} {o : zV γ} {g : V → St → zV γ}
  (hs : ∀ x, foldedSetIterable iter C.env x = pure x) (hclos : closureFor scope C.env = pure cl) (hkind : scope.kind = .function) (hnames : ∀ y ∈ scope.names, y.2 = .local → scope.names.lookup y.1 = some .local)
  (hi : bi prog w ac C mi (eval iter C.env))
  (prep : (∀ i ∈ C.idx, i < j) → ∀ (s : Shared) (Q : Env → Shared → Prop) (E : Value → Shared → Prop), (∀ p ∈ C.cells, p.2.2 < s.heap.objs.size) → (∀ cenv h' C' new, yY C C' scope j new s h' cenv → Shape C' → Q cenv { s with heap := h' }) →
   wpAny (model prog w) C.A (newFunctionEnv scope C.env.globals cl [] C.env.qual none .none (some C.env)) Q E s)
  (body : ∀ C', Shape C' → C'.A = C.A → zS prog w ac C' gK tests (fu ifs C'.env) ∧ bi prog w ac C' me (eval elt C'.env) ∧ j4 prog w ac C' (ao j) (.Name x px))
  (r : zT prog w ac C ρ σ s) (ho : o = (bI j mi tests me σ).bind g) (hn : o ≠ .bad)
  (post : ∀ v aq aK aT a L, bI j mi tests me σ = .ok v aq → o = g v aq → VR aK v a → Step prog w ac C ρ σ s aK aq aT → s.heap.get? L = none → L ∉ aK → ac.get? L = none → (∃ m, aT.heap.Ns L m) →
   compPost (model prog w) C.A (z3 prog w ac C ρ σ s o) use Q a L (.ok .next) aT) :
  wpAny (model prog w) C.A (comprehension (.ListComp elt [⟨.Name x px, iter, ifs, 0⟩] scope pos) scope C.env p' (newList []) false (eval iter C.env) use) Q (z3 prog w ac C ρ σ s o) s := by
 refine wpAny_comprehension_free rfl hs hclos hkind hnames ?_
 have ho' : o = (mi σ).bind fun v ae => zV.bind (match bZ v ae.heap with
  | some (xs, src) => if ae.loc.length = j then (c8 j tests me src ae.heap.length xs { loc := ae.loc ++ [none], heap := ae.heap ++ [.list []] }).bind fun _ aq => .ok (.ref ae.heap.length) (e8 j aq) else .bad
  | none => .bad) g := by
  rw [ho]; unfold bI
  cases mi σ <;> rfl
 refine (hi.at r).next ho' hn fun v ae aw az v' em vv au e => ?_
 have hcm : bI j mi tests me σ = (match bZ v ae.heap with
  | some (xs, src) => if ae.loc.length = j then (c8 j tests me src ae.heap.length xs { loc := ae.loc ++ [none], heap := ae.heap ++ [.list []] }).bind fun _ aq => .ok (.ref ae.heap.length) (e8 j aq) else .bad
  | none => .bad) := by unfold bI; rw [em]; rfl
 cases q : bZ v ae.heap with
 | none => rw [q] at e; exact absurd e hn
 | some p =>
  obtain ⟨xs, src⟩ := p
  rw [q] at e hcm
  dsimp only at e hcm
  by_cases hj : ae.loc.length = j
  ·rw [if_pos hj] at e hcm
   refine rG hh au.rel.hp vv q fun ob P a hsrc hW hP => ?_
   generalize hI : az.heap.objs.size = I at *
   have hI1 : az.heap.get? I = none := hI ▸ Heap.get?_none_of_le (Nat.le_refl _)
   have hIb : ac.get? I = none := hI ▸ au.rel.hp.base.fresh
   have hIρ : I ∉ aw := hI ▸ au.rel.hp.fresh
   have st2 := au.rel.grow ob az.toks
   refine wpAny_newList ?_ (by simp)
   have st3 := st2.rel.alloc (o := .list []) (ob := { cls := .type "list", data := .seq ([] : List Value).toArray }) (t := az.toks) rfl ⟨[], 0, rfl, .nil⟩
   have hDI : I ≠ (az.heap.push ob).objs.size := by rw [Heap.size_push, hI]; exact Nat.ne_of_lt (Nat.lt_succ_self _)
   generalize hD : (az.heap.push ob).objs.size = D at *
   have st3' := st2.trans st3
   have hlt : ∀ i ∈ C.idx, i < j := fun i hi => hj ▸ au.rel.locs i hi
   refine prep hlt _ _ _ (fun p hp => by
    obtain ⟨oo, hoo⟩ := Option.ne_none_iff_exists'.mp (bo st3'.rel p.2.2 (.inr (.inr ⟨p, hp, rfl⟩)))
    exact Heap.lt_size hoo) fun cenv h' C' new P' sh => ?_
   have inner := P'.inner
   have oldn : ∀ a, new a → az.heap.get? a = none := fun a ha => by
    have := P'.fresh a ha
    refine Heap.get?_none_of_le (Nat.le_trans ?_ this)
    simp only [Heap.size_push]
    lia
   have hne3 : ∀ a, new a → ({ az with heap := (az.heap.push ob).push { cls := .type "list", data := .seq ([] : List Value).toArray } } : Shared).heap.get? a = none := fun a ha => Heap.get?_none_of_le (P'.fresh a ha)
   have st4 : Step prog w ac C aw ae az (aw ++ [D]) { ae with heap := ae.heap ++ [.list []] } { az with heap := h' } := st3'.trans (st3'.rel.keep (s' := { az with heap := h' }) P'.kp ⟨rfl, rfl, rfl⟩)
   have nρ : ∀ a, new a → a ∉ aw ++ [D] := fun a ha hm => by
    obtain ⟨l, hl, el⟩ := List.mem_iff_getElem.mp hm
    have := bo st3'.rel a (.inl hm)
    exact this (hne3 a ha)
   have nb : ∀ a, new a → ac.get? a = none := fun a ha => by
    cases qq : ac.get? a with
    | none => rfl
    | some oo => have := au.rel.hp.base a oo qq; rw [oldn a ha] at this; cases this
   have rel' : zT prog w ac C' (aw ++ [D]) { loc := ae.loc ++ [none], heap := ae.heap ++ [.list []] } { az with heap := h' } :=
    zT.enter (σ := { ae with heap := ae.heap ++ [.list []] }) inner st4.rel hj P'.ns (nb _ inner.loc) (nρ _ inner.loc) (fun p hp hw => have hw' := ((inner.cells p hp).resolve_left hw).2; ⟨nb _ hw', nρ _ hw', P'.cel p hp hw⟩)
     (fun p hp hw => bo au.rel p.2.2 (.inr (.inr ⟨p, hp, rfl⟩)) (oldn _ hw))
     fun en he L hL hw => by
      obtain ⟨_, L', oL, _, _, hf, _, h0, _⟩ := au.rel.frs en he
      rw [hL] at hf; cases hf
      rw [oldn _ hw] at h0; cases h0
   have htr : e8 j { loc := ae.loc ++ [none], heap := ae.heap ++ [.list []] } = { ae with heap := ae.heap ++ [.list []] } := by
    unfold e8; simp [← hj]
   obtain ⟨b1, b2, b3⟩ := body C' sh inner.A
   have hlab : (aw ++ [D])[ae.heap.length]? = some D := by rw [← au.rel.hp.len]; simp
   have hP0 : P xs h' := by
    obtain ⟨oI, vI, hoI, _⟩ := (hW C.A hh).live _ _ hP
    refine (hW C.A hh).frame _ _ _ hP ?_
    rw [hoI]
    exact P'.kp _ _ (Heap.get?_push_of_some _ hoI)
   have hI4 : I ∉ aw ++ [D] := fun hm => by
    rcases List.mem_append.mp hm with h | h
    ·exact hIρ h
    ·simp at h; exact hDI h
   have hno : c8 j tests me src ae.heap.length xs { loc := ae.loc ++ [none], heap := ae.heap ++ [.list []] } ≠ .bad := fun qq => hn (by rw [e, qq]; rfl)
   have loop : codeAny (model prog w) C'.A (.compLoop (.ListComp elt [⟨.Name x px, iter, ifs, 0⟩] scope pos) 0 (.ref I) (.ref D) C'.env)
     (compPost (model prog w) C.A (z3 prog w ac C ρ σ s o) use Q (.ref D) cenv.locals) { az with heap := h' } := by
    have W := hW C'.A (by rw [inner.A]; exact hh)
    refine codeAny_compLoop_tests (CompI prog w ac C C' aw ae az P I D j (c8 j tests me src ae.heap.length) (c8 j tests me src ae.heap.length xs { loc := ae.loc ++ [none], heap := ae.heap ++ [.list []] })) ?_ xs.length
     ⟨_, _, xs, htr.symm ▸ st4, rel', hP0, hI4, [], by simp, rfl, rfl⟩
    rintro k s' ⟨ρ', σ', ys, st', r', hP', hI', mo, emo, hk, hf⟩
    obtain ⟨oI, vI, hoI, hdI⟩ := W.live _ _ hP'
    have ext : ∃ more, ρ' = aw ++ more := let ⟨m, e, _⟩ := st'.ext; ⟨m, e⟩
    have hlab' : ρ'[ae.heap.length]? = some D := by rw [emo]; exact cr hlab
    cases ys with
    | nil =>
     obtain ⟨hst, hf⟩ := fp hf hno
     refine W.done s' ρ' σ'.heap _ _ hP' r'.hp (hsrc.ext ext (eT hst)) hI' fun h2 tk hx => ?_
     have st5 := st'.but hI1 hI' hIb hoI hdI hx tk
     have r5 := r'.but hI' hIb hoI hdI hx tk
     rw [← hf] at e hcm
     have hL : cenv.locals ∉ ρ' := P'.loc ▸ r'.lnew.2
     refine post (.ref ae.heap.length) (e8 j σ') ρ' _ _ _ hcm e ⟨D, hlab', rfl⟩ (au.trans st5) ?_ hL (P'.loc ▸ r'.lnew.1) ?_
     ·cases qq : s.heap.get? cenv.locals with
      | none => rfl
      | some oo => exact absurd (oldn _ (P'.loc ▸ inner.loc)) (au.live (by rw [qq]; simp))
     ·obtain ⟨m, hm, _⟩ := r5.ns
      exact ⟨m, P'.loc ▸ hm⟩
    | cons y ys =>
     obtain ⟨hst, hf⟩ := fp hf hno
     refine W.item y ys s' ρ' σ'.heap _ _ hP' r'.hp (hsrc.ext ext (eT hst)) hI' fun v2 h2 tk hv hP1 hx => ?_
     have st5 := st'.but hI1 hI' hIb hoI hdI hx tk
     have r5 := r'.but hI' hIb hoI hdI hx tk
     obtain ⟨oI1, vI1, hoI1, hdI1⟩ := W.live _ _ hP1
     rw [ao, zV.bind_ok] at hf
     refine wpAny_mono (b3 ρ' σ' _ y v2 r5 hv (by unfold ao; simp)) (fun _ s6 hp6 => ?_) fun _ _ hx => hx.elim
     obtain ⟨ρ6, _, st6⟩ := hp6
     obtain ⟨k1, k2⟩ := st6.same r5 hI' hoI1 hdI1
     have stC6 := Step.leave ok inner au.rel hj oldn st5 st6
     refine (b1.at st6.rel).calmF hf hno fun b σ7 ρ7 s7 b' vb st7 hf => ?_
     obtain ⟨k3, k4⟩ := st7.same st6.rel k2 (k1.trans hoI1) hdI1
     have hoI7 := k3.trans (k1.trans hoI1)
     have stC7 := Step.leave ok inner au.rel hj oldn stC6 st7
     obtain ⟨mo7, emo7⟩ : ∃ more, ρ7 = (aw ++ [D]) ++ more := by
      obtain ⟨m6, e6, _⟩ := st6.ext
      obtain ⟨m7, e7', _⟩ := st7.ext
      exact ⟨mo ++ (m6 ++ m7), by rw [e7', e6, emo]; simp only [List.append_assoc]⟩
     have hP7 : P ys s7.heap := W.frame _ _ _ (W.frame _ _ _ hP1 k1) k3
     have hlt7 : ys.length < k := hk ▸ Nat.lt_succ_self _
     cases vb
     cases b with
     | false => exact ⟨_, hlt7, ρ7, σ7, ys, stC7, st7.rel, hP7, k4, mo7, emo7, rfl, hf⟩
     | true =>
      refine (b2.at st7.rel).calmF hf hno fun y8 σ8 ρ8 s8 y8' vy st8 hf => ?_
      obtain ⟨k5, k6⟩ := st8.same st7.rel k4 hoI7 hdI1
      have stC8 := Step.leave ok inner au.rel hj oldn stC7 st8
      obtain ⟨m8, em8, _⟩ := st8.ext
      have hlab8 : ρ8[ae.heap.length]? = some D := by rw [em8, emo7]; exact cr (cr hlab)
      refine lF st8.rel hlab8 vy (fun qq => hno (hf.symm.trans (by rw [qq]; rfl))) fun σ9 s9 e9 st9 => ?_
      rw [e9, zV.bind_ok] at hf
      obtain ⟨k7, k8⟩ := st9.same st8.rel k6 (k5.trans hoI7) hdI1
      exact ⟨_, hlt7, ρ8, σ9, ys, Step.leave ok inner au.rel hj oldn stC8 st9, st9.rel, W.frame _ _ _ (W.frame _ _ _ hP7 k5) k7, k8, mo7 ++ m8, by rw [em8, emo7]; simp only [List.append_assoc], rfl, hf⟩
   rw [P'.env, inner.A] at loop
   exact codeAny_compStart_list loop ((hW C.A hh).self _ _ _ _ hP0 loop)
  ·rw [if_neg hj] at e; exact absurd e hn
end
structure eS (C : Cx) (scope : Scope) (vars : List (Str × Nat)) (own : List (Str × Nat)) (fs : List (Str × Nat × Addr)) (C' : Cx) : Prop where
 ok : C'.Ok
 vars : C'.vars = vars
 cells : ∃ L, C'.cells = own.map (fun p => (p.1, p.2, L)) ++ fs
 k : C'.k = C.k
 kind : ∀ y q, scope.names.lookup y = some q → q ≠ .free → C'.env.kindOf y = some q
theorem bO {env : Env} : ∀ {names : List (Str × NameKind)} {x : Str} {q : NameKind}, q ≠ .free → names.lookup x = some q →
  (names.map fun (n, k) => if (k == NameKind.free && env.scope.kind == .function && env.kindOf n == some .cell) then (n, NameKind.cell) else (n, k)).lookup x = some q
 | [], _, _, _, h => by simp at h
 | (n, k) :: r, x, q, hq, h => by
  have ih := @bO env r x q hq
  show List.lookup x ((if (k == NameKind.free && env.scope.kind == .function && env.kindOf n == some .cell) = true then (n, NameKind.cell) else (n, k)) :: _) = _
  cases hx : x == n with
  | true =>
   simp only [List.lookup_cons, hx] at h
   cases h
   have : (k == NameKind.free) = false := by simpa using hq
   simp [List.lookup_cons, hx, this]
  | false =>
   simp only [List.lookup_cons, hx] at h
   by_cases hc : (k == NameKind.free && env.scope.kind == .function && env.kindOf n == some .cell) = true
   ·rw [if_pos hc]; simp only [List.lookup_cons, hx]; exact ih h
   ·rw [if_neg hc]; simp only [List.lookup_cons, hx]; exact ih h
theorem cq {env : Env} : ∀ {names : List (Str × NameKind)} {x : Str}, names.lookup x = some .free →
  (names.map fun (n, k) => if (k == NameKind.free && env.scope.kind == .function && env.kindOf n == some .cell) then (n, NameKind.cell) else (n, k)).lookup x = some .cell ∨
  (names.map fun (n, k) => if (k == NameKind.free && env.scope.kind == .function && env.kindOf n == some .cell) then (n, NameKind.cell) else (n, k)).lookup x = some .free
 | [], _, h => by simp at h
 | (n, k) :: r, x, h => by
  have ih := @cq env r x
  show List.lookup x ((if (k == NameKind.free && env.scope.kind == .function && env.kindOf n == some .cell) = true then (n, NameKind.cell) else (n, k)) :: _) = _ ∨ List.lookup x ((if (k == NameKind.free && env.scope.kind == .function && env.kindOf n == some .cell) = true then (n, NameKind.cell) else (n, k)) :: _) = _
  cases hx : x == n with
  | true =>
   simp only [List.lookup_cons, hx] at h
   cases h
   by_cases hc : (NameKind.free == NameKind.free && env.scope.kind == .function && env.kindOf n == some .cell) = true
   ·rw [if_pos hc]; simp [List.lookup_cons, hx]
   ·rw [if_neg hc]; simp [List.lookup_cons, hx]
  | false =>
   simp only [List.lookup_cons, hx] at h
   by_cases hc : (k == NameKind.free && env.scope.kind == .function && env.kindOf n == some .cell) = true
   ·rw [if_pos hc]; simp only [List.lookup_cons, hx]; exact ih h
   ·rw [if_neg hc]; simp only [List.lookup_cons, hx]; exact ih h
section
variable {prog : Program} {w : World} {ac : Heap} {C C' : Cx} {mg mb : Str → Option Value} {α β γ : Type} {ρ cu aw aK : List Addr} {σ ct ae aq : St} {s bg az aT : Shared} {j : Nat} {new : Addr → Prop}
theorem eQ {env : Env} (f : Str × NameKind → List (Str × Addr) → Sem (ForInStep (List (Str × Addr)))) (hf : ∀ n k cs, f (n, k) cs = if k == .free then (do let c ← cellOf env n; pure (.yield ((n, c) :: cs))) else pure (.yield cs)) :
  ∀ (names : List (Str × NameKind)) (fs : List (Str × Nat × Addr)) (acc : List (Str × Addr)), (∀ p ∈ fs, env.cells.lookup p.1 = some p.2.2) → (names.filter (·.2 == .free)).map (·.1) = fs.map (·.1) →
   forIn names acc f = (pure ((fs.map fun p => (p.1, p.2.2)).reverse ++ acc) : Sem (List (Str × Addr)))
 | [], fs, acc, _, h => by
  have : fs = [] := by simpa using h.symm
  subst this; rfl
 | (n, k) :: r, fs, acc, hl, h => by
  rw [List.forIn_cons, hf]
  cases hk : k == NameKind.free with
  | false =>
   rw [List.filter_cons] at h
   simp only [hk, Bool.false_eq_true, if_false] at h ⊢
   have := eQ f hf r fs acc hl h
   simpa using this
  | true =>
   rw [List.filter_cons] at h
   simp only [hk, if_true] at h ⊢
   cases fs with
   | nil => simp at h
   | cons p fs =>
    simp only [List.map_cons, List.cons.injEq] at h
    obtain ⟨h1, h2⟩ := h
    have e : cellOf env n = pure p.2.2 := by unfold cellOf; rw [h1, hl p List.mem_cons_self]
    have := eQ f hf r fs ((n, p.2.2) :: acc) (fun q hq => hl q (List.mem_cons_of_mem _ hq)) h2
    rw [e]
    simp only [pure_bind]
    rw [this, h1]
    simp
theorem gy (ok : C.Ok) {scope : Scope} {fs : List (Str × Nat × Addr)} (hfs : ∀ p ∈ fs, p ∈ C.cells) (hfree : (scope.names.filter (·.2 == .free)).map (·.1) = fs.map (·.1)) :
  closureFor scope C.env = pure (fs.map fun p => (p.1, p.2.2)).reverse := by
 unfold closureFor
 have := eQ (env := C.env) (fun x cs => match x with | (n, k) => if k == .free then (do let c ← cellOf C.env n; pure (.yield ((n, c) :: cs))) else pure (.yield cs)) (fun n k cs => rfl) scope.names fs [] (fun p hp => (ok.cel p (hfs p hp)).2) hfree
 simp only [List.append_nil] at this
 simp only [bind_pure]
 exact this
theorem je {fs : List (Str × Nat × Addr)} (hn : (fs.map (·.1)).Nodup) {p : Str × Nat × Addr} (hp : p ∈ fs) : ((fs.map fun p => (p.1, p.2.2)).reverse).lookup p.1 = some p.2.2 := by
 have : ∀ {l : List (Str × Addr)} {x : Str} {v : Addr}, (l.map (·.1)).Nodup → (x, v) ∈ l → l.lookup x = some v := by
  intro l
  induction l with
  | nil => intro x v _ h; cases h
  | cons q l ih =>
   intro x v h hm
   obtain ⟨y, u⟩ := q
   rw [List.map_cons, List.nodup_cons] at h
   rcases List.mem_cons.mp hm with e | hm'
   ·cases e; simp
   ·have hne : (x == y) = false := by
     rw [beq_eq_false_iff_ne]; intro q; subst q
     exact h.1 (List.mem_map.mpr ⟨(x, v), hm', rfl⟩)
    rw [List.lookup_cons, hne]
    exact ih h.2 hm'
 refine this ?_ (List.mem_reverse.mpr (List.mem_map.mpr ⟨p, hp, rfl⟩))
 rw [List.map_reverse, List.map_map]
 exact List.pairwise_reverse.mpr (hn.imp fun h => Ne.symm h)
theorem i9 (ok : C.Ok) {scope : Scope} {x : Str} {fs : List (Str × Nat × Addr)} (hfs : ∀ p ∈ fs, p ∈ C.cells) (hfl : ∀ p ∈ fs, scope.names.lookup p.1 = some .free) (hfn : (fs.map (·.1)).Nodup)
  (hkind : scope.kind = .function) (hc : ∀ y ∈ scope.names, y.2 ≠ .cell) (hx : scope.names.lookup x = some .local) (hlt : ∀ i ∈ C.idx, i < j) (s : Shared) (Q : Env → Shared → Prop) (E : Value → Shared → Prop) (_ : ∀ p ∈ C.cells, p.2.2 < s.heap.objs.size)
  (h : ∀ cenv h' C' new, yY C C' scope j new s h' cenv → eS C scope [(x, j)] [] fs C' → Q cenv { s with heap := h' }) :
  wpAny (model prog w) C.A (newFunctionEnv scope C.env.globals (fs.map fun p => (p.1, p.2.2)).reverse [] C.env.qual none .none (some C.env)) Q E s := by
 refine wpAny_newFunctionEnv hc (by intro y hy; cases hy) (fun h' hn hs => ?_) hkind
 let C' : Cx := { A := C.A, env := compEnvC scope (fs.map fun p => (p.1, p.2.2)).reverse s.heap.objs.size C.env, fenv := C.fenv, outer := C.outer, vars := [(x, j)], cells := fs, k := C.k }
 have kp : ∀ b o, s.heap.get? b = some o → h'.get? b = some o := fun b o e => hs.extBut b o (Nat.ne_of_lt (Heap.lt_size e)) (Heap.get?_push_of_some _ e)
 refine h _ h' C' (· = s.heap.objs.size) ⟨rfl, rfl, ⟨rfl, rfl, rfl, rfl, fun p hp => by simp [C'] at hp; subst hp; rfl, fun p hp => .inl (hfs p hp)⟩, fun a e => Nat.le_of_eq e.symm, kp, ⟨_, hn, fun p hp => rfl⟩, fun p hp e => ?_⟩ ⟨?_, rfl, ⟨0, rfl⟩, rfl, fun y q hq hne => bO hne hq⟩
 ·exact absurd (hfs p hp) e
 ·exact {
   fr := ok.fr
   kind := hkind
   glob := ok.glob
   bltn := ok.bltn
   frame := ok.frame
   loc := fun p hp => by simp [C'] at hp; subst hp; exact bO (by intro q; cases q) hx
   cel := fun p hp => ⟨cq (hfl p hp), je hfn hp⟩
   depth := ok.depth
   units := ok.units
   uni := fun p hp q hq => by simp [C'] at hp hq; subst hp hq; simp
   unc := fun p hp q hq => ok.unc p (hfs p hp) q (hfs q hq)
   dis := fun p hp q hq => by
    simp [C'] at hp; subst hp
    have := hlt q.2.1 (by unfold Cx.idx; exact List.mem_append_right _ (List.mem_map.mpr ⟨q, hfs q hq, rfl⟩))
    show j ≠ q.2.1
    lia }
theorem qG (ok : C.Ok) {scope : Scope} {x : Str} {fs : List (Str × Nat × Addr)} (hfs : ∀ p ∈ fs, p ∈ C.cells) (hfl : ∀ p ∈ fs, scope.names.lookup p.1 = some .free) (hfn : (fs.map (·.1)).Nodup)
  (hkind : scope.kind = .function) (hc1 : ∀ n cl, cellsFrom n scope.names cl = (x, n) :: cl) (hc2 : ∀ h, pushCells h scope.names = h.push { cls := .type "cell", data := .cell none }) (hx : scope.names.lookup x = some .cell) (hlt : ∀ i ∈ C.idx, i < j) (s : Shared) (Q : Env → Shared → Prop) (E : Value → Shared → Prop) (hal : ∀ p ∈ C.cells, p.2.2 < s.heap.objs.size)
  (h : ∀ cenv h' C' new, yY C C' scope j new s h' cenv → eS C scope [] [(x, j)] fs C' → Q cenv { s with heap := h' }) :
  wpAny (model prog w) C.A (newFunctionEnv scope C.env.globals (fs.map fun p => (p.1, p.2.2)).reverse [] C.env.qual none .none (some C.env)) Q E s := by
 simp only [newFunctionEnv, Option.isSome_some, if_true]
 refine wpAny_bind (wpAny_alloc ?_)
 refine wpAny_bind (wpAny_layCells _ (fun name kind cells => by cases kind == NameKind.cell <;> simp) _ _ _ _ ?_)
 rw [hc1, hc2]
 refine wpAny_bind (wpAny_pure (wpAny_pure ?_))
 have hsz : ({ s with heap := s.heap.push { cls := .type "dict", data := .dict #[] } } : Shared).heap.objs.size = s.heap.objs.size + 1 := Heap.size_push ..
 let C' : Cx := { A := C.A, env := compEnvC scope ((x, s.heap.objs.size + 1) :: (fs.map fun p => (p.1, p.2.2)).reverse) s.heap.objs.size C.env, fenv := C.fenv, outer := C.outer, vars := [], cells := (x, j, s.heap.objs.size + 1) :: fs, k := C.k }
 have kp : ∀ b o, s.heap.get? b = some o → ((s.heap.push { cls := .type "dict", data := .dict #[] }).push { cls := .type "cell", data := .cell none }).get? b = some o := fun b o e => Heap.get?_push_of_some _ (Heap.get?_push_of_some _ e)
 refine h _ _ C' (fun a => s.heap.objs.size ≤ a) ⟨?_, rfl, ⟨rfl, rfl, rfl, Nat.le_refl _, fun p hp => by simp [C'] at hp, fun p hp => ?_⟩, fun a e => e, kp, ⟨_, (Heap.Ns.new s.heap (.type "dict")).keeps fun _ _ e => Heap.get?_push_of_some _ e, fun p hp => by simp [C'] at hp⟩, fun p hp e => ?_⟩ ⟨?_, rfl, ⟨s.heap.objs.size + 1, rfl⟩, rfl, fun y q hq hne => bO hne hq⟩
 ·rw [hsz]; rfl
 ·rcases List.mem_cons.mp hp with rfl | hp
  ·exact .inr ⟨rfl, Nat.le_succ _⟩
  ·exact .inl (hfs p hp)
 ·rcases List.mem_cons.mp hp with rfl | hp
  ·refine ⟨Nat.succ_ne_self _, { cls := .type "cell", data := .cell none }, ?_, rfl⟩
   have := Heap.get?_push_size (s.heap.push { cls := .type "dict", data := .dict #[] }) (o := { cls := .type "cell", data := .cell none }) rfl
   rw [Heap.size_push] at this
   exact this
  ·exact absurd (hfs p hp) e
 ·have ltc : ∀ p ∈ fs, p.2.1 < j := fun p hp => hlt p.2.1 (by unfold Cx.idx; exact List.mem_append_right _ (List.mem_map.mpr ⟨p, hfs p hp, rfl⟩))
  have lta : ∀ p ∈ fs, p.2.2 < s.heap.objs.size := fun p hp => hal p (hfs p hp)
  exact {
   fr := ok.fr
   kind := hkind
   glob := ok.glob
   bltn := ok.bltn
   frame := ok.frame
   loc := fun p hp => by simp [C'] at hp
   cel := fun p hp => by
    rcases List.mem_cons.mp hp with rfl | hp
    ·exact ⟨.inl (bO (by intro q; cases q) hx), by simp [C', compEnvC]⟩
    ·refine ⟨cq (hfl p hp), ?_⟩
     have hne : (p.1 == x) = false := by
      rw [beq_eq_false_iff_ne]
      intro e
      have := hfl p hp
      rw [e, hx] at this; cases this
     show List.lookup p.1 ((x, _) :: _) = _
     rw [List.lookup_cons, hne]
     exact je hfn hp
   depth := ok.depth
   units := ok.units
   uni := fun p hp => by simp [C'] at hp
   unc := fun p hp q hq => by
    rcases List.mem_cons.mp hp with rfl | hp <;> rcases List.mem_cons.mp hq with rfl | hq
    ·simp
    ·have := ltc q hq; have := lta q hq
     show (s.heap.objs.size + 1 = q.2.2) ↔ (j = q.2.1)
     constructor
     ·intro e; exact absurd (lta q hq) (by rw [← e]; exact Nat.not_lt.mpr (Nat.le_succ _))
     ·intro e; have := ltc q hq; lia
    ·have := ltc p hp; have := lta p hp
     show (p.2.2 = s.heap.objs.size + 1) ↔ (p.2.1 = j)
     constructor
     ·intro e; exact absurd (lta p hp) (by rw [e]; exact Nat.not_lt.mpr (Nat.le_succ _))
     ·intro e; have := ltc p hp; lia
    ·exact ok.unc p (hfs p hp) q (hfs q hq)
   dis := fun p hp => by simp [C'] at hp }
theorem bV : zS prog w ac C gK (aa true) (fu [] C.env) := fun _ _ _ r _ => wpAny_tests_nil (zu rfl (.refl r))
theorem cz {t : St → zV Bool} {c : Expr} (h : pL prog w ac C t c) : zS prog w ac C gK t (fu [c] C.env) := fun ρ σ s r hn => wpAny_tests_one (h ρ σ s r hn)
noncomputable abbrev oz (prog : Program) (w : World) (ac : Heap) (C : Cx) (Shape : Cx → Prop) (j : Nat) (x : Str) (px : Pos) (ifs : List Expr) (elt : Expr) (tests : St → zV Bool) (me : St → zV V) : Prop := ∀ C', Shape C' → C'.A = C.A → zS prog w ac C' gK tests (fu ifs C'.env) ∧ bi prog w ac C' me (eval elt C'.env) ∧ j4 prog w ac C' (ao j) (.Name x px)
noncomputable abbrev oy (prog : Program) (w : World) (C : Cx) (Shape : Cx → Prop) (j : Nat) (scope : Scope) (cl : List (Str × Addr)) : Prop := (∀ i ∈ C.idx, i < j) → ∀ (s : Shared) (Q : Env → Shared → Prop) (E : Value → Shared → Prop), (∀ p ∈ C.cells, p.2.2 < s.heap.objs.size) → (∀ cenv h' C' new, yY C C' scope j new s h' cenv → Shape C' → Q cenv { s with heap := h' }) → wpAny (model prog w) C.A (newFunctionEnv scope C.env.globals cl [] C.env.qual none .none (some C.env)) Q E s
theorem sr (ok : C.Ok) (hh : C.A.handled = none) {x : Str} {px pos : Pos} {scope : Scope} {iter elt : Expr} {ifs : List Expr} {cl : List (Str × Addr)} {mi : St → zV V} {tests : St → zV Bool} {me : St → zV V} {Shape : Cx → Prop}
  (hs : ∀ x, foldedSetIterable iter C.env x = pure x) (hclos : closureFor scope C.env = pure cl) (hkind : scope.kind = .function) (hnames : ∀ y ∈ scope.names, y.2 = .local → scope.names.lookup y.1 = some .local)
  (hi : bi prog w ac C mi (eval iter C.env)) (prep : oy prog w C Shape j scope cl) (body : oz prog w ac C Shape j x px ifs elt tests me) :
  bi prog w ac C (bI j mi tests me) (eval (.ListComp elt [⟨.Name x px, iter, ifs, 0⟩] scope pos) C.env) := by
 intro ρ σ s r hn
 rw [eval_ListComp]
 refine lC (g := fun v σ => .ok v σ) ok hh hs hclos hkind hnames hi prep body r (by cases bI j mi tests me σ <;> rfl) hn fun v aq aK aT a L e _ hv st hL1 hL2 hL3 ⟨m, hm⟩ => ?_
 refine ⟨m, hm, fun h' hs' => ?_⟩
 rw [e]
 exact zu hv (st.butNew r hL1 hL2 hL3 hs'.extBut aT.toks)
theorem fh (ok : C.Ok) (hh : C.A.handled = none) {x y : Str} {i : Nat} {px py pos spos : Pos} {scope : Scope} {iter elt : Expr} {ifs : List Expr} {cl : List (Str × Addr)} {mi : St → zV V} {tests : St → zV Bool} {me : St → zV V} {Shape : Cx → Prop}
  (hy : (y, i) ∈ C.vars) (hsw : swapsWith (.ListComp elt [⟨.Name x px, iter, ifs, 0⟩] scope pos) (some (.Name y py)) spos.line C.env = pure true)
  (hs : ∀ x, foldedSetIterable iter C.env x = pure x) (hclos : closureFor scope C.env = pure cl) (hkind : scope.kind = .function) (hnames : ∀ y ∈ scope.names, y.2 = .local → scope.names.lookup y.1 = some .local)
  (hi : bi prog w ac C mi (eval iter C.env)) (prep : oy prog w C Shape j scope cl) (body : oz prog w ac C Shape j x px ifs elt tests me) :
  gL prog w ac C (an (bI j mi tests me) (ao i)) (.Assign [.Name y py] (.ListComp elt [⟨.Name x px, iter, ifs, 0⟩] scope pos) spos) := by
 intro ρ σ s r hn
 rw [exec_Assign_Name_used _ _ _ _ hsw]
 refine wpAny_bind (wpAny_standAt (wpAny_bind ?_))
 show wpAny _ C.A (do let _ ← comprehension (.ListComp elt [⟨.Name x px, iter, ifs, 0⟩] scope pos) scope C.env _ (newList []) false (eval iter C.env) (some (assign (.Name y py) C.env))) _ _ s
 refine wpAny_bind (wpAny_mono (lC (o := an (bI j mi tests me) (ao i) σ) (g := fun v ae => (ao i v ae).bind fun _ aq => .ok .next aq) (Q := fun _ s' => zW prog w ac C FR ρ σ s (an (bI j mi tests me) (ao i) σ) .next s') ok hh hs hclos hkind hnames hi prep body r rfl hn fun v aq aK aT a L e e2 hv st hL1 hL2 hL3 ⟨m, hm⟩ => ?_) (fun _ s' hq => wpAny_pure (wpAny_pure hq)) fun _ _ e => e)
 rw [e2] at hn ⊢
 show wpAny _ _ (assign (.Name y py) C.env a) _ _ _
 refine At.then st (fJ ok hy aK aq aT v a st.rel hv) rfl hn fun _ aS b0 bF _ _ _ b9 st' e => ?_
 rw [e] at hn ⊢
 obtain ⟨o, es, ep, ho, hrest⟩ := id hm
 have hno : ¬ zU C aK L := by
  rintro (h | h | ⟨p, hp, h⟩)
  ·exact hL2 h
  ·subst h; exact bo r _ (.inr (.inl rfl)) hL1
  ·subst h; exact bo r _ (.inr (.inr ⟨p, hp, rfl⟩)) hL1
 have hL3' : L ∉ b0 := fun hm' => by
  obtain ⟨more, e1, n1⟩ := b9.ext
  rw [e1, List.mem_append] at hm'
  rcases hm' with q | q
  ·exact hL2 q
  ·rw [n1 _ q] at ho; cases ho
 refine ⟨m, d7 hm fun o ho => b9.pres L o ho hno, fun h' hs' => ?_⟩
 exact zu rfl (st'.butNew r hL1 hL3' hL3 hs'.extBut bF.toks)
end
theorem og {kindOf : Str → Option NameKind} : ∀ (binds : List (Str × Value)) (m : Str → Option Value), (∀ x ∈ binds, kindOf x.1 = some .local) → ∀ y, bindL kindOf binds m y = (binds.reverse.lookup y).or (m y)
 | [], m, _, y => by simp [bindL]
 | (n, v) :: r, m, h, y => by
  rw [bindL, if_pos (h (n, v) List.mem_cons_self), og r _ (fun x hx => h x (List.mem_cons_of_mem _ hx)) y, List.reverse_cons, List.lookup_append]
  cases r.reverse.lookup y with
  | some z => simp
  | none =>
   simp only [Option.none_or, List.lookup_cons, List.lookup_nil]
   by_cases e : y = n
   ·subst e; simp
   ·have : (y == n) = false := by simpa using e
    rw [if_neg e, this]; simp
theorem oh {kindOf : Str → Option NameKind} : ∀ (binds : List (Str × Value)) (m : Str → Option Value), (∀ x ∈ binds, kindOf x.1 = some .local) → bindC kindOf binds m = m
 | [], m, _ => rfl
 | (n, v) :: r, m, h => by rw [bindC, if_pos (h (n, v) List.mem_cons_self)]; exact oh r m fun x hx => h x (List.mem_cons_of_mem _ hx)
section
variable {prog : Program} {w : World} {ac : Heap} {mg mb : Str → Option Value}
theorem i4 (T : yK ac mg mb) {fa : Addr} {fd : FuncData} {body : List Stmt} {params others cells : List Str} {mk : List Value → Args} {bnd : List V → List O → Option (List V × List O)} {m : St → zV F} {k : Nat} (F : wR ac fa fd body)
  (hbind : oA prog w ac fd params mk bnd) (hnd : (params ++ others).Nodup) (hloc : ∀ x ∈ params ++ others, fd.scope.names.lookup x = some .local) (hcell : ∀ x ∈ cells, fd.scope.names.lookup x = some .cell ∧ ∀ n, ((cellsFrom n fd.scope.names []).lookup x).isSome = true) (hcn : cells.Nodup) (hcx : ∀ x ∈ cells, x ∉ params)
  (hb : ∀ C : Cx, C.Ok → C.env.scope = fd.scope → C.vars = (params ++ others).zipIdx → (∃ f : Str → Addr, C.cells = (cells.zipIdx (params ++ others).length).map fun p => (p.1, p.2, f p.1)) → C.A.handled = none → C.k = k → fW prog w ac C m body) :
  dy prog w ac (k + 1) (.ref fa) mk (dj ((params ++ others).length + cells.length) bnd m) := by
 intro A outer ρ H s vs xs hfr hq hd hu frs frm r ha hn
 obtain ⟨fo, hfo, hfd⟩ := F.obj
 unfold dj at hn ⊢
 cases hbn : bnd vs H with
 | none => rw [hbn] at hn; exact absurd rfl hn
 | some p =>
  obtain ⟨ps, b8⟩ := p
  rw [hbn] at hn
  dsimp only at hn ⊢
  refine codeAny_call_function (by lia) (r.base _ _ hfo) hfd F.co F.gen F.body (F.cd.keeps r.base) ?_
  refine wpAny_mono (hbind _ ρ H s vs xs ps b8 r ha hbn) (fun binds az ⟨aw, ys, hbs, hyl, hps, au⟩ => ?_) fun _ _ x => x.elim
  subst hbs
  have hpl : ps.length = params.length := by rw [← hyl, hps.length]
  rw [F.clo]
  refine wpAny_newFunctionEnv_cells F.kind (fun x hx => .inl (hloc _ (List.mem_append_left _ (List.of_mem_zip hx).1))) fun env henv aT X => ?_
  have hbl : ∀ x ∈ params.zip ys, env.kindOf x.1 = some .local := fun x hx => by rw [henv]; exact hloc _ (List.mem_append_left _ (List.of_mem_zip hx).1)
  obtain ⟨bG, tk, hs₂, kp⟩ := X.done
  subst hs₂
  have hns := X.toInCall.ns
  have hcl := X.cell
  have hap := X.apart
  have hab := X.above
  clear X
  rw [oh _ _ hbl] at hcl
  have hns : bG.Ns env.locals (fun x => (params.zip ys).reverse.lookup x) := by
   have e : bindL env.kindOf (params.zip ys) (fun _ => none) = fun x => (params.zip ys).reverse.lookup x := by
    funext y
    rw [og _ _ hbl y]; simp
   rw [← e]; exact hns
  refine ⟨T.nolimit.keeps fun b o e => kp b o (au.rel.base b o e), ?_⟩
  have hloc0 : env.locals = az.heap.objs.size := by rw [henv]; rfl
  generalize hL : az.heap.objs.size = L at *
  show codeAny _ _ (.func body env) _ _
  let f : Str → Addr := fun x => (env.cells.lookup x).getD 0
  let C : Cx := { A := A.deeper env, env := env, fenv := env, outer := outer, vars := (params ++ others).zipIdx, cells := (cells.zipIdx (params ++ others).length).map fun p => (p.1, p.2, f p.1), k := k }
  have hcells : env.cells = cellsFrom (L + 1) fd.scope.names [] := by rw [henv]; rfl
  have cmem : ∀ p ∈ C.cells, p.1 ∈ cells ∧ cells[p.2.1 - (params ++ others).length]? = some p.1 ∧ (params ++ others).length ≤ p.2.1 ∧ p.2.1 < (params ++ others).length + cells.length ∧ p.2.2 = f p.1 ∧ env.cells.lookup p.1 = some (f p.1) := fun p hp => by
   obtain ⟨q, hq, rfl⟩ := List.mem_map.mp hp
   obtain ⟨q1, q2⟩ := q
   have h1 := List.mk_mem_zipIdx_iff_le_and_getElem?_sub.mp hq
   have h2 : q1 ∈ cells := List.mem_of_getElem? h1.2
   refine ⟨h2, h1.2, h1.1, ?_, rfl, ?_⟩
   ·have := (List.getElem?_eq_some_iff.mp h1.2).1
    dsimp only; lia
   ·have := (hcell q1 h2).2 (L + 1)
    rw [← hcells] at this
    obtain ⟨c, hc⟩ := Option.isSome_iff_exists.mp this
    dsimp only [f]
    rw [hc]; rfl
  have cabove : ∀ p ∈ C.cells, L < p.2.2 := fun p hp => by
   obtain ⟨_, _, _, _, h5, h6⟩ := cmem p hp
   rw [h5, ← hloc0]; exact hab _ _ (mem_of_lookup h6)
  have cfresh : ∀ p ∈ C.cells, az.heap.get? p.2.2 = none := fun p hp => Heap.get?_none_of_le (by rw [hL]; exact Nat.le_of_lt (cabove p hp))
  have vmem : ∀ p ∈ C.vars, (params ++ others)[p.2]? = some p.1 := fun p hp => by
   have := List.mem_zipIdx_iff_getElem?.mp hp
   exact this
  have ok : C.Ok := {
   fr := by show A.frames.map (env :: ·) = _; rw [hfr]; rfl
   kind := by show env.scope.kind = _; rw [henv]; exact F.kind
   glob := by show env.globals = _; rw [henv]; exact F.glob
   bltn := by show env.builtins = _; rw [henv]; exact F.bl
   frame := rfl
   loc := fun p hp => by show env.kindOf p.1 = _; rw [henv]; exact hloc _ (List.mem_of_getElem? (vmem p hp))
   cel := fun p hp => by
    obtain ⟨h1, _, _, _, h5, h6⟩ := cmem p hp
    refine ⟨.inl ?_, by rw [h5]; exact h6⟩
    show env.kindOf p.1 = _
    rw [henv]; exact (hcell _ h1).1
   depth := by show A.depth + 1 + k < _; lia
   units := by show A.units + 3 + 8 * k + 100 < _; lia
   uni := fun p hp q hq' => by
    have h1 := vmem p hp
    have h2 := vmem q hq'
    constructor
    ·intro e
     rw [e] at h1
     obtain ⟨a1, b1⟩ := List.getElem?_eq_some_iff.mp h1
     obtain ⟨a2, b2⟩ := List.getElem?_eq_some_iff.mp h2
     have hp' := List.pairwise_iff_getElem.mp hnd
     rcases Nat.lt_trichotomy p.2 q.2 with g | g | g
     ·exact absurd (b1.trans b2.symm) (hp' _ _ a1 a2 g)
     ·exact g
     ·exact absurd (b2.trans b1.symm) (hp' _ _ a2 a1 g)
    ·intro e
     rw [e, h2] at h1
     exact (Option.some.inj h1).symm
   unc := fun p hp q hq' => by
    obtain ⟨_, a2, a3, _, a5, a6⟩ := cmem p hp
    obtain ⟨_, b2, b3, _, b5, b6⟩ := cmem q hq'
    have hpn := List.pairwise_iff_getElem.mp hcn
    constructor
    ·intro e
     have hn' := name_of_addr hap (mem_of_lookup a6) (by rw [← a5, e, b5]; exact mem_of_lookup b6)
     rw [hn'] at a2
     obtain ⟨i1, j1⟩ := List.getElem?_eq_some_iff.mp a2
     obtain ⟨i2, j2⟩ := List.getElem?_eq_some_iff.mp b2
     rcases Nat.lt_trichotomy (p.2.1 - (params ++ others).length) (q.2.1 - (params ++ others).length) with g | g | g
     ·exact absurd (j1.trans j2.symm) (hpn _ _ i1 i2 g)
     ·lia
     ·exact absurd (j2.trans j1.symm) (hpn _ _ i2 i1 g)
    ·intro e
     rw [e, b2] at a2
     rw [a5, b5, Option.some.inj a2]
   dis := fun p hp q hq' => by
    obtain ⟨_, _, b3, _, _, _⟩ := cmem q hq'
    have := (List.getElem?_eq_some_iff.mp (vmem p hp)).1
    lia }
  obtain ⟨more, e1, n1⟩ := au.ext
  have olive : ∀ L' ∈ bD outer, L' ∉ aw ∧ ∃ o es n, az.heap.get? L' = some o ∧ o.data = .dict es n := fun L' hL' => by
   obtain ⟨_, o, es, n, ho, hdd⟩ := frs.mem hL'
   obtain ⟨o', ho', hs⟩ := au.pres L' o ho (frm L' hL')
   refine ⟨fun hm => ?_, o', es, n, ho', ?_⟩
   ·rw [e1, List.mem_append] at hm
    rcases hm with h | h
    ·exact frm L' hL' h
    ·rw [n1 _ h] at ho; cases ho
   ·rcases hs with rfl | ⟨_, sl, rfl⟩ <;> exact hdd
  have rel : zT prog w ac C aw ⟨dH ((params ++ others).length + cells.length) ps, b8⟩ { az with heap := bG, toks := tk } := {
   hp := au.rel.keep fun a o e _ => kp a o e
   ns := ⟨_, hns, fun p hp => (pY hnd hyl hps (vmem p hp)).l⟩
   lnew := by
    show ac.get? env.locals = none ∧ env.locals ∉ aw
    rw [hloc0]
    subst hL
    exact ⟨au.rel.base.fresh, au.rel.fresh⟩
   cel := fun p hp => by
    obtain ⟨h1, h2, h3, h4, h5, h6⟩ := cmem p hp
    refine ⟨?_, fun hm => ?_, ?_, none, by rw [h5]; exact hcl _ _ h6, ?_⟩
    ·cases qq : ac.get? p.2.2 with
     | none => rfl
     | some oo => have := au.rel.base _ _ qq; rw [cfresh p hp] at this; cases this
    ·obtain ⟨l, hl, el⟩ := List.mem_iff_getElem.mp hm
     obtain ⟨ob, g1, _⟩ := au.rel.obj l _ _ (List.getElem?_eq_getElem (au.rel.len ▸ hl)) (by rw [List.getElem?_eq_getElem hl, el])
     rw [cfresh p hp] at g1; cases g1
    ·show p.2.2 ≠ env.locals
     rw [hloc0]; exact Nat.ne_of_gt (cabove p hp)
    ·show zQ aw ((dH ((params ++ others).length + cells.length) ps)[p.2.1]?).join none
     rw [kW, List.getElem?_eq_none (by rw [hpl]; simp only [List.length_append] at h3; lia)]
     trivial
   frs := fun e he => by
    rcases List.mem_cons.mp he with hee | he
    ·have hee : e = env := hee
     rw [hee]
     obtain ⟨o, es, ep, ho, hdd, _⟩ := hns
     refine ⟨?_, L, o, es, ep, by show env.frame = _; rw [henv]; rfl, by subst hL; exact au.rel.base.fresh, by rw [← hloc0]; exact ho, hdd⟩
     show env.scope.kind ≠ .module
     rw [henv]; show fd.scope.kind ≠ .module
     rw [F.kind]; intro q; cases q
    ·obtain ⟨hk, L', o, es, n, hf, hb', ho, hdd⟩ := frs e he
     obtain ⟨_, o', es', n', ho', hdd'⟩ := olive L' (List.mem_filterMap.mpr ⟨e, he, hf⟩)
     exact ⟨hk, L', o', es', n', hf, hb', kp _ _ ho', hdd'⟩
   frn := fun e he L' hL' => by
    rcases List.mem_cons.mp he with hee | he
    ·have hee : e = env := hee
     rw [hee] at hL'
     have hL' : env.frame = some L' := hL'
     rw [henv] at hL'
     cases hL'
     exact ⟨by rw [← hL]; exact au.rel.fresh, fun p hp => Nat.ne_of_gt (cabove p hp)⟩
    ·obtain ⟨hh1, oo, _, _, hh2, _⟩ := olive L' (List.mem_filterMap.mpr ⟨e, he, hL'⟩)
     exact ⟨hh1, fun p hp q => by rw [← q, cfresh p hp] at hh2; cases hh2⟩
   locs := fun i hi => by
    have : i < (params ++ others).length + cells.length := by
     rcases List.mem_append.mp hi with h | h
     ·obtain ⟨p, hp, rfl⟩ := List.mem_map.mp h
      have := (List.getElem?_eq_some_iff.mp (vmem p hp)).1
      lia
     ·obtain ⟨p, hp, rfl⟩ := List.mem_map.mp h
      exact (cmem p hp).2.2.2.1
    show i < (dH ((params ++ others).length + cells.length) ps).length
    simp only [dH, List.length_append, List.length_map, List.length_replicate] at this ⊢
    lia }
  have down : ∀ {ρ' : List Addr} {σ' : St} {s' : Shared}, Step prog w ac C aw ⟨dH ((params ++ others).length + cells.length) ps, b8⟩ { az with heap := bG, toks := tk } ρ' σ' s' → cF prog w ac ρ H s ρ' σ'.heap s' := by
   intro ρ' σ' s' st
   obtain ⟨m2, e2, n2⟩ := st.ext
   refine au.trans ⟨st.rel.hp, ⟨m2, e2, fun x hx => ?_⟩, fun x o hx hn' => ?_, st.rest⟩
   ·cases q : az.heap.get? x with
    | none => rfl
    | some o => rw [← kp x o q]; exact n2 x hx
   ·refine st.pres x o (kp x o hx) ?_
    rintro (h | h | ⟨p, hp, _⟩)
    ·exact hn' h
    ·have h : x = env.locals := h
     rw [hloc0] at h
     subst h
     have := Heap.lt_size hx
     rw [hL] at this
     exact Nat.lt_irrefl _ this
    ·rename_i h
     rw [← h, cfresh p hp] at hx; cases hx
  have hbody := hb C ok (by show env.scope = _; rw [henv]; rfl) rfl ⟨f, rfl⟩ hq rfl aw _ _ rel
  refine codeAny_func ?_
  cases hm : m ⟨dH ((params ++ others).length + cells.length) ps, b8⟩ with
  | ok f τ =>
   rw [hm] at hn hbody
   refine wpAny_mono (hbody (by simp)) (fun f' s' h => ?_) fun _ _ h => h.elim
   obtain ⟨ρ', vf, st⟩ := h
   cases f with
   | next => cases vf; exact ⟨_, ρ', rfl, rfl, down st⟩
   | ret v => obtain ⟨x, rfl, hv⟩ := vf; exact ⟨x, ρ', rfl, hv, down st⟩
   | brk => exact absurd rfl hn
   | cont => exact absurd rfl hn
  | exc c as τ =>
   rw [hm] at hn hbody
   refine wpAny_mono (hbody (by simp)) (fun _ _ h => h.elim) fun e s' h => ?_
   obtain ⟨ρ', fl, st⟩ := h
   have sh := down st
   refine mE (ac := ac) (own := zU C ρ') ok.fr (L := L) (by show env.frame = _; rw [henv]; rfl) st.rel.frs fl (bo st.rel) (fun a h => ?_) (fun a h => st.live h) fun h' k1 k2 fl' k3 => ?_
   ·obtain ⟨o, ho⟩ := Option.ne_none_iff_exists'.mp h
    rw [kp _ _ (au.rel.base _ _ ho)]; simp
   obtain ⟨ea, Ta, rfl, o1, o2, o3, o4, k3⟩ := k3
   have liv : ∀ a, s.heap.get? a ≠ none → bG.get? a ≠ none := fun a h => by
    obtain ⟨o, ho⟩ := Option.ne_none_iff_exists'.mp h
    by_cases hm' : a ∈ ρ
    ·have : a ∈ aw := e1 ▸ List.mem_append_left _ hm'
     exact bo rel a (.inl this)
    ·obtain ⟨o', ho', _⟩ := au.pres a o ho hm'
     rw [kp _ _ ho']; simp
   refine ⟨_, ρ', rfl, (fl'.down fun a ha => .inl ha).before liv, ?_, sh.ext, fun x o hx hn' => ?_, sh.rest⟩
   ·refine st.rel.hp.keep fun a o ho hor => k2 a o ho (hor.elim (fun h => .inr h) fun h => .inl (.inl h)) fun hm' => ?_
    obtain ⟨e', he', hf'⟩ := List.mem_filterMap.mp hm'
    obtain ⟨_, L', o', es, n, hf'', hb', _, _⟩ := st.rel.frs e' he'
    rw [hf'] at hf''; cases hf''
    rcases hor with h | h
    ·exact h hb'
    ·exact (st.rel.frn e' he' a hf').1 h
   ·obtain ⟨o', ho', hs⟩ := sh.pres x o hx hn'
    have hl := liv x (by rw [hx]; simp)
    obtain ⟨o'', ho'', hs'⟩ := k3 x o' ho' (by rintro rfl; exact hl o3) (by rintro rfl; exact hl o4)
    exact ⟨o'', ho'', hs.trans hs'⟩
  | bad => rw [hm] at hn; exact absurd rfl hn
theorem nC (T : yK ac mg mb) {fa : Addr} {fd : FuncData} {body : List Stmt} {params others : List Str} {mk : List Value → Args} {bnd : List V → List O → Option (List V × List O)} {m : St → zV F} {k : Nat} (F : wR ac fa fd body)
  (hbind : oA prog w ac fd params mk bnd) (hnd : (params ++ others).Nodup) (hloc : ∀ x ∈ params ++ others, fd.scope.names.lookup x = some .local)
  (hb : ∀ C : Cx, C.Ok → C.env.scope = fd.scope → C.vars = (params ++ others).zipIdx → C.cells = [] → C.A.handled = none → C.k = k → fW prog w ac C m body) :
  dy prog w ac (k + 1) (.ref fa) mk (dj (params ++ others).length bnd m) :=
 i4 (cells := []) T F hbind hnd hloc (fun x h => nomatch h) .nil (fun x h => nomatch h) fun C ok hsc hv ⟨_, hc⟩ hh hk => hb C ok hsc hv hc hh hk
end
noncomputable def fM : List V → Option (List Int)
 | [] => some []
 | v :: vs => (zL v).bind fun i => (fM vs).map (i :: ·)
section
variable {prog : Program} {w : World} {ac : Heap} {C : Cx} {mg mb : Str → Option Value} {ρ : List Addr} {σ : St} {s : Shared}
theorem iA : ∀ {vs : List V} {xs : List Value} {ns : List Int}, bL ρ vs xs → fM vs = some ns → IntsAre xs ns
 | [], _, _, h, e => by cases h; cases e; exact .nil
 | v :: vs, _, ns, ⟨x, r, e, hv, hr⟩, h => by
  subst e
  obtain ⟨i, hi, h⟩ := Option.bind_eq_some_iff.mp h
  obtain ⟨ns', h', rfl⟩ := Option.map_eq_some_iff.mp h
  cases bS uJ hi
  obtain ⟨t, rfl⟩ := hv
  exact .cons i t (iA hr h')
noncomputable def iS (vs : List V) (σ : St) : zV V := g1 vs fun v => cond (bH v σ.heap) (gS v fun x => if (x.length : Int) < 2 ^ 63 then .ok (.int x.length) σ else .bad) (cond (aO v σ.heap) (gl v σ.heap fun _ xs => if (xs.length : Int) < 2 ^ 63 then .ok (.int xs.length) σ else .bad) (gt v σ.heap fun _ xs => if (xs.length : Int) < 2 ^ 63 then .ok (.int xs.length) σ else .bad))
theorem dG : cS prog w ac C (.builtin "len") av iS := fun ρ σ s vs xs r ha => by
 refine dw (t := fun xs => call (.builtin "len") xs) ha fun v x hv => bw (dA (t := fun x => call (.builtin "len") [x]) hv fun y t => a8 fun h _ => len_str (by lia) (zu ⟨_, rfl⟩ (r.toks _)))
  (bw (fB (t := fun x => call (.builtin "len") [x]) r.hp hv fun l a ys vs n _ _ h1 hv => a8 fun h _ => ?_) (tZ (t := fun x => call (.builtin "len") [x]) r.hp hv fun l a ys vs n _ _ h1 hv => a8 fun h _ => ?_)) <;> rw [← hv.length] at h ⊢
 ·exact call_len_list (items := vs.toArray) ⟨_, h1, rfl, n, rfl⟩ h (zu ⟨s.toks + 1, rfl⟩ (r.toks _))
 ·exact len_tuple (items := vs.toArray) ⟨_, h1, rfl, n, rfl⟩ h (zu ⟨s.toks + 1, rfl⟩ (r.toks _))
noncomputable def ek (vs : List V) (σ : St) : zV V := gc vs fun a as => gI a fun a => cond as.isEmpty (g0 as (.ok (.ref σ.heap.length) { σ with heap := σ.heap ++ [.range 0 a 1] })) (g2 as fun b c => gI b fun b => gI c fun c => if c ≠ 0 ∧ Builtin.divisionGoesByPylong (b - a) c = false then .ok (.ref σ.heap.length) { σ with heap := σ.heap ++ [.range a b c] } else .bad)
theorem cU : cS prog w ac C (.type "range") av ek := fun ρ σ s vs xs r ha =>
 rI (t := fun xs => call (.type "range") xs) ha fun v vs x xs hv ha => fe (t := fun x => call (.type "range") (x :: xs)) hv fun i t =>
  bw (jX (t := fun xs => call (.type "range") (.int i t :: xs)) ha fun _ => call_range_1 (zu (ρ' := ρ ++ [s.heap.objs.size]) ⟨_, bv r.hp _, rfl⟩ (r.alloc rfl ⟨_, _, _, rfl⟩)))
   (yy (t := fun xs => call (.type "range") (.int i t :: xs)) ha fun v u x y hv hu => fe (t := fun x => call (.type "range") [.int i t, x, y]) hv fun j t' => fe (t := fun y => call (.type "range") [.int i t, .int j t', y]) hu fun k t'' => a8 fun h _ =>
    call_range_3 h.1 (zu (ρ' := ρ ++ [s.heap.objs.size]) ⟨_, bv r.hp _, rfl⟩ (r.alloc rfl ⟨_, _, _, rfl⟩)) (.inl h.2))
noncomputable def y9 (vs : List V) (σ : St) : zV V := g1 vs fun v => gI v fun i => if 0 ≤ i ∧ i ≤ 0x10FFFF then .ok (.str ⟨#[i.toNat]⟩) σ else .bad
theorem u4 : cS prog w ac C (.builtin "chr") av y9 := fun ρ σ s vs xs r ha =>
 dw (t := fun xs => call (.builtin "chr") xs) ha fun v x hv => fe (t := fun x => call (.builtin "chr") [x]) hv fun i t => a8 fun h _ =>
  P.chr_of_int (by rw [Bool.or_eq_false_iff]; exact ⟨decide_eq_false (Int.not_lt.mpr h.1), decide_eq_false (Int.not_lt.mpr h.2)⟩) (zu ⟨_, rfl⟩ (r.toks _))
noncomputable def xW (vs : List V) (σ : St) : zV V := g1 vs fun v => gS v fun x => gO x.cps[0]? fun c => if x = ⟨#[c]⟩ then .ok (.int c) σ else .bad
theorem p9 : cS prog w ac C (.builtin "ord") av xW := fun ρ σ s vs xs r ha =>
 dw (t := fun xs => call (.builtin "ord") xs) ha fun v x hv => dA (t := fun x => call (.builtin "ord") [x]) hv fun y t => bA fun c _ => a8 fun h _ => by
  subst h; exact P.ord_of_char (zu ⟨_, rfl⟩ (r.toks _))
noncomputable def iJ (vs : List V) (σ : St) : zV V := g1 vs fun v => gl v σ.heap fun _ xs => gO (fM xs) fun ns => if ns.all (fun n => decide (0 ≤ n ∧ n < 256)) ∧ xs.length ≤ sizeLine then .ok (.bytes (byteArr ns)) σ else .bad
theorem eJ (hh : C.A.handled = none) : cS prog w ac C (.type "bytes") av iJ := fun ρ σ s vs xs r ha =>
 dw (t := fun xs => call (.type "bytes") xs) ha fun v x hv => fB (t := fun x => call (.type "bytes") [x]) r.hp hv fun l a ys vs n _ _ h1 hv => bA fun ns hi => a8 fun h _ =>
  call_bytes_ints (vs := vs) ⟨_, h1, rfl, n, rfl⟩ (iA hv hi) (fun n hn => of_decide_eq_true (List.all_eq_true.mp h.1 n hn)) (by rw [hv.length]; exact h.2) hh fun h' t k hk => zu ⟨t, rfl⟩ (r.keep hk ⟨rfl, rfl, rfl⟩)
noncomputable def y6 (vs : List V) (σ : St) : zV V := g1 vs fun v => gS v fun x => gO (PySem.intText? x) fun n => if x.length ≤ 640 then .ok (.int n) σ else .bad
theorem u2 : cS prog w ac C (.type "int") av y6 := fun ρ σ s vs xs r ha =>
 dw (t := fun xs => call (.type "int") xs) ha fun v x hv => dA (t := fun x => call (.type "int") [x]) hv fun y t => bA fun n q => a8 fun h _ =>
  KIN.call_text q h (zu ⟨_, rfl⟩ (r.toks _))
end
section
variable {prog : Program} {w : World} {ac : Heap} {C : Cx} {mg mb : Str → Option Value} {ρ : List Addr} {σ : St} {s : Shared}
noncomputable def ni (vs : List V) (σ : St) : zV V := g1 vs fun v => gl v σ.heap fun _ xs => if xs.length ≤ sizeLine then .ok (.ref σ.heap.length) { σ with heap := σ.heap ++ [.tup xs] } else .bad
theorem p5 : cS prog w ac C (.type "tuple") av ni := fun ρ σ s vs xs r ha =>
 dw (t := fun xs => call (.type "tuple") xs) ha fun v x hv => fB (t := fun x => call (.type "tuple") [x]) r.hp hv fun l a ys vs n _ _ h1 hv => a8 fun h _ =>
  call_tuple_list (items := vs.toArray) ⟨_, h1, rfl, n, rfl⟩ (fun h' hk =>
   have st := r.keep (s' := { s with heap := h' }) hk ⟨rfl, rfl, rfl⟩
   zu (ρ' := ρ ++ [h'.objs.size]) ⟨_, bv st.rel.hp _, rfl⟩ (st.trans (st.rel.alloc (t := s.toks) rfl ⟨vs, 0, rfl, hv.mono⟩))) (show vs.length ≤ sizeLine from hv.length ▸ h)
noncomputable def r7 (vs : List V) (σ : St) : zV V := g1 vs fun v => cond (asY v).isSome (gY v fun _ => .ok (.type "bytes") σ) (cond (asB v).isSome (gB v fun _ => .ok (.type "bool") σ) (gS v fun _ => .ok (.type "str") σ))
theorem jw : cS prog w ac C (.type "type") av r7 := fun ρ σ s vs xs r ha =>
 dw (t := fun xs => call (.type "type") xs) ha fun v x hv => bw (wG (t := fun x => call (.type "type") [x]) hv fun _ t _ => call_type_of (typeIs_bytes s _ t) (by decide) (zu rfl (.refl r)))
  (bw (at_gB (t := fun x => call (.type "type") [x]) hv fun _ _ => call_type_of (PySem.typeIs_bool s _) (by decide) (zu rfl (.refl r))) (dA (t := fun x => call (.type "type") [x]) hv fun _ t _ => call_type_of (typeIs_str s _ t) (by decide) (zu rfl (.refl r))))
noncomputable def isiF (vs : List V) (σ : St) : zV V := g2 vs fun a b => gS a fun _ => gT b fun n => if n = "str" then .ok (.bool true) σ else .bad
theorem u1 : cS prog w ac C (.builtin "isinstance") av isiF := fun ρ σ s vs xs r ha =>
 yy (t := fun xs => call (.builtin "isinstance") xs) ha fun v u x y hv hu => dA (t := fun x => call (.builtin "isinstance") [x, y]) hv fun a t => wH (t := fun y => call (.builtin "isinstance") [.str a t, y]) hu fun n => a8 fun h _ => by
  subst h; exact IsiPair.str_str (zu rfl (.refl r))
noncomputable def nr (vs : List V) (σ : St) : zV V := g1 vs fun v => gI v fun i => if i.natAbs.log2 < 1920 then .ok (.str (PySem.Str.ofString (toString i))) σ else .bad
theorem gf : cS prog w ac C (.type "str") av nr := fun ρ σ s vs xs r ha =>
 dw (t := fun xs => call (.type "str") xs) ha fun v x hv => fe (t := fun x => call (.type "str") [x]) hv fun i t => a8 fun h _ => P.str_of_int h (zu ⟨_, rfl⟩ (r.toks _))
noncomputable def wy (vs : List V) (σ : St) : zV V := g1 vs fun v => gl v σ.heap fun _ xs => if (xs.length : Int) < 2 ^ 63 then .ok (.bool (!xs.isEmpty)) σ else .bad
noncomputable def tz (vs : List V) (σ : St) : zV V := gc vs fun v as => cond as.isEmpty (g0 as (gl v σ.heap fun _ xs => gO (fM xs) fun is => gO is.head? fun n => .ok (.int (is.tail.foldl (fun a b => if b > a then b else a) n)) σ)) (g1 as fun u => gI v fun a => gI u fun b => .ok (.int (if b > a then b else a)) σ)
noncomputable def sumF (vs : List V) (σ : St) : zV V := g1 vs fun v => gl v σ.heap fun _ xs => gO (fM xs) fun ns => if ns.all (fun n => decide (0 ≤ n ∧ n < 2 ^ 40)) ∧ ns.length ≤ 1000 then .ok (.int ns.sum) σ else .bad
theorem jk {xs : List Value} {ns : List Int} (h : IntsAre xs ns) : ∃ ps : List (Int × Tok), xs.toArray = intItems ps.toArray ∧ ps.map (·.1) = ns := by
 induction h with
 | nil => exact ⟨[], by simp [intItems], rfl⟩
 | cons n t h ih =>
  obtain ⟨ps, e1, e2⟩ := ih
  refine ⟨(n, t) :: ps, ?_, congrArg (n :: ·) e2⟩
  unfold intItems at e1 ⊢
  simp at e1 ⊢
  exact e1
theorem ir {ps : List (Int × Tok)} {i : Nat} : numAt ps.toArray i = ((ps.map (·.1))[i]?).getD 0 := by
 unfold numAt; simp
theorem ik {f : Nat → Int} {ns : List Int} (h : ∀ i, i < ns.length → f i = (ns[i]?).getD 0) : ∀ k, k ≤ ns.length → preSum f k = (ns.take k).sum
 | 0, _ => by simp [preSum]
 | k + 1, hk => by
  rw [preSum, ik h k (by lia), List.take_add_one, List.sum_append, h k (by lia)]
  rw [List.getElem?_eq_getElem (by lia)]
  simp
theorem ke : ∀ (ns : List Int), (∀ n ∈ ns, 0 ≤ n ∧ n < 2 ^ 40) → 0 ≤ ns.sum ∧ ns.sum ≤ ns.length * 2 ^ 40
 | [], _ => by simp
 | n :: ns, h => by
  have h1 := h n List.mem_cons_self
  have h2 := ke ns fun m hm => h m (List.mem_cons_of_mem _ hm)
  rw [List.sum_cons, List.length_cons]
  push_cast
  lia
theorem xc {n S : Int} {k : Nat} (h : 0 ≤ n ∧ n < 2 ^ 40) (g : 0 ≤ S ∧ S ≤ k * 2 ^ 40) (hk : k ≤ 1000) : InLong n ∧ InLong S := by
 constructor <;> constructor <;> lia
theorem uW (hh : C.A.handled = none) : cS prog w ac C (.builtin "sum") av sumF := fun ρ σ s vs xs r ha =>
 dw (t := fun xs => call (.builtin "sum") xs) ha fun v x hv => fB (t := fun x => call (.builtin "sum") [x]) r.hp hv fun l a ys vs n _ _ h1 hv => bA fun ns hi => a8 fun h _ => by
  obtain ⟨ps, e1, rfl⟩ := jk (iA hv hi)
  have hall : ∀ n ∈ ps.map (·.1), 0 ≤ n ∧ n < 2 ^ 40 := fun n hn => of_decide_eq_true (List.all_eq_true.mp h.1 n hn)
  have hlen : ps.toArray.size = (ps.map (·.1)).length := by simp
  have hps : ∀ k, k ≤ (ps.map (·.1)).length → preSum (numAt ps.toArray) k = ((ps.map (·.1)).take k).sum := ik fun i _ => ir
  refine sum_intList (xs := ps.toArray) hh ⟨_, h1, rfl, n, by rw [← e1]⟩ (fun j hj => ?_) fun h' tk t' hk => zu ⟨t', ?_⟩ (r.keep hk ⟨rfl, rfl, rfl⟩)
  ·rw [hlen] at hj
   rw [ir, List.getElem?_eq_getElem hj, hps (j + 1) hj]
   exact xc (hall _ (List.getElem_mem hj)) (ke _ fun m hm => hall m (List.mem_of_mem_take hm)) (Nat.le_trans (by rw [List.length_take]; exact Nat.min_le_right ..) h.2)
  ·rw [hlen, hps _ (Nat.le_refl _), List.take_length]
theorem gG {f : Nat → Int} : ∀ (ns : List Int) (n : Int), (∀ i, i < (n :: ns).length → f i = ((n :: ns)[i]?).getD 0) → ∀ k, k ≤ ns.length →
  f (argBest (fun i j => decide (f i > f j)) k) = (ns.take k).foldl (fun a b => if b > a then b else a) n
 | ns, n, h, 0, _ => by rw [argBest]; simpa using h 0 (by simp)
 | ns, n, h, k + 1, hk => by
  have ih := gG ns n h k (by lia)
  have e : f (k + 1) = (ns[k]?).getD 0 := by simpa using h (k + 1) (by simp; lia)
  rw [argBest, List.take_add_one, List.foldl_append]
  rw [List.getElem?_eq_getElem (by lia)] at e ⊢
  simp only [Option.getD_some] at e
  simp only [Option.toList_some, List.foldl_cons, List.foldl_nil]
  rw [← ih]
  by_cases hc : f (k + 1) > f (argBest (fun i j => decide (f i > f j)) k)
  ·rw [if_pos (decide_eq_true hc), e, if_pos (by rw [← e]; exact hc)]
  ·rw [if_neg (by simpa using hc), if_neg (by rw [← e]; exact hc)]
theorem qc (hh : C.A.handled = none) : cS prog w ac C (.builtin "max") av tz := fun ρ σ s vs xs r ha =>
 rI (t := fun xs => call (.builtin "max") xs) ha fun v vs x xs hv ha => bw (jX (t := fun xs => call (.builtin "max") (x :: xs)) ha (fB (t := fun x => call (.builtin "max") [x]) r.hp hv fun l a ys vs n _ _ h1 hv => bA fun ns hi => bA fun m hm _ => by
   obtain ⟨ps, e1, rfl⟩ := jk (iA hv hi)
   cases ps with
   | nil => cases hm
   | cons p ps =>
    cases hm
    refine max_intList (xs := (p :: ps).toArray) hh ⟨_, h1, rfl, n, by rw [← e1]⟩ (Nat.succ_pos _) fun v h' tk hv' hk => zu ?_ (r.keep hk ⟨rfl, rfl, rfl⟩)
    obtain ⟨t, rfl⟩ := intItems_at hv'
    have := gG (f := numAt (p :: ps).toArray) (ps.map (·.1)) p.1 (fun i _ => ir) (ps.map (·.1)).length (Nat.le_refl _)
    rw [List.take_length, List.length_map] at this
    exact ⟨t, congrArg (Value.int · t) this⟩))
  (dw (t := fun xs => call (.builtin "max") (x :: xs)) ha fun u y hu => fe (t := fun x => call (.builtin "max") [x, y]) hv fun a t => fe (t := fun y => call (.builtin "max") [.int a t, y]) hu fun b t' _ => by
   refine max_two_ints hh fun h' tk hk => zu ?_ (r.keep hk ⟨rfl, rfl, rfl⟩)
   by_cases hc : b > a
   ·rw [if_pos hc, if_pos hc]; exact ⟨t', rfl⟩
   ·rw [if_neg hc, if_neg hc]; exact ⟨t, rfl⟩)
end
section
variable {prog : Program} {w : World} {ac : Heap} {C : Cx} {mg mb : Str → Option Value} {ρ : List Addr} {σ : St} {s : Shared}
theorem ig {H : List O} {v : V} {v' : Value} (r : eh prog w ac ρ H s) (hv : VR ρ v v') (hc : aO v H = true) : s.TypeIs v' "list" ∧ ∀ a, v' = .ref a → ∃ ob, s.heap.get? a = some ob ∧ ob.dict = none := by
 obtain ⟨l, o, e, q, i, ho⟩ := ra zK hc; clear hc
 subst e
 cases bS jr ho
 obtain ⟨a, ha, rfl⟩ := hv
 obtain ⟨ob, h1, vs, n, rfl, _⟩ := r.obj _ _ _ q ha
 exact ⟨⟨_, h1, rfl⟩, fun b e => by cases e; exact ⟨_, h1, rfl⟩⟩
theorem kM {H : List O} {v : V} {v' : Value} (r : eh prog w ac ρ H s) (hv : VR ρ v v') (hc : bQ v H = true) : s.TypeIs v' "dict" ∧ ∀ a, v' = .ref a → ∃ ob, s.heap.get? a = some ob ∧ ob.dict = none := by
 obtain ⟨l, o, e, q, i, ho⟩ := ra zN hc; clear hc
 subst e
 cases bS rJ ho
 obtain ⟨a, ha, rfl⟩ := hv
 obtain ⟨ob, h1, kvs, ⟨es', ep', i1, i2, i3⟩, hp, _⟩ := r.obj _ _ _ q ha
 exact ⟨⟨_, h1, i1.1⟩, fun b e => by cases e; exact ⟨_, h1, i1.2.1⟩⟩
theorem sy {H : List O} {v : V} {v' : Value} (r : eh prog w ac ρ H s) (hv : VR ρ v v') (hc : eu v H = true) : s.TypeIs v' "set" ∧ ∀ a, v' = .ref a → ∃ ob, s.heap.get? a = some ob ∧ ob.dict = none := by
 obtain ⟨l, o, e, q, i, ho⟩ := ra zM hc; clear hc
 subst e
 cases bS uL ho
 obtain ⟨a, ha, rfl⟩ := hv
 obtain ⟨ob, h1, es, ep, t, i1, _⟩ := r.obj _ _ _ q ha
 exact ⟨⟨_, h1, i1.1⟩, fun b e => by cases e; exact ⟨_, h1, i1.2.1⟩⟩
theorem fK {H : List O} {v : V} {v' : Value} (hv : VR ρ v v') (hc : bH v H = true) : s.TypeIs v' "str" ∧ ∀ a, v' = .ref a → ∃ ob, s.heap.get? a = some ob ∧ ob.dict = none := by
 obtain ⟨x, hx⟩ := Option.isSome_iff_exists.mp hc
 cases bS lG hx
 obtain ⟨t, rfl⟩ := hv
 exact ⟨typeIs_str s _ t, fun b e => by cases e⟩
noncomputable def bk (v : V) (vs : List V) (σ : St) : zV V := gO (zJ v) fun l => g1 vs fun y => (c9 l y σ).bind fun _ σ' => .ok .none σ'
theorem bb : ex prog w ac C "list" "append" "list.append" aO bk where
 pa := F.plainAttrs_list
 slot := F.slot_list_append
 ty := F.type_list_append
 self := fun ρ H s v v' r hv hc => ig r hv hc
 call := fun ρ σ s v v' vs xs r hv ha => bA fun l h => dw (t := fun xs => call (.builtin "list.append") (v' :: xs)) ha fun y x hx hn => by
  cases bS iL h
  obtain ⟨a, hl, rfl⟩ := hv
  refine lF r hl hx (fun q => hn (by rw [q]; rfl)) fun σ' s' e st => ?_
  rw [e]
  exact zu rfl st
noncomputable def oS (v : V) (vs : List V) (σ : St) : zV V := g0 vs (gl v σ.heap fun l xs => gO xs.getLast? fun y => if xs.length ≤ sizeLine then .ok y { σ with heap := σ.heap.set l (.list xs.dropLast) } else .bad)
theorem bL.dropLast : ∀ {vs : List V} {xs : List Value}, bL ρ vs xs → bL ρ vs.dropLast xs.dropLast
 | vs, xs, h => by
  rw [List.dropLast_eq_take, List.dropLast_eq_take, h.length]; exact h.take _
theorem nN : ex prog w ac C "list" "pop" "list.pop" aO oS where
 pa := F.plainAttrs_list
 slot := F.slot_list_pop
 ty := F.type_list_pop
 self := fun ρ H s v v' r hv hc => ig r hv hc
 call := fun ρ σ s v v' vs xs r hv ha => jX (t := fun xs => call (.builtin "list.pop") (v' :: xs)) ha (fB (t := fun x => call (.builtin "list.pop") [x]) r.hp hv fun l a ys vs n hl q h1 hv => bA fun y hy => a8 fun hsz _ => by
  rw [List.getLast?_eq_getElem?, ← hv.length] at hy
  obtain ⟨y', hy', vy⟩ := hv.get hy
  exact call_meets F.slot_list_pop ⟨_, h1, rfl⟩ F.entry_list_pop (F.args_list_pop_1 _) (PySem.MeetsSeq.list_pop_last a vs.toArray n y' ((List.getElem?_toArray ..).trans hy') (show vs.length ≤ sizeLine from hv.length ▸ hsz)) ⟨h1,
   zu vy (r.upd (t := s.toks) hl (Heap.SameBut.update ..) (Heap.get?_update_self _ h1 rfl) ⟨vs.dropLast, _, by simp [Obj.mapSeq]; rfl, hv.dropLast⟩)⟩)
noncomputable def n7 (v : V) (vs : List V) (σ : St) : zV V := g0 vs (gl v σ.heap fun l xs => if xs.length ≤ sizeLine then .ok .none { σ with heap := σ.heap.set l (.list []) } else .bad)
theorem o6 : ex prog w ac C "list" "clear" "list.clear" aO n7 where
 pa := F.plainAttrs_list
 slot := F.slot_list_clear
 ty := F.type_list_clear
 self := fun ρ H s v v' r hv hc => ig r hv hc
 call := fun ρ σ s v v' vs xs r hv ha => jX (t := fun xs => call (.builtin "list.clear") (v' :: xs)) ha (fB (t := fun x => call (.builtin "list.clear") [x]) r.hp hv fun l a ys vs n hl q h1 hv => a8 fun hsz _ =>
  call_meets F.slot_list_clear ⟨_, h1, rfl⟩ F.entry_list_clear (F.args_list_clear_1 _) (AutoSeq1.list_clear_list_0 a vs.toArray n (show vs.length ≤ sizeLine from hv.length ▸ hsz)) ⟨h1,
   zu rfl (r.upd (t := s.toks) hl (Heap.SameBut.update ..) (Heap.get?_update_self _ h1 rfl) ⟨[], _, rfl, .nil⟩)⟩)
noncomputable def lu (v : V) (vs : List V) (σ : St) : zV V := gS v fun x => gc vs fun a as => gS a fun y => cond as.isEmpty (g0 as (.ok (.int (Txt.find x y)) σ)) (g1 as fun b => gI b fun i => .ok (.int (Txt.find3 x y i)) σ)
theorem kZ : ex prog w ac C "str" "find" "str.find" bH lu where
 pa := F.plainAttrs_str
 slot := F.slot_str_find
 ty := F.type_str_find
 self := fun ρ H s v v' r hv hc => fK hv hc
 call := fun ρ σ s v v' vs xs r hv ha => dA (t := fun x => call (.builtin "str.find") (x :: xs)) hv fun x t => rI (t := fun xs => call (.builtin "str.find") (.str x t :: xs)) ha fun v vs u us hv ha => dA (t := fun u => call (.builtin "str.find") (.str x t :: u :: us)) hv fun y t' =>
  bw (jX (t := fun us => call (.builtin "str.find") (.str x t :: .str y t' :: us)) ha fun _ => SC.find (zu ⟨_, rfl⟩ (r.toks _)))
   (dw (t := fun us => call (.builtin "str.find") (.str x t :: .str y t' :: us)) ha fun v u hv => fe (t := fun u => call (.builtin "str.find") [.str x t, .str y t', u]) hv fun i k _ => SC.find3 (zu ⟨_, rfl⟩ (r.toks _)))
noncomputable def nU (v : V) (vs : List V) (σ : St) : zV V := g0 vs (gS v fun x => .ok (.bool (Txt.isascii x)) σ)
theorem kY : ex prog w ac C "str" "isascii" "str.isascii" bH nU where
 pa := F.plainAttrs_str
 slot := F.slot_str_isascii
 ty := F.type_str_isascii
 self := fun ρ H s v v' r hv hc => fK hv hc
 call := fun ρ σ s v v' vs xs r hv ha => jX (t := fun xs => call (.builtin "str.isascii") (v' :: xs)) ha (dA (t := fun x => call (.builtin "str.isascii") [x]) hv fun x t _ => SC.isascii (zu rfl (.refl r)))
noncomputable def hU (v : V) (vs : List V) (σ : St) : zV V := g0 vs (gd v σ.heap fun l _ _ => .ok (.ref σ.heap.length) { σ with heap := σ.heap ++ [.dvals l] })
theorem mj : ex prog w ac C "dict" "values" "dict.values" bQ hU where
 pa := F.plainAttrs_dict
 slot := F.slot_dict_values
 ty := F.type_dict_values
 self := fun ρ H s v v' r hv hc => kM r hv hc
 call := fun ρ σ s v v' vs xs r hv ha => jX (t := fun xs => call (.builtin "dict.values") (v' :: xs)) ha (rH (t := fun x => call (.builtin "dict.values") [x]) hv fun l a es ep hl q _ => by
  obtain ⟨kvs, hd, hp⟩ := dI r.hp q hl
  exact call_meetsIn F.slot_dict_values hd.dictOf.typeIs F.entry_dict_values (F.args_dict_values_1 _) (meets_dict_values (intKind prog w) a (beq_eq_false_iff_ne.mpr (r.hp.sys _ _ _ _ q hl))) ⟨⟨kvs, hd.dictOf⟩,
   zu (ρ' := ρ ++ [s.heap.objs.size]) ⟨_, bv r.hp _, rfl⟩ (r.alloc (t := s.toks) rfl ⟨a, cr hl, rfl⟩)⟩)
noncomputable def gx (v : V) (vs : List V) (σ : St) : zV V := g1 vs fun k => gI k fun k => gd v σ.heap fun _ es _ => .ok ((es.lookup k).getD .none) σ
theorem nO : ex prog w ac C "dict" "get" "dict.get" bQ gx where
 pa := F.plainAttrs_dict
 slot := F.slot_dict_get
 ty := F.type_dict_get
 self := fun ρ H s v v' r hv hc => kM r hv hc
 call := fun ρ σ s v v' vs xs r hv ha => dw (t := fun xs => call (.builtin "dict.get") (v' :: xs)) ha fun k x hk => fe (t := fun x => call (.builtin "dict.get") [v', x]) hk fun k u => rH (t := fun x => call (.builtin "dict.get") [x, .int k u]) hv fun l a es ep hl q _ => by
  obtain ⟨kvs, hd, hp⟩ := dI r.hp q hl
  refine call_meetsIn F.slot_dict_get hd.dictOf.typeIs F.entry_dict_get (F.args_dict_get_2 _ _) (meets_dict_get (intKind prog w) a (intKind_is _ _ k u) (beq_eq_false_iff_ne.mpr (r.hp.sys _ _ _ _ q hl))) ⟨_, hd.dictOf.mapOf, ?_⟩
  have hvk := pairs_at hp k
  revert hvk
  cases es.lookup k with
  | none => intro hvk; rw [hvk]; exact zu rfl (r.toks _)
  | some v => intro ⟨y, hy, hvy⟩; rw [hy]; exact zu hvy (r.toks _)
end
noncomputable def ph (kvs : List (Int × Value)) (k : Int) (ep : Nat) : Nat := if kvs.any (fun kv => kv.1 = k) then ep else ep + 1
section
variable {prog : Program} {w : World} {A : Around} {E : Value → Shared → Prop} {s : Shared}
theorem pj {d : Addr} {kvs : List (Int × Value)} {ep : Nat} {k : Int} {t : Tok} {v : Value} {Q : Unit → Shared → Prop} (hm : s.heap.DictAt (intKind prog w) d kvs ep)
  (hQ : ∀ h', h'.DictAt (intKind prog w) d (stored kvs k v) (ph kvs k ep) → Heap.SameBut d s.heap h' → Q () { s with heap := h', toks := s.toks + 1 }) (hsz : kvs.length ≤ sizeLine) :
  wpAny (model prog w) A (dictSet d (.int k t) v) Q E s := by
 have hkey := intKind_is prog w k t
 obtain ⟨o, es, ho, hc, hd, hk, hp, hn⟩ := hm
 have hes : es.size ≤ sizeLine := by
  have e1 := hp.length
  have e2 : es.toList.length = es.size := by simp
  lia
 unfold dictSet
 refine wpAny_holding ?_
 refine wpAny_bind ((intKind prog w).pyHash hkey ?_)
 unfold dictSetHashed
 refine wpAny_holding ?_
 refine wpAny_bind (wpAny_dictFind_of (s := { s with toks := s.toks + 1 }) hkey ho hd hk ?_)
 have hidx : (es.findIdx? fun e => (intKind prog w).is k e.key) = kvs.findIdx? fun kv => decide (kv.1 = k) := by
  rw [← hp.findIdx k]; obtain ⟨l⟩ := es; simp
 cases hi : es.findIdx? fun e => (intKind prog w).is k e.key with
 | some i =>
  have hany := any_of_findIdx_some (hidx ▸ hi)
  rw [ph, if_pos hany] at hQ
  refine wpAny_bind (wpAny_rule (wpAny_bind (wpAny_updateDict (s := { s with toks := s.toks + 1 }) ho hd (wpAny_point (hQ _ ⟨_, _, Heap.get?_update_self _ ho (Obj.isFreed_of_dict (Obj.data_mapDict hd _)),
   hc.mapDict _, Obj.data_mapDict hd _, hk.modify _ _, ?_, ?_⟩ (Heap.SameBut.update ..))))))
  ·rw [stored, if_pos hany]
   have hl : (es.toList.findIdx? fun e => (intKind prog w).is k e.key) = some i := by rw [← hi]; obtain ⟨l⟩ := es; simp
   have := hp.modify hn hl v
   obtain ⟨l⟩ := es
   simpa using this
  ·rw [stored, if_pos hany, keys_map_store]; exact hn
 | none =>
  have hnot : k ∉ kvs.map (·.1) := not_mem_of_findIdx_none (hidx ▸ hi)
  have hany : ¬ (kvs.any fun kv => decide (kv.1 = k)) = true := by
   rw [List.any_eq_true]; rintro ⟨kv, hkv, he⟩
   exact hnot (List.mem_map.mpr ⟨kv, hkv, of_decide_eq_true he⟩)
  rw [ph, if_neg hany] at hQ
  refine wpAny_bind (wpAny_rule (wpAny_updateDictKeys (hz := hes) (s := { s with toks := s.toks + 1 }) ho hd (hQ _ ⟨_, _, Heap.get?_update_self _ ho (Obj.isFreed_of_dict (Obj.data_mapDictKeys hd _)),
   hc.mapDictKeys _, Obj.data_mapDictKeys hd _, hk.push hkey _, ?_, ?_⟩ (Heap.SameBut.update ..))))
  ·rw [stored, if_neg hany]
   have := hp.append hkey ((intKind prog w).hash k) v
   obtain ⟨l⟩ := es
   simpa using this
  ·rw [stored, if_neg hany, List.map_append, List.nodup_append]
   refine ⟨hn, by simp, ?_⟩
   intro a ha b hb
   simp only [List.map_cons, List.map_nil, List.mem_singleton] at hb
   subst hb
   exact fun e => hnot (e ▸ ha)
theorem oK {d : Addr} {kvs : List (Int × Value)} {ep : Nat} {k : Int} {t : Tok} {v : Value} {Q : Unit → Shared → Prop} (hm : s.heap.DictAt (intKind prog w) d kvs ep)
  (hQ : ∀ h', h'.DictAt (intKind prog w) d (stored kvs k v) (ph kvs k ep) → Heap.SameBut d s.heap h' → Q () { s with heap := h', toks := s.toks + 1 }) (hsz : kvs.length ≤ sizeLine) :
  wpAny (model prog w) A (setItem (.ref d) (.int k t) v) Q E s := by
 unfold setItem
 refine wpAny_holding ?_
 refine wpAny_bind (wpAny_sequenceKey hm.dictOf.typeIs (by decide) ?_)
 refine wpAny_bind (wpAny_callSpecial?_slot (name := PySem.Str.ofString "__setitem__") hm.dictOf.typeIs slot_dict_setitem
  (wpAny_call_entry slot_dict_setitem hm.dictOf.typeIs entry_dict_setitem ?_ (args_dict_setitem _ _ _)))
 show wpAny _ _ (Builtin.Dict.notOrdered "__setitem__" ⟨[.ref d, .int k t, v], []⟩ >>= _) _ _ s
 refine wpAny_bind (wpAny_notOrdered_dict hm.dictOf.typeIs ?_)
 show wpAny _ _ (dictSet d (.int k t) v >>= _) _ _ s
 exact wpAny_bind (pj hm (fun h' hm' hs' => wpAny_pure ⟨.none, rfl, wpAny_pure (hQ h' hm' hs')⟩) hsz)
end
section
variable {prog : Program} {w : World} {A : Around} {E : Value → Shared → Prop} {s : Shared}
theorem oD {d : Addr} {kvs : List (Int × Value)} {ep : Nat} {k : Int} {t : Tok} {Q : Option DictEntry → Shared → Prop} (hm : s.heap.DictAt (intKind prog w) d kvs ep) (hthere : (valueAt kvs k).isSome = true)
  (hsome : ∀ e h', h'.DictAt (intKind prog w) d (without kvs k) (ep + 1) → Heap.SameBut d s.heap h' → Q (some e) { s with heap := h', toks := s.toks + 1 }) (hsz : kvs.length ≤ sizeLine) :
  wpAny (model prog w) A (Builtin.Dict.takeOut d (.int k t)) Q E s := by
 have hkey := intKind_is prog w k t
 obtain ⟨o, es, ho, hc, hd, hk, hp, hn⟩ := hm
 have hes : es.size ≤ sizeLine := by
  have e1 := hp.length
  have e2 : es.toList.length = es.size := by simp
  lia
 unfold Builtin.Dict.takeOut
 refine wpAny_holding ?_
 refine wpAny_bind ((intKind prog w).pyHash hkey ?_)
 refine wpAny_bind (wpAny_dictFind_of (s := { s with toks := s.toks + 1 }) hkey ho hd hk ?_)
 cases hi : es.findIdx? fun e => (intKind prog w).is k e.key with
 | none =>
  exfalso
  rw [← hp.find k] at hthere
  have : (es.toList.find? fun e => (intKind prog w).is k e.key) = none := by
   rw [List.find?_eq_none]
   intro e he
   have := Array.findIdx?_eq_none_iff.mp hi e (Array.mem_toList_iff.mp he)
   simpa using this
  rw [this] at hthere; cases hthere
 | some i =>
  have hl : (es.toList.findIdx? fun e => (intKind prog w).is k e.key) = some i := by rw [← hi]; obtain ⟨l⟩ := es; simp
  obtain ⟨e, he, hek, hev⟩ := hp.at hl
  refine wpAny_bind (wpAny_dictEntries (s := { s with toks := s.toks + 1 }) ho hd ?_)
  have he' : es[i]? = some e := by rw [← he]; obtain ⟨l⟩ := es; simp
  rw [he']
  refine wpAny_bind (wpAny_updateDictKeys (hz := hes) (s := { s with toks := s.toks + 1 }) ho hd (wpAny_pure (hsome e _ ⟨_, _, Heap.get?_update_self _ ho (Obj.isFreed_of_dict (Obj.data_mapDictKeys hd _)),
   hc.mapDictKeys _, Obj.data_mapDictKeys hd _, hk.erase _, ?_, nodup_without hn k⟩ (Heap.SameBut.update ..))))
  have := hp.erase hn hl
  obtain ⟨l⟩ := es
  simpa using this
theorem delItem_at {d : Addr} {kvs : List (Int × Value)} {ep : Nat} {k : Int} {t : Tok} {Q : Unit → Shared → Prop} (hm : s.heap.DictAt (intKind prog w) d kvs ep) (hthere : (valueAt kvs k).isSome = true)
  (hQ : ∀ h', h'.DictAt (intKind prog w) d (without kvs k) (ep + 1) → Heap.SameBut d s.heap h' → Q () { s with heap := h', toks := s.toks + 1 }) (hsz : kvs.length ≤ sizeLine) :
  wpAny (model prog w) A (delItem (.ref d) (.int k t)) Q E s := by
 have hT := hm.dictOf.typeIs
 unfold delItem
 refine wpAny_holding ?_
 refine wpAny_bind (wpAny_sequenceKey hT (by decide) ?_)
 refine wpAny_bind (wpAny_callSpecial?_slot (name := PySem.Str.ofString "__delitem__") hT F.slot_dict_delitem
  (wpAny_call_entry F.slot_dict_delitem hT F.entry_dict_delitem ?_ (F.args_dict_delitem_2 _ _)))
 unfold Builtin.«dict.__delitem__»
 refine wpAny_bind ?_
 unfold Builtin.Dict.dictSlotArgs
 refine wpAny_bind (wpAny_notOrdered_dict hT ?_)
 show wpAny _ _ (pure (Value.ref d, Value.int k t)) _ _ s
 refine wpAny_pure ?_
 show wpAny _ _ (Builtin.Dict.takeOut d (.int k t) >>= _) _ _ s
 refine wpAny_bind (oD hm hthere (fun e h' hm' hs' => ?_) hsz)
 exact wpAny_bind (wpAny_letGo (wpAny_pure ⟨.none, rfl, wpAny_pure (hQ h' hm' hs')⟩))
end
theorem jE {prog : Program} {w : World} {A : Around} {E : Value → Shared → Prop} {s : Shared} {l : Addr} {items : Array Value} {n : Nat} {k : Int} {t : Tok} {v : Value} {Q : Unit → Shared → Prop} (ho : s.heap.get? l = some { cls := .type "list", data := .seq items n })
  (h0 : 0 ≤ k) (hfit : k < 2 ^ 63) (hj : k < items.size) (hQ : Q () { s with heap := s.heap.update l (Obj.mapSeq (·.setIfInBounds k.toNat v)) }) : wpAny (model prog w) A (setItem (.ref l) (.int k t) v) Q E s := by
 have hl : s.heap.IsList l items := ⟨_, ho, rfl, n, rfl⟩
 have hf : Builtin.List.listFitsIndex k = true := fitsIndex_of h0 hfit
 clear hfit
 unfold setItem
 refine wpAny_holding ?_
 refine wpAny_bind (wpAny_sequenceKey hl.typeIs (by decide) ?_)
 refine wpAny_bind (wpAny_callSpecial?_slot (name := PySem.Str.ofString "__setitem__") hl.typeIs slot_list_setitem
  (wpAny_call_entry slot_list_setitem hl.typeIs entry_list_setitem ?_ (args_list_setitem _ _ _)))
 show wpAny _ _ (Builtin.List.listSubscript? (.int k t) >>= _) _ _ s
 refine wpAny_bind (wpAny_listSubscript_int hf ?_)
 clear hf
 obtain ⟨j, rfl⟩ := Int.eq_ofNat_of_zero_le h0
 have hj : j < items.size := by lia
 have hx' : items[j]? = some items[j] := Array.getElem?_eq_getElem hj
 show wpAny _ _ ((seqItemAt l j >>= fun r => pure (r.map (j, ·))) >>= _) _ _ s
 refine wpAny_bind (wpAny_bind (wpAny_seqItemAt ho rfl (wpAny_pure ?_)))
 rw [hx']
 show wpAny _ _ (setSeqItemAt l j v >>= _) _ _ s
 refine wpAny_bind (wpAny_setSeqItemAt ho rfl ?_)
 first
  | exact wpAny_bind (wpAny_pure (wpAny_pure ⟨.none, rfl, wpAny_pure hQ⟩))
  | exact wpAny_pure ⟨.none, rfl, wpAny_pure hQ⟩
noncomputable def lx (es : List (Int × V)) (k : Int) (v : V) : List (Int × V) := if es.any (fun p => p.1 = k) then es.map (fun p => if p.1 = k then (p.1, v) else p) else es ++ [(k, v)]
noncomputable def rt (es : List (Int × V)) (k : Int) : List (Int × V) := es.filter fun p => decide (p.1 ≠ k)
section
variable {prog : Program} {w : World} {ac : Heap} {C : Cx} {mg mb : Str → Option Value} {ρ : List Addr} {σ : St} {s : Shared}
theorem iq (f : Int → Bool) : ∀ {es : List (Int × V)} {kvs : List (Int × Value)}, cG ρ es kvs → kvs.any (fun p => f p.1) = es.any fun p => f p.1
 | [], _, h => by cases h; rfl
 | (k, v) :: es, _, ⟨x, r, e, h, q⟩ => by subst e; simp [iq f q]
theorem im {k : Int} {v : V} {v' : Value} (hv : VR ρ v v') : ∀ {es : List (Int × V)} {kvs : List (Int × Value)}, cG ρ es kvs → cG ρ (es.map fun p => if p.1 = k then (p.1, v) else p) (kvs.map fun p => if p.1 = k then (p.1, v') else p)
 | [], _, h => by cases h; exact rfl
 | (k0, v0) :: es, _, ⟨x, r, e, h, q⟩ => by
  subst e
  by_cases hk : k0 = k
  ·simp only [List.map_cons, hk, if_true]; exact ⟨_, _, rfl, hv, im hv q⟩
  ·simp only [List.map_cons, hk, if_false]; exact ⟨_, _, rfl, h, im hv q⟩
theorem jb {k : Int} {v : V} {v' : Value} (hv : VR ρ v v') : ∀ {es : List (Int × V)} {kvs : List (Int × Value)}, cG ρ es kvs → cG ρ (es ++ [(k, v)]) (kvs ++ [(k, v')])
 | [], _, h => by cases h; exact ⟨_, _, rfl, hv, rfl⟩
 | (k0, v0) :: es, _, ⟨x, r, e, h, q⟩ => by subst e; exact ⟨_, _, rfl, h, jb hv q⟩
theorem qJ {k : Int} {v : V} {v' : Value} (hv : VR ρ v v') {es : List (Int × V)} {kvs : List (Int × Value)} (h : cG ρ es kvs) : cG ρ (lx es k v) (stored kvs k v') := by
 unfold lx stored
 rw [iq (fun i => decide (i = k)) h]
 split
 ·exact im hv h
 ·exact jb hv h
theorem ip {k : Int} : ∀ {es : List (Int × V)} {kvs : List (Int × Value)}, cG ρ es kvs → cG ρ (rt es k) (without kvs k)
 | [], _, h => by cases h; exact rfl
 | (k0, v0) :: es, _, ⟨x, r, e, h, q⟩ => by
  subst e
  unfold rt without
  rw [List.filter_cons, List.filter_cons]
  by_cases hk : decide (k0 ≠ k) = true
  ·rw [if_pos hk, if_pos hk]; exact ⟨_, _, rfl, h, ip q⟩
  ·rw [if_neg hk, if_neg hk]; exact ip q
theorem nK {h : Heap} {d : Addr} {kvs : List (Int × Value)} {ep : Nat} {es : List (Int × V)} (hm : h.DictAt (intKind prog w) d kvs ep) (hp : cG ρ es kvs) : ∃ ob, h.get? d = some ob ∧ zX prog w ρ (.dict es ep) ob := by
 obtain ⟨o, es', ho, hc, hd, r⟩ := hm
 exact ⟨o, ho, kvs, ⟨es', ep, hc, hd, r⟩, hp, es', hd⟩
noncomputable def wW (o i v : V) (σ : St) : zV Unit := gI i fun k => cond (aO o σ.heap) (gl o σ.heap fun l xs => if 0 ≤ k ∧ k < xs.length ∧ k < 2 ^ 63 then .ok () { σ with heap := σ.heap.set l (.list (xs.set k.toNat v)) } else .bad) (gd o σ.heap fun l es ep => if es.length ≤ sizeLine then .ok () { σ with heap := σ.heap.set l (.dict (lx es k v) (if es.any (fun p => p.1 = k) then ep else ep + 1)) } else .bad)
theorem qw {l : Nat} {xs : List V} {k : Int} {v : V} {σ : St} (h : σ.heap[l]? = some (.list xs)) : wW (.ref l) (.int k) v σ = if 0 ≤ k ∧ k < xs.length ∧ k < 2 ^ 63 then .ok () { σ with heap := σ.heap.set l (.list (xs.set k.toNat v)) } else .bad := by
 show cond (zz zK _ _) _ _ = _
 rw [dP h]; exact iD (k := fun l o => gO (zK o) fun xs => if 0 ≤ k ∧ k < xs.length ∧ k < 2 ^ 63 then .ok () { σ with heap := σ.heap.set l (.list (xs.set k.toNat v)) } else .bad) h
theorem kK {l : Nat} {es : List (Int × V)} {ep : Nat} {k : Int} {v : V} {σ : St} (h : σ.heap[l]? = some (.dict es ep)) : wW (.ref l) (.int k) v σ = if es.length ≤ sizeLine then .ok () { σ with heap := σ.heap.set l (.dict (lx es k v) (if es.any (fun p => p.1 = k) then ep else ep + 1)) } else .bad := by
 show cond (zz zK _ _) _ _ = _
 rw [dP h]; exact iD (k := fun l o => gO (zN o) fun p => if p.1.length ≤ sizeLine then .ok () { σ with heap := σ.heap.set l (.dict (lx p.1 k v) (if p.1.any (fun p => p.1 = k) then p.2 else p.2 + 1)) } else .bad) h
theorem wC {o i v : V} {o' i' v' : Value} (r : zT prog w ac C ρ σ s) (ho : VR ρ o o') (hi : VR ρ i i') (hv : VR ρ v v') : At prog w ac C fX ρ σ s (wW o i v σ) (setItem o' i' v') :=
 fe (t := fun i' => setItem o' i' v') hi fun k t => bw
  (fB (t := fun o' => setItem o' (.int k t) v') r.hp ho fun l a xs vs n hl q h1 hvs => a8 fun h _ => by
   refine jE h1 h.1 h.2.2 (show k < (vs.length : Int) from hvs.length ▸ h.2.1) ?_
   exact zu trivial (r.upd (t := s.toks) hl (Heap.SameBut.update ..) (Heap.get?_update_self _ h1 rfl) ⟨vs.set k.toNat v', _, by simp [Obj.mapSeq]; rfl, hvs.set hv⟩))
  (rH (t := fun o' => setItem o' (.int k t) v') ho fun l a es ep hl q => a8 fun hsz _ => by
   obtain ⟨kvs, hd, hp⟩ := dI r.hp q hl
   refine oK hd (fun h' hm hs => ?_) (by rw [pairs_len hp]; exact hsz)
   have e : ph kvs k ep = (if es.any (fun p => p.1 = k) then ep else ep + 1) := by
    unfold ph; rw [iq (fun i => decide (i = k)) hp]
   rw [e] at hm
   obtain ⟨ob, h1, h2⟩ := nK hm (qJ (k := k) hv hp)
   exact zu trivial (r.upd hl hs h1 h2 fun _ _ _ => r.hp.sys _ _ _ _ q hl))
end
section
variable {prog : Program} {w : World} {ac : Heap} {C : Cx} {mg mb : Str → Option Value} {ρ : List Addr} {σ : St} {s : Shared}
noncomputable def pS (mo mi : St → zV V) (v : V) (σ : St) : zV Unit := (mo σ).bind fun o ae => (mi ae).bind fun i aq => wW o i v aq
theorem jz {mo mi : St → zV V} {o i : Expr} {pos : Pos} (ho : bi prog w ac C mo (eval o C.env)) (hi : bi prog w ac C mi (eval i C.env)) : j4 prog w ac C (pS mo mi) (.Subscript o i pos) := by
 intro ρ σ s a a' r ha hn
 rw [assign_Subscript]
 refine wpAny_bind (wpAny_holding ((ho.at r).next rfl hn fun b ae aw az b' _ vb au e => ?_))
 rw [e] at hn ⊢
 refine wpAny_bind (wpAny_holding ((hi.at au.rel).then au rfl hn fun c aq aK aT c' _ vc aJ st e => ?_))
 rw [e] at hn ⊢
 refine wpAny_bind (wpAny_standAt (wpAny_bind (wpAny_holding (wpAny_mono ((wC st.rel (aJ.vr vb) vc (aJ.vr (au.vr ha))).trans st hn) (fun _ s' h => wpAny_release h) fun _ _ h => h))))
noncomputable def yW (o i : V) (σ : St) : zV Unit := match o, i with
 | .ref l, .int k => match σ.heap[l]? with
  | some (.dict es ep) => if es.length ≤ sizeLine ∧ (es.lookup k).isSome then .ok () { σ with heap := σ.heap.set l (.dict (rt es k) (ep + 1)) } else .bad
  | _ => .bad
 | _, _ => .bad
theorem wI {o i : V} {o' i' : Value} (r : zT prog w ac C ρ σ s) (ho : VR ρ o o') (hi : VR ρ i i') : At prog w ac C fX ρ σ s (yW o i σ) (delItem o' i') := by
 intro hn
 unfold yW at hn ⊢
 split at hn
 ·rename_i l k
  obtain ⟨a, hl, rfl⟩ := ho
  obtain ⟨t, rfl⟩ := hi
  split at hn
  ·rename_i es ep q
   obtain ⟨kvs, hd, hp⟩ := dI r.hp q hl
   split at hn
   ·rename_i h; rw [if_pos h]
    have hvk := pairs_at hp k
    have hth : (valueAt kvs k).isSome = true := by
     cases hg : es.lookup k with
     | none => rw [hg] at h; exact absurd h.2 (by simp)
     | some v => rw [hg] at hvk; obtain ⟨y, hy, _⟩ := hvk; rw [hy]; rfl
    refine delItem_at hd hth (fun h' hm hs => ?_) (by rw [pairs_len hp]; exact h.1)
    obtain ⟨ob, h1, h2⟩ := nK hm (ip (k := k) hp)
    exact zu trivial (r.upd hl hs h1 h2 fun _ _ _ => r.hp.sys _ _ _ _ q hl)
   ·exact absurd rfl hn
  ·exact absurd rfl hn
 ·exact absurd rfl hn
noncomputable def wv (mo mi : St → zV V) : St → zV F := fun σ => (mo σ).bind fun o ae => (mi ae).bind fun i aq => (yW o i aq).bind fun _ aS => .ok .next aS
theorem u3 {mo mi : St → zV V} {o i : Expr} {p pos : Pos} (ho : bi prog w ac C mo (eval o C.env)) (hi : bi prog w ac C mi (eval i C.env)) : gL prog w ac C (wv mo mi) (.Delete [.Subscript o i p] pos) := by
 intro ρ σ s r hn
 refine wpAny_Delete (wpAny_deleteEach_cons (wpAny_delete_Subscript ((ho.at r).next rfl hn fun b ae aw az b' _ vb au e => ?_)))
 rw [e] at hn ⊢
 refine (hi.at au.rel).then au rfl hn fun c aq aK aT c' _ vc aJ st e => ?_
 rw [e] at hn ⊢
 refine At.then st (wI st.rel (aJ.vr vb) vc) rfl hn fun _ aS b0 bF _ _ _ b9 st' e => ?_
 rw [e] at hn ⊢
 exact wpAny_deleteEach_nil (zu rfl st')
end
section
variable {prog : Program} {w : World} {ac : Heap} {C : Cx} {mg mb : Str → Option Value} {ρ : List Addr} {σ : St} {s : Shared}
theorem qK {h : Heap} {a : Addr} {xs : List Int} : ObR prog w ρ (.set xs) h a ↔ h.SetOf (intKind prog w) a (fun k => xs.contains k) xs.length := by
 constructor
 ·rintro ⟨ob, h1, es, ep, t, r⟩
  exact ⟨ob, es, ep, t, h1, r⟩
 ·rintro ⟨ob, es, ep, t, h1, r⟩
  exact ⟨ob, h1, es, ep, t, r⟩
noncomputable def yQ (vs : List V) (σ : St) : zV V := g0 vs (.ok (.ref σ.heap.length) { σ with heap := σ.heap ++ [.set []] })
theorem uX : cS prog w ac C (.type "set") av yQ := fun ρ σ s vs xs r ha => jX (t := fun xs => call (.type "set") xs) ha fun _ =>
 call_set_0 fun led => zu (ρ' := ρ ++ [s.heap.objs.size]) ⟨_, bv r.hp _, rfl⟩ (r.alloc (t := s.toks) rfl
  ⟨#[], 0, .fresh 0 0 led, ⟨rfl, rfl, rfl⟩, rfl, fun e he => (nomatch he), fun k => by simp, by decide, by rfl, rfl⟩)
noncomputable def yH (v : V) (vs : List V) (σ : St) : zV V := g1 vs fun k => gI k fun k => ge v σ.heap fun l xs => if xs.length + 1 < scanBound then .ok .none { σ with heap := σ.heap.set l (.set (if xs.contains k then xs else xs ++ [k])) } else .bad
theorem wK (ys : List Int) (k k' : Int) : (ys.contains k' || decide (k' = k)) = (if ys.contains k then ys else ys ++ [k]).contains k' := by
 by_cases hc : ys.contains k = true
 ·rw [if_pos hc]
  by_cases hk : k' = k
  ·subst hk; rw [hc]; rfl
  ·rw [decide_eq_false hk, Bool.or_false]
 ·rw [if_neg hc, List.contains_append]
  congr 1
  by_cases hk : k' = k
  ·subst hk; simp
  ·simp [hk]
theorem wJ (ys : List Int) (k : Int) : (if ys.contains k = true then ys.length else ys.length + 1) = (if ys.contains k then ys else ys ++ [k]).length := by
 by_cases hc : ys.contains k = true
 ·rw [if_pos hc, if_pos hc]
 ·rw [if_neg hc, if_neg hc, List.length_append]; rfl
theorem tw : ex prog w ac C "set" "add" "set.add" eu yH where
 pa := F.plainAttrs_set
 slot := F.slot_set_add
 ty := F.type_set_add
 self := fun ρ H s v v' r hv hc => sy r hv hc
 call := fun ρ σ s v v' vs xs r hv ha => dw (t := fun xs => call (.builtin "set.add") (v' :: xs)) ha fun k x hk => fe (t := fun x => call (.builtin "set.add") [v', x]) hk fun k u => yx (t := fun x => call (.builtin "set.add") [x, .int k u]) hv fun l a ys hl q => a8 fun hsz _ => by
  refine call_set_add (intKind_is prog w k u) rfl (qK.mp (r.hp.obj _ _ _ q hl)) hsz fun h' hs hS' => ?_
  rw [funext (wK ys k), wJ] at hS'
  obtain ⟨ob, g1, g2⟩ := (qK (ρ := ρ)).mpr hS'
  exact zu rfl (r.upd hl hs g1 g2)
end
section
open Builtin Builtin.ObjectAttr Builtin.Getset_descriptor
noncomputable def okV : V → Bool
 | .blt _ => false
 | _ => true
theorem lq {ρ : List Addr} {v : V} {x : Value} (h : VR ρ v x) (e : okV v = true) : handedIn x = true := by
 cases v <;> first | (cases h; rfl) | (obtain ⟨t, rfl⟩ := h; rfl) | (obtain ⟨a, _, rfl⟩ := h; rfl) | cases e
noncomputable def lK (fs : List (Str × V)) (x : Str) (v : V) : List (Str × V) := match fs with
 | [] => [(x, v)]
 | (y, u) :: r => if y = x then (y, v) :: r else (y, u) :: lK r x v
noncomputable def nX (fs : List (Str × V)) (x : Str) : Option V := match fs with
 | [] => none
 | (y, u) :: r => if y = x then some u else nX r x
section
variable {prog : Program} {w : World} {ac : Heap} {Cx0 : Cx} {mg mb : Str → Option Value} {ρ : List Addr} {σ : St} {s : Shared}
theorem dQ {x : Str} : ∀ {fs : List (Str × V)} {es : List DictEntry}, dJ ρ fs es → ∃ r, getL x es = some r ∧ zP ρ (nX fs x) r
 | [], _, h => by cases h; exact ⟨none, rfl, rfl⟩
 | (y, u) :: fs, _, ⟨e, r, rfl, ⟨t, hk⟩, hv, q⟩ => by
  obtain ⟨r', h1, h2⟩ := dQ (x := x) q
  unfold getL at h1 ⊢
  have hs : e.key.isStr x = (y == x) := by rw [hk]; rfl
  have hr : e.refKey = false := by unfold DictEntry.refKey; rw [hk]
  rw [List.find?_cons, List.any_cons, hs, hr]
  by_cases hxy : y = x
  ·subst hxy
   simp only [beq_self_eq_true, nX, if_true]
   exact ⟨_, rfl, _, rfl, hv⟩
  ·have : (y == x) = false := by simpa using hxy
   simp only [this, nX, if_neg hxy, Bool.false_or]
   exact ⟨r', h1, h2⟩
theorem gw {x : Str} {hsh : Int} {tk : Tok} {v : V} {v' : Value} (hv : VR ρ v v') : ∀ {fs : List (Str × V)} {es : List DictEntry}, dJ ρ fs es → dJ ρ (lK fs x v) (putL x hsh (.str x tk) v' es)
 | [], _, h => by cases h; exact ⟨_, _, rfl, ⟨tk, rfl⟩, hv, rfl⟩
 | (y, u) :: fs, _, ⟨e, r, rfl, ⟨t, hk⟩, hu, q⟩ => by
  have hs : e.key.isStr x = (y == x) := by rw [hk]; rfl
  unfold putL lK
  rw [hs]
  by_cases hxy : y = x
  ·subst hxy
   simp only [beq_self_eq_true, if_true]
   exact ⟨_, _, rfl, ⟨t, hk⟩, hv, q⟩
  ·have : (y == x) = false := by simpa using hxy
   simp only [this, if_neg hxy, Bool.false_eq_true, if_false]
   exact ⟨_, _, rfl, ⟨t, hk⟩, hu, gw hv q⟩
theorem jo : ∀ {fs : List (Str × V)} {es : List DictEntry}, dJ ρ fs es → es.length = fs.length
 | [], _, h => by cases h; rfl
 | (y, u) :: fs, _, ⟨e, r, rfl, _, _, q⟩ => by simp [jo q]
theorem nW {x : Str} {v : V} : ∀ (fs : List (Str × V)), (lK fs x v).length ≤ fs.length + 1
 | [] => by simp [lK]
 | (y, u) :: fs => by
  unfold lK
  split
  ·simp
  ·have := nW (x := x) (v := v) fs; simp; lia
theorem gr {H : List O} (r : eh prog w ac ρ H s) {l c d : Nat} {sl : List (Option V)} {fs : List (Str × V)} {a : Addr} (h1 : H[l]? = some (.inst c d sl)) (h2 : H[d]? = some (.idict fs)) (ha : ρ[l]? = some a) :
  ∃ dx sx es n, ρ[d]? = some dx ∧ dD ρ sl sx ∧ dJ ρ fs es ∧ s.heap.get? a = some { cls := .ref c, dict := some dx, data := .plain, slots := List.toArray sx } ∧ s.heap.get? dx = some (dictOf es n) ∧
   InstAt s.heap a { cls := .ref c, dict := some dx, data := .plain, slots := List.toArray sx } c (some (dictOf es n)) := by
 obtain ⟨ob, g1, dx, sx, g2, rfl, g3⟩ := r.obj _ _ _ h1 ha
 obtain ⟨ob', g4, es, n, rfl, g5⟩ := r.obj _ _ _ h2 g2
 exact ⟨dx, sx, es, n, g2, g3, g5, g1, g4, ⟨g1, rfl, rfl, g4⟩⟩
noncomputable def asN (o : O) : Option (Nat × Nat × List (Option V)) := match o with | .inst c d sl => some (c, d, sl) | _ => none
noncomputable def asF (o : O) : Option (List (Str × V)) := match o with | .idict fs => some fs | _ => none
theorem uI (o : O) : asN o = none ∨ (asN o).map (fun p => .inst p.1 p.2.1 p.2.2) = some o := by cases o <;> first | exact .inl rfl | exact .inr rfl
theorem uK (o : O) : asF o = none ∨ (asF o).map .idict = some o := by cases o <;> first | exact .inl rfl | exact .inr rfl
noncomputable def gi {β : Type} (v : V) (H : List O) (k : Nat → Nat → Nat → List (Option V) → List (Str × V) → zV β) : zV β := gh v H fun l o => gO (asN o) fun p => gO H[p.2.1]? fun o => gO (asF o) fun fs => k l p.1 p.2.1 p.2.2 fs
theorem tQ {β : Type} {l c d : Nat} {sl : List (Option V)} {fs : List (Str × V)} {H : List O} {k : Nat → Nat → Nat → List (Option V) → List (Str × V) → zV β} (h1 : H[l]? = some (.inst c d sl)) (h2 : H[d]? = some (.idict fs)) : gi (.ref l) H k = k l c d sl fs := by
 refine (iD h1).trans ?_
 show gO H[d]? _ = _
 rw [h2]; rfl
theorem t4 {α β : Type} {R : List Addr → β → α → Prop} {H : List O} {v : V} {x : Value} {t : Value → Sem α} {k : Nat → Nat → Nat → List (Option V) → List (Str × V) → zV β} (hv : VR ρ v x)
  (q : ∀ l a c d sl fs, ρ[l]? = some a → H[l]? = some (.inst c d sl) → H[d]? = some (.idict fs) → At prog w ac Cx0 R ρ σ s (k l c d sl fs) (t (.ref a))) : At prog w ac Cx0 R ρ σ s (gi v H k) (t x) :=
 lE hv fun l a _ ha h1 => bA fun p hp => bA fun _ h2 => bA fun fs hf => q l a p.1 p.2.1 p.2.2 fs ha (bS uI hp ▸ h1) (bS uK hf ▸ h2)
noncomputable def getD (c : Nat) (x : Str) (v : V) (σ : St) : zV V := gi v σ.heap fun _ c' _ _ fs => gO (nX fs x) fun y => if c' = c ∧ okV y = true then .ok y σ else .bad
structure pI (K : Frag) (c : Nat) (x : Str) : Prop where
 g : plainGet K c x = true
 d : hasDictIn K c = true
 n : findIn K (.ref c) x = some none
theorem at_getD {K : Frag} (X : K.In ac) {c : Nat} {x : Str} (G : pI K c x) {v : V} {v' : Value} {expr : Bool} (r : zT prog w ac Cx0 ρ σ s) (hv : VR ρ v v') : At prog w ac Cx0 VR ρ σ s (getD c x v σ) (getAttr v' x expr) := t4 (t := fun v' => getAttr v' x expr) hv fun l a c' d sl fs ha q1 q2 => bA fun y q3 => a8 fun h _ => by
 obtain ⟨rfl, hok⟩ := h
 obtain ⟨dx, sx, es, n, g1, g2, g3, g4, g5, I⟩ := gr r.hp q1 q2 ha
 obtain ⟨o, h1, h2⟩ := dQ (x := x) g3
 rw [q3] at h2
 obtain ⟨y', rfl, hy⟩ := h2
 exact get_value (X.keeps r.hp.base) I (plainGet_of G.g).1 (findObj_own G.d G.n rfl h1) (lq hy hok) (zu hy (r.toks _))
noncomputable def slotAt (sl : List (Option V)) (i : Nat) : Option V := (sl[i]?).join
noncomputable def eM (c i : Nat) (v : V) (σ : St) : zV V := gi v σ.heap fun _ c' _ sl _ => gO (slotAt sl i) fun y => if c' = c ∧ okV y = true then .ok y σ else .bad
structure rR (K : Frag) (c : Nat) (x : Str) (p : Addr) (i : Nat) : Prop where
 g : plainGet K c x = true
 d : isClsIn K c = true
 a : findIn K (.ref c) x = some (some (.ref p))
 n : specialIn K (.ref p) "__get__" = some (some (.builtin "member_descriptor.__get__"))
 t : takesIn K (.ref p) = some true
 i : slotIn K p c = some i
theorem kr : ∀ {sl : List (Option V)} {sx : List (Option Value)}, dD ρ sl sx → ∀ i, zP ρ (slotAt sl i) ((sx[i]?).join)
 | [], _, h, i => by cases h; exact rfl
 | u :: sl, _, ⟨x, r, rfl, h, q⟩, 0 => by simpa [slotAt] using h
 | u :: sl, _, ⟨x, r, rfl, h, q⟩, i + 1 => by have := kr q i; simpa [slotAt] using this
theorem kq : ∀ {sl : List (Option V)} {sx : List (Option Value)}, dD ρ sl sx → sx.length = sl.length
 | [], _, h => by cases h; rfl
 | u :: sl, _, ⟨x, r, rfl, h, q⟩ => by simp [kq q]
theorem kn {v : Option V} {v' : Option Value} (hv : zP ρ v v') : ∀ {sl : List (Option V)} {sx : List (Option Value)}, dD ρ sl sx → ∀ i, dD ρ (sl.set i v) (sx.set i v')
 | [], _, h, i => by cases h; exact rfl
 | u :: sl, _, ⟨x, r, rfl, h, q⟩, 0 => ⟨_, _, rfl, hv, q⟩
 | u :: sl, _, ⟨x, r, rfl, h, q⟩, i + 1 => ⟨_, _, rfl, h, kn hv q i⟩
theorem ku : ∀ {sl tl : List (Option V)} {sx tx : List (Option Value)}, dD ρ sl sx → dD ρ tl tx → dD ρ (sl ++ tl) (sx ++ tx)
 | [], _, _, _, h, g => by cases h; exact g
 | u :: sl, _, _, _, ⟨x, r, rfl, h, q⟩, g => ⟨_, _, rfl, h, ku q g⟩
theorem ko : ∀ n : Nat, dD ρ (List.replicate n none) (List.replicate n none)
 | 0 => rfl
 | n + 1 => ⟨_, _, rfl, rfl, ko n⟩
theorem wF {K : Frag} (X : K.In ac) {c i : Nat} {x : Str} {p : Addr} (G : rR K c x p i) {v : V} {v' : Value} {expr : Bool} (r : zT prog w ac Cx0 ρ σ s) (hv : VR ρ v v') : At prog w ac Cx0 VR ρ σ s (eM c i v σ) (getAttr v' x expr) := t4 (t := fun v' => getAttr v' x expr) hv fun l a c' d sl fs ha q1 q2 => bA fun y q3 => a8 fun h _ => by
 obtain ⟨rfl, hok⟩ := h
 obtain ⟨dx, sx, es, n, g1, g2, g3, g4, g5, I⟩ := gr r.hp q1 q2 ha
 have h2 := kr g2 i
 rw [q3] at h2
 obtain ⟨y', e', hy⟩ := h2
 have X' := X.keeps r.hp.base
 exact get_bind X' I (plainGet_of G.g).1 (findObj_data G.d G.a G.n G.t) (plainGet_of G.g).2 (wpAny_call (slot_get (s := { s with toks := s.toks + 1 }) X' I G.i (by simpa using e') (handed_on (lq hy hok) (zu hy (r.toks _)))))
noncomputable def iP (c : Nat) (x : Str) (v u : V) (σ : St) : zV Unit := gi v σ.heap fun _ c' d _ fs => if c' = c ∧ fs.length ≤ 900 then .ok () { σ with heap := σ.heap.set d (.idict (lK fs x u)) } else .bad
structure pH (K : Frag) (c : Nat) (x : Str) : Prop where
 s : findIn K (.ref c) "__setattr__" = some (some (.builtin "object.__setattr__"))
 p : plainOver K c = true
 t : takerIn K c x = some none
 d : hasDictIn K c = true
theorem wD {K : Frag} (X : K.In ac) {c : Nat} {x : Str} (G : pH K c x) {v u : V} {v' u' : Value} (r : zT prog w ac Cx0 ρ σ s) (hv : VR ρ v v') (hu : VR ρ u u') : At prog w ac Cx0 fX ρ σ s (iP c x v u σ) (setAttr v' x u') := t4 (t := fun v' => setAttr v' x u') hv fun l a c' d sl fs ha q1 q2 => a8 fun h _ => by
 obtain ⟨rfl, hsz⟩ := h
 obtain ⟨dx, sx, es, n, g1, g2, g3, g4, g5, I⟩ := gr r.hp q1 q2 ha
 have X' := X.keeps r.hp.base
 refine set_plain X' I G.s (osa_open (s := { s with toks := s.toks + 1 }) X' I G.p G.t fun b => ?_)
 obtain ⟨cd, hc, hd'⟩ := any_some G.d
 obtain ⟨o, h1, h2⟩ := dQ (x := x) g3
 have hes : (putL x (PyData.keyHash w.params x) (.str x (s.toks + 1)) u' es).length ≤ 1000 := by
  have := jo (gw (x := x) (hsh := PyData.keyHash w.params x) (tk := s.toks + 1) hu g3)
  have := nW (x := x) (v := u) fs
  lia
 have e' := putName_dict x (PyData.keyHash w.params x) (.str x (s.toks + 1)) u' es n
 have D' : (s.heap.update dx (Obj.putName x (PyData.keyHash w.params x) (.str x (s.toks + 1)) u')).get? dx = some (dictOf (putL x (PyData.keyHash w.params x) (.str x (s.toks + 1)) u' es) (putN x es n)) := by
  rw [← e']; exact Heap.get?_update_self _ g5 (by rw [e']; rfl)
 refine wpAny_bind (wpAny_pure (wpAny_bind (wpAny_bind (wpAny_loadPart (s := { s with toks := s.toks + 1 }) g4 (wpAny_bind (looks_clsIn X' hc _ _ _ _ (fun _ _ e => e) ?_))))))
 rw [hd']
 refine wpAny_pure (a := some dx) (wpAny_bind (wpAny_pure (wpAny_bind ?_)))
 unfold nsSet
 refine wpAny_bind (wpAny_bind (wpAny_askSetting (wpAny_pure (wpAny_bind (wpAny_mkText (wpAny_bind (wpAny_loadPart (s := { s with toks := s.toks + 1 + 1 }) g5 ?_)))))))
 dsimp only
 have hl : (lookIn x (dictOf es n)).isSome = true := by rw [lookIn_dict, h1]; rfl
 have c : (!es.toArray.any (·.key.isStr x) && es.toArray.any (·.refKey)) = false := by
  unfold lookIn at hl
  rw [← Array.any_toList, ← Array.any_toList]
  dsimp only at hl
  split at hl
  ·rename_i en he
   rw [List.any_eq_true.mpr ⟨en, List.mem_of_find?_eq_some he, List.find?_some he⟩]; rfl
  ·split at hl
   ·cases hl
   ·rename_i z; rw [Bool.not_eq_true] at z; rw [z, Bool.and_false]
 rw [aRefKeyMayBeTheName_at, c]
 refine wpAny_updatePart g5 ?_
 refine wpAny_bind (wpAny_lookBehind (s := { s with heap := s.heap.update dx (Obj.putName x (PyData.keyHash w.params x) (.str x (s.toks + 1)) u'), toks := s.toks + 1 + 1 }) D' (pastItsLine_dict (by rw [List.size_toArray, sizeLine_eq]; lia)) ?_)
 exact wpAny_pure (zu trivial (r.upd g1 (Heap.SameBut.update ..) D' ⟨_, _, rfl, gw hu g3⟩))
noncomputable def oG (sl : List (Option V)) (i : Nat) (v : V) : List (Option V) := (sl ++ List.replicate (i + 1 - sl.length) none).set i (some v)
noncomputable def fC (c i : Nat) (v u : V) (σ : St) : zV Unit := gi v σ.heap fun l c' d sl _ => if c' = c then .ok () { σ with heap := σ.heap.set l (.inst c' d (oG sl i u)) } else .bad
structure rP (K : Frag) (c : Nat) (x : Str) (p : Addr) (i : Nat) : Prop where
 s : findIn K (.ref c) "__setattr__" = some (some (.builtin "object.__setattr__"))
 po : plainOver K c = true
 t : takerIn K c x = some (some (.ref p))
 ty : typeIn K (.ref p) = some (.type "member_descriptor")
 z : i < 1000
 i : slotIn K p c = some i
theorem sg {A : Around} {K : Frag} {x C p : Addr} {ox : Obj} {od : Option Obj} {v : Value} {i : Nat} {R : Result → Shared → Prop} (X : K.In s.heap) (I : InstAt s.heap x ox C od) (hp : slotIn K p C = some i) (hi : i < 1000)
  (h : R (.ok (.ret .none)) { s with heap := s.heap.update x fun o => { o with slots := (o.slots ++ Array.replicate (i + 1 - o.slots.size) none).setIfInBounds i (some v) } }) :
  codeAny (model prog w) A (.call (.builtin "member_descriptor.__set__") ⟨[.ref p, .ref x, v], []⟩) R s := by
 obtain ⟨n, tn, owner, behind, tb, d, sl, cd, ho, hc, hm, hb, rfl⟩ := slot_of X hp
 obtain ⟨hh, g, dr, t, os⟩ := s
 have L0 := I.type (M := model prog w)
 have L1 := looks_mroIn (M := model prog w) X hm
 have L2 : Looks (model prog w) hh (Slots.slotNamesOf (.ref C)) cd.slotNames := (looks_clsIn X hc).andThen .now
 have hx := I.at_
 dsimp only at ho hx L0 L1
 have f0 := looks_field (M := model prog w) ho 0 (v := .str n tn) rfl
 have f1 := looks_field (M := model prog w) ho 1 (v := owner) rfl
 have f3 := looks_field (M := model prog w) ho 3 (v := .builtin "proto.slot#set") rfl
 have f4 := looks_field (M := model prog w) ho 4 (v := .int behind tb) rfl
 refine codeAny_call_builtin KF.slot_mset.plain KF.entry_mset (KF.slot_mset.check _ _ _ _ _ _ _ _ ⟨_, ho, rfl⟩ (KF.args_mset _ _ _) ?_)
 unfold Builtin.«member_descriptor.__set__» descrSet descrStoreThrough descrCheckInstance descrNameAndClass isInstance
 have f5 : Looks (model prog w) hh (descrItself (.ref p)) [.ref p] := ((Looks.ld (part := none) ho).andThen .now).andThen (Looks.of_pure (by kernel_rfl))
 repeat lk
 refine ⟨Code.quiet_builtin _ (by decide +kernel), codeAny_builtin KF.entry_slotset ?_⟩
 unfold Builtin.«proto.slot#set» Slots.target
 repeat lk
 rw [if_neg hb]
 refine wpAny_pure (wpAny_bind ?_)
 unfold setSlotAt
 dsimp only
 rw [if_neg (by rw [sizeLine_eq]; lia)]
 exact wpAny_updatePart hx (wpAny_pure h)
theorem wB {K : Frag} (X : K.In ac) {c i : Nat} {x : Str} {p : Addr} (G : rP K c x p i) {v u : V} {v' u' : Value} (r : zT prog w ac Cx0 ρ σ s) (hv : VR ρ v v') (hu : VR ρ u u') : At prog w ac Cx0 fX ρ σ s (fC c i v u σ) (setAttr v' x u') := t4 (t := fun v' => setAttr v' x u') hv fun l a c' d sl fs ha q1 q2 => a8 fun h _ => by
 subst h
 obtain ⟨dx, sx, es, n, g1, g2, g3, g4, g5, I⟩ := gr r.hp q1 q2 ha
 have X' := X.keeps r.hp.base
 refine set_plain X' I G.s (osa_descr (s := { s with toks := s.toks + 1 }) KF.slot_mset X' I G.po G.t G.ty (sg (s := { s with toks := s.toks + 1 }) X' I G.i G.z ?_))
 refine zu trivial (r.upd ha (Heap.SameBut.update ..) (Heap.get?_update_self _ g4 rfl) ⟨dx, (sx ++ List.replicate (i + 1 - sx.length) none).set i (some u'), g1, ?_, ?_⟩)
 ·have e : ({ cls := Value.ref c', dict := some dx, data := .plain, slots := sx.toArray } : Obj).slots = sx.toArray := rfl
  have e2 : (sx.toArray ++ Array.replicate (i + 1 - sx.toArray.size) (none : Option Value)).setIfInBounds i (some u') = ((sx ++ List.replicate (i + 1 - sx.length) none).set i (some u')).toArray := by
   rw [show Array.replicate (i + 1 - sx.toArray.size) (none : Option Value) = (List.replicate (i + 1 - sx.length) none).toArray by simp]
   simp only [List.append_toArray, List.setIfInBounds_toArray]
  rw [e2]
 ·unfold oG
  rw [kq g2]
  exact kn (v := some u) (v' := some u') ⟨u', rfl, hu⟩ (ku g2 (ko _)) i
end
end
section
variable {prog : Program} {w : World} {ac : Heap} {C : Cx} {mg mb : Str → Option Value} {ρ : List Addr} {σ : St} {s : Shared}
noncomputable abbrev lJ (prog : Program) (w : World) (ac : Heap) (C : Cx) (x : Str) (g : V → St → zV V) : Prop := t6 prog w ac C VR g (fun v => getAttr v x true)
noncomputable abbrev ou (prog : Program) (w : World) (ac : Heap) (C : Cx) (x : Str) (f : V → V → St → zV Unit) : Prop := yL prog w ac C fX f (fun v u => setAttr v x u)
theorem bt {K : Frag} (X : K.In ac) {c : Nat} {x : Str} (G : pI K c x) : lJ prog w ac C x (getD c x) := fun _ _ _ _ _ r h => at_getD X G r h
theorem dg {K : Frag} (X : K.In ac) {c i : Nat} {x : Str} {p : Addr} (G : rR K c x p i) : lJ prog w ac C x (eM c i) := fun _ _ _ _ _ r h => wF X G r h
theorem dY {K : Frag} (X : K.In ac) {c : Nat} {x : Str} (G : pH K c x) : ou prog w ac C x (iP c x) := fun _ _ _ _ _ _ _ r h g => wD X G r h g
theorem dX {K : Frag} (X : K.In ac) {c i : Nat} {x : Str} {p : Addr} (G : rP K c x p i) : ou prog w ac C x (fC c i) := fun _ _ _ _ _ _ _ r h g => wB X G r h g
noncomputable def ba (g : V → St → zV V) (mo : St → zV V) : St → zV V := fun σ => (mo σ).bind g
theorem bd {x : Str} {g : V → St → zV V} {mo : St → zV V} {o : Expr} {pos : Pos} (hg : lJ prog w ac C x g) (ho : bi prog w ac C mo (eval o C.env))
  (he : eval (.Attribute o x pos) C.env = (do
   let ov ← eval o C.env
   standAt pos.atName
   let r ← holding [ov] (getAttr ov x true)
   letTemporaryGo o ov r
   pure r)) : bi prog w ac C (ba g mo) (eval (.Attribute o x pos) C.env) := by
 refine zS.gen fun ρ σ s z r e hb => ?_
 refine Attribute_any_ ((ho.at r).next e hb fun a ae aw az a' _ va au e => ?_) he
 subst e
 exact (hg aw ae az a a' au.rel va).trans au hb
noncomputable def cE (f : V → V → St → zV Unit) (mo : St → zV V) (v : V) (σ : St) : zV Unit := (mo σ).bind fun o ae => f o v ae
theorem ci {x : Str} {f : V → V → St → zV Unit} {mo : St → zV V} {o : Expr} {pos : Pos} (hf : ou prog w ac C x f) (ho : bi prog w ac C mo (eval o C.env)) : j4 prog w ac C (cE f mo) (.Attribute o x pos) := by
 intro ρ σ s a a' r ha hn
 rw [assign_Attribute]
 refine wpAny_bind (wpAny_holding ((ho.at r).next rfl hn fun b ae aw az b' _ vb au e => ?_))
 rw [e] at hn ⊢
 refine wpAny_bind (wpAny_standAt (wpAny_bind (wpAny_holding (wpAny_mono ((hf aw ae az b b' a a' au.rel vb (au.vr ha)).trans au hn) (fun _ s' h => wpAny_release h) fun _ _ h => h))))
noncomputable def pt (op : Operator) (g : V → St → zV V) (f : V → V → St → zV Unit) (mo m : St → zV V) : St → zV F := fun σ => (mo σ).bind fun o ae => (g o ae).bind fun a aq => (m aq).bind fun b aS => (opI op a b aS).bind fun c cg => (f o c cg).bind fun _ fD => .ok .next fD
theorem gQ {op : Operator} {x : Str} {g : V → St → zV V} {f : V → V → St → zV Unit} {mo m : St → zV V} {o v : Expr} {tpos pos : Pos} (hg : lJ prog w ac C x g) (hf : ou prog w ac C x f) (ho : bi prog w ac C mo (eval o C.env)) (hv : bi prog w ac C m (eval v C.env)) :
  gL prog w ac C (pt op g f mo m) (.AugAssign (.Attribute o x tpos) op v pos) := by
 refine zS.gen fun ρ σ s z r e hb => ?_
 refine wpAny_AugAssign_AttributeAny ((ho.at r).next e hb fun a ae aw az a' _ va au e => ?_)
 refine At.then au (hg aw ae az a a' au.rel va) e hb fun b aq aK aT b' _ vb aJ st e => ?_
 refine (hv.at st.rel).then st e hb fun c aS b0 bF c' _ vc b9 st' e => ?_
 refine At.then st' (qa op b0 aS bF b b' c c' st'.rel (b9.vr vb) vc) e hb fun d cg iV j9 d' _ vd iW st'' e => ?_
 refine At.then st'' (hf iV cg j9 a a' d d' st''.rel (iW.vr (b9.vr (aJ.vr va))) vd) e hb fun _ fD ua s₅ _ _ _ pT st3 e => ?_
 subst e
 exact zu rfl st3
noncomputable def kl (v : V) (σ : St) : zV (List V) := gh v σ.heap fun _ o => gO ((zK o).or (zH o)) fun xs => if xs.length ≤ sizeLine then .ok xs σ else .bad
inductive StarB (v : V) (σ : St) : Prop
 | mk (l : Nat) (o : O) (xs : List V) (hv : v = .ref l) (ho : σ.heap[l]? = some o) (h : zK o = some xs ∨ zH o = some xs) (hs : xs.length ≤ sizeLine) (e : kl v σ = .ok xs σ)
theorem kj {v : V} {σ : St} (h : kl v σ ≠ .bad) : StarB v σ := by
 obtain ⟨l, hl, h⟩ := jm h
 obtain ⟨o, ho, h⟩ := jm h
 obtain ⟨xs, hx, h⟩ := jm h
 obtain ⟨hs, h⟩ := fp rfl h
 cases bS iL hl
 refine ⟨l, o, xs, rfl, ho, (Option.or_eq_some_iff.mp hx).imp_right And.right, hs, ?_⟩
 exact (iD ho).trans (by rw [hx]; exact if_pos hs)
theorem nt {v : V} {σ : St} (h : kl v σ ≠ .bad) : ∃ vs, kl v σ = .ok vs σ := match kj h with | ⟨_, _, xs, _, _, _, _, e⟩ => ⟨xs, e⟩
theorem rE (r : zT prog w ac C ρ σ s) {v : V} {v' : Value} {vs : List V} {σ' : St} {Q : List Value → Shared → Prop} {E : Value → Shared → Prop} (hv : VR ρ v v') (he : kl v σ = .ok vs σ') (k : ∀ xs s', bL ρ vs xs → Step prog w ac C ρ σ s ρ σ' s' → Q xs s') :
  StarOf (model prog w) C.A E v' Q s := by
 obtain ⟨l, o, xs, rfl, ho, h, hs, e⟩ := kj (v := v) (σ := σ) (by rw [he]; intro q; cases q)
 rw [e] at he; cases he
 obtain ⟨a, ha, rfl⟩ := hv
 unfold StarOf notIterableAtAll
 rcases h with h | h
 ·cases bS jr h
  obtain ⟨ob, h1, ws, n, rfl, hw⟩ := r.hp.obj _ _ _ ho ha
  exact wpAny_bind (wpAny_specialOf (T := "list") ⟨_, h1, rfl⟩ PySem.F.slot_list_iter.lookup (wpAny_pure ⟨rfl, wpAny_collect_seq a (.inl rfl) h1 rfl rfl (fun h' hk => k ws _ hw (r.keep hk ⟨rfl, rfl, rfl⟩)) (show ws.length ≤ sizeLine from hw.length ▸ hs)⟩))
 ·cases bS om h
  obtain ⟨ob, h1, ws, n, rfl, hw⟩ := r.hp.obj _ _ _ ho ha
  exact wpAny_bind (wpAny_specialOf (T := "tuple") ⟨_, h1, rfl⟩ PySem.F.slot_tuple_iter.lookup (wpAny_pure ⟨rfl, wpAny_collect_seq a (.inr rfl) h1 rfl rfl (fun h' hk => k ws _ hw (r.keep hk ⟨rfl, rfl, rfl⟩)) (show ws.length ≤ sizeLine from hw.length ▸ hs)⟩))
noncomputable def fR (m : St → zV V) (ms : St → zV (List V)) : St → zV (List V) := fun σ => (m σ).bind fun v ae => (kl v ae).bind fun us aq => (ms aq).bind fun vs aS => .ok (us ++ vs) aS
theorem jA {m : St → zV V} {ms : St → zV (List V)} {pos p : Pos} {e : Expr} {rest : List Expr} (h : bi prog w ac C m (eval e C.env)) (hr : bK prog w ac C ms pos rest)
  (he : starEach (.Starred e p :: rest) C.env = (true, eval e C.env) :: starEach rest C.env) : bK prog w ac C (fR m ms) pos (.Starred e p :: rest) := by
 refine zS.gen fun ρ σ s z r e hb => ?_
 refine items_star ((h.at r).next e hb fun a ae aw az a' _ va au e => ?_) he
 obtain ⟨us, hus⟩ := nt (v := a) (σ := ae) fun q => hb (e.trans (by rw [q]; rfl))
 refine rE au.rel va hus fun xs aT hx aJ => ?_
 rw [hus, zV.bind_ok] at e
 have st := au.trans aJ
 refine (hr.at st.rel).then st e hb fun b aS b0 bF b' _ vb b9 st' e => ?_
 subst e
 exact zu ((b9.all hx).append vb) st'
noncomputable def ArgsR (mk : List Value → Args) : List Addr → List V → Args → Prop := fun ρ vs a => ∃ xs, bL ρ vs xs ∧ a = mk xs
noncomputable abbrev gA (prog : Program) (w : World) (ac : Heap) (C : Cx) (mk : List Value → Args) (ms : St → zV (List V)) (f : Value) (args : List (Bool × Sem Value)) (kws : List (Option Str × Sem Value)) : Prop := zS prog w ac C (ArgsR mk) ms (evalArgs f true args kws)
theorem ue {ms : St → zV (List V)} {f : Value} {pos : Pos} {args : List Expr} (ha : bK prog w ac C ms pos args) (hp : (backTo pos (starEach args C.env)).any (·.1) = false) : gA prog w ac C av ms f (backTo pos (starEach args C.env)) [] := by
 intro ρ σ s r hb
 refine cx hp (wpAny_mono (ha.at r hb) (fun vs s' h => ?_) fun _ _ h => h)
 cases hm : ms σ with
 | ok us σ' => rw [hm] at h; obtain ⟨ρ', hr, st⟩ := h; exact zu ⟨vs, hr, rfl⟩ st
 | exc => rw [hm] at h; exact h.elim
 | bad => rw [hm] at h; exact h.elim
theorem lV {ms : St → zV (List V)} {f : Value} {pos : Pos} {e : Expr} {rest : List Expr} (ha : bK prog w ac C ms pos (e :: rest)) (he : starEach (e :: rest) C.env = (false, eval e C.env) :: starEach rest C.env) :
  gA prog w ac C av ms f (backTo pos (starEach (e :: rest) C.env)) [] := by
 intro ρ σ s r hb
 have ha' := ha.at r hb
 rw [he] at ha' ⊢
 refine evalArgs_plain (wpAny_mono ha' (fun vs s' h => ?_) fun _ _ h => h)
 cases hm : ms σ with
 | ok us σ' => rw [hm] at h; obtain ⟨ρ', hr, st⟩ := h; exact zu ⟨vs, hr, rfl⟩ st
 | exc => rw [hm] at h; exact h.elim
 | bad => rw [hm] at h; exact h.elim
noncomputable def lf (m : St → zV V) : St → zV (List V) := fun σ => (m σ).bind kl
theorem lW {m : St → zV V} {f : Value} {pos p : Pos} {e : Expr} (h : bi prog w ac C m (eval e C.env)) (he : starEach [.Starred e p] C.env = [(true, eval e C.env)]) : gA prog w ac C av (lf m) f (backTo pos (starEach [.Starred e p] C.env)) [] := by
 refine zS.gen fun ρ σ s z r e hb => ?_
 rw [he]
 refine ks_lone ((h.at r).next e hb fun a ae aw az a' _ va au e => ?_)
 subst e
 obtain ⟨us, hus⟩ := nt (v := a) (σ := ae) hb
 refine rE au.rel va hus fun xs aT hx aJ => ?_
 rw [hus]
 exact zu ⟨xs, hx, rfl⟩ (au.trans aJ)
noncomputable abbrev jg (n : Str) : List Value → Args
 | [a, b] => ⟨[a], [(n, b)]⟩
 | xs => ⟨xs, []⟩
noncomputable def yS (ma mb : St → zV V) : St → zV (List V) := fun σ => (ma σ).bind fun a ae => (mb ae).bind fun b aq => .ok [a, b] aq
theorem qg {ma mb : St → zV V} {f : Value} {pos kp : Pos} {e v : Expr} {n : Str} (ha : bi prog w ac C ma (eval e C.env)) (hv : bi prog w ac C mb (eval v C.env))
  (he : starEach [e] C.env = [(false, eval e C.env)]) (hk : keywordEach [⟨some n, v, kp⟩] C.env = [(some n, eval v C.env)]) :
  gA prog w ac C (jg n) (yS ma mb) f (backTo pos (starEach [e] C.env)) (backToKw pos (keywordEach [⟨some n, v, kp⟩] C.env)) := by
 refine zS.gen fun ρ σ s z r e hb => ?_
 rw [he, hk]
 refine evalArgs_kwB rfl (spliced_cons ((ha.at r).next e hb fun a ae aw az a' _ va au e => spliced_nil ?_))
 show wpAny _ _ (evalAll [(do let v ← eval v C.env; standAt pos; pure v)]) _ _ _
 refine evalAll_cons (wpAny_bind ((hv.at au.rel).then au e hb fun b aq aK aT b' _ vb aJ st e => wpAny_bind (wpAny_standAt (wpAny_pure (evalAll_nil ?_)))))
 subst e
 exact (zu ⟨[a', b'], .cons (aJ.vr va) (.one vb), rfl⟩ st)
noncomputable def jt (args : List (Bool × Sem Value)) (kws : List (Option Str × Sem Value)) : Prop := (args.any (·.1) || kws.any (·.1.isNone)) = false ∨ (args.any (·.1) = true ∧ kws = [])
theorem iK {f : Value} {first : List Value} {pos : Pos} {args : List (Bool × Sem Value)} {kws : List (Option Str × Sem Value)} {Q : Value → Shared → Prop} {E : Value → Shared → Prop} (hc : jt args kws) (hk : Keeps ac (model prog w) f)
  (h : wpAny (model prog w) C.A (evalArgs f true args kws) (fun a az => ac.StaysIn az.heap ∧ wpAny (model prog w) C.A (call f (first ++ a.pos) a.kw) Q E az) E s) : wpAny (model prog w) C.A (callWith pos f first args kws) Q E s := by
 rcases hc with hc | ⟨hc, rfl⟩
 ·exact callWith_of (P := ac.StaysIn) hc (fun h k => hk h k) h
 ·exact ks_call (P := ac.StaysIn) hc (fun h k => hk h k) h
theorem qm {v : V} {f : Value} {mk : List Value → Args} {ma : St → zV (List V)} {g : List V → St → zV V} {x : Str} {np pos : Pos} {args : List Expr} {kws : List Keyword} (hk : Keeps ac (model prog w) f) (hn : bi prog w ac C (aa v) (eval (.Name x np) C.env)) (hv : ∀ ρ x, VR ρ v x → x = f)
  (ha : gA prog w ac C mk ma f (backTo pos (starEach args C.env)) (backToKw pos (keywordEach kws C.env))) (hg : cS prog w ac C f mk g) (hp : jt (backTo pos (starEach args C.env)) (backToKw pos (keywordEach kws C.env))) : bi prog w ac C (aC ma g) (eval (.Call (.Name x np) args kws pos) C.env) := by
 refine zS.gen fun ρ σ s z r e hb => ?_
 refine wpAny_Call_ofName (At.next (f := fun _ ae => aC ma g ae) (hn.at r) e hb fun a ae aw az a' mM va au e => ?_)
 cases mM
 have := hv _ _ va
 subst this
 refine iK hp hk ((ha.at au.rel).then au e hb fun b aq aK aT b' _ vb aJ st e => ⟨st.rel.hp.base, ?_⟩)
 subst e
 obtain ⟨xs, hx, rfl⟩ := vb
 exact (hg aK aq aT b xs st.rel hx).trans st hb
structure fq (K : Frag) (c : Nat) (x : Str) (fa : Addr) : Prop where
 g : plainGet K c x = true
 f : findIn K (.ref c) x = some (some (.ref fa))
 t : isFn K (.ref fa) = true
noncomputable def bP (c : Nat) (x : Str) (v : V) (H : List O) : Bool := (zJ v).any fun l => H[l]?.any fun o => (asN o).any fun p => H[p.2.1]?.any fun o => (asF o).any fun fs => decide (p.1 = c) && (nX fs x).isNone
inductive IsIn (c : Nat) (x : Str) (v : V) (H : List O) : Prop
 | mk (l d : Nat) (sl : List (Option V)) (fs : List (Str × V)) (hv : v = .ref l) (h1 : H[l]? = some (.inst c d sl)) (h2 : H[d]? = some (.idict fs)) (h3 : nX fs x = none)
theorem jj {c : Nat} {x : Str} {v : V} {H : List O} (hc : bP c x v H = true) : IsIn c x v H := by
 obtain ⟨l, hl, hc⟩ := Option.any_eq_true .. |>.mp hc
 obtain ⟨o1, q1, hc⟩ := Option.any_eq_true .. |>.mp hc
 obtain ⟨⟨c', d, sl⟩, hN, hc⟩ := Option.any_eq_true .. |>.mp hc
 obtain ⟨o2, q2, hc⟩ := Option.any_eq_true .. |>.mp hc
 obtain ⟨fs, hF, hc⟩ := Option.any_eq_true .. |>.mp hc
 obtain ⟨hcc, hsh⟩ := Bool.and_eq_true_iff.mp hc
 exact ⟨l, d, sl, fs, bS iL hl, of_decide_eq_true hcc ▸ bS uI hN ▸ q1, bS uK hF ▸ q2, Option.isNone_iff_eq_none.mp hsh⟩
noncomputable def cW (chk : V → List O → Bool) (g : List V → St → zV V) (mo : St → zV V) (ma : St → zV (List V)) : St → zV V := fun σ => (mo σ).bind fun v ae => if chk v ae.heap then (ma ae).bind fun vs aq => g (v :: vs) aq else .bad
theorem sj {K : Frag} (X : K.In ac) {c : Nat} {name : Str} {fa : Addr} (Mi : fq K c name fa) (hk : Keeps ac (model prog w) (.ref fa)) {g : List V → St → zV V} {mo : St → zV V} {ma : St → zV (List V)} {o : Expr} {apos pos : Pos} {args : List Expr} {pl : Sem Bool}
  (ho : bi prog w ac C mo (eval o C.env)) (ha : gA prog w ac C av ma (.ref fa) (backTo pos (starEach args C.env)) (backToKw pos (keywordEach [] C.env))) (hg : cS prog w ac C (.ref fa) av g) (hp : jt (backTo pos (starEach args C.env)) (backToKw pos (keywordEach [] C.env)))
  (he : eval (.Call (.Attribute o name apos) args [] pos) C.env = (do
   let ov ← eval o C.env
   standAt apos.atName
   let (f, first) ← holding [ov] (getMethod ov name pl)
   callWith pos f first (backTo pos (starEach args C.env)) (backToKw pos (keywordEach [] C.env)))) :
  bi prog w ac C (cW (bP c name) g mo ma) (eval (.Call (.Attribute o name apos) args [] pos) C.env) := by
 refine zS.gen fun ρ σ s z r e hb => ?_
 refine methodCall_KW ((ho.at r).next e hb fun v ae aw az v' _e vv au e => ?_) he
 clear _e
 obtain ⟨hc, e'⟩ := fp e.symm hb
 clear e
 obtain ⟨l, d, sl, fs, rfl, q1, q2, hsh⟩ := jj hc
 obtain ⟨a, hx, rfl⟩ := vv
 obtain ⟨dx, sx, es, n, g1, g2, g3, g4, g5, I⟩ := gr au.rel.hp q1 q2 hx
 obtain ⟨o', h1, h2⟩ := dQ (x := name) g3
 rw [hsh] at h2
 cases h2
 refine method_fn (X.keeps au.rel.hp.base) I (plainGet_of Mi.g).1 (plainGet_of Mi.g).2 Mi.f (beq_iff_eq.mp Mi.t) (by show (lookIn name (dictOf es n)).map _ = _; rw [lookIn_dict, h1]; rfl) ?_
 refine iK hp hk ((ha.at au.rel).then au e'.symm hb fun b aq aK aT b' _ vb aJ st e => ⟨st.rel.hp.base, ?_⟩)
 subst e
 obtain ⟨xs, hxs, rfl⟩ := vb
 have vv' : VR aK (.ref l) (.ref a) := aJ.vr (v := .ref l) ⟨a, hx, rfl⟩
 exact (hg aK aq aT (.ref l :: b) (.ref a :: xs) st.rel (.cons vv' hxs)).trans st hb
end
section
variable {prog : Program} {w : World} {ac : Heap} {C : Cx} {mg mb : Str → Option Value} {ρ : List Addr} {σ : St} {s : Shared}
theorem cF.alloc {H : List O} (r : eh prog w ac ρ H s) {o : O} {ob : Obj} {t : Nat} (hf : ob.isFreed = false) (ho : zX prog w (ρ ++ [s.heap.objs.size]) o ob) :
  cF prog w ac ρ H s (ρ ++ [s.heap.objs.size]) (H ++ [o]) { s with heap := s.heap.push ob, toks := t } :=
 ⟨r.alloc hf ho, ⟨[s.heap.objs.size], rfl, fun a ha => by simp at ha; subst ha; exact Heap.get?_none_of_le (Nat.le_refl _)⟩, fun a o e _ => ⟨o, Heap.get?_push_of_some _ e, .refl o⟩, ⟨rfl, rfl, rfl⟩⟩
theorem cF.live {ρ' : List Addr} {H H' : List O} {s' : Shared} (st : cF prog w ac ρ H s ρ' H' s') {a : Addr} (h : s.heap.get? a ≠ none) : s'.heap.get? a ≠ none := by
 obtain ⟨o, ho⟩ := Option.ne_none_iff_exists'.mp h
 by_cases hw : a ∈ ρ
 ·obtain ⟨m, e, _⟩ := st.ext
  have hm : a ∈ ρ' := e ▸ List.mem_append_left _ hw
  obtain ⟨l, hl, el⟩ := List.mem_iff_getElem.mp hm
  have e' : ρ'[l]? = some a := by rw [List.getElem?_eq_getElem hl, el]
  have hl2 : l < H'.length := st.rel.len ▸ hl
  obtain ⟨ob, h1, _⟩ := st.rel.obj l _ _ (List.getElem?_eq_getElem hl2) e'
  rw [h1]; simp
 ·obtain ⟨o', ho', _⟩ := st.pres a o ho hw
  rw [ho']; simp
noncomputable def gp (c : Nat) (mi : cY) : cY := fun vs H => match mi (.ref (H.length + 1) :: vs) (H ++ [.idict [], .inst c H.length []]) with
 | .ok .none τ => .ok (.ref (H.length + 1)) τ
 | .exc c as τ => .exc c as τ
 | _ => .bad
structure nh (K : Frag) (c : Nat) (fI : Addr) : Prop where
 m : makesIn K c = true
 i : findIn K (.ref c) "__init__" = some (some (.ref fI))
 f : typeIn K (.ref fI) = some (.type "function")
theorem kJ {K : Frag} (X : K.In ac) {c : Nat} {fI : Addr} (G : nh K c fI) {k : Nat} {mi : cY} (hi : dy prog w ac k (.ref fI) av mi) : dy prog w ac (k + 1) (.ref c) av (gp c mi) := by
 intro A outer ρ H s vs xs hfr hq hd hu frs frm r ha hn
 have X' := X.keeps r.base
 have s1 := cF.alloc r (o := .idict []) (ob := emptyDict) (t := s.toks) rfl ⟨[], 0, rfl, rfl⟩
 have hl1 : (ρ ++ [s.heap.objs.size])[H.length]? = some s.heap.objs.size := bv r _
 have s2 := s1.rel
 have s3 := cF.alloc s2 (o := .inst c H.length []) (ob := instObj c s.heap.objs.size) (t := s.toks) rfl ⟨s.heap.objs.size, [], cr hl1, rfl, rfl⟩
 have st := s1.trans s3
 have hsz : ({ s with heap := s.heap.push emptyDict, toks := s.toks } : Shared).heap.objs.size = s.heap.objs.size + 1 := Heap.size_push ..
 have hlab : (ρ ++ [s.heap.objs.size] ++ [({ s with heap := s.heap.push emptyDict, toks := s.toks } : Shared).heap.objs.size])[H.length + 1]? = some (s.heap.objs.size + 1) := by
  have := bv s2 (({ s with heap := s.heap.push emptyDict, toks := s.toks } : Shared).heap.objs.size)
  rw [hsz] at this ⊢
  simpa using this
 have eH : H ++ [O.idict []] ++ [O.inst c H.length []] = H ++ [.idict [], .inst c H.length []] := by simp
 rw [eH] at st
 have vself : VR (ρ ++ [s.heap.objs.size] ++ [({ s with heap := s.heap.push emptyDict, toks := s.toks } : Shared).heap.objs.size]) (.ref (H.length + 1)) (.ref (s.heap.objs.size + 1)) := ⟨_, hlab, rfl⟩
 have hn' : mi (.ref (H.length + 1) :: vs) (H ++ [.idict [], .inst c H.length []]) ≠ .bad := fun q => hn (by unfold gp; rw [q])
 have frs' : zZ ac ((s.heap.push emptyDict).push (instObj c s.heap.objs.size)) outer := dt frs fun e he L hL o ho => ⟨o, Heap.get?_push_of_some _ (Heap.get?_push_of_some _ ho), .refl o⟩
 have frm' : ∀ L ∈ bD outer, L ∉ ρ ++ [s.heap.objs.size] ++ [({ s with heap := s.heap.push emptyDict, toks := s.toks } : Shared).heap.objs.size] := fun L hL hm => by
  obtain ⟨_, o, _, _, ho, _⟩ := frs.mem hL
  have hlt := Heap.lt_size ho
  rw [hsz] at hm
  simp only [List.append_assoc, List.mem_append, List.mem_cons, List.not_mem_nil, or_false] at hm
  rcases hm with h | h | h
  ·exact frm L hL h
  ·rw [h] at hlt; exact Nat.lt_irrefl _ hlt
  ·rw [h] at hlt; exact Nat.lt_irrefl _ (Nat.lt_of_succ_lt hlt)
 have body := hi (A.under (.builtin "type.__call__" ⟨.ref c :: xs, []⟩)) outer _ _ _ (.ref (H.length + 1) :: vs) (.ref (s.heap.objs.size + 1) :: xs) (by show A.frames = _; exact hfr) (by show A.handled = _; exact hq)
  (by rw [depth_under_kw]; lia) (by rw [units_under_make]; lia) frs' frm' st.rel (.cons vself (st.all ha)) hn'
 obtain ⟨hh, g, d, t, os⟩ := s
 refine make_core (makes_of X' G.m) (looks_findIn X' G.i) (fun self => bind_fn X' self G.f) (.inl rfl) (codeAny_mono body fun res s' hp => ?_)
 unfold gp at hn ⊢
 cases q : mi (.ref (H.length + 1) :: vs) (H ++ [.idict [], .inst c H.length []]) with
 | ok v τ =>
  rw [q] at hp hn
  obtain ⟨x, ρ', rfl, hv, st'⟩ := hp
  cases v <;> first | exact absurd rfl hn | skip
  cases hv
  obtain ⟨more, e, _⟩ := st'.ext
  have : VR ρ' (.ref (H.length + 1)) (.ref (hh.objs.size + 1)) := by rw [e]; exact vself.mono
  exact ⟨rfl, _, ρ', rfl, this, st.trans st'⟩
 | exc c as τ =>
  rw [q] at hp
  obtain ⟨e, ρ', rfl, hf, st'⟩ := hp
  exact ⟨_, ρ', rfl, hf.before fun a h => st.live h, st.trans st'⟩
 | bad => rw [q] at hp; exact hp.elim
end
section
variable {prog : Program} {w : World} {ac : Heap} {C : Cx} {mg mb : Str → Option Value} {ρ aw aK : List Addr} {σ ae aq : St} {s az aT : Shared}
theorem rp (st : Step prog w ac C ρ σ s aw ae az) {h' : Heap} {e : Addr} {cls : Value} {c : V} {as : List V} {vs : List Value} (hm : Heap.MadeExcOf az.heap h' e cls vs) (hc : VR aw c cls) (ha : bL aw as vs) :
  cH s.heap (zU C aw) aw c as (.ref e) h' := by
 obtain ⟨t, h1, h2, h3⟩ := hm.there
 have nw : ∀ {x : Addr}, az.heap.get? x = none → s.heap.get? x = none ∧ ¬ zU C aw x := fun {x} hx =>
  ⟨by
   cases q : s.heap.get? x with
   | none => rfl
   | some o => exact absurd hx (st.live (by rw [q]; simp)), fun ho => bo st.rel _ ho hx⟩
 exact ⟨e, _, _, t, vs, _, rfl, (nw hm.new).1, (nw hm.new).2, h1, hc, rfl, rfl, (nw h2).1, (nw h2).2, h3, ha, .inl rfl⟩
noncomputable def cK (c : V) (ma : St → zV (List V)) : St → zV F := fun σ => (ma σ).bind fun vs ae => if vs.length ≤ sizeLine then .exc c vs ae else .bad
theorem p7 {x : Str} {c : Addr} {bm : List Value} {newId B initId : String} (O : OwnCls x c bm newId mg ac) (FB : ExcBaseFacts B newId initId bm) (hh : C.A.handled = none) {ma : St → zV (List V)} {np cpos pos : Pos} {args : List Expr}
  (hn : bi prog w ac C (aa (.top c)) (eval (.Name x np) C.env)) (ha : bK prog w ac C ma cpos args) (hp : (backTo cpos (starEach args C.env)).any (·.1) = false) :
  gL prog w ac C (cK (.top c) ma) (.Raise (some (.Call (.Name x np) args [] cpos)) none pos) := by
 intro ρ σ s r hb
 obtain ⟨tl, N, nm, q, bs, hdct, sn, sub, ab, col, dd, k0, k1, k2, k3, k5, mN, hC, hN, hni, T⟩ := O.obj
 refine wpAny_Raise_call_subT (C := c) (nm := nm) (q := q) (N := N) (bs := bs) (bm := tl) (hdct := hdct) (sn := sn) (sub := sub) (ab := ab) (col := col) (dd := dd) (k0 := k0) (k1 := k1) (k2 := k2) (k3 := k3) (k5 := k5)
  FB (mN := mN) (T.hasType FB.hasBase) hh hp hni (At.next (f := fun _ ae => cK (.top c) ma ae) (hn.at r) rfl hb fun a ae aw az a' mM va au e => ?_)
 cases mM
 cases va
 rw [e] at hb ⊢
 refine ⟨rfl, cx hp ((ha.at au.rel).then au rfl hb fun b aq aK aT b' _ vb aJ st e => ?_)⟩
 rw [e] at hb ⊢
 split at hb
 ·rename_i hsz
  rw [if_pos hsz]
  have kb := st.rel.hp.base
  refine ⟨rfl, by rw [vb.length]; exact hsz, kb _ _ hC, hN.keeps kb, T.keeps kb, fun h' e hm => ?_⟩
  have st3 := st.rel.keep (s' := { aT with heap := h' }) hm.keeps ⟨rfl, rfl, rfl⟩
  exact ⟨aK, rp st hm rfl vb, st.trans st3⟩
 ·exact absurd rfl hb
theorem rL {a : Addr} (st : Step prog w ac C ρ σ s aw ae az) (ha : s.heap.get? a ≠ none) (hn : ¬ zU C ρ a) : ¬ zU C aw a := by
 rintro (h | h)
 ·obtain ⟨m, e, n⟩ := st.ext
  rw [e, List.mem_append] at h
  rcases h with h | h
  ·exact hn (.inl h)
  ·exact ha (n _ h)
 ·exact hn (.inr h)
theorem iQ.fields {o o' : Obj} (h : iQ o o') {vs : Array Value} (hd : o.data = .fields vs) : o' = o := by
 rcases h with h | ⟨⟨es, n, q⟩, _⟩
 ·exact h
 ·rw [hd] at q; cases q
theorem iQ.seq {o o' : Obj} (h : iQ o o') {vs : Array Value} {n : Nat} (hd : o.data = .seq vs n) : o' = o := by
 rcases h with h | ⟨⟨es, n, q⟩, _⟩
 ·exact h
 ·rw [hd] at q; cases q
theorem iQ.plain {o o' : Obj} (h : iQ o o') (hd : wO o) : o' = o := by
 rcases hd with ⟨vs, q⟩ | ⟨vs, n, q⟩
 ·exact h.fields q
 ·exact h.seq q
theorem cH.on {bG : Heap} {c : V} {as : List V} {e : Value} (f : cH bG (zU C aw) aw c as e az.heap) (st : Step prog w ac C aw ae az aK aq aT) : cH bG (zU C aK) aK c as e aT.heap :=
 f.map (fun _ h => st.vr h) (fun _ h => st.all h) fun a o h1 h2 h3 h4 => by
  obtain ⟨o', g1, g2⟩ := st.pres a o h3 h2
  exact ⟨h1, rL st (by rw [h3]; simp) h2, g2.plain h4 ▸ g1⟩
theorem kR (ok : C.Ok) {e : Value} : noteFrame e C.env = noteFrame e C.fenv := by
 unfold noteFrame PySem.frameOf
 rw [ok.frame]
theorem wE (ok : C.Ok) (r : zT prog w ac C ρ σ s) {L : Addr} (hL : C.fenv.frame = some L) (st : Step prog w ac C ρ σ s aw ae az) {c : V} {as : List V} {e : Value} (fl : cH s.heap (zU C aw) aw c as e az.heap) {Q : Unit → Shared → Prop} {E : Value → Shared → Prop}
  (k : ∀ h', Step prog w ac C ρ σ s aw ae { az with heap := h' } → cH s.heap (zU C aw) aw c as e h' → Q () { az with heap := h' }) :
  wpAny (model prog w) C.A (noteFrame e C.env) (fun _ s' => wpAny (model prog w) C.A (setFlight e none) Q E s') E az := by
 rw [kR ok]
 refine jf ok.fr hL st.rel.frs fl (bo st.rel) (fun a h => ?_) (fun a h => st.live h) fun h' k1 k2 fl' k3 => ?_
 ·obtain ⟨o, ho⟩ := Option.ne_none_iff_exists'.mp h
  rw [r.hp.base _ _ ho]; simp
 refine k h' ?_ fl'
 obtain ⟨ea, Ta, rfl, o1, o2, o3, o4, k3⟩ := k3
 have nb : ∀ {x}, s.heap.get? x = none → ac.get? x = none := fun {x} hx => by
  cases q : ac.get? x with
  | none => rfl
  | some o => rw [r.hp.base _ _ q] at hx; cases hx
 have isN : ∀ {x : Addr}, zU C aw x → x ≠ ea ∧ x ≠ Ta := fun hx => ⟨by rintro rfl; exact o1 hx, by rintro rfl; exact o2 hx⟩
 refine ⟨⟨st.rel.hp.keep fun a o ho hor => k2 a o ho (hor.elim (fun h => .inr h) fun h => .inl (.inl h)) fun hm' => ?_, ?_, st.rel.lnew, fun p hp => ?_, dt st.rel.frs fun e he L hL o ho => ?_, st.rel.frn, st.rel.locs⟩, st.ext, fun x o hx hn' => ?_, st.loc, st.rest⟩
 ·obtain ⟨e', he', hf'⟩ := List.mem_filterMap.mp hm'
  obtain ⟨_, L', o', es, n, hf'', hb', _, _⟩ := st.rel.frs e' he'
  rw [hf'] at hf''; cases hf''
  rcases hor with h | h
  ·exact h hb'
  ·exact (st.rel.frn e' he' a hf').1 h
 ·obtain ⟨m, hm, hv⟩ := st.rel.ns
  exact ⟨m, d7 hm fun o ho => k1 _ o ho (.inl (.inr (.inl rfl))), hv⟩
 ·obtain ⟨g1, g2, g3, v, ⟨o, ho, hd⟩, g5⟩ := st.rel.cel p hp
  obtain ⟨o', ho', hs⟩ := k1 _ o ho (.inl (.inr (.inr ⟨p, hp, rfl⟩)))
  refine ⟨g1, g2, g3, v, ⟨o', ho', ?_⟩, g5⟩
  rcases hs with rfl | ⟨_, sl, rfl⟩ <;> exact hd
 ·obtain ⟨_, L', o', es, n, hf', _, ho', hd'⟩ := st.rel.frs e he
  rw [hL] at hf'; cases hf'
  rw [ho] at ho'; cases ho'
  refine k1 L o ho (.inr (.inr ⟨?_, fun vs q => by rw [hd'] at q; cases q⟩))
  obtain ⟨a, oe, vs, t, xs, n', ea', _, _, hoe, _, hd, _⟩ := fl
  intro q
  rw [ea'] at q
  cases q
  rw [ho] at hoe; cases hoe
  rw [hd] at hd'; cases hd'
 ·obtain ⟨o', ho', hs⟩ := st.pres x o hx hn'
  obtain ⟨o'', ho'', hs'⟩ := k3 x o' ho' (by rintro rfl; rw [o3] at hx; cases hx) (by rintro rfl; rw [o4] at hx; cases hx)
  exact ⟨o'', ho'', hs.trans hs'⟩
theorem rF {A : Around} (r : zT prog w ac C ρ σ s) (st : Step prog w ac C ρ σ s aw ae az) {c : V} {as : List V} {e : Value} (fl : cH s.heap (zU C aw) aw c as e az.heap) {Q : Unit → Shared → Prop} {E : Value → Shared → Prop}
  (k : ∀ h', Step prog w ac C ρ σ s aw ae { az with heap := h' } → cH s.heap (zU C aw) aw c as e h' → Q () { az with heap := h' }) :
  wpAny (model prog w) A (setFlight e none) Q E az := by
 obtain ⟨a, oe, vs, t, xs, n, rfl, ha, hao, hoe, hc, hd, h0, ht, hto, htt, has, hv1⟩ := id fl
 have nb : ∀ {x}, s.heap.get? x = none → ac.get? x = none := fun {x} hx => by
  cases q : ac.get? x with
  | none => rfl
  | some o => rw [r.hp.base _ _ q] at hx; cases hx
 unfold setFlight
 rcases hv1 with h | ⟨T, oT, ts, h1, h2, h3, h4, h5, h6, h7⟩
 ·refine wpAny_bind (wpAny_field hoe hd h ?_)
  rw [if_neg (by decide)]
  exact wpAny_pure (k az.heap st fl)
 ·refine wpAny_bind (wpAny_field hoe hd h1 ?_)
  rw [if_pos (by simp)]
  refine wpAny_setField h5 h6 (Array.getElem?_eq_some_iff.mp h7).1 ?_
  have oth : ∀ b, b ≠ T → (az.heap.update T (Obj.mapFields (·.setIfInBounds 3 Value.none))).get? b = az.heap.get? b := fun b hb => Heap.get?_update_other _ _ (Ne.symm hb)
  have hTs := (Array.getElem?_eq_some_iff.mp h7).1
  refine k _ (st.butNew r h3 (fun hm => h4 (.inl hm)) (nb h3) (fun b o hb ho => (oth b hb).trans ho) az.toks) ?_
  refine ⟨a, oe, vs, t, xs, n, rfl, ha, hao, (oth a (Ne.symm h2)).trans hoe, hc, hd, h0, ht, hto, (oth t ?_).trans htt, has, .inr ⟨T, _, _, h1, h2, h3, h4, Heap.get?_update_self _ h5 (Obj.isFreed_of_fields (Obj.data_mapFields h6 _)), Obj.data_mapFields h6 _, by simp [hTs]⟩⟩
  rintro rfl; rw [htt] at h5; cases h5; cases h6
theorem Step.adopt (r : zT prog w ac C ρ σ s) (st : Step prog w ac C ρ σ s aw ae az) {c : V} {as : List V} {a : Addr} (fl : cH s.heap (zU C aw) aw c as (.ref a) az.heap) :
  ∃ t, Step prog w ac C ρ σ s (aw ++ [t, a]) { ae with heap := ae.heap ++ [.tup as, .exc c ae.heap.length] } az ∧ (aw ++ [t, a])[ae.heap.length + 1]? = some a := by
 obtain ⟨a', oe, vs, t, xs, n, e', ha, hao, hoe, hc, hd, h0, ht, hto, htt, has, hv1⟩ := fl
 cases e'
 have nb : ∀ {x}, s.heap.get? x = none → ac.get? x = none := fun {x} hx => by
  cases q : ac.get? x with
  | none => rfl
  | some o => rw [r.hp.base _ _ q] at hx; cases hx
 have hta : t ≠ a := by rintro rfl; rw [htt] at hoe; cases hoe; cases hd
 have hl := st.rel.hp.len
 have lab0 : (aw ++ [t, a])[ae.heap.length]? = some t := by rw [List.getElem?_append_right (by lia), ← hl]; simp
 have lab1 : (aw ++ [t, a])[ae.heap.length + 1]? = some a := by rw [List.getElem?_append_right (by lia), ← hl]; simp
 refine ⟨t, ⟨⟨⟨st.rel.hp.base, by simp [hl], fun l o x h e => ?_, ?_, fun x hx => ?_, fun l es ep x h e => ?_, st.rel.hp.main⟩, ?_, ⟨st.rel.lnew.1, fun hm => ?_⟩, fun p hp => ?_, st.rel.frs, fun e he L hL => ⟨fun hm => ?_, (st.rel.frn e he L hL).2⟩, st.rel.locs⟩, ?_, st.pres, st.loc, st.rest⟩, lab1⟩
 ·by_cases hlt : l < aw.length
  ·rw [List.getElem?_append_left hlt] at e
   rw [List.getElem?_append_left (by lia)] at h
   obtain ⟨ob, g1, g2⟩ := st.rel.hp.obj l o x h e
   exact ⟨ob, g1, g2.mono⟩
  ·rw [List.getElem?_append_right (by lia)] at h
   have : l = ae.heap.length ∨ l = ae.heap.length + 1 := by
    have := (List.getElem?_eq_some_iff.mp e).1
    simp at this; lia
   rcases this with rfl | rfl
   ·simp at h; subst h
    rw [lab0] at e; cases e
    exact ⟨_, htt, xs, n, rfl, has.mono⟩
   ·simp at h; subst h
    rw [lab1] at e; cases e
    exact ⟨_, hoe, t, vs, hc.mono, lab0, hd, h0⟩
 ·refine List.nodup_append.mpr ⟨st.rel.hp.nodup, by simp [hta], fun x hx y hy => ?_⟩
  simp at hy
  rcases hy with rfl | rfl
  ·rintro rfl; exact hto (.inl hx)
  ·rintro rfl; exact hao (.inl hx)
 ·rcases List.mem_append.mp hx with h | h
  ·exact st.rel.hp.new x h
  ·simp at h
   rcases h with rfl | rfl
   ·exact nb ht
   ·exact nb ha
 ·by_cases hlt : l < aw.length
  ·rw [List.getElem?_append_left hlt] at e
   rw [List.getElem?_append_left (by lia)] at h
   exact st.rel.hp.sys l es ep x h e
  ·rw [List.getElem?_append_right (by lia)] at h
   have : l = ae.heap.length ∨ l = ae.heap.length + 1 := by
    have := (List.getElem?_eq_some_iff.mp e).1
    simp at this; lia
   rcases this with rfl | rfl <;> simp at h
 ·obtain ⟨m, hm, hv⟩ := st.rel.ns
  exact ⟨m, hm, fun p hp => (hv p hp).mono⟩
 ·rcases List.mem_append.mp hm with h | h
  ·exact st.rel.lnew.2 h
  ·simp at h
   rcases h with h | h
   ·exact hto (.inr (.inl h.symm))
   ·exact hao (.inr (.inl h.symm))
 ·obtain ⟨g1, g2, g3, v, g4, g5⟩ := st.rel.cel p hp
  refine ⟨g1, fun hm => ?_, g3, v, g4, g5.mono⟩
  rcases List.mem_append.mp hm with h | h
  ·exact g2 h
  ·simp at h
   rcases h with h | h
   ·exact hto (.inr (.inr ⟨p, hp, h⟩))
   ·exact hao (.inr (.inr ⟨p, hp, h⟩))
 ·obtain ⟨_, L', o', es, k, hf', _, ho', hd'⟩ := st.rel.frs e he
  rw [hL] at hf'; cases hf'
  rcases List.mem_append.mp hm with h | h
  ·exact (st.rel.frn e he L hL).1 h
  ·simp at h
   rcases h with rfl | rfl
   ·rw [ho'] at htt; cases htt; cases hd'
   ·rw [ho'] at hoe; cases hoe; rw [hd'] at hd; cases hd
 ·obtain ⟨m, e1, n1⟩ := st.ext
  refine ⟨m ++ [t, a], by rw [e1, List.append_assoc], fun x hx => ?_⟩
  rcases List.mem_append.mp hx with h | h
  ·exact n1 x h
  ·simp at h
   rcases h with rfl | rfl
   ·exact ht
   ·exact ha
end
noncomputable def Cx.marked (C : Cx) (e : Addr) : Cx := { C with A := C.A.mark (some (.ref e)) }
section
variable {prog : Program} {w : World} {ac : Heap} {C : Cx} {mg mb : Str → Option Value} {ρ aw aK : List Addr} {σ ae aq : St} {s az aT : Shared} {e : Addr}
theorem Cx.Ok.marked (ok : C.Ok) (e : Addr) : (C.marked e).Ok := ⟨ok.fr, ok.kind, ok.glob, ok.bltn, ok.frame, ok.loc, ok.cel, ok.depth, ok.units, ok.uni, ok.unc, ok.dis⟩
theorem zT.marked (r : zT prog w ac C ρ σ s) (e : Addr) : zT prog w ac (C.marked e) ρ σ s := ⟨r.hp, r.ns, r.lnew, r.cel, r.frs, r.frn, r.locs⟩
theorem zT.unmarked (r : zT prog w ac (C.marked e) ρ σ s) : zT prog w ac C ρ σ s := ⟨r.hp, r.ns, r.lnew, r.cel, r.frs, r.frn, r.locs⟩
theorem Step.unmarked (st : Step prog w ac (C.marked e) ρ σ s aw ae az) : Step prog w ac C ρ σ s aw ae az := ⟨st.rel.unmarked, st.ext, st.pres, st.loc, st.rest⟩
noncomputable abbrev zY := V → List V → St → zV F
noncomputable def uN (prog : Program) (w : World) (ac : Heap) (C : Cx) (hd : zY) (hs : List ExceptHandler) : Prop := ∀ ρ σ s aw ae az c as e, zT prog w ac C ρ σ s → Step prog w ac C ρ σ s aw ae az → cH s.heap (zU C aw) aw c as e az.heap → hd c as ae ≠ .bad → wpAny (model prog w) C.A (handleBy e C.env hs) (zW prog w ac C FR ρ σ s (hd c as ae)) (z3 prog w ac C ρ σ s (hd c as ae)) az
noncomputable def lQ (m : St → zV F) (hd : zY) : St → zV F := fun σ => match m σ with
 | .exc c as σ' => hd c as σ'
 | o => o
theorem jx (ok : C.Ok) {m : St → zV F} {hd : zY} {body : List Stmt} {bG : ExceptHandler} {hs : List ExceptHandler} {pos : Pos} (hb : fW prog w ac C m body) (hh : uN prog w ac C hd (bG :: hs)) :
  gL prog w ac C (lQ m hd) (.Try body (bG :: hs) [] [] pos) := by
 intro ρ σ s r hn
 obtain ⟨_, L, _, _, _, hL, _⟩ := r.frs C.fenv (.head _)
 unfold lQ at hn ⊢
 refine wpAny_Try_except (wpAny_mono (hb.at r fun q => hn (by rw [q])) (fun f az h => ?_) fun e az h => ?_)
 ·cases q : m σ with
  | ok f' ae =>
   rw [q] at h
   obtain ⟨aw, vf, st⟩ := h
   cases f' with
   | next => cases vf; exact wpAny_execs_nil (zu rfl st)
   | brk => cases vf; exact zu rfl st
   | cont => cases vf; exact zu rfl st
   | ret v => obtain ⟨x, rfl, hv⟩ := vf; exact zu ⟨x, rfl, hv⟩ st
  | exc => rw [q] at h; exact h.elim
  | bad => rw [q] at h; exact h.elim
 ·cases q : m σ with
  | exc c as ae =>
   rw [q] at h hn
   obtain ⟨aw, fl, st⟩ := h
   exact wE ok r hL st fl fun h' st' fl' => hh ρ σ s aw ae { az with heap := h' } c as e r st' fl' hn
  | ok => rw [q] at h; exact h.elim
  | bad => rw [q] at h; exact h.elim
noncomputable def nf (K : Frag) (cv : Value) (tbl : List (V × Bool)) : Prop := ∀ p ∈ tbl, ∃ x, (∀ ρ y, VR ρ p.1 y → y = x) ∧ exmOne K x cv = some p.2
noncomputable def gk (tbl : List (V × Bool)) (yes no : zY) : zY := fun c as σ => match tbl.lookup c with
 | some true => yes c as σ
 | some false => no c as σ
 | none => .bad
noncomputable def kS (m : St → zV F) : zY := fun _ _ σ => (m σ).calm
noncomputable def asH (i : Nat) (m : St → zV F) : zY := fun c as σ => (m { loc := σ.loc.set i (some (.ref (σ.heap.length + 1))), heap := σ.heap ++ [.tup as, .exc c σ.heap.length] }).calm.bind fun f aq => .ok f { aq with loc := aq.loc.set i none }
noncomputable def uF : zY := fun _ _ _ => .bad
theorem gR {hs : List ExceptHandler} : uN prog w ac C uF hs := fun _ _ _ _ _ _ _ _ _ _ _ _ hb => absurd rfl hb
noncomputable def wN (prog : Program) (w : World) (ac : Heap) (C : Cx) (hd : zY) (name : Option Str) (cR : Stmt) (suite : List Stmt) (pos : Pos) : Prop :=
 ∀ ρ σ s aw ae az c as e, zT prog w ac C ρ σ s → Step prog w ac C ρ σ s aw ae az → cH s.heap (zU C aw) aw c as (.ref e) az.heap → hd c as ae ≠ .bad →
  codeAny (model prog w) (C.A.mark (some (.ref e))) (.handlers (.ref e) [.ExceptHandler none name (cR :: suite) pos] C.env) (fun r aT => match r with
   | .ok f => (match name with
    | none => zW prog w ac C FR ρ σ s (hd c as ae) f aT
    | some n => wpAny (model prog w) C.A (do bindName C.env n .none; unbindBehindTheSuite C.env n pos) (fun _ bF => zW prog w ac C FR ρ σ s (hd c as ae) f bF) (z3 prog w ac C ρ σ s (hd c as ae)) aT)
   | .error x => cameBackBy (model prog w) C.A C.env (z3 prog w ac C ρ σ s (hd c as ae)) x aT) az
theorem kI (ok : C.Ok) {K : Frag} (X : K.In ac) {cv : Value} {cl : V} {tbl : List (V × Bool)} (P : nf K cv tbl) {yes no : zY} {t : Expr} {name : Option Str} {cR : Stmt} {suite : List Stmt} {pos : Pos} {rest : List ExceptHandler}
  (ht : ∀ C' : Cx, C'.Ok → C'.env = C.env → bi prog w ac C' (aa cl) (eval t C'.env)) (hv : ∀ ρ x, VR ρ cl x → x = cv)
  (hy : wN prog w ac C yes name cR suite pos) (hno : uN prog w ac C no rest) : uN prog w ac C (gk tbl yes no) (.ExceptHandler (some t) name (cR :: suite) pos :: rest) := by
 intro ρ σ s aw ae az c as e r st fl hn
 obtain ⟨a, oe, vs, t', xs, n, rfl, ha, hao, hoe, hc, hd, h0, ht', hto, htt, has, hv1⟩ := id fl
 refine wpAny_handleBy_cons (codeAny_handlers_test ?_) (by intro q; cases q)
 have hev := ht (C.marked a) (ok.marked a) rfl
 refine At.calm (C := C.marked a) (o := aa cl ae) (hev.at (st.rel.marked a)) (by unfold aa; simp) fun b aq aK aT cv' jR vb aJ => ?_
 cases jR
 cases hv _ _ vb
 have aJ := aJ.unmarked
 have stt := st.trans aJ
 have fl2 := fl.on aJ
 obtain ⟨a', oe', vs', t2, xs', n', e', _, _, hoe', hc', hd', _⟩ := id fl2
 cases e'
 unfold gk at hn ⊢
 cases q : tbl.lookup c with
 | none => rw [q] at hn; exact absurd rfl hn
 | some b =>
  rw [q] at hn
  obtain ⟨x, hx1, hx2⟩ : ∃ x, (∀ ρ y, VR ρ c y → y = x) ∧ exmOne K x cv = some b := by
   obtain ⟨p, hp, e1, e2⟩ : ∃ p ∈ tbl, p.1 = c ∧ p.2 = b := by
    clear P hn fl fl2 hc hc'
    induction tbl with
    | nil => cases q
    | cons p l ih =>
     rw [show p = (p.1, p.2) from rfl, List.lookup_cons] at q
     cases hcp : c == p.1 with
     | true => rw [hcp] at q; cases q; exact ⟨p, .head _, (beq_iff_eq.mp hcp).symm, rfl⟩
     | false => rw [hcp] at q; obtain ⟨p', h1, h2⟩ := ih q; exact ⟨p', .tail _ h1, h2⟩
   have := P p hp
   rw [e1, e2] at this
   exact this
  have hcls := hx1 _ _ hc'
  have LT : Looks (model prog w) aT.heap (typeOf (.ref a)) x := by
   rw [← hcls]
   exact (Looks.ld (part := none) hoe').andThen .now
  refine (exm_one (X.keeps stt.rel.hp.base) LT hx2).here ?_
  cases b with
  | true => exact hy ρ σ s aK _ aT c as a r stt fl2 hn
  | false => exact hno ρ σ s aK _ aT c as (.ref a) r stt fl2 hn
theorem qt (ok : C.Ok) {m : St → zV F} {cR : Stmt} {suite : List Stmt} {pos : Pos} (hm : ∀ C' : Cx, C'.Ok → C'.env = C.env → C'.vars = C.vars → C'.cells = C.cells → C'.k = C.k → fW prog w ac C' m (cR :: suite)) : wN prog w ac C (kS m) none cR suite pos := by
 intro ρ σ s aw ae az c as e r st fl hn
 refine codeAny_handlers_suite (rF r st fl fun h' st' fl' => ?_)
 unfold kS at hn ⊢
 refine At.calm (C := C.marked e) ((hm (C.marked e) (ok.marked e) rfl rfl rfl rfl).at (st'.rel.marked e)) hn fun f aq aK aT f' jR vf aJ => ?_
 rw [jR]
 exact zu vf (st'.trans aJ.unmarked)
theorem vD (ok : C.Ok) {m : St → zV F} {n : Str} {i : Nat} (hx : (n, i) ∈ C.vars) {cR : Stmt} {suite : List Stmt} {pos : Pos} (hm : ∀ C' : Cx, C'.Ok → C'.env = C.env → C'.vars = C.vars → C'.cells = C.cells → C'.k = C.k → fW prog w ac C' m (cR :: suite)) : wN prog w ac C (asH i m) (some n) cR suite pos := by
 intro ρ σ s aw ae az c as e r st fl hn
 refine codeAny_handlers_suite_as (rF r st fl fun h' st' fl' => ?_)
 obtain ⟨t, st2, lab⟩ := st'.adopt r fl'
 have okm := ok.marked e
 have hx' : (n, i) ∈ (C.marked e).vars := hx
 have ha : VR (aw ++ [t, e]) (.ref (ae.heap.length + 1)) (.ref e) := ⟨e, lab, rfl⟩
 refine At.calm (C := C.marked e) (o := ao i (.ref (ae.heap.length + 1)) { ae with heap := ae.heap ++ [.tup as, .exc c ae.heap.length] }) (dW okm hx' _ _ _ _ _ (st2.rel.marked e) ha) (by unfold ao; simp) fun _ aS b0 bF _ e₃ _ b9 => ?_
 cases e₃
 unfold asH at hn ⊢
 have stt := st2.trans b9.unmarked
 refine At.calm (C := C.marked e) ((hm (C.marked e) okm rfl rfl rfl rfl).at (stt.rel.marked e)) (fun q => hn (by rw [q]; rfl)) fun f cg iV j9 f' e₄ vf iW => ?_
 rw [e₄, zV.bind_ok]
 have st5 := stt.trans iW.unmarked
 obtain ⟨mm, hmm, hv⟩ := st5.rel.ns
 refine wpAny_nameGoes_keeps (ok.loc _ hx) hmm (by rw [ok.kind]; rfl) fun h'' v hn' hs => ?_
 have hi : i ∈ C.idx := by unfold Cx.idx; exact List.mem_append_left _ (List.mem_map.mpr ⟨_, hx, rfl⟩)
 have hil := st5.rel.locs i hi
 have setn : ∀ j, ((cg.loc.set i none)[j]?).join = if i = j then none else (cg.loc[j]?).join := fun j => by
  rw [List.getElem?_set]
  by_cases e : i = j
  ·subst e; simp [hil]
  ·simp [e]
 have ot : ∀ {b : Addr}, b ≠ C.env.locals → h''.get? b = j9.heap.get? b := fun hb => hs.2 _ hb
 have r5 := st5.rel
 have st6 : Step prog w ac C iV cg j9 iV { cg with loc := cg.loc.set i none } { j9 with heap := h'', toks := j9.toks + 1 } := by
  refine ⟨⟨⟨fun b o e => (ot (by rintro rfl; rw [r5.lnew.1] at e; cases e)).trans (r5.hp.base b o e), r5.hp.len, fun l o a h e => ?_, r5.hp.nodup, r5.hp.new, r5.hp.sys, r5.hp.main⟩, ⟨_, hn', fun p hp => ?_⟩, r5.lnew, fun p hp => ?_, ?_, r5.frn, fun j hj => by simpa using r5.locs j hj⟩,
   ⟨[], by simp, by simp⟩, fun b o e hb => ⟨o, (ot fun q => hb (.inr (.inl q))).trans e, .refl o⟩, fun j hj => ?_, ⟨rfl, rfl, rfl⟩⟩
  ·obtain ⟨ob, h1, h2⟩ := r5.hp.obj l o a h e
   exact ⟨ob, (ot (by rintro rfl; exact r5.lnew.2 (List.mem_of_getElem? e))).trans h1, h2⟩
  ·have := hv p hp
   have hu := ok.uni (n, i) hx p hp
   dsimp only at hu ⊢
   rw [setn]
   by_cases e : i = p.2
   ·rw [if_pos e]; trivial
   ·rw [if_neg e, if_neg fun q => e (hu.mp q.symm)]
    exact this
  ·obtain ⟨g1, g2, g3, v0, ⟨o, ho, hd⟩, g5⟩ := r5.cel p hp
   refine ⟨g1, g2, g3, v0, ⟨o, (ot g3).trans ho, hd⟩, ?_⟩
   dsimp only
   rw [setn, if_neg (ok.dis (n, i) hx p hp)]
   exact g5
  ·intro e he
   obtain ⟨hk, L, o, es, n', hf, hb, ho, hd⟩ := r5.frs e he
   by_cases hL : L = C.env.locals
   ·subst hL
    obtain ⟨o', es', ep', ho', hd', _⟩ := hn'
    exact ⟨hk, _, o', es', ep', hf, hb, ho', hd'⟩
   ·exact ⟨hk, L, o, es, n', hf, hb, (ot hL).trans ho, hd⟩
  ·dsimp only
   rw [List.getElem?_set_ne]
   rintro rfl; exact hj hi
 have st7 := st5.trans st6
 cases f with
 | next => cases vf; exact zu rfl st7
 | brk => cases vf; exact zu rfl st7
 | cont => cases vf; exact zu rfl st7
 | ret v => obtain ⟨x, rfl, hv'⟩ := vf; exact zu ⟨x, rfl, hv'⟩ st7
end
section
variable {prog : Program} {w : World} {ac : Heap} {C : Cx} {mg mb : Str → Option Value} {ρ cu aw aK : List Addr} {σ ct ae aq : St} {s bg az aT : Shared}
noncomputable def za : List (V → St → zV Unit) → List V → St → zV Unit
 | [], [], σ => .ok () σ
 | t :: ts, x :: xs, σ => (t x σ).bind fun _ ae => za ts xs ae
 | _, _, _ => .bad
noncomputable def nc (prog : Program) (w : World) (ac : Heap) (C : Cx) : List (V → St → zV Unit) → List (Value → Sem Unit) → Prop
 | [], [] => True
 | f :: fs, t :: ts => t6 prog w ac C fX f t ∧ nc prog w ac C fs ts
 | _, _ => False
theorem uG : ∀ {fs : List (V → St → zV Unit)} {ts : List (Value → Sem Unit)} {vs : List V} {xs : List Value} {ρ : List Addr} {σ : St} {s : Shared}, nc prog w ac C fs ts → zT prog w ac C ρ σ s → bL ρ vs xs → At prog w ac C fX ρ σ s (za fs vs σ) (assignInOrder ts xs)
 | [], [], [], _, ρ, σ, s, _, r, ha, _ => by cases ha; exact wpAny_pure (zu trivial (.refl r))
 | [], [], _ :: _, _, _, _, _, _, _, _, hn => absurd rfl hn
 | _ :: _, _ :: _, [], _, _, _, _, _, _, _, hn => absurd rfl hn
 | f :: fs, t :: ts, v :: vs, _, ρ, σ, s, ⟨h1, h2⟩, r, ⟨x, xs, e, hv, hr⟩, hn => by
  subst e
  show wpAny _ _ (holding xs (t x) >>= _) _ _ s
  refine wpAny_bind (wpAny_holding (At.next (h1 ρ σ s v x r hv) rfl hn fun _ ae aw az _ _ _ au e => ?_))
  rw [e] at hn ⊢
  exact (uG h2 au.rel (au.all hr)).trans au hn
 | [], _ :: _, _, _, _, _, _, h, _, _, _ => h.elim
 | _ :: _, [], _, _, _, _, _, h, _, _, _ => h.elim
theorem nc.len : ∀ {fs : List (V → St → zV Unit)} {ts : List (Value → Sem Unit)}, nc prog w ac C fs ts → fs.length = ts.length
 | [], [], _ => rfl
 | _ :: _, _ :: _, ⟨_, h⟩ => by simp [nc.len h]
 | [], _ :: _, h => h.elim
 | _ :: _, [], h => h.elim
noncomputable def pJ (fs : List (V → St → zV Unit)) (v : V) (σ : St) : zV Unit := gt v σ.heap fun _ xs => if xs.length = fs.length then za fs xs σ else .bad
theorem uV (hh : C.A.handled = none) {fs : List (V → St → zV Unit)} {elts : List Expr} {k : Nat} {pos : Pos} (hs : (assignEach elts C.env).findIdx? (·.1) = none) (ht : nc prog w ac C fs ((assignEach elts C.env).map (·.2))) : j4 prog w ac C (pJ fs) (.Tuple elts k pos) := fun ρ σ s v v' r hv => tZ (t := fun v' => assign (.Tuple elts k pos) C.env v') r.hp hv fun l a xs vs n hl q h1 hvs => a8 fun hlen hn => by
 have il : IsTup s.heap a vs.toArray := ⟨_, h1, rfl, n, rfl⟩
 rw [assign_Tuple]
 refine wpAny_bind (wpAny_standAt ?_)
 unfold PySem.unpack
 rw [hs]
 have e : (assignEach elts C.env).length = vs.toArray.size := by
  have := ht.len
  simp only [List.length_map] at this
  simp [hvs.length, hlen, this]
 rw [e]
 refine wpAny_bind (wpAny_holding (unpackItems_tuple hh il fun h' hx => ?_))
 have st1 : Step prog w ac C ρ σ s ρ σ { s with heap := h' } := r.keep (fun b o e => hx b o (Nat.ne_of_lt (Heap.lt_size e)) e) ⟨rfl, rfl, rfl⟩
 exact (uG ht st1.rel hvs).trans st1 hn
theorem Step.butN {N : Addr → Prop} (st : Step prog w ac C cu ct bg aw ae az) (ez : zT prog w ac C cu ct bg) {h' : Heap} (hN : ∀ I, N I → bg.heap.get? I = none ∧ I ∉ aw) (e : ∀ b o, ¬ N b → az.heap.get? b = some o → h'.get? b = some o) (tk : Nat) :
  Step prog w ac C cu ct bg aw ae { az with heap := h', toks := tk } := by
 have alive : ∀ {a : Addr}, bg.heap.get? a ≠ none → ¬ N a := fun h q => h (hN _ q).1
 refine ⟨⟨⟨fun b o' q => e b o' (alive (by rw [ez.hp.base b o' q]; simp)) (st.rel.hp.base b o' q), st.rel.hp.len, fun l o' a h1 h2 => ?_, st.rel.hp.nodup, st.rel.hp.new, st.rel.hp.sys, st.rel.hp.main⟩, ?_, st.rel.lnew, fun p hp => ?_, fun en he => ?_, st.rel.frn, st.rel.locs⟩,
  st.ext, fun a o' h1 h2 => ?_, st.loc, st.rest⟩
 ·obtain ⟨ob, h3, h4⟩ := st.rel.hp.obj l o' a h1 h2
  exact ⟨ob, e a ob (fun q => (hN _ q).2 (List.mem_of_getElem? h2)) h3, h4⟩
 ·obtain ⟨m, ⟨o', es, ep, h3, h4, h5⟩, hv⟩ := st.rel.ns
  exact ⟨m, ⟨o', es, ep, e _ _ (alive (bo ez _ (.inr (.inl rfl)))) h3, h4, h5⟩, hv⟩
 ·obtain ⟨g1, g2, g3, v, ⟨o', h3, h4⟩, g5⟩ := st.rel.cel p hp
  exact ⟨g1, g2, g3, v, ⟨o', e _ _ (alive (bo ez _ (.inr (.inr ⟨p, hp, rfl⟩)))) h3, h4⟩, g5⟩
 ·obtain ⟨hk, L, o', es, n, hf, hb', h3, h4⟩ := st.rel.frs en he
  obtain ⟨_, L0, o0, _, _, hf0, _, h0, _⟩ := ez.frs en he
  rw [hf] at hf0; cases hf0
  exact ⟨hk, L, o', es, n, hf, hb', e _ _ (alive (by rw [h0]; simp)) h3, h4⟩
 ·obtain ⟨o'', h3, h4⟩ := st.pres a o' h1 h2
  exact ⟨o'', e a o'' (alive (by rw [h1]; simp)) h3, h4⟩
noncomputable def dC (tk tx : V → St → zV Unit) (body els : St → zV F) (src : Option (Nat × O)) : Nat → List V → St → zV F
 | _, [], σ => if dL src σ.heap then (els σ).calm else .bad
 | i, x :: xs, σ => if dL src σ.heap then (tk (.int i) σ).calm.bind fun _ ae => (tx x ae).calm.bind fun _ aq => (body aq).calm.bind fun f aS => match f with
   | .next | .cont => dC tk tx body els src (i + 1) xs aS
   | .brk => .ok .next aS
   | .ret v => .ok (.ret v) aS else .bad
noncomputable def rk (mi : St → zV V) (tk tx : V → St → zV Unit) (body els : St → zV F) : St → zV F := fun σ => (mi σ).bind fun v ae => gl v ae.heap fun l xs => dC tk tx body els (some (l, .list xs)) 0 xs ae
theorem pz {A : Around} (hh : A.handled = none) {elts : List Expr} {kk : Nat} {tp : Pos} {env : Env} {t1 t2 : Value → Sem Unit} {a : Addr} {x y : Value} {s : Shared} {Q : Unit → Shared → Prop} {E : Value → Shared → Prop} (hte : assignEach elts env = [(false, t1), (false, t2)]) (htup : IsTup s.heap a #[x, y])
  (k : ∀ h4, (∀ b o, b ≠ s.heap.objs.size → s.heap.get? b = some o → h4.get? b = some o) → wpAny (model prog w) A (t1 x) (fun _ s1 => wpAny (model prog w) A (t2 y) (fun _ s2 => Q () s2) E s1) E { s with heap := h4 }) : wpAny (model prog w) A (assign (.Tuple elts kk tp) env (.ref a)) Q E s := by
 rw [assign_Tuple]
 refine wpAny_bind (wpAny_standAt ?_)
 unfold PySem.unpack
 rw [hte, show List.findIdx? (fun x => x.1) ([(false, t1), (false, t2)] : List (Bool × (Value → Sem Unit))) = none from rfl, show ([(false, t1), (false, t2)] : List (Bool × (Value → Sem Unit))).length = (#[x, y] : Array Value).size from rfl]
 refine wpAny_bind (wpAny_holding (unpackItems_tuple hh htup fun h4 hx4 => ?_))
 show wpAny _ _ (holding [y] (t1 x) >>= fun _ => (holding [] (t2 y) >>= fun _ => pure ())) _ _ _
 exact wpAny_bind (wpAny_holding (wpAny_mono (k h4 hx4) (fun _ s1 h => wpAny_bind (wpAny_holding (wpAny_mono h (fun _ s2 h => wpAny_pure h) fun _ _ h => h))) fun _ _ h => h))
inductive EnI (prog : Program) (w : World) (ac : Heap) (C : Cx) (ρ : List Addr) (σ : St) (bg : Shared) (e it a : Addr) (ys : List V) (N : Nat → List V → St → zV F) (v : zV F) (k : Nat) (s' : Shared) : Prop
 | mk (ρ' : List Addr) (σ' : St) (i : Nat) (old : Value) (xs : List V) (st : Step prog w ac C ρ σ bg ρ' σ' s') (hE : IsEnum s'.heap e it (i : Int) old) (hI : s'.heap.IsListIter it a i) (hd : ys.drop i = xs) (he : e ∉ ρ') (hi : it ∉ ρ') (hk : k = xs.length) (hf : N i xs σ' = v)
theorem t5 (ok : C.Ok) (hh : C.A.handled = none) {tk tx : V → St → zV Unit} {body els : St → zV F} {elts : List Expr} {kk : Nat} {tp : Pos} {b z : List Stmt} {t1 t2 : Value → Sem Unit} (hte : assignEach elts C.env = [(false, t1), (false, t2)]) (h1t : t6 prog w ac C fX tk t1) (h2t : t6 prog w ac C fX tx t2)
  (hb : fW prog w ac C body b) (he : fW prog w ac C els z)
  {e it a : Addr} {l : Nat} {ys : List V} {ρ : List Addr} {σ : St} {bg s : Shared} (ez : zT prog w ac C ρ σ bg) (st : Step prog w ac C ρ σ bg ρ σ s) (hE : IsEnum s.heap e it 0 .none) (hI : s.heap.IsListIter it a 0) (hsrc : jZ (some (l, .list ys)) a ρ σ.heap)
  (hei : e ≠ it) (heρ : e ∉ ρ) (hiρ : it ∉ ρ) (he0 : bg.heap.get? e = none) (hi0 : bg.heap.get? it = none) {v : zV F} (hf : dC tk tx body els (some (l, .list ys)) 0 ys σ = v) (hn : v ≠ .bad) :
  codeAny (model prog w) C.A (.forLoop (.Tuple elts kk tp) (.ref e) b z C.env) (fun r s' => ∃ f, r = .ok f ∧ zW prog w ac C FR ρ σ bg v f s') s := by
 refine codeAny_forLoop_any (I := EnI prog w ac C ρ σ bg e it a ys (dC tk tx body els (some (l, .list ys))) v)
  (fun k s' ⟨ρ', σ', i, old, xs, st', hE', hI', hd, heρ', hiρ', hk, hf⟩ => ?_) ys.length ⟨ρ, σ, 0, .none, ys, st, hE, hI, rfl, heρ, hiρ, rfl, hf⟩
 have ext : ∃ more, ρ' = ρ ++ more := let ⟨m, e, _⟩ := st'.ext; ⟨m, e⟩
 have hNN : ∀ I, (I = e ∨ I = it) → bg.heap.get? I = none ∧ I ∉ ρ' := fun I h => h.elim (fun h => h ▸ ⟨he0, heρ'⟩) fun h => h ▸ ⟨hi0, hiρ'⟩
 cases xs with
 | nil =>
  obtain ⟨hs, hf⟩ := fp hf hn
  obtain ⟨g1, g2⟩ := (hsrc.ext ext (eT hs)) l (.list ys) rfl
  obtain ⟨ob, g3, vs, n, rfl, hv⟩ := st'.rel.hp.obj _ _ _ g1 g2
  refine wpAny_pyNext_enum_end hh hE' hI' ⟨_, g3, rfl, n, rfl⟩ (by have := eY hd; simp [hv.length]; exact this) fun h' hx => ?_
  have st1 := st'.butN (N := fun I => I = e ∨ I = it) ez hNN (h' := h') (fun b o hb ho => hx b o (fun q => hb (.inr q)) ho) s'.toks
  exact (he.at st1.rel).calm (fun q => hn (hf.symm.trans q)) fun f aq aK aT f' jR vf aJ => ⟨_, rfl, (jR.symm.trans hf) ▸ zu vf (st1.trans aJ)⟩
 | cons y xs =>
  obtain ⟨hs, hf⟩ := fp hf hn
  obtain ⟨g1, g2⟩ := (hsrc.ext ext (eT hs)) l (.list ys) rfl
  obtain ⟨ob, g3, vs, n, rfl, hv⟩ := st'.rel.hp.obj _ _ _ g1 g2
  obtain ⟨d1, d2, d3⟩ := dS hd
  obtain ⟨v', hv1, hv2⟩ := hv.get d1
  refine wpAny_pyNext_enum_item hE' hI' ⟨_, g3, rfl, n, rfl⟩ (x := v') (by simpa using hv1) hei fun h2 heo hit2 htup hsz hk2 => ?_
  have sta := st'.butN (N := fun I => I = e ∨ I = it) ez hNN (h' := h2) (fun b o hb ho => hk2 b o (fun q => hb (.inl q)) (fun q => hb (.inr q)) ho) (s'.toks + 1)
  refine wpAny_letOwnedTupleGo_enum heo fun h3 hE3 hs3 => ?_
  have stb := sta.butN (N := fun I => I = e ∨ I = it) ez hNN (h' := h3) (fun b o hb ho => (hs3.2 b (fun q => hb (.inl q))).trans ho) (s'.toks + 1)
  refine pz hh hte (x := .int i s'.toks) (y := v') ⟨_, (hs3.2 _ (Nat.ne_of_gt (Heap.lt_size hE'))).trans htup, rfl, _, rfl⟩ fun h4 hx4 => ?_
  have old4 : ∀ b o, h3.get? b = some o → h4.get? b = some o := fun b o e => hx4 b o (Nat.ne_of_lt (Heap.lt_size e)) e
  have stc := stb.trans (stb.rel.keep (s' := { s' with heap := h4, toks := s'.toks + 1 }) old4 ⟨rfl, rfl, rfl⟩)
  have hE4 := old4 _ _ hE3
  have hI4 : h4.IsListIter it a (i + 1) := (hit2.at fun o ho => (hs3.2 it (Ne.symm hei)).trans ho).at fun o ho => old4 it o ho
  have vk : VR ρ' (.int i) (.int i s'.toks) := ⟨_, rfl⟩
  refine At.calmF (h1t ρ' σ' _ _ _ stc.rel vk) hf hn fun _ ae aw az _ _ au hf => ?_
  refine At.calmF (h2t aw ae _ _ _ au.rel (au.vr hv2)) hf hn fun _ aq aK aT _ _ aJ hf => ?_
  refine (hb.at aJ.rel).calmF hf hn fun f aS b0 bF f' vf b9 hf => ?_
  have s123 := (au.trans aJ).trans b9
  have stt := stc.trans s123
  have nx : dC tk tx body els (some (l, .list ys)) (i + 1) xs aS = v → ∃ k', k' < k ∧ EnI prog w ac C ρ σ bg e it a ys (dC tk tx body els (some (l, .list ys))) v k' bF := fun hf => by
   obtain ⟨oi4, hoi4, hci4, hdi4⟩ := id hI4
   obtain ⟨k1, k2⟩ := s123.same stc.rel heρ' hE4 rfl
   obtain ⟨k3, k4⟩ := s123.same stc.rel hiρ' hoi4 hdi4
   exact ⟨_, hk ▸ Nat.lt_succ_self _, b0, aS, i + 1, v', xs, stt, k1.trans hE4, hI4.at fun o ho => k3.trans ho, d2, k2, k4, rfl, hf⟩
  cases f with
  | next => cases vf; exact nx hf
  | cont => cases vf; exact nx hf
  | brk => cases vf; exact ⟨_, rfl, hf ▸ zu rfl stt⟩
  | ret v => exact match vf with | ⟨x, e, hv'⟩ => e ▸ ⟨_, rfl, hf ▸ zu ⟨x, rfl, hv'⟩ stt⟩
theorem qf (ok : C.Ok) (hh : C.A.handled = none) {mi : St → zV V} {tk tx : V → St → zV Unit} {body els : St → zV F} {elts : List Expr} {kk : Nat} {tp np cpos pos : Pos} {x : Str} {arg : Expr} {b z : List Stmt} {t1 t2 : Value → Sem Unit} (hte : assignEach elts C.env = [(false, t1), (false, t2)]) (h1t : t6 prog w ac C fX tk t1) (h2t : t6 prog w ac C fX tx t2)
  (hn0 : bi prog w ac C (aa (.type "enumerate")) (eval (.Name x np) C.env)) (ha : bi prog w ac C mi (eval arg C.env)) (hse : starEach [arg] C.env = [(false, eval arg C.env)])
  (hb : fW prog w ac C body b) (he : fW prog w ac C els z) (hs : ∀ x', foldedSetIterable (.Call (.Name x np) [arg] [] cpos) C.env x' = pure x') :
  gL prog w ac C (rk mi tk tx body els) (.For (.Tuple elts kk tp) (.Call (.Name x np) [arg] [] cpos) b z pos) := by
 intro ρ σ s r hn
 refine wpAny_For (wpAny_Call_ofName (At.next (f := fun _ ae => rk mi tk tx body els ae) (hn0.at r) rfl hn fun a ae aw az a' mM va au e => ?_)) hs
 cases mM
 cases va
 rw [e] at hn ⊢
 rw [hse]
 refine PySem.callWith_type rfl (Calls.evalArgs_plain (spliced_cons ((ha.at au.rel).then au rfl hn fun v aq aK aT v' _ vv aJ st e => spliced_nil ?_)))
 rw [e] at hn ⊢
 obtain ⟨l, ys, rfl, q⟩ := yj hn
 obtain ⟨a, hl, rfl⟩ := vv
 have eg : gl (.ref l) aq.heap (fun l xs => dC tk tx body els (some (l, .list xs)) 0 xs aq) = dC tk tx body els (some (l, .list ys)) 0 ys aq := iD (k := fun l o => gO (zK o) fun xs => dC tk tx body els (some (l, .list xs)) 0 xs aq) q
 rw [eg] at hn ⊢
 obtain ⟨ob, h1, vs, n, rfl, hv⟩ := st.rel.hp.obj _ _ _ q hl
 have il : aT.heap.IsList a vs.toArray := ⟨_, h1, rfl, n, rfl⟩
 refine call_enumerate_list il fun h' hE hI hsz hk => ?_
 have st3 : Step prog w ac C aK aq aT aK aq { aT with heap := h' } := st.rel.keep hk ⟨rfl, rfl, rfl⟩
 refine wpAny_pyIter_enum hE ?_
 have z1 : aT.heap.get? (aT.heap.objs.size + 1) = none := Heap.get?_none_of_le (Nat.le_succ _)
 have z0 : aT.heap.get? aT.heap.objs.size = none := Heap.get?_none_of_le (Nat.le_refl _)
 have nρ : ∀ {x}, aT.heap.get? x = none → x ∉ aK := fun hx hm => bo st.rel _ (.inl hm) hx
 refine codeAny_mono (t5 ok hh hte h1t h2t hb he st.rel st3 hE hI (fun l' o' e' => by cases e'; exact ⟨q, hl⟩) (Nat.succ_ne_self _) (nρ z1) (nρ z0) z1 z0 rfl hn) fun r s' ⟨f, e, h⟩ => ?_
 subst e
 exact zW.trans st h
end
section
variable {prog : Program} {w : World} {ac : Heap} {C : Cx} {mg mb : Str → Option Value} {ρ cu aw aK : List Addr} {σ ct ae aq : St} {s bg az aT : Shared}
theorem fy (a : Addr) (items : Array Value) (n : Nat) (hz : (items.size : Int) < 2 ^ 63) :
  Meets (Builtin.«bool.__new__» ⟨[.type "bool", .ref a], []⟩) (fun _ R s => s.heap.get? a = some { cls := .type "list", data := .seq items n } ∧ ∀ k, R (.ok (.ret (.bool (!items.isEmpty)))) { s with toks := k }) :=
 Meets.of_wp fun prog w A R s hs => by
  obtain ⟨ho, hs⟩ := hs
  obtain ⟨hp, g, d, tk, os⟩ := s
  have f1 := PySem.F.conv_sub_bool
  have il : Heap.IsList hp a items := ⟨_, ho, rfl, n, rfl⟩
  repeat (any_goals (first | assumption | (with_reducible refine wpAny_truthy_list (s := ⟨hp, g, d, tk, os⟩) il hz ?_) | wp_step))
  all_goals first | exact ⟨_, rfl, hs _⟩ | exact hs _ | skip
theorem sv : cS prog w ac C (.type "bool") av wy := fun ρ σ s vs xs r ha =>
 dw (t := fun xs => call (.type "bool") xs) ha fun v x hv => fB (t := fun x => call (.type "bool") [x]) r.hp hv fun l a ys vs n _ _ h1 hv => a8 fun h _ => by
  refine call_bool_1 (fy a vs.toArray n (show (vs.length : Int) < 2 ^ 63 from hv.length ▸ h)) ⟨h1, fun k => ?_⟩
  show wants (fun obj az => az.TypeIs obj "bool" ∧ _) _ _ _
  exact ⟨rfl, zu (congrArg Value.bool (eL hv)) (r.toks _)⟩
noncomputable def mG (vs : List V) (σ : St) : zV V := g1 vs fun v => gl v σ.heap fun l _ => .ok (.ref σ.heap.length) { σ with heap := σ.heap ++ [.liter l 0] }
theorem mT : entryFor table "iter" = some Builtin.«iter» := entryFor_of_fast (by kernel_rfl)
theorem pE (a : Value) : argsOk "iter" ⟨[a], []⟩ := by unfold argsOk; kernel_rfl
theorem sq : cS prog w ac C (.builtin "iter") av mG := fun ρ σ s vs xs r ha =>
 dw (t := fun xs => call (.builtin "iter") xs) ha fun v x hv => fB (t := fun x => call (.builtin "iter") [x]) r.hp hv fun l a ys vs n hx _ h1 _ _ => by
  have il : s.heap.IsList a vs.toArray := ⟨_, h1, rfl, n, rfl⟩
  refine Calls.call_function_entry (by decide +kernel) (by decide +kernel) mT (pE _) ?_
  unfold Builtin.«iter»
  refine wpAny_bind (m := someArgs "iter" 1 2 _) (wpAny_of_eq (a := [Value.ref a]) (by first | rfl | kernel_rfl!) ?_)
  show wpAny _ _ (pyIter (.ref a) >>= _) _ _ _
  refine wpAny_bind (wpAny_pyIter_list il (wpAny_pure ⟨_, rfl, ?_⟩))
  exact zu (ρ' := ρ ++ [s.heap.objs.size]) ⟨_, bv r.hp _, rfl⟩ (r.alloc (t := s.toks) rfl ⟨a, cr hx, rfl⟩)
noncomputable def sortI (ns : List Int) : List Int := ns.mergeSort (· ≤ ·)
noncomputable def ga (vs : List V) (σ : St) : zV V := g1 vs fun v => gt v σ.heap fun _ xs => gO (fM xs) fun ns => if ns.length < 64 then .ok (.ref σ.heap.length) { σ with heap := σ.heap ++ [.list ((sortI ns).map .int)] } else .bad
theorem km {ns ns' : List Int} (hp : ns'.Perm ns) (hs : ns'.Pairwise (· ≤ ·)) : ns' = sortI ns := by
 have h1 : (sortI ns).Perm ns := List.mergeSort_perm ns _
 have h2 : (sortI ns).Pairwise (· ≤ ·) := by
  have := List.pairwise_mergeSort (le := fun a b : Int => decide (a ≤ b)) (by intro a b c; simp; lia) (by intro a b; simp; lia) ns
  refine this.imp ?_
  intro a b h; simpa using h
 exact (hp.trans h1.symm).eq_of_pairwise (fun a b _ _ h1 h2 => Int.le_antisymm h1 h2) hs h2
theorem mH {ρ : List Addr} : ∀ {xs : List Value} {ns : List Int}, IntsAre xs ns → bL ρ (ns.map .int) xs
 | _, _, .nil => .nil
 | _, _, .cons n t h => .cons ⟨t, rfl⟩ (mH h)
theorem oH : cS prog w ac C (.builtin "sorted") av ga := fun ρ σ s vs xs r ha =>
 dw (t := fun xs => call (.builtin "sorted") xs) ha fun v x hv => tZ (t := fun x => call (.builtin "sorted") [x]) r.hp hv fun l a ys vs n _ _ h1 hv => bA fun ns hi => a8 fun h64 _ => by
  have hI := iA hv hi
  have hl : vs.length = ns.length := IntsAre.length hI
  refine Calls.call_function_entry kind_sorted plain_sorted entry_sorted (args_sorted1 _) ?_
  unfold Builtin.«sorted»
  refine wpAny_bind (m := checkCount "sorted" 1 1 _) (wpAny_pure ?_)
  refine wpAny_bind (wpAny_collect_seq a (.inr rfl) h1 rfl rfl (fun h' hk => ?_) (by simp [hl]; exact Nat.le_trans (Nat.le_of_lt h64) (by decide)))
  refine wpAny_bind (wpAny_newList ?_ (by simp [hl]; exact Nat.le_trans (Nat.le_of_lt h64) (by decide)))
  have st0 : Step prog w ac C ρ σ s ρ σ { s with heap := h' } := r.keep hk ⟨rfl, rfl, rfl⟩
  have st1 := st0.rel.alloc (o := .list (ns.map .int)) (ob := seqObj "list" vs.toArray 0) (t := s.toks) rfl ⟨vs, 0, rfl, mH hI⟩
  have hoL : (h'.push (seqObj "list" vs.toArray 0)).get? h'.objs.size = some (seqObj "list" vs.toArray 0) := Heap.get?_push_size _ rfl
  refine wpAny_bind (wpAny_holding (wpAny_call_entry slot_list_sort ⟨_, hoL, rfl⟩ entry_list_sort (list_sort_tree (s := { s with heap := h'.push (seqObj "list" vs.toArray 0) }) (a := h'.objs.size) (vs := vs) hoL hI (by lia) fun out ns' a1 a2 a3 => ⟨_, rfl, ?_⟩) (args_list_sort _)))
  refine wpAny_pure ⟨_, rfl, ?_⟩
  have e := km a2 a3
  have hlab : (ρ ++ [h'.objs.size])[σ.heap.length]? = some h'.objs.size := bv st0.rel.hp _
  have hlt : h'.objs.size < (h'.push (seqObj "list" vs.toArray 0)).objs.size := Heap.lt_size hoL
  have r1 := st1.rel
  have s2 := r1.upd (l := σ.heap.length) (o := .list []) (h' := (h'.push (seqObj "list" vs.toArray 0)).update h'.objs.size (Obj.mapSeq fun _ => #[])) (t := s.toks) hlab (Heap.SameBut.update ..) (Heap.get?_update_self _ hoL rfl) ⟨[], _, rfl, .nil⟩
  have s3 := s2.rel.grow (seqObj "tuple" vs.toArray 0) s.toks
  have s4 := s3.rel.grow (seqObj "list" #[] 0) s.toks
  obtain ⟨ob5, g5, vs5, n5, rfl, hv5⟩ := s4.rel.hp.obj σ.heap.length (.list []) _ (by simp) hlab
  have s5 := s4.rel.upd (l := σ.heap.length) (o := .list ((sortI ns).map .int)) (h' := sortedHeap (h'.push (seqObj "list" vs.toArray 0)) h'.objs.size vs out) (t := s.toks) hlab (Heap.SameBut.update ..) (Heap.get?_update_self _ g5 rfl) ⟨out.toList, _, by simp [Obj.mapSeq]; rfl, by rw [← e]; exact mH a1⟩
  have stt := st0.trans ((st1.trans s2).trans (s3.trans (s4.trans s5)))
  have hset : (((σ.heap ++ [O.list (ns.map V.int)]).set σ.heap.length (.list [])).set σ.heap.length (.list ((sortI ns).map .int))) = σ.heap ++ [.list ((sortI ns).map .int)] := by
   rw [List.set_append_right _ _ (Nat.le_refl _)]; simp
  dsimp only at stt
  rw [hset] at stt
  exact zu ⟨_, hlab, rfl⟩ stt
theorem nq {ρ : List Addr} : ∀ (l : List (Str × Tok)), bL ρ ((l.map (·.1)).map .str) (strValues l)
 | [] => .nil
 | p :: l => .cons ⟨p.2, rfl⟩ (nq l)
noncomputable def hZ (v : V) (vs : List V) (σ : St) : zV V := gS v fun x => g1 vs fun a => gS a fun y => if y.length ≠ 0 ∧ x.length ≤ 1000 then .ok (.ref σ.heap.length) { σ with heap := σ.heap ++ [.list ((Txt.split x y).map .str)] } else .bad
theorem gm : ex prog w ac C "str" "split" "str.split" bH hZ where
 pa := F.plainAttrs_str
 slot := F.slot_str_split
 ty := F.type_str_split
 self := fun ρ H s v v' r hv hc => fK hv hc
 call := fun ρ σ s v v' vs xs r hv ha => dA (t := fun x => call (.builtin "str.split") (x :: xs)) hv fun x t => dw (t := fun xs => call (.builtin "str.split") (.str x t :: xs)) ha fun v z hz => dA (t := fun z => call (.builtin "str.split") [.str x t, z]) hz fun y u => a8 fun h _ => by
  have hy : (y.length == 0) = false := by simpa using h.1
  have hsz : x.length ≤ sizeLine := Nat.le_trans h.2 (by decide)
  have fin : ∀ (l : List (Str × Tok)) (k : Nat), l.map (·.1) = Txt.split x y → zW prog w ac C VR ρ σ s (.ok (.ref σ.heap.length) { σ with heap := σ.heap ++ [.list ((Txt.split x y).map .str)] }) (.ref s.heap.objs.size) { s with toks := k, heap := s.heap.push { cls := .type "list", data := .seq (strValues l).toArray } } := fun l k e =>
   zu (ρ' := ρ ++ [s.heap.objs.size]) ⟨_, bv r.hp _, rfl⟩ (r.alloc (t := k) rfl ⟨strValues l, 0, rfl, e ▸ nq l⟩)
  cases h1 : (decide (x.length < y.length) || decide (Builtin.Str.strKind x < Builtin.Str.strKind y))
  ·cases hf : (Builtin.Str.occurrences x y 0 x.length (x.length + 1)).isEmpty
   ·have hl := StrLaws.occ_length_le x y 0 x.length (x.length + 1)
    have hp : (Builtin.Str.partsBetween x (Builtin.Str.occurrences x y 0 x.length (x.length + 1)) y.length).length ≤ sizeLine := by
     unfold Builtin.Str.partsBetween
     simp only [List.length_map, List.length_zip, List.length_cons, List.length_append, List.length_nil]
     have : (1003 : Nat) ≤ sizeLine := by decide
     lia
    refine call_meets F.slot_str_split (typeIs_str _ _ _) F.entry_str_split (F.args_str_split_2 _ _) (meets_str_split_sep x y t u h1 hy hf hsz hp) ?_
    show wants _ _ _ { s with toks := _, heap := s.heap.push { cls := .type "list", data := .seq (strsFrom s.toks (Builtin.Str.partsBetween x (Builtin.Str.occurrences x y 0 x.length (x.length + 1)) y.length)).toArray } }
    rw [strsFrom_eq]
    exact fin (numbered s.toks _) _ ((numbered_texts _ _).trans ((if_neg (ne_true_of_eq_false h1)).trans (if_neg (ne_true_of_eq_false hf))).symm)
   ·exact call_meets F.slot_str_split (typeIs_str _ _ _) F.entry_str_split (F.args_str_split_2 _ _) (meets_str_split_not_found x y t u h1 hy hf)
     (fin [(x, t)] s.toks ((if_neg (ne_true_of_eq_false h1)).trans (if_pos hf)).symm)
  ·exact call_meets F.slot_str_split (typeIs_str _ _ _) F.entry_str_split (F.args_str_split_2 _ _) (meets_str_split_cannot_occur x y t u h1)
    (fin [(x, t)] s.toks (if_pos h1).symm)
noncomputable def pU : List V → Option (List Str)
 | [] => some []
 | v :: vs => (zI v).bind fun x => (pU vs).map (x :: ·)
theorem pV : ∀ {vs : List V} {xs : List Value} {ns : List Str}, bL ρ vs xs → pU vs = some ns → StrsAre xs ns
 | [], _, _, h, e => by cases h; cases e; exact .nil
 | v :: vs, _, ns, ⟨x, r, e, hv, hr⟩, h => by
  subst e
  obtain ⟨i, hi, h⟩ := Option.bind_eq_some_iff.mp h
  obtain ⟨ns', h', rfl⟩ := Option.map_eq_some_iff.mp h
  cases bS lG hi
  obtain ⟨t, rfl⟩ := hv
  exact .cons i t (pV hr h')
noncomputable def tI (v : V) (vs : List V) (σ : St) : zV V := gS v fun x => g1 vs fun a => gl a σ.heap fun _ xs => gO (pU xs) fun ys => if (ys.map (·.length)).sum + ys.length * x.length ≤ 16777216 then .ok (.str (Txt.join x ys)) σ else .bad
theorem kX : ex prog w ac C "str" "join" "str.join" bH tI where
 pa := F.plainAttrs_str
 slot := F.slot_str_join
 ty := F.type_str_join
 self := fun ρ H s v v' r hv hc => fK hv hc
 call := fun ρ σ s v v' vs xs r hv ha => dA (t := fun x => call (.builtin "str.join") (x :: xs)) hv fun x t => dw (t := fun xs => call (.builtin "str.join") (.str x t :: xs)) ha fun v z hz => fB (t := fun z => call (.builtin "str.join") [.str x t, z]) r.hp hz fun l a ys vs n _ _ h1 hv => bA fun ts hi => a8 fun h _ =>
  join_list (items := vs.toArray) ⟨_, h1, rfl, n, rfl⟩ (pV hv hi) h fun t' k => zu ⟨_, rfl⟩ (r.toks _)
noncomputable def mV : St → zV V := fun σ => .ok (.ref σ.heap.length) { σ with heap := σ.heap ++ [.dict [] 0] }
theorem kD {pos : Pos} : bi prog w ac C mV (eval (.Dict [] [] pos) C.env) := by
 intro ρ σ s r hn
 refine wpAny_Dict_empty (zu (ρ' := ρ ++ [s.heap.objs.size]) ⟨_, bv r.hp _, rfl⟩ (r.alloc (t := s.toks) rfl ⟨[], ⟨#[], 0, ⟨rfl, rfl, rfl⟩, rfl, ?_, ?_, ?_⟩, rfl, #[], rfl⟩))
 ·intro e he; simp at he
 ·exact .nil
 ·simp
theorem qe {m : St → zV V} {v : Expr} {pos : Pos} (h : bi prog w ac C m (eval v C.env)) : bi prog w ac C m (eval (.JoinedStr [v] pos) C.env) := fun ρ σ s r hn => JoinedStr_one (h ρ σ s r hn)
end
theorem tG : typeLookup (.type "list_iterator") "__getattribute__" = pure (some (.builtin "object.__getattribute__")) := by rw [typeLookup_type, builtinLookup_eq_fast]; kernel_rfl
theorem gb : Slot "list_iterator" "__getattribute__" "object.__getattribute__" :=
 .of (owner := "object") (n := "__getattribute__") (by rw [typeLookup_type, builtinLookup_eq_fast]; kernel_rfl) (by decide +kernel) (by decide +kernel) (by decide +kernel)
  (by first | exact .inl (by decide +kernel) | exact .inr (by decide +kernel)) (by rw [isSubtype_type]; kernel_rfl)
theorem pD (a b : Value) : argsOk "object.__getattribute__" ⟨[a, b], []⟩ := by unfold argsOk; kernel_rfl
theorem mS : entryFor table "object.__getattribute__" = some Builtin.«object.__getattribute__» := entryFor_of_fast (by kernel_rfl)
theorem pr (x : Value) : bindSpecial (.builtin "object.__getattribute__") x = pure (.builtin "object.__getattribute__", [x]) := by first | exact gb.bind x | kernel_rfl
theorem fg : typeOf (.builtin "list_iterator.__next__") = pure (.type "wrapper_descriptor") := by kernel_rfl
theorem fw : Slot "wrapper_descriptor" "__get__" "wrapper_descriptor.__get__" :=
 .of (owner := "wrapper_descriptor") (n := "__get__") (by rw [typeLookup_type, builtinLookup_eq_fast]; kernel_rfl) (by decide +kernel) (by decide +kernel) (by decide +kernel)
  (by first | exact .inl (by decide +kernel) | exact .inr (by decide +kernel)) (by rw [isSubtype_type]; kernel_rfl)
theorem rY : typeLookup (.type "wrapper_descriptor") "__set__" = pure none := by rw [typeLookup_type, builtinLookup_eq_fast]; kernel_rfl
theorem rZ : typeLookup (.type "wrapper_descriptor") "__delete__" = pure none := by rw [typeLookup_type, builtinLookup_eq_fast]; kernel_rfl
theorem ly : entryFor table "wrapper_descriptor.__get__" = some Builtin.«wrapper_descriptor.__get__» := entryFor_of_fast (by kernel_rfl)
theorem m9 (a b c : Value) : argsOk "wrapper_descriptor.__get__" ⟨[a, b, c], []⟩ := by unfold argsOk; kernel_rfl
theorem lh : typeLookup (.type "list_iterator") "__getattr__" = pure none := by rw [typeLookup_type, builtinLookup_eq_fast]; kernel_rfl
theorem jU (a : Value) : checkBoundCall "list_iterator.__next__" ⟨[a], []⟩ = pure () := by first | kernel_rfl | rfl
theorem jI : (".".intercalate ("list_iterator.__next__".cutAt '.').dropLast) = "list_iterator" := by decide +kernel
theorem fZ : isSubtype (.type "list_iterator") (.type (".".intercalate ("list_iterator.__next__".cutAt '.').dropLast)) = pure true := by
 rw [jI, isSubtype_type]; kernel_rfl
section
variable {prog : Program} {w : World} {A : Around} {E : Value → Shared → Prop} {h : Heap} {g : Array GenState} {d : Drawn} {t : Nat} {os : OsState} {a : Addr} {vs : Array Value}
theorem li_ga {tk : Tok} {Q : Fin → Shared → Prop} (hx : h.get? a = some { cls := .type "list_iterator", data := .fields vs })
  (hq : Q (.done (.ret (.ref h.objs.size))) ⟨h.push { cls := .type "method-wrapper", data := .fields #[.builtin "list_iterator.__next__", .ref a] }, g, d, t, os⟩) :
  wpAny (model prog w) A (Builtin.«object.__getattribute__» ⟨[.ref a, .str "__next__" tk], []⟩) Q E ⟨h, g, d, t, os⟩ := by
 have hT : (⟨h, g, d, t, os⟩ : Shared).TypeIs (.ref a) "list_iterator" := ⟨_, hx, rfl⟩
 have hT5 : (⟨h, g, d, t, os⟩ : Shared).TypeIs (.builtin "list_iterator.__next__") "wrapper_descriptor" := fg
 have f4 := slot_listiter_next.lookup
 have f5 := fg
 have f6 := fw.lookup
 have f7 := rY
 have f8 := rZ
 repeat (any_goals (first | assumption | wp_step))
 refine codeAny_call_builtin fw.plain ly (fw.check _ _ _ _ _ _ _ _ hT5 (m9 _ _ _) ?_)
 have f9 := fZ
 repeat (any_goals (first | assumption | wp_step))
theorem wh {Q : Value → Shared → Prop} (hx : h.get? a = some { cls := .type "list_iterator", data := .fields vs })
  (hq : Q (.ref h.objs.size) ⟨h.push { cls := .type "method-wrapper", data := .fields #[.builtin "list_iterator.__next__", .ref a] }, g, d, t + 1, os⟩) :
  wpAny (model prog w) A (getAttr (.ref a) "__next__" true) Q E ⟨h, g, d, t, os⟩ := by
 have hT : ∀ tk', (⟨h, g, d, tk', os⟩ : Shared).TypeIs (.ref a) "list_iterator" := fun _ => ⟨_, hx, rfl⟩
 have f1 := tG
 have f3 := pr (.ref a)
 have f5 := lh
 unfold getAttr getAttrBy
 repeat (any_goals (first | assumption | exact hT _ | wp_step))
 refine codeAny_call_builtin gb.plain mS (gb.check _ _ _ _ _ _ _ _ (show (⟨h, g, d, t + 1, os⟩ : Shared).TypeIs (.ref a) "list_iterator" from ⟨_, hx, rfl⟩) (pD _ _) (li_ga hx ?_))
 repeat (any_goals (first | assumption | wp_step))
theorem wx {mw : Addr} {Q : Value → Shared → Prop} (hm : h.get? mw = some { cls := .type "method-wrapper", data := .fields #[.builtin "list_iterator.__next__", .ref a] })
  (hq : ∀ A', A'.handled = A.handled → wpAny (model prog w) A' (Builtin.«list_iterator.__next__» ⟨[.ref a], []⟩) (fun fin s' => ∃ v, fin = .done (.ret v) ∧ Q v s') (fun e s' => E e s') ⟨h, g, d, t, os⟩) :
  wpAny (model prog w) A (call (.ref mw) []) Q E ⟨h, g, d, t, os⟩ := by
 refine wpAny_call (codeAny_of_tree ?_)
 show wpAny _ _ (callAny (.ref mw) _) _ _ _
 unfold callAny
 dsimp only
 refine wpAny_bind (wpAny_load hm ?_)
 dsimp only
 rw [if_pos (by decide)]
 show wpAny _ _ (if (Value.type "method-wrapper" != Value.type "method") = true then _ else _) _ _ _
 rw [if_pos (by decide), jU]
 refine wpAny_bind (wpAny_pure ?_)
 refine wpAny_pure ⟨Code.quiet_builtin _ (by decide +kernel), codeAny_builtin entry_listiter_next ?_⟩
 refine wpAny_mono (hq _ rfl) (fun fin s' z => ?_) fun _ _ z => z
 obtain ⟨v, rfl, z⟩ := z
 exact z
theorem qS {l : Addr} {i : Nat} {x : Value} {items : Array Value} {Q : Value → Shared → Prop}
  (hx : h.get? a = some { cls := .type "list_iterator", data := .fields #[.ref l, .int i 0] }) (hl : h.IsList l items) (hi : items[i]? = some x)
  (hq : Q x ⟨h.update a (Obj.mapFields (·.setIfInBounds 1 (rawInt ((i : Int) + 1)))), g, d, t, os⟩) :
  wpAny (model prog w) A (Builtin.«list_iterator.__next__» ⟨[.ref a], []⟩) (fun fin s' => ∃ v, fin = .done (.ret v) ∧ Q v s') E ⟨h, g, d, t, os⟩ := by
 obtain ⟨ol, hol, _, nl, hdl⟩ := hl
 show wpAny _ _ (field (.ref a) 0 >>= _) _ _ _
 refine wpAny_bind (wpAny_field hx rfl (x := .ref l) rfl ?_)
 show wpAny _ _ (if (Value.ref l == Value.none) = true then _ else _) _ _ _
 rw [if_neg (show ¬ ((Value.ref l == Value.none) = true) from Bool.false_ne_true)]
 show wpAny _ _ (field (.ref a) 1 >>= _) _ _ _
 refine wpAny_bind (wpAny_field hx rfl (x := .int i 0) rfl ?_)
 show wpAny _ _ (seqItems? (.ref l) >>= _) _ _ _
 refine wpAny_bind (wpAny_seqItems hol hdl ?_)
 simp only [Int.toNat_natCast, hi]
 exact wpAny_bind (wpAny_setField hx rfl (by simp) (wpAny_pure ⟨_, rfl, hq⟩))
theorem to {l : Addr} {i : Nat} {items : Array Value} {Q : PySem.Fin → Shared → Prop} (hh : A.handled = none)
  (hx : h.get? a = some { cls := .type "list_iterator", data := .fields #[.ref l, .int i 0] }) (hl : h.IsList l items) (hi : items[i]? = none)
  (hq : ∀ vs e t' h', h'.get? e = some { cls := .type "StopIteration", data := .fields vs } → vs[0]? = some (.ref t') → vs[1]? = some .none → h'.get? t' = some { cls := .type "tuple", data := .seq #[] } → h.get? e = none → h.get? t' = none →
   Heap.ExtBut a h h' → h'.get? a = some (Obj.mapFields (·.setIfInBounds 0 Value.none) { cls := .type "list_iterator", data := .fields #[.ref l, .int i 0] }) → E (.ref e) ⟨h', g, d, t, os⟩) :
  wpAny (model prog w) A (Builtin.«list_iterator.__next__» ⟨[.ref a], []⟩) Q E ⟨h, g, d, t, os⟩ := by
 obtain ⟨ol, hol, _, nl, hdl⟩ := hl
 show wpAny _ _ (field (.ref a) 0 >>= _) _ _ _
 refine wpAny_bind (wpAny_field hx rfl (x := .ref l) rfl ?_)
 show wpAny _ _ (if (Value.ref l == Value.none) = true then _ else _) _ _ _
 rw [if_neg (show ¬ ((Value.ref l == Value.none) = true) from Bool.false_ne_true)]
 show wpAny _ _ (field (.ref a) 1 >>= _) _ _ _
 refine wpAny_bind (wpAny_field hx rfl (x := .int i 0) rfl ?_)
 show wpAny _ _ (seqItems? (.ref l) >>= _) _ _ _
 refine wpAny_bind (wpAny_seqItems hol hdl ?_)
 simp only [Int.toNat_natCast, hi]
 refine wpAny_bind (wpAny_rule (wpAny_bind (wpAny_setField hx rfl (by simp) ?_)))
 show wpAny _ _ (newExc (.type "StopIteration") [] >>= _) _ _ _
 refine wpAny_bind ?_
 simp only [newExc, newTuple]
 refine wpAny_bind (wpAny_newObj_type ?_ (by size_fits))
 refine wpAny_bind (m := firstArgMember _ _) (wpAny_of_eq (a := Value.none) (by first | rfl | (simp only [firstArgMember]; rfl)) ?_)
 refine wpAny_newObj_type ?_ (by size_fits)
 simp only [raiseNew]
 refine wpAny_bind (wpAny_handled ?_)
 rw [hh]
 have hlt : ∀ {b : Addr} {o : Obj}, h.get? b = some o → b < h.objs.size := fun e => Heap.lt_size e
 have hz : (h.update a (Obj.mapFields fun x => x.setIfInBounds 0 Value.none)).objs.size = h.objs.size := Heap.size_update ..
 refine wpAny_throw (hq _ _ (h.update a (Obj.mapFields fun x => x.setIfInBounds 0 Value.none)).objs.size _ (Heap.get?_push_size _ rfl) (by rw [Array.getElem?_append_left (by simp)]; rfl) (by rw [Array.getElem?_append_left (by simp)]; rfl) (Heap.get?_push_of_some _ (Heap.get?_push_size _ rfl)) ?_ ?_ (((Heap.SameBut.update ..).extBut.push _).push _) (Heap.get?_push_of_some _ (Heap.get?_push_of_some _ (Heap.get?_update_self _ hx rfl))))
 ·refine Heap.get?_none_of_le ?_
  rw [Heap.size_push, hz]; exact Nat.le_succ _
 ·exact Heap.get?_none_of_le (by rw [hz]; exact Nat.le_refl _)
end
section
variable {prog : Program} {w : World} {ac : Heap} {C : Cx} {mg mb : Str → Option Value} {ρ cu aw aK : List Addr} {σ ct ae aq : St} {s bg az aT : Shared}
noncomputable def asW (o : O) : Option (Nat × Nat) := match o with | .liter l i => some (l, i) | _ => none
noncomputable def asM (o : O) : Option Nat := match o with | .mnext l => some l | _ => none
theorem uH (o : O) : asW o = none ∨ (asW o).map (fun p => .liter p.1 p.2) = some o := by cases o <;> first | exact .inl rfl | exact .inr rfl
theorem yF (o : O) : asM o = none ∨ (asM o).map .mnext = some o := by cases o <;> first | exact .inl rfl | exact .inr rfl
noncomputable def oY (v : V) (σ : St) : zV V := gh v σ.heap fun l o => gO (asW o) fun _ => .ok (.ref σ.heap.length) { σ with heap := σ.heap ++ [.mnext l] }
theorem qb : lJ prog w ac C "__next__" oY := fun ρ σ s v v' r hv => lE (t := fun v' => getAttr v' "__next__" true) hv fun l a o ha q => bA fun p hp _ => by
 cases bS uH hp
 obtain ⟨ob, h1, b, hb, rfl⟩ := r.hp.obj _ _ _ q ha
 obtain ⟨hh, g, d, t, os⟩ := s
 have st := r.alloc (o := .mnext l) (ob := { cls := .type "method-wrapper", data := .fields #[.builtin "list_iterator.__next__", .ref a] }) (t := t + 1) rfl ⟨a, cr ha, rfl⟩
 exact wh h1 (zu (ρ' := ρ ++ [hh.objs.size]) ⟨_, bv r.hp _, rfl⟩ st)
noncomputable def pP (l l0 i : Nat) (xs : List V) (σ : St) : zV V := match xs[i]? with
 | some y => .ok y { σ with heap := σ.heap.set l (.liter l0 (i + 1)) }
 | none => .exc (.type "StopIteration") [] { σ with heap := σ.heap.set l .dead }
noncomputable def rA (v : V) (σ : St) : zV V := gh v σ.heap fun _ o => gO (asM o) fun l => gO σ.heap[l]? fun o => gO (asW o) fun p => gO σ.heap[p.1]? fun o => gO (zK o) fun xs => pP l p.1 p.2 xs σ
theorem qk (hh : C.A.handled = none) {mf : St → zV V} {f : Expr} {pos : Pos} (hf : bi prog w ac C mf (eval f C.env))
  (he : eval (.Call f [] [] pos) C.env = (do callWith pos (← eval f C.env) [] [] [])) : bi prog w ac C (fun σ => (mf σ).bind rA) (eval (.Call f [] [] pos) C.env) := by
 intro ρ σ s r hn
 rw [he]
 refine wpAny_bind ((hf.at r).next rfl hn fun v ae aw az v' _ hv st e => ?_)
 rw [e] at hn ⊢
 refine At.trans st (lE (t := fun v' => callWith pos v' [] [] []) hv fun m am o hm q => bA fun l hl => bA fun o2 q2 => bA fun ⟨l0, i⟩ hp2 => bA fun o3 q3 => bA fun xs hx3 _ => ?_) hn
 clear hn e
 cases bS yF hl; cases bS uH hp2; cases bS jr hx3
 obtain ⟨ob, h1, a, ha, rfl⟩ := st.rel.hp.obj _ _ _ q hm
 refine callWith_of (P := fun h => h.get? am = some { cls := .type "method-wrapper", data := .fields #[.builtin "list_iterator.__next__", .ref a] }) rfl (fun h hP => ⟨.machine, .inr (.inl rfl), (Looks.ld (part := none) hP).andThen (Looks.of_pure (by rfl))⟩) (cx rfl (spliced_nil ⟨h1, ?_⟩))
 obtain ⟨ob2, h2, b, hb, rfl⟩ := st.rel.hp.obj _ _ _ q2 ha
 obtain ⟨ob3, h3, vs, n, rfl, hvs⟩ := st.rel.hp.obj _ _ _ q3 hb
 have st := Step.refl st.rel
 obtain ⟨hp, g, d, t, os⟩ := az
 have il : hp.IsList b vs.toArray := ⟨_, h3, rfl, n, rfl⟩
 refine wx (a := a) h1 fun A' hA => ?_
 cases q4 : xs[i]? with
 | some y =>
  rw [pP, q4]
  obtain ⟨y', hy1, hy2⟩ := hvs.get q4
  refine qS h2 il (by simpa using hy1) ?_
  refine zu hy2 (st.rel.upd (t := t) ha (Heap.SameBut.update ..) (Heap.get?_update_self _ h2 rfl) ⟨b, hb, ?_⟩)
  simp [Obj.mapFields, rawInt]
 | none =>
  rw [pP, q4]
  have hnone : vs.toArray[i]? = none := by
   have := List.getElem?_eq_none_iff.mp q4
   simp [hvs.length]; lia
  refine to (hA.trans hh) h2 il hnone fun ws e t' h' k1 k2 k3 k4 k5 k6 k7 k8 => ?_
  have sb : Heap.ExtBut a hp h' := k7
  have st1 := st.rel.upd (t := t) (o := .dead) (h' := hp.update a (Obj.mapFields (·.setIfInBounds 0 Value.none))) ha (Heap.SameBut.update ..) (Heap.get?_update_self _ h2 rfl) ⟨_, rfl⟩
  have keep : ∀ c o, (hp.update a (Obj.mapFields (·.setIfInBounds 0 Value.none))).get? c = some o → h'.get? c = some o := fun c o hc => by
   by_cases hca : c = a
   ·subst hca
    rw [Heap.get?_update_self _ h2 rfl] at hc
    cases hc
    exact k8
   ·rw [Heap.get?_update_other _ _ (Ne.symm hca)] at hc
    exact sb c o hca hc
  have st2 := st1.trans (st1.rel.keep (s' := ⟨h', g, d, t, os⟩) keep ⟨rfl, rfl, rfl⟩)
  have nw : ∀ {x : Addr}, hp.get? x = none → hp.get? x = none ∧ ¬ zU C aw x := fun {x} hx =>
   ⟨hx, fun ho => bo st.rel _ ho hx⟩
  exact ⟨aw, ⟨e, _, ws, t', [], 0, rfl, (nw k5).1, (nw k5).2, k1, rfl, rfl, k2, (nw k6).1, (nw k6).2, k4, .nil, .inl k3⟩, st2⟩
end
section
open Builtin Builtin.Str Builtin._codecs
structure js (K : Frag) (c : Addr) : Prop where
 f : findIn K (.ref c) "__str__" = some (some (.builtin "BaseException.__str__"))
 s : subIn K (.ref c) (.type "BaseException") = some true
theorem lP : typeOf (.builtin "BaseException.__str__") = pure (.type "wrapper_descriptor") := by kernel_rfl
theorem rC (v : Value) : bindSpecial (.builtin "BaseException.__str__") v = pure (.builtin "BaseException.__str__", [v]) := by
 unfold bindSpecial; rw [lP]; rfl
theorem oU : plainId "BaseException.__str__" = true := by decide +kernel
theorem q7 : builtinKind "BaseException.__str__" = some .slot := by decide +kernel
theorem oF : splitId "BaseException.__str__" = some ("BaseException", "__str__") := by decide +kernel
section
variable {prog : Program} {w : World} {A : Around} {E : Value → Shared → Prop} {s : Shared} {K : Frag} {c e t0 : Addr} {oe : Obj} {vs : Array Value} {m : Str} {tk : Tok}
theorem pq {Q : PySem.Fin → Shared → Prop} (he : s.heap.get? e = some oe) (hd : oe.data = .fields vs) (h0 : vs[0]? = some (.ref t0)) (ht : s.heap.TupAt t0 [.str m tk]) (hq : Q (.done (.ret (.str m tk))) s) :
  wpAny (model prog w) A (Builtin.«BaseException.__str__» ⟨[.ref e], []⟩) Q E s := by
 obtain ⟨ot, k, hto, _, htd⟩ := ht
 unfold Builtin.«BaseException.__str__» Builtin.BaseException.bexcArgs
 repeat (first | with_reducible refine wpAny_field he hd h0 ?_ | with_reducible refine wpAny_seqItems hto htd ?_ | wp_step)
 exact hq
theorem pn {M : Model} {Q : Unit → Shared → Prop} (LT : Looks M s.heap (typeOf (.ref e)) (.ref c)) (L2 : Looks M s.heap (isSubtype (.ref c) (.type "BaseException")) true) (hq : Q () s) :
  wpAny M A (checkBuiltinCall "BaseException.__str__" ⟨[.ref e], []⟩) Q E s := by
 have ha := F.args_bexc_str (.ref e)
 unfold argsOk at ha
 unfold checkBuiltinCall
 simp only [q7, oF]
 refine wpAny_bind (wpAny_bind (LT.here (L2.here ?_)))
 rw [if_neg (show ¬ ((!true) = true) from Bool.false_ne_true)]
 generalize Manifest.signature? "BaseException.__str__" = o at ha ⊢
 cases o with
 | none => exact wpAny_pure hq
 | some sig => dsimp only at ha ⊢; rw [ha]; exact wpAny_pure hq
theorem pW (X : K.In s.heap) (G : js K c) (hu : A.units < cLine) {Q : Value → Shared → Prop} (he : s.heap.get? e = some oe) (hc : oe.cls = .ref c) (hd : oe.data = .fields vs) (h0 : vs[0]? = some (.ref t0)) (ht : s.heap.TupAt t0 [.str m tk]) (hq : Q (.str m tk) s) :
  wpAny (model prog w) A (Builtin.Str.strOf (.ref e)) Q E s := by
 have LT : Looks (model prog w) s.heap (typeOf (.ref e)) (.ref c) := by
  rw [← hc]; exact (Looks.ld (part := none) he).andThen .now
 have L1 := looks_findIn (M := model prog w) X G.f
 have L2 := looks_subIn (M := model prog w) X G.s
 unfold Builtin.Str.strOf
 rw [if_neg (show ¬ (isExactStr (Value.ref e) = true) from Bool.false_ne_true)]
 refine wpAny_bind (wpAny_cRoomFor hu (wpAny_bind ?_))
 unfold callSpecial?
 refine wpAny_bind ((LT.andThen L1).here ?_)
 refine wpAny_holding (wpAny_bind (wpAny_of_eq (rC _) (wpAny_bind (wpAny_call (codeAny_call_builtin oU F.entry_bexc_str (pn LT L2 (wpAny_mono (pq (Q := fun fin s' => fin = .done (.ret (.str m tk)) ∧ Q (.str m tk) s') he hd h0 ht ⟨rfl, hq⟩) (fun fin s' z => ?_) fun _ _ z => z)))))))
 obtain ⟨rfl, z⟩ := z
 refine wpAny_pure ?_
 exact wpAny_bind (wpAny_of_eq (a := some m) rfl (wpAny_pure z))
theorem lD (X : K.In s.heap) (G : js K c) (hu : A.units + 2 < cLine) {Q : Value → Shared → Prop} (he : s.heap.get? e = some oe) (hc : oe.cls = .ref c) (hd : oe.data = .fields vs) (h0 : vs[0]? = some (.ref t0)) (ht : s.heap.TupAt t0 [.str m tk]) (hq : Q (.str m tk) s) :
  wpAny (model prog w) A (call (.type "str") [.ref e]) Q E s :=
 callType_new F.called_str (by decide) (F.typeCall_str_1 _) (F.newCall_str_1 _) (fun obj => F.args_object_init_2 obj _) F.entry_str_new
  (meets_str_new (S := fun A' R s' => A'.units + 1 < cLine ∧ K.In s'.heap ∧ s'.heap.get? e = some oe ∧ s'.heap.TupAt t0 [.str m tk] ∧ R (.ok (.ret (.str m tk))) s')
   fun _ _ A' _ _ hq => pW (A := A'.in1) hq.2.1 G hq.1 hq.2.2.1 hc hd h0 hq.2.2.2.1 hq.2.2.2.2)
  ⟨(show A.units + 1 + 1 < cLine from hu), X, he, ht, typeIs_str _ _ _, hq⟩
end
section
variable {prog : Program} {w : World} {ac : Heap} {C : Cx} {mg mb : Str → Option Value} {ρ : List Addr} {σ : St} {s : Shared}
theorem yz {α β : Type} {R : List Addr → β → α → Prop} {u : Sem α} {vs : List V} {xs : List Value} {k : V → zV β} (ha : bL ρ vs xs) (q : ∀ v x, xs = [x] → VR ρ v x → At prog w ac C R ρ σ s (k v) u) : At prog w ac C R ρ σ s (g1 vs k) u := by
 cases vs with
 | nil => exact fun h => absurd rfl h
 | cons v vs =>
  obtain ⟨x, xs, rfl, hv, ha⟩ := ha
  cases vs with
  | nil => cases ha; exact q v x rfl hv
  | cons => exact fun h => absurd rfl h
noncomputable def asX (o : O) : Option (Nat × Nat) := match o with | .exc (.top c) t => some (c, t) | _ => none
theorem yD (o : O) : asX o = none ∨ (asX o).map (fun p => .exc (.top p.1) p.2) = some o := by
 cases o with
 | exc c t => cases c <;> first | exact .inl rfl | exact .inr rfl
 | _ => exact .inl rfl
noncomputable def yP (cs : List Nat) (vs : List V) (σ : St) : zV V := g1 vs fun v => cond (zJ v).isSome (gh v σ.heap fun _ o => gO (asX o) fun p => gO σ.heap[p.2]? fun o => gO (zH o) fun ys => g1 ys fun y => gS y fun x => if p.1 ∈ cs then .ok (.str x) σ else .bad) (nr [v] σ)
theorem nz {K : Frag} (X : K.In ac) {cs : List Nat} (G : ∀ c ∈ cs, js K c) (ok : C.Ok) : cS prog w ac C (.type "str") av (yP cs) := fun ρ σ s vs xs r ha =>
 dw (t := fun xs => call (.type "str") xs) ha fun v x hv => bw (lE (t := fun x => call (.type "str") [x]) hv fun l a o hx q => bA fun p hp => bA fun o2 q2 => bA fun ys hy => by
   cases bS yD hp; cases bS om hy
   obtain ⟨ob, h1, b, ws, hc, hb, hd, h0⟩ := r.hp.obj _ _ _ q hx
   obtain ⟨ob2, h2, us, n, rfl, hu⟩ := r.hp.obj _ _ _ q2 hb
   refine yz hu fun y z e hz => bA fun y hy => a8 fun hcs _ => ?_
   cases bS lG hy
   obtain ⟨tk, rfl⟩ := hz
   subst e
   have hun := ok.units
   exact lD (X.keeps r.hp.base) (G _ hcs) (by lia) h1 hc hd h0 ⟨_, n, h2, rfl, rfl⟩ (zu ⟨tk, rfl⟩ (.refl r)))
  (gf ρ σ s [v] [x] r (.one hv))
end
theorem pi (x : PySem.Str) (t u : Tok) : «str.encode» ⟨[.str x t, .str "ascii" u], []⟩ = (do ret (← encodeRoad "str.encode" (.str x t) x "ascii" none)) := by first | rfl | kernel_rfl
theorem oN (id : String) (self : Value) (x : PySem.Str) (errors : Option PySem.Str) : encodeRoad id self x "ascii" errors = (do mkBytes (← encodeNarrow id asciiCodec errors self x)) := by
 first | rfl | (unfold encodeRoad; rfl) | (unfold encodeRoad; simp only []; rfl) | decide
theorem iE : ∀ (l : List Nat) (acc : Array UInt8), l.foldl (fun acc y => acc ++ (asciiCodec.bytesOf y).toArray) acc = acc ++ (l.map (·.toUInt8)).toArray
 | [], acc => by simp
 | c :: l, acc => by
  rw [List.foldl_cons, iE l]
  show (acc ++ [c.toUInt8].toArray) ++ _ = _
  simp
theorem tD {β γ : Type} {l : List Nat} {i s1 : β} {f : Nat → β → Sem (ForInStep β)} {k : β → Sem γ} {r : Sem γ} (hl : l ≠ []) (h0 : ∀ a, f a i = pure (.yield s1)) (h1 : ∀ a, f a s1 = pure (.done s1)) (hr : k s1 = r) : (forIn l i f >>= k) = r := by
 match l, hl with
 | a :: l, _ =>
  rw [List.forIn_cons, h0, pure_bind]
  dsimp only
  match l with
  | [] => rw [List.forIn_nil, pure_bind, hr]
  | b :: l =>
   rw [List.forIn_cons, h1, pure_bind]
   dsimp only
   rw [pure_bind, hr]
theorem qW {β γ : Type} {l : List Nat} {i : β} {f : Nat → β → Sem (ForInStep β)} {k : β → Sem γ} {r : Sem γ} (hl : l = []) (hr : k i = r) : (forIn l i f >>= k) = r := by
 subst hl
 rw [List.forIn_nil, pure_bind, hr]
noncomputable abbrev yN := Nat × Array UInt8 × Faults
theorem ru (self : Value) (x : PySem.Str) : ∃ (U : yN → Sem (ForInStep yN)) (B : Nat → yN → Sem (ForInStep yN)), encodeNarrow "str.encode" asciiCodec none self x =
  (forIn [:x.length] (0, #[], {}) (fun _ r => if r.2.1.size > sizeLine then U r else match x.cps[r.1]? with
   | some c => if (!asciiCodec.bad c) = true then pure (.yield (r.1 + (Array.findIdx? asciiCodec.bad (x.cps.extract r.1)).getD (x.cps.extract r.1).size,
     ((x.cps.extract r.1).extract 0 ((Array.findIdx? asciiCodec.bad (x.cps.extract r.1)).getD (x.cps.extract r.1).size)).foldl (fun acc y => acc ++ (asciiCodec.bytesOf y).toArray) r.2.1, r.2.2)) else B c r
   | none => pure (.done (r.1, r.2.1, r.2.2))) >>= fun r => pure r.2.1) := by
 apply Exists.intro
 apply Exists.intro
 refine congrArg (· >>= fun r : yN => (pure r.2.1 : Sem (Array UInt8))) (congrArg (forIn _ _) (funext fun a => funext fun r => ?_))
 refine ite_congr rfl (fun _ => rfl) (fun _ => ?_)
 cases x.cps[r.1]? with
 | none => rfl
 | some c => exact ite_congr rfl (fun _ => rfl) (fun _ => rfl)
theorem kU (self : Value) (x : PySem.Str) (h : x.cps.all (· < 128) = true) (hsz : x.length ≤ sizeLine) : encodeNarrow "str.encode" asciiCodec none self x = pure (x.cps.map (·.toUInt8)) := by
 have hbad : ∀ c ∈ x.cps, asciiCodec.bad c = false := fun c hc => by
  have := Array.all_eq_true.mp h
  obtain ⟨i, hi, rfl⟩ := Array.mem_iff_getElem.mp hc
  have := this i hi
  show decide (_ ≥ 128) = false
  simpa using this
 obtain ⟨U, B, e⟩ := ru self x
 rw [e, Std.Legacy.Range.forIn_eq_forIn_range']
 clear e
 by_cases hz : x.cps.size = 0
 ·have e : x.cps = #[] := Array.eq_empty_of_size_eq_zero hz
  obtain ⟨c⟩ := x
  subst e
  exact qW rfl (by simp)
 ·have hfind : Array.findIdx? asciiCodec.bad x.cps = none := Array.findIdx?_eq_none_iff.mpr hbad
  have hx0 : x.cps[0]? = some x.cps[0] := Array.getElem?_eq_getElem (by lia)
  have hb0 := hbad x.cps[0] (Array.getElem_mem _)
  refine tD (s1 := (x.cps.size, x.cps.map (·.toUInt8), {})) ?_ (fun a => ?_) (fun a => ?_) rfl
  ·intro q
   have := congrArg List.length q
   simp [Std.Legacy.Range.size] at this
   exact hz this
  ·dsimp only
   rw [if_neg (by simp), hx0]
   dsimp only
   rw [hb0]
   simp only [Bool.not_false, if_true, Array.extract_size, hfind, Option.getD_none, Nat.zero_add]
   congr 4
   rw [← Array.foldl_toList, iE]
   obtain ⟨l⟩ := x
   simp
   obtain ⟨l⟩ := l
   simp
  ·dsimp only
   rw [if_neg (by simp; exact hsz), Array.getElem?_eq_none (Nat.le_refl _)]
theorem lr (x : PySem.Str) (t u : Tok) (h : x.cps.all (· < 128) = true) (hsz : x.length ≤ sizeLine) :
  «str.encode» ⟨[.str x t, .str "ascii" u], []⟩ = (do ret (← mkBytes (x.cps.map (·.toUInt8)))) := by
 rw [pi, oN, kU _ _ h hsz]
 rfl
section
variable {prog : Program} {w : World} {ac : Heap} {C : Cx} {mg mb : Str → Option Value} {ρ : List Addr} {σ : St} {s : Shared}
noncomputable def mU (v : V) (vs : List V) (σ : St) : zV V := gS v fun x => g1 vs fun a => gS a fun y => if y = PySem.Str.ofString "ascii" ∧ x.cps.all (· < 128) = true ∧ x.length ≤ sizeLine then .ok (.bytes (x.cps.map (·.toUInt8))) σ else .bad
theorem ix : ex prog w ac C "str" "encode" "str.encode" bH mU where
 pa := F.plainAttrs_str
 slot := F.slot_str_encode
 ty := F.type_str_encode
 self := fun ρ H s v v' r hv hc => fK hv hc
 call := fun ρ σ s v v' vs xs r hv ha => dA (t := fun x => call (.builtin "str.encode") (x :: xs)) hv fun x t => dw (t := fun xs => call (.builtin "str.encode") (.str x t :: xs)) ha fun v z hz => dA (t := fun z => call (.builtin "str.encode") [.str x t, z]) hz fun y u => a8 fun h _ => by
  obtain ⟨rfl, h2, h3⟩ := h
  refine wpAny_call_entry F.slot_str_encode (typeIs_str _ _ _) F.entry_str_encode ?_ (F.args_str_encode_2 _ _)
  rw [lr x t u h2 h3]
  refine wpAny_bind ?_
  exact wpAny_mkBytes (wpAny_pure ⟨_, rfl, zu ⟨_, rfl⟩ (r.toks _)⟩) (by rw [Array.size_map]; exact h3)
end
theorem pp : typeLookup (.type "bytes") "__len__" = pure (some (.builtin "bytes.__len__")) := by rw [typeLookup_type, builtinLookup_eq_fast]; kernel_rfl
section
variable {prog : Program} {w : World} {A : Around} {E : Value → Shared → Prop} {s : Shared}
theorem lw {R : Result → Shared → Prop} (hh : A.handled = none) (x : Array UInt8) (t : Tok) (S : Addr) (res : Value) (c₀ : Nat) (hS : s.heap.get? S = some { cls := .type "list", data := .seq #[] c₀ })
  (hR : ∀ h' tk acc' c', (∀ b o, b ≠ S → s.heap.get? b = some o → h'.get? b = some o) → h'.get? S = some { cls := .type "list", dict := none, data := .seq acc' c', slots := #[] } →
   ItemsOf (fun i v => ∃ c u, x[i]? = some c ∧ v = .int (c.toNat : Int) u) acc' x.size → R (.ok (.ret res)) { s with heap := h', toks := tk }) (hn : x.size ≤ sizeLine) :
  wpAny (model prog w) A.in1 (Builtin.List.listExtendWith (.ref S) (.bytes x t) res)
   (fun fin s' => match fin with | .done f => R (.ok f) s' | .again c' => c'.quiet = true ∧ codeAny (model prog w) A c' R s') (fun e s' => R (.error e) s') s := by
 have hSI : S ≠ s.heap.objs.size := Nat.ne_of_lt (Heap.lt_size hS)
 have hSf : S ∉ [s.heap.objs.size] := fun hm => hSI (List.mem_singleton.mp hm)
 unfold Builtin.List.listExtendWith
 refine wpAny_bind (wpAny_typeOf (T := "bytes") (v := .bytes x t) rfl ?_)
 have h1 : Builtin.List.listSameRef (.ref S) (.bytes x t) = false := rfl
 have h2 : (Value.type "bytes" == Value.type "list") = false := by decide
 have h3 : (Value.type "bytes" == Value.type "tuple") = false := by decide
 simp only [h1, h2, h3, Bool.or_false, Bool.false_eq_true, if_false]
 refine wpAny_bind (KBw.pyIter_bytes ?_)
 refine wpAny_bind (wpAny_holding ?_)
 unfold Builtin.List.listLengthHint
 refine wpAny_bind (wpAny_specialOf (T := "bytes") (v := .bytes x t) rfl pp ?_)
 wp_delta
 refine wpAny_bind (wpAny_isInstance (T := "bytes") (v := .bytes x t) (b := true) rfl (by rw [isSubtype_type]; kernel_rfl) ?_)
 show wpAny _ _ (typeOf (Value.bytes x t) >>= _) _ _ _
 refine wpAny_bind (wpAny_typeOf (T := "bytes") (v := .bytes x t) rfl ?_)
 refine wpAny_pure ?_
 rw [if_neg (by decide)]
 refine wpAny_pure ⟨plainId_quiet F.plain_extend_loop _, codeAny_extend_loopS (KBw.walks (A := A.in1) hh s.heap.objs.size x t).toS hn _ hSf _ x.size 0 _ _ _ rfl (Nat.zero_le _) ⟨_, Heap.get?_push_size _ rfl, rfl, rfl⟩ (Heap.get?_push_of_some _ hS) (ItemsOf.nil _) fun s' acc' c' hm hS' hacc => ?_⟩
 rw [Moved.eq_with hm]
 refine hR s'.heap s'.toks acc' c' (fun b ob hb e => hm.heap b ob (fun hmem => ?_) (Heap.get?_push_of_some _ e)) hS' hacc
 rcases List.mem_cons.mp hmem with e' | hmem
 ·exact hb e'
 ·exact absurd (Heap.lt_size e) (by rw [List.mem_singleton.mp hmem]; exact Nat.lt_irrefl _)
theorem iz {R : Result → Shared → Prop} (hh : A.handled = none) (x : Array UInt8) (t : Tok) (S : Addr) (hS : s.heap.get? S = some { cls := .type "list", data := .seq #[] })
  (hR : ∀ h' tk acc' c', (∀ b o, b ≠ S → s.heap.get? b = some o → h'.get? b = some o) → h'.get? S = some { cls := .type "list", dict := none, data := .seq acc' c', slots := #[] } →
   ItemsOf (fun i v => ∃ c u, x[i]? = some c ∧ v = .int (c.toNat : Int) u) acc' x.size → R (.ok (.ret .none)) { s with heap := h', toks := tk }) (hn : x.size ≤ sizeLine) :
  wpAny (model prog w) A.in1 (Builtin.«list.__init__» ⟨[.ref S, .bytes x t], []⟩)
   (fun fin s' => match fin with | .done f => R (.ok f) s' | .again c' => c'.quiet = true ∧ codeAny (model prog w) A c' R s') (fun e s' => R (.error e) s') s := by
 show wpAny _ _ (do let old ← Builtin.List.listItems (.ref S); Builtin.List.listUpdate (.ref S) (fun _ => #[]); letGo old.toList.reverse; Builtin.List.listExtendWith (.ref S) (.bytes x t) .none) _ _ s
 refine wpAny_bind ?_
 unfold Builtin.List.listItems
 refine wpAny_bind (wpAny_seqItems hS rfl (wpAny_pure ?_))
 show wpAny _ _ (updateSeq S (fun _ => #[]) >>= fun _ => letGo (#[] : Array Value).toList.reverse >>= fun _ => Builtin.List.listExtendWith (.ref S) (.bytes x t) .none) _ _ s
 refine wpAny_bind (wpAny_updateSeq hS rfl ?_)
 have hS₂ := Heap.get?_update_self (Obj.mapSeq (fun _ => (#[] : Array Value))) hS rfl
 have oth : ∀ b o, b ≠ S → s.heap.get? b = some o → (s.heap.update S (Obj.mapSeq (fun _ => (#[] : Array Value)))).get? b = some o :=
  fun b o hb e => (Heap.get?_update_other _ _ (Ne.symm hb)).trans e
 refine wpAny_bind (wpAny_letGo ?_)
 refine lw (hn := hn) hh x t S .none _ hS₂ fun h' tk acc' c' hk hS' hacc => ?_
 exact hR h' tk acc' c' (fun b o hb e => hk b o hb (oth b o hb e)) hS' hacc
theorem iI {Q : Value → Shared → Prop} (hh : A.handled = none) (x : Array UInt8) (t : Tok)
  (hQ : ∀ h' tk acc' c', (∀ b o, s.heap.get? b = some o → h'.get? b = some o) → s.heap.get? s.heap.objs.size = none →
   h'.get? s.heap.objs.size = some { cls := .type "list", dict := none, data := .seq acc' c', slots := #[] } → ItemsOf (fun i v => ∃ c u, x[i]? = some c ∧ v = .int (c.toNat : Int) u) acc' x.size → Q (.ref s.heap.objs.size) { s with heap := h', toks := tk }) (hn : x.size ≤ sizeLine) :
  wpAny (model prog w) A (call (.type "list") [.bytes x t]) Q E s := by
 refine callType_codes (Q₁ := fun obj az => obj = .ref s.heap.objs.size ∧ az = { s with heap := s.heap.push { cls := .type "list", data := .seq #[] } }) F.called_list (F.typeCall_list_1 _) F.entry_list_init
  (code_list_new _ ⟨rfl, rfl⟩) fun obj az ac => ?_
 obtain ⟨rfl, rfl⟩ := ac
 have hS : (s.heap.push { cls := .type "list", data := .seq #[] }).get? s.heap.objs.size = some { cls := .type "list", data := .seq #[] } := Heap.get?_push_size _ rfl
 refine ⟨⟨_, hS, rfl⟩, F.args_list_init_2 _ _, iz (A := A.in1) (hn := hn) hh x t _ hS fun h' tk acc' c' hk hS' hacc => ?_⟩
 exact ⟨rfl, hQ h' tk acc' c' (fun b o e => hk b o (Nat.ne_of_lt (Heap.lt_size e)) (Heap.get?_push_of_some _ e)) (Heap.get?_none_of_le (Nat.le_refl _)) hS' hacc⟩
end
section
variable {prog : Program} {w : World} {ac : Heap} {C : Cx} {mg mb : Str → Option Value} {ρ : List Addr} {σ : St} {s : Shared}
theorem iM {ρ : List Addr} : ∀ {vs : List V} {xs : List Value}, xs.length = vs.length → (∀ (i : Nat) (v : V) (x : Value), vs[i]? = some v → xs[i]? = some x → VR ρ v x) → bL ρ vs xs
 | [], [], _, _ => .nil
 | [], _ :: _, h, _ => by simp at h
 | _ :: _, [], h, _ => by simp at h
 | v :: vs, x :: xs, h, k => .cons (k 0 v x rfl rfl) (iM (by simpa using h) fun i v' x' h1 h2 => k (i + 1) v' x' (by simpa using h1) (by simpa using h2))
noncomputable def qX (vs : List V) (σ : St) : zV V := g1 vs fun v => gY v fun b => if b.size ≤ sizeLine then .ok (.ref σ.heap.length) { σ with heap := σ.heap ++ [.list (b.toList.map fun c => .int c.toNat)] } else .bad
theorem Step.own (r : zT prog w ac C ρ σ s) {h' : Heap} {tk : Nat} (hk : ∀ b o, s.heap.get? b = some o → h'.get? b = some o) {a : Addr} {o : O} {ob : Obj} (ha : s.heap.get? a = none) (hs : a ≠ sysModules) (ho : h'.get? a = some ob) (hr : zX prog w (ρ ++ [a]) o ob) :
  Step prog w ac C ρ σ s (ρ ++ [a]) { σ with heap := σ.heap ++ [o] } { s with heap := h', toks := tk } := by
 have st := r.keep (s' := { s with heap := h', toks := tk }) hk ⟨rfl, rfl, rfl⟩
 have hna : a ∉ ρ := fun hm => bo r _ (.inl hm) ha
 have r1 := st.rel
 have hl := r1.hp.len
 refine ⟨⟨⟨r1.hp.base, by simp [hl], fun l o' x h e => ?_, ?_, fun x hx => ?_, fun l es ep x h e => ?_, r1.hp.main⟩, ?_, ⟨r1.lnew.1, fun hm => ?_⟩, fun p hp => ?_, r1.frs, fun e he L hL => ⟨fun hm => ?_, (r1.frn e he L hL).2⟩, r1.locs⟩, ⟨[a], rfl, fun x hx => by simp at hx; subst hx; exact ha⟩, st.pres, st.loc, st.rest⟩
 ·by_cases hlt : l < ρ.length
  ·rw [List.getElem?_append_left hlt] at e
   rw [List.getElem?_append_left (by lia)] at h
   obtain ⟨ob', g1, g2⟩ := r1.hp.obj l o' x h e
   exact ⟨ob', g1, g2.mono⟩
  ·have : l = ρ.length := by
    have := (List.getElem?_eq_some_iff.mp e).1
    simp at this; lia
   subst this
   rw [List.getElem?_append_right (Nat.le_refl _)] at e
   rw [hl, List.getElem?_append_right (Nat.le_refl _)] at h
   simp at e h
   subst e h
   exact ⟨ob, ho, hr⟩
 ·exact List.nodup_append.mpr ⟨r1.hp.nodup, by simp, fun x hx y hy => by simp at hy; subst hy; intro e; subst e; exact hna hx⟩
 ·rcases List.mem_append.mp hx with h | h
  ·exact r1.hp.new x h
  ·simp at h; subst h
   cases q : ac.get? x with
   | none => rfl
   | some o => rw [r.hp.base _ _ q] at ha; cases ha
 ·by_cases hlt : l < ρ.length
  ·rw [List.getElem?_append_left hlt] at e
   rw [List.getElem?_append_left (by lia)] at h
   exact r1.hp.sys l es ep x h e
  ·have : l = ρ.length := by
    have := (List.getElem?_eq_some_iff.mp e).1
    simp at this; lia
   subst this
   rw [List.getElem?_append_right (Nat.le_refl _)] at e
   simp at e
   subst e
   exact hs
 ·obtain ⟨m, hm, hv⟩ := r1.ns
  exact ⟨m, hm, fun p hp => (hv p hp).mono⟩
 ·rcases List.mem_append.mp hm with h | h
  ·exact r1.lnew.2 h
  ·simp at h
   exact bo r _ (.inr (.inl rfl)) (h ▸ ha)
 ·obtain ⟨g1, g2, g3, v, g4, g5⟩ := r1.cel p hp
  refine ⟨g1, fun hm => ?_, g3, v, g4, g5.mono⟩
  rcases List.mem_append.mp hm with h | h
  ·exact g2 h
  ·simp at h
   exact bo r _ (.inr (.inr ⟨p, hp, rfl⟩)) (h ▸ ha)
 ·obtain ⟨_, L', o', es, k, hf', _, ho', hd'⟩ := r.frs e he
  rw [hL] at hf'; cases hf'
  rcases List.mem_append.mp hm with h | h
  ·exact (r1.frn e he L hL).1 h
  ·simp at h; subst h; rw [ha] at ho'; cases ho'
theorem qd (hh : C.A.handled = none) : cS prog w ac C (.type "list") av qX := fun ρ σ s vs xs r ha =>
 dw (t := fun xs => call (.type "list") xs) ha fun v x hv => wG (t := fun x => call (.type "list") [x]) hv fun b t => a8 fun h _ => by
  refine iI hh b t (fun h' tk acc c hk hnone hg hi => ?_) h
  refine zu (ρ' := ρ ++ [s.heap.objs.size]) ⟨_, bv r.hp _, rfl⟩ (Step.own r hk hnone r.hp.notSys hg ⟨acc.toList, c, by simp, ?_⟩)
  refine iM (by simp [hi.1]) fun i v x h1 h2 => ?_
  obtain ⟨cc, u, e1, rfl⟩ := hi.2 i x (by simpa using h2)
  rw [List.getElem?_map] at h1
  have : b.toList[i]? = some cc := by simpa using e1
  rw [this] at h1; cases h1
  exact ⟨u, rfl⟩
noncomputable def nI (i : Nat) (q a b : PySem.Str) : St → zV V := fun σ => gO (σ.loc[i]?).join fun v => gS v fun x => if x.length ≤ 1000 ∧ q.length ≤ 1000 ∧ b.length ≤ 1000 ∧ (q.length + (Txt.replace x a b).length ≤ sizeLine) ∧ (a == b) = false then .ok (.str (q ++ Txt.replace x a b)) σ else .bad
theorem p8 (ok : C.Ok) {x : PySem.Str} {i : Nat} {q a b : PySem.Str} {k1 k2 k3 : Nat} {p1 p2 p3 np apos pos pos' : Pos} (hx : (x, i) ∈ C.vars) (hd : (x == ("__debug__" : PySem.Str)) = false)
  (hse : starEach [.Constant (.str a) k2 p2, .Constant (.str b) k3 p3] C.env = [(false, eval (.Constant (.str a) k2 p2) C.env), (false, eval (.Constant (.str b) k3 p3) C.env)])
  (hbase : attributeBase (.Name x np) "replace" C.env (eval (.Name x np) C.env) = eval (.Name x np) C.env)
  (hfew : ((backTo pos (starEach [.Constant (.str a) k2 p2, .Constant (.str b) k3 p3] C.env)).all (fun x => !x.1) && (backToKw pos (keywordEach [] C.env)).all (fun x => x.1.isSome) && decide ([Expr.Constant (.str a) k2 p2, Expr.Constant (.str b) k3 p3].length + ([] : List Keyword).length + (if ([] : List Keyword).isEmpty then 0 else 1) < 30)) = true)
  (hline : (apos.endLine == pos.line) = true) :
  bi prog w ac C (nI i q a b) (eval (.BinOp (.Constant (.str q) k1 p1) .Add (.Call (.Attribute (.Name x np) "replace" apos) [.Constant (.str a) k2 p2, .Constant (.str b) k3 p3] [] pos) pos') C.env) := by
 refine fun ρ σ s r => bA fun v hy => ?_
 obtain ⟨m, hm, hv⟩ := r.ns
 have hvx := hv (x, i) hx
 rw [show (σ.loc[(x, i).2]?).join = some v from hy] at hvx
 obtain ⟨_, e, hvx⟩ := hvx
 refine bA fun y hy => a8 fun ⟨c1, c2, c3, c4, c5⟩ _ => ?_
 cases bS lG hy
 obtain ⟨t, rfl⟩ := hvx
 refine wpAny_BinOp ?_
 show wpAny _ _ (constValue C.env (.str q)) _ _ s
 refine wpAny_mkText ?_
 refine wpAny_Call_method_lateS hbase hfew hline (wpAny_Name (wpAny_loadName_local ok.kind (ok.loc _ hx) (s := { s with toks := s.toks + 1 }) hm e ?_) hd)
 refine ⟨"str", "str.replace", F.plainAttrs_str, F.slot_str_replace, F.type_str_replace, typeIs_str _ _ _, fun b e => (by cases e), ?_⟩
 rw [hse]
 refine callWith_builtin rfl (cx rfl (spliced_cons ?_))
 show wpAny _ _ (constValue C.env (.str a)) _ _ _
 refine wpAny_mkText (spliced_cons ?_)
 show wpAny _ _ (constValue C.env (.str b)) _ _ _
 refine wpAny_mkText (spliced_nil ?_)
 have hb : y.length + (y.length + 1) * b.length ≤ 16777216 := by
  have : (y.length + 1) * b.length ≤ 1001 * 1000 := Nat.mul_le_mul (by lia) c3
  lia
 refine SC.replace (by simp) (by simp) (by simp) c5 hb fun t' k => ?_
 refine PyProof.Rows.add_str (fun t'' k' => zu ⟨_, rfl⟩ (r.toks _)) ?_
 exact c4
end
end
noncomputable def ew (n : Nat) (dv : List V) : List V → List O → Option (List V × List O) := fun vs H => if vs.length = n then some (vs ++ dv, H) else none
noncomputable def wz (n : Nat) : List V → List O → Option (List V × List O) := fun vs H => if n ≤ vs.length ∧ vs.length ≤ 1000 then some (vs.take n ++ [.ref H.length], H ++ [.tup (vs.drop n)]) else none
section
variable {prog : Program} {w : World} {ac : Heap} {fd : FuncData} {params : List Str} {mk : List Value → Args}
theorem bind_ok {n : Nat} {dv : List V} {dx : List Value} (hd : ∀ ρ, bL ρ dv dx) (hl : params.length = n + dx.length)
  (hB : ∀ (s : Shared) xs, ac.StaysIn s.heap → xs.length = n → BindsTo s fd (mk xs) (params.zip (xs ++ dx))) : oA prog w ac fd params mk (ew n dv) := by
 intro A ρ H s vs xs ps b8 r ha hb
 unfold ew at hb
 split at hb
 ·rename_i h
  cases hb
  refine hB s xs r.base (by rw [ha.length, h]) _ _ _ _ ⟨ρ, xs ++ dx, rfl, ?_, ha.append (hd ρ), .refl r⟩
  rw [List.length_append, ha.length, h, hl]
 ·cases hb
theorem rB {n : Nat} (hl : params.length = n + 1) (hB : ∀ xs rest : List Value, xs.length = n → bindArgs fd ⟨xs ++ rest, []⟩ = (do let t ← newTuple rest; pure (params.zip (xs ++ [t])))) : oA prog w ac fd params av (wz n) := by
 intro A ρ H s vs xs ps b8 r ha hb
 unfold wz at hb
 split at hb
 ·rename_i h
  cases hb
  have e : xs = xs.take n ++ xs.drop n := (List.take_append_drop n xs).symm
  have ht : (xs.take n).length = n := by rw [List.length_take, ha.length]; lia
  show wpAny _ _ (bindArgs fd ⟨xs, []⟩) _ _ _
  rw [e, hB _ _ ht]
  refine wpAny_bind (wpAny_newTuple (wpAny_pure ?_) (by rw [List.length_drop, ha.length]; exact Nat.le_trans (Nat.sub_le _ _) (Nat.le_trans h.2 (by decide))))
  have st := cF.alloc r (o := .tup (vs.drop n)) (ob := { cls := .type "tuple", data := .seq (xs.drop n).toArray }) (t := s.toks) rfl ⟨xs.drop n, 0, rfl, (ha.drop n).mono⟩
  refine ⟨ρ ++ [s.heap.objs.size], _, rfl, ?_, (ha.take n).mono.append (.one ⟨_, bv r _, rfl⟩), st⟩
  rw [List.length_append, ht, hl]; rfl
 ·cases hb
theorem iH {α : Type} {l : List α} {n : Nat} (h : l.length = n + 1) : ∃ a r, l = a :: r ∧ r.length = n := by
 cases l with
 | nil => cases h
 | cons a r => exact ⟨a, r, rfl, Nat.succ.inj h⟩
theorem cB {α : Type} {xs : List α} (h : xs.length = 1) : ∃ a, xs = [a] := by
 obtain ⟨a, r, rfl, k⟩ := iH h
 exact ⟨a, congrArg _ (List.eq_nil_of_length_eq_zero k)⟩
theorem eF {α : Type} {xs : List α} (h : xs.length = 2) : ∃ a b, xs = [a, b] := by
 obtain ⟨a, r, rfl, k⟩ := iH h
 obtain ⟨b, rfl⟩ := cB k
 exact ⟨a, b, rfl⟩
end
structure Ctx (C : Cx) (names : List (Str × NameKind)) (vars : List (Str × Nat)) (cells : List (Str × Nat × Addr)) (k : Nat) : Prop where
 ok : C.Ok
 kind : ∀ y q, names.lookup y = some q → q ≠ .free → C.env.kindOf y = some q
 vars : C.vars = vars
 cells : C.cells = cells
 k : C.k = k
theorem mem_lookup {β : Type} {l : List (Str × β)} {x : Str} {b : β} (h : l.lookup x = some b) : (x, b) ∈ l := by
 induction l with
 | nil => cases h
 | cons p l ih =>
  rw [show p = (p.1, p.2) from rfl, List.lookup_cons] at h
  cases hcp : x == p.1 with
  | true => rw [hcp] at h; cases h; rw [beq_iff_eq.mp hcp]; exact .head _
  | false => rw [hcp] at h; exact .tail _ (ih h)
structure bB (K : Frag) (ac : Heap) (mg mb : Str → Option Value) : Prop where
 X : K.In ac
 T : yK ac mg mb
 R : ∃ p loose, TopRead p loose mg mb ac
section
variable {prog : Program} {w : World} {ac : Heap} {C : Cx} {mg mb : Str → Option Value} {K : Frag} {names : List (Str × NameKind)} {vars : List (Str × Nat)} {cells : List (Str × Nat × Addr)} {k : Nat}
theorem ak (G : Ctx C names vars cells k) {x : Str} {i : Nat} {pos : Pos} (h : vars.lookup x = some i) (hd : (x == ("__debug__" : Str)) = false) : bi prog w ac C (ai i) (eval (.Name x pos) C.env) :=
 u0 G.ok (by rw [G.vars]; exact mem_lookup h) hd
theorem eq (G : Ctx C names vars cells k) {x : Str} {i : Nat} {a : Addr} {pos : Pos} (h : cells.lookup x = some (i, a)) (hd : (x == ("__debug__" : Str)) = false) (hq : (x == ("__classdict__" : Str)) = false) : bi prog w ac C (ai i) (eval (.Name x pos) C.env) :=
 ss (a := a) G.ok (by rw [G.cells]; exact mem_lookup h) hd hq
noncomputable def vOf : Value → V
 | .none => .none
 | .bool b => .bool b
 | .int i _ => .int i
 | .str x _ => .str x
 | .bytes b _ => .bytes b
 | .type n => .type n
 | .builtin n => .blt n
 | .ref a => .top a
 | _ => .none
noncomputable def y4 : Value → Bool
 | .none | .bool _ | .int .. | .str .. | .bytes .. | .type _ | .builtin _ | .ref _ => true
 | _ => false
theorem ub {ρ : List Addr} {v : Value} (h : y4 v = true) : VR ρ (vOf v) v := by
 cases v <;> first | exact ⟨_, rfl⟩ | rfl | cases h
theorem eo (G : Ctx C names vars cells k) (T : bB K ac mg mb) {x : Str} {pos : Pos} {v : V} {v' : Value} (hk : names.lookup x = some .globalImplicit) (hg : nsIn K mainGlobals x = some (some v')) (ho : y4 v' = true) (hv : vOf v' = v) (hd : (x == ("__debug__" : Str)) = false) :
  bi prog w ac C (aa v) (eval (.Name x pos) C.env) :=
 nA G.ok T.T (G.kind _ _ hk (by intro q; cases q)) (mg_of T.X T.T.g hg) (fun ρ => hv ▸ ub ho) hd
theorem dz (G : Ctx C names vars cells k) (T : bB K ac mg mb) {x : Str} {pos : Pos} {v : V} {v' : Value} (hk : names.lookup x = some .globalImplicit) (hg : nsIn K mainGlobals x = some none) (hb : bootBuiltins x = some v') (ho : y4 v' = true) (hv : vOf v' = v) (hn : (x == ("__name__" : Str)) = false) (hd : (x == ("__debug__" : Str)) = false) :
  bi prog w ac C (aa v) (eval (.Name x pos) C.env) :=
 nB G.ok T.T (G.kind _ _ hk (by intro q; cases q)) (ns_none_of T.X T.T.g hg) (by intro q; subst q; cases hn) hb (fun ρ => hv ▸ ub ho) hd
theorem ax (G : Ctx C names vars cells k) {x : Str} {i : Nat} {pos : Pos} (h : vars.lookup x = some i) : j4 prog w ac C (ao i) (.Name x pos) := fJ G.ok (by rw [G.vars]; exact mem_lookup h)
theorem ij (G : Ctx C names vars cells k) {x : Str} {i : Nat} {a : Addr} {pos : Pos} (h : cells.lookup x = some (i, a)) (hk : names.lookup x = some .cell) : j4 prog w ac C (ao i) (.Name x pos) :=
 kF (c := a) G.ok (by rw [G.cells]; exact mem_lookup h) (G.kind _ _ hk (by intro q; cases q))
theorem xR (G : Ctx C names vars cells k) {op : Operator} {x : Str} {i : Nat} {m : St → zV V} {v : Expr} {p pos : Pos} (h : vars.lookup x = some i) (hv : bi prog w ac C m (eval v C.env)) : gL prog w ac C (w0 op i m) (.AugAssign (.Name x p) op v pos) :=
 u5 G.ok (by rw [G.vars]; exact mem_lookup h) hv
theorem fL (X : K.In ac) {M : Model} {f : Value} (h : keepIn K f = true) : Keeps ac M f := fun h' hk => keeps_K h h' (X.keeps hk)
theorem aF (ok : C.Ok) : interactive C.env = false := by
 unfold interactive
 rw [ok.kind]; rfl
theorem jQ (X : K.In ac) {fa : Addr} {oc : Value} {od : Option Addr} {fd : FuncData} {osl : Array (Option Value)} {body : List Stmt} (h : K.lookup fa = some ⟨oc, od, .func fd, osl⟩) (hc : codeIn K fd.code fd.qualname = true) (hb : fd.body = .stmts body) (h1 : fd.closure = []) (h2 : fd.globals = mainGlobals)
  (h3 : fd.builtins = builtinsNs) (h4 : fd.scope.isCoroutine = false) (h5 : fd.scope.isGenerator = false) (h6 : fd.scope.kind = .function) : wR ac fa fd body :=
 ⟨⟨_, X _ _ h, rfl⟩, codeRec_of X hc, hb, h1, h2, h3, h4, h5, h6⟩
end
section
variable {prog : Program} {w : World} {ac : Heap} {C : Cx} {mg mb : Str → Option Value} {K : Frag} {names : List (Str × NameKind)} {vars : List (Str × Nat)} {cells : List (Str × Nat × Addr)} {k : Nat}
theorem uC (G : Ctx C names vars cells k) (hh : C.A.handled = none) {kf : Nat} {f : Value} {mk : List Value → Args} {m : cY} (hf : dy prog w ac kf f mk m) (hkf : Nat.ble kf k = true) : cS prog w ac C f mk (bJ m) :=
 ql G.ok hh (by rw [G.k]; exact Nat.le_of_ble_eq_true hkf) hf
theorem sY {kf fa : Nat} {m : cY} (x : Str) (hf : dy prog w ac kf (.ref fa) av m) (G : Ctx C names vars cells k) (T : bB K ac mg mb) (hh : C.A.handled = none) {ma : St → zV (List V)} {np pos : Pos} {args : List Expr}
  (hkf : Nat.ble kf k = true) (hn : names.lookup x = some .globalImplicit) (hg : nsIn K mainGlobals x = some (some (.ref fa))) (hd : (x == ("__debug__" : Str)) = false) (hk : keepIn K (.ref fa) = true)
  (ha : bK prog w ac C ma pos args) (hp : (backTo pos (starEach args C.env)).any (·.1) = false) : bi prog w ac C (aC ma (bJ m)) (eval (.Call (.Name x np) args [] pos) C.env) :=
 fG (fL T.X hk) (eo G T hn hg rfl rfl hd) (fun _ _ h => h) ha (uC G hh hf hkf) hp
theorem d5 {id : String} {g : List V → St → zV V} (x : Str) (hf : cS prog w ac C (.builtin id) av g) (G : Ctx C names vars cells k) (T : bB K ac mg mb) {ma : St → zV (List V)} {np pos : Pos} {args : List Expr}
  (hn : names.lookup x = some .globalImplicit) (hg : nsIn K mainGlobals x = some none) (hb : bootBuiltins x = some (.builtin id)) (hnn : (x == ("__name__" : Str)) = false) (hd : (x == ("__debug__" : Str)) = false)
  (ha : bK prog w ac C ma pos args) (hp : (backTo pos (starEach args C.env)).any (·.1) = false) : bi prog w ac C (aC ma g) (eval (.Call (.Name x np) args [] pos) C.env) :=
 fG (v := .blt id) q8 (dz G T hn hg hb rfl rfl hnn hd) (fun _ _ h => h) ha hf hp
theorem cI {id : String} {g : List V → St → zV V} (x : Str) (hf : cS prog w ac C (.type id) av g) (G : Ctx C names vars cells k) (T : bB K ac mg mb) {ma : St → zV (List V)} {np pos : Pos} {args : List Expr}
  (hn : names.lookup x = some .globalImplicit) (hg : nsIn K mainGlobals x = some none) (hb : bootBuiltins x = some (.type id)) (hnn : (x == ("__name__" : Str)) = false) (hd : (x == ("__debug__" : Str)) = false)
  (ha : bK prog w ac C ma pos args) (hp : (backTo pos (starEach args C.env)).any (·.1) = false) : bi prog w ac C (aC ma g) (eval (.Call (.Name x np) args [] pos) C.env) :=
 fG (v := .type id) pf (dz G T hn hg hb rfl rfl hnn hd) (fun _ _ h => h) ha hf hp
theorem i7 {kf fa c : Nat} {m : cY} (name : Str) (hf : dy prog w ac kf (.ref fa) av m) (Mi : fq K c name fa) (G : Ctx C names vars cells k) (T : bB K ac mg mb) (hh : C.A.handled = none) {mo : St → zV V} {ma : St → zV (List V)} {o : Expr} {apos pos : Pos} {args : List Expr} {pl : Sem Bool}
  (hkf : Nat.ble kf k = true) (hk : keepIn K (.ref fa) = true) (ho : bi prog w ac C mo (eval o C.env)) (ha : gA prog w ac C av ma (.ref fa) (backTo pos (starEach args C.env)) (backToKw pos (keywordEach [] C.env))) (hp : jt (backTo pos (starEach args C.env)) (backToKw pos (keywordEach [] C.env)))
  (he : eval (.Call (.Attribute o name apos) args [] pos) C.env = (do
   let ov ← eval o C.env
   standAt apos.atName
   let (f, first) ← holding [ov] (getMethod ov name pl)
   callWith pos f first (backTo pos (starEach args C.env)) (backToKw pos (keywordEach [] C.env)))) :
  bi prog w ac C (cW (bP c name) (bJ m) mo ma) (eval (.Call (.Attribute o name apos) args [] pos) C.env) :=
 sj T.X Mi (fL T.X hk) ho ha (uC G hh hf hkf) hp he
theorem fx {x : Str} {c : Addr} {bm : List Value} {newId B initId : String} (G : Ctx C names vars cells k) (T : bB K ac mg mb) (hh : C.A.handled = none) (O : OwnCls x c bm newId mg ac) (FB : ExcBaseFacts B newId initId bm) {ma : St → zV (List V)} {np cpos pos : Pos} {args : List Expr}
  (hn : names.lookup x = some .globalImplicit) (hg : nsIn K mainGlobals x = some (some (.ref c))) (hd : (x == ("__debug__" : Str)) = false) (ha : bK prog w ac C ma cpos args) (hp : (backTo cpos (starEach args C.env)).any (·.1) = false) :
  gL prog w ac C (cK (.top c) ma) (.Raise (some (.Call (.Name x np) args [] cpos)) none pos) :=
 p7 O FB hh (eo G T hn hg rfl rfl hd) ha hp
theorem l8 (T : bB K ac mg mb) {x : Str} {c : Addr} {bmB : List Value} {newId : String} (e : nsIn K mainGlobals x = some (some (.ref c))) (q : excIn K c bmB newId = true) : OwnCls x c bmB newId mg ac := by
 obtain ⟨p, l, R⟩ := T.R
 exact own_of_in T.X R e q
noncomputable def jd : List Str → Bool
 | [] => true
 | x :: xs => !xs.contains x && jd xs
theorem gV : ∀ {l : List Str}, jd l = true → l.Nodup
 | [], _ => .nil
 | x :: xs, h => by
  unfold jd at h
  rw [Bool.and_eq_true] at h
  refine List.nodup_cons.mpr ⟨?_, gV h.2⟩
  have := h.1
  intro hm
  rw [List.contains_iff_mem.mpr hm] at this
  cases this
theorem fj (fs : List (Str × Nat × Addr)) (G : Ctx C names vars cells k) (hh : C.A.handled = none) {x : Str} {px pos : Pos} {scope : Scope} {iter elt : Expr} {ifs : List Expr} {mi : St → zV V} {tests : St → zV Bool} {me : St → zV V} {j : Nat}
  (hkind : scope.kind = .function) (hnl : (scope.names.all fun y => y.2 != .local || scope.names.lookup y.1 == some .local) = true) (hfree : (scope.names.filter (·.2 == .free)).map (·.1) = fs.map (·.1)) (hfs : (fs.map fun p => cells.lookup p.1) = fs.map fun p => some p.2)
  (hs : ∀ x, foldedSetIterable iter C.env x = pure x) (hi : bi prog w ac C mi (eval iter C.env))
  (hfl : (fs.all fun p => scope.names.lookup p.1 == some .free) = true) (hfn : jd (fs.map (·.1)) = true) (hnc : (scope.names.all fun y => y.2 != .cell) = true) (hx : scope.names.lookup x = some .local)
  (body : ∀ C', Ctx C' scope.names [(x, j)] fs k → C'.A.handled = none → zS prog w ac C' gK tests (fu ifs C'.env) ∧ bi prog w ac C' me (eval elt C'.env)) :
  bi prog w ac C (bI j mi tests me) (eval (.ListComp elt [⟨.Name x px, iter, ifs, 0⟩] scope pos) C.env) := by
 have hfs' : ∀ p ∈ fs, p ∈ C.cells := fun p hp => by
  have := List.map_inj_left.mp hfs p hp
  rw [G.cells]
  exact mem_lookup (b := p.2) this
 have hfl' : ∀ p ∈ fs, scope.names.lookup p.1 = some .free := fun p hp => by
  have := List.all_eq_true.mp hfl p hp
  simpa using this
 refine sr (Shape := eS C scope [(x, j)] [] fs) G.ok hh hs (gy G.ok hfs' hfree) hkind (fun y hy hl => ?_) hi (fun hlt s Q E hal h => i9 G.ok hfs' hfl' (gV hfn) hkind (fun y hy => ?_) hx hlt s Q E hal h) fun C' sh hA => ?_
 ·have := List.all_eq_true.mp hnl y hy
  simpa [hl] using this
 ·have := List.all_eq_true.mp hnc y hy
  simpa using this
 ·obtain ⟨ok', v', ⟨L, c'⟩, k', kd⟩ := sh
  have G' : Ctx C' scope.names [(x, j)] fs k := ⟨ok', kd, v', by rw [c']; rfl, k'.trans G.k⟩
  exact ⟨(body C' G' (hA ▸ hh)).1, (body C' G' (hA ▸ hh)).2, fJ ok' (by rw [v']; exact .head _)⟩
theorem kP (fs : List (Str × Nat × Addr)) (G : Ctx C names vars cells k) (hh : C.A.handled = none) {x y : Str} {i : Nat} {px py pos spos : Pos} {scope : Scope} {iter elt : Expr} {ifs : List Expr} {mi : St → zV V} {tests : St → zV Bool} {me : St → zV V} {j : Nat}
  (hy : vars.lookup y = some i) (hyk : names.lookup y = some .local) (hsw : ∀ env : Env, env.scope.kind = .function → env.kindOf y = some .local → swapsWith (.ListComp elt [⟨.Name x px, iter, ifs, 0⟩] scope pos) (some (.Name y py)) spos.line env = pure true)
  (hkind : scope.kind = .function) (hnl : (scope.names.all fun y => y.2 != .local || scope.names.lookup y.1 == some .local) = true) (hfree : (scope.names.filter (·.2 == .free)).map (·.1) = fs.map (·.1)) (hfs : (fs.map fun p => cells.lookup p.1) = fs.map fun p => some p.2)
  (hs : ∀ x, foldedSetIterable iter C.env x = pure x) (hi : bi prog w ac C mi (eval iter C.env))
  (hfl : (fs.all fun p => scope.names.lookup p.1 == some .free) = true) (hfn : jd (fs.map (·.1)) = true) (hnc : (scope.names.all fun y => y.2 != .cell) = true) (hx : scope.names.lookup x = some .local)
  (body : ∀ C', Ctx C' scope.names [(x, j)] fs k → C'.A.handled = none → zS prog w ac C' gK tests (fu ifs C'.env) ∧ bi prog w ac C' me (eval elt C'.env)) :
  gL prog w ac C (an (bI j mi tests me) (ao i)) (.Assign [.Name y py] (.ListComp elt [⟨.Name x px, iter, ifs, 0⟩] scope pos) spos) := by
 have hfs' : ∀ p ∈ fs, p ∈ C.cells := fun p hp => by
  have := List.map_inj_left.mp hfs p hp
  rw [G.cells]
  exact mem_lookup (b := p.2) this
 have hfl' : ∀ p ∈ fs, scope.names.lookup p.1 = some .free := fun p hp => by
  have := List.all_eq_true.mp hfl p hp
  simpa using this
 refine fh (Shape := eS C scope [(x, j)] [] fs) G.ok hh (by rw [G.vars]; exact mem_lookup hy) (hsw _ G.ok.kind (G.kind _ _ hyk (by intro q; cases q))) hs (gy G.ok hfs' hfree) hkind (fun y hy hl => ?_) hi (fun hlt s Q E hal h => i9 G.ok hfs' hfl' (gV hfn) hkind (fun y hy => ?_) hx hlt s Q E hal h) fun C' sh hA => ?_
 ·have := List.all_eq_true.mp hnl y hy
  simpa [hl] using this
 ·have := List.all_eq_true.mp hnc y hy
  simpa using this
 ·obtain ⟨ok', v', ⟨L, c'⟩, k', kd⟩ := sh
  have G' : Ctx C' scope.names [(x, j)] fs k := ⟨ok', kd, v', by rw [c']; rfl, k'.trans G.k⟩
  exact ⟨(body C' G' (hA ▸ hh)).1, (body C' G' (hA ▸ hh)).2, fJ ok' (by rw [v']; exact .head _)⟩
theorem jH (fs : List (Str × Nat × Addr)) (G : Ctx C names vars cells k) (hh : C.A.handled = none) {x y : Str} {i : Nat} {px py pos spos : Pos} {scope : Scope} {iter elt : Expr} {ifs : List Expr} {mi : St → zV V} {tests : St → zV Bool} {me : St → zV V} {j : Nat}
  (hy : vars.lookup y = some i) (hyk : names.lookup y = some .local) (hsw : ∀ env : Env, env.scope.kind = .function → env.kindOf y = some .local → swapsWith (.ListComp elt [⟨.Name x px, iter, ifs, 0⟩] scope pos) (some (.Name y py)) spos.line env = pure true)
  (hkind : scope.kind = .function) (hnl : (scope.names.all fun y => y.2 != .local || scope.names.lookup y.1 == some .local) = true) (hfree : (scope.names.filter (·.2 == .free)).map (·.1) = fs.map (·.1)) (hfs : (fs.map fun p => cells.lookup p.1) = fs.map fun p => some p.2)
  (hs : ∀ x, foldedSetIterable iter C.env x = pure x) (hi : bi prog w ac C mi (eval iter C.env))
  (hfl : (fs.all fun p => scope.names.lookup p.1 == some .free) = true) (hfn : jd (fs.map (·.1)) = true) (hc1 : ∀ n cl, cellsFrom n scope.names cl = (x, n) :: cl) (hc2 : ∀ h, pushCells h scope.names = h.push { cls := .type "cell", data := .cell none }) (hx : scope.names.lookup x = some .cell)
  (body : ∀ C' L, Ctx C' scope.names [] ((x, j, L) :: fs) k → C'.A.handled = none → zS prog w ac C' gK tests (fu ifs C'.env) ∧ bi prog w ac C' me (eval elt C'.env)) :
  gL prog w ac C (an (bI j mi tests me) (ao i)) (.Assign [.Name y py] (.ListComp elt [⟨.Name x px, iter, ifs, 0⟩] scope pos) spos) := by
 have hfs' : ∀ p ∈ fs, p ∈ C.cells := fun p hp => by
  have := List.map_inj_left.mp hfs p hp
  rw [G.cells]
  exact mem_lookup (b := p.2) this
 have hfl' : ∀ p ∈ fs, scope.names.lookup p.1 = some .free := fun p hp => by
  have := List.all_eq_true.mp hfl p hp
  simpa using this
 refine fh (Shape := eS C scope [] [(x, j)] fs) G.ok hh (by rw [G.vars]; exact mem_lookup hy) (hsw _ G.ok.kind (G.kind _ _ hyk (by intro q; cases q))) hs (gy G.ok hfs' hfree) hkind (fun y hy hl => ?_) hi (fun hlt s Q E hal h => qG G.ok hfs' hfl' (gV hfn) hkind hc1 hc2 hx hlt s Q E hal h) fun C' sh hA => ?_
 ·have := List.all_eq_true.mp hnl y hy
  simpa [hl] using this
 ·obtain ⟨ok', v', ⟨L, c'⟩, k', kd⟩ := sh
  have G' : Ctx C' scope.names [] ((x, j, L) :: fs) k := ⟨ok', kd, v', by rw [c']; rfl, k'.trans G.k⟩
  exact ⟨(body C' L G' (hA ▸ hh)).1, (body C' L G' (hA ▸ hh)).2, kF ok' (c := L) (by rw [c']; exact .head _) (kd _ _ hx (by intro q; cases q))⟩
theorem nn {x y : Str} {px py pos spos : Pos} {scope : Scope} {iter elt : Expr} {ifs : List Expr} (h1 : (py.line == pos.line) = true) (h2 : (!(scope.names.any fun (n, k) => n == y && (k == .local || k == .cell))) = true) :
  ∀ env : Env, env.scope.kind = .function → env.kindOf y = some .local → swapsWith (.ListComp elt [⟨.Name x px, iter, ifs, 0⟩] scope pos) (some (.Name y py)) spos.line env = pure true := by
 intro env hk hy
 have hb : (env.blockKind == .function) = true := by
  unfold Env.blockKind
  first | (rw [hk]; rfl) | simp [hk]
 show (pure (env.blockKind == .function && env.kindOf y == some .local && py.line == pos.line && !(scope.names.any fun (n, k) => n == y && (k == .local || k == .cell))) : Sem Bool) = pure true
 rw [hb, hy, h1, h2]
 rfl
end
section
variable {prog : Program} {w : World} {ac : Heap} {mg mb : Str → Option Value} {K : Frag}
theorem hX {C : Cx} {scope : Scope} {k : Nat} (ok : C.Ok) (hsc : C.env.scope = scope) {vars : List (Str × Nat)} (hv : C.vars = vars) {cells : List (Str × Nat × Addr)} (hc : C.cells = cells) (hk : C.k = k) : Ctx C scope.names vars cells k :=
 ⟨ok, fun y q h _ => by unfold Env.kindOf; rw [hsc]; exact h, hv, hc, hk⟩
theorem b7 (T : bB K ac mg mb) (fa : Nat) {oc : Value} {od : Option Addr} {fd : FuncData} {osl : Array (Option Value)} {body : List Stmt} (params others : List Str) (n : Nat) (dv : List V) (dx : List Value) (mk : List Value → Args) (k : Nat) {m : St → zV F} {N : Nat} {names : List (Str × NameKind)}
  (h : K.lookup fa = some ⟨oc, od, .func fd, osl⟩) (hc : codeIn K fd.code fd.qualname = true) (hb : fd.body = .stmts body) (h1 : fd.closure = []) (h2 : fd.globals = mainGlobals)
  (h3 : fd.builtins = builtinsNs) (h4 : fd.scope.isCoroutine = false) (h5 : fd.scope.isGenerator = false) (h6 : fd.scope.kind = .function) (h7 : fd.scope.names = names)
  (hd : ∀ ρ, bL ρ dv dx) (hl : params.length = n + dx.length) (hB : ∀ (s : Shared) xs, ac.StaysIn s.heap → xs.length = n → BindsTo s fd (mk xs) (params.zip (xs ++ dx)))
  (hnd : (params ++ others).Nodup) (hloc : ((params ++ others).all fun x => names.lookup x == some .local) = true) (hcell : (names.all fun y => y.2 != .cell) = true) (hN : (params ++ others).length = N)
  (body' : ∀ C : Cx, Ctx C names (params ++ others).zipIdx [] k → C.A.handled = none → fW prog w ac C m body) :
  dy prog w ac (k + 1) (.ref fa) mk (dj N (ew n dv) m) := by
 subst h7
 subst hN
 refine nC T.T (jQ T.X h hc hb h1 h2 h3 h4 h5 h6) (bind_ok hd hl hB) hnd (fun x hx => ?_) fun C ok hsc hv hc' hh hk => body' C (hX ok hsc hv hc' hk) hh
 have := List.all_eq_true.mp hloc x hx
 simpa using this
theorem qU (T : bB K ac mg mb) (fa : Nat) {oc : Value} {od : Option Addr} {fd : FuncData} {osl : Array (Option Value)} {body : List Stmt} (params others : List Str) (n : Nat) (k : Nat) {m : St → zV F} {N : Nat} {names : List (Str × NameKind)}
  (h : K.lookup fa = some ⟨oc, od, .func fd, osl⟩) (hc : codeIn K fd.code fd.qualname = true) (hb : fd.body = .stmts body) (h1 : fd.closure = []) (h2 : fd.globals = mainGlobals)
  (h3 : fd.builtins = builtinsNs) (h4 : fd.scope.isCoroutine = false) (h5 : fd.scope.isGenerator = false) (h6 : fd.scope.kind = .function) (h7 : fd.scope.names = names)
  (hl : params.length = n + 1) (hB : ∀ xs rest : List Value, xs.length = n → bindArgs fd ⟨xs ++ rest, []⟩ = (do let t ← newTuple rest; pure (params.zip (xs ++ [t]))))
  (hnd : (params ++ others).Nodup) (hloc : ((params ++ others).all fun x => names.lookup x == some .local) = true) (hcell : (names.all fun y => y.2 != .cell) = true) (hN : (params ++ others).length = N)
  (body' : ∀ C : Cx, Ctx C names (params ++ others).zipIdx [] k → C.A.handled = none → fW prog w ac C m body) :
  dy prog w ac (k + 1) (.ref fa) av (dj N (wz n) m) := by
 subst h7
 subst hN
 refine nC T.T (jQ T.X h hc hb h1 h2 h3 h4 h5 h6) (rB hl hB) hnd (fun x hx => ?_) fun C ok hsc hv hc' hh hk => body' C (hX ok hsc hv hc' hk) hh
 have := List.all_eq_true.mp hloc x hx
 simpa using this
theorem nM (T : bB K ac mg mb) (fa : Nat) {oc : Value} {od : Option Addr} {fd : FuncData} {osl : Array (Option Value)} {body : List Stmt} (params others cells : List Str) (n : Nat) (k : Nat) {m : St → zV F} {N : Nat} {names : List (Str × NameKind)}
  (h : K.lookup fa = some ⟨oc, od, .func fd, osl⟩) (hc : codeIn K fd.code fd.qualname = true) (hb : fd.body = .stmts body) (h1 : fd.closure = []) (h2 : fd.globals = mainGlobals)
  (h3 : fd.builtins = builtinsNs) (h4 : fd.scope.isCoroutine = false) (h5 : fd.scope.isGenerator = false) (h6 : fd.scope.kind = .function) (h7 : fd.scope.names = names)
  (hl : params.length = n) (hB : ∀ (s : Shared) xs, ac.StaysIn s.heap → xs.length = n → BindsTo s fd ⟨xs, []⟩ (params.zip xs))
  (hnd : (params ++ others).Nodup) (hloc : ((params ++ others).all fun x => names.lookup x == some .local) = true) (hcell : (cells.all fun y => names.lookup y == some .cell) = true) (hcn : cells.Nodup) (hcx : (cells.all fun y => !params.contains y) = true) (hN : (params ++ others).length + cells.length = N) (cl : (Str → Addr) → List (Str × Nat × Addr)) (hcl : ∀ f, ((cells.zipIdx (params ++ others).length).map fun p => (p.1, p.2, f p.1)) = cl f)
  (body' : ∀ (C : Cx) (f : Str → Addr), Ctx C names (params ++ others).zipIdx (cl f) k → C.A.handled = none → fW prog w ac C m body) :
  dy prog w ac (k + 1) (.ref fa) av (dj N (ew n []) m) := by
 subst h7
 subst hN
 refine i4 (cells := cells) T.T (jQ T.X h hc hb h1 h2 h3 h4 h5 h6) (bind_ok (dx := []) (fun ρ => .nil) (by simpa using hl) fun s xs hs hx => by simpa using hB s xs hs hx) hnd (fun x hx => ?_) (fun x hx => ?_) hcn (fun x hx => ?_) fun C ok hsc hv ⟨f, hc'⟩ hh hk => body' C f (hX ok hsc hv (hc'.trans (hcl f)) hk) hh
 ·have := List.all_eq_true.mp hloc x hx
  simpa using this
 ·have := List.all_eq_true.mp hcell x hx
  have h' : fd.scope.names.lookup x = some .cell := by simpa using this
  exact ⟨h', fun n => cellsFrom_some _ _ _ (.inl h')⟩
 ·have := List.all_eq_true.mp hcx x hx
  simpa using this
end
section
variable {prog : Program} {w : World} {ac : Heap} {C : Cx} {mg mb : Str → Option Value} {K : Frag}
theorem rv {ms : St → zV (List V)} {f : Value} {pos : Pos} {args : List Expr} (ha : bK prog w ac C ms pos args) (hp : (backTo pos (starEach args C.env)).any (·.1) = false) : gA prog w ac C av ms f (backTo pos (starEach args C.env)) (backToKw pos (keywordEach [] C.env)) := ue ha hp
theorem yn {ms : St → zV (List V)} {f : Value} {pos p : Pos} {e e' : Expr} (ha : bK prog w ac C ms pos [e, .Starred e' p]) (he : starEach [e, .Starred e' p] C.env = (false, eval e C.env) :: starEach [.Starred e' p] C.env) :
  gA prog w ac C av ms f (backTo pos (starEach [e, .Starred e' p] C.env)) (backToKw pos (keywordEach [] C.env)) := lV ha he
theorem yo {m : St → zV V} {f : Value} {pos p : Pos} {e : Expr} (h : bi prog w ac C m (eval e C.env)) (he : starEach [.Starred e p] C.env = [(true, eval e C.env)]) : gA prog w ac C av (lf m) f (backTo pos (starEach [.Starred e p] C.env)) (backToKw pos (keywordEach [] C.env)) := lW h he
theorem tS {f : Value} {pos : Pos} : gA prog w ac C av (aa []) f (backTo pos (starEach [] C.env)) (backToKw pos (keywordEach [] C.env)) := ue ag rfl
noncomputable def pG (prog : Program) (w : World) (ac : Heap) (C : Cx) : List (V → St → zV Unit) → List Expr → Prop
 | [], [] => True
 | f :: fs, t :: ts => j4 prog w ac C f t ∧ pG prog w ac C fs ts
 | _, _ => False
theorem nk : pG prog w ac C [] [] := trivial
theorem cy {f : V → St → zV Unit} {fs : List (V → St → zV Unit)} {t : Expr} {ts : List Expr} (h : j4 prog w ac C f t) (hs : pG prog w ac C fs ts) : pG prog w ac C (f :: fs) (t :: ts) := ⟨h, hs⟩
theorem xb : ∀ {fs : List (V → St → zV Unit)} {elts : List Expr}, pG prog w ac C fs elts → nc prog w ac C fs (elts.map fun t => assign t C.env)
 | [], [], _ => trivial
 | _ :: _, _ :: _, ⟨h, hs⟩ => ⟨h, xb hs⟩
 | [], _ :: _, h => h.elim
 | _ :: _, [], h => h.elim
theorem sX (hh : C.A.handled = none) {fs : List (V → St → zV Unit)} {elts : List Expr} {kk : Nat} {pos : Pos} (he : assignEach elts C.env = elts.map fun t => (false, assign t C.env)) (ht : pG prog w ac C fs elts) : j4 prog w ac C (pJ fs) (.Tuple elts kk pos) := by
 refine uV hh ?_ ?_
 ·rw [he, List.findIdx?_eq_none_iff]
  intro x hx
  obtain ⟨t, _, rfl⟩ := List.mem_map.mp hx
  rfl
 ·rw [he, List.map_map]
  exact xb ht
theorem xP {mo : St → zV V} {o : Expr} {pos : Pos} (ho : bi prog w ac C mo (eval o C.env)) (he : eval (.Attribute o "__next__" pos) C.env = (do
   let ov ← eval o C.env
   standAt pos.atName
   let r ← holding [ov] (getAttr ov "__next__" true)
   letTemporaryGo o ov r
   pure r)) : bi prog w ac C (ba oY mo) (eval (.Attribute o "__next__" pos) C.env) := bd qb ho he
theorem vN (hh : C.A.handled = none) {mf : St → zV V} {o i : Expr} {sp pos : Pos} (hf : bi prog w ac C mf (eval (.Subscript o i sp) C.env)) : bi prog w ac C (fun σ => (mf σ).bind rA) (eval (.Call (.Subscript o i sp) [] [] pos) C.env) := qk hh hf rfl
end
section
variable {prog : Program} {w : World} {ac : Heap} {C : Cx}
theorem cf {a b : Option Expr} {pos : Pos} : gL prog w ac C dU (.Raise a b pos) := ia
theorem jW {a : Expr} {b : Option Expr} {pos : Pos} {rest : List Stmt} : fW prog w ac C dU (.Assert a b pos :: rest) := ia
theorem rD {np pos p : Pos} {as : List Expr} {ks : List Keyword} : gL prog w ac C dU (.Expr (.Call (.Name "_wall" np) as ks p) pos) := ia
theorem wA {e : List Expr} {k : Nat} {p ap cp pos : Pos} {o : Expr} {as : List Expr} {ks : List Keyword} {b z : List Stmt} : gL prog w ac C dU (.For (.Tuple e k p) (.Call (.Attribute o "items" ap) as ks cp) b z pos) := ia
theorem b_isi {np p1 pos pos' : Pos} {a : Expr} {y z : List Stmt} {rest : List Stmt} {x : Str} (h : (x == ("bytes_types" : Str)) = true) : fW prog w ac C dU (.If (.Call (.Name "isinstance" np) [a, .Name x p1] [] pos) y z pos' :: rest) := ia
end
section
variable {prog : Program} {w : World} {ac : Heap} {C C' : Cx} {names : List (Str × NameKind)} {vars : List (Str × Nat)} {cells : List (Str × Nat × Addr)} {k : Nat}
theorem Ctx.again (G : Ctx C names vars cells k) (ok : C'.Ok) (e : C'.env = C.env) (v : C'.vars = C.vars) (c : C'.cells = C.cells) (hk : C'.k = C.k) : Ctx C' names vars cells k :=
 ⟨ok, fun y q h1 h2 => by rw [e]; exact G.kind y q h1 h2, v.trans G.vars, c.trans G.cells, hk.trans G.k⟩
theorem yv (G : Ctx C names vars cells k) {x : Str} {i : Nat} (h : vars.lookup x = some i) : (x, i) ∈ C.vars := by rw [G.vars]; exact mem_lookup h
end
section
variable {prog : Program} {w : World} {ac : Heap} {mg mb : Str → Option Value} {K : Frag} {C C' : Cx} {names : List (Str × NameKind)} {vars : List (Str × Nat)} {cells : List (Str × Nat × Addr)} {k : Nat}
theorem qF (G : Ctx C names vars cells k) {m : St → zV F} {cR : Stmt} {suite : List Stmt} {pos : Pos} (hm : ∀ C' : Cx, Ctx C' names vars cells k → fW prog w ac C' m (cR :: suite)) : wN prog w ac C (kS m) none cR suite pos :=
 qt G.ok fun C' ok e v c hk => hm C' (G.again ok e v c hk)
theorem xQ (G : Ctx C names vars cells k) {m : St → zV F} {n : Str} {i : Nat} {cR : Stmt} {suite : List Stmt} {pos : Pos} (hx : vars.lookup n = some i) (hm : ∀ C' : Cx, Ctx C' names vars cells k → fW prog w ac C' m (cR :: suite)) : wN prog w ac C (asH i m) (some n) cR suite pos :=
 vD G.ok (yv G hx) fun C' ok e v c hk => hm C' (G.again ok e v c hk)
theorem qE (x : Str) (c : Nat) {tbl : List (V × Bool)} (P : nf K (.ref c) tbl) (G : Ctx C names vars cells k) (T : bB K ac mg mb) {yes no : zY} {np : Pos} {name : Option Str} {cR : Stmt} {suite : List Stmt} {pos : Pos} {rest : List ExceptHandler}
  (hn : names.lookup x = some .globalImplicit) (hd : (x == ("__debug__" : Str)) = false) (hg : nsIn K mainGlobals x = some (some (.ref c)))
  (hy : wN prog w ac C yes name cR suite pos) (hno : uN prog w ac C no rest) : uN prog w ac C (gk tbl yes no) (.ExceptHandler (some (.Name x np)) name (cR :: suite) pos :: rest) :=
 kI (cl := .top c) G.ok T.X P (fun _ ok e => nA ok T.T (by rw [e]; exact G.kind _ _ hn (by intro q; cases q)) (mg_of T.X T.T.g hg) (fun ρ => rfl) hd) (fun _ _ h => h) hy hno
theorem vM (x : Str) (t : String) {tbl : List (V × Bool)} (P : nf K (.type t) tbl) (G : Ctx C names vars cells k) (T : bB K ac mg mb) {yes no : zY} {np : Pos} {name : Option Str} {cR : Stmt} {suite : List Stmt} {pos : Pos} {rest : List ExceptHandler}
  (hn : names.lookup x = some .globalImplicit) (hd : (x == ("__debug__" : Str)) = false) (hnn : (x == ("__name__" : Str)) = false) (hg : nsIn K mainGlobals x = some none) (hb : bootBuiltins x = some (.type t))
  (hy : wN prog w ac C yes name cR suite pos) (hno : uN prog w ac C no rest) : uN prog w ac C (gk tbl yes no) (.ExceptHandler (some (.Name x np)) name (cR :: suite) pos :: rest) :=
 kI (cl := .type t) G.ok T.X P (fun _ ok e => nB ok T.T (by rw [e]; exact G.kind _ _ hn (by intro q; cases q)) (ns_none_of T.X T.T.g hg) (by intro q; subst q; cases hnn) hb (fun ρ => rfl) hd) (fun _ _ h => h) hy hno
theorem vL (G : Ctx C names vars cells k) {x : Str} {i : Nat} {q a b : Str} {k1 k2 k3 : Nat} {p1 p2 p3 np apos pos pos' : Pos} (hx : vars.lookup x = some i) (hd : (x == ("__debug__" : Str)) = false)
  (hse : starEach [.Constant (.str a) k2 p2, .Constant (.str b) k3 p3] C.env = [(false, eval (.Constant (.str a) k2 p2) C.env), (false, eval (.Constant (.str b) k3 p3) C.env)])
  (hbase : attributeBase (.Name x np) "replace" C.env (eval (.Name x np) C.env) = eval (.Name x np) C.env)
  (hfew : ((backTo pos (starEach [.Constant (.str a) k2 p2, .Constant (.str b) k3 p3] C.env)).all (fun x => !x.1) && (backToKw pos (keywordEach [] C.env)).all (fun x => x.1.isSome) && decide ([Expr.Constant (.str a) k2 p2, Expr.Constant (.str b) k3 p3].length + ([] : List Keyword).length + (if ([] : List Keyword).isEmpty then 0 else 1) < 30)) = true)
  (hline : (apos.endLine == pos.line) = true) :
  bi prog w ac C (nI i q a b) (eval (.BinOp (.Constant (.str q) k1 p1) .Add (.Call (.Attribute (.Name x np) "replace" apos) [.Constant (.str a) k2 p2, .Constant (.str b) k3 p3] [] pos) pos') C.env) :=
 p8 G.ok (yv G hx) hd hse hbase hfew hline
end
section
variable {prog : Program} {w : World} {ac : Heap} {C : Cx} {mg mb : Str → Option Value} {K : Frag} {ρ : List Addr} {σ : St} {s : Shared} {names : List (Str × NameKind)} {vars : List (Str × Nat)} {cells : List (Str × Nat × Addr)} {k : Nat}
structure t8 (K : Frag) (c : Nat) (x : Str) (fa : Addr) : Prop where
 i : fq K c x fa
 h : hasDictIn K c = true
 g : specialIn K (.ref fa) "__get__" = some (some (.builtin "function.__get__"))
 t : takesIn K (.ref fa) = some false
 c : copiedNames.contains x = false
 n : fnIn K fa = true
theorem mX (ok : C.Ok) (hq : C.A.handled = none) {k : Nat} {fa q : Addr} {self : Value} {m : cY} (hk : k ≤ C.k) (h : dy prog w ac k (.ref fa) av m) (r : zT prog w ac C ρ σ s) (ho : s.heap.get? q = some (methodObj (.ref fa) self)) {v : V} {vs : List V} {xs : List Value} (ha : bL ρ (v :: vs) (self :: xs)) :
  At prog w ac C VR ρ σ s (bJ m (v :: vs) σ) (call (.ref q) xs []) := by
 intro hn
 have hm : m (v :: vs) σ.heap ≠ .bad := fun q => hn (by unfold bJ; rw [q])
 have hd := ok.depth
 have hu := ok.units
 have frm : ∀ L ∈ bD (C.fenv :: C.outer), L ∉ ρ := fun L hL => by
  obtain ⟨e, he, hf⟩ := List.mem_filterMap.mp hL
  exact (r.frn e he L hf).1
 refine wpAny_call (method_call ho (codeAny_mono (h C.A _ ρ σ.heap s _ _ ok.fr hq (by lia) (by lia) r.frs frm r.hp ha hm) fun res s' hp => ?_))
 unfold bJ at hn ⊢
 cases q : m (v :: vs) σ.heap with
 | ok v τ =>
  rw [q] at hp
  obtain ⟨x, ρ', rfl, hv, st⟩ := hp
  exact zu hv (st.up r)
 | exc c as τ =>
  rw [q] at hp
  obtain ⟨e, ρ', rfl, hf, st⟩ := hp
  exact ⟨ρ', hf.up (st.up r).rel, st.up r⟩
 | bad => rw [q] at hp; exact hp.elim
theorem p6 {K : Frag} (ok : C.Ok) (hq : C.A.handled = none) (X : K.In ac) {c : Nat} {name : Str} {fa : Addr} (Mi : t8 K c name fa) {kf : Nat} {m : cY} (hkf : kf ≤ C.k) (hf : dy prog w ac kf (.ref fa) av m) {mo : St → zV V} {ma : St → zV (List V)} {o : Expr} {apos pos : Pos} {args : List Expr}
  (ho : bi prog w ac C mo (eval o C.env)) (ha : ∀ q, gA prog w ac C av ma (.ref q) (backTo pos (starEach args C.env)) (backToKw pos (keywordEach [] C.env))) (hp : jt (backTo pos (starEach args C.env)) (backToKw pos (keywordEach [] C.env)))
  (he : eval (.Call (.Attribute o name apos) args [] pos) C.env = (do
   let ov ← eval o C.env
   standAt apos.atName
   let (f, first) ← holding [ov] (do pure (← getAttr ov name true, []))
   callWith pos f first (backTo pos (starEach args C.env)) (backToKw pos (keywordEach [] C.env)))) :
  bi prog w ac C (cW (bP c name) (bJ m) mo ma) (eval (.Call (.Attribute o name apos) args [] pos) C.env) := by
 refine zS.gen fun ρ σ s z r e hb => ?_
 rw [he]
 refine wpAny_bind ((ho.at r).next e hb fun v ae aw az v' _e vv au e => ?_)
 refine wpAny_bind (wpAny_standAt (wpAny_bind (wpAny_holding (wpAny_bind ?_))))
 clear _e
 obtain ⟨hc, e'⟩ := fp e.symm hb
 clear e
 obtain ⟨l, d, sl, fs, rfl, q1, q2, hsh⟩ := jj hc
 obtain ⟨a, hx, rfl⟩ := vv
 obtain ⟨dx, sx, es, n, g1, g2, g3, g4, g5, I⟩ := gr au.rel.hp q1 q2 hx
 obtain ⟨o', h1, h2⟩ := dQ (x := name) g3
 rw [hsh] at h2
 cases h2
 have XK := X.keeps au.rel.hp.base
 have st2 := au.rel.grow (methodObj (.ref fa) (.ref a)) (az.toks + 1)
 refine get_bind XK I (plainGet_of Mi.i.g).1 (findObj_fn Mi.h Mi.i.f Mi.g Mi.t Mi.c (by show lookIn name (dictOf es n) = _; rw [lookIn_dict, h1])) (plainGet_of Mi.i.g).2
  (wpAny_call (fn_get (s := { az with toks := az.toks + 1 }) XK (beq_iff_eq.mp Mi.i.t) (handed_on rfl (wpAny_pure ?_))))
 have hq0 : (az.heap.push (methodObj (.ref fa) (.ref a))).get? az.heap.objs.size = some (methodObj (.ref fa) (.ref a)) := Heap.get?_push_size _ rfl
 have hk : ∀ h, (ac.StaysIn h ∧ h.get? az.heap.objs.size = some (methodObj (.ref fa) (.ref a))) → ∃ k, (k = Keeper.frame ∨ k = Keeper.machine ∨ k = Keeper.boundFrame) ∧ Looks (model prog w) h (keeperOf (.ref az.heap.objs.size)) k :=
  fun h hh => keeps_M Mi.n h ⟨hh.2, X.keeps hh.1⟩
 have main : wpAny (model prog w) C.A (evalArgs (.ref az.heap.objs.size) true (backTo pos (starEach args C.env)) (backToKw pos (keywordEach [] C.env)))
   (fun y bF => (ac.StaysIn bF.heap ∧ bF.heap.get? az.heap.objs.size = some (methodObj (.ref fa) (.ref a))) ∧ wpAny (model prog w) C.A (call (.ref az.heap.objs.size) ([] ++ y.pos) y.kw) (zW prog w ac C VR ρ σ s z) (z3 prog w ac C ρ σ s z) bF)
   (z3 prog w ac C ρ σ s z) { az with heap := az.heap.push (methodObj (.ref fa) (.ref a)), toks := az.toks + 1 } := by
  refine ((ha az.heap.objs.size).at st2.rel).then (au.trans st2) e'.symm hb fun b aq aK aT b' _ vb aJ st e => ?_
  have keepq : aT.heap.get? az.heap.objs.size = some (methodObj (.ref fa) (.ref a)) := by
   obtain ⟨o2, e2, sm⟩ := aJ.pres _ _ hq0 (iu st2.rel au.rel.hp.fresh hq0 (.inl ⟨_, rfl⟩))
   rcases sm with rfl | ⟨⟨es, n, hd⟩, _⟩
   ·exact e2
   ·cases hd
  refine ⟨⟨st.rel.hp.base, keepq⟩, ?_⟩
  subst e
  obtain ⟨xs, hxs, rfl⟩ := vb
  have vv' : VR aK (.ref l) (.ref a) := (st2.trans aJ).vr (v := .ref l) ⟨a, hx, rfl⟩
  exact (mX ok hq hkf hf st.rel keepq (.cons vv' hxs)).trans st hb
 rcases hp with hp | ⟨hp, hp2⟩
 ·exact callWith_of hp hk main
 ·rw [hp2] at main ⊢
  exact ks_call hp hk main
noncomputable def rO (prog : Program) (w : World) (ac : Heap) (C : Cx) (ms : St → zV (List V)) (args : List (Bool × Sem Value)) (kws : List (Option Str × Sem Value)) : Prop := ∀ q, gA prog w ac C av ms (.ref q) args kws
theorem xS {ms : St → zV (List V)} {pos p : Pos} {e e' : Expr} (ha : bK prog w ac C ms pos [e, .Starred e' p]) (he : starEach [e, .Starred e' p] C.env = (false, eval e C.env) :: starEach [.Starred e' p] C.env) :
  rO prog w ac C ms (backTo pos (starEach [e, .Starred e' p] C.env)) (backToKw pos (keywordEach [] C.env)) := fun _ => yn ha he
theorem xT {m : St → zV V} {pos p : Pos} {e : Expr} (h : bi prog w ac C m (eval e C.env)) (he : starEach [.Starred e p] C.env = [(true, eval e C.env)]) : rO prog w ac C (lf m) (backTo pos (starEach [.Starred e p] C.env)) (backToKw pos (keywordEach [] C.env)) := fun _ => yo h he
theorem qD {kf fa c : Nat} {m : cY} (name : Str) (hf : dy prog w ac kf (.ref fa) av m) (Mi : t8 K c name fa) (G : Ctx C names vars cells k) (T : bB K ac mg mb) (hh : C.A.handled = none) {mo : St → zV V} {ma : St → zV (List V)} {o : Expr} {apos pos : Pos} {args : List Expr}
  (hkf : Nat.ble kf k = true) (ho : bi prog w ac C mo (eval o C.env)) (ha : rO prog w ac C ma (backTo pos (starEach args C.env)) (backToKw pos (keywordEach [] C.env))) (hp : jt (backTo pos (starEach args C.env)) (backToKw pos (keywordEach [] C.env)))
  (he : eval (.Call (.Attribute o name apos) args [] pos) C.env = (do
   let ov ← eval o C.env
   standAt apos.atName
   let (f, first) ← holding [ov] (do pure (← getAttr ov name true, []))
   callWith pos f first (backTo pos (starEach args C.env)) (backToKw pos (keywordEach [] C.env)))) :
  bi prog w ac C (cW (bP c name) (bJ m) mo ma) (eval (.Call (.Attribute o name apos) args [] pos) C.env) :=
 p6 G.ok hh T.X Mi (by rw [G.k]; exact Nat.le_of_ble_eq_true hkf) hf ho ha hp he
end
section
variable {C : Cx} {names : List (Str × NameKind)} {vars : List (Str × Nat)} {cells : List (Str × Nat × Addr)} {k : Nat}
theorem qQ (G : Ctx C names vars cells k) {y : Str} {py pos : Pos} {scope : Scope} {gens : List Comprehension} {elt : Expr} {line : Nat} (h : names.lookup y = some .cell) : swapsWithSole [.Name y py] (.ListComp elt gens scope pos) line C.env = pure false := by
 have hy : C.env.kindOf y = some .cell := G.kind _ _ h (by intro q; cases q)
 show (pure (C.env.blockKind == .function && C.env.kindOf y == some .local && py.line == pos.line && !(scope.names.any fun (n, k) => n == y && (k == .local || k == .cell))) : Sem Bool) = pure false
 rw [hy]
 cases (C.env.blockKind == ScopeKind.function) <;> rfl
end
noncomputable def pK : V → Bool
 | .ref _ => false
 | _ => true
theorem lO {v : V} {x : Value} (h : pK v = true) {ρ ρ' : List Addr} (e : VR ρ v x) : VR ρ' v x := by
 cases v <;> first | exact e | cases h
noncomputable def zo (f : Nat → Nat) : V → V
 | .ref l => .ref (f l)
 | v => v
noncomputable def oQ (p : Nat → Bool) : V → Bool
 | .ref l => p l
 | _ => true
noncomputable def qC (f : Nat → Nat) : O → O
 | .list xs => .list (xs.map (zo f))
 | .tup xs => .tup (xs.map (zo f))
 | o => o
noncomputable def eB (p : Nat → Bool) : O → Bool
 | .list xs => xs.all (oQ p)
 | .tup xs => xs.all (oQ p)
 | _ => false
theorem xa {ρ ρ2 : List Addr} {f : Nat → Nat} {p : Nat → Bool} (hf : ∀ l, p l = true → ∃ a, ρ[l]? = some a ∧ ρ2[f l]? = some a) {v : V} {x : Value} (h : oQ p v = true) (e : VR ρ v x) : VR ρ2 (zo f v) x := by
 cases v <;> first | exact e | skip
 rename_i l
 obtain ⟨a, h1, rfl⟩ := e
 obtain ⟨b, g1, g2⟩ := hf l h
 rw [h1] at g1; cases g1
 exact ⟨a, g2, rfl⟩
theorem na {ρ ρ2 : List Addr} {f : Nat → Nat} {p : Nat → Bool} (hf : ∀ l, p l = true → ∃ a, ρ[l]? = some a ∧ ρ2[f l]? = some a) : ∀ {vs : List V} {xs : List Value}, vs.all (oQ p) = true → bL ρ vs xs → bL ρ2 (vs.map (zo f)) xs
 | [], _, _, e => e
 | v :: vs, _, h, ⟨x, xs, e, h1, h2⟩ => by
  simp only [List.all_cons, Bool.and_eq_true] at h
  exact ⟨x, xs, e, xa hf h.1 h1, na hf h.2 h2⟩
theorem qL {prog : Program} {w : World} {ρ ρ2 : List Addr} {f : Nat → Nat} {p : Nat → Bool} (hf : ∀ l, p l = true → ∃ a, ρ[l]? = some a ∧ ρ2[f l]? = some a) {o : O} {ob : Obj} (h : eB p o = true) (e : zX prog w ρ o ob) : zX prog w ρ2 (qC f o) ob := by
 cases o <;> first | cases h | skip
 ·obtain ⟨vs, n, e, a⟩ := e; exact ⟨vs, n, e, na hf h a⟩
 ·obtain ⟨vs, n, e, a⟩ := e; exact ⟨vs, n, e, na hf h a⟩
theorem l9 {f : Nat → Nat} {p : Nat → Bool} {o : O} (h : eB p o = true) : ∀ es ep, qC f o ≠ .dict es ep := by
 cases o <;> first | cases h | (intro _ _ q; cases q)
section
variable {prog : Program} {w : World} {ac : Heap} {C : Cx} {ρ ρ0 ρ' : List Addr} {σ : St} {H H0 H' : List O} {s s' : Shared}
theorem cF.regive (r : eh prog w ac ρ H s) (st : cF prog w ac ρ0 H0 s ρ' H' s') (hsub : ∀ a ∈ ρ0, a ∈ ρ)
  (hold : ∀ (l : Nat) (o : O) (a : Addr), H[l]? = some o → ρ[l]? = some a → ∃ ob, s'.heap.get? a = some ob ∧ zX prog w ρ o ob)
  (ks : List Nat) (f : Nat → Nat) (p : Nat → Bool) (hk : ∀ k ∈ ks, ρ0.length ≤ k) (hnd : ks.Nodup) (hlt : ∀ k ∈ ks, k < H'.length) (hg : ∀ k ∈ ks, ∀ o : O, H'[k]? = some o → eB p o = true)
  (hf : ∀ l, p l = true → ∃ a, ρ'[l]? = some a ∧ (ρ ++ ks.map fun k => ρ'.getD k 0)[f l]? = some a) :
  cF prog w ac ρ H s (ρ ++ ks.map fun k => ρ'.getD k 0) (H ++ ks.map fun k => qC f (H'.getD k .dead)) s' := by
 have hlen := st.rel.len
 have hget : ∀ k ∈ ks, ρ'[k]? = some (ρ'.getD k 0) := fun k hk => by
  have : k < ρ'.length := by rw [hlen]; exact hlt k hk
  rw [List.getElem?_eq_getElem this, List.getD_eq_getElem?_getD, List.getElem?_eq_getElem this]; rfl
 have hdead : ∀ k ∈ ks, s.heap.get? (ρ'.getD k 0) = none := fun k hk' => by
  obtain ⟨more, e, hm⟩ := st.ext
  have h1 := hget k hk'
  rw [e] at h1
  rw [List.getElem?_append_right (hk k hk')] at h1
  rw [← e] at h1
  exact hm _ (List.mem_of_getElem? h1)
 have hlive : ∀ a ∈ ρ, s.heap.get? a ≠ none := fun a ha => by
  obtain ⟨l, hl, e⟩ := List.mem_iff_getElem.mp ha
  have e' : ρ[l]? = some a := by rw [List.getElem?_eq_getElem hl, e]
  have hl2 : l < H.length := r.len ▸ hl
  obtain ⟨ob, h1, _⟩ := r.obj l _ _ (List.getElem?_eq_getElem hl2) e'
  rw [h1]; simp
 refine ⟨⟨st.rel.base, by simp [r.len], fun l o a h e => ?_, ?_, fun a ha => ?_, fun l es ep a h e => ?_, r.main⟩, ⟨_, rfl, fun a ha => ?_⟩, fun a o h hn => st.pres a o h fun q => hn (hsub a q), st.rest⟩
 ·by_cases hl : l < ρ.length
  ·rw [List.getElem?_append_left hl] at e
   rw [List.getElem?_append_left (r.len ▸ hl)] at h
   obtain ⟨ob, g1, g2⟩ := hold l o a h e
   exact ⟨ob, g1, g2.mono⟩
  ·rw [List.getElem?_append_right (by lia)] at e
   rw [List.getElem?_append_right (by rw [← r.len]; lia), ← r.len] at h
   rw [List.getElem?_map] at e h
   cases q : ks[l - ρ.length]? with
   | none => rw [q] at e; cases e
   | some k =>
    rw [q] at e h
    simp only [Option.map_some, Option.some.injEq] at e h
    subst e h
    have hkm := List.mem_of_getElem? q
    have hH : H'[k]? = some (H'.getD k .dead) := by
     rw [List.getElem?_eq_getElem (hlt k hkm), List.getD_eq_getElem?_getD, List.getElem?_eq_getElem (hlt k hkm)]; rfl
    obtain ⟨ob, g1, g2⟩ := st.rel.obj k _ _ hH (hget k hkm)
    exact ⟨ob, g1, qL hf (hg k hkm _ hH) g2⟩
 ·refine List.nodup_append.mpr ⟨r.nodup, ?_, fun a ha b hb => ?_⟩
  ·refine List.pairwise_iff_getElem.mpr fun i j hi hj hij => ?_
   simp only [List.getElem_map]
   intro q
   have hi' : i < ks.length := by simpa using hi
   have hj' : j < ks.length := by simpa using hj
   have := iv st.rel.nodup (hget _ (List.getElem_mem hi')) (q ▸ hget _ (List.getElem_mem hj'))
   exact absurd this (List.pairwise_iff_getElem.mp hnd i j hi' hj' hij)
  ·obtain ⟨k, hk', rfl⟩ := List.mem_map.mp hb
   rintro rfl
   exact hlive _ ha (hdead k hk')
 ·rcases List.mem_append.mp ha with h | h
  ·exact r.new a h
  ·obtain ⟨k, hk', rfl⟩ := List.mem_map.mp h
   exact st.rel.new _ (List.mem_of_getElem? (hget k hk'))
 ·by_cases hl : l < ρ.length
  ·rw [List.getElem?_append_left hl] at e
   rw [List.getElem?_append_left (r.len ▸ hl)] at h
   exact r.sys l es ep a h e
  ·rw [List.getElem?_append_right (by rw [← r.len]; lia), ← r.len, List.getElem?_map] at h
   cases q : ks[l - ρ.length]? with
   | none => rw [q] at h; cases h
   | some k =>
    rw [q] at h
    have hkm := List.mem_of_getElem? q
    have hH : H'[k]? = some (H'.getD k .dead) := by
     rw [List.getElem?_eq_getElem (hlt k hkm), List.getD_eq_getElem?_getD, List.getElem?_eq_getElem (hlt k hkm)]; rfl
    simp only [Option.map_some, Option.some.injEq] at h
    exact absurd h (l9 (hg k hkm _ hH) _ _)
 ·obtain ⟨k, hk', rfl⟩ := List.mem_map.mp ha
  exact hdead k hk'
end
noncomputable def oX (_ : Nat) : Bool := false
noncomputable def gv (o : O) : Bool := eB oX o
noncomputable def noDict : O → Bool
 | .dict .. => false
 | .idict .. => false
 | _ => true
noncomputable def refsOf (vs : List V) : List Nat := vs.filterMap fun v => match v with
 | .ref l => some l
 | _ => none
noncomputable def zj (vs : List V) (H : List O) : Option (List V × List O) := match refsOf vs with
 | [] => some (vs, [])
 | [l] => match H[l]? with
  | some o => if gv o then some (vs.map (zo fun _ => 0), [o]) else none
  | none => none
 | _ => none
noncomputable def bR (m : cY) (vs : List V) (σ : St) : zV V := match zj vs σ.heap with
 | none => .bad
 | some (vs0, H0) => if σ.heap.all noDict = true then (match m vs0 H0 with
  | .ok v τ => if τ.heap.take H0.length = H0 then (match v with
    | .ref r => match τ.heap[r]? with
     | some o => if H0.length ≤ r ∧ gv o = true then .ok (.ref σ.heap.length) { σ with heap := σ.heap ++ [o] } else .bad
     | none => .bad
    | v => .ok v σ) else .bad
  | .exc c as τ => if (pK c = true ∧ as.all pK = true) ∧ τ.heap.take H0.length = H0 then .exc c as σ else .bad
  | .bad => .bad) else .bad
theorem jG {f : Nat → Nat} : ∀ {vs : List V}, vs.all (oQ oX) = true → vs.map (zo f) = vs
 | [], _ => rfl
 | v :: vs, h => by
  simp only [List.all_cons, Bool.and_eq_true] at h
  simp only [List.map_cons, jG h.2]
  cases v <;> first | rfl | cases h.1
theorem kN {f : Nat → Nat} {o : O} (h : gv o = true) : qC f o = o := by
 cases o <;> first | rfl | skip
 ·exact congrArg O.list (jG h)
 ·exact congrArg O.tup (jG h)
theorem oq {ρ ρ' : List Addr} : ∀ {vs : List V} {xs : List Value}, refsOf vs = [] → bL ρ vs xs → bL ρ' vs xs
 | [], _, _, e => e
 | v :: vs, _, h, ⟨x, xs, e, h1, h2⟩ => by
  cases v <;> first | exact ⟨x, xs, e, h1, oq h h2⟩ | cases h
theorem lI {ρ ρ' : List Addr} : ∀ {vs : List V} {xs : List Value}, vs.all pK = true → bL ρ vs xs → bL ρ' vs xs
 | [], _, _, e => e
 | v :: vs, _, h, ⟨x, xs, e, h1, h2⟩ => by
  simp only [List.all_cons, Bool.and_eq_true] at h
  exact ⟨x, xs, e, lO h.1 h1, lI h.2 h2⟩
theorem rK {ρ : List Addr} {l : Nat} {a : Addr} (hl : ρ[l]? = some a) : ∀ {vs : List V} {xs : List Value}, (∀ k ∈ refsOf vs, k = l) → bL ρ vs xs → bL [a] (vs.map (zo fun _ => 0)) xs
 | [], _, _, e => e
 | v :: vs, _, h, ⟨x, xs, e, h1, h2⟩ => by
  have ht : ∀ k ∈ refsOf vs, k = l := fun k hk => h k (by
   unfold refsOf at hk ⊢
   rw [List.filterMap_cons]
   split
   ·exact hk
   ·exact List.mem_cons_of_mem _ hk)
  refine ⟨x, xs, e, ?_, rK hl ht h2⟩
  cases v <;> first | exact h1 | skip
  rename_i k
  have : k = l := h k (by unfold refsOf; rw [List.filterMap_cons]; exact List.mem_cons_self)
  subst this
  obtain ⟨b, g1, rfl⟩ := h1
  rw [hl] at g1; cases g1
  exact ⟨a, rfl, rfl⟩
section
variable {prog : Program} {w : World} {ac : Heap} {C : Cx} {ρ ρ0 ρ' : List Addr} {σ : St} {H H0 H' : List O} {s s' : Shared}
theorem qM {ρ ρ2 : List Addr} {o : O} {ob : Obj} (h : gv o = true) (e : zX prog w ρ o ob) : zX prog w ρ2 o ob := by
 have := qL (f := id) (p := oX) (ρ2 := ρ2) (fun l q => by cases q) h e
 rwa [kN h] at this
theorem mc {o : O} {ob : Obj} (h : noDict o = true) (e : zX prog w ρ o ob) : ∀ es n, ob.data ≠ .dict es n := by
 intro es n q
 cases o <;> first | cases h | skip
 ·obtain ⟨vs, n, rfl, _⟩ := e; cases q
 ·obtain ⟨vs, n, rfl, _⟩ := e; cases q
 ·obtain ⟨a, _, rfl⟩ := e; cases q
 ·obtain ⟨t, u, v, rfl⟩ := e; cases q
 ·obtain ⟨es', ep, t, _, hd, _⟩ := e; rw [hd] at q; cases q
 ·obtain ⟨dx, sx, _, rfl, _⟩ := e; cases q
 ·obtain ⟨a, _, rfl⟩ := e; cases q
 ·obtain ⟨a, _, rfl⟩ := e; cases q
 ·obtain ⟨a, vs, _, _, hd, _⟩ := e; rw [hd] at q; cases q
 ·obtain ⟨vs, hd⟩ := e; rw [hd] at q; cases q
theorem w9 (r : eh prog w ac ρ H s) {vs vs0 : List V} {xs : List Value} (ha : bL ρ vs xs) (hz : zj vs H = some (vs0, H0)) :
  ∃ ρ0, eh prog w ac ρ0 H0 s ∧ bL ρ0 vs0 xs ∧ (∀ a ∈ ρ0, a ∈ ρ) ∧ ∀ (l : Nat) (o : O) (a : Addr), H[l]? = some o → ρ[l]? = some a → a ∈ ρ0 → ∃ i : Nat, ρ0[i]? = some a ∧ H0[i]? = some o ∧ gv o = true := by
 unfold zj at hz
 split at hz
 ·rename_i q
  cases hz
  exact ⟨[], ⟨r.base, rfl, fun l o a h => by simp at h, List.nodup_nil, fun a h => by simp at h, fun l es ep a h => by simp at h, r.main⟩, oq q ha, fun a h => by simp at h, fun l o a _ _ h => by simp at h⟩
 ·rename_i l q
  split at hz
  ·rename_i o ho
   split at hz
   ·rename_i hf
    cases hz
    obtain ⟨a, ob, h1, h2, h3, h4⟩ := r.at ho
    refine ⟨[a], ⟨r.base, rfl, fun l' o' a' h e => ?_, by simp, fun b hb => ?_, fun l' es ep b h e => ?_, r.main⟩, rK h1 (fun k hk => by rw [q] at hk; simpa using hk) ha, fun b hb => ?_, fun l' o' b g1 g2 g3 => ?_⟩
    ·have hl0 : l' = 0 := by
      have := (List.getElem?_eq_some_iff.mp h).1
      simp at this; lia
     subst hl0
     simp at h e
     subst h e
     exact ⟨ob, h3, qM hf h4⟩
    ·simp at hb; subst hb; exact r.new _ h2
    ·have hl0 : l' = 0 := by
      have := (List.getElem?_eq_some_iff.mp h).1
      simp at this; lia
     subst hl0
     simp at h
     subst h
     cases hf
    ·simp at hb; subst hb; exact h2
    ·simp at g3
     subst g3
     have := iv r.nodup g2 h1
     subst this
     rw [ho] at g1; cases g1
     exact ⟨0, rfl, rfl, hf⟩
   ·cases hz
  ·cases hz
 ·cases hz
theorem ri (r : eh prog w ac ρ H s) (st : cF prog w ac ρ0 H0 s ρ' H' s') (hd : H.all noDict = true) (ht : H'.take H0.length = H0)
  (hz : ∀ (l : Nat) (o : O) (a : Addr), H[l]? = some o → ρ[l]? = some a → a ∈ ρ0 → ∃ i : Nat, ρ0[i]? = some a ∧ H0[i]? = some o ∧ gv o = true) :
  ∀ (l : Nat) (o : O) (a : Addr), H[l]? = some o → ρ[l]? = some a → ∃ ob, s'.heap.get? a = some ob ∧ zX prog w ρ o ob := by
 intro l o a h e
 by_cases hm : a ∈ ρ0
 ·obtain ⟨i, g1, g2, g3⟩ := hz l o a h e hm
  have hi : H'[i]? = some o := by
   have hlt := (List.getElem?_eq_some_iff.mp g2).1
   rw [← ht] at g2
   rwa [List.getElem?_take_of_lt hlt] at g2
  obtain ⟨more, e2, _⟩ := st.ext
  obtain ⟨ob, k1, k2⟩ := st.rel.obj i o a hi (by rw [e2]; exact cr g1)
  exact ⟨ob, k1, qM g3 k2⟩
 ·obtain ⟨ob, g1, g2⟩ := r.obj l o a h e
  obtain ⟨ob', k1, k2⟩ := st.pres a ob g1 hm
  have hn := List.all_eq_true.mp hd o (List.mem_of_getElem? h)
  rcases k2 with rfl | ⟨⟨es, n, q⟩, _⟩
  ·exact ⟨_, k1, g2⟩
  ·exact absurd q (mc hn g2 es n)
theorem kE (ok : C.Ok) (hq : C.A.handled = none) {k : Nat} {f : Value} {mk : List Value → Args} {m : cY} (hk : k ≤ C.k) (h : dy prog w ac k f mk m) : cS prog w ac C f mk (bR m) := by
 intro ρ σ s vs xs r ha hn
 unfold bR at hn ⊢
 cases hz : zj vs σ.heap with
 | none => rw [hz] at hn; exact absurd rfl hn
 | some q =>
  obtain ⟨vs0, H0⟩ := q
  rw [hz] at hn
  dsimp only at hn ⊢
  by_cases hdict : σ.heap.all noDict = true
  ·rw [if_pos hdict] at hn
   simp only [if_pos hdict]
   obtain ⟨ρ0, r0, ha0, hsub, hz'⟩ := w9 r.hp ha hz
   have hm : m vs0 H0 ≠ .bad := fun q => hn (by rw [q])
   have hd := ok.depth
   have hu := ok.units
   have frm : ∀ L ∈ bD (C.fenv :: C.outer), L ∉ ρ0 := fun L hL q => by
    obtain ⟨e, he, hf⟩ := List.mem_filterMap.mp hL
    exact (r.frn e he L hf).1 (hsub L q)
   refine wpAny_call (codeAny_mono (h C.A _ ρ0 H0 s vs0 xs ok.fr hq (by lia) (by lia) r.frs frm r0 ha0 hm) fun res s' hp => ?_)
   cases q : m vs0 H0 with
   | bad => rw [q] at hp; exact hp.elim
   | ok v τ =>
    rw [q] at hp hn
    dsimp only at hn ⊢
    obtain ⟨x, ρ', rfl, hv, st⟩ := hp
    by_cases ht : τ.heap.take H0.length = H0
    ·rw [if_pos ht] at hn
     simp only [if_pos ht]
     have hold := ri r.hp st hdict ht hz'
     have sc : ∀ {v : V}, pK v = true → VR ρ' v x → zW prog w ac C VR ρ σ s (.ok v σ) x s' := fun {v} hs hv => by
      have st2 := cF.regive r.hp st hsub hold [] id oX (by simp) (by simp) (by simp) (by simp) (by intro l q; cases q)
      simp only [List.map_nil, List.append_nil] at st2
      exact zu (lO hs hv) (st2.up r)
     cases v <;> first | exact sc rfl hv | skip
     rename_i rr
     dsimp only at hn ⊢
     cases ho : τ.heap[rr]? with
     | none => rw [ho] at hn; exact absurd rfl hn
     | some o =>
      rw [ho] at hn
      dsimp only at hn ⊢
      by_cases hc : H0.length ≤ rr ∧ gv o = true
      ·simp only [if_pos hc]
       have hlt := (List.getElem?_eq_some_iff.mp ho).1
       have st2 := cF.regive r.hp st hsub hold [rr] id oX (by simp [r0.len, hc.1]) (by simp) (by simp [hlt]) (by
        intro k hk o' ho'
        simp at hk; subst hk
        rw [ho] at ho'; cases ho'
        exact hc.2) (by intro l q; cases q)
       obtain ⟨b, g1, rfl⟩ := hv
       have hr' : τ.heap.getD rr .dead = o := by rw [List.getD_eq_getElem?_getD, ho]; rfl
       have hr2 : ρ'.getD rr 0 = b := by rw [List.getD_eq_getElem?_getD, g1]; rfl
       simp only [List.map_cons, List.map_nil, hr', hr2, kN hc.2] at st2
       refine zu (ρ' := ρ ++ [b]) ⟨b, ?_, rfl⟩ (st2.up r)
       rw [← r.hp.len, List.getElem?_append_right (Nat.le_refl _)]; simp
      ·simp only [if_neg hc] at hn
       exact absurd rfl hn
    ·rw [if_neg ht] at hn
     exact absurd rfl hn
   | exc c as τ =>
    rw [q] at hp hn
    dsimp only at hn ⊢
    obtain ⟨e, ρ', rfl, hf, st⟩ := hp
    by_cases hc : (pK c = true ∧ as.all pK = true) ∧ τ.heap.take H0.length = H0
    ·simp only [if_pos hc]
     have hold := ri r.hp st hdict hc.2 hz'
     have st2 := cF.regive r.hp st hsub hold [] id oX (by simp) (by simp) (by simp) (by simp) (by intro l q; cases q)
     simp only [List.map_nil, List.append_nil] at st2
     have st3 := st2.up r
     refine ⟨ρ, ?_, st3⟩
     exact hf.map (fun _ h => lO hc.1.1 h) (fun _ h => lI hc.1.2 h) fun y _ h1 _ h3 _ => ⟨h1, fun q => bo r y q h1, h3⟩
    ·rw [if_neg hc] at hn
     exact absurd rfl hn
  ·rw [if_neg hdict] at hn
   exact absurd rfl hn
end
noncomputable def mZ (n : Nat) (l : Nat) : Bool := decide (l < n)
noncomputable def wk (n : Nat) (H : List O) (l : Nat) : List Nat := match H[l]? with
 | some (.list xs) => (refsOf xs).filter fun k => decide (n ≤ k)
 | some (.tup xs) => (refsOf xs).filter fun k => decide (n ≤ k)
 | _ => []
noncomputable def deepOf (n : Nat) (H : List O) (r : Nat) : List Nat := (wk n H r).flatMap (wk n H) ++ wk n H r ++ [r]
noncomputable def jO (n : Nat) (ks : List Nat) (l : Nat) : Bool := decide (l < n) || ks.contains l
noncomputable def er (n : Nat) (ks : List Nat) (l : Nat) : Nat := if l < n then l else n + ks.idxOf l
noncomputable def mW (m : cY) (vs : List V) (σ : St) : zV V := match m vs σ.heap with
 | .ok (.ref r) τ => if (σ.heap.all (eB (mZ σ.heap.length)) = true ∧ τ.heap.take σ.heap.length = σ.heap) ∧ (deepOf σ.heap.length τ.heap r).Nodup ∧
   (deepOf σ.heap.length τ.heap r).all (fun k => decide (σ.heap.length ≤ k ∧ k < τ.heap.length) && eB (jO σ.heap.length (deepOf σ.heap.length τ.heap r)) (τ.heap.getD k .dead)) = true then
   .ok (.ref (er σ.heap.length (deepOf σ.heap.length τ.heap r) r)) { σ with heap := σ.heap ++ (deepOf σ.heap.length τ.heap r).map fun k => qC (er σ.heap.length (deepOf σ.heap.length τ.heap r)) (τ.heap.getD k .dead) } else .bad
 | _ => .bad
section
variable {prog : Program} {w : World} {ac : Heap} {C : Cx} {ρ ρ0 ρ' : List Addr} {σ : St} {H H0 H' : List O} {s s' : Shared}
theorem tR {ρ more : List Addr} {l : Nat} (h : l < ρ.length) : ∃ a, (ρ ++ more)[l]? = some a ∧ ρ[l]? = some a := by
 rw [List.getElem?_append_left h]
 exact ⟨ρ[l], List.getElem?_eq_getElem h, List.getElem?_eq_getElem h⟩
theorem vJ {o : O} : qC id o = o := by
 have h : ∀ xs : List V, xs.map (zo id) = xs := fun xs => by
  induction xs with
  | nil => rfl
  | cons v vs ih => simp only [List.map_cons, ih]; cases v <;> rfl
 cases o <;> first | rfl | (simp only [qC, h])
theorem qh (ok : C.Ok) (hq : C.A.handled = none) {k : Nat} {f : Value} {mk : List Value → Args} {m : cY} (hk : k ≤ C.k) (h : dy prog w ac k f mk m) : cS prog w ac C f mk (mW m) := by
 intro ρ σ s vs xs r ha hn
 unfold mW at hn ⊢
 have hm : m vs σ.heap ≠ .bad := fun q => hn (by rw [q])
 have hd := ok.depth
 have hu := ok.units
 have frm : ∀ L ∈ bD (C.fenv :: C.outer), L ∉ ρ := fun L hL => by
  obtain ⟨e, he, hf⟩ := List.mem_filterMap.mp hL
  exact (r.frn e he L hf).1
 refine wpAny_call (codeAny_mono (h C.A _ ρ σ.heap s vs xs ok.fr hq (by lia) (by lia) r.frs frm r.hp ha hm) fun res s' hp => ?_)
 cases q : m vs σ.heap with
 | bad => exact absurd q hm
 | exc c as τ => rw [q] at hn; exact absurd rfl hn
 | ok v τ =>
  rw [q] at hp hn
  obtain ⟨x, ρ', rfl, hv, st⟩ := hp
  cases v with
  | ref rr =>
   dsimp only at hn ⊢
   generalize hks : deepOf σ.heap.length τ.heap rr = ks at hn ⊢
   by_cases hc : (σ.heap.all (eB (mZ σ.heap.length)) = true ∧ τ.heap.take σ.heap.length = σ.heap) ∧ ks.Nodup ∧ ks.all (fun k => decide (σ.heap.length ≤ k ∧ k < τ.heap.length) && eB (jO σ.heap.length ks) (τ.heap.getD k .dead)) = true
   ·simp only [if_pos hc]
    obtain ⟨⟨hg, ht⟩, hnd, hall⟩ := hc
    have hall' : ∀ k ∈ ks, (σ.heap.length ≤ k ∧ k < τ.heap.length) ∧ eB (jO σ.heap.length ks) (τ.heap.getD k .dead) = true := fun k hk => by
     have := List.all_eq_true.mp hall k hk
     simpa only [Bool.and_eq_true, decide_eq_true_eq] using this
    obtain ⟨more, he, hmo⟩ := st.ext
    have hlen := r.hp.len
    have hlen' := st.rel.len
    have hold : ∀ (l : Nat) (o : O) (a : Addr), σ.heap[l]? = some o → ρ[l]? = some a → ∃ ob, s'.heap.get? a = some ob ∧ zX prog w ρ o ob := fun l o a h1 h2 => by
     have hl := (List.getElem?_eq_some_iff.mp h1).1
     have h3 : τ.heap[l]? = some o := by rw [← ht] at h1; rwa [List.getElem?_take_of_lt hl] at h1
     obtain ⟨ob, g1, g2⟩ := st.rel.obj l o a h3 (by rw [he]; exact cr h2)
     have := qL (f := id) (p := mZ σ.heap.length) (ρ2 := ρ) (fun l hl => by
      unfold mZ at hl
      rw [he]
      exact tR (by rw [hlen]; simpa using hl)) (List.all_eq_true.mp hg o (List.mem_of_getElem? h1)) g2
     rw [vJ] at this
     exact ⟨ob, g1, this⟩
    have hfun : ∀ l, jO σ.heap.length ks l = true → ∃ a, ρ'[l]? = some a ∧ (ρ ++ ks.map fun k => ρ'.getD k 0)[er σ.heap.length ks l]? = some a := fun l hl => by
     unfold er
     by_cases hlt : l < σ.heap.length
     ·rw [if_pos hlt, he, List.getElem?_append_left (by lia), List.getElem?_append_left (by lia)]
      exact ⟨_, List.getElem?_eq_getElem (by lia), List.getElem?_eq_getElem (by lia)⟩
     ·rw [if_neg hlt]
      unfold jO at hl
      simp only [Bool.or_eq_true, decide_eq_true_eq, hlt, false_or, List.contains_iff_mem] at hl
      have hi : ks.idxOf l < ks.length := List.idxOf_lt_length_iff.mpr hl
      have hl2 := (hall' l hl).1.2
      rw [List.getElem?_append_right (by lia), show σ.heap.length + ks.idxOf l - ρ.length = ks.idxOf l by lia, List.getElem?_map, List.getElem?_eq_getElem hi, List.getElem_idxOf]
      refine ⟨ρ'.getD l 0, ?_, rfl⟩
      rw [List.getElem?_eq_getElem (by lia), List.getD_eq_getElem?_getD, List.getElem?_eq_getElem (by lia)]; rfl
    have hrr : rr ∈ ks := by rw [← hks]; unfold deepOf; simp
    have st2 := cF.regive r.hp st (fun a ha => ha) hold ks (er σ.heap.length ks) (jO σ.heap.length ks) (fun k hk => by rw [hlen]; exact (hall' k hk).1.1) hnd (fun k hk => (hall' k hk).1.2) (fun k hk o ho => by
     have := (hall' k hk).2
     rwa [List.getD_eq_getElem?_getD, ho] at this) hfun
    obtain ⟨b, g1, rfl⟩ := hv
    obtain ⟨b', g2, g3⟩ := hfun rr (by unfold jO; simp [hrr])
    rw [g1] at g2; cases g2
    exact zu ⟨b, g3, rfl⟩ (st2.up r)
   ·simp only [if_neg hc] at hn
    exact absurd rfl hn
  | _ => exact absurd rfl hn
end
section
variable {prog : Program} {w : World} {ac : Heap} {C : Cx} {mg mb : Str → Option Value} {K : Frag} {names : List (Str × NameKind)} {vars : List (Str × Nat)} {cells : List (Str × Nat × Addr)} {k : Nat}
theorem de {kf fa : Nat} {m : cY} (x : Str) (hf : dy prog w ac kf (.ref fa) av m) (G : Ctx C names vars cells k) (T : bB K ac mg mb) (hh : C.A.handled = none) {ma : St → zV (List V)} {np pos : Pos} {args : List Expr}
  (hkf : Nat.ble kf k = true) (hn : names.lookup x = some .globalImplicit) (hg : nsIn K mainGlobals x = some (some (.ref fa))) (hd : (x == ("__debug__" : Str)) = false) (hk : keepIn K (.ref fa) = true)
  (ha : bK prog w ac C ma pos args) (hp : (backTo pos (starEach args C.env)).any (·.1) = false) : bi prog w ac C (aC ma (bR m)) (eval (.Call (.Name x np) args [] pos) C.env) :=
 fG (fL T.X hk) (eo G T hn hg rfl rfl hd) (fun _ _ h => h) ha (kE G.ok hh (by rw [G.k]; exact Nat.le_of_ble_eq_true hkf) hf) hp
theorem xO {kf fa : Nat} {m : cY} (x : Str) (hf : dy prog w ac kf (.ref fa) av m) (G : Ctx C names vars cells k) (T : bB K ac mg mb) (hh : C.A.handled = none) {ma : St → zV (List V)} {np pos : Pos} {args : List Expr}
  (hkf : Nat.ble kf k = true) (hn : names.lookup x = some .globalImplicit) (hg : nsIn K mainGlobals x = some (some (.ref fa))) (hd : (x == ("__debug__" : Str)) = false) (hk : keepIn K (.ref fa) = true)
  (ha : bK prog w ac C ma pos args) (hp : (backTo pos (starEach args C.env)).any (·.1) = false) : bi prog w ac C (aC ma (mW m)) (eval (.Call (.Name x np) args [] pos) C.env) :=
 fG (fL T.X hk) (eo G T hn hg rfl rfl hd) (fun _ _ h => h) ha (qh G.ok hh (by rw [G.k]; exact Nat.le_of_ble_eq_true hkf) hf) hp
theorem nH {kf fa : Nat} {m : cY} (x n : Str) (hf : dy prog w ac kf (.ref fa) (jg n) m) (G : Ctx C names vars cells k) (T : bB K ac mg mb) (hh : C.A.handled = none) {ma mb' : St → zV V} {np pos kp : Pos} {e v : Expr}
  (hkf : Nat.ble kf k = true) (hn : names.lookup x = some .globalImplicit) (hg : nsIn K mainGlobals x = some (some (.ref fa))) (hd : (x == ("__debug__" : Str)) = false) (hk : keepIn K (.ref fa) = true)
  (ha : bi prog w ac C ma (eval e C.env)) (hv : bi prog w ac C mb' (eval v C.env)) (he : starEach [e] C.env = [(false, eval e C.env)]) (hkw : keywordEach [⟨some n, v, kp⟩] C.env = [(some n, eval v C.env)]) :
  bi prog w ac C (aC (yS ma mb') (bR m)) (eval (.Call (.Name x np) [e] [⟨some n, v, kp⟩] pos) C.env) :=
 qm (fL T.X hk) (eo G T hn hg rfl rfl hd) (fun _ _ h => h) (qg ha hv he hkw) (kE G.ok hh (by rw [G.k]; exact Nat.le_of_ble_eq_true hkf) hf) (.inl (by rw [he, hkw]; rfl))
end
noncomputable def ng (ac : Heap) (a : Addr) (xs : List V) : Prop := ∃ vs, ac.IsList a (List.toArray vs) ∧ ∀ ρ, bL ρ xs vs
noncomputable def ky (a : Addr) (xs : List V) (v lo hi : V) (σ : St) : zV V := match gJ lo, gJ hi with
 | some l, some u => if v = .top a ∧ xs.length ≤ sizeLine then .ok (.ref σ.heap.length) { σ with heap := σ.heap ++ [.list (eA xs l u)] } else .bad
 | _, _ => .bad
noncomputable def dp (a : Addr) (xs : List V) (mo ml mu : St → zV V) : St → zV V := fun σ => (mo σ).bind fun v ae => (ml ae).bind fun l aq => (mu aq).bind fun u aS => ky a xs v l u aS
section
variable {prog : Program} {w : World} {ac : Heap} {C : Cx} {ρ : List Addr} {σ : St} {s : Shared}
theorem i0 {z : Addr} {xs : List V} (hL : ng ac z xs) {mo ml mu : St → zV V} {value : Expr} {lo hi : Option Expr} {p pos : Pos} (ho : bi prog w ac C mo (eval value C.env)) (hl : w8 prog w ac C ml lo) (hu : w8 prog w ac C mu hi) :
  bi prog w ac C (dp z xs mo ml mu) (eval (.Subscript value (.Slice lo hi none p) pos) C.env) := by
 intro ρ σ s r hb
 refine Subscript_ ((ho.at r).next rfl hb fun a ae aw az a' _ va au e => ?_)
 rw [e] at hb ⊢
 refine wpAny_Slice ((hl.at au.rel).then au rfl hb fun b aq aK aT b' _ vb aJ st e => ?_)
 rw [e] at hb ⊢
 refine (hu.at st.rel).then st rfl hb fun c aS b0 bF c' _ vc b9 st' e => ?_
 rw [e] at hb ⊢
 refine evalPart_none_step ?_
 have va' := b9.vr (aJ.vr va)
 have vb' := b9.vr vb
 have r3 := st'.rel
 have stp : Step prog w ac C b0 aS bF b0 aS { bF with heap := bF.heap.push { cls := .type "slice", data := .fields #[b', c', .none] } } := r3.grow _ bF.toks
 unfold ky at hb ⊢
 cases hpl : gJ b with
 | none => rw [hpl] at hb; exact absurd rfl hb
 | some l =>
  cases hpu : gJ c with
  | none => rw [hpl, hpu] at hb; exact absurd rfl hb
  | some u =>
   rw [hpl, hpu] at hb
   dsimp only at hb ⊢
   obtain ⟨pl, pl', epl, ml'⟩ := part_of vb' hpl
   obtain ⟨pu, pu', epu, mu'⟩ := part_of vc hpu
   split at hb
   ·rename_i hc
    rw [if_pos hc]
    obtain ⟨ha, hsz⟩ := hc
    subst ha
    have e0 : a' = .ref z := va'
    subst e0
    obtain ⟨vs, ⟨ob, h1', h2', h3'⟩, hv'⟩ := hL
    have h1 := r3.hp.base _ _ h1'
    have hv := hv' b0
    have il : bF.heap.IsList z vs.toArray := ⟨ob, h1, h2', h3'⟩
    refine tail_any (Heap.IsList.typeIs (s := { bF with heap := bF.heap.push { cls := .type "slice", data := .fields #[b', c', .none] } }) (il.push _)) slot_list_getitem.lookup (wpAny_getItem_list_slice (il.push _) (Heap.IsSliceOf.new ..) pl pu .none (by intro q; cases q) ?_ (by rw [cQ hv]; exact hsz)) (ops := _) rfl
    refine zu (ρ' := b0 ++ [(bF.heap.push { cls := .type "slice", data := .fields #[b', c', .none] }).objs.size]) ⟨_, bv stp.rel.hp _, rfl⟩ (st'.trans (stp.trans (stp.rel.alloc (t := bF.toks) rfl ⟨_, 0, rfl, ?_⟩)))
    have := (nJ hv (sliceRange (sliceBounds l u none xs.length).1 (sliceBounds l u none xs.length).2.1 (sliceBounds l u none xs.length).2.2)).mono (more := [(bF.heap.push { cls := .type "slice", data := .fields #[b', c', .none] }).objs.size])
    unfold eA
    simpa [cQ hv, hv.length] using this
   ·exact absurd rfl hb
end
noncomputable abbrev KK (w : World) : Frag := kH w.params
noncomputable def B64 : Array UInt8 := #[65, 66, 67, 68, 69, 70, 71, 72, 73, 74, 75, 76, 77, 78, 79, 80, 81, 82, 83, 84, 85, 86, 87, 88, 89, 90, 97, 98, 99, 100, 101, 102, 103, 104, 105, 106, 107, 108, 109, 110, 111, 112, 113, 114, 115, 116, 117, 118, 119, 120, 121, 122, 48, 49, 50, 51, 52, 53, 54, 55, 56, 57, 43, 47]
theorem jl (w : World) : pI (KK w) 269 "_node2info" := ⟨by rfl, by rfl, by rfl⟩
theorem fP (w : World) : pI (KK w) 269 "_ready_nodes" := ⟨by rfl, by rfl, by rfl⟩
theorem uA (w : World) : pI (KK w) 269 "_npassedout" := ⟨by rfl, by rfl, by rfl⟩
theorem uB (w : World) : pI (KK w) 269 "_nfinished" := ⟨by rfl, by rfl, by rfl⟩
theorem xh (w : World) : pH (KK w) 269 "_node2info" := ⟨by rfl, by rfl, by rfl, by rfl⟩
theorem uh (w : World) : pH (KK w) 269 "_ready_nodes" := ⟨by rfl, by rfl, by rfl, by rfl⟩
theorem ui (w : World) : pH (KK w) 269 "_npassedout" := ⟨by rfl, by rfl, by rfl, by rfl⟩
theorem uj (w : World) : pH (KK w) 269 "_nfinished" := ⟨by rfl, by rfl, by rfl, by rfl⟩
theorem wo (w : World) : rR (KK w) 172 "node" 173 0 := ⟨by rfl, by rfl, by rfl, by rfl, by rfl, by rfl⟩
theorem iC (w : World) : rR (KK w) 172 "npredecessors" 174 1 := ⟨by rfl, by rfl, by rfl, by rfl, by rfl, by rfl⟩
theorem mI (w : World) : rR (KK w) 172 "successors" 175 2 := ⟨by rfl, by rfl, by rfl, by rfl, by rfl, by rfl⟩
theorem uU (w : World) : rP (KK w) 172 "node" 173 0 := ⟨by rfl, by rfl, by rfl, by rfl, by decide, by rfl⟩
theorem hY (w : World) : rP (KK w) 172 "npredecessors" 174 1 := ⟨by rfl, by rfl, by rfl, by rfl, by decide, by rfl⟩
theorem uT (w : World) : rP (KK w) 172 "successors" 175 2 := ⟨by rfl, by rfl, by rfl, by rfl, by decide, by rfl⟩
theorem ur (w : World) : fq (KK w) 269 "_get_nodeinfo" 212 := ⟨by rfl, by rfl, by rfl⟩
theorem yb (w : World) : fq (KK w) 269 "add" 219 := ⟨by rfl, by rfl, by rfl⟩
theorem ya (w : World) : fq (KK w) 269 "prepare" 224 := ⟨by rfl, by rfl, by rfl⟩
theorem x9 (w : World) : fq (KK w) 269 "get_ready" 231 := ⟨by rfl, by rfl, by rfl⟩
theorem x8 (w : World) : fq (KK w) 269 "is_active" 238 := ⟨by rfl, by rfl, by rfl⟩
theorem x7 (w : World) : fq (KK w) 269 "done" 252 := ⟨by rfl, by rfl, by rfl⟩
theorem x6 (w : World) : fq (KK w) 269 "_find_cycle" 259 := ⟨by rfl, by rfl, by rfl⟩
theorem x4 (w : World) : nh (KK w) 172 168 := ⟨by rfl, by rfl, by rfl⟩
theorem x3 (w : World) : nh (KK w) 269 205 := ⟨by rfl, by rfl, by rfl⟩
section
variable {w : World} {ac : Heap} {mg mb : Str → Option Value}
theorem xX (T : bB (KK w) ac mg mb) : OwnCls "error_reply" 44 [.type "Exception", .type "BaseException", .type "object"] "Exception.__new__" mg ac := l8 T (by rfl) (by kernel_rfl)
theorem tj (T : bB (KK w) ac mg mb) : OwnCls "error_proto" 56 [.type "Exception", .type "BaseException", .type "object"] "Exception.__new__" mg ac := l8 T (by rfl) (by kernel_rfl)
theorem xY (T : bB (KK w) ac mg mb) : OwnCls "CycleError" 187 [.type "ValueError", .type "Exception", .type "BaseException", .type "object"] "ValueError.__new__" mg ac := l8 T (by rfl) (by kernel_rfl)
theorem si_44 (w : World) : js (KK w) 44 := ⟨by rfl, by rfl⟩
theorem si_56 (w : World) : js (KK w) 56 := ⟨by rfl, by rfl⟩
theorem vP (w : World) : nf (KK w) (.type "StopIteration") [(.type "StopIteration", true)] := by
 intro p hp
 simp only [List.mem_cons, List.not_mem_nil, or_false] at hp
 subst hp
 exact ⟨.type "StopIteration", fun _ _ h => h, by kernel_rfl⟩
theorem xV (w : World) : nf (KK w) (.ref 187) [(.top 187, true)] := by
 intro p hp
 simp only [List.mem_cons, List.not_mem_nil, or_false] at hp
 subst hp
 exact ⟨.ref 187, fun _ _ h => h, by kernel_rfl⟩
theorem pk_44 (w : World) : nf (KK w) (.ref 44) [(.top 44, true), (.top 56, false)] := by
 intro p hp
 simp only [List.mem_cons, List.not_mem_nil, or_false] at hp
 rcases hp with rfl | rfl
 ·exact ⟨.ref 44, fun _ _ h => h, by kernel_rfl⟩
 ·exact ⟨.ref 56, fun _ _ h => h, by kernel_rfl⟩
theorem pk_56 (w : World) : nf (KK w) (.ref 56) [(.top 56, true)] := by
 intro p hp
 simp only [List.mem_cons, List.not_mem_nil, or_false] at hp
 subst hp
 exact ⟨.ref 56, fun _ _ h => h, by kernel_rfl⟩
theorem ug (w : World) : ∀ c ∈ [44, 56], js (KK w) c := by
 intro c hc
 simp only [List.mem_cons, List.not_mem_nil, or_false] at hc
 rcases hc with rfl | rfl
 ·exact si_44 w
 ·exact si_56 w
end
theorem yd (w : World) : t8 (KK w) 269 "add" 219 := ⟨yb w, by rfl, by rfl, by rfl, by decide +kernel, by rfl⟩
theorem yc (w : World) : t8 (KK w) 269 "done" 252 := ⟨x7 w, by rfl, by rfl, by rfl, by decide +kernel, by rfl⟩
section
variable {prog : Program} {w : World} {ac : Heap} {mg mb : Str → Option Value}
noncomputable def wb : cY := dj 1 (ew 1 []) (aM (zB (n8 CmpOp.LtE CmpOp.LtE (aa (V.int 65)) (ai 0) (aa (V.int 90))) (dh (aR Operator.Sub (ai 0) (aa (V.int 65)))) (aa F.next)) (aM (zB (n8 CmpOp.LtE CmpOp.LtE (aa (V.int 97)) (ai 0) (aa (V.int 122))) (dh (aR Operator.Sub (ai 0) (aa (V.int 71)))) (aa F.next)) (aM (zB (n8 CmpOp.LtE CmpOp.LtE (aa (V.int 48)) (ai 0) (aa (V.int 57))) (dh (aR Operator.Add (ai 0) (aa (V.int 4)))) (aa F.next)) (aM (zB (aB (aW CmpOp.Eq (ai 0) (aa (V.int 43)))) (dh (aa (V.int 62))) (aa F.next)) (aM (zB (aB (aW CmpOp.Eq (ai 0) (aa (V.int 47)))) (dh (aa (V.int 63))) (aa F.next)) (dh (aa (V.int 64))))))))
theorem vA (T : bB (KK w) ac mg mb) : dy prog w ac 1 (.ref 121) av wb := by
 unfold wb
 apply b7 (N := 1) T 121 ["c"] [] 1 [] [] av 0
 case h => rfl
 case hd => exact fun ρ => .nil
 case hB =>
  intro s xs _ hl
  obtain ⟨a, rfl⟩ := cB hl
  exact BindsTo.of_eq rfl
 all_goals try first | rfl | decide | (intros; rfl)
 intro C G hh
 exact (ah (aQ (gg (Ctx.ok G) (af rfl) (ak G rfl rfl) (af rfl) rfl) (ar (aZ (aA (ak G rfl rfl) (af rfl)))) aD) (ah (aQ (gg (Ctx.ok G) (af rfl) (ak G rfl rfl) (af rfl) rfl) (ar (aZ (aA (ak G rfl rfl) (af rfl)))) aD) (ah (aQ (gg (Ctx.ok G) (af rfl) (ak G rfl rfl) (af rfl) rfl) (ar (aZ (aA (ak G rfl rfl) (af rfl)))) aD) (ah (aQ (ay (Ctx.ok G) (ak G rfl rfl) (af rfl) rfl) (ar (aZ (af rfl))) aD) (ah (aQ (ay (Ctx.ok G) (ak G rfl rfl) (af rfl) rfl) (ar (aZ (af rfl))) aD) (ar (aZ (af rfl))))))))
noncomputable def wd : cY :=
 dj 2 (ew 1 [])
  (aM (an (aC (aj (ai 0) (aa [])) r7) (ao 1))
   (aM
    (zB
     (aB
      (aW CmpOp.Is (ai 1)
       (aa (V.type "str"))))
     (aM (zB (uq (aB (a7 bH nU (ai 0) (aa [])))) dU (aa F.next))
      (dh (a7 bH mU (ai 0) (aj (aa (V.str "ascii")) (aa [])))))
     (aa F.next))
    (aM
     (zB
      (aB
       (aW CmpOp.Is (ai 1)
        (aa (V.type "bytes"))))
      (dh (ai 0)) (aa F.next))
     (aM
      (zB
       (aB
        (aW CmpOp.Is (ai 1)
         (aa (V.type "bytearray"))))
       (dh (aC (aj (ai 0) (aa [])) iJ)) (aa F.next))
      dU))))
theorem vC (T : bB (KK w) ac mg mb) : dy prog w ac 1 (.ref 100) av wd := by
 unfold wd
 apply b7 (N := 2) T 100 ["data"] ["t"] 1 [] [] av 0
 case h => rfl
 case hd => exact fun ρ => .nil
 case hB =>
  intro s xs _ hl
  obtain ⟨a, rfl⟩ := cB hl
  exact BindsTo.of_eq rfl
 all_goals try first | rfl | decide | (intros; rfl)
 intro C G hh
 exact (ah (al (cI "type" jw G T rfl rfl rfl rfl rfl (ad (ak G rfl rfl) ag rfl) rfl) (ax G rfl) rfl rfl rfl) (ah (aQ (ay (Ctx.ok G) (ak G rfl rfl) (dz G T rfl rfl rfl rfl rfl rfl rfl) rfl) (ah (aQ (lT (ce (aU kY (ak G rfl rfl) ag rfl rfl rfl rfl) rfl)) (ar cf) aD) (ar (aZ (aU ix (ak G rfl rfl) (ad (af rfl) ag rfl) rfl rfl rfl rfl)))) aD) (ah (aQ (ay (Ctx.ok G) (ak G rfl rfl) (dz G T rfl rfl rfl rfl rfl rfl rfl) rfl) (ar (aZ (ak G rfl rfl))) aD) (ah (aQ (ay (Ctx.ok G) (ak G rfl rfl) (dz G T rfl rfl rfl rfl rfl rfl rfl) rfl) (ar (aZ (cI "bytes" (eJ hh) G T rfl rfl rfl rfl rfl (ad (ak G rfl rfl) ag rfl) rfl))) aD) (ar rD)))))
noncomputable def wc : cY :=
 dj 2 (ew 1 [])
  (aM (an (aC (aj (ai 0) (aa [])) r7) (ao 1))
   (aM
    (zB
     (aB
      (aW CmpOp.Is (ai 1)
       (aa (V.type "bytes"))))
     (dh (ai 0)) (aa F.next))
    (aM
     (zB
      (aB
       (aW CmpOp.Is (ai 1)
        (aa (V.type "bytearray"))))
      (dh (aC (aj (ai 0) (aa [])) iJ)) (aa F.next))
     dU)))
theorem vB (T : bB (KK w) ac mg mb) : dy prog w ac 1 (.ref 107) av wc := by
 unfold wc
 apply b7 (N := 2) T 107 ["data"] ["t"] 1 [] [] av 0
 case h => rfl
 case hd => exact fun ρ => .nil
 case hB =>
  intro s xs _ hl
  obtain ⟨a, rfl⟩ := cB hl
  exact BindsTo.of_eq rfl
 all_goals try first | rfl | decide | (intros; rfl)
 intro C G hh
 exact (ah (al (cI "type" jw G T rfl rfl rfl rfl rfl (ad (ak G rfl rfl) ag rfl) rfl) (ax G rfl) rfl rfl rfl) (ah (aQ (ay (Ctx.ok G) (ak G rfl rfl) (dz G T rfl rfl rfl rfl rfl rfl rfl) rfl) (ar (aZ (ak G rfl rfl))) aD) (ah (aQ (ay (Ctx.ok G) (ak G rfl rfl) (dz G T rfl rfl rfl rfl rfl rfl rfl) rfl) (ar (aZ (cI "bytes" (eJ hh) G T rfl rfl rfl rfl rfl (ad (ak G rfl rfl) ag rfl) rfl))) aD) (ar rD))))
noncomputable def tC : cY := dj 2 (ew 1 []) (aM (an (aC (aj (ai 0) (aa [])) r7) (ao 1)) (aM (zB (zq (aB (aW CmpOp.Is (ai 0) (aa V.none))) (zq (aB (aW CmpOp.Is (ai 1) (aa (V.type "bool")))) (zq (aB (aW CmpOp.Is (ai 1) (aa (V.type "int")))) (zq (aB (aW CmpOp.Is (ai 1) (aa (V.type "float")))) (zq (aB (aW CmpOp.Is (ai 1) (aa (V.type "complex")))) (zq (aB (aW CmpOp.Is (ai 1) (aa (V.type "str")))) (zq (aB (aW CmpOp.Is (ai 1) (aa (V.type "bytes")))) (zq (aB (aW CmpOp.Is (ai 1) (aa (V.type "bytearray")))) (zq (aB (aW CmpOp.Is (ai 1) (aa (V.type "list")))) (zq (aB (aW CmpOp.Is (ai 1) (aa (V.type "tuple")))) (zq (aB (aW CmpOp.Is (ai 1) (aa (V.type "dict")))) (zq (aB (aW CmpOp.Is (ai 1) (aa (V.type "set")))) (zq (aB (aW CmpOp.Is (ai 1) (aa (V.type "frozenset")))) (zq (aB (aW CmpOp.Is (ai 1) (aa (V.type "range")))) (aa false))))))))))))))) (dh (zB (aB (ai 0)) (aa (V.bool true)) (aa (V.bool false)))) (aa F.next)) dU))
theorem qr (T : bB (KK w) ac mg mb) : dy prog w ac 1 (.ref 114) av tC := by
 unfold tC
 apply b7 (N := 2) T 114 ["x"] ["t"] 1 [] [] av 0
 case h => rfl
 case hd => exact fun ρ => .nil
 case hB =>
  intro s xs _ hl
  obtain ⟨a, rfl⟩ := cB hl
  exact BindsTo.of_eq rfl
 all_goals try first | rfl | decide | (intros; rfl)
 intro C G hh
 exact (ah (al (cI "type" jw G T rfl rfl rfl rfl rfl (ad (ak G rfl rfl) ag rfl) rfl) (ax G rfl) rfl rfl rfl) (ah (aQ (cA (aV (ay (Ctx.ok G) (ak G rfl rfl) (af rfl) rfl) (aV (ay (Ctx.ok G) (ak G rfl rfl) (dz G T rfl rfl rfl rfl rfl rfl rfl) rfl) (aV (ay (Ctx.ok G) (ak G rfl rfl) (dz G T rfl rfl rfl rfl rfl rfl rfl) rfl) (aV (ay (Ctx.ok G) (ak G rfl rfl) (dz G T rfl rfl rfl rfl rfl rfl rfl) rfl) (aV (ay (Ctx.ok G) (ak G rfl rfl) (dz G T rfl rfl rfl rfl rfl rfl rfl) rfl) (aV (ay (Ctx.ok G) (ak G rfl rfl) (dz G T rfl rfl rfl rfl rfl rfl rfl) rfl) (aV (ay (Ctx.ok G) (ak G rfl rfl) (dz G T rfl rfl rfl rfl rfl rfl rfl) rfl) (aV (ay (Ctx.ok G) (ak G rfl rfl) (dz G T rfl rfl rfl rfl rfl rfl rfl) rfl) (aV (ay (Ctx.ok G) (ak G rfl rfl) (dz G T rfl rfl rfl rfl rfl rfl rfl) rfl) (aV (ay (Ctx.ok G) (ak G rfl rfl) (dz G T rfl rfl rfl rfl rfl rfl rfl) rfl) (aV (ay (Ctx.ok G) (ak G rfl rfl) (dz G T rfl rfl rfl rfl rfl rfl rfl) rfl) (aV (ay (Ctx.ok G) (ak G rfl rfl) (dz G T rfl rfl rfl rfl rfl rfl rfl) rfl) (aV (ay (Ctx.ok G) (ak G rfl rfl) (dz G T rfl rfl rfl rfl rfl rfl rfl) rfl) (aV (ay (Ctx.ok G) (ak G rfl rfl) (dz G T rfl rfl rfl rfl rfl rfl rfl) rfl) eU))))))))))))))) (ar (aZ (eI (ce (ak G rfl rfl) rfl) (af rfl) (af rfl)))) aD) (ar rD)))
noncomputable def wa : cY :=
 dj 9 (ew 2 [])
  (aM (an (aC (aj (ai 0) (aa [])) (bR wd)) (ao 2))
   (aM (an (aC (aj (ai 1) (aa [])) (bR tC)) (ao 1))
    (aM (an (bu (aa [])) (ao 3))
     (aM (an (aa (V.int 0)) (ao 4))
      (aM (an (aa (V.int 0)) (ao 5))
       (aM (an (aa (V.int 0)) (ao 6))
        (aM (an (aa (V.int 0)) (ao 7))
         (aM
          (gZ (ai 2) (ao 8)
           (aM
            (zB (aB (aW CmpOp.Eq (ai 8) (aa (V.int 61))))
             (aM (an (aR Operator.Add (ai 6) (aa (V.int 1))) (ao 6))
              (aM
               (zB
                (gz (aB (aW CmpOp.GtE (ai 4) (aa (V.int 2))))
                 (gz
                  (aB
                   (aW CmpOp.LtE (aR Operator.Add (ai 4) (ai 6)) (aa (V.int 4))))
                  (aa true)))
                (aM
                 (an (aR Operator.Add (ai 7) (aa (V.int 1))) (ao 7))
                 (aa F.cont))
                (aa F.next))
               (aM
                (zB (uq (aB (ai 1)))
                 (aM
                  (an (aR Operator.Add (ai 7) (aa (V.int 1))) (ao 7))
                  (aa F.cont))
                 (aa F.next))
                (aM (zB (aB (aW CmpOp.Eq (ai 4) (aa (V.int 1)))) (aa F.brk) (aa F.next))
                 (aM
                  (zB
                   (gz (aB (aW CmpOp.Eq (ai 4) (aa (V.int 0))))
                    (gz (aB (aW CmpOp.Eq (ai 7) (aa (V.int 0)))) (aa true)))
                   dU (aa F.next))
                  dU)))))
             (aa F.next))
            (aM
             (an (aC (aj (ai 8) (aa [])) (bR wb))
              (ao 8))
             (aM
              (zB (aB (aW CmpOp.GtE (ai 8) (aa (V.int 64))))
               (aM (zB (aB (ai 1)) dU (aa F.next))
                (aM
                 (an (aR Operator.Add (ai 7) (aa (V.int 1))) (ao 7))
                 (aa F.cont)))
               (aa F.next))
              (aM
               (zB (gz (aB (ai 6)) (gz (aB (ai 1)) (aa true)))
                (aM
                 (zB
                  (aB
                   (aW CmpOp.Eq (aR Operator.Add (ai 4) (ai 6)) (aa (V.int 4))))
                  dU (aa F.next))
                 dU)
                (aa F.next))
               (aM (an (aa (V.int 0)) (ao 6))
                (aM
                 (zB (aB (aW CmpOp.Eq (ai 4) (aa (V.int 0))))
                  (aM (an (aa (V.int 1)) (ao 4))
                   (an (ai 8) (ao 5)))
                  (zB (aB (aW CmpOp.Eq (ai 4) (aa (V.int 1))))
                   (aM (an (aa (V.int 2)) (ao 4))
                    (aM
                     (bE
                      (a7 aO bk (ai 3)
                       (aj
                        (aR Operator.BitOr (aR Operator.LShift (ai 5) (aa (V.int 2)))
                         (aR Operator.RShift (ai 8) (aa (V.int 4))))
                        (aa []))))
                     (an (aR Operator.BitAnd (ai 8) (aa (V.int 15)))
                      (ao 5))))
                   (zB (aB (aW CmpOp.Eq (ai 4) (aa (V.int 2))))
                    (aM (an (aa (V.int 3)) (ao 4))
                     (aM
                      (bE
                       (a7 aO bk (ai 3)
                        (aj
                         (aR Operator.BitOr (aR Operator.LShift (ai 5) (aa (V.int 4)))
                          (aR Operator.RShift (ai 8) (aa (V.int 2))))
                         (aa []))))
                      (an (aR Operator.BitAnd (ai 8) (aa (V.int 3)))
                       (ao 5))))
                    (aM (an (aa (V.int 0)) (ao 4))
                     (aM
                      (bE
                       (a7 aO bk (ai 3)
                        (aj
                         (aR Operator.BitOr (aR Operator.LShift (ai 5) (aa (V.int 6)))
                          (ai 8))
                         (aa []))))
                      (an (aa (V.int 0)) (ao 5)))))))
                 (an (aR Operator.Add (ai 7) (aa (V.int 1)))
                  (ao 7))))))))
           (aa F.next))
          (aM (zB (aB (aW CmpOp.Eq (ai 4) (aa (V.int 1)))) dU (aa F.next))
           (aM
            (zB
             (gz (aB (aW CmpOp.NotEq (ai 4) (aa (V.int 0))))
              (gz
               (aB (aW CmpOp.Lt (aR Operator.Add (ai 4) (ai 6)) (aa (V.int 4))))
               (aa true)))
             dU (aa F.next))
            (dh (aC (aj (ai 3) (aa [])) iJ))))))))))))
theorem vz (T : bB (KK w) ac mg mb) : dy prog w ac 2 (.ref 129) (jg "strict_mode") wa := by
 unfold wa
 apply b7 (N := 9) T 129 ["data", "strict_mode"] ["ascii_data", "out", "quad_pos", "leftchar", "pads", "i", "this_ch"] 2 [] [] (jg "strict_mode") 1
 case h => rfl
 case hd => exact fun ρ => .nil
 case hB =>
  intro s xs _ hl
  obtain ⟨a, b, rfl⟩ := eF hl
  exact BindsTo.of_eq rfl
 all_goals try first | rfl | decide | (intros; rfl)
 intro C G hh
 exact (ah (al (de "_ascii_buffer" (vC T) G T hh rfl rfl rfl rfl rfl (ad (ak G rfl rfl) ag rfl) rfl) (ax G rfl) rfl rfl rfl) (ah (al (de "_truth" (qr T) G T hh rfl rfl rfl rfl rfl (ad (ak G rfl rfl) ag rfl) rfl) (ax G rfl) rfl rfl rfl) (ah (al (bn ag) (ax G rfl) rfl rfl rfl) (ah (al (af rfl) (ax G rfl) rfl rfl rfl) (ah (al (af rfl) (ax G rfl) rfl rfl rfl) (ah (al (af rfl) (ax G rfl) rfl rfl rfl) (ah (al (af rfl) (ax G rfl) rfl rfl rfl) (ah (dZ hh (ak G rfl rfl) (ax G rfl) (ah (aQ (ay (Ctx.ok G) (ak G rfl rfl) (af rfl) rfl) (ah (al (aA (ak G rfl rfl) (af rfl)) (ax G rfl) rfl rfl rfl) (ah (aQ (cA (bc (ay (Ctx.ok G) (ak G rfl rfl) (af rfl) rfl) (bc (ay (Ctx.ok G) (aA (ak G rfl rfl) (ak G rfl rfl)) (af rfl) rfl) cn))) (ah (al (aA (ak G rfl rfl) (af rfl)) (ax G rfl) rfl rfl rfl) (ar dB)) aD) (ah (aQ (lT (ce (ak G rfl rfl) rfl)) (ah (al (aA (ak G rfl rfl) (af rfl)) (ax G rfl) rfl rfl rfl) (ar dB)) aD) (ah (aQ (ay (Ctx.ok G) (ak G rfl rfl) (af rfl) rfl) (ar fH) aD) (ah (aQ (cA (bc (ay (Ctx.ok G) (ak G rfl rfl) (af rfl) rfl) (bc (ay (Ctx.ok G) (ak G rfl rfl) (af rfl) rfl) cn))) (ar cf) aD) (ar cf)))))) aD) (ah (al (de "_b64_value" (vA T) G T hh rfl rfl rfl rfl rfl (ad (ak G rfl rfl) ag rfl) rfl) (ax G rfl) rfl rfl rfl) (ah (aQ (ay (Ctx.ok G) (ak G rfl rfl) (af rfl) rfl) (ah (aQ (ce (ak G rfl rfl) rfl) (ar cf) aD) (ah (al (aA (ak G rfl rfl) (af rfl)) (ax G rfl) rfl rfl rfl) (ar dB))) aD) (ah (aQ (cA (bc (ce (ak G rfl rfl) rfl) (bc (ce (ak G rfl rfl) rfl) cn))) (ah (aQ (ay (Ctx.ok G) (aA (ak G rfl rfl) (ak G rfl rfl)) (af rfl) rfl) (ar cf) aD) (ar cf)) aD) (ah (al (af rfl) (ax G rfl) rfl rfl rfl) (ah (aQ (ay (Ctx.ok G) (ak G rfl rfl) (af rfl) rfl) (ah (al (af rfl) (ax G rfl) rfl rfl rfl) (ar (al (ak G rfl rfl) (ax G rfl) rfl rfl rfl))) (ar (aQ (ay (Ctx.ok G) (ak G rfl rfl) (af rfl) rfl) (ah (al (af rfl) (ax G rfl) rfl rfl rfl) (ah (bj (aU bb (ak G rfl rfl) (ad (aA (aA (ak G rfl rfl) (af rfl)) (aA (ak G rfl rfl) (af rfl))) ag rfl) rfl rfl rfl rfl) (aF (Ctx.ok G)) rfl) (ar (al (aA (ak G rfl rfl) (af rfl)) (ax G rfl) rfl rfl rfl)))) (ar (aQ (ay (Ctx.ok G) (ak G rfl rfl) (af rfl) rfl) (ah (al (af rfl) (ax G rfl) rfl rfl rfl) (ah (bj (aU bb (ak G rfl rfl) (ad (aA (aA (ak G rfl rfl) (af rfl)) (aA (ak G rfl rfl) (af rfl))) ag rfl) rfl rfl rfl rfl) (aF (Ctx.ok G)) rfl) (ar (al (aA (ak G rfl rfl) (af rfl)) (ax G rfl) rfl rfl rfl)))) (ah (al (af rfl) (ax G rfl) rfl rfl rfl) (ah (bj (aU bb (ak G rfl rfl) (ad (aA (aA (ak G rfl rfl) (af rfl)) (ak G rfl rfl)) ag rfl) rfl rfl rfl rfl) (aF (Ctx.ok G)) rfl) (ar (al (af rfl) (ax G rfl) rfl rfl rfl))))))))) (ar (al (aA (ak G rfl rfl) (af rfl)) (ax G rfl) rfl rfl rfl)))))))) aD (fun x_ => (fun x__1 => rfl)) (fun x_ => rfl)) (ah (aQ (ay (Ctx.ok G) (ak G rfl rfl) (af rfl) rfl) (ar cf) aD) (ah (aQ (cA (bc (ay (Ctx.ok G) (ak G rfl rfl) (af rfl) rfl) (bc (ay (Ctx.ok G) (aA (ak G rfl rfl) (ak G rfl rfl)) (af rfl) rfl) cn))) (ar cf) aD) (ar (aZ (cI "bytes" (eJ hh) G T rfl rfl rfl rfl rfl (ad (ak G rfl rfl) ag rfl) rfl)))))))))))))
noncomputable def vZ : cY :=
 dj 7 (ew 2 [])
  (aM (an (aC (aj (ai 0) (aa [])) (bR wc)) (ao 2))
   (aM (an (aC (aj (ai 1) (aa [])) (bR tC)) (ao 1))
    (aM (an (bu (aa [])) (ao 3))
     (aM (an (aa (V.int 0)) (ao 4))
      (aM (an (aa (V.int 0)) (ao 5))
       (aM
        (gZ (ai 2) (ao 6)
         (aM
          (an
           (aR Operator.BitAnd
            (aR Operator.BitOr (aR Operator.LShift (ai 5) (aa (V.int 8))) (ai 6))
            (aa (V.int 65535)))
           (ao 5))
          (aM (an (aR Operator.Add (ai 4) (aa (V.int 8))) (ao 4))
           (bT (aB (aW CmpOp.GtE (ai 4) (aa (V.int 6))))
            (aM
             (bE
              (a7 aO bk (ai 3)
               (aj
                (bp br
                 (aa
                  (V.bytes B64))
                 (aR Operator.BitAnd
                  (aR Operator.RShift (ai 5) (aR Operator.Sub (ai 4) (aa (V.int 6))))
                  (aa (V.int 63))))
                (aa []))))
             (an (aR Operator.Sub (ai 4) (aa (V.int 6))) (ao 4)))
            (aa F.next) 4)))
         (aa F.next))
        (aM
         (zB (aB (aW CmpOp.Eq (ai 4) (aa (V.int 2))))
          (aM
           (bE
            (a7 aO bk (ai 3)
             (aj
              (bp br
               (aa
                (V.bytes B64))
               (aR Operator.LShift (aR Operator.BitAnd (ai 5) (aa (V.int 3))) (aa (V.int 4))))
              (aa []))))
           (aM (bE (a7 aO bk (ai 3) (aj (aa (V.int 61)) (aa []))))
            (bE (a7 aO bk (ai 3) (aj (aa (V.int 61)) (aa []))))))
          (zB (aB (aW CmpOp.Eq (ai 4) (aa (V.int 4))))
           (aM
            (bE
             (a7 aO bk (ai 3)
              (aj
               (bp br
                (aa
                 (V.bytes B64))
                (aR Operator.LShift (aR Operator.BitAnd (ai 5) (aa (V.int 15))) (aa (V.int 2))))
               (aa []))))
            (bE (a7 aO bk (ai 3) (aj (aa (V.int 61)) (aa [])))))
           (aa F.next)))
         (aM
          (zB (aB (ai 1)) (bE (a7 aO bk (ai 3) (aj (aa (V.int 10)) (aa []))))
           (aa F.next))
          (dh (aC (aj (ai 3) (aa [])) iJ))))))))))
theorem vx (T : bB (KK w) ac mg mb) : dy prog w ac 2 (.ref 137) (jg "newline") vZ := by
 unfold vZ
 apply b7 (N := 7) T 137 ["data", "newline"] ["bin_data", "out", "leftbits", "leftchar", "b"] 2 [] [] (jg "newline") 1
 case h => rfl
 case hd => exact fun ρ => .nil
 case hB =>
  intro s xs _ hl
  obtain ⟨a, b, rfl⟩ := eF hl
  exact BindsTo.of_eq rfl
 all_goals try first | rfl | decide | (intros; rfl)
 intro C G hh
 exact (ah (al (de "_buffer" (vB T) G T hh rfl rfl rfl rfl rfl (ad (ak G rfl rfl) ag rfl) rfl) (ax G rfl) rfl rfl rfl) (ah (al (de "_truth" (qr T) G T hh rfl rfl rfl rfl rfl (ad (ak G rfl rfl) ag rfl) rfl) (ax G rfl) rfl rfl rfl) (ah (al (bn ag) (ax G rfl) rfl rfl rfl) (ah (al (af rfl) (ax G rfl) rfl rfl rfl) (ah (al (af rfl) (ax G rfl) rfl rfl rfl) (ah (dZ hh (ak G rfl rfl) (ax G rfl) (ah (al (aA (aA (aA (ak G rfl rfl) (af rfl)) (ak G rfl rfl)) (af rfl)) (ax G rfl) rfl rfl rfl) (ah (al (aA (ak G rfl rfl) (af rfl)) (ax G rfl) rfl rfl rfl) (ar (dM (4) (ay (Ctx.ok G) (ak G rfl rfl) (af rfl) rfl) (ah (bj (aU bb (ak G rfl rfl) (ad (a9 (eo G T rfl rfl rfl rfl rfl) (aA (aA (ak G rfl rfl) (aA (ak G rfl rfl) (af rfl))) (af rfl)) (fun x_ => (fun x__1 => (fun x__2 => rfl)))) ag rfl) rfl rfl rfl rfl) (aF (Ctx.ok G)) rfl) (ar (al (aA (ak G rfl rfl) (af rfl)) (ax G rfl) rfl rfl rfl))) aD)))) aD (fun x_ => (fun x__1 => rfl)) (fun x_ => rfl)) (ah (aQ (ay (Ctx.ok G) (ak G rfl rfl) (af rfl) rfl) (ah (bj (aU bb (ak G rfl rfl) (ad (a9 (eo G T rfl rfl rfl rfl rfl) (aA (aA (ak G rfl rfl) (af rfl)) (af rfl)) (fun x_ => (fun x__1 => (fun x__2 => rfl)))) ag rfl) rfl rfl rfl rfl) (aF (Ctx.ok G)) rfl) (ah (bj (aU bb (ak G rfl rfl) (ad (af rfl) ag rfl) rfl rfl rfl rfl) (aF (Ctx.ok G)) rfl) (ar (bj (aU bb (ak G rfl rfl) (ad (af rfl) ag rfl) rfl rfl rfl rfl) (aF (Ctx.ok G)) rfl)))) (ar (aQ (ay (Ctx.ok G) (ak G rfl rfl) (af rfl) rfl) (ah (bj (aU bb (ak G rfl rfl) (ad (a9 (eo G T rfl rfl rfl rfl rfl) (aA (aA (ak G rfl rfl) (af rfl)) (af rfl)) (fun x_ => (fun x__1 => (fun x__2 => rfl)))) ag rfl) rfl rfl rfl rfl) (aF (Ctx.ok G)) rfl) (ar (bj (aU bb (ak G rfl rfl) (ad (af rfl) ag rfl) rfl rfl rfl rfl) (aF (Ctx.ok G)) rfl))) aD))) (ah (aQ (ce (ak G rfl rfl) rfl) (ar (bj (aU bb (ak G rfl rfl) (ad (af rfl) ag rfl) rfl rfl rfl rfl) (aF (Ctx.ok G)) rfl)) aD) (ar (aZ (cI "bytes" (eJ hh) G T rfl rfl rfl rfl rfl (ad (ak G rfl rfl) ag rfl) rfl)))))))))))
noncomputable def qV : cY := dj 3 (ew 1 [V.none]) (aM (an (aC (yS (ai 0) (aa (V.bool false))) (bR vZ)) (ao 2)) (aM (zB (aB (aW CmpOp.IsNot (ai 1) (aa V.none))) dU (aa F.next)) (dh (ai 2))))
theorem vw (T : bB (KK w) ac mg mb) : dy prog w ac 3 (.ref 145) av qV := by
 unfold qV
 apply b7 (N := 3) T 145 ["s", "altchars"] ["encoded"] 1 [.none] [.none] av 2
 case h => rfl
 case hd => exact fun ρ => .one rfl
 case hB =>
  intro s xs hs hl
  obtain ⟨a, rfl⟩ := cB hl
  exact kp_binds (T.X.keeps hs) fun _ => rfl
 all_goals try first | rfl | decide | (intros; rfl)
 intro C G hh
 exact (ah (al (nH "b2a_base64" "newline" (vx T) G T hh rfl rfl rfl rfl rfl (ak G rfl rfl) (af rfl) rfl rfl) (ax G rfl) rfl rfl rfl) (ah (aQ (ay (Ctx.ok G) (ak G rfl rfl) (af rfl) rfl) jW aD) (ar (aZ (ak G rfl rfl)))))
noncomputable def yR : cY := dj 1 (ew 1 []) (aM (zB (aB (aC (aj (ai 0) (aj (aa (V.type "str")) (aa []))) isiF)) (lQ (dh (a7 bH mU (ai 0) (aj (aa (V.str "ascii")) (aa [])))) uF) (aa F.next)) dU)
theorem uf (T : bB (KK w) ac mg mb) : dy prog w ac 1 (.ref 80) av yR := by
 unfold yR
 apply b7 (N := 1) T 80 ["s"] [] 1 [] [] av 0
 case h => rfl
 case hd => exact fun ρ => .nil
 case hB =>
  intro s xs _ hl
  obtain ⟨a, rfl⟩ := cB hl
  exact BindsTo.of_eq rfl
 all_goals try first | rfl | decide | (intros; rfl)
 intro C G hh
 exact (ah (aQ (ce (d5 "isinstance" u1 G T rfl rfl rfl rfl rfl (ad (ak G rfl rfl) (ad (dz G T rfl rfl rfl rfl rfl rfl rfl) ag rfl) rfl) rfl) rfl) (ar (jx (Ctx.ok G) (ar (aZ (aU ix (ak G rfl rfl) (ad (af rfl) ag rfl) rfl rfl rfl rfl))) gR)) aD) (b_isi rfl))
noncomputable def tB : cY := dj 3 (ew 1 [V.none, V.bool false]) (aM (an (aC (aj (ai 0) (aa [])) (bR yR)) (ao 0)) (aM (zB (aB (aW CmpOp.IsNot (ai 1) (aa V.none))) (aM (an (aC (aj (ai 1) (aa [])) (bR yR)) (ao 1)) dU) (aa F.next)) (dh (aC (yS (ai 0) (ai 2)) (bR wa)))))
theorem vu (T : bB (KK w) ac mg mb) : dy prog w ac 3 (.ref 153) av tB := by
 unfold tB
 apply b7 (N := 3) T 153 ["s", "altchars", "validate"] [] 1 [.none, .bool false] [.none, .bool false] av 2
 case h => rfl
 case hd => exact fun ρ => .cons rfl (.one rfl)
 case hB =>
  intro s xs hs hl
  obtain ⟨a, rfl⟩ := cB hl
  exact kp_binds (T.X.keeps hs) fun _ => rfl
 all_goals try first | rfl | decide | (intros; rfl)
 intro C G hh
 exact (ah (al (de "_bytes_from_decode_data" (uf T) G T hh rfl rfl rfl rfl rfl (ad (ak G rfl rfl) ag rfl) rfl) (ax G rfl) rfl rfl rfl) (ah (aQ (ay (Ctx.ok G) (ak G rfl rfl) (af rfl) rfl) (ah (al (de "_bytes_from_decode_data" (uf T) G T hh rfl rfl rfl rfl rfl (ad (ak G rfl rfl) ag rfl) rfl) (ax G rfl) rfl rfl rfl) jW) aD) (ar (aZ (nH "a2b_base64" "strict_mode" (vz T) G T hh rfl rfl rfl rfl rfl (ak G rfl rfl) (ak G rfl rfl) rfl rfl)))))
noncomputable def mq : cY :=
 dj 13 (ew 2 [])
  (aM
   (an (ai 0)
    (pJ [ao 2, ao 3, ao 4, ao 5, ao 6]))
   (aM
    (an
     (a7 bH tI (aa (V.str ""))
      (aj
       (bI 13
        (aC
         (aj
          (aC (aj (bI 13 (ai 5) (aa true) (aC (aj (ai 13) (aa [])) xW)) (aa []))
           iJ)
          (aa []))
         (bR qV))
        (aa true) (aC (aj (ai 13) (aa [])) y9))
       (aa [])))
     (ao 7))
    (aM (an (nI 5 "\"" "\"" "\"\"") (ao 8))
     (aM
      (an
       (bp br
        (bu
         (aj
          (aR Operator.Add
           (aR Operator.Add (aR Operator.Add (aa (V.str "257 ")) (ai 8))
            (aa (V.str "\" made ")))
           (ai 7))
          (aj (aR Operator.Add (aa (V.str "257 ")) (ai 8))
           (aj
            (aR Operator.Add (aR Operator.Add (aa (V.str "257 (")) (ai 5))
             (aa (V.str "\"")))
            (aj
             (aR Operator.Add (aR Operator.Add (aa (V.str "250 ")) (ai 8))
              (aa (V.str "\"")))
             (aa []))))))
        (ai 3))
       (ao 9))
      (aM
       (an (bp br (aa (V.str "|!#")) (aR Operator.Mod (ai 1) (aa (V.int 3))))
        (ao 10))
       (aM
        (an
         (bp br
          (bu
           (aj
            (aR Operator.Add
             (aR Operator.Add (aR Operator.Mult (ai 10) (aa (V.int 3)))
              (aC (aj (ai 6) (aa [])) nr))
             (ai 10))
            (aj
             (aR Operator.Add
              (aR Operator.Add (aR Operator.Mult (ai 10) (aa (V.int 3)))
               (aC (aj (ai 6) (aa [])) nr))
              (aa (V.str "-")))
             (aj
              (aR Operator.Add
               (aR Operator.Add (aR Operator.Mult (ai 10) (aa (V.int 2)))
                (aC (aj (ai 6) (aa [])) nr))
               (ai 10))
              (aa [])))))
          (aR Operator.Mod
           (aC (aj (aR Operator.Sub (ai 4) (aa (V.int 2))) (aj (aa (V.int 0)) (aa [])))
            tz)
           (aa (V.int 3))))
         (ao 11))
        (aM
         (an
          (aR Operator.Add
           (bp br
            (bu
             (aj (aa (V.str "229 at ("))
              (aj (aa (V.str "229 at "))
               (aj (aa (V.str "229 at ("))
                (aj (aa (V.str "229 at ("))
                 (aj (aa (V.str "229 at (")) (aj (aa (V.str "230 at (")) (aa []))))))))
            (ai 4))
           (ai 11))
          (ao 12))
         (dh
          (hV
           (aj (ai 9)
            (aj
             (aR Operator.Add (ai 12)
              (zB (aB (aW CmpOp.Eq (ai 4) (aa (V.int 2)))) (aa (V.str ""))
               (aa (V.str ")"))))
             (aa []))))))))))))
theorem ve (T : bB (KK w) ac mg mb) : dy prog w ac 4 (.ref 290) av mq := by
 unfold mq
 apply b7 (N := 13) T 290 ["folder", "k"] ["above", "first", "second", "name", "port", "octets", "quoted", "made", "mark", "inner", "opened"] 2 [] [] av 3
 case h => rfl
 case hd => exact fun ρ => .nil
 case hB =>
  intro s xs _ hl
  obtain ⟨a, b, rfl⟩ := eF hl
  exact BindsTo.of_eq rfl
 all_goals try first | rfl | decide | (intros; rfl)
 intro C G hh
 exact (ah (al (ak G rfl rfl) (sX hh rfl (cy (ax G rfl) (cy (ax G rfl) (cy (ax G rfl) (cy (ax G rfl) (cy (ax G rfl) nk)))))) rfl rfl rfl) (ah (al (aU kX (af rfl) (ad (fj ([]) G hh rfl rfl rfl rfl (fun x_ => rfl) (de "b64encode" (vw T) G T hh rfl rfl rfl rfl rfl (ad (cI "bytes" (eJ hh) G T rfl rfl rfl rfl rfl (ad (fj ([]) G hh rfl rfl rfl rfl (fun x_ => rfl) (ak G rfl rfl) rfl rfl rfl rfl (fun C2 => (fun G_1 => (fun hh_1 => (And.intro bV (d5 "ord" p9 G_1 T rfl rfl rfl rfl rfl (ad (ak G_1 rfl rfl) ag rfl) rfl)))))) ag rfl) rfl) ag rfl) rfl) rfl rfl rfl rfl (fun C2 => (fun G_1 => (fun hh_1 => (And.intro bV (d5 "chr" u4 G_1 T rfl rfl rfl rfl rfl (ad (ak G_1 rfl rfl) ag rfl) rfl)))))) ag rfl) rfl rfl rfl rfl) (ax G rfl) rfl rfl rfl) (ah (al (vL G rfl rfl rfl rfl rfl rfl) (ax G rfl) rfl rfl rfl) (ah (al (a9 (bn (ad (aA (aA (aA (af rfl) (ak G rfl rfl)) (af rfl)) (ak G rfl rfl)) (ad (aA (af rfl) (ak G rfl rfl)) (ad (aA (aA (af rfl) (ak G rfl rfl)) (af rfl)) (ad (aA (aA (af rfl) (ak G rfl rfl)) (af rfl)) ag rfl) rfl) rfl) rfl)) (ak G rfl rfl) (fun x_ => (fun x__1 => (fun x__2 => rfl)))) (ax G rfl) rfl rfl rfl) (ah (al (a9 (af rfl) (aA (ak G rfl rfl) (af rfl)) (fun x_ => (fun x__1 => (fun x__2 => rfl)))) (ax G rfl) rfl rfl rfl) (ah (al (a9 (bn (ad (aA (aA (aA (ak G rfl rfl) (af rfl)) (cI "str" gf G T rfl rfl rfl rfl rfl (ad (ak G rfl rfl) ag rfl) rfl)) (ak G rfl rfl)) (ad (aA (aA (aA (ak G rfl rfl) (af rfl)) (cI "str" gf G T rfl rfl rfl rfl rfl (ad (ak G rfl rfl) ag rfl) rfl)) (af rfl)) (ad (aA (aA (aA (ak G rfl rfl) (af rfl)) (cI "str" gf G T rfl rfl rfl rfl rfl (ad (ak G rfl rfl) ag rfl) rfl)) (ak G rfl rfl)) ag rfl) rfl) rfl)) (aA (d5 "max" (qc hh) G T rfl rfl rfl rfl rfl (ad (aA (ak G rfl rfl) (af rfl)) (ad (af rfl) ag rfl) rfl) rfl) (af rfl)) (fun x_ => (fun x__1 => (fun x__2 => rfl)))) (ax G rfl) rfl rfl rfl) (ah (al (aA (a9 (bn (ad (af rfl) (ad (af rfl) (ad (af rfl) (ad (af rfl) (ad (af rfl) (ad (af rfl) ag rfl) rfl) rfl) rfl) rfl) rfl)) (ak G rfl rfl) (fun x_ => (fun x__1 => (fun x__2 => rfl)))) (ak G rfl rfl)) (ax G rfl) rfl rfl rfl) (ar (aZ (dF (ad (ak G rfl rfl) (ad (aA (ak G rfl rfl) (eI (ay (Ctx.ok G) (ak G rfl rfl) (af rfl) rfl) (af rfl) (af rfl))) ag rfl) rfl)))))))))))
noncomputable def iy : cY := dj 7 (ew 2 []) (aM (zB (aB (aW CmpOp.NotEq (cw (ai 0) (aa V.none) (aa (V.int 3))) (aa (V.str "229")))) (cK (V.top 44) (aj (ai 0) (aa []))) (aa F.next)) (aM (an (a7 bH lu (ai 0) (aj (aa (V.str "(")) (aa []))) (ao 2)) (aM (zB (aB (aW CmpOp.Lt (ai 2) (aa (V.int 0)))) (cK (V.top 56) (aj (ai 0) (aa []))) (aa F.next)) (aM (an (a7 bH lu (ai 0) (aj (aa (V.str ")")) (aj (aR Operator.Add (ai 2) (aa (V.int 1))) (aa [])))) (ao 3)) (aM (zB (aB (aW CmpOp.Lt (ai 3) (aa (V.int 0)))) (cK (V.top 56) (aj (ai 0) (aa []))) (aa F.next)) (aM (zB (aB (aW CmpOp.NotEq (bp br (ai 0) (aR Operator.Add (ai 2) (aa (V.int 1)))) (bp br (ai 0) (aR Operator.Sub (ai 3) (aa (V.int 1)))))) (cK (V.top 56) (aj (ai 0) (aa []))) (aa F.next)) (aM (an (a7 bH hZ (cw (ai 0) (aR Operator.Add (ai 2) (aa (V.int 1))) (ai 3)) (aj (bp br (ai 0) (aR Operator.Add (ai 2) (aa (V.int 1)))) (aa []))) (ao 4)) (aM (zB (aB (aW CmpOp.NotEq (aC (aj (ai 4) (aa [])) iS) (aa (V.int 5)))) (cK (V.top 56) (aj (ai 0) (aa []))) (aa F.next)) (aM (an (bp br (ai 1) (aa (V.int 0))) (ao 5)) (aM (an (aC (aj (bp br (ai 4) (aa (V.int 3))) (aa [])) y6) (ao 6)) (dh (hV (aj (ai 5) (aj (ai 6) (aa [])))))))))))))))
theorem xf (T : bB (KK w) ac mg mb) : dy prog w ac 1 (.ref 65) av iy := by
 unfold iy
 apply b7 (N := 7) T 65 ["resp", "peer"] ["left", "right", "parts", "host", "port"] 2 [] [] av 0
 case h => rfl
 case hd => exact fun ρ => .nil
 case hB =>
  intro s xs _ hl
  obtain ⟨a, b, rfl⟩ := eF hl
  exact BindsTo.of_eq rfl
 all_goals try first | rfl | decide | (intros; rfl)
 intro C G hh
 exact (ah (aQ (ay (Ctx.ok G) (cT (ak G rfl rfl) dq (bN (af rfl))) (af rfl) rfl) (ar (fx G T hh (xX T) PySem.F.excBase_Exception rfl rfl rfl (ad (ak G rfl rfl) ag rfl) rfl)) aD) (ah (al (aU kZ (ak G rfl rfl) (ad (af rfl) ag rfl) rfl rfl rfl rfl) (ax G rfl) rfl rfl rfl) (ah (aQ (ay (Ctx.ok G) (ak G rfl rfl) (af rfl) rfl) (ar (fx G T hh (tj T) PySem.F.excBase_Exception rfl rfl rfl (ad (ak G rfl rfl) ag rfl) rfl)) aD) (ah (al (aU kZ (ak G rfl rfl) (ad (af rfl) (ad (aA (ak G rfl rfl) (af rfl)) ag rfl) rfl) rfl rfl rfl rfl) (ax G rfl) rfl rfl rfl) (ah (aQ (ay (Ctx.ok G) (ak G rfl rfl) (af rfl) rfl) (ar (fx G T hh (tj T) PySem.F.excBase_Exception rfl rfl rfl (ad (ak G rfl rfl) ag rfl) rfl)) aD) (ah (aQ (ay (Ctx.ok G) (a9 (ak G rfl rfl) (aA (ak G rfl rfl) (af rfl)) (fun x_ => (fun x__1 => (fun x__2 => rfl)))) (a9 (ak G rfl rfl) (aA (ak G rfl rfl) (af rfl)) (fun x_ => (fun x__1 => (fun x__2 => rfl)))) rfl) (ar (fx G T hh (tj T) PySem.F.excBase_Exception rfl rfl rfl (ad (ak G rfl rfl) ag rfl) rfl)) aD) (ah (al (aU gm (cT (ak G rfl rfl) (bN (aA (ak G rfl rfl) (af rfl))) (bN (ak G rfl rfl))) (ad (a9 (ak G rfl rfl) (aA (ak G rfl rfl) (af rfl)) (fun x_ => (fun x__1 => (fun x__2 => rfl)))) ag rfl) rfl rfl rfl rfl) (ax G rfl) rfl rfl rfl) (ah (aQ (ay (Ctx.ok G) (d5 "len" dG G T rfl rfl rfl rfl rfl (ad (ak G rfl rfl) ag rfl) rfl) (af rfl) rfl) (ar (fx G T hh (tj T) PySem.F.excBase_Exception rfl rfl rfl (ad (ak G rfl rfl) ag rfl) rfl)) aD) (ah (al (a9 (ak G rfl rfl) (af rfl) (fun x_ => (fun x__1 => (fun x__2 => rfl)))) (ax G rfl) rfl rfl rfl) (ah (al (cI "int" u2 G T rfl rfl rfl rfl rfl (ad (a9 (ak G rfl rfl) (af rfl) (fun x_ => (fun x__1 => (fun x__2 => rfl)))) ag rfl) rfl) (ax G rfl) rfl rfl rfl) (ar (aZ (dF (ad (ak G rfl rfl) (ad (ak G rfl rfl) ag rfl) rfl))))))))))))))
noncomputable def y5 : cY := dj 5 (ew 1 []) (aM (zB (aB (aW CmpOp.NotEq (cw (ai 0) (aa V.none) (aa (V.int 3))) (aa (V.str "257")))) (cK (V.top 44) (aj (ai 0) (aa []))) (aa F.next)) (aM (zB (aB (aW CmpOp.NotEq (cw (ai 0) (aa (V.int 3)) (aa (V.int 5))) (aa (V.str " \"")))) (dh (aa (V.str ""))) (aa F.next)) (aM (an (aa (V.str "")) (ao 1)) (aM (an (aa (V.int 5)) (ao 2)) (aM (an (aC (aj (ai 0) (aa [])) iS) (ao 3)) (aM (bT (aB (aW CmpOp.Lt (ai 2) (ai 3))) (aM (an (bp br (ai 0) (ai 2)) (ao 4)) (aM (an (aR Operator.Add (ai 2) (aa (V.int 1))) (ao 2)) (aM (zB (aB (aW CmpOp.Eq (ai 4) (aa (V.str "\"")))) (aM (zB (zq (aB (aW CmpOp.GtE (ai 2) (ai 3))) (zq (aB (aW CmpOp.NotEq (bp br (ai 0) (ai 2)) (aa (V.str "\"")))) (aa false))) (aa F.brk) (aa F.next)) (an (aR Operator.Add (ai 2) (aa (V.int 1))) (ao 2))) (aa F.next)) (an (aR Operator.Add (ai 1) (ai 4)) (ao 1))))) (aa F.next) 50) (dh (ai 1))))))))
theorem xe (T : bB (KK w) ac mg mb) : dy prog w ac 1 (.ref 72) av y5 := by
 unfold y5
 apply b7 (N := 5) T 72 ["resp"] ["dirname", "i", "n", "c"] 1 [] [] av 0
 case h => rfl
 case hd => exact fun ρ => .nil
 case hB =>
  intro s xs _ hl
  obtain ⟨a, rfl⟩ := cB hl
  exact BindsTo.of_eq rfl
 all_goals try first | rfl | decide | (intros; rfl)
 intro C G hh
 exact (ah (aQ (ay (Ctx.ok G) (cT (ak G rfl rfl) dq (bN (af rfl))) (af rfl) rfl) (ar (fx G T hh (xX T) PySem.F.excBase_Exception rfl rfl rfl (ad (ak G rfl rfl) ag rfl) rfl)) aD) (ah (aQ (ay (Ctx.ok G) (cT (ak G rfl rfl) (bN (af rfl)) (bN (af rfl))) (af rfl) rfl) (ar (aZ (af rfl))) aD) (ah (al (af rfl) (ax G rfl) rfl rfl rfl) (ah (al (af rfl) (ax G rfl) rfl rfl rfl) (ah (al (d5 "len" dG G T rfl rfl rfl rfl rfl (ad (ak G rfl rfl) ag rfl) rfl) (ax G rfl) rfl rfl rfl) (ah (dM (50) (ay (Ctx.ok G) (ak G rfl rfl) (ak G rfl rfl) rfl) (ah (al (a9 (ak G rfl rfl) (ak G rfl rfl) (fun x_ => (fun x__1 => (fun x__2 => rfl)))) (ax G rfl) rfl rfl rfl) (ah (al (aA (ak G rfl rfl) (af rfl)) (ax G rfl) rfl rfl rfl) (ah (aQ (ay (Ctx.ok G) (ak G rfl rfl) (af rfl) rfl) (ah (aQ (cA (aV (ay (Ctx.ok G) (ak G rfl rfl) (ak G rfl rfl) rfl) (aV (ay (Ctx.ok G) (a9 (ak G rfl rfl) (ak G rfl rfl) (fun x_ => (fun x__1 => (fun x__2 => rfl)))) (af rfl) rfl) eU))) (ar fH) aD) (ar (al (aA (ak G rfl rfl) (af rfl)) (ax G rfl) rfl rfl rfl))) aD) (ar (al (aA (ak G rfl rfl) (ak G rfl rfl)) (ax G rfl) rfl rfl rfl))))) aD) (ar (aZ (ak G rfl rfl)))))))))
noncomputable def fb : cY := dj 3 (ew 2 []) (lQ (dh (zB (aB (aW CmpOp.Is (ai 1) (aa V.none))) (aC (aj (ai 0) (aa [])) (bR y5)) (aC (aj (ai 0) (aj (ai 1) (aa []))) (bR iy)))) (gk [(V.top 44, true), (V.top 56, false)] (asH 2 (dh (hV (aj (aa (V.str "other code")) (aj (aC (aj (ai 2) (aa [])) (yP [44, 56])) (aa [])))))) (gk [(V.top 56, true)] (asH 2 (dh (hV (aj (aa (V.str "no port")) (aj (aC (aj (ai 2) (aa [])) (yP [44, 56])) (aa [])))))) uF)))
theorem qn (T : bB (KK w) ac mg mb) : dy prog w ac 2 (.ref 297) av fb := by
 unfold fb
 apply b7 (N := 3) T 297 ["reply", "peer"] ["error"] 2 [] [] av 1
 case h => rfl
 case hd => exact fun ρ => .nil
 case hB =>
  intro s xs _ hl
  obtain ⟨a, b, rfl⟩ := eF hl
  exact BindsTo.of_eq rfl
 all_goals try first | rfl | decide | (intros; rfl)
 intro C G hh
 exact (ar (jx (Ctx.ok G) (ar (aZ (eI (ay (Ctx.ok G) (ak G rfl rfl) (af rfl) rfl) (de "parse257" (xe T) G T hh rfl rfl rfl rfl rfl (ad (ak G rfl rfl) ag rfl) rfl) (de "parse229" (xf T) G T hh rfl rfl rfl rfl rfl (ad (ak G rfl rfl) (ad (ak G rfl rfl) ag rfl) rfl) rfl)))) (qE "error_reply" (44) (pk_44 (w)) G T rfl rfl rfl (xQ G rfl (fun C2 => (fun G_1 => (ar (aZ (dF (ad (af rfl) (ad (cI "str" (nz (bB.X T) (ug (w)) (Ctx.ok G_1)) G_1 T rfl rfl rfl rfl rfl (ad (ak G_1 rfl rfl) ag rfl) rfl) ag rfl) rfl))))))) (qE "error_proto" (56) (pk_56 (w)) G T rfl rfl rfl (xQ G rfl (fun C2 => (fun G_1 => (ar (aZ (dF (ad (af rfl) (ad (cI "str" (nz (bB.X T) (ug (w)) (Ctx.ok G_1)) G_1 T rfl rfl rfl rfl rfl (ad (ak G_1 rfl rfl) ag rfl) rfl) ag rfl) rfl))))))) gR))))
noncomputable def lc : cY := dj 2 (ew 2 []) (aM (an (ai 1) (cE (fC 172 0) (ai 0))) (aM (an (aa (V.int 0)) (cE (fC 172 1) (ai 0))) (an (bu (aa [])) (cE (fC 172 2) (ai 0)))))
theorem vq (T : bB (KK w) ac mg mb) : dy prog w ac 1 (.ref 168) av lc := by
 unfold lc
 apply b7 (N := 2) T 168 ["self", "node"] [] 2 [] [] av 0
 case h => rfl
 case hd => exact fun ρ => .nil
 case hB =>
  intro s xs _ hl
  obtain ⟨a, b, rfl⟩ := eF hl
  exact BindsTo.of_eq rfl
 all_goals try first | rfl | decide
 intro C G hh
 exact (ah (al (ak G rfl rfl) (ci (dX (bB.X T) (uU (w))) (ak G rfl rfl)) rfl rfl rfl) (ah (al (af rfl) (ci (dX (bB.X T) (hY (w))) (ak G rfl rfl)) rfl rfl rfl) (ar (al (bn ag) (ci (dX (bB.X T) (uT (w))) (ak G rfl rfl)) rfl rfl rfl))))
noncomputable def mA : cY := dj 4 (ew 1 [V.none]) (aM (an mV (cE (iP 269 "_node2info") (ai 0))) (aM (an (aa V.none) (cE (iP 269 "_ready_nodes") (ai 0))) (aM (an (aa (V.int 0)) (cE (iP 269 "_npassedout") (ai 0))) (aM (an (aa (V.int 0)) (cE (iP 269 "_nfinished") (ai 0))) (zB (aB (aW CmpOp.IsNot (ai 1) (aa V.none))) dU (aa F.next))))))
theorem vp (T : bB (KK w) ac mg mb) : dy prog w ac 1 (.ref 205) av mA := by
 unfold mA
 apply b7 (N := 4) T 205 ["self", "graph"] ["node", "predecessors"] 1 [.none] [.none] av 0
 case h => rfl
 case hd => exact fun ρ => .one rfl
 case hB =>
  intro s xs hs hl
  obtain ⟨a, rfl⟩ := cB hl
  exact kp_binds (T.X.keeps hs) fun _ => rfl
 all_goals try first | rfl | decide
 intro C G hh
 exact (ah (al kD (ci (dY (bB.X T) (xh (w))) (ak G rfl rfl)) rfl rfl rfl) (ah (al (af rfl) (ci (dY (bB.X T) (uh (w))) (ak G rfl rfl)) rfl rfl rfl) (ah (al (af rfl) (ci (dY (bB.X T) (ui (w))) (ak G rfl rfl)) rfl rfl rfl) (ah (al (af rfl) (ci (dY (bB.X T) (uj (w))) (ak G rfl rfl)) rfl rfl rfl) (ar (aQ (ay (Ctx.ok G) (ak G rfl rfl) (af rfl) rfl) (ar wA) aD))))))
noncomputable def lb : cY := dj 3 (ew 2 []) (aM (zB (aB (aW CmpOp.Is (fun σ => (a7 bQ gx (ba (getD 269 "_node2info") (ai 0)) (aj (ai 1) (aa [])) σ).bind fun v ae => (ao 2 v ae).bind fun x aq => zV.ok v aq) (aa V.none))) (jY (aC (aj (ai 1) (aa [])) (bJ (gp 172 lc))) (pS (ba (getD 269 "_node2info") (ai 0)) (ai 1)) (ao 2)) (aa F.next)) (dh (ai 2)))
theorem qo (T : bB (KK w) ac mg mb) : dy prog w ac 3 (.ref 212) av lb := by
 unfold lb
 apply b7 (N := 3) T 212 ["self", "node"] ["result"] 2 [] [] av 2
 case h => rfl
 case hd => exact fun ρ => .nil
 case hB =>
  intro s xs _ hl
  obtain ⟨a, b, rfl⟩ := eF hl
  exact BindsTo.of_eq rfl
 all_goals try first | rfl | decide
 intro C G hh
 exact (ah (aQ (ay (Ctx.ok G) (kB (aU nO (bd (bt (bB.X T) (jl (w))) (ak G rfl rfl) rfl) (ad (ak G rfl rfl) ag rfl) rfl rfl rfl rfl) (ax G rfl)) (af rfl) rfl) (ar (lX (sY "_NodeInfo" (kJ (bB.X T) (x4 (w)) (vq T)) G T hh rfl rfl rfl rfl rfl (ad (ak G rfl rfl) ag rfl) rfl) (jz (bd (bt (bB.X T) (jl (w))) (ak G rfl rfl) rfl) (ak G rfl rfl)) (ax G rfl) rfl rfl)) aD) (ar (aZ (ak G rfl rfl))))
noncomputable def pd : cY := dj 6 (wz 2) (aM (zB (aB (aW CmpOp.IsNot (ba (getD 269 "_ready_nodes") (ai 0)) (aa V.none))) dU (aa F.next)) (aM (an (cW (bP 269 "_get_nodeinfo") (bJ lb) (ai 0) (aj (ai 1) (aa []))) (ao 3)) (aM (pt Operator.Add (eM 172 1) (fC 172 1) (ai 3) (aC (aj (ai 2) (aa [])) iS)) (gZ (ai 2) (ao 4) (aM (an (cW (bP 269 "_get_nodeinfo") (bJ lb) (ai 0) (aj (ai 4) (aa []))) (ao 5)) (bE (a7 aO bk (ba (eM 172 2) (ai 5)) (aj (ai 1) (aa []))))) (aa F.next)))))
theorem vo (T : bB (KK w) ac mg mb) : dy prog w ac 4 (.ref 219) av pd := by
 unfold pd
 apply qU (N := 6) T 219 ["self", "node", "predecessors"] ["nodeinfo", "pred", "pred_info"] 2 3
 case h => rfl
 case hB =>
  intro xs rest hl
  obtain ⟨a, b, rfl⟩ := eF hl
  cases rest <;> rfl
 all_goals try first | rfl | decide
 intro C G hh
 exact (ah (aQ (ay (Ctx.ok G) (bd (bt (bB.X T) (fP (w))) (ak G rfl rfl) rfl) (af rfl) rfl) (ar cf) aD) (ah (al (i7 "_get_nodeinfo" (qo T) (ur (w)) G T hh rfl rfl (ak G rfl rfl) (rv (ad (ak G rfl rfl) ag rfl) rfl) (Or.inl rfl) rfl) (ax G rfl) rfl rfl rfl) (ah (gQ (dg (bB.X T) (iC (w))) (dX (bB.X T) (hY (w))) (ak G rfl rfl) (d5 "len" dG G T rfl rfl rfl rfl rfl (ad (ak G rfl rfl) ag rfl) rfl)) (ar (dZ hh (ak G rfl rfl) (ax G rfl) (ah (al (i7 "_get_nodeinfo" (qo T) (ur (w)) G T hh rfl rfl (ak G rfl rfl) (rv (ad (ak G rfl rfl) ag rfl) rfl) (Or.inl rfl) rfl) (ax G rfl) rfl rfl rfl) (ar (bj (aU bb (bd (dg (bB.X T) (mI (w))) (ak G rfl rfl) rfl) (ad (ak G rfl rfl) ag rfl) rfl rfl rfl rfl) (aF (Ctx.ok G)) rfl))) aD (fun x_ => (fun x__1 => rfl)) (fun x_ => rfl))))))
noncomputable def mz : cY := dj 4 (ew 1 []) (aM (zB (aB (aW CmpOp.Is (ba (getD 269 "_ready_nodes") (ai 0)) (aa V.none))) dU (aa F.next)) (aM (an (aC (aj (ba (getD 269 "_ready_nodes") (ai 0)) (aa [])) ni) (ao 1)) (aM (an (ba (getD 269 "_node2info") (ai 0)) (ao 2)) (aM (gZ (ai 1) (ao 3) (an (aa (V.int (-1))) (cE (fC 172 1) (bp br (ai 2) (ai 3)))) (aa F.next)) (aM (bE (a7 aO n7 (ba (getD 269 "_ready_nodes") (ai 0)) (aa []))) (aM (pt Operator.Add (getD 269 "_npassedout") (iP 269 "_npassedout") (ai 0) (aC (aj (ai 1) (aa [])) iS)) (dh (ai 1))))))))
theorem vm (T : bB (KK w) ac mg mb) : dy prog w ac 1 (.ref 231) av mz := by
 unfold mz
 apply b7 (N := 4) T 231 ["self"] ["result", "n2i", "node"] 1 [] [] av 0
 case h => rfl
 case hd => exact fun ρ => .nil
 case hB =>
  intro s xs _ hl
  obtain ⟨a, rfl⟩ := cB hl
  exact BindsTo.of_eq rfl
 all_goals try first | rfl | decide
 intro C G hh
 exact (ah (aQ (ay (Ctx.ok G) (bd (bt (bB.X T) (fP (w))) (ak G rfl rfl) rfl) (af rfl) rfl) (ar cf) aD) (ah (al (cI "tuple" p5 G T rfl rfl rfl rfl rfl (ad (bd (bt (bB.X T) (fP (w))) (ak G rfl rfl) rfl) ag rfl) rfl) (ax G rfl) rfl rfl rfl) (ah (al (bd (bt (bB.X T) (jl (w))) (ak G rfl rfl) rfl) (ax G rfl) rfl rfl rfl) (ah (dZ hh (ak G rfl rfl) (ax G rfl) (ar (al (eo G T rfl rfl rfl rfl rfl) (ci (dX (bB.X T) (hY (w))) (a9 (ak G rfl rfl) (ak G rfl rfl) (fun x_ => (fun x__1 => (fun x__2 => rfl))))) rfl rfl rfl)) aD (fun x_ => (fun x__1 => rfl)) (fun x_ => rfl)) (ah (bj (aU o6 (bd (bt (bB.X T) (fP (w))) (ak G rfl rfl) rfl) ag rfl rfl rfl rfl) (aF (Ctx.ok G)) rfl) (ah (gQ (bt (bB.X T) (uA (w))) (dY (bB.X T) (ui (w))) (ak G rfl rfl) (d5 "len" dG G T rfl rfl rfl rfl rfl (ad (ak G rfl rfl) ag rfl) rfl)) (ar (aZ (ak G rfl rfl)))))))))
noncomputable def pb : cY := dj 1 (ew 1 []) (aM (zB (aB (aW CmpOp.Is (ba (getD 269 "_ready_nodes") (ai 0)) (aa V.none))) dU (aa F.next)) (dh (orV (aW CmpOp.Lt (ba (getD 269 "_nfinished") (ai 0)) (ba (getD 269 "_npassedout") (ai 0))) (aC (aj (ba (getD 269 "_ready_nodes") (ai 0)) (aa [])) wy))))
theorem vl (T : bB (KK w) ac mg mb) : dy prog w ac 1 (.ref 238) av pb := by
 unfold pb
 apply b7 (N := 1) T 238 ["self"] [] 1 [] [] av 0
 case h => rfl
 case hd => exact fun ρ => .nil
 case hB =>
  intro s xs _ hl
  obtain ⟨a, rfl⟩ := cB hl
  exact BindsTo.of_eq rfl
 all_goals try first | rfl | decide
 intro C G hh
 exact (ah (aQ (ay (Ctx.ok G) (bd (bt (bB.X T) (fP (w))) (ak G rfl rfl) rfl) (af rfl) rfl) (ar cf) aD) (ar (aZ (uY (jy (Ctx.ok G) (bd (bt (bB.X T) (uB (w))) (ak G rfl rfl) rfl) (bd (bt (bB.X T) (uA (w))) (ak G rfl rfl) rfl) rfl) (cI "bool" sv G T rfl rfl rfl rfl rfl (ad (bd (bt (bB.X T) (fP (w))) (ak G rfl rfl) rfl) ag rfl) rfl)))))
noncomputable def my : cY := dj 8 (wz 1) (aM (zB (aB (aW CmpOp.Is (ba (getD 269 "_ready_nodes") (ai 0)) (aa V.none))) dU (aa F.next)) (aM (an (ba (getD 269 "_node2info") (ai 0)) (ao 2)) (gZ (ai 1) (ao 3) (aM (zB (aB (aW CmpOp.Is (fun σ => (a7 bQ gx (ai 2) (aj (ai 3) (aa [])) σ).bind fun v ae => (ao 4 v ae).bind fun x aq => zV.ok v aq) (aa V.none))) dU (aa F.next)) (aM (an (ba (eM 172 1) (ai 4)) (ao 5)) (aM (zB (aB (aW CmpOp.NotEq (ai 5) (aa (V.int (-1))))) (zB (aB (aW CmpOp.GtE (ai 5) (aa (V.int 0)))) dU (zB (aB (aW CmpOp.Eq (ai 5) (aa (V.int (-2))))) dU dU)) (aa F.next)) (aM (an (aa (V.int (-2))) (cE (fC 172 1) (ai 4))) (aM (gZ (ba (eM 172 2) (ai 4)) (ao 6) (aM (an (bp br (ai 2) (ai 6)) (ao 7)) (aM (pt Operator.Sub (eM 172 1) (fC 172 1) (ai 7) (aa (V.int 1))) (zB (aB (aW CmpOp.Eq (ba (eM 172 1) (ai 7)) (aa (V.int 0)))) (bE (a7 aO bk (ba (getD 269 "_ready_nodes") (ai 0)) (aj (ai 6) (aa [])))) (aa F.next)))) (aa F.next)) (pt Operator.Add (getD 269 "_nfinished") (iP 269 "_nfinished") (ai 0) (aa (V.int 1)))))))) (aa F.next))))
theorem vj (T : bB (KK w) ac mg mb) : dy prog w ac 1 (.ref 252) av my := by
 unfold my
 apply qU (N := 8) T 252 ["self", "nodes"] ["n2i", "node", "nodeinfo", "stat", "successor", "successor_info"] 1 0
 case h => rfl
 case hB =>
  intro xs rest hl
  obtain ⟨a, rfl⟩ := cB hl
  cases rest <;> rfl
 all_goals try first | rfl | decide
 intro C G hh
 exact (ah (aQ (ay (Ctx.ok G) (bd (bt (bB.X T) (fP (w))) (ak G rfl rfl) rfl) (af rfl) rfl) (ar cf) aD) (ah (al (bd (bt (bB.X T) (jl (w))) (ak G rfl rfl) rfl) (ax G rfl) rfl rfl rfl) (ar (dZ hh (ak G rfl rfl) (ax G rfl) (ah (aQ (ay (Ctx.ok G) (kB (aU nO (ak G rfl rfl) (ad (ak G rfl rfl) ag rfl) rfl rfl rfl rfl) (ax G rfl)) (af rfl) rfl) (ar cf) aD) (ah (al (bd (dg (bB.X T) (iC (w))) (ak G rfl rfl) rfl) (ax G rfl) rfl rfl rfl) (ah (aQ (ay (Ctx.ok G) (ak G rfl rfl) (eo G T rfl rfl rfl rfl rfl) rfl) (ar (aQ (ay (Ctx.ok G) (ak G rfl rfl) (af rfl) rfl) (ar cf) (ar (aQ (ay (Ctx.ok G) (ak G rfl rfl) (eo G T rfl rfl rfl rfl rfl) rfl) (ar cf) jW)))) aD) (ah (al (eo G T rfl rfl rfl rfl rfl) (ci (dX (bB.X T) (hY (w))) (ak G rfl rfl)) rfl rfl rfl) (ah (dZ hh (bd (dg (bB.X T) (mI (w))) (ak G rfl rfl) rfl) (ax G rfl) (ah (al (a9 (ak G rfl rfl) (ak G rfl rfl) (fun x_ => (fun x__1 => (fun x__2 => rfl)))) (ax G rfl) rfl rfl rfl) (ah (gQ (dg (bB.X T) (iC (w))) (dX (bB.X T) (hY (w))) (ak G rfl rfl) (af rfl)) (ar (aQ (ay (Ctx.ok G) (bd (dg (bB.X T) (iC (w))) (ak G rfl rfl) rfl) (af rfl) rfl) (ar (bj (aU bb (bd (bt (bB.X T) (fP (w))) (ak G rfl rfl) rfl) (ad (ak G rfl rfl) ag rfl) rfl rfl rfl rfl) (aF (Ctx.ok G)) rfl)) aD)))) aD (fun x_ => (fun x__1 => rfl)) (fun x_ => rfl)) (ar (gQ (bt (bB.X T) (uB (w))) (dY (bB.X T) (uj (w))) (ak G rfl rfl) (af rfl)))))))) aD (fun x_ => (fun x__1 => rfl)) (fun x_ => rfl)))))
noncomputable def iR : cY := dj 7 (ew 1 []) (aM (an (ba (getD 269 "_node2info") (ai 0)) (ao 1)) (aM (an (bu (aa [])) (ao 2)) (aM (an (bu (aa [])) (ao 3)) (aM (an (aC (aa []) yQ) (ao 4)) (aM (an mV (ao 5)) (aM (gZ (ai 1) (ao 6) (aM (zB (aB (aW CmpOp.In (ai 6) (ai 4))) (aa F.cont) (aa F.next)) (bT (aB (aa (V.bool true))) (aM (zB (aB (aW CmpOp.In (ai 6) (ai 4))) (zB (aB (aW CmpOp.In (ai 6) (ai 5))) (dh (aR Operator.Add (cw (ai 2) (bp br (ai 5) (ai 6)) (aa V.none)) (bu (aj (ai 6) (aa []))))) (aa F.next)) (aM (bE (a7 eu yH (ai 4) (aj (ai 6) (aa [])))) (aM (bE (a7 aO bk (ai 3) (aj (ba oY (aC (aj (ba (eM 172 2) (bp br (ai 1) (ai 6))) (aa [])) mG)) (aa [])))) (aM (an (aC (aj (ai 2) (aa [])) iS) (pS (ai 5) (ai 6))) (bE (a7 aO bk (ai 2) (aj (ai 6) (aa [])))))))) (bT (aB (ai 2)) (lQ (aM (an (fun σ => (bp br (ai 3) (fun σ => (aa (V.int 1) σ).bind tq) σ).bind rA) (ao 6)) (aa F.brk)) (gk [(V.type "StopIteration", true)] (kS (aM (wv (ai 5) (a7 aO oS (ai 2) (aa []))) (bE (a7 aO oS (ai 3) (aa []))))) uF)) (aa F.brk) 20)) (aa F.next) 20)) (aa F.next)) (dh (aa V.none))))))))
theorem vi (T : bB (KK w) ac mg mb) : dy prog w ac 1 (.ref 259) av iR := by
 unfold iR
 apply b7 (N := 7) T 259 ["self"] ["n2i", "stack", "itstack", "seen", "node2stacki", "node"] 1 [] [] av 0
 case h => rfl
 case hd => exact fun ρ => .nil
 case hB =>
  intro s xs _ hl
  obtain ⟨a, rfl⟩ := cB hl
  exact BindsTo.of_eq rfl
 all_goals try first | rfl | decide | (intros; rfl)
 intro C G hh
 exact (ah (al (bd (bt (bB.X T) (jl (w))) (ak G rfl rfl) rfl) (ax G rfl) rfl rfl rfl) (ah (al (bn ag) (ax G rfl) rfl rfl rfl) (ah (al (bn ag) (ax G rfl) rfl rfl rfl) (ah (al (cI "set" uX G T rfl rfl rfl rfl rfl ag rfl) (ax G rfl) rfl rfl rfl) (ah (al kD (ax G rfl) rfl rfl rfl) (ah (dZ hh (ak G rfl rfl) (ax G rfl) (ah (aQ (ay (Ctx.ok G) (ak G rfl rfl) (ak G rfl rfl) rfl) (ar dB) aD) (ar (dM (20) (ce (af rfl) rfl) (ah (aQ (ay (Ctx.ok G) (ak G rfl rfl) (ak G rfl rfl) rfl) (ar (aQ (ay (Ctx.ok G) (ak G rfl rfl) (ak G rfl rfl) rfl) (ar (aZ (aA (cT (ak G rfl rfl) (bN (a9 (ak G rfl rfl) (ak G rfl rfl) (fun x_ => (fun x__1 => (fun x__2 => rfl))))) dq) (bn (ad (ak G rfl rfl) ag rfl))))) aD)) (ah (bj (aU tw (ak G rfl rfl) (ad (ak G rfl rfl) ag rfl) rfl rfl rfl rfl) (aF (Ctx.ok G)) rfl) (ah (bj (aU bb (ak G rfl rfl) (ad (xP (d5 "iter" sq G T rfl rfl rfl rfl rfl (ad (bd (dg (bB.X T) (mI (w))) (a9 (ak G rfl rfl) (ak G rfl rfl) (fun x_ => (fun x__1 => (fun x__2 => rfl)))) rfl) ag rfl) rfl) rfl) ag rfl) rfl rfl rfl rfl) (aF (Ctx.ok G)) rfl) (ah (al (d5 "len" dG G T rfl rfl rfl rfl rfl (ad (ak G rfl rfl) ag rfl) rfl) (jz (ak G rfl rfl) (ak G rfl rfl)) rfl rfl rfl) (ar (bj (aU bb (ak G rfl rfl) (ad (ak G rfl rfl) ag rfl) rfl rfl rfl rfl) (aF (Ctx.ok G)) rfl)))))) (ar (dM (20) (ce (ak G rfl rfl) rfl) (ar (jx (Ctx.ok G) (ah (al (vN hh (a9 (ak G rfl rfl) (lU (af rfl)) (fun x_ => (fun x__1 => (fun x__2 => rfl))))) (ax G rfl) rfl rfl rfl) (ar fH)) (vM "StopIteration" ("StopIteration") (vP (w)) G T rfl rfl rfl rfl rfl (qF G (fun C2 => (fun G_1 => (ah (u3 (ak G_1 rfl rfl) (aU nN (ak G_1 rfl rfl) ag rfl rfl rfl rfl)) (ar (bj (aU nN (ak G_1 rfl rfl) ag rfl rfl rfl rfl) (aF (Ctx.ok G_1)) rfl)))))) gR))) (ar fH)))) aD))) aD (fun x_ => (fun x__1 => rfl)) (fun x_ => rfl)) (ar (aZ (af rfl)))))))))
noncomputable def k9 : cY := dj 2 (ew 1 []) (aM (zB (aB (aW CmpOp.IsNot (ba (getD 269 "_ready_nodes") (ai 0)) (aa V.none))) dU (aa F.next)) (aM (an (bI 2 (a7 bQ hU (ba (getD 269 "_node2info") (ai 0)) (aa [])) (aB (aW CmpOp.Eq (ba (eM 172 1) (ai 2)) (aa (V.int 0)))) (ba (eM 172 0) (ai 2))) (cE (iP 269 "_ready_nodes") (ai 0))) (aM (an (cW (bP 269 "_find_cycle") (bJ iR) (ai 0) (aa [])) (ao 1)) (zB (aB (ai 1)) (cK (V.top 187) (aj (aa (V.str "nodes are in a cycle")) (aj (ai 1) (aa [])))) (aa F.next)))))
theorem vn (T : bB (KK w) ac mg mb) : dy prog w ac 2 (.ref 224) av k9 := by
 unfold k9
 apply b7 (N := 2) T 224 ["self"] ["cycle"] 1 [] [] av 1
 case h => rfl
 case hd => exact fun ρ => .nil
 case hB =>
  intro s xs _ hl
  obtain ⟨a, rfl⟩ := cB hl
  exact BindsTo.of_eq rfl
 all_goals try first | rfl | decide | (intros; rfl)
 intro C G hh
 exact (ah (aQ (ay (Ctx.ok G) (bd (bt (bB.X T) (fP (w))) (ak G rfl rfl) rfl) (af rfl) rfl) (ar cf) aD) (ah (al (fj ([]) G hh rfl rfl rfl rfl (fun x_ => rfl) (aU mj (bd (bt (bB.X T) (jl (w))) (ak G rfl rfl) rfl) ag rfl rfl rfl rfl) rfl rfl rfl rfl (fun C2 => (fun G_1 => (fun hh_1 => (And.intro (cz (ay (Ctx.ok G_1) (bd (dg (bB.X T) (iC (w))) (ak G_1 rfl rfl) rfl) (af rfl) rfl)) (bd (dg (bB.X T) (wo (w))) (ak G_1 rfl rfl) rfl)))))) (ci (dY (bB.X T) (uh (w))) (ak G rfl rfl)) rfl rfl rfl) (ah (al (i7 "_find_cycle" (vi T) (x6 (w)) G T hh rfl rfl (ak G rfl rfl) tS (Or.inl rfl) rfl) (ax G rfl) rfl rfl rfl) (ar (aQ (ce (ak G rfl rfl) rfl) (ar (fx G T hh (xY T) PySem.F.excBase_ValueError rfl rfl rfl (ad (qe (af rfl)) (ad (ak G rfl rfl) ag rfl) rfl) rfl)) aD)))))
noncomputable def o8 : cY := dj 6 (ew 1 []) (aM (an (aC (aa []) (bJ (gp 269 mA))) (ao 1)) (aM (gZ (aC (aj (aa (V.int 6)) (aa [])) ek) (ao 2) (bE (cW (bP 269 "add") (bJ pd) (ai 1) (aj (ai 2) (fR (bI 6 (bu (aj (bp br (bp br (ai 0) (ai 2)) (aa (V.int 0))) (aa []))) (aB (aW CmpOp.IsNot (ai 6) (aa V.none))) (ai 6)) (aa []))))) (aa F.next)) (aM (an (aa (V.bool false)) (ao 3)) (aM (lQ (bE (cW (bP 269 "prepare") (bJ k9) (ai 1) (aa []))) (gk [(V.top 187, true)] (kS (an (aa (V.bool true)) (ao 3))) uF)) (aM (an (bu (aa [])) (ao 4)) (aM (bT (aB (cW (bP 269 "is_active") (bJ pb) (ai 1) (aa []))) (aM (an (cW (bP 269 "get_ready") (bJ mz) (ai 1) (aa [])) (ao 5)) (aM (bE (a7 aO bk (ai 4) (aj (aC (aj (ai 5) (aa [])) ga) (aa [])))) (bE (cW (bP 269 "done") (bJ my) (ai 1) (lf (ai 5)))))) (aa F.next) 20) (dh (hV (aj (ai 3) (aj (ai 4) (aa [])))))))))))
theorem vg (T : bB (KK w) ac mg mb) : dy prog w ac 5 (.ref 285) av o8 := by
 unfold o8
 apply b7 (N := 6) T 285 ["folders"] ["sorter", "k", "ring", "rounds", "ready"] 1 [] [] av 4
 case h => rfl
 case hd => exact fun ρ => .nil
 case hB =>
  intro s xs _ hl
  obtain ⟨a, rfl⟩ := cB hl
  exact BindsTo.of_eq rfl
 all_goals try first | rfl | decide | (intros; rfl)
 intro C G hh
 exact (ah (al (sY "TopologicalSorter" (kJ (bB.X T) (x3 (w)) (vp T)) G T hh rfl rfl rfl rfl rfl ag rfl) (ax G rfl) rfl rfl rfl) (ah (dZ hh (cI "range" cU G T rfl rfl rfl rfl rfl (ad (af rfl) ag rfl) rfl) (ax G rfl) (ar (bj (qD "add" (vo T) (yd (w)) G T hh rfl (ak G rfl rfl) (xS (ad (ak G rfl rfl) (jA (fj ([]) G hh rfl rfl rfl rfl (fun x_ => rfl) (bn (ad (a9 (a9 (ak G rfl rfl) (ak G rfl rfl) (fun x_ => (fun x__1 => (fun x__2 => rfl)))) (af rfl) (fun x_ => (fun x__1 => (fun x__2 => rfl)))) ag rfl)) rfl rfl rfl rfl (fun C2 => (fun G_1 => (fun hh_1 => (And.intro (cz (ay (Ctx.ok G_1) (ak G_1 rfl rfl) (af rfl) rfl)) (ak G_1 rfl rfl)))))) ag rfl) rfl) rfl) (Or.inr (And.intro rfl rfl)) rfl) (aF (Ctx.ok G)) rfl)) aD (fun x_ => (fun x__1 => rfl)) (fun x_ => rfl)) (ah (al (af rfl) (ax G rfl) rfl rfl rfl) (ah (jx (Ctx.ok G) (ar (bj (i7 "prepare" (vn T) (ya (w)) G T hh rfl rfl (ak G rfl rfl) tS (Or.inl rfl) rfl) (aF (Ctx.ok G)) rfl)) (qE "CycleError" (187) (xV (w)) G T rfl rfl rfl (qF G (fun C2 => (fun G_1 => (ar (al (af rfl) (ax G_1 rfl) rfl rfl rfl))))) gR)) (ah (al (bn ag) (ax G rfl) rfl rfl rfl) (ah (dM (20) (ce (i7 "is_active" (vl T) (x8 (w)) G T hh rfl rfl (ak G rfl rfl) tS (Or.inl rfl) rfl) rfl) (ah (al (i7 "get_ready" (vm T) (x9 (w)) G T hh rfl rfl (ak G rfl rfl) tS (Or.inl rfl) rfl) (ax G rfl) rfl rfl rfl) (ah (bj (aU bb (ak G rfl rfl) (ad (d5 "sorted" oH G T rfl rfl rfl rfl rfl (ad (ak G rfl rfl) ag rfl) rfl) ag rfl) rfl rfl rfl rfl) (aF (Ctx.ok G)) rfl) (ar (bj (qD "done" (vj T) (yc (w)) G T hh rfl (ak G rfl rfl) (xT (ak G rfl rfl) rfl) (Or.inr (And.intro rfl rfl)) rfl) (aF (Ctx.ok G)) rfl)))) aD) (ar (aZ (dF (ad (ak G rfl rfl) (ad (ak G rfl rfl) ag rfl) rfl))))))))))
noncomputable def o9 (z : Addr) (zs : List V) : cY := dj 6 (ew 1 []) (aM (an (bu (aj (aa (V.str "a")) (aj (aa (V.str "\"")) (aj (aa (V.str " b")) (aj (aa (V.str "\"\"")) (aj (aa (V.str "ä")) (aj (aa (V.str "/")) (aa [])))))))) (ao 1)) (aM (an (bu (aa [])) (ao 2)) (aM (rk (aR Operator.Add (dp z zs (ai 0) (aa V.none) (aa (V.int 6))) (cw (bu (aj (aa (V.int 4374)) (aj (aa (V.int 6104)) (aj (aa (V.int 3486)) (aj (aa (V.int 1878)) (aj (aa (V.int 272)) (aj (aa (V.int 11036)) (aa [])))))))) (aC (aj (dp z zs (ai 0) (aa V.none) (aa (V.int 6))) (aa [])) iS) (aa V.none))) (ao 3) (ao 4) (aM (an (zB (gz (aB (aW CmpOp.Lt (aR Operator.Mod (ai 4) (aa (V.int 7))) (aa (V.int 6)))) (gz (zq (aB (aW CmpOp.NotEq (aR Operator.Mod (ai 4) (aa (V.int 7))) (ai 3))) (zq (aB (aW CmpOp.Eq (aR Operator.Mod (aR Operator.FloorDiv (ai 4) (aa (V.int 7))) (aa (V.int 2))) (aa (V.int 1)))) (aa false))) (aa true))) (aR Operator.Mod (ai 4) (aa (V.int 7))) (aa V.none)) (ao 5)) (bE (a7 aO bk (ai 2) (aj (hV (aj (ai 5) (aj (aR Operator.Mod (aR Operator.FloorDiv (ai 4) (aa (V.int 14))) (aa (V.int 4))) (aj (aR Operator.Mod (aR Operator.FloorDiv (ai 4) (aa (V.int 56))) (aa (V.int 6))) (aj (aR Operator.Add (bp br (ai 1) (aR Operator.Mod (aR Operator.FloorDiv (ai 4) (aa (V.int 336))) (aa (V.int 6)))) (bp br (ai 1) (aR Operator.Mod (aR Operator.FloorDiv (ai 4) (aa (V.int 2016))) (aa (V.int 6))))) (aj (aR Operator.Add (aa (V.int 1024)) (aR Operator.Mod (aR Operator.FloorDiv (ai 4) (aa (V.int 336))) (aa (V.int 60000)))) (aa []))))))) (aa []))))) (aa F.next)) (dh (ai 2)))))
theorem vh (T : bB (KK w) ac mg mb) {z : Addr} {zs : List V} (hL : ng ac z zs) : dy prog w ac 1 (.ref 280) av (o9 z zs) := by
 unfold o9
 apply b7 (N := 6) T 280 ["script"] ["pieces", "folders", "k", "x", "above"] 1 [] [] av 0
 case h => rfl
 case hd => exact fun ρ => .nil
 case hB =>
  intro s xs _ hl
  obtain ⟨a, rfl⟩ := cB hl
  exact BindsTo.of_eq rfl
 all_goals try first | rfl | decide | (intros; rfl)
 intro C G hh
 exact (ah (al (bn (ad (af rfl) (ad (af rfl) (ad (af rfl) (ad (af rfl) (ad (af rfl) (ad (af rfl) ag rfl) rfl) rfl) rfl) rfl) rfl)) (ax G rfl) rfl rfl rfl) (ah (al (bn ag) (ax G rfl) rfl rfl rfl) (ah (qf (Ctx.ok G) hh rfl (ax G rfl) (ax G rfl) (dz G T rfl rfl rfl rfl rfl rfl rfl) (aA (i0 hL (ak G rfl rfl) dq (bN (af rfl))) (cT (bn (ad (af rfl) (ad (af rfl) (ad (af rfl) (ad (af rfl) (ad (af rfl) (ad (af rfl) ag rfl) rfl) rfl) rfl) rfl) rfl)) (bN (d5 "len" dG G T rfl rfl rfl rfl rfl (ad (i0 hL (ak G rfl rfl) dq (bN (af rfl))) ag rfl) rfl)) dq)) rfl (ah (al (eI (cA (bc (ay (Ctx.ok G) (aA (ak G rfl rfl) (af rfl)) (af rfl) rfl) (bc (cA (aV (ay (Ctx.ok G) (aA (ak G rfl rfl) (af rfl)) (ak G rfl rfl) rfl) (aV (ay (Ctx.ok G) (aA (aA (ak G rfl rfl) (af rfl)) (af rfl)) (af rfl) rfl) eU))) cn))) (aA (ak G rfl rfl) (af rfl)) (af rfl)) (ax G rfl) rfl rfl rfl) (ar (bj (aU bb (ak G rfl rfl) (ad (dF (ad (ak G rfl rfl) (ad (aA (aA (ak G rfl rfl) (af rfl)) (af rfl)) (ad (aA (aA (ak G rfl rfl) (af rfl)) (af rfl)) (ad (aA (a9 (ak G rfl rfl) (aA (aA (ak G rfl rfl) (af rfl)) (af rfl)) (fun x_ => (fun x__1 => (fun x__2 => rfl)))) (a9 (ak G rfl rfl) (aA (aA (ak G rfl rfl) (af rfl)) (af rfl)) (fun x_ => (fun x__1 => (fun x__2 => rfl))))) (ad (aA (af rfl) (aA (aA (ak G rfl rfl) (af rfl)) (af rfl))) ag rfl) rfl) rfl) rfl) rfl)) ag rfl) rfl rfl rfl rfl) (aF (Ctx.ok G)) rfl))) aD (fun x_ => rfl)) (ar (aZ (ak G rfl rfl))))))
noncomputable def mn : cY := dj 3 (ew 2 []) (aM (an (aa (V.int 0)) (ao 2)) (aM (bT (gz (aB (aW CmpOp.IsNot (bp br (bp br (ai 0) (ai 1)) (aa (V.int 0))) (aa V.none))) (gz (aB (aW CmpOp.Lt (ai 2) (aa (V.int 7)))) (aa true))) (aM (an (bp br (bp br (ai 0) (ai 1)) (aa (V.int 0))) (ao 1)) (w0 Operator.Add 2 (aa (V.int 1)))) (aa F.next) 10) (dh (ai 2))))
theorem u7 (T : bB (KK w) ac mg mb) : dy prog w ac 1 (.ref 314) av mn := by
 unfold mn
 apply b7 (N := 3) T 314 ["folders", "k"] ["depth"] 2 [] [] av 0
 case h => rfl
 case hd => exact fun ρ => .nil
 case hB =>
  intro s xs _ hl
  obtain ⟨a, b, rfl⟩ := eF hl
  exact BindsTo.of_eq rfl
 all_goals try first | rfl | decide | (intros; rfl)
 intro C G hh
 exact (ah (al (af rfl) (ax G rfl) rfl rfl rfl) (ah (dM (10) (cA (bc (ay (Ctx.ok G) (a9 (a9 (ak G rfl rfl) (ak G rfl rfl) (fun x_ => (fun x__1 => (fun x__2 => rfl)))) (af rfl) (fun x_ => (fun x__1 => (fun x__2 => rfl)))) (af rfl) rfl) (bc (ay (Ctx.ok G) (ak G rfl rfl) (af rfl) rfl) cn))) (ah (al (a9 (a9 (ak G rfl rfl) (ak G rfl rfl) (fun x_ => (fun x__1 => (fun x__2 => rfl)))) (af rfl) (fun x_ => (fun x__1 => (fun x__2 => rfl)))) (ax G rfl) rfl rfl rfl) (ar (xR G rfl (af rfl)))) aD) (ar (aZ (ak G rfl rfl)))))
noncomputable def tA : cY := dj 7 (ew 1 []) (aM (an (aa (V.str "ABCDEFGHIJKLMNOPQRSTUVWXYZabcdefghijklmnopqrstuvwxyz0123456789+/")) (ao 4)) (aM (an (aa (V.str "")) (ao 1)) (aM (gZ (aC (aj (aa (V.int 0)) (aj (aC (aj (ai 0) (aa [])) iS) (aj (aa (V.int 3)) (aa [])))) ek) (ao 2) (aM (an (cw (ai 0) (ai 2) (aR Operator.Add (ai 2) (aa (V.int 3)))) (ao 5)) (aM (an (aC (aj (bI 7 (aC (aj (aC (aj (ai 5) (aa [])) iS) (aa [])) ek) (aa true) (aR Operator.Mult (bp br (ai 5) (ai 7)) (aR Operator.Pow (aa (V.int 256)) (aR Operator.Sub (aa (V.int 2)) (ai 7))))) (aa [])) sumF) (ao 6)) (aM (an (a7 bH tI (aa (V.str "")) (aj (bI 7 (aC (aj (aa (V.int 4)) (aa [])) ek) (aa true) (bp br (ai 4) (aR Operator.Mod (aR Operator.FloorDiv (ai 6) (aR Operator.Pow (aa (V.int 64)) (aR Operator.Sub (aa (V.int 3)) (ai 7)))) (aa (V.int 64))))) (aa []))) (ao 3)) (w0 Operator.Add 1 (aR Operator.Add (cw (ai 3) (aa V.none) (aR Operator.Add (aC (aj (ai 5) (aa [])) iS) (aa (V.int 1)))) (aR Operator.Mult (aa (V.str "=")) (aR Operator.Sub (aa (V.int 3)) (aC (aj (ai 5) (aa [])) iS)))))))) (aa F.next)) (dh (ai 1)))))
theorem u9 (T : bB (KK w) ac mg mb) : dy prog w ac 1 (.ref 302) av tA := by
 unfold tA
 apply nM (N := 7) (cl := (fun f => [("signs", 4, f "signs"), ("three", 5, f "three"), ("whole", 6, f "whole")])) T 302 ["octets"] ["text", "k", "four"] ["signs", "three", "whole"] 1 0
 case h => rfl
 case hB =>
  intro s xs _ hl
  obtain ⟨a, rfl⟩ := cB hl
  exact BindsTo.of_eq rfl
 all_goals try first | rfl | decide | (intros; rfl)
 intro C f G hh
 exact (ah (al (af rfl) (ij G rfl rfl) rfl rfl rfl) (ah (al (af rfl) (ax G rfl) rfl rfl rfl) (ah (dZ hh (cI "range" cU G T rfl rfl rfl rfl rfl (ad (af rfl) (ad (d5 "len" dG G T rfl rfl rfl rfl rfl (ad (ak G rfl rfl) ag rfl) rfl) (ad (af rfl) ag rfl) rfl) rfl) rfl) (ax G rfl) (ah (al (cT (ak G rfl rfl) (bN (ak G rfl rfl)) (bN (aA (ak G rfl rfl) (af rfl)))) (ij G rfl rfl) rfl rfl rfl) (ah (al (d5 "sum" (uW hh) G T rfl rfl rfl rfl rfl (ad (fj ([(PySem.Str.ofString "three", 5, f "three")]) G hh rfl rfl rfl rfl (fun x_ => rfl) (cI "range" cU G T rfl rfl rfl rfl rfl (ad (d5 "len" dG G T rfl rfl rfl rfl rfl (ad (eq G rfl rfl rfl) ag rfl) rfl) ag rfl) rfl) rfl rfl rfl rfl (fun C2 => (fun G_1 => (fun hh_1 => (And.intro bV (aA (a9 (eq G_1 rfl rfl rfl) (ak G_1 rfl rfl) (fun x_ => (fun x__1 => (fun x__2 => rfl)))) (aA (af rfl) (aA (af rfl) (ak G_1 rfl rfl))))))))) ag rfl) rfl) (ij G rfl rfl) rfl rfl rfl) (ah (al (aU kX (af rfl) (ad (fj ([(PySem.Str.ofString "signs", 4, f "signs"), (PySem.Str.ofString "whole", 6, f "whole")]) G hh rfl rfl rfl rfl (fun x_ => rfl) (cI "range" cU G T rfl rfl rfl rfl rfl (ad (af rfl) ag rfl) rfl) rfl rfl rfl rfl (fun C2 => (fun G_1 => (fun hh_1 => (And.intro bV (a9 (eq G_1 rfl rfl rfl) (aA (aA (eq G_1 rfl rfl rfl) (aA (af rfl) (aA (af rfl) (ak G_1 rfl rfl)))) (af rfl)) (fun x_ => (fun x__1 => (fun x__2 => rfl))))))))) ag rfl) rfl rfl rfl rfl) (ax G rfl) rfl rfl rfl) (ar (xR G rfl (aA (cT (ak G rfl rfl) dq (bN (aA (d5 "len" dG G T rfl rfl rfl rfl rfl (ad (eq G rfl rfl rfl) ag rfl) rfl) (af rfl)))) (aA (af rfl) (aA (af rfl) (d5 "len" dG G T rfl rfl rfl rfl rfl (ad (eq G rfl rfl rfl) ag rfl) rfl))))))))) aD (fun x_ => (fun x__1 => rfl)) (fun x_ => rfl)) (ar (aZ (ak G rfl rfl))))))
noncomputable def jL : cY := dj 11 (ew 2 []) (aM (an (ai 0) (pJ [ao 2, ao 3, ao 4, ao 5, ao 6])) (aM (an (aC (aj (ai 0) (aj (ai 1) (aa []))) (bR mq)) (pJ [ao 7, ao 8])) (aM (an (bI 11 (ai 5) (aa true) (aC (aj (ai 11) (aa [])) xW)) (ao 9)) (aM (zB (gz (aB (aW CmpOp.Eq (ai 3) (aa (V.int 0)))) (gz (aB (aW CmpOp.NotEq (bu (aj (bp br (a7 bH hZ (ai 7) (aj (aa (V.str " ")) (aa []))) fun σ => (aa (V.int 1) σ).bind tq) (aj (aC (aj (aC (aj (bp br (a7 bH hZ (ai 7) (aj (aa (V.str " ")) (aa []))) fun σ => (aa (V.int 1) σ).bind tq) (aa [])) (bR tB)) (aa [])) qX) (aa [])))) (bu (aj (aC (aj (ai 9) (aa [])) (bR tA)) (aj (ai 9) (aa [])))))) (aa true))) (dh (aa (V.bool false))) (aa F.next)) (aM (an (bu (aj (bp br (bu (aj (ai 5) (aj (ai 5) (aj (aa (V.str "")) (aj (hV (aj (aa (V.str "other code")) (aj (ai 7) (aa [])))) (aa [])))))) (ai 3)) (aj (hV (aj (aR Operator.Add (aa (V.str "10.0.0.")) (aC (aj (ai 1) (aa [])) nr)) (aj (ai 6) (aa [])))) (aa [])))) (ao 10)) (aM (zB (aB (aW CmpOp.Gt (ai 4) (aa (V.int 0)))) (an (hV (aj (zB (aB (aW CmpOp.Eq (ai 4) (aa (V.int 5)))) (aa (V.str "other code")) (aa (V.str "no port"))) (aj (ai 8) (aa [])))) (pS (ai 10) (aa (V.int 1)))) (aa F.next)) (dh (aW CmpOp.Eq (bu (aj (aC (aj (ai 7) (aj (aa V.none) (aa []))) (bR fb)) (aj (aC (aj (ai 8) (aj (hV (aj (aR Operator.Add (aa (V.str "10.0.0.")) (aC (aj (ai 1) (aa [])) nr)) (aj (aa (V.int 21)) (aa [])))) (aa []))) (bR fb)) (aa [])))) (ai 10)))))))))
theorem u8 (T : bB (KK w) ac mg mb) : dy prog w ac 5 (.ref 307) av jL := by
 unfold jL
 apply b7 (N := 11) T 307 ["folder", "k"] ["above", "first", "second", "name", "port", "made", "opened", "octets", "told"] 2 [] [] av 4
 case h => rfl
 case hd => exact fun ρ => .nil
 case hB =>
  intro s xs _ hl
  obtain ⟨a, b, rfl⟩ := eF hl
  exact BindsTo.of_eq rfl
 all_goals try first | rfl | decide | (intros; rfl)
 intro C G hh
 exact (ah (al (ak G rfl rfl) (sX hh rfl (cy (ax G rfl) (cy (ax G rfl) (cy (ax G rfl) (cy (ax G rfl) (cy (ax G rfl) nk)))))) rfl rfl rfl) (ah (al (de "_law_replies" (ve T) G T hh rfl rfl rfl rfl rfl (ad (ak G rfl rfl) (ad (ak G rfl rfl) ag rfl) rfl) rfl) (sX hh rfl (cy (ax G rfl) (cy (ax G rfl) nk))) rfl rfl rfl) (ah (kP ([]) G hh rfl rfl (nn rfl rfl) rfl rfl rfl rfl (fun x_ => rfl) (ak G rfl rfl) rfl rfl rfl rfl (fun C2 => (fun G_1 => (fun hh_1 => (And.intro bV (d5 "ord" p9 G_1 T rfl rfl rfl rfl rfl (ad (ak G_1 rfl rfl) ag rfl) rfl)))))) (ah (aQ (cA (bc (ay (Ctx.ok G) (ak G rfl rfl) (af rfl) rfl) (bc (ay (Ctx.ok G) (bn (ad (a9 (aU gm (ak G rfl rfl) (ad (af rfl) ag rfl) rfl rfl rfl rfl) (lU (af rfl)) (fun x_ => (fun x__1 => (fun x__2 => rfl)))) (ad (cI "list" (qd hh) G T rfl rfl rfl rfl rfl (ad (de "b64decode" (vu T) G T hh rfl rfl rfl rfl rfl (ad (a9 (aU gm (ak G rfl rfl) (ad (af rfl) ag rfl) rfl rfl rfl rfl) (lU (af rfl)) (fun x_ => (fun x__1 => (fun x__2 => rfl)))) ag rfl) rfl) ag rfl) rfl) ag rfl) rfl)) (bn (ad (de "_law_bits" (u9 T) G T hh rfl rfl rfl rfl rfl (ad (ak G rfl rfl) ag rfl) rfl) (ad (ak G rfl rfl) ag rfl) rfl)) rfl) cn))) (ar (aZ (af rfl))) aD) (ah (al (bn (ad (a9 (bn (ad (ak G rfl rfl) (ad (ak G rfl rfl) (ad (af rfl) (ad (dF (ad (af rfl) (ad (ak G rfl rfl) ag rfl) rfl)) ag rfl) rfl) rfl) rfl)) (ak G rfl rfl) (fun x_ => (fun x__1 => (fun x__2 => rfl)))) (ad (dF (ad (aA (af rfl) (cI "str" gf G T rfl rfl rfl rfl rfl (ad (ak G rfl rfl) ag rfl) rfl)) (ad (ak G rfl rfl) ag rfl) rfl)) ag rfl) rfl)) (ax G rfl) rfl rfl rfl) (ah (aQ (ay (Ctx.ok G) (ak G rfl rfl) (af rfl) rfl) (ar (al (dF (ad (eI (ay (Ctx.ok G) (ak G rfl rfl) (af rfl) rfl) (af rfl) (af rfl)) (ad (ak G rfl rfl) ag rfl) rfl)) (jz (ak G rfl rfl) (af rfl)) rfl rfl rfl)) aD) (ar (aZ (jy (Ctx.ok G) (bn (ad (de "_law_asked" (qn T) G T hh rfl rfl rfl rfl rfl (ad (ak G rfl rfl) (ad (af rfl) ag rfl) rfl) rfl) (ad (de "_law_asked" (qn T) G T hh rfl rfl rfl rfl rfl (ad (ak G rfl rfl) (ad (dF (ad (aA (af rfl) (cI "str" gf G T rfl rfl rfl rfl rfl (ad (ak G rfl rfl) ag rfl) rfl)) (ad (af rfl) ag rfl) rfl)) ag rfl) rfl) rfl) ag rfl) rfl)) (ak G rfl rfl) rfl)))))))))
noncomputable def vY (z : Addr) (zs : List V) : cY := dj 6 (ew 1 []) (aM (an (aC (aj (ai 0) (aa [])) (bJ (o9 z zs))) (ao 4)) (aM (an (aC (aj (ai 4) (aa [])) (mW o8)) (pJ [ao 1, ao 2])) (aM (an (bI 6 (aC (aj (aa (V.int 6)) (aa [])) ek) (aa true) (aC (aj (ai 4) (aj (ai 6) (aa []))) (bJ mn))) (ao 5)) (aM (an (bI 6 (aC (aj (aa (V.int 6)) (aa [])) ek) (aa true) (bI 7 (aC (aj (aa (V.int 6)) (aa [])) ek) (aB (aW CmpOp.Eq (bp br (ai 5) (ai 7)) (ai 6))) (ai 7))) (ao 3)) (aM (zB (zq (aB (aW CmpOp.NotEq (ai 1) (aW CmpOp.Eq (aC (aj (ai 5) (aa [])) tz) (aa (V.int 7))))) (zq (aB (aW CmpOp.NotEq (ai 2) (bI 6 (ai 3) (aB (aW CmpOp.NotEq (ai 6) (bu (aa [])))) (ai 6)))) (aa false))) (dh (aa (V.bool false))) (aa F.next)) (dh (aW CmpOp.Eq (bI 6 (aC (aj (aa (V.int 6)) (aa [])) ek) (uq (aB (aC (aj (bp br (ai 4) (ai 6)) (aj (ai 6) (aa []))) (bR jL)))) (ai 6)) (bu (aa [])))))))))
theorem u6 (T : bB (KK w) ac mg mb) {z : Addr} {zs : List V} (hL : ng ac z zs) : dy prog w ac 6 (.ref 319) av (vY z zs) := by
 unfold vY
 apply nM (N := 6) (cl := (fun f => [("folders", 4, f "folders"), ("depths", 5, f "depths")])) T 319 ["script"] ["ring", "rounds", "told"] ["folders", "depths"] 1 5
 case h => rfl
 case hB =>
  intro s xs _ hl
  obtain ⟨a, rfl⟩ := cB hl
  exact BindsTo.of_eq rfl
 all_goals try first | rfl | decide | (intros; rfl)
 intro C f G hh
 exact (ah (al (sY "_law_folders" (vh T hL) G T hh rfl rfl rfl rfl rfl (ad (ak G rfl rfl) ag rfl) rfl) (ij G rfl rfl) rfl rfl rfl) (ah (al (xO "_law_rounds" (vg T) G T hh rfl rfl rfl rfl rfl (ad (eq G rfl rfl rfl) ag rfl) rfl) (sX hh rfl (cy (ax G rfl) (cy (ax G rfl) nk))) rfl rfl rfl) (ah (al (fj ([(PySem.Str.ofString "folders", 4, f "folders")]) G hh rfl rfl rfl rfl (fun x_ => rfl) (cI "range" cU G T rfl rfl rfl rfl rfl (ad (af rfl) ag rfl) rfl) rfl rfl rfl rfl (fun C2 => (fun G_1 => (fun hh_1 => (And.intro bV (sY "_law_depth" (u7 T) G_1 T hh_1 rfl rfl rfl rfl rfl (ad (eq G_1 rfl rfl rfl) (ad (ak G_1 rfl rfl) ag rfl) rfl) rfl)))))) (ij G rfl rfl) (qQ G rfl) rfl rfl) (ah (jH ([(PySem.Str.ofString "depths", 5, f "depths")]) G hh rfl rfl (nn rfl rfl) rfl rfl rfl rfl (fun x_ => rfl) (cI "range" cU G T rfl rfl rfl rfl rfl (ad (af rfl) ag rfl) rfl) rfl rfl (fun x_ => (fun x__1 => rfl)) (fun x_ => rfl) rfl (fun C2 => (fun L => (fun G_1 => (fun hh_1 => (And.intro bV (fj ([(PySem.Str.ofString "depth", 6, L), (PySem.Str.ofString "depths", 5, f "depths")]) G_1 hh_1 rfl rfl rfl rfl (fun x_ => rfl) (cI "range" cU G_1 T rfl rfl rfl rfl rfl (ad (af rfl) ag rfl) rfl) rfl rfl rfl rfl (fun C2_1 => (fun G_2 => (fun hh_2 => (And.intro (cz (ay (Ctx.ok G_2) (a9 (eq G_2 rfl rfl rfl) (ak G_2 rfl rfl) (fun x_ => (fun x__1 => (fun x__2 => rfl)))) (eq G_2 rfl rfl rfl) rfl)) (ak G_2 rfl rfl)))))))))))) (ah (aQ (cA (aV (ay (Ctx.ok G) (ak G rfl rfl) (jy (Ctx.ok G) (d5 "max" (qc hh) G T rfl rfl rfl rfl rfl (ad (eq G rfl rfl rfl) ag rfl) rfl) (af rfl) rfl) rfl) (aV (ay (Ctx.ok G) (ak G rfl rfl) (fj ([]) G hh rfl rfl rfl rfl (fun x_ => rfl) (ak G rfl rfl) rfl rfl rfl rfl (fun C2 => (fun G_1 => (fun hh_1 => (And.intro (cz (ay (Ctx.ok G_1) (ak G_1 rfl rfl) (bn ag) rfl)) (ak G_1 rfl rfl)))))) rfl) eU))) (ar (aZ (af rfl))) aD) (ar (aZ (jy (Ctx.ok G) (fj ([(PySem.Str.ofString "folders", 4, f "folders")]) G hh rfl rfl rfl rfl (fun x_ => rfl) (cI "range" cU G T rfl rfl rfl rfl rfl (ad (af rfl) ag rfl) rfl) rfl rfl rfl rfl (fun C2 => (fun G_1 => (fun hh_1 => (And.intro (cz (lT (ce (de "_law_holds" (u8 T) G_1 T hh_1 rfl rfl rfl rfl rfl (ad (a9 (eq G_1 rfl rfl rfl) (ak G_1 rfl rfl) (fun x_ => (fun x__1 => (fun x__2 => rfl)))) (ad (ak G_1 rfl rfl) ag rfl) rfl) rfl) rfl))) (ak G_1 rfl rfl)))))) (bn ag) rfl))))))))
end
section
open Builtin Builtin.Str
section
variable {β γ : Type}
@[simp] theorem gc_k (a : V) (as : List V) (k : V → List V → zV β) : gc (a :: as) k = k a as := rfl
@[simp] theorem yV (k : zV β) : g0 [] k = k := rfl
@[simp] theorem wY (a : V) (k : V → zV β) : g1 [a] k = k a := rfl
@[simp] theorem g2_k (a b : V) (k : V → V → zV β) : g2 [a, b] k = k a b := rfl
@[simp] theorem y7 (x : γ) (k : γ → zV β) : gO (some x) k = k x := rfl
@[simp] theorem gI_k (i : Int) (k : Int → zV β) : gI (.int i) k = k i := rfl
@[simp] theorem gS_k (i : Str) (k : Str → zV β) : gS (.str i) k = k i := rfl
@[simp] theorem gB_k (i : Bool) (k : Bool → zV β) : gB (.bool i) k = k i := rfl
@[simp] theorem gY_k (i : Array UInt8) (k : Array UInt8 → zV β) : gY (.bytes i) k = k i := rfl
@[simp] theorem gT_k (i : String) (k : String → zV β) : gT (.type i) k = k i := rfl
@[simp] theorem gh_k (l : Nat) (H : List O) (k : Nat → O → zV β) : gh (.ref l) H k = gO H[l]? (k l) := rfl
@[simp] theorem gl_k (l : Nat) (H : List O) (k : Nat → List V → zV β) : gl (.ref l) H k = gO H[l]? fun o => gO (zK o) (k l) := rfl
@[simp] theorem gt_k (l : Nat) (H : List O) (k : Nat → List V → zV β) : gt (.ref l) H k = gO H[l]? fun o => gO (zH o) (k l) := rfl
@[simp] theorem gd_k (l : Nat) (H : List O) (k : Nat → List (Int × V) → Nat → zV β) : gd (.ref l) H k = gO H[l]? fun o => gO (zN o) fun p => k l p.1 p.2 := rfl
@[simp] theorem ge_k (l : Nat) (H : List O) (k : Nat → List Int → zV β) : ge (.ref l) H k = gO H[l]? fun o => gO (zM o) (k l) := rfl
theorem iT {l : Nat} {xs : List V} {H : List O} {k : Nat → List V → zV β} (h : H[l]? = some (.list xs)) : gl (.ref l) H k = k l xs := by rw [gl_k, h]; rfl
theorem wn {l : Nat} {xs : List V} {H : List O} {k : Nat → List V → zV β} (h : H[l]? = some (.tup xs)) : gt (.ref l) H k = k l xs := by rw [gt_k, h]; rfl
theorem wp {l ep : Nat} {es : List (Int × V)} {H : List O} {k : Nat → List (Int × V) → Nat → zV β} (h : H[l]? = some (.dict es ep)) : gd (.ref l) H k = k l es ep := by rw [gd_k, h]; rfl
theorem yk {l : Nat} {xs : List Int} {H : List O} {k : Nat → List Int → zV β} (h : H[l]? = some (.set xs)) : ge (.ref l) H k = k l xs := by rw [ge_k, h]; rfl
theorem yf {l : Nat} {xs : List V} {H : List O} (h : H[l]? = some (.list xs)) : aO (.ref l) H = true := (dP h).trans rfl
theorem yg {l ep : Nat} {es : List (Int × V)} {H : List O} (h : H[l]? = some (.dict es ep)) : bQ (.ref l) H = true := (dP h).trans rfl
theorem uv {l : Nat} {xs : List Int} {H : List O} (h : H[l]? = some (.set xs)) : eu (.ref l) H = true := (dP h).trans rfl
theorem tK {l ep : Nat} {es : List (Int × V)} {H : List O} (h : H[l]? = some (.dict es ep)) : eu (.ref l) H = false := (dP h).trans rfl
theorem wl {l : Nat} {xs : List V} {H : List O} (h : H[l]? = some (.tup xs)) : aO (.ref l) H = false := (dP h).trans rfl
theorem mL {o : Option γ} {x : γ} {k : γ → zV β} (h : o = some x) : gO o k = k x := by subst h; rfl
@[simp] theorem asL_k (xs : List V) : zK (.list xs) = some xs := rfl
@[simp] theorem asU_k (xs : List V) : zH (.tup xs) = some xs := rfl
@[simp] theorem asD_k (es : List (Int × V)) (n : Nat) : zN (.dict es n) = some (es, n) := rfl
@[simp] theorem asE_k (xs : List Int) : zM (.set xs) = some xs := rfl
@[simp] theorem asX_k (c n : Nat) : asX (.exc (.top c) n) = some (c, n) := rfl
@[simp] theorem asN_k (c d : Nat) (sl : List (Option V)) : asN (.inst c d sl) = some (c, d, sl) := rfl
@[simp] theorem asF_k (fs : List (Str × V)) : asF (.idict fs) = some fs := rfl
@[simp] theorem asW_k (l i : Nat) : asW (.liter l i) = some (l, i) := rfl
@[simp] theorem asM_k (l : Nat) : asM (.mnext l) = some l := rfl
@[simp] theorem iiB_k (f : Int → Int → zV V) (a b : Int) : zA f (.int a) (.int b) = f a b := rfl
@[simp] theorem isO_k {X : Type} (f : O → Option X) (l : Nat) (H : List O) : zz f (.ref l) H = H[l]?.any fun o => (f o).isSome := rfl
@[simp] theorem isListV_k (l : Nat) (H : List O) : aO (.ref l) H = H[l]?.any fun o => (zK o).isSome := rfl
@[simp] theorem isDictV_k (l : Nat) (H : List O) : bQ (.ref l) H = H[l]?.any fun o => (zN o).isSome := rfl
@[simp] theorem isSetV_k (l : Nat) (H : List O) : eu (.ref l) H = H[l]?.any fun o => (zM o).isSome := rfl
@[simp] theorem asS_k (x : Str) : zI (.str x) = some x := rfl
@[simp] theorem asI_k (x : Int) : zL (.int x) = some x := rfl
@[simp] theorem asR_k (x : Nat) : zJ (.ref x) = some x := rfl
end
section
variable {c d l i : Nat} {sl : List (Option V)} {fs : List (Str × V)} {x : Str} {y u : V} {σ : St} {xs : List V}
theorem jP (h : σ.heap[l]? = some (.inst c d sl)) (h2 : σ.heap[d]? = some (.idict fs)) (h3 : nX fs x = some y) (ho : okV y = true) : getD c x (.ref l) σ = .ok y σ := (tQ h h2).trans ((mL h3).trans (if_pos ⟨rfl, ho⟩))
theorem mK (h : σ.heap[l]? = some (.inst c d sl)) (h2 : σ.heap[d]? = some (.idict fs)) (h3 : slotAt sl i = some y) (ho : okV y = true) : eM c i (.ref l) σ = .ok y σ := (tQ h h2).trans ((mL h3).trans (if_pos ⟨rfl, ho⟩))
theorem jF (h : σ.heap[l]? = some (.inst c d sl)) (h2 : σ.heap[d]? = some (.idict fs)) (h3 : fs.length ≤ 900) : iP c x (.ref l) u σ = .ok () { σ with heap := σ.heap.set d (.idict (lK fs x u)) } := (tQ h h2).trans (if_pos ⟨rfl, h3⟩)
theorem jC (h : σ.heap[l]? = some (.inst c d sl)) (h2 : σ.heap[d]? = some (.idict fs)) : fC c i (.ref l) u σ = .ok () { σ with heap := σ.heap.set l (.inst c d (oG sl i u)) } := (tQ h h2).trans (if_pos rfl)
theorem rc {H : List O} (h : H[l]? = some (.inst c d sl)) (h2 : H[d]? = some (.idict fs)) (h3 : (nX fs x).isNone = true) : bP c x (.ref l) H = true := by
 show H[l]?.any _ = true
 rw [h]; show H[d]?.any _ = true
 rw [h2]; show (decide (c = c) && _) = true
 rw [h3, decide_eq_true rfl]; rfl
theorem qY (h : σ.heap[l]? = some (.tup xs)) : iS [.ref l] σ = if (xs.length : Int) < 2 ^ 63 then .ok (.int xs.length) σ else .bad := by
 show cond (aO _ _) _ (gt _ _ _) = _
 rw [wl h]; exact wn h
theorem r8 (h : σ.heap[l]? = some (.list xs)) : bU (.ref l) σ = if xs.length ≤ sizeLine then .ok (!xs.isEmpty) σ else .bad := by
 unfold bU; dsimp only; rw [h]
theorem nu {o : O} (h : σ.heap[l]? = some o) (h2 : (zK o).or (zH o) = some xs) : kl (.ref l) σ = if xs.length ≤ sizeLine then .ok xs σ else .bad := (iD h).trans (mL h2)
end
theorem li {m : Nat} : (1000 ≤ m → m < 10000 → (Nat.toDigits 10 m).length = 4) ∧ (10000 ≤ m → m < 100000 → (Nat.toDigits 10 m).length = 5) := by
 have step : ∀ m, 10 ≤ m → (Nat.toDigits 10 m).length = (Nat.toDigits 10 (m / 10)).length + 1 := fun m h => by
  have hm : m % 10 < 10 := Nat.mod_lt m (by decide)
  have t : Nat.toDigits 10 (m / 10) ++ Nat.toDigits 10 (m % 10) = Nat.toDigits 10 (10 * (m / 10) + m % 10) := Nat.toDigits_append_toDigits (by decide) (by lia) hm
  rw [Nat.div_add_mod] at t
  rw [← t, List.length_append, Nat.toDigits_of_lt_base hm]; rfl
 have one : ∀ m, m < 10 → (Nat.toDigits 10 m).length = 1 := fun m h => by rw [Nat.toDigits_of_lt_base h]; rfl
 refine ⟨fun h1 h2 => ?_, fun h1 h2 => ?_⟩
 ·rw [step m (by lia), step (m / 10) (by lia), step (m / 10 / 10) (by lia), one _ (by lia)]
 ·rw [step m (by lia), step (m / 10) (by lia), step (m / 10 / 10) (by lia), step (m / 10 / 10 / 10) (by lia), one _ (by lia)]
theorem qH {p : Int} (h1 : 1024 ≤ p) (h2 : p < 61024) : ∃ ds : List Nat, PySem.Str.ofString (toString p) = ⟨ds.toArray⟩ ∧ (∀ c ∈ ds, 48 ≤ c ∧ c ≤ 57) ∧ (ds.length = 4 ∨ ds.length = 5) ∧ PySem.intText? ⟨ds.toArray⟩ = some p := by
 have hr := KIN.num_reads (n := p) (by lia) (by lia)
 obtain ⟨m, rfl⟩ := Int.eq_ofNat_of_zero_le (show 0 ≤ p by lia)
 have hs := KIN.signs_num m
 refine ⟨(Nat.toDigits 10 m).map Char.toNat, ?_, fun c hc => ?_, ?_, ?_⟩
 ·rw [← hs]
 ·obtain ⟨ch, hch, e⟩ := List.mem_map.mp hc
  have r := digit_range (Nat.isDigit_of_mem_toDigits (by decide) (by decide) hch)
  rw [← e]
  exact r
 ·rw [List.length_map]
  have := li (m := m)
  by_cases h : m < 10000
  ·exact .inl (this.1 (by lia) h)
  ·exact .inr (this.2 (by lia) (by lia))
 ·rw [← hs]; exact hr
theorem pX {p : Int} (h1 : 1024 ≤ p) (h2 : p < 61024) (σ : St) : nr [.int p] σ = .ok (.str (PySem.Str.ofString (toString p))) σ := by
 show (if p.natAbs.log2 < 1920 then _ else _) = _
 rw [if_pos ?_]
 have : p.natAbs < 2 ^ 16 := by lia
 have h3 : p.natAbs.log2 < 16 := by
  rw [Nat.log2_lt (by lia)]; exact this
 lia
theorem pR {x : PySem.Str} {c i : Nat} : subAt x ⟨#[c]⟩ i = decide (x.cps[i]? = some c) := by
 unfold subAt
 show (x.cps.extract i (i + 1) == #[c]) = _
 by_cases h : x.cps[i]? = some c
 ·obtain ⟨hi, e⟩ := Array.getElem?_eq_some_iff.mp h
  simp only [h, decide_true, beq_iff_eq]
  refine Array.ext (by simp; lia) fun j h1 h2 => ?_
  have : j = 0 := by simp at h2; lia
  subst this
  simp [e]
 ·simp only [h, decide_false, beq_eq_false_iff_ne]
  intro q
  apply h
  have hs : (x.cps.extract i (i + 1)).size = 1 := by rw [q]; rfl
  simp at hs
  rw [Array.getElem?_eq_getElem (by lia)]
  have : (x.cps.extract i (i + 1))[0]? = some c := by rw [q]; rfl
  rw [Array.getElem?_eq_getElem (by rw [Array.size_extract]; lia)] at this
  simpa using this
theorem jJ {x x' : PySem.Str} {c : Nat} (hc : ∀ i : Nat, x.cps[i]? = some c ↔ x'.cps[i]? = some c) {lo hi lim : Nat} : occurrences x ⟨#[c]⟩ lo hi lim = occurrences x' ⟨#[c]⟩ lo hi lim := by
 have e : ∀ i, subAt x ⟨#[c]⟩ i = subAt x' ⟨#[c]⟩ i := fun i => by rw [pR, pR]; exact decide_eq_decide.mpr (hc i)
 unfold occurrences
 simp only [e]
theorem rq {x x' : PySem.Str} {c : Nat} (hl : x.length = x'.length) (hc : ∀ i : Nat, x.cps[i]? = some c ↔ x'.cps[i]? = some c) : Txt.find x ⟨#[c]⟩ = Txt.find x' ⟨#[c]⟩ := by
 unfold Txt.find; rw [jJ hc, hl]
theorem pg {x x' : PySem.Str} {c : Nat} {i : Int} (hl : x.length = x'.length) (hc : ∀ i : Nat, x.cps[i]? = some c ↔ x'.cps[i]? = some c) : Txt.find3 x ⟨#[c]⟩ i = Txt.find3 x' ⟨#[c]⟩ i := by
 unfold Txt.find3; rw [jJ hc, hl]
theorem oE {x x' : PySem.Str} {c : Nat} (h256 : c < 256) (hl : x.length = x'.length) (h1 : 1 ≤ x.length) (hc : ∀ i : Nat, x.cps[i]? = some c ↔ x'.cps[i]? = some c) :
  Txt.split x ⟨#[c]⟩ = if (occurrences x' ⟨#[c]⟩ 0 x'.length (x'.length + 1)).isEmpty = true then [x] else partsBetween x (occurrences x' ⟨#[c]⟩ 0 x'.length (x'.length + 1)) 1 := by
 unfold Txt.split
 have k1 : Builtin.Str.strKind ⟨#[c]⟩ = 1 := by simp [Builtin.Str.strKind, h256]
 have k2 : ∀ y, 1 ≤ Builtin.Str.strKind y := fun y => by unfold Builtin.Str.strKind; split <;> (try split) <;> decide
 have := k2 x
 rw [if_neg (by rw [k1]; simp only [Bool.or_eq_true, decide_eq_true_eq]; show ¬ (x.length < 1 ∨ Builtin.Str.strKind x < 1); lia), jJ hc, hl]
 rfl
theorem lZ {pre ds es post : List Nat} {c : Nat} (hl : ds.length = es.length) (hd : c ∉ ds) (he : c ∉ es) (i : Nat) : (⟨(pre ++ ds ++ post).toArray⟩ : PySem.Str).cps[i]? = some c ↔ (⟨(pre ++ es ++ post).toArray⟩ : PySem.Str).cps[i]? = some c := by
 simp only [List.getElem?_toArray]
 by_cases h1 : i < pre.length
 ·rw [List.append_assoc, List.append_assoc, List.getElem?_append_left h1, List.getElem?_append_left h1]
 ·by_cases h2 : i < pre.length + ds.length
  ·rw [List.getElem?_append_left (l₁ := pre ++ ds) (by rw [List.length_append]; lia), List.getElem?_append_left (l₁ := pre ++ es) (by rw [List.length_append]; lia), List.getElem?_append_right (l₁ := pre) (by lia), List.getElem?_append_right (l₁ := pre) (by lia)]
   exact ⟨fun h => absurd (List.mem_of_getElem? h) hd, fun h => absurd (List.mem_of_getElem? h) he⟩
  ·rw [List.getElem?_append_right (l₁ := pre ++ ds) (by rw [List.length_append]; lia), List.getElem?_append_right (l₁ := pre ++ es) (by rw [List.length_append]; lia)]
   simp only [List.length_append, hl]
end
noncomputable abbrev P1 (c : Nat) : PySem.Str := ⟨#[c]⟩
theorem lg : Str.ofString "(" = P1 40 := by decide +kernel
theorem nP : Str.ofString ")" = P1 41 := by decide +kernel
theorem i5 (a : PySem.Str) (h : PyData.strOk a = true) : SeqAt.shaped (.str a) = true := by simp [SeqAt.shaped, PyData.canLay0, PyData.depth, h]
theorem wr (a b : PySem.Str) : PyData.eqv (.str a) (.str b) = (a == b) := by first | rfl | simp [PyData.eqv]
theorem ne_str (a b : PySem.Str) (σ : St) (h : PyData.strOk a = true) (h' : PyData.strOk b = true) : j3 .NotEq (.str a) (.str b) σ = .ok (.bool (!(a == b))) σ := by
 show mY σ ((zE σ.heap (.str a) (.str b)).map (!·)) = _
 have : zE σ.heap (.str a) (.str b) = some (a == b) := by
  unfold zE
  show (if (SeqAt.shaped (.str a) && SeqAt.shaped (.str b)) = true then some (PyData.eqv (.str a) (.str b)) else none) = _
  rw [i5 _ h, i5 _ h', wr]; rfl
 rw [this]; rfl
theorem lt_int (a b : Int) (σ : St) : j3 .Lt (.int a) (.int b) σ = .ok (.bool (decide (a < b))) σ := rfl
theorem ne_int (a b : Int) (σ : St) : j3 .NotEq (.int a) (.int b) σ = .ok (.bool (!(a == b))) σ := rfl
theorem jc : PyData.strOk "229" = true := by decide +kernel
theorem nv {x y : PySem.Str} {ps : List PySem.Str} (hl : y.length = 1) (hx : x.length ≤ 1000) (hs : Txt.split x y = ps) (σ : St) : hZ (.str x) [.str y] σ = .ok (.ref σ.heap.length) { σ with heap := σ.heap ++ [.list (ps.map .str)] } := by
 show (if y.length ≠ 0 ∧ x.length ≤ 1000 then _ else _) = _
 rw [if_pos ⟨by lia, hx⟩, hs]
theorem len_list {l : Nat} {xs : List V} {σ : St} (h : σ.heap[l]? = some (.list xs)) : iS [.ref l] σ = if (xs.length : Int) < 2 ^ 63 then .ok (.int xs.length) σ else .bad := by
 show cond (zz zK _ _) (gl _ _ _) _ = _
 rw [dP h]; exact iT h
theorem nS {l : Nat} {xs : List V} {n : Int} {σ : St} (h : σ.heap[l]? = some (.list xs)) (hl : xs.length < 1000) (hn : n = xs.length) : iS [.ref l] σ = .ok (.int n) σ := by
 rw [len_list h, if_pos (by lia), hn]
theorem item_at {l k : Nat} {xs : List V} {v : V} {σ : St} (h : σ.heap[l]? = some (.list xs)) (hk : k < 1000) (hv : xs[k]? = some v) : br (.ref l) (.int (k : Int)) σ = .ok v σ := by
 rw [kg h, decide_eq_true (by lia), cond_true, if_pos (by lia), show ((k : Int).toNat) = k by lia, hv]
 rfl
theorem nj {l k : Nat} {xs : List V} {v : V} {σ : St} (h : σ.heap[l]? = some (.tup xs)) (hk : k < 1000) (hv : xs[k]? = some v) : br (.ref l) (.int (k : Int)) σ = .ok v σ := by
 have hlt := (List.getElem?_eq_some_iff.mp hv).1
 have e : seqIndex? (k : Int) xs.length = some k := by
  unfold seqIndex?
  simp
  lia
 rw [r9 h, if_pos (by lia), e, Option.bind_some, hv]
 rfl
theorem dn {x y host : PySem.Str} (h3 : ∀ σ, eG (.str x) .none (.int 3) σ = .ok (.str y) σ) (hne : (y == Str.ofString "229") = false) (hy : PyData.strOk y = true) :
  iy [.str x, .ref 0] [.tup [.str host, .int 21]] = .exc (.top 44) [.str x] ⟨[some (.str x), some (.ref 0), none, none, none, none, none], [.tup [.str host, .int 21]]⟩ := by
 simp [iy, dj, ew, dH, aM, zB, aB, aW, bp, cw, ai, aa, ne_str, jc, hy, h3, hne, bU, cK, aj, sizeLine]
theorem dl {x host : PySem.Str} (h3 : ∀ σ, eG (.str x) .none (.int 3) σ = .ok (.str "229") σ) (hf : Txt.find x (P1 40) = -1) :
  iy [.str x, .ref 0] [.tup [.str host, .int 21]] = .exc (.top 56) [.str x] ⟨[some (.str x), some (.ref 0), some (.int (-1)), none, none, none, none], [.tup [.str host, .int 21]]⟩ := by
 simp [iy, dj, ew, dH, aM, zB, aB, aW, bp, cw, ai, aa, ne_str, jc, lt_int, ne_int, h3, bU, cK, aj, sizeLine, an, a7, bH, lu, lg, hf, ao]
theorem dk {x host : PySem.Str} (h3 : ∀ σ, eG (.str x) .none (.int 3) σ = .ok (.str "229") σ) (hf : Txt.find x (P1 40) = 7) (hr : Txt.find3 x (P1 41) 8 = -1) :
  iy [.str x, .ref 0] [.tup [.str host, .int 21]] = .exc (.top 56) [.str x] ⟨[some (.str x), some (.ref 0), some (.int 7), some (.int (-1)), none, none, none], [.tup [.str host, .int 21]]⟩ := by
 simp [iy, dj, ew, dH, aM, zB, aB, aW, aR, bp, cw, ai, aa, ne_str, jc, lt_int, ne_int, h3, bU, cK, aj, sizeLine, an, a7, bH, lu, lg, nP, hf, hr, ao, zr, wL, zA]
theorem cM {x host : PySem.Str} {r : Int} {a b : PySem.Str} (h3 : ∀ σ, eG (.str x) .none (.int 3) σ = .ok (.str "229") σ) (hf : Txt.find x (P1 40) = 7) (hr : Txt.find3 x (P1 41) 8 = r) (hr0 : 0 ≤ r)
  (ha : ∀ σ, br (.str x) (.int 8) σ = .ok (.str a) σ) (hb : ∀ σ, br (.str x) (.int (r - 1)) σ = .ok (.str b) σ) (hab : (a == b) = false) (oa : PyData.strOk a = true) (ob : PyData.strOk b = true) :
  iy [.str x, .ref 0] [.tup [.str host, .int 21]] = .exc (.top 56) [.str x] ⟨[some (.str x), some (.ref 0), some (.int 7), some (.int r), none, none, none], [.tup [.str host, .int 21]]⟩ := by
 have hn : ¬ r < 0 := by lia
 simp [iy, dj, ew, dH, aM, zB, aB, aW, aR, bp, cw, ai, aa, ne_str, jc, lt_int, ne_int, h3, bU, cK, aj, sizeLine, an, a7, bH, lu, lg, nP, hf, hr, ao, zr, wL, zA, hn, ha, hb, hab, oa, ob]
theorem cL {x host : PySem.Str} {r : Int} {a mid : PySem.Str} {p0 p1 p2 p3 : PySem.Str} (h3 : ∀ σ, eG (.str x) .none (.int 3) σ = .ok (.str "229") σ) (hf : Txt.find x (P1 40) = 7) (hr : Txt.find3 x (P1 41) 8 = r) (hr0 : 0 ≤ r)
  (ha : ∀ σ, br (.str x) (.int 8) σ = .ok (.str a) σ) (hb : ∀ σ, br (.str x) (.int (r - 1)) σ = .ok (.str a) σ) (hm : ∀ σ, eG (.str x) (.int 8) (.int r) σ = .ok (.str mid) σ)
  (oa : PyData.strOk a = true) (hl : a.length = 1) (hml : mid.length ≤ 1000) (hs : Txt.split mid a = [p0, p1, p2, p3]) :
  iy [.str x, .ref 0] [.tup [.str host, .int 21]] = .exc (.top 56) [.str x] ⟨[some (.str x), some (.ref 0), some (.int 7), some (.int r), some (.ref 1), none, none], [.tup [.str host, .int 21], .list [.str p0, .str p1, .str p2, .str p3]]⟩ := by
 have hn : ¬ r < 0 := by lia
 have hsp := nv hl hml hs
 have hle := nS (l := 1) (xs := [V.str p0, .str p1, .str p2, .str p3]) (n := 4) (σ := ⟨[some (.str x), some (.ref 0), some (.int 7), some (.int r), some (.ref 1), none, none], [.tup [.str host, .int 21], .list [.str p0, .str p1, .str p2, .str p3]]⟩) rfl (by simp) (by simp)
 simp [iy, dj, ew, dH, aM, zB, aB, aW, aR, bp, cw, ai, aa, ne_str, jc, lt_int, ne_int, h3, bU, cK, aj, sizeLine, an, a7, bH, lu, lg, nP, hf, hr, ao, zr, wL, zA, hn, ha, hb, oa, hm, hsp, aC, hle]
theorem dm {x host : PySem.Str} {r : Int} {a mid q : PySem.Str} {n : Int} {p0 p1 p2 p4 : PySem.Str} (h3 : ∀ σ, eG (.str x) .none (.int 3) σ = .ok (.str "229") σ) (hf : Txt.find x (P1 40) = 7) (hr : Txt.find3 x (P1 41) 8 = r) (hr0 : 0 ≤ r)
  (ha : ∀ σ, br (.str x) (.int 8) σ = .ok (.str a) σ) (hb : ∀ σ, br (.str x) (.int (r - 1)) σ = .ok (.str a) σ) (hm : ∀ σ, eG (.str x) (.int 8) (.int r) σ = .ok (.str mid) σ)
  (oa : PyData.strOk a = true) (hl : a.length = 1) (hml : mid.length ≤ 1000) (hs : Txt.split mid a = [p0, p1, p2, q, p4]) (hq : PySem.intText? q = some n) (hql : q.length ≤ 640) :
  iy [.str x, .ref 0] [.tup [.str host, .int 21]] = .ok (.ref 2) ⟨[some (.str x), some (.ref 0), some (.int 7), some (.int r), some (.ref 1), some (.str host), some (.int n)], [.tup [.str host, .int 21], .list [.str p0, .str p1, .str p2, .str q, .str p4], .tup [.str host, .int n]]⟩ := by
 have hn : ¬ r < 0 := by lia
 have hsp := nv hl hml hs
 have hle := nS (l := 1) (xs := [V.str p0, .str p1, .str p2, .str q, .str p4]) (n := 5) (σ := ⟨[some (.str x), some (.ref 0), some (.int 7), some (.int r), some (.ref 1), none, none], [.tup [.str host, .int 21], .list [.str p0, .str p1, .str p2, .str q, .str p4]]⟩) rfl (by simp) (by simp)
 have hit : br (.ref 1) (.int 3) ⟨[some (.str x), some (.ref 0), some (.int 7), some (.int r), some (.ref 1), some (.str host), none], [.tup [.str host, .int 21], .list [.str p0, .str p1, .str p2, .str q, .str p4]]⟩ = .ok (.str q) _ := item_at (l := 1) (k := 3) (xs := [V.str p0, .str p1, .str p2, .str q, .str p4]) rfl (by lia) rfl
 have hi0 : br (.ref 0) (.int 0) ⟨[some (.str x), some (.ref 0), some (.int 7), some (.int r), some (.ref 1), none, none], [.tup [.str host, .int 21], .list [.str p0, .str p1, .str p2, .str q, .str p4]]⟩ = .ok (.str host) _ := nj (l := 0) (k := 0) (xs := [V.str host, .int 21]) rfl (by lia) rfl
 simp [iy, dj, ew, dH, aM, zB, aB, aW, aR, bp, cw, ai, aa, ne_str, jc, lt_int, ne_int, h3, bU, cK, aj, sizeLine, an, a7, bH, lu, lg, nP, hf, hr, ao, zr, wL, zA, hn, ha, hb, oa, hm, hsp, aC, hle, hit, hi0, y6, hq, hql, dh, hV]
theorem eN {ds : List Nat} (h : ds.length = 4) : ∃ a b c d, ds = [a, b, c, d] := by
 obtain ⟨a, r, rfl, k⟩ := iH h
 obtain ⟨b, r, rfl, k'⟩ := iH k
 obtain ⟨c, d, rfl⟩ := eF k'
 exact ⟨a, b, c, d, rfl⟩
theorem fA {ds : List Nat} (h : ds.length = 5) : ∃ a b c d e, ds = [a, b, c, d, e] := by
 obtain ⟨a, r, rfl, k⟩ := iH h
 obtain ⟨b, c, d, e, rfl⟩ := eN k
 exact ⟨a, b, c, d, e, rfl⟩
theorem aH {pre ds es post : List Nat} {c : Nat} {n : Int} (hd : c ∉ ds) (hl : ds.length = es.length) (he : c ∉ es) (h : Txt.find ⟨(pre ++ es ++ post).toArray⟩ ⟨#[c]⟩ = n) : Txt.find ⟨(pre ++ ds ++ post).toArray⟩ ⟨#[c]⟩ = n := by
 rw [← h]
 exact rq (by simp [PySem.Str.length, hl]) (lZ hl hd he)
theorem aL {pre ds es post : List Nat} {c : Nat} {i n : Int} (hd : c ∉ ds) (hl : ds.length = es.length) (he : c ∉ es) (h : Txt.find3 ⟨(pre ++ es ++ post).toArray⟩ ⟨#[c]⟩ i = n) : Txt.find3 ⟨(pre ++ ds ++ post).toArray⟩ ⟨#[c]⟩ i = n := by
 rw [← h]
 exact pg (by simp [PySem.Str.length, hl]) (lZ hl hd he)
theorem bh {pre ds es post : List Nat} {c : Nat} {ps : List PySem.Str} (h256 : c < 256) (hp : 1 ≤ (pre ++ ds ++ post).length) (hd : c ∉ ds) (hl : ds.length = es.length) (he : c ∉ es)
  (h : (if (Builtin.Str.occurrences ⟨(pre ++ es ++ post).toArray⟩ ⟨#[c]⟩ 0 (PySem.Str.length ⟨(pre ++ es ++ post).toArray⟩) (PySem.Str.length ⟨(pre ++ es ++ post).toArray⟩ + 1)).isEmpty = true then [⟨(pre ++ ds ++ post).toArray⟩] else Builtin.Str.partsBetween ⟨(pre ++ ds ++ post).toArray⟩ (Builtin.Str.occurrences ⟨(pre ++ es ++ post).toArray⟩ ⟨#[c]⟩ 0 (PySem.Str.length ⟨(pre ++ es ++ post).toArray⟩) (PySem.Str.length ⟨(pre ++ es ++ post).toArray⟩ + 1)) 1) = ps) :
  Txt.split ⟨(pre ++ ds ++ post).toArray⟩ ⟨#[c]⟩ = ps := by
 rw [← h]
 exact oE h256 (by simp [PySem.Str.length, hl]) (by simpa [PySem.Str.length] using hp) (lZ hl hd he)
section
variable {c : Nat} {ds : List Nat} {host : PySem.Str}
noncomputable abbrev peer (host : PySem.Str) : O := .tup [.str host, .int 21]
theorem ti (hc : c = 124 ∨ c = 33 ∨ c = 35) (hd : ∀ d ∈ ds, 48 ≤ d ∧ d ≤ 57) (hl : ds.length = 4 ∨ ds.length = 5) {p : Int} (hp : PySem.intText? ⟨ds.toArray⟩ = some p) : ∃ τ, iy [.str ⟨([50, 50, 57, 32, 97, 116, 32, 40, c, c, c] ++ ds ++ [c, 41]).toArray⟩, .ref 0] [peer host] = .ok (.ref 2) τ ∧ τ.heap.take 1 = [peer host] ∧ τ.heap[2]? = some (.tup [.str host, .int p]) := by
 rcases hl with hl | hl
 ·obtain ⟨a1, a2, a3, a4, rfl⟩ := eN hl
  rcases hc with rfl | rfl | rfl
  ·exact ⟨_, dm (r := 16) (a := P1 124) (mid := ⟨([124, 124, 124] ++ [a1, a2, a3, a4] ++ [124]).toArray⟩) (q := ⟨([a1, a2, a3, a4] : List Nat).toArray⟩) (p0 := ⟨#[]⟩) (p1 := ⟨#[]⟩) (p2 := ⟨#[]⟩) (p4 := ⟨#[]⟩) (fun σ => by kernel_rfl) (aH (es := [48, 48, 48, 48]) (fun q => absurd (hd _ q) (by lia)) rfl (by decide) (by decide +kernel)) (aL (es := [48, 48, 48, 48]) (fun q => absurd (hd _ q) (by lia)) rfl (by decide) (by decide +kernel)) (by decide) (fun σ => by kernel_rfl) (fun σ => by kernel_rfl) (fun σ => by kernel_rfl) (by decide +kernel) rfl (by show 8 ≤ 1000; decide) (bh (es := [48, 48, 48, 48]) (by decide) (by show 1 ≤ 8; decide) (fun q => absurd (hd _ q) (by lia)) rfl (by decide) (by kernel_rfl)) hp (by show 4 ≤ 640; decide), rfl, rfl⟩
  ·exact ⟨_, dm (r := 16) (a := P1 33) (mid := ⟨([33, 33, 33] ++ [a1, a2, a3, a4] ++ [33]).toArray⟩) (q := ⟨([a1, a2, a3, a4] : List Nat).toArray⟩) (p0 := ⟨#[]⟩) (p1 := ⟨#[]⟩) (p2 := ⟨#[]⟩) (p4 := ⟨#[]⟩) (fun σ => by kernel_rfl) (aH (es := [48, 48, 48, 48]) (fun q => absurd (hd _ q) (by lia)) rfl (by decide) (by decide +kernel)) (aL (es := [48, 48, 48, 48]) (fun q => absurd (hd _ q) (by lia)) rfl (by decide) (by decide +kernel)) (by decide) (fun σ => by kernel_rfl) (fun σ => by kernel_rfl) (fun σ => by kernel_rfl) (by decide +kernel) rfl (by show 8 ≤ 1000; decide) (bh (es := [48, 48, 48, 48]) (by decide) (by show 1 ≤ 8; decide) (fun q => absurd (hd _ q) (by lia)) rfl (by decide) (by kernel_rfl)) hp (by show 4 ≤ 640; decide), rfl, rfl⟩
  ·exact ⟨_, dm (r := 16) (a := P1 35) (mid := ⟨([35, 35, 35] ++ [a1, a2, a3, a4] ++ [35]).toArray⟩) (q := ⟨([a1, a2, a3, a4] : List Nat).toArray⟩) (p0 := ⟨#[]⟩) (p1 := ⟨#[]⟩) (p2 := ⟨#[]⟩) (p4 := ⟨#[]⟩) (fun σ => by kernel_rfl) (aH (es := [48, 48, 48, 48]) (fun q => absurd (hd _ q) (by lia)) rfl (by decide) (by decide +kernel)) (aL (es := [48, 48, 48, 48]) (fun q => absurd (hd _ q) (by lia)) rfl (by decide) (by decide +kernel)) (by decide) (fun σ => by kernel_rfl) (fun σ => by kernel_rfl) (fun σ => by kernel_rfl) (by decide +kernel) rfl (by show 8 ≤ 1000; decide) (bh (es := [48, 48, 48, 48]) (by decide) (by show 1 ≤ 8; decide) (fun q => absurd (hd _ q) (by lia)) rfl (by decide) (by kernel_rfl)) hp (by show 4 ≤ 640; decide), rfl, rfl⟩
 ·obtain ⟨a1, a2, a3, a4, a5, rfl⟩ := fA hl
  rcases hc with rfl | rfl | rfl
  ·exact ⟨_, dm (r := 17) (a := P1 124) (mid := ⟨([124, 124, 124] ++ [a1, a2, a3, a4, a5] ++ [124]).toArray⟩) (q := ⟨([a1, a2, a3, a4, a5] : List Nat).toArray⟩) (p0 := ⟨#[]⟩) (p1 := ⟨#[]⟩) (p2 := ⟨#[]⟩) (p4 := ⟨#[]⟩) (fun σ => by kernel_rfl) (aH (es := [48, 48, 48, 48, 48]) (fun q => absurd (hd _ q) (by lia)) rfl (by decide) (by decide +kernel)) (aL (es := [48, 48, 48, 48, 48]) (fun q => absurd (hd _ q) (by lia)) rfl (by decide) (by decide +kernel)) (by decide) (fun σ => by kernel_rfl) (fun σ => by kernel_rfl) (fun σ => by kernel_rfl) (by decide +kernel) rfl (by show 9 ≤ 1000; decide) (bh (es := [48, 48, 48, 48, 48]) (by decide) (by show 1 ≤ 9; decide) (fun q => absurd (hd _ q) (by lia)) rfl (by decide) (by kernel_rfl)) hp (by show 5 ≤ 640; decide), rfl, rfl⟩
  ·exact ⟨_, dm (r := 17) (a := P1 33) (mid := ⟨([33, 33, 33] ++ [a1, a2, a3, a4, a5] ++ [33]).toArray⟩) (q := ⟨([a1, a2, a3, a4, a5] : List Nat).toArray⟩) (p0 := ⟨#[]⟩) (p1 := ⟨#[]⟩) (p2 := ⟨#[]⟩) (p4 := ⟨#[]⟩) (fun σ => by kernel_rfl) (aH (es := [48, 48, 48, 48, 48]) (fun q => absurd (hd _ q) (by lia)) rfl (by decide) (by decide +kernel)) (aL (es := [48, 48, 48, 48, 48]) (fun q => absurd (hd _ q) (by lia)) rfl (by decide) (by decide +kernel)) (by decide) (fun σ => by kernel_rfl) (fun σ => by kernel_rfl) (fun σ => by kernel_rfl) (by decide +kernel) rfl (by show 9 ≤ 1000; decide) (bh (es := [48, 48, 48, 48, 48]) (by decide) (by show 1 ≤ 9; decide) (fun q => absurd (hd _ q) (by lia)) rfl (by decide) (by kernel_rfl)) hp (by show 5 ≤ 640; decide), rfl, rfl⟩
  ·exact ⟨_, dm (r := 17) (a := P1 35) (mid := ⟨([35, 35, 35] ++ [a1, a2, a3, a4, a5] ++ [35]).toArray⟩) (q := ⟨([a1, a2, a3, a4, a5] : List Nat).toArray⟩) (p0 := ⟨#[]⟩) (p1 := ⟨#[]⟩) (p2 := ⟨#[]⟩) (p4 := ⟨#[]⟩) (fun σ => by kernel_rfl) (aH (es := [48, 48, 48, 48, 48]) (fun q => absurd (hd _ q) (by lia)) rfl (by decide) (by decide +kernel)) (aL (es := [48, 48, 48, 48, 48]) (fun q => absurd (hd _ q) (by lia)) rfl (by decide) (by decide +kernel)) (by decide) (fun σ => by kernel_rfl) (fun σ => by kernel_rfl) (fun σ => by kernel_rfl) (by decide +kernel) rfl (by show 9 ≤ 1000; decide) (bh (es := [48, 48, 48, 48, 48]) (by decide) (by show 1 ≤ 9; decide) (fun q => absurd (hd _ q) (by lia)) rfl (by decide) (by kernel_rfl)) hp (by show 5 ≤ 640; decide), rfl, rfl⟩
theorem th (hc : c = 124 ∨ c = 33 ∨ c = 35) (hd : ∀ d ∈ ds, 48 ≤ d ∧ d ≤ 57) (hl : ds.length = 4 ∨ ds.length = 5) : ∃ τ, iy [.str ⟨([50, 50, 57, 32, 97, 116, 32, c, c, c] ++ ds ++ [c, 41]).toArray⟩, .ref 0] [peer host] = .exc (.top 56) [.str ⟨([50, 50, 57, 32, 97, 116, 32, c, c, c] ++ ds ++ [c, 41]).toArray⟩] τ ∧ τ.heap.take 1 = [peer host] := by
 rcases hl with hl | hl
 ·obtain ⟨a1, a2, a3, a4, rfl⟩ := eN hl
  rcases hc with rfl | rfl | rfl
  ·exact ⟨_, dl (fun σ => by kernel_rfl) (aH (es := [48, 48, 48, 48]) (fun q => absurd (hd _ q) (by lia)) rfl (by decide) (by decide +kernel)), rfl⟩
  ·exact ⟨_, dl (fun σ => by kernel_rfl) (aH (es := [48, 48, 48, 48]) (fun q => absurd (hd _ q) (by lia)) rfl (by decide) (by decide +kernel)), rfl⟩
  ·exact ⟨_, dl (fun σ => by kernel_rfl) (aH (es := [48, 48, 48, 48]) (fun q => absurd (hd _ q) (by lia)) rfl (by decide) (by decide +kernel)), rfl⟩
 ·obtain ⟨a1, a2, a3, a4, a5, rfl⟩ := fA hl
  rcases hc with rfl | rfl | rfl
  ·exact ⟨_, dl (fun σ => by kernel_rfl) (aH (es := [48, 48, 48, 48, 48]) (fun q => absurd (hd _ q) (by lia)) rfl (by decide) (by decide +kernel)), rfl⟩
  ·exact ⟨_, dl (fun σ => by kernel_rfl) (aH (es := [48, 48, 48, 48, 48]) (fun q => absurd (hd _ q) (by lia)) rfl (by decide) (by decide +kernel)), rfl⟩
  ·exact ⟨_, dl (fun σ => by kernel_rfl) (aH (es := [48, 48, 48, 48, 48]) (fun q => absurd (hd _ q) (by lia)) rfl (by decide) (by decide +kernel)), rfl⟩
theorem tg (hc : c = 124 ∨ c = 33 ∨ c = 35) (hd : ∀ d ∈ ds, 48 ≤ d ∧ d ≤ 57) (hl : ds.length = 4 ∨ ds.length = 5) : ∃ τ, iy [.str ⟨([50, 50, 57, 32, 97, 116, 32, 40, c, c, c] ++ ds ++ [c]).toArray⟩, .ref 0] [peer host] = .exc (.top 56) [.str ⟨([50, 50, 57, 32, 97, 116, 32, 40, c, c, c] ++ ds ++ [c]).toArray⟩] τ ∧ τ.heap.take 1 = [peer host] := by
 rcases hl with hl | hl
 ·obtain ⟨a1, a2, a3, a4, rfl⟩ := eN hl
  rcases hc with rfl | rfl | rfl
  ·exact ⟨_, dk (fun σ => by kernel_rfl) (aH (es := [48, 48, 48, 48]) (fun q => absurd (hd _ q) (by lia)) rfl (by decide) (by decide +kernel)) (aL (es := [48, 48, 48, 48]) (fun q => absurd (hd _ q) (by lia)) rfl (by decide) (by decide +kernel)), rfl⟩
  ·exact ⟨_, dk (fun σ => by kernel_rfl) (aH (es := [48, 48, 48, 48]) (fun q => absurd (hd _ q) (by lia)) rfl (by decide) (by decide +kernel)) (aL (es := [48, 48, 48, 48]) (fun q => absurd (hd _ q) (by lia)) rfl (by decide) (by decide +kernel)), rfl⟩
  ·exact ⟨_, dk (fun σ => by kernel_rfl) (aH (es := [48, 48, 48, 48]) (fun q => absurd (hd _ q) (by lia)) rfl (by decide) (by decide +kernel)) (aL (es := [48, 48, 48, 48]) (fun q => absurd (hd _ q) (by lia)) rfl (by decide) (by decide +kernel)), rfl⟩
 ·obtain ⟨a1, a2, a3, a4, a5, rfl⟩ := fA hl
  rcases hc with rfl | rfl | rfl
  ·exact ⟨_, dk (fun σ => by kernel_rfl) (aH (es := [48, 48, 48, 48, 48]) (fun q => absurd (hd _ q) (by lia)) rfl (by decide) (by decide +kernel)) (aL (es := [48, 48, 48, 48, 48]) (fun q => absurd (hd _ q) (by lia)) rfl (by decide) (by decide +kernel)), rfl⟩
  ·exact ⟨_, dk (fun σ => by kernel_rfl) (aH (es := [48, 48, 48, 48, 48]) (fun q => absurd (hd _ q) (by lia)) rfl (by decide) (by decide +kernel)) (aL (es := [48, 48, 48, 48, 48]) (fun q => absurd (hd _ q) (by lia)) rfl (by decide) (by decide +kernel)), rfl⟩
  ·exact ⟨_, dk (fun σ => by kernel_rfl) (aH (es := [48, 48, 48, 48, 48]) (fun q => absurd (hd _ q) (by lia)) rfl (by decide) (by decide +kernel)) (aL (es := [48, 48, 48, 48, 48]) (fun q => absurd (hd _ q) (by lia)) rfl (by decide) (by decide +kernel)), rfl⟩
theorem tf (hc : c = 124 ∨ c = 33 ∨ c = 35) (hd : ∀ d ∈ ds, 48 ≤ d ∧ d ≤ 57) (hl : ds.length = 4 ∨ ds.length = 5) : ∃ τ, iy [.str ⟨([50, 50, 57, 32, 97, 116, 32, 40, c, c, c] ++ ds ++ [45, 41]).toArray⟩, .ref 0] [peer host] = .exc (.top 56) [.str ⟨([50, 50, 57, 32, 97, 116, 32, 40, c, c, c] ++ ds ++ [45, 41]).toArray⟩] τ ∧ τ.heap.take 1 = [peer host] := by
 rcases hl with hl | hl
 ·obtain ⟨a1, a2, a3, a4, rfl⟩ := eN hl
  rcases hc with rfl | rfl | rfl
  ·exact ⟨_, cM (r := 16) (a := P1 124) (b := P1 45) (fun σ => by kernel_rfl) (aH (es := [48, 48, 48, 48]) (fun q => absurd (hd _ q) (by lia)) rfl (by decide) (by decide +kernel)) (aL (es := [48, 48, 48, 48]) (fun q => absurd (hd _ q) (by lia)) rfl (by decide) (by decide +kernel)) (by decide) (fun σ => by kernel_rfl) (fun σ => by kernel_rfl) (by decide +kernel) (by decide +kernel) (by decide +kernel), rfl⟩
  ·exact ⟨_, cM (r := 16) (a := P1 33) (b := P1 45) (fun σ => by kernel_rfl) (aH (es := [48, 48, 48, 48]) (fun q => absurd (hd _ q) (by lia)) rfl (by decide) (by decide +kernel)) (aL (es := [48, 48, 48, 48]) (fun q => absurd (hd _ q) (by lia)) rfl (by decide) (by decide +kernel)) (by decide) (fun σ => by kernel_rfl) (fun σ => by kernel_rfl) (by decide +kernel) (by decide +kernel) (by decide +kernel), rfl⟩
  ·exact ⟨_, cM (r := 16) (a := P1 35) (b := P1 45) (fun σ => by kernel_rfl) (aH (es := [48, 48, 48, 48]) (fun q => absurd (hd _ q) (by lia)) rfl (by decide) (by decide +kernel)) (aL (es := [48, 48, 48, 48]) (fun q => absurd (hd _ q) (by lia)) rfl (by decide) (by decide +kernel)) (by decide) (fun σ => by kernel_rfl) (fun σ => by kernel_rfl) (by decide +kernel) (by decide +kernel) (by decide +kernel), rfl⟩
 ·obtain ⟨a1, a2, a3, a4, a5, rfl⟩ := fA hl
  rcases hc with rfl | rfl | rfl
  ·exact ⟨_, cM (r := 17) (a := P1 124) (b := P1 45) (fun σ => by kernel_rfl) (aH (es := [48, 48, 48, 48, 48]) (fun q => absurd (hd _ q) (by lia)) rfl (by decide) (by decide +kernel)) (aL (es := [48, 48, 48, 48, 48]) (fun q => absurd (hd _ q) (by lia)) rfl (by decide) (by decide +kernel)) (by decide) (fun σ => by kernel_rfl) (fun σ => by kernel_rfl) (by decide +kernel) (by decide +kernel) (by decide +kernel), rfl⟩
  ·exact ⟨_, cM (r := 17) (a := P1 33) (b := P1 45) (fun σ => by kernel_rfl) (aH (es := [48, 48, 48, 48, 48]) (fun q => absurd (hd _ q) (by lia)) rfl (by decide) (by decide +kernel)) (aL (es := [48, 48, 48, 48, 48]) (fun q => absurd (hd _ q) (by lia)) rfl (by decide) (by decide +kernel)) (by decide) (fun σ => by kernel_rfl) (fun σ => by kernel_rfl) (by decide +kernel) (by decide +kernel) (by decide +kernel), rfl⟩
  ·exact ⟨_, cM (r := 17) (a := P1 35) (b := P1 45) (fun σ => by kernel_rfl) (aH (es := [48, 48, 48, 48, 48]) (fun q => absurd (hd _ q) (by lia)) rfl (by decide) (by decide +kernel)) (aL (es := [48, 48, 48, 48, 48]) (fun q => absurd (hd _ q) (by lia)) rfl (by decide) (by decide +kernel)) (by decide) (fun σ => by kernel_rfl) (fun σ => by kernel_rfl) (by decide +kernel) (by decide +kernel) (by decide +kernel), rfl⟩
theorem te (hc : c = 124 ∨ c = 33 ∨ c = 35) (hd : ∀ d ∈ ds, 48 ≤ d ∧ d ≤ 57) (hl : ds.length = 4 ∨ ds.length = 5) : ∃ τ, iy [.str ⟨([50, 50, 57, 32, 97, 116, 32, 40, c, c] ++ ds ++ [c, 41]).toArray⟩, .ref 0] [peer host] = .exc (.top 56) [.str ⟨([50, 50, 57, 32, 97, 116, 32, 40, c, c] ++ ds ++ [c, 41]).toArray⟩] τ ∧ τ.heap.take 1 = [peer host] := by
 rcases hl with hl | hl
 ·obtain ⟨a1, a2, a3, a4, rfl⟩ := eN hl
  rcases hc with rfl | rfl | rfl
  ·exact ⟨_, cL (r := 15) (a := P1 124) (mid := ⟨([124, 124] ++ [a1, a2, a3, a4] ++ [124]).toArray⟩) (p0 := ⟨#[]⟩) (p1 := ⟨#[]⟩) (p2 := ⟨([a1, a2, a3, a4] : List Nat).toArray⟩) (p3 := ⟨#[]⟩) (fun σ => by kernel_rfl) (aH (es := [48, 48, 48, 48]) (fun q => absurd (hd _ q) (by lia)) rfl (by decide) (by decide +kernel)) (aL (es := [48, 48, 48, 48]) (fun q => absurd (hd _ q) (by lia)) rfl (by decide) (by decide +kernel)) (by decide) (fun σ => by kernel_rfl) (fun σ => by kernel_rfl) (fun σ => by kernel_rfl) (by decide +kernel) rfl (by show 7 ≤ 1000; decide) (bh (es := [48, 48, 48, 48]) (by decide) (by show 1 ≤ 7; decide) (fun q => absurd (hd _ q) (by lia)) rfl (by decide) (by kernel_rfl)), rfl⟩
  ·exact ⟨_, cL (r := 15) (a := P1 33) (mid := ⟨([33, 33] ++ [a1, a2, a3, a4] ++ [33]).toArray⟩) (p0 := ⟨#[]⟩) (p1 := ⟨#[]⟩) (p2 := ⟨([a1, a2, a3, a4] : List Nat).toArray⟩) (p3 := ⟨#[]⟩) (fun σ => by kernel_rfl) (aH (es := [48, 48, 48, 48]) (fun q => absurd (hd _ q) (by lia)) rfl (by decide) (by decide +kernel)) (aL (es := [48, 48, 48, 48]) (fun q => absurd (hd _ q) (by lia)) rfl (by decide) (by decide +kernel)) (by decide) (fun σ => by kernel_rfl) (fun σ => by kernel_rfl) (fun σ => by kernel_rfl) (by decide +kernel) rfl (by show 7 ≤ 1000; decide) (bh (es := [48, 48, 48, 48]) (by decide) (by show 1 ≤ 7; decide) (fun q => absurd (hd _ q) (by lia)) rfl (by decide) (by kernel_rfl)), rfl⟩
  ·exact ⟨_, cL (r := 15) (a := P1 35) (mid := ⟨([35, 35] ++ [a1, a2, a3, a4] ++ [35]).toArray⟩) (p0 := ⟨#[]⟩) (p1 := ⟨#[]⟩) (p2 := ⟨([a1, a2, a3, a4] : List Nat).toArray⟩) (p3 := ⟨#[]⟩) (fun σ => by kernel_rfl) (aH (es := [48, 48, 48, 48]) (fun q => absurd (hd _ q) (by lia)) rfl (by decide) (by decide +kernel)) (aL (es := [48, 48, 48, 48]) (fun q => absurd (hd _ q) (by lia)) rfl (by decide) (by decide +kernel)) (by decide) (fun σ => by kernel_rfl) (fun σ => by kernel_rfl) (fun σ => by kernel_rfl) (by decide +kernel) rfl (by show 7 ≤ 1000; decide) (bh (es := [48, 48, 48, 48]) (by decide) (by show 1 ≤ 7; decide) (fun q => absurd (hd _ q) (by lia)) rfl (by decide) (by kernel_rfl)), rfl⟩
 ·obtain ⟨a1, a2, a3, a4, a5, rfl⟩ := fA hl
  rcases hc with rfl | rfl | rfl
  ·exact ⟨_, cL (r := 16) (a := P1 124) (mid := ⟨([124, 124] ++ [a1, a2, a3, a4, a5] ++ [124]).toArray⟩) (p0 := ⟨#[]⟩) (p1 := ⟨#[]⟩) (p2 := ⟨([a1, a2, a3, a4, a5] : List Nat).toArray⟩) (p3 := ⟨#[]⟩) (fun σ => by kernel_rfl) (aH (es := [48, 48, 48, 48, 48]) (fun q => absurd (hd _ q) (by lia)) rfl (by decide) (by decide +kernel)) (aL (es := [48, 48, 48, 48, 48]) (fun q => absurd (hd _ q) (by lia)) rfl (by decide) (by decide +kernel)) (by decide) (fun σ => by kernel_rfl) (fun σ => by kernel_rfl) (fun σ => by kernel_rfl) (by decide +kernel) rfl (by show 8 ≤ 1000; decide) (bh (es := [48, 48, 48, 48, 48]) (by decide) (by show 1 ≤ 8; decide) (fun q => absurd (hd _ q) (by lia)) rfl (by decide) (by kernel_rfl)), rfl⟩
  ·exact ⟨_, cL (r := 16) (a := P1 33) (mid := ⟨([33, 33] ++ [a1, a2, a3, a4, a5] ++ [33]).toArray⟩) (p0 := ⟨#[]⟩) (p1 := ⟨#[]⟩) (p2 := ⟨([a1, a2, a3, a4, a5] : List Nat).toArray⟩) (p3 := ⟨#[]⟩) (fun σ => by kernel_rfl) (aH (es := [48, 48, 48, 48, 48]) (fun q => absurd (hd _ q) (by lia)) rfl (by decide) (by decide +kernel)) (aL (es := [48, 48, 48, 48, 48]) (fun q => absurd (hd _ q) (by lia)) rfl (by decide) (by decide +kernel)) (by decide) (fun σ => by kernel_rfl) (fun σ => by kernel_rfl) (fun σ => by kernel_rfl) (by decide +kernel) rfl (by show 8 ≤ 1000; decide) (bh (es := [48, 48, 48, 48, 48]) (by decide) (by show 1 ≤ 8; decide) (fun q => absurd (hd _ q) (by lia)) rfl (by decide) (by kernel_rfl)), rfl⟩
  ·exact ⟨_, cL (r := 16) (a := P1 35) (mid := ⟨([35, 35] ++ [a1, a2, a3, a4, a5] ++ [35]).toArray⟩) (p0 := ⟨#[]⟩) (p1 := ⟨#[]⟩) (p2 := ⟨([a1, a2, a3, a4, a5] : List Nat).toArray⟩) (p3 := ⟨#[]⟩) (fun σ => by kernel_rfl) (aH (es := [48, 48, 48, 48, 48]) (fun q => absurd (hd _ q) (by lia)) rfl (by decide) (by decide +kernel)) (aL (es := [48, 48, 48, 48, 48]) (fun q => absurd (hd _ q) (by lia)) rfl (by decide) (by decide +kernel)) (by decide) (fun σ => by kernel_rfl) (fun σ => by kernel_rfl) (fun σ => by kernel_rfl) (by decide +kernel) rfl (by show 8 ≤ 1000; decide) (bh (es := [48, 48, 48, 48, 48]) (by decide) (by show 1 ≤ 8; decide) (fun q => absurd (hd _ q) (by lia)) rfl (by decide) (by kernel_rfl)), rfl⟩
theorem td (hc : c = 124 ∨ c = 33 ∨ c = 35) (hd : ∀ d ∈ ds, 48 ≤ d ∧ d ≤ 57) (hl : ds.length = 4 ∨ ds.length = 5) : ∃ τ, iy [.str ⟨([50, 51, 48, 32, 97, 116, 32, 40, c, c, c] ++ ds ++ [c, 41]).toArray⟩, .ref 0] [peer host] = .exc (.top 44) [.str ⟨([50, 51, 48, 32, 97, 116, 32, 40, c, c, c] ++ ds ++ [c, 41]).toArray⟩] τ ∧ τ.heap.take 1 = [peer host] := by
 rcases hl with hl | hl
 ·obtain ⟨a1, a2, a3, a4, rfl⟩ := eN hl
  rcases hc with rfl | rfl | rfl
  ·exact ⟨_, dn (y := ⟨#[50, 51, 48]⟩) (fun σ => by kernel_rfl) (by decide +kernel) (by decide +kernel), rfl⟩
  ·exact ⟨_, dn (y := ⟨#[50, 51, 48]⟩) (fun σ => by kernel_rfl) (by decide +kernel) (by decide +kernel), rfl⟩
  ·exact ⟨_, dn (y := ⟨#[50, 51, 48]⟩) (fun σ => by kernel_rfl) (by decide +kernel) (by decide +kernel), rfl⟩
 ·obtain ⟨a1, a2, a3, a4, a5, rfl⟩ := fA hl
  rcases hc with rfl | rfl | rfl
  ·exact ⟨_, dn (y := ⟨#[50, 51, 48]⟩) (fun σ => by kernel_rfl) (by decide +kernel) (by decide +kernel), rfl⟩
  ·exact ⟨_, dn (y := ⟨#[50, 51, 48]⟩) (fun σ => by kernel_rfl) (by decide +kernel) (by decide +kernel), rfl⟩
  ·exact ⟨_, dn (y := ⟨#[50, 51, 48]⟩) (fun σ => by kernel_rfl) (by decide +kernel) (by decide +kernel), rfl⟩
end
theorem hO {m : cY} {vs vs0 : List V} {σ τ : St} {H0 : List O} {r : Nat} {o : O} (hz : zj vs σ.heap = some (vs0, H0)) (hd : σ.heap.all noDict = true) (hm : m vs0 H0 = .ok (.ref r) τ) (ht : τ.heap.take H0.length = H0) (ho : τ.heap[r]? = some o) (hr : H0.length ≤ r) (hf : gv o = true) :
  bR m vs σ = .ok (.ref σ.heap.length) { σ with heap := σ.heap ++ [o] } := by
 unfold bR
 simp only [hz, hd, hm, ht, ho, hr, hf, if_true, and_self]
theorem fT {m : cY} {vs vs0 : List V} {v : V} {σ τ : St} {H0 : List O} (hz : zj vs σ.heap = some (vs0, H0)) (hd : σ.heap.all noDict = true) (hm : m vs0 H0 = .ok v τ) (ht : τ.heap.take H0.length = H0) (hv : pK v = true) :
  bR m vs σ = .ok v σ := by
 unfold bR
 simp only [hz, hd, hm, ht, if_true]
 cases v <;> first | rfl | cases hv
theorem ry {m : cY} {vs vs0 as : List V} {c : V} {σ τ : St} {H0 : List O} (hz : zj vs σ.heap = some (vs0, H0)) (hd : σ.heap.all noDict = true) (hm : m vs0 H0 = .exc c as τ) (ht : τ.heap.take H0.length = H0) (hc : pK c = true) (ha : as.all pK = true) :
  bR m vs σ = .exc c as σ := by
 unfold bR
 simp only [hz, hd, hm, ht, hc, ha, if_true, and_self]
theorem ji (l : Nat) (σ : St) : j3 .Is (.ref l) .none σ = .ok (.bool false) σ := rfl
theorem pC {x host : PySem.Str} {p : Int} {τ : St} (h : iy [.str x, .ref 0] [peer host] = .ok (.ref 2) τ) (h1 : τ.heap.take 1 = [peer host]) (h2 : τ.heap[2]? = some (.tup [.str host, .int p])) :
  ∃ τ', fb [.str x, .ref 0] [peer host] = .ok (.ref 1) τ' ∧ τ'.heap = [peer host, .tup [.str host, .int p]] := by
 have e := hO (vs := [.str x, .ref 0]) (vs0 := [.str x, .ref 0]) (H0 := [peer host]) (σ := ⟨[some (.str x), some (.ref 0), none], [peer host]⟩) rfl rfl h h1 h2 (by show 1 ≤ 2; decide) rfl
 refine ⟨⟨[some (.str x), some (.ref 0), none], [peer host, .tup [.str host, .int p]]⟩, ?_, rfl⟩
 simp [fb, dj, ew, dH, lQ, dh, zB, aB, aW, bp, ai, aa, ji, bU, aC, aj, e]
theorem eR {x host : PySem.Str} {c : Nat} {τ : St} (hc : c = 44 ∨ c = 56) (h : iy [.str x, .ref 0] [peer host] = .exc (.top c) [.str x] τ) (h1 : τ.heap.take 1 = [peer host]) :
  ∃ τ', fb [.str x, .ref 0] [peer host] = .ok (.ref 3) τ' ∧ τ'.heap = [peer host, .tup [.str x], .exc (.top c) 1, .tup [.str (Str.ofString (if c = 44 then "other code" else "no port")), .str x]] := by
 have e := ry (vs := [.str x, .ref 0]) (vs0 := [.str x, .ref 0]) (H0 := [peer host]) (σ := ⟨[some (.str x), some (.ref 0), none], [peer host]⟩) rfl rfl h h1 rfl rfl
 refine ⟨⟨[some (.str x), some (.ref 0), none], [peer host, .tup [.str x], .exc (.top c) 1, .tup [.str (Str.ofString (if c = 44 then "other code" else "no port")), .str x]]⟩, ?_, rfl⟩
 have hb : (V.top 56 == V.top 44) = false := by decide
 rcases hc with rfl | rfl <;>
 simp [hb, fb, dj, ew, dH, lQ, dh, zB, aB, aW, bp, ai, aa, ji, bU, aC, aj, e, gk, asH, hV, yP, sizeLine, zV.calm, List.lookup]
noncomputable def oW (x : PySem.Str) : List V := x.cps.toList.map fun c => .int (Int.ofNat c)
noncomputable def yu (x : PySem.Str) : List V := x.cps.toList.map fun c => .str ⟨#[c]⟩
noncomputable def oi (x : PySem.Str) : PySem.Str := match qV [.bytes (byteArr (x.cps.toList.map fun c => Int.ofNat c))] [] with
 | .ok (.bytes b) _ => ⟨(b.toList.map (·.toNat)).toArray⟩
 | _ => ⟨#[]⟩
noncomputable def i8 (x : PySem.Str) : PySem.Str := Str.ofString "\"" ++ Txt.replace x "\"" "\"\""
noncomputable abbrev A2 : St → zV F := an
     (a7 bH tI (aa (V.str ""))
      (aj
       (bI 13
        (aC
         (aj
          (aC (aj (bI 13 (ai 5) (aa true) (aC (aj (ai 13) (aa [])) xW)) (aa []))
           iJ)
          (aa []))
         (bR qV))
        (aa true) (aC (aj (ai 13) (aa [])) y9))
       (aa [])))
     (ao 7)
noncomputable abbrev A3 : St → zV F := an (nI 5 "\"" "\"" "\"\"") (ao 8)
noncomputable abbrev ev (par : V) (code kind : Int) (name : PySem.Str) (port : Int) : O := .tup [par, .int code, .int kind, .str name, .int port]
theorem add_str {x y : PySem.Str} (hx : x.length ≤ 10000) (hy : y.length ≤ 10000) (σ : St) : zr .Add (.str x) (.str y) σ = .ok (.str (x ++ y)) σ := by
 show (if x.length + y.length ≤ sizeLine then _ else _) = _
 rw [if_pos (by show x.length + y.length ≤ 16777216; lia)]
theorem pick_run {ms : St → zV (List V)} {mi : St → zV V} {σ ae : St} {vs : List V} {j : Nat} {v : V} (h : ms σ = .ok vs ae) (hl : vs.length ≤ 1000) (hi : mi ⟨ae.loc, ae.heap ++ [.list vs]⟩ = .ok (.int j) ⟨ae.loc, ae.heap ++ [.list vs]⟩) (hj : j < 1000) (hv : vs[j]? = some v) :
  bp br (bu ms) mi σ = .ok v ⟨ae.loc, ae.heap ++ [.list vs]⟩ := by
 unfold bp bu
 rw [h, zV.bind_ok, if_pos (by show vs.length ≤ 16777216; lia), zV.bind_ok, hi, zV.bind_ok]
 exact item_at (xs := vs) (by simp) hj hv
theorem aG {a b : St → zV F} {σ ae : St} (h : a σ = .ok .next ae) : aM a b σ = b ae := by
 unfold aM; rw [h]; rfl
theorem bx {m : St → zV V} {i : Nat} {v : V} {σ ae : St} (h : m σ = .ok v ae) : an m (ao i) σ = .ok .next ⟨ae.loc.set i (some v), ae.heap⟩ := by
 unfold an ao; rw [h]; rfl
noncomputable abbrev A4m : St → zV (List V) := (aj (aR Operator.Add (aR Operator.Add (aR Operator.Add (aa (V.str "257 ")) (ai 8)) (aa (V.str "\" made "))) (ai 7)) (aj (aR Operator.Add (aa (V.str "257 ")) (ai 8)) (aj (aR Operator.Add (aR Operator.Add (aa (V.str "257 (")) (ai 5)) (aa (V.str "\""))) (aj (aR Operator.Add (aR Operator.Add (aa (V.str "250 ")) (ai 8)) (aa (V.str "\""))) (aa [])))))
noncomputable def be (x : PySem.Str) : Nat → PySem.Str
 | 0 => ((Str.ofString "257 " ++ i8 x) ++ Str.ofString "\" made ") ++ oi x
 | 1 => Str.ofString "257 " ++ i8 x
 | 2 => (Str.ofString "257 (" ++ x) ++ Str.ofString "\""
 | _ => (Str.ofString "250 " ++ i8 x) ++ Str.ofString "\""
theorem mD : (Str.ofString "257 ").length = 4 := by decide +kernel
theorem nQ : (Str.ofString "\" made ").length = 7 := by decide +kernel
theorem nT : (Str.ofString "257 (").length = 5 := by decide +kernel
theorem qZ : (Str.ofString "250 ").length = 4 := by decide +kernel
theorem tH : (Str.ofString "\"").length = 1 := by decide +kernel
theorem xy {x : PySem.Str} (h1 : x.length ≤ 50) (h2 : (i8 x).length ≤ 50) (h3 : (oi x).length ≤ 50) {v0 v1 v2 v4 v6 v9 v10 v11 v12 : Option V} {c : Nat} (hc : c < 4) {H : List O} :
  bp br (bu A4m) (ai 3) ⟨[v0, v1, v2, some (.int c), v4, some (.str x), v6, some (.str (oi x)), some (.str (i8 x)), v9, v10, v11, v12], H⟩
   = .ok (.str (be x c)) ⟨[v0, v1, v2, some (.int c), v4, some (.str x), v6, some (.str (oi x)), some (.str (i8 x)), v9, v10, v11, v12], H ++ [.list [.str (be x 0), .str (be x 1), .str (be x 2), .str (be x 3)]]⟩ := by
 refine pick_run (ae := ⟨[v0, v1, v2, some (.int c), v4, some (.str x), v6, some (.str (oi x)), some (.str (i8 x)), v9, v10, v11, v12], H⟩) (j := c) ?_ (by show 4 ≤ 1000; decide) rfl (by lia) ?_
 ·have l1 : (Str.ofString "257 " ++ i8 x).length ≤ 10000 := by rw [PySem.Str.length_append, mD]; lia
  have l2 : ((Str.ofString "257 " ++ i8 x) ++ Str.ofString "\" made ").length ≤ 10000 := by rw [PySem.Str.length_append, PySem.Str.length_append, mD, nQ]; lia
  have l3 : (Str.ofString "257 (" ++ x).length ≤ 10000 := by rw [PySem.Str.length_append, nT]; lia
  have l4 : (Str.ofString "250 " ++ i8 x).length ≤ 10000 := by rw [PySem.Str.length_append, qZ]; lia
  have e1 := add_str (x := Str.ofString "257 ") (y := i8 x) (by rw [mD]; decide) (by lia)
  have e2 := add_str l1 (y := Str.ofString "\" made ") (by rw [nQ]; decide)
  have e3 := add_str l2 (y := oi x) (by lia)
  have e4 := add_str (x := Str.ofString "257 (") (y := x) (by rw [nT]; decide) (by lia)
  have e5 := add_str l3 (y := Str.ofString "\"") (by rw [tH]; decide)
  have e6 := add_str (x := Str.ofString "250 ") (y := i8 x) (by rw [qZ]; decide) (by lia)
  have e7 := add_str l4 (y := Str.ofString "\"") (by rw [tH]; decide)
  simp [aj, aR, bp, aa, ai, e1, e2, e3, e4, e5, e6, e7, be]
 ·rcases c with _ | _ | _ | _ | c <;> first | rfl | lia
structure uO (x : PySem.Str) : Prop where
 a2 : ∀ (par : V) (code kind port k : Int), A2 ⟨[some (.ref 0), some (.int k), some par, some (.int code), some (.int kind), some (.str x), some (.int port), none, none, none, none, none, none], [ev par code kind x port]⟩
  = .ok .next ⟨[some (.ref 0), some (.int k), some par, some (.int code), some (.int kind), some (.str x), some (.int port), some (.str (oi x)), none, none, none, none, none], [ev par code kind x port, .list (oW x), .list (yu (oi x))]⟩
noncomputable def cJ (k : Nat) : Nat := match k % 3 with | 0 => 124 | 1 => 33 | _ => 35
noncomputable abbrev A5 : St → zV V := bp br (aa (V.str "|!#")) (aR Operator.Mod (ai 1) (aa (V.int 3)))
theorem xx {k : Nat} (hk : k < 6) {v0 v2 v3 v4 v5 v6 v7 v8 v9 v10 v11 v12 : Option V} {H : List O} :
  A5 ⟨[v0, some (.int k), v2, v3, v4, v5, v6, v7, v8, v9, v10, v11, v12], H⟩ = .ok (.str ⟨#[cJ k]⟩) ⟨[v0, some (.int k), v2, v3, v4, v5, v6, v7, v8, v9, v10, v11, v12], H⟩ := by
 rcases k with _ | _ | _ | _ | _ | _ | k <;> first | lia | kernel_rfl
noncomputable abbrev A6m : St → zV (List V) := (aj (aR Operator.Add (aR Operator.Add (aR Operator.Mult (ai 10) (aa (V.int 3))) (aC (aj (ai 6) (aa [])) nr)) (ai 10)) (aj (aR Operator.Add (aR Operator.Add (aR Operator.Mult (ai 10) (aa (V.int 3))) (aC (aj (ai 6) (aa [])) nr)) (aa (V.str "-"))) (aj (aR Operator.Add (aR Operator.Add (aR Operator.Mult (ai 10) (aa (V.int 2))) (aC (aj (ai 6) (aa [])) nr)) (ai 10)) (aa []))))
noncomputable abbrev A6i : St → zV V := (aR Operator.Mod (aC (aj (aR Operator.Sub (ai 4) (aa (V.int 2))) (aj (aa (V.int 0)) (aa []))) tz) (aa (V.int 3)))
noncomputable def vX (d : Nat) : Nat := (d - 2) % 3
noncomputable def oZ (c : Nat) (P : PySem.Str) : Nat → PySem.Str
 | 0 => (⟨#[c, c, c]⟩ ++ P) ++ ⟨#[c]⟩
 | 1 => (⟨#[c, c, c]⟩ ++ P) ++ Str.ofString "-"
 | _ => (⟨#[c, c]⟩ ++ P) ++ ⟨#[c]⟩
theorem qT {c : Nat} (hc : c = 124 ∨ c = 33 ∨ c = 35) (σ : St) : zr .Mult (.str ⟨#[c]⟩) (.int 3) σ = .ok (.str ⟨#[c, c, c]⟩) σ := by
 rcases hc with rfl | rfl | rfl <;> kernel_rfl
theorem vW {c : Nat} (hc : c = 124 ∨ c = 33 ∨ c = 35) (σ : St) : zr .Mult (.str ⟨#[c]⟩) (.int 2) σ = .ok (.str ⟨#[c, c]⟩) σ := by
 rcases hc with rfl | rfl | rfl <;> kernel_rfl
theorem nR : (Str.ofString "-").length = 1 := by decide +kernel
theorem xw {c : Nat} (hc : c = 124 ∨ c = 33 ∨ c = 35) {p : Int} (hp1 : 1024 ≤ p) (hp2 : p < 61024) {P : PySem.Str} (hP : PySem.Str.ofString (toString p) = P) (hl : P.length ≤ 10) {d : Nat} (hd : d < 6) {v0 v1 v2 v3 v5 v7 v8 v9 v11 v12 : Option V} {H : List O} :
  bp br (bu A6m) A6i ⟨[v0, v1, v2, v3, some (.int d), v5, some (.int p), v7, v8, v9, some (.str ⟨#[c]⟩), v11, v12], H⟩
   = .ok (.str (oZ c P (vX d))) ⟨[v0, v1, v2, v3, some (.int d), v5, some (.int p), v7, v8, v9, some (.str ⟨#[c]⟩), v11, v12], H ++ [.list [.str (oZ c P 0), .str (oZ c P 1), .str (oZ c P 2)]]⟩ := by
 refine pick_run (ae := ⟨[v0, v1, v2, v3, some (.int d), v5, some (.int p), v7, v8, v9, some (.str ⟨#[c]⟩), v11, v12], H⟩) (j := vX d) ?_ (by show 3 ≤ 1000; decide) ?_ (by unfold vX; lia) ?_
 ·have l3 : (⟨#[c, c, c]⟩ ++ P : PySem.Str).length ≤ 10000 := by rw [PySem.Str.length_append]; show 3 + P.length ≤ _; lia
  have l2 : (⟨#[c, c]⟩ ++ P : PySem.Str).length ≤ 10000 := by rw [PySem.Str.length_append]; show 2 + P.length ≤ _; lia
  have e1 := add_str (x := ⟨#[c, c, c]⟩) (y := P) (by show 3 ≤ 10000; decide) (by lia)
  have e2 := add_str (x := ⟨#[c, c]⟩) (y := P) (by show 2 ≤ 10000; decide) (by lia)
  have e3 := add_str l3 (y := ⟨#[c]⟩) (by show 1 ≤ 10000; decide)
  have e4 := add_str l3 (y := Str.ofString "-") (by rw [nR]; decide)
  have e5 := add_str l2 (y := ⟨#[c]⟩) (by show 1 ≤ 10000; decide)
  have e6 := pX hp1 hp2
  rw [hP] at e6
  simp [aj, aR, bp, aa, ai, aC, qT hc, vW hc, e1, e2, e3, e4, e5, e6, oZ]
 ·rcases d with _ | _ | _ | _ | _ | _ | d <;> first | lia | kernel_rfl
 ·rcases d with _ | _ | _ | _ | _ | _ | d <;> first | rfl | lia
noncomputable abbrev A7m : St → zV (List V) := (aj (aa (V.str "229 at (")) (aj (aa (V.str "229 at ")) (aj (aa (V.str "229 at (")) (aj (aa (V.str "229 at (")) (aj (aa (V.str "229 at (")) (aj (aa (V.str "230 at (")) (aa [])))))))
noncomputable def gj : Nat → PySem.Str
 | 1 => Str.ofString "229 at "
 | 5 => Str.ofString "230 at ("
 | _ => Str.ofString "229 at ("
noncomputable def uQ (d : Nat) : PySem.Str := if d = 2 then Str.ofString "" else Str.ofString ")"
noncomputable abbrev xU : O := .list [.str (gj 0), .str (gj 1), .str (gj 2), .str (gj 3), .str (gj 4), .str (gj 5)]
theorem xv {d : Nat} (hd : d < 6) {y : PySem.Str} (hy : y.length ≤ 100) {v0 v1 v2 v3 v5 v6 v7 v8 v9 v10 v12 : Option V} {H : List O} :
  aR Operator.Add (bp br (bu A7m) (ai 4)) (ai 11) ⟨[v0, v1, v2, v3, some (.int d), v5, v6, v7, v8, v9, v10, some (.str y), v12], H⟩
   = .ok (.str (gj d ++ y)) ⟨[v0, v1, v2, v3, some (.int d), v5, v6, v7, v8, v9, v10, some (.str y), v12], H ++ [xU]⟩ := by
 have e := pick_run (ms := A7m) (mi := ai 4) (σ := ⟨[v0, v1, v2, v3, some (.int d), v5, v6, v7, v8, v9, v10, some (.str y), v12], H⟩) (ae := ⟨[v0, v1, v2, v3, some (.int d), v5, v6, v7, v8, v9, v10, some (.str y), v12], H⟩) (j := d) (v := .str (gj d)) rfl (by show 6 ≤ 1000; decide) rfl (by lia) (by rcases d with _ | _ | _ | _ | _ | _ | d <;> first | rfl | lia)
 have lp : (gj d).length ≤ 10000 := by rcases d with _ | _ | _ | _ | _ | _ | d <;> first | decide +kernel | lia
 show (bp br (bu A7m) (ai 4) _).bind _ = _
 rw [e, zV.bind_ok]
 show zr .Add (.str (gj d)) (.str y) _ = _
 rw [add_str lp (by lia)]
 rfl
noncomputable abbrev A8 : St → zV V := (hV (aj (ai 9) (aj (aR Operator.Add (ai 12) (zB (aB (aW CmpOp.Eq (ai 4) (aa (V.int 2)))) (aa (V.str "")) (aa (V.str ")")))) (aa []))))
theorem xu {d : Nat} (hd : d < 6) {y z : PySem.Str} (hy : y.length ≤ 100) {v0 v1 v2 v3 v5 v6 v7 v8 v10 v11 : Option V} {H : List O} :
  A8 ⟨[v0, v1, v2, v3, some (.int d), v5, v6, v7, v8, some (.str z), v10, v11, some (.str y)], H⟩
   = .ok (.ref H.length) ⟨[v0, v1, v2, v3, some (.int d), v5, v6, v7, v8, some (.str z), v10, v11, some (.str y)], H ++ [.tup [.str z, .str (y ++ uQ d)]]⟩ := by
 have e1 := add_str (x := y) (y := Str.ofString "") (by lia) (by decide +kernel)
 have e2 := add_str (x := y) (y := Str.ofString ")") (by lia) (by decide +kernel)
 rcases d with _ | _ | _ | _ | _ | _ | d <;> first | (simp [A8, hV, aj, aR, bp, ai, aa, zB, aB, aW, j3, eqB, isB, isnB, inB, neB, zA, bU, e1, e2, uQ, sizeLine]; done) | lia
structure wP (x : PySem.Str) : Prop where
 n : uO x
 a3 : ∀ (v0 v1 v2 v3 v4 v6 v7 v8 v9 v10 v11 v12 : Option V) (H : List O), A3 ⟨[v0, v1, v2, v3, v4, some (.str x), v6, v7, v8, v9, v10, v11, v12], H⟩ = .ok .next ⟨[v0, v1, v2, v3, v4, some (.str x), v6, v7, some (.str (i8 x)), v9, v10, v11, v12], H⟩
 l1 : x.length ≤ 50
 l2 : (i8 x).length ≤ 50
 l3 : (oi x).length ≤ 50
noncomputable def cX (c : Nat) (P : PySem.Str) (d : Nat) : PySem.Str := (gj d ++ oZ c P (vX d)) ++ uQ d
theorem gX (k : Nat) : cJ k = 124 ∨ cJ k = 33 ∨ cJ k = 35 := by
 unfold cJ; split <;> simp
theorem du {n : Nat} {bnd : List V → List O → Option (List V × List O)} {body : St → zV F} {vs ps : List V} {H b8 : List O} {L : List (Option V)} {v : V} {τ : St} (hb : bnd vs H = some (ps, b8)) (hL : dH n ps = L) (h : body ⟨L, b8⟩ = .ok (.ret v) τ) : dj n bnd body vs H = .ok v τ := by
 unfold dj; rw [hb]; subst hL; simp only [h]
theorem eK {m : St → zV V} {v : V} {σ ae : St} (h : m σ = .ok v ae) : dh m σ = .ok (.ret v) ae := by
 unfold dh; rw [h]; rfl
theorem xC {x : PySem.Str} (N : wP x) {par : V} {c d k : Nat} (hc : c < 4) (hd : d < 6) (hk : k < 6) {p : Int} (hp1 : 1024 ≤ p) (hp2 : p < 61024) {P : PySem.Str} (hP : PySem.Str.ofString (toString p) = P) (hl : P.length ≤ 10) :
  ∃ τ, mq [.ref 0, .int k] [ev par c d x p] = .ok (.ref 6) τ ∧ τ.heap.take 1 = [ev par c d x p] ∧ τ.heap[6]? = some (.tup [.str (be x c), .str (cX (cJ k) P d)]) := by
 have lm : ∀ j, (oZ (cJ k) P j).length ≤ 50 := fun j => by
  unfold oZ
  split <;> (simp only [PySem.Str.length_append, nR]; first | (show 3 + P.length + 1 ≤ 50; lia) | (show 2 + P.length + 1 ≤ 50; lia))
 have lp : (gj d).length ≤ 20 := by rcases d with _ | _ | _ | _ | _ | _ | d <;> first | lia | decide +kernel
 refine ⟨⟨[some (.ref 0), some (.int k), some par, some (.int c), some (.int d), some (.str x), some (.int p), some (.str (oi x)), some (.str (i8 x)), some (.str (be x c)), some (.str ⟨#[cJ k]⟩), some (.str (oZ (cJ k) P (vX d))), some (.str (gj d ++ oZ (cJ k) P (vX d)))],
  [ev par c d x p, .list (oW x), .list (yu (oi x)), .list [.str (be x 0), .str (be x 1), .str (be x 2), .str (be x 3)], .list [.str (oZ (cJ k) P 0), .str (oZ (cJ k) P 1), .str (oZ (cJ k) P 2)], xU, .tup [.str (be x c), .str (cX (cJ k) P d)]]⟩, ?_, rfl, rfl⟩
 unfold mq
 refine du (b8 := [ev par c d x p]) (L := [some (.ref 0), some (.int k), none, none, none, none, none, none, none, none, none, none, none]) rfl rfl ?_
 rw [aG (a := an (ai 0) (pJ [ao 2, ao 3, ao 4, ao 5, ao 6])) (ae := ⟨[some (.ref 0), some (.int k), some par, some (.int c), some (.int d), some (.str x), some (.int p), none, none, none, none, none, none], [ev par c d x p]⟩) rfl]
 rw [aG (N.n.a2 par c d p k), aG (N.a3 ..), aG (bx (xy N.l1 N.l2 N.l3 hc))]
 simp only [List.set_cons_succ, List.set_cons_zero, List.cons_append, List.nil_append]
 rw [aG (bx (xx hk))]
 simp only [List.set_cons_succ, List.set_cons_zero, List.cons_append, List.nil_append]
 rw [aG (bx (xw (gX k) hp1 hp2 hP hl hd))]
 simp only [List.set_cons_succ, List.set_cons_zero, List.cons_append, List.nil_append]
 rw [aG (bx (xv hd (Nat.le_trans (lm _) (by decide))))]
 simp only [List.set_cons_succ, List.set_cons_zero, List.cons_append, List.nil_append]
 rw [eK (xu hd (by rw [PySem.Str.length_append]; have := lm (vX d); lia))]
 rfl
noncomputable def pc : Nat → PySem.Str
 | 0 => Str.ofString "a"
 | 1 => Str.ofString "\""
 | 2 => Str.ofString " b"
 | 3 => Str.ofString "\"\""
 | 4 => Str.ofString "ä"
 | _ => Str.ofString "/"
theorem zn {P : Nat → Prop} (h0 : P 0) (h1 : P 1) (h2 : P 2) (h3 : P 3) (h4 : P 4) (h5 : P 5) : ∀ i, i < 6 → P i := by
 intro i h
 rcases i with _ | _ | _ | _ | _ | _ | i <;> first | assumption | lia
theorem vV : ∀ i, i < 6 → ∀ j, j < 6 → uO (pc i ++ pc j) := by
 apply zn <;> apply zn <;> exact ⟨fun par code kind port k => by kernel_rfl⟩
theorem x2 : ∀ i, i < 6 → ∀ j, j < 6 → (decide ((pc i ++ pc j).length ≤ 50) && decide ((i8 (pc i ++ pc j)).length ≤ 50) && decide ((oi (pc i ++ pc j)).length ≤ 50)) = true := by
 apply zn <;> apply zn <;> decide +kernel
theorem vU {x : PySem.Str} (h1 : x.length ≤ 50) (h2 : (i8 x).length ≤ 50) (v0 v1 v2 v3 v4 v6 v7 v8 v9 v10 v11 v12 : Option V) (H : List O) : A3 ⟨[v0, v1, v2, v3, v4, some (.str x), v6, v7, v8, v9, v10, v11, v12], H⟩ = .ok .next ⟨[v0, v1, v2, v3, v4, some (.str x), v6, v7, some (.str (i8 x)), v9, v10, v11, v12], H⟩ := by
 refine bx (i := 8) (v := .str (i8 x)) (ae := ⟨[v0, v1, v2, v3, v4, some (.str x), v6, v7, v8, v9, v10, v11, v12], H⟩) ?_
 have h3 : (Txt.replace x "\"" "\"\"").length ≤ 50 := by
  unfold i8 at h2; rw [PySem.Str.length_append] at h2; lia
 have lq2 : (Str.ofString "\"\"").length = 2 := by decide +kernel
 have ne : (Str.ofString "\"" == Str.ofString "\"\"") = false := by decide +kernel
 show (if x.length ≤ 1000 ∧ (Str.ofString "\"").length ≤ 1000 ∧ (Str.ofString "\"\"").length ≤ 1000 ∧ ((Str.ofString "\"").length + (Txt.replace x "\"" "\"\"").length ≤ sizeLine) ∧ (Str.ofString "\"" == Str.ofString "\"\"") = false then _ else _) = _
 rw [if_pos ⟨by lia, by rw [tH]; decide, by rw [lq2]; decide, by rw [tH]; show _ ≤ 16777216; lia, ne⟩]
 rfl
theorem xZ {i j : Nat} (hi : i < 6) (hj : j < 6) : wP (pc i ++ pc j) := by
 have h := x2 i hi j hj
 simp only [Bool.and_eq_true, decide_eq_true_eq] at h
 exact ⟨vV i hi j hj, fun v0 v1 v2 v3 v4 v6 v7 v8 v9 v10 v11 v12 H => vU h.1.1 h.1.2 .., h.1.1, h.1.2, h.2⟩
noncomputable def fS (x : PySem.Str) (c : Nat) : Bool := match fb [.str (be x c), .none] [] with
 | .ok v τ => (match c with
  | 0 => decide (v = .str x)
  | 1 => decide (v = .str x)
  | 2 => decide (v = .str "")
  | _ => match v with
   | .ref r => decide (τ.heap[r]? = some (.tup [.str "other code", .str (be x 3)]))
   | _ => false)
 | _ => false
theorem tv : ∀ i, i < 6 → ∀ j, j < 6 → (fS (pc i ++ pc j) 0 && fS (pc i ++ pc j) 1 && fS (pc i ++ pc j) 2 && fS (pc i ++ pc j) 3) = true := by
 apply zn <;> apply zn <;> decide +kernel
noncomputable abbrev B3 : St → zV F := an (bI 11 (ai 5) (aa true) (aC (aj (ai 11) (aa [])) xW)) (ao 9)
noncomputable abbrev B4 : St → zV F := zB (gz (aB (aW CmpOp.Eq (ai 3) (aa (V.int 0)))) (gz (aB (aW CmpOp.NotEq (bu (aj (bp br (a7 bH hZ (ai 7) (aj (aa (V.str " ")) (aa []))) fun σ => (aa (V.int 1) σ).bind tq) (aj (aC (aj (aC (aj (bp br (a7 bH hZ (ai 7) (aj (aa (V.str " ")) (aa []))) fun σ => (aa (V.int 1) σ).bind tq) (aa [])) (bR tB)) (aa [])) qX) (aa [])))) (bu (aj (aC (aj (ai 9) (aa [])) (bR tA)) (aj (ai 9) (aa [])))))) (aa true))) (dh (aa (V.bool false))) (aa F.next)
theorem vT : ∀ i, i < 6 → ∀ j, j < 6 → ∀ (v0 v1 v2 v3 v4 v6 v7 v8 v9 v10 : Option V) (o1 o2 : O),
  B3 ⟨[v0, v1, v2, v3, v4, some (.str (pc i ++ pc j)), v6, v7, v8, v9, v10], [o1, o2]⟩ = .ok .next ⟨[v0, v1, v2, v3, v4, some (.str (pc i ++ pc j)), v6, v7, v8, some (.ref 2), v10], [o1, o2, .list (oW (pc i ++ pc j))]⟩ := by
 apply zn <;> apply zn <;> exact fun v0 v1 v2 v3 v4 v6 v7 v8 v9 v10 o1 o2 => by kernel_rfl
noncomputable def uo (x : PySem.Str) : O := .list ((Txt.split (be x 0) " ").map .str)
noncomputable def ye (x : PySem.Str) : List O := [uo x, uo x, .list (oW x), .list [.str (oi x), .ref 5], .list [.str (oi x), .ref 2]]
theorem xp {c : Nat} (hc : 0 < c) {v0 v1 v2 v4 v5 v6 v7 v8 v9 v10 : Option V} {H : List O} : B4 ⟨[v0, v1, v2, some (.int c), v4, v5, v6, v7, v8, v9, v10], H⟩ = .ok .next ⟨[v0, v1, v2, some (.int c), v4, v5, v6, v7, v8, v9, v10], H⟩ := by
 have : ((c : Int) == 0) = false := by simp; lia
 have h2 : ¬ (c : Int) = 0 := by lia
 have h3 : ¬ c = 0 := by lia
 simp [B4, zB, aB, aW, bp, ai, aa, j3, eqB, dataOf, zE, bU, h2, h3]
theorem vS : ∀ i, i < 6 → ∀ j, j < 6 → ∀ (par : V) (d p k : Int) (X : PySem.Str),
  B4 ⟨[some (.ref 0), some (.int k), some par, some (.int 0), some (.int d), some (.str (pc i ++ pc j)), some (.int p), some (.str (be (pc i ++ pc j) 0)), some (.str X), some (.ref 2), none], [ev par 0 d (pc i ++ pc j) p, .tup [.str (be (pc i ++ pc j) 0), .str X], .list (oW (pc i ++ pc j))]⟩
  = .ok .next ⟨[some (.ref 0), some (.int k), some par, some (.int 0), some (.int d), some (.str (pc i ++ pc j)), some (.int p), some (.str (be (pc i ++ pc j) 0)), some (.str X), some (.ref 2), none], [ev par 0 d (pc i ++ pc j) p, .tup [.str (be (pc i ++ pc j) 0), .str X], .list (oW (pc i ++ pc j))] ++ ye (pc i ++ pc j)⟩ := by
 apply zn <;> apply zn <;> exact fun par d p k X => by kernel_rfl
noncomputable def bW (k : Nat) : PySem.Str := Str.ofString "10.0.0." ++ Str.ofString (toString (k : Int))
noncomputable abbrev hostM : St → zV V := aR Operator.Add (aa (V.str "10.0.0.")) (aC (aj (ai 1) (aa [])) nr)
theorem nF {k : Nat} (hk : k < 6) {v0 v2 v3 v4 v5 v6 v7 v8 v9 v10 : Option V} {H : List O} :
  hostM ⟨[v0, some (.int k), v2, v3, v4, v5, v6, v7, v8, v9, v10], H⟩ = .ok (.str (bW k)) ⟨[v0, some (.int k), v2, v3, v4, v5, v6, v7, v8, v9, v10], H⟩ := by
 rcases k with _ | _ | _ | _ | _ | _ | k <;> first | lia | kernel_rfl
theorem cP {ms : St → zV (List V)} {σ ae : St} {vs : List V} (h : ms σ = .ok vs ae) (hl : vs.length ≤ 1000) : bu ms σ = .ok (.ref ae.heap.length) { ae with heap := ae.heap ++ [.list vs] } := by
 unfold bu
 rw [h, zV.bind_ok, if_pos (by show vs.length ≤ 16777216; lia)]
theorem j8 {ms : St → zV (List V)} {σ ae : St} {vs : List V} (h : ms σ = .ok vs ae) (hl : vs.length ≤ 1000) : hV ms σ = .ok (.ref ae.heap.length) { ae with heap := ae.heap ++ [.tup vs] } := by
 unfold hV
 rw [h, zV.bind_ok, if_pos (by show vs.length ≤ 16777216; lia)]
theorem aX {m : St → zV V} {ms : St → zV (List V)} {σ ae aq : St} {v : V} {vs : List V} (h : m σ = .ok v ae) (h2 : ms ae = .ok vs aq) : aj m ms σ = .ok (v :: vs) aq := by
 unfold aj
 rw [h, zV.bind_ok, h2]; rfl
noncomputable abbrev T5m : St → zV (List V) := (aj (ai 5) (aj (ai 5) (aj (aa (V.str "")) (aj (hV (aj (aa (V.str "other code")) (aj (ai 7) (aa [])))) (aa [])))))
noncomputable abbrev B5 : St → zV F := an (bu (aj (bp br (bu (aj (ai 5) (aj (ai 5) (aj (aa (V.str "")) (aj (hV (aj (aa (V.str "other code")) (aj (ai 7) (aa [])))) (aa [])))))) (ai 3)) (aj (hV (aj (aR Operator.Add (aa (V.str "10.0.0.")) (aC (aj (ai 1) (aa [])) nr)) (aj (ai 6) (aa [])))) (aa [])))) (ao 10)
noncomputable def ft (x : PySem.Str) (n : Nat) : Nat → V
 | 0 => .str x
 | 1 => .str x
 | 2 => .str ""
 | _ => .ref n
noncomputable def iB (x : PySem.Str) (c k : Nat) (p : Int) (n : Nat) : List O := [.tup [.str "other code", .str (be x c)], .list [.str x, .str x, .str "", .ref n], .tup [.str (bW k), .int p], .list [ft x n c, .ref (n + 2)]]
theorem xo {x : PySem.Str} {c k : Nat} (hc : c < 4) (hk : k < 6) {p : Int} {v0 v2 v4 v8 v9 v10 : Option V} {H : List O} :
  B5 ⟨[v0, some (.int k), v2, some (.int c), v4, some (.str x), some (.int p), some (.str (be x c)), v8, v9, v10], H⟩
   = .ok .next ⟨[v0, some (.int k), v2, some (.int c), v4, some (.str x), some (.int p), some (.str (be x c)), v8, v9, some (.ref (H.length + 3))], H ++ iB x c k p H.length⟩ := by
 have e1 := pick_run (ms := T5m) (mi := ai 3) (σ := ⟨[v0, some (.int k), v2, some (.int c), v4, some (.str x), some (.int p), some (.str (be x c)), v8, v9, v10], H⟩)
  (ae := ⟨[v0, some (.int k), v2, some (.int c), v4, some (.str x), some (.int p), some (.str (be x c)), v8, v9, v10], H ++ [.tup [.str "other code", .str (be x c)]]⟩)
  (vs := [.str x, .str x, .str "", .ref H.length]) (j := c) (v := ft x H.length c) rfl (by show 4 ≤ 1000; decide) rfl (by lia) (by rcases c with _ | _ | _ | _ | c <;> first | lia | rfl)
 have e2 := nF hk (v0 := v0) (v2 := v2) (v3 := some (.int c)) (v4 := v4) (v5 := some (.str x)) (v6 := some (.int p)) (v7 := some (.str (be x c))) (v8 := v8) (v9 := v9) (v10 := v10) (H := (H ++ [.tup [.str "other code", .str (be x c)]]) ++ [.list [.str x, .str x, .str "", .ref H.length]])
 have e3 := j8 (aX e2 (aX (m := ai 6) rfl (ms := aa []) rfl)) (by show 2 ≤ 1000; decide)
 have e4 := cP (aX e1 (aX e3 (ms := aa []) rfl)) (by show 2 ≤ 1000; decide)
 simp only [List.append_assoc, List.length_append, List.length_cons, List.length_nil, List.cons_append, List.nil_append, Nat.zero_add, Nat.reduceAdd] at e4
 have e5 := bx (i := 10) e4
 simp only [List.set_cons_succ, List.set_cons_zero] at e5
 exact e5
noncomputable def rT (d : Nat) : PySem.Str := if d = 5 then Str.ofString "other code" else Str.ofString "no port"
noncomputable abbrev E6 : St → zV V := (hV (aj (zB (aB (aW CmpOp.Eq (ai 4) (aa (V.int 5)))) (aa (V.str "other code")) (aa (V.str "no port"))) (aj (ai 8) (aa []))))
noncomputable abbrev B6 : St → zV F := zB (aB (aW CmpOp.Gt (ai 4) (aa (V.int 0)))) (an E6 (pS (ai 10) (aa (V.int 1)))) (aa F.next)
theorem gt_int (a b : Int) (σ : St) : j3 .Gt (.int a) (.int b) σ = .ok (.bool (decide (b < a))) σ := rfl
theorem eq_int (a b : Int) (σ : St) : j3 .Eq (.int a) (.int b) σ = .ok (.bool (a == b)) σ := rfl
theorem sO {v0 v1 v2 v3 v5 v6 v7 v8 v9 v10 : Option V} {H : List O} : B6 ⟨[v0, v1, v2, v3, some (.int (0 : Nat)), v5, v6, v7, v8, v9, v10], H⟩ = .ok .next ⟨[v0, v1, v2, v3, some (.int (0 : Nat)), v5, v6, v7, v8, v9, v10], H⟩ := rfl
theorem xg {l k : Nat} {xs : List V} {v : V} {σ : St} (h : σ.heap[l]? = some (.list xs)) (hk : k < xs.length) (hk2 : k < 1000) : wW (.ref l) (.int (k : Int)) v σ = .ok () { σ with heap := σ.heap.set l (.list (xs.set k v)) } := by
 rw [qw h, if_pos (by lia), show ((k : Int).toNat) = k by lia]
theorem xj {d : Nat} {X : PySem.Str} {v0 v1 v2 v3 v5 v6 v7 v9 v10 : Option V} {H : List O} :
  E6 ⟨[v0, v1, v2, v3, some (.int d), v5, v6, v7, some (.str X), v9, v10], H⟩ = .ok (.ref H.length) ⟨[v0, v1, v2, v3, some (.int d), v5, v6, v7, some (.str X), v9, v10], H ++ [.tup [.str (rT d), .str X]]⟩ := by
 have e : (zB (aB (aW CmpOp.Eq (ai 4) (aa (V.int 5)))) (aa (V.str "other code")) (aa (V.str "no port"))) ⟨[v0, v1, v2, v3, some (.int d), v5, v6, v7, some (.str X), v9, v10], H⟩ = .ok (.str (rT d)) ⟨[v0, v1, v2, v3, some (.int d), v5, v6, v7, some (.str X), v9, v10], H⟩ := by
  by_cases h : d = 5
  ·subst h; rfl
  ·have h2 : ¬ (d : Int) = 5 := by lia
   simp [zB, aB, aW, bp, ai, aa, eq_int, bU, h2, rT, h]
 exact j8 (aX e (aX (m := ai 8) rfl (ms := aa []) rfl)) (by show 2 ≤ 1000; decide)
noncomputable def tN (x X : PySem.Str) (c d k : Nat) (p : Int) (n : Nat) : List O := [.tup [.str "other code", .str (be x c)], .list [.str x, .str x, .str "", .ref n], .tup [.str (bW k), .int p], .list [ft x n c, .ref (n + 4)], .tup [.str (rT d), .str X]]
theorem xn {x X : PySem.Str} {c d k : Nat} (hd : 0 < d) {p : Int} {v0 v1 v2 v3 v5 v6 v7 v9 : Option V} {H : List O} :
  B6 ⟨[v0, v1, v2, v3, some (.int d), v5, v6, v7, some (.str X), v9, some (.ref (H.length + 3))], H ++ iB x c k p H.length⟩
   = .ok .next ⟨[v0, v1, v2, v3, some (.int d), v5, v6, v7, some (.str X), v9, some (.ref (H.length + 3))], H ++ tN x X c d k p H.length⟩ := by
 have hg : decide ((0 : Int) < (d : Int)) = true := by simp; lia
 have e6 := xj (d := d) (X := X) (v0 := v0) (v1 := v1) (v2 := v2) (v3 := v3) (v5 := v5) (v6 := v6) (v7 := v7) (v9 := v9) (v10 := some (.ref (H.length + 3))) (H := H ++ iB x c k p H.length)
 have es := xg (l := H.length + 3) (k := 1) (xs := [ft x H.length c, .ref (H.length + 2)]) (v := .ref (H ++ iB x c k p H.length).length) (σ := ⟨[v0, v1, v2, v3, some (.int d), v5, v6, v7, some (.str X), v9, some (.ref (H.length + 3))], (H ++ iB x c k p H.length) ++ [.tup [.str (rT d), .str X]]⟩) (by simp [iB]) (by simp) (by lia)
 have e : (an E6 (pS (ai 10) (aa (V.int 1)))) ⟨[v0, v1, v2, v3, some (.int d), v5, v6, v7, some (.str X), v9, some (.ref (H.length + 3))], H ++ iB x c k p H.length⟩ = .ok .next ⟨[v0, v1, v2, v3, some (.int d), v5, v6, v7, some (.str X), v9, some (.ref (H.length + 3))], H ++ tN x X c d k p H.length⟩ := by
  unfold an
  rw [e6, zV.bind_ok]
  show ((wW (.ref (H.length + 3)) (.int ((1 : Nat) : Int)) _ _).bind _) = _
  rw [es, zV.bind_ok]
  simp [iB, tN, List.set_append]
 show ((aB (aW CmpOp.Gt (ai 4) (aa (V.int 0))) _).bind _) = _
 have et : aB (aW CmpOp.Gt (ai 4) (aa (V.int 0))) ⟨[v0, v1, v2, v3, some (.int d), v5, v6, v7, some (.str X), v9, some (.ref (H.length + 3))], H ++ iB x c k p H.length⟩ = .ok true ⟨[v0, v1, v2, v3, some (.int d), v5, v6, v7, some (.str X), v9, some (.ref (H.length + 3))], H ++ iB x c k p H.length⟩ := by
  simp [aB, aW, bp, ai, aa, gt_int, bU, hg]
  lia
 rw [et, zV.bind_ok]
 exact e
theorem qO {c : Nat} (hc : c = 124 ∨ c = 33 ∨ c = 35) {ds : List Nat} (hl : ds.length = 4 ∨ ds.length = 5) :
  cX c ⟨ds.toArray⟩ 0 = ⟨([50, 50, 57, 32, 97, 116, 32, 40, c, c, c] ++ ds ++ [c, 41]).toArray⟩ ∧
  cX c ⟨ds.toArray⟩ 1 = ⟨([50, 50, 57, 32, 97, 116, 32, c, c, c] ++ ds ++ [c, 41]).toArray⟩ ∧
  cX c ⟨ds.toArray⟩ 2 = ⟨([50, 50, 57, 32, 97, 116, 32, 40, c, c, c] ++ ds ++ [c]).toArray⟩ ∧
  cX c ⟨ds.toArray⟩ 3 = ⟨([50, 50, 57, 32, 97, 116, 32, 40, c, c, c] ++ ds ++ [45, 41]).toArray⟩ ∧
  cX c ⟨ds.toArray⟩ 4 = ⟨([50, 50, 57, 32, 97, 116, 32, 40, c, c] ++ ds ++ [c, 41]).toArray⟩ ∧
  cX c ⟨ds.toArray⟩ 5 = ⟨([50, 51, 48, 32, 97, 116, 32, 40, c, c, c] ++ ds ++ [c, 41]).toArray⟩ := by
 rcases hl with hl | hl
 ·obtain ⟨a1, a2, a3, a4, rfl⟩ := eN hl
  rcases hc with rfl | rfl | rfl <;> exact ⟨by kernel_rfl, by kernel_rfl, by kernel_rfl, by kernel_rfl, by kernel_rfl, by kernel_rfl⟩
 ·obtain ⟨a1, a2, a3, a4, a5, rfl⟩ := fA hl
  rcases hc with rfl | rfl | rfl <;> exact ⟨by kernel_rfl, by kernel_rfl, by kernel_rfl, by kernel_rfl, by kernel_rfl, by kernel_rfl⟩
noncomputable def lH (d : Nat) (host X : PySem.Str) (p : Int) : O := if d = 0 then .tup [.str host, .int p] else .tup [.str (rT d), .str X]
theorem pA {c : Nat} (hc : c = 124 ∨ c = 33 ∨ c = 35) {ds : List Nat} (hd : ∀ e ∈ ds, 48 ≤ e ∧ e ≤ 57) (hl : ds.length = 4 ∨ ds.length = 5) {p : Int} (hp : PySem.intText? ⟨ds.toArray⟩ = some p) {host : PySem.Str} {d : Nat} (h6 : d < 6) :
  ∃ τ r, fb [.str (cX c ⟨ds.toArray⟩ d), .ref 0] [peer host] = .ok (.ref r) τ ∧ τ.heap.take 1 = [peer host] ∧ τ.heap[r]? = some (lH d host (cX c ⟨ds.toArray⟩ d) p) ∧ 1 ≤ r := by
 obtain ⟨o0, o1, o2, o3, o4, o5⟩ := qO hc hl
 rcases d with _ | _ | _ | _ | _ | _ | d
 ·rw [o0]
  obtain ⟨τ, h1, h2, h3⟩ := ti (host := host) hc hd hl hp
  obtain ⟨τ', e1, e2⟩ := pC h1 h2 h3
  exact ⟨τ', 1, e1, by rw [e2]; rfl, by rw [e2]; rfl, Nat.le_refl _⟩
 ·rw [o1]
  obtain ⟨τ, h1, h2⟩ := th (host := host) hc hd hl
  obtain ⟨τ', e1, e2⟩ := eR (.inr rfl) h1 h2
  exact ⟨τ', 3, e1, by rw [e2]; rfl, by rw [e2]; rfl, by decide⟩
 ·rw [o2]
  obtain ⟨τ, h1, h2⟩ := tg (host := host) hc hd hl
  obtain ⟨τ', e1, e2⟩ := eR (.inr rfl) h1 h2
  exact ⟨τ', 3, e1, by rw [e2]; rfl, by rw [e2]; rfl, by decide⟩
 ·rw [o3]
  obtain ⟨τ, h1, h2⟩ := tf (host := host) hc hd hl
  obtain ⟨τ', e1, e2⟩ := eR (.inr rfl) h1 h2
  exact ⟨τ', 3, e1, by rw [e2]; rfl, by rw [e2]; rfl, by decide⟩
 ·rw [o4]
  obtain ⟨τ, h1, h2⟩ := te (host := host) hc hd hl
  obtain ⟨τ', e1, e2⟩ := eR (.inr rfl) h1 h2
  exact ⟨τ', 3, e1, by rw [e2]; rfl, by rw [e2]; rfl, by decide⟩
 ·rw [o5]
  obtain ⟨τ, h1, h2⟩ := td (host := host) hc hd hl
  obtain ⟨τ', e1, e2⟩ := eR (.inl rfl) h1 h2
  exact ⟨τ', 3, e1, by rw [e2]; rfl, by rw [e2]; rfl, by decide⟩
 ·lia
noncomputable def d8 (x : PySem.Str) (c : Nat) : List O := if c < 3 then [] else [.tup [.str "other code", .str (be x c)]]
theorem pB {x : PySem.Str} {c : Nat} (hc : c < 4) (h : fS x c = true) {σ : St} (hd : σ.heap.all noDict = true) :
  bR fb [.str (be x c), .none] σ = .ok (ft x σ.heap.length c) { σ with heap := σ.heap ++ d8 x c } := by
 unfold fS at h
 cases q : fb [.str (be x c), .none] [] with
 | bad => rw [q] at h; cases h
 | exc => rw [q] at h; cases h
 | ok v τ =>
  rw [q] at h
  have nil : σ.heap ++ [] = σ.heap := List.append_nil _
  rcases c with _ | _ | _ | _ | c
  ·have hv : v = .str x := by simpa using h
   subst hv
   rw [fT (H0 := []) rfl hd q rfl rfl]
   show _ = zV.ok _ { σ with heap := σ.heap ++ [] }
   rw [nil]; rfl
  ·have hv : v = .str x := by simpa using h
   subst hv
   rw [fT (H0 := []) rfl hd q rfl rfl]
   show _ = zV.ok _ { σ with heap := σ.heap ++ [] }
   rw [nil]; rfl
  ·have hv : v = .str "" := by simpa using h
   subst hv
   rw [fT (H0 := []) rfl hd q rfl rfl]
   show _ = zV.ok _ { σ with heap := σ.heap ++ [] }
   rw [nil]; rfl
  ·dsimp only at h
   cases v with
   | ref r =>
    have hr : τ.heap[r]? = some (.tup [.str "other code", .str (be x 3)]) := by simpa using h
    exact hO (H0 := []) rfl hd q rfl hr (Nat.zero_le _) rfl
   | _ => cases h
  ·lia
theorem iG {n l : Nat} {xs : List V} {ds : List PyData} {H : List O} (h : H[l]? = some (.list xs)) (hm : xs.mapM (dataOf n H) = some ds) : dataOf (n + 1) H (.ref l) = some (.list ds) := by
 rw [n4 h, asL_k, Option.bind_some, hm]; rfl
theorem tW {n l : Nat} {xs : List V} {ds : List PyData} {H : List O} (h : H[l]? = some (.tup xs)) (hm : xs.mapM (dataOf n H) = some ds) : dataOf (n + 1) H (.ref l) = some (.tuple ds) := by
 rw [n4 h, asU_k, Option.bind_some, hm]; rfl
theorem map2 {n : Nat} {a b : V} {da db : PyData} {H : List O} (ha : dataOf n H a = some da) (hb : dataOf n H b = some db) : [a, b].mapM (dataOf n H) = some [da, db] := by
 rw [List.mapM_cons, ha, List.mapM_cons, hb]; rfl
theorem jq {n l : Nat} {a b : V} {da db : PyData} {H : List O} (h : H[l]? = some (.list [a, b])) (ha : dataOf n H a = some da) (hb : dataOf n H b = some db) : dataOf (n + 1) H (.ref l) = some (.list [da, db]) := by
 exact iG h (map2 ha hb)
theorem iF {n l : Nat} {a b : V} {da db : PyData} {H : List O} (h : H[l]? = some (.tup [a, b])) (ha : dataOf n H a = some da) (hb : dataOf n H b = some db) : dataOf (n + 1) H (.ref l) = some (.tuple [da, db]) := by
 exact tW h (map2 ha hb)
theorem eq_data {a b : Nat} {D : PyData} {σ : St} (ha : dataOf 8 σ.heap (.ref a) = some D) (hb : dataOf 8 σ.heap (.ref b) = some D) (hs : SeqAt.shaped D = true) : j3 .Eq (.ref a) (.ref b) σ = .ok (.bool true) σ := by
 show mY σ (zE σ.heap (.ref a) (.ref b)) = _
 unfold zE
 rw [ha, hb]
 simp only [Option.bind_some, hs, Bool.and_self, if_true, SeqAt.eqv_refl D (SeqAt.canLay_of_shaped hs)]
 rfl
noncomputable def zt (x : PySem.Str) : Bool := PyData.strOk x
theorem vR : ∀ i, i < 6 → ∀ j, j < 6 → (zt (pc i ++ pc j) && zt (be (pc i ++ pc j) 0) && zt (be (pc i ++ pc j) 1) && zt (be (pc i ++ pc j) 2) && zt (be (pc i ++ pc j) 3)) = true := by
 apply zn <;> apply zn <;> decide +kernel
theorem rh : ∀ k, k < 6 → zt (bW k) = true := by
 apply zn <;> decide +kernel
theorem uD : ∀ d, d < 6 → zt (rT d) = true := by
 apply zn <;> decide +kernel
theorem mC {l : List Nat} (h : ∀ c ∈ l, c < 0x110000) : zt ⟨l.toArray⟩ = true := by
 unfold zt PyData.strOk
 simp only [List.all_toArray, List.all_eq_true, decide_eq_true_eq]
 exact h
theorem x5 {ds : List Nat} (hd : ∀ e ∈ ds, 48 ≤ e ∧ e ≤ 57) (A B : List Nat) (hA : A.all (fun e => Nat.blt e 0x110000) = true) (hB : B.all (fun e => Nat.blt e 0x110000) = true) : zt ⟨(A ++ ds ++ B).toArray⟩ = true := by
 rw [List.all_eq_true] at hA hB
 refine mC fun e he => ?_
 rw [List.mem_append, List.mem_append] at he
 rcases he with (h | h) | h
 ·exact Nat.le_of_ble_eq_true (hA e h)
 ·exact Nat.lt_of_le_of_lt (hd e h).2 (by decide)
 ·exact Nat.le_of_ble_eq_true (hB e h)
theorem qN {c : Nat} (hc : c = 124 ∨ c = 33 ∨ c = 35) {ds : List Nat} (hd : ∀ e ∈ ds, 48 ≤ e ∧ e ≤ 57) (hl : ds.length = 4 ∨ ds.length = 5) {d : Nat} (h6 : d < 6) : zt (cX c ⟨ds.toArray⟩ d) = true := by
 obtain ⟨o0, o1, o2, o3, o4, o5⟩ := qO hc hl
 have M := x5 hd
 refine zn (P := fun d => zt (cX c ⟨ds.toArray⟩ d) = true) ?_ ?_ ?_ ?_ ?_ ?_ d h6
 ·rw [o0]; rcases hc with rfl | rfl | rfl <;> exact M _ _ rfl rfl
 ·rw [o1]; rcases hc with rfl | rfl | rfl <;> exact M _ _ rfl rfl
 ·rw [o2]; rcases hc with rfl | rfl | rfl <;> exact M _ _ rfl rfl
 ·rw [o3]; rcases hc with rfl | rfl | rfl <;> exact M _ _ rfl rfl
 ·rw [o4]; rcases hc with rfl | rfl | rfl <;> exact M _ _ rfl rfl
 ·rw [o5]; rcases hc with rfl | rfl | rfl <;> exact M _ _ rfl rfl
noncomputable abbrev AM : St → zV V := aC (aj (ai 7) (aj (aa V.none) (aa []))) (bR fb)
noncomputable abbrev AO : St → zV V := (aC (aj (ai 8) (aj (hV (aj (aR Operator.Add (aa (V.str "10.0.0.")) (aC (aj (ai 1) (aa [])) nr)) (aj (aa (V.int 21)) (aa [])))) (aa []))) (bR fb))
theorem bX {ms : St → zV (List V)} {g : List V → St → zV V} {σ ae : St} {vs : List V} (h : ms σ = .ok vs ae) : aC ms g σ = g vs ae := by
 unfold aC; rw [h]; rfl
theorem xt {x : PySem.Str} {c : Nat} (hc : c < 4) (h : fS x c = true) {v0 v1 v2 v3 v4 v5 v6 v8 v9 v10 : Option V} {H : List O} (hd : H.all noDict = true) :
  AM ⟨[v0, v1, v2, v3, v4, v5, v6, some (.str (be x c)), v8, v9, v10], H⟩ = .ok (ft x H.length c) ⟨[v0, v1, v2, v3, v4, v5, v6, some (.str (be x c)), v8, v9, v10], H ++ d8 x c⟩ := by
 refine (bX (ms := aj (ai 7) (aj (aa V.none) (aa []))) (vs := [.str (be x c), .none]) (ae := ⟨[v0, v1, v2, v3, v4, v5, v6, some (.str (be x c)), v8, v9, v10], H⟩) rfl).trans ?_
 exact pB hc h hd
theorem xr {X : PySem.Str} {d k : Nat} (hk : k < 6) {p : Int} {τ : St} {r : Nat} (h1 : fb [.str X, .ref 0] [peer (bW k)] = .ok (.ref r) τ) (h2 : τ.heap.take 1 = [peer (bW k)]) (h3 : τ.heap[r]? = some (lH d (bW k) X p)) (h4 : 1 ≤ r)
  {v0 v2 v3 v4 v5 v6 v7 v9 v10 : Option V} {H : List O} (hd : H.all noDict = true) :
  AO ⟨[v0, some (.int k), v2, v3, v4, v5, v6, v7, some (.str X), v9, v10], H⟩ = .ok (.ref (H.length + 1)) ⟨[v0, some (.int k), v2, v3, v4, v5, v6, v7, some (.str X), v9, v10], H ++ [peer (bW k), lH d (bW k) X p]⟩ := by
 have e2 := nF hk (v0 := v0) (v2 := v2) (v3 := v3) (v4 := v4) (v5 := v5) (v6 := v6) (v7 := v7) (v8 := some (.str X)) (v9 := v9) (v10 := v10) (H := H)
 have e3 := j8 (aX e2 (aX (m := aa (.int 21)) rfl (ms := aa []) rfl)) (by show 2 ≤ 1000; decide)
 have e4 : aj (ai 8) _ ⟨[v0, some (.int k), v2, v3, v4, v5, v6, v7, some (.str X), v9, v10], H⟩ = _ := aX (v := .str X) (m := ai 8) rfl (aX e3 (ms := aa []) rfl)
 refine (bX e4).trans ?_
 have hfl : gv (lH d (bW k) X p) = true := by unfold lH; split <;> rfl
 have hz : zj [.str X, .ref H.length] (H ++ [peer (bW k)]) = some ([.str X, .ref 0], [peer (bW k)]) := by
  have hr : refsOf [V.str X, .ref H.length] = [H.length] := rfl
  have this : (H ++ [peer (bW k)])[H.length]? = some (peer (bW k)) := by simp
  unfold zj
  rw [hr]
  simp only [this]
  rfl
 have hd2 : (H ++ [peer (bW k)]).all noDict = true := by rw [List.all_append, hd]; rfl
 have e5 := hO (σ := ⟨[v0, some (.int k), v2, v3, v4, v5, v6, v7, some (.str X), v9, v10], H ++ [peer (bW k)]⟩) (vs := [.str X, .ref H.length]) (H0 := [peer (bW k)]) hz hd2 h1 h2 h3 h4 hfl
 refine e5.trans ?_
 simp
noncomputable def yq (x : PySem.Str) : Nat → PyData
 | 0 => .str x
 | 1 => .str x
 | 2 => .str ""
 | _ => .tuple [.str "other code", .str (be x 3)]
noncomputable def wZ (d : Nat) (host X : PySem.Str) (p : Int) : PyData := if d = 0 then .tuple [.str host, .int p] else .tuple [.str (rT d), .str X]
theorem lA {x : PySem.Str} {c n : Nat} (hc : c < 4) {H : List O} (h : c = 3 → H[n]? = some (.tup [.str "other code", .str (be x 3)])) : dataOf 7 H (ft x n c) = some (yq x c) := by
 rcases c with _ | _ | _ | _ | c
 ·rfl
 ·rfl
 ·rfl
 ·exact iF (h rfl) rfl rfl
 ·lia
theorem n6 {d m : Nat} {host X : PySem.Str} {p : Int} {H : List O} (h : H[m]? = some (lH d host X p)) : dataOf 7 H (.ref m) = some (wZ d host X p) := by
 unfold lH at h
 unfold wZ
 split at h <;> rename_i q
 ·rw [if_pos q]; exact iF h rfl rfl
 ·rw [if_neg q]; exact iF h rfl rfl
theorem oJ {x host X : PySem.Str} {c d : Nat} {p : Int} (h1 : zt x = true) (h2 : zt (be x 3) = true) (h3 : zt host = true) (h4 : zt X = true) (h5 : zt (rT d) = true) : SeqAt.shaped (.list [yq x c, wZ d host X p]) = true := by
 have e1 : PyData.strOk "" = true := by decide +kernel
 have e2 : PyData.strOk "other code" = true := by decide +kernel
 unfold zt at h1 h2 h3 h4 h5
 unfold wZ
 rcases c with _ | _ | _ | c <;> split <;> simp [yq, SeqAt.shaped, PyData.canLay0, PyData.canLayAll0, PyData.depth, PyData.depthAll, h1, h2, h3, h4, h5, e1, e2]
theorem uk {x X : PySem.Str} {c d k : Nat} (hc : c < 4) (hk : k < 6) (ha : fS x c = true) {p : Int} {τ : St} {r : Nat} (h1 : fb [.str X, .ref 0] [peer (bW k)] = .ok (.ref r) τ) (h2 : τ.heap.take 1 = [peer (bW k)]) (h3 : τ.heap[r]? = some (lH d (bW k) X p)) (h4 : 1 ≤ r)
  {q n m : Nat} {G : List O} (hq : G[q]? = some (.list [ft x n c, .ref m])) (hn : G[n]? = some (.tup [.str "other code", .str (be x c)])) (hm : G[m]? = some (lH d (bW k) X p)) (hd : G.all noDict = true)
  (o1 : zt x = true) (o2 : zt (be x 3) = true) (o3 : zt (bW k) = true) (o4 : zt X = true) (o5 : zt (rT d) = true) {v0 v2 v3 v4 v5 v6 v9 : Option V} :
  ∃ E, dh (aW CmpOp.Eq (bu (aj AM (aj AO (aa [])))) (ai 10)) ⟨[v0, some (.int k), v2, v3, v4, v5, v6, some (.str (be x c)), some (.str X), v9, some (.ref q)], G⟩ = .ok (.ret (.bool true)) ⟨[v0, some (.int k), v2, v3, v4, v5, v6, some (.str (be x c)), some (.str X), v9, some (.ref q)], G ++ E⟩ := by
 have e1 := xt hc ha (v0 := v0) (v1 := some (.int k)) (v2 := v2) (v3 := v3) (v4 := v4) (v5 := v5) (v6 := v6) (v8 := some (.str X)) (v9 := v9) (v10 := some (.ref q)) hd
 have hd1 : (G ++ d8 x c).all noDict = true := by
  rw [List.all_append, hd]; unfold d8; split <;> rfl
 have e2 := xr hk h1 h2 h3 h4 (v0 := v0) (v2 := v2) (v3 := v3) (v4 := v4) (v5 := v5) (v6 := v6) (v7 := some (.str (be x c))) (v9 := v9) (v10 := some (.ref q)) hd1
 have e3 := cP (aX e1 (aX e2 (ms := aa []) rfl)) (by show 2 ≤ 1000; decide)
 refine ⟨d8 x c ++ [peer (bW k), lH d (bW k) X p] ++ [.list [ft x G.length c, .ref ((G ++ d8 x c).length + 1)]], ?_⟩
 refine eK ?_
 have keep : ∀ {l : Nat} {o : O} (E : List O), G[l]? = some o → (G ++ E)[l]? = some o := fun E h => by
  rw [List.getElem?_append_left (List.getElem?_eq_some_iff.mp h).1]; exact h
 have hG : G ++ d8 x c ++ [peer (bW k), lH d (bW k) X p] ++ [.list [ft x G.length c, .ref ((G ++ d8 x c).length + 1)]] = G ++ (d8 x c ++ [peer (bW k), lH d (bW k) X p] ++ [.list [ft x G.length c, .ref ((G ++ d8 x c).length + 1)]]) := by simp only [List.append_assoc]
 have d1 : dataOf 8 (G ++ d8 x c ++ [peer (bW k), lH d (bW k) X p] ++ [.list [ft x G.length c, .ref ((G ++ d8 x c).length + 1)]]) (.ref (G ++ d8 x c ++ [peer (bW k), lH d (bW k) X p]).length) = some (.list [yq x c, wZ d (bW k) X p]) := by
  refine jq (a := ft x G.length c) (b := .ref ((G ++ d8 x c).length + 1)) (by rw [List.getElem?_append_right (Nat.le_refl _)]; simp) (lA hc fun h => ?_) (n6 ?_)
  ·subst h; simp [d8]
  ·rw [List.append_assoc, List.getElem?_append_right (by lia)]; simp
 have d2 : dataOf 8 (G ++ d8 x c ++ [peer (bW k), lH d (bW k) X p] ++ [.list [ft x G.length c, .ref ((G ++ d8 x c).length + 1)]]) (.ref q) = some (.list [yq x c, wZ d (bW k) X p]) := by
  rw [hG]
  exact jq (keep _ hq) (lA hc fun h => keep _ (by rw [hn, h])) (n6 (keep _ hm))
 have ec := eq_data (σ := ⟨[v0, some (.int k), v2, v3, v4, v5, v6, some (.str (be x c)), some (.str X), v9, some (.ref q)], G ++ d8 x c ++ [peer (bW k), lH d (bW k) X p] ++ [.list [ft x G.length c, .ref ((G ++ d8 x c).length + 1)]]⟩) d1 d2 (oJ o1 o2 o3 o4 o5)
 unfold aW bp
 rw [e3, zV.bind_ok]
 rw [← hG]
 exact ec
theorem yB {i j c : Nat} (hi : i < 6) (hj : j < 6) (hc : c < 4) : fS (pc i ++ pc j) c = true := by
 have h := tv i hi j hj
 simp only [Bool.and_eq_true] at h
 rcases c with _ | _ | _ | _ | c
 ·exact h.1.1.1
 ·exact h.1.1.2
 ·exact h.1.2
 ·exact h.2
 ·lia
theorem xq {x : PySem.Str} (N : wP x) {par : V} (hs : pK par = true) {c d k : Nat} (hc : c < 4) (hd : d < 6) (hk : k < 6) {p : Int} (hp1 : 1024 ≤ p) (hp2 : p < 61024) {P : PySem.Str} (hP : PySem.Str.ofString (toString p) = P) (hl : P.length ≤ 10) :
  an (aC (aj (ai 0) (aj (ai 1) (aa []))) (bR mq)) (pJ [ao 7, ao 8]) ⟨[some (.ref 0), some (.int k), some par, some (.int c), some (.int d), some (.str x), some (.int p), none, none, none, none], [ev par c d x p]⟩
   = .ok .next ⟨[some (.ref 0), some (.int k), some par, some (.int c), some (.int d), some (.str x), some (.int p), some (.str (be x c)), some (.str (cX (cJ k) P d)), none, none], [ev par c d x p, .tup [.str (be x c), .str (cX (cJ k) P d)]]⟩ := by
 obtain ⟨τ0, r1, r2, r3⟩ := xC N (par := par) hc hd hk hp1 hp2 hP hl
 have hf : gv (ev par c d x p) = true := by cases par <;> first | rfl | cases hs
 have hz : zj [.ref 0, .int k] [ev par c d x p] = some ([.ref 0, .int k], [ev par c d x p]) := by
  show (if gv (ev par c d x p) then some ([V.ref 0, .int k].map (zo fun _ => 0), [ev par c d x p]) else none) = _
  rw [hf]; rfl
 have e := hO (σ := ⟨[some (.ref 0), some (.int k), some par, some (.int c), some (.int d), some (.str x), some (.int p), none, none, none, none], [ev par c d x p]⟩) (vs := [.ref 0, .int k]) hz rfl r1 r2 r3 (by show 1 ≤ 6; decide) rfl
 unfold an
 rw [bX (ms := aj (ai 0) (aj (ai 1) (aa []))) (vs := [.ref 0, .int k]) (ae := ⟨[some (.ref 0), some (.int k), some par, some (.int c), some (.int d), some (.str x), some (.int p), none, none, none, none], [ev par c d x p]⟩) rfl, e, zV.bind_ok]
 rfl
theorem xB {i j : Nat} (hi : i < 6) (hj : j < 6) {par : V} (hs : pK par = true) {c d k : Nat} (hc : c < 4) (hd : d < 6) (hk : k < 6) {p : Int} (hp1 : 1024 ≤ p) (hp2 : p < 61024) :
  ∃ τ, jL [.ref 0, .int k] [ev par c d (pc i ++ pc j) p] = .ok (.bool true) τ ∧ τ.heap.take 1 = [ev par c d (pc i ++ pc j) p] := by
 obtain ⟨ds, hP, hds, hlen, hint⟩ := qH hp1 hp2
 have N := xZ hi hj
 have hl10 : (⟨ds.toArray⟩ : PySem.Str).length ≤ 10 := by show ds.toArray.size ≤ 10; simp; lia
 have hask := yB hi hj hc
 have hb2 := xq N (par := par) hs hc hd hk hp1 hp2 hP hl10
 have hb3 := vT i hi j hj (some (.ref 0)) (some (.int k)) (some par) (some (.int c)) (some (.int d)) (some (.int p)) (some (.str (be (pc i ++ pc j) c))) (some (.str (cX (cJ k) ⟨ds.toArray⟩ d))) none none (ev par c d (pc i ++ pc j) p) (.tup [.str (be (pc i ++ pc j) c), .str (cX (cJ k) ⟨ds.toArray⟩ d)])
 have hb4 : ∃ J, J.all noDict = true ∧ B4 ⟨[some (.ref 0), some (.int k), some par, some (.int c), some (.int d), some (.str (pc i ++ pc j)), some (.int p), some (.str (be (pc i ++ pc j) c)), some (.str (cX (cJ k) ⟨ds.toArray⟩ d)), some (.ref 2), none], [ev par c d (pc i ++ pc j) p, .tup [.str (be (pc i ++ pc j) c), .str (cX (cJ k) ⟨ds.toArray⟩ d)], .list (oW (pc i ++ pc j))]⟩
   = .ok .next ⟨[some (.ref 0), some (.int k), some par, some (.int c), some (.int d), some (.str (pc i ++ pc j)), some (.int p), some (.str (be (pc i ++ pc j) c)), some (.str (cX (cJ k) ⟨ds.toArray⟩ d)), some (.ref 2), none], [ev par c d (pc i ++ pc j) p, .tup [.str (be (pc i ++ pc j) c), .str (cX (cJ k) ⟨ds.toArray⟩ d)], .list (oW (pc i ++ pc j))] ++ J⟩ := by
  by_cases h : c = 0
  ·subst h
   exact ⟨ye (pc i ++ pc j), rfl, vS i hi j hj par d p k _⟩
  ·exact ⟨[], rfl, by rw [List.append_nil]; exact xp (by lia)⟩
 obtain ⟨J, hJ, hb4⟩ := hb4
 obtain ⟨τ1, r, g1, g2, g3, g4⟩ := pA (host := bW k) (gX k) hds hlen hint hd
 have hH : ([ev par c d (pc i ++ pc j) p, .tup [.str (be (pc i ++ pc j) c), .str (cX (cJ k) ⟨ds.toArray⟩ d)], .list (oW (pc i ++ pc j))] ++ J).all noDict = true := by
  rw [List.all_append, hJ]; rfl
 have hok := vR i hi j hj
 simp only [Bool.and_eq_true] at hok
 suffices h : ∃ σf, (∀ b, b = jL → True) ∧ (aM (an (ai 0) (pJ [ao 2, ao 3, ao 4, ao 5, ao 6])) (aM (an (aC (aj (ai 0) (aj (ai 1) (aa []))) (bR mq)) (pJ [ao 7, ao 8])) (aM B3 (aM B4 (aM B5 (aM B6 (dh (aW CmpOp.Eq (bu (aj AM (aj AO (aa [])))) (ai 10)))))))))
   ⟨[some (.ref 0), some (.int k), none, none, none, none, none, none, none, none, none], [ev par c d (pc i ++ pc j) p]⟩ = .ok (.ret (.bool true)) σf ∧ σf.heap.take 1 = [ev par c d (pc i ++ pc j) p] by
  obtain ⟨σf, -, h1, h2⟩ := h
  exact ⟨σf, du (b8 := [ev par c d (pc i ++ pc j) p]) rfl rfl h1, h2⟩
 rw [aG (a := an (ai 0) (pJ [ao 2, ao 3, ao 4, ao 5, ao 6])) (ae := ⟨[some (.ref 0), some (.int k), some par, some (.int c), some (.int d), some (.str (pc i ++ pc j)), some (.int p), none, none, none, none], [ev par c d (pc i ++ pc j) p]⟩) rfl]
 rw [aG hb2, aG hb3, aG hb4, aG (xo hc hk)]
 by_cases h0 : d = 0
 ·subst h0
  rw [aG sO]
  obtain ⟨E, hE⟩ := uk (n := _) (m := _) (d := 0) hc hk hask g1 g2 g3 g4 (q := _) (G := ([ev par c (0 : Nat) (pc i ++ pc j) p, .tup [.str (be (pc i ++ pc j) c), .str (cX (cJ k) ⟨ds.toArray⟩ 0)], .list (oW (pc i ++ pc j))] ++ J) ++ iB (pc i ++ pc j) c k p ([ev par c (0 : Nat) (pc i ++ pc j) p, .tup [.str (be (pc i ++ pc j) c), .str (cX (cJ k) ⟨ds.toArray⟩ 0)], .list (oW (pc i ++ pc j))] ++ J).length)
   (by rw [List.getElem?_append_right (Nat.le_add_right _ 3), Nat.add_sub_cancel_left]; rfl) (by rw [List.getElem?_append_right (Nat.le_refl _), Nat.sub_self]; rfl) (by rw [List.getElem?_append_right (Nat.le_add_right _ 2), Nat.add_sub_cancel_left]; rfl) (by rw [List.all_append, hH]; rfl) hok.1.1.1.1 hok.2 (rh k hk) (qN (gX k) hds hlen hd) (uD 0 hd)
  exact ⟨_, fun _ _ => trivial, hE, rfl⟩
 ·rw [aG (xn (by lia))]
  obtain ⟨E, hE⟩ := uk (n := _) (m := _) (d := d) hc hk hask g1 g2 g3 g4 (q := _) (G := ([ev par c d (pc i ++ pc j) p, .tup [.str (be (pc i ++ pc j) c), .str (cX (cJ k) ⟨ds.toArray⟩ d)], .list (oW (pc i ++ pc j))] ++ J) ++ tN (pc i ++ pc j) (cX (cJ k) ⟨ds.toArray⟩ d) c d k p ([ev par c d (pc i ++ pc j) p, .tup [.str (be (pc i ++ pc j) c), .str (cX (cJ k) ⟨ds.toArray⟩ d)], .list (oW (pc i ++ pc j))] ++ J).length)
   (by rw [List.getElem?_append_right (Nat.le_add_right _ 3), Nat.add_sub_cancel_left]; rfl) (by rw [List.getElem?_append_right (Nat.le_refl _), Nat.sub_self]; rfl) (by rw [List.getElem?_append_right (Nat.le_add_right _ 4), Nat.add_sub_cancel_left]; unfold lH; rw [if_neg h0]; rfl) (by rw [List.all_append, hH]; rfl) hok.1.1.1.1 hok.2 (rh k hk) (qN (gX k) hds hlen hd) (uD d hd)
  exact ⟨_, fun _ _ => trivial, hE, rfl⟩
noncomputable def fk : Option Nat → V
 | none => .none
 | some p => .int p
noncomputable def df (H : List O) (l : Nat) (par : Nat → Option Nat) : Prop := ∃ ls : List Nat, H[l]? = some (.list (ls.map .ref)) ∧ ls.length = 6 ∧ ∀ k, k < 6 → ∃ m r, ls[k]? = some m ∧ H[m]? = some (.tup (fk (par k) :: r))
theorem bq {β : Type} {f : V → V → St → zV β} {ml mr : St → zV V} {σ ae aq : St} {a b : V} (h : ml σ = .ok a ae) (h' : mr ae = .ok b aq) : bp f ml mr σ = f a b aq := by
 unfold bp; rw [h, zV.bind_ok, h', zV.bind_ok]
theorem aI {L : List (Option V)} {H : List O} {i : Nat} {v : V} (h : L[i]? = some (some v)) : ai i ⟨L, H⟩ = .ok v ⟨L, H⟩ := by
 unfold ai; simp only [h]; rfl
theorem qI {H : List O} {l : Nat} {par : Nat → Option Nat} (h : df H l par) {k : Nat} (hk : k < 6) {L : List (Option V)} {i j : Nat} (hi : L[i]? = some (some (.ref l))) (hj : L[j]? = some (some (.int k))) :
  bp br (bp br (ai i) (ai j)) (aa (V.int 0)) ⟨L, H⟩ = .ok (fk (par k)) ⟨L, H⟩ := by
 obtain ⟨ls, h1, h2, h3⟩ := h
 obtain ⟨m, r, h4, h5⟩ := h3 k hk
 have e1 : bp br (ai i) (ai j) ⟨L, H⟩ = .ok (.ref m) ⟨L, H⟩ := by
  rw [bq (aI hi) (aI hj)]
  exact item_at h1 (by lia) (by rw [List.getElem?_map, h4]; rfl)
 rw [bq e1 (mr := aa (V.int 0)) rfl]
 exact nj (k := 0) h5 (by lia) rfl
noncomputable def zG (par : Nat → Option Nat) : Nat → Nat → Nat
 | 0, _ => 0
 | n + 1, k => match par k with
  | none => 0
  | some p => zG par n p + 1
theorem is_none (v : V) (σ : St) : j3 .Is v .none σ = .ok (.bool (decide (v = .none))) σ := by cases v <;> rfl
theorem eX (v : V) (σ : St) : j3 .IsNot v .none σ = .ok (.bool (!decide (v = .none))) σ := by cases v <;> rfl
theorem bM {m : St → zV V} {σ ae : St} {b : Bool} (h : m σ = .ok (.bool b) ae) : aB m σ = .ok b ae := by
 unfold aB; rw [h]; rfl
noncomputable abbrev yI : Nat → St → zV F := bT (gz (aB (aW CmpOp.IsNot (bp br (bp br (ai 0) (ai 1)) (aa (V.int 0))) (aa V.none))) (gz (aB (aW CmpOp.Lt (ai 2) (aa (V.int 7)))) (aa true))) (aM (an (bp br (bp br (ai 0) (ai 1)) (aa (V.int 0))) (ao 1)) (w0 Operator.Add 2 (aa (V.int 1)))) (aa F.next)
theorem rX {H : List O} {l : Nat} {par : Nat → Option Nat} (h : df H l par) (hp : ∀ k p, par k = some p → p < 6) : ∀ (n d k f : Nat), d + n = 7 → n < f → k < 6 →
  ∃ k', yI f ⟨[some (.ref l), some (.int k), some (.int d)], H⟩ = .ok .next ⟨[some (.ref l), some (.int k'), some (.int ((d + zG par n k : Nat) : Int))], H⟩ := by
 intro n
 induction n with
 | zero =>
  intro d k f hd hf hk
  obtain ⟨f, rfl⟩ : ∃ g, f = g + 1 := ⟨f - 1, by lia⟩
  have e := qI h hk (L := [some (.ref l), some (.int k), some (.int d)]) (i := 0) (j := 1) rfl rfl
  have t1 : aB (aW CmpOp.IsNot (bp br (bp br (ai 0) (ai 1)) (aa (V.int 0))) (aa V.none)) ⟨[some (.ref l), some (.int k), some (.int d)], H⟩ = .ok (!decide (fk (par k) = .none)) ⟨[some (.ref l), some (.int k), some (.int d)], H⟩ := bM (by unfold aW; rw [bq e (mr := aa .none) rfl]; exact eX _ _)
  have t2 : aB (aW CmpOp.Lt (ai 2) (aa (V.int 7))) ⟨[some (.ref l), some (.int k), some (.int d)], H⟩ = .ok (decide ((d : Int) < 7)) ⟨[some (.ref l), some (.int k), some (.int d)], H⟩ := rfl
  rw [decide_eq_false (by lia)] at t2
  refine ⟨k, ?_⟩
  unfold yI bT gz zB
  rw [t1, zV.bind_ok]
  cases hq : par k with
  | none => rfl
  | some p =>
   simp only [fk, decide_false, Bool.not_false, if_true, reduceCtorEq]
   rw [t2]; rfl
 | succ n ih =>
  intro d k f hd hf hk
  obtain ⟨f, rfl⟩ : ∃ g, f = g + 1 := ⟨f - 1, by lia⟩
  have e := qI h hk (L := [some (.ref l), some (.int k), some (.int d)]) (i := 0) (j := 1) rfl rfl
  have t1 : aB (aW CmpOp.IsNot (bp br (bp br (ai 0) (ai 1)) (aa (V.int 0))) (aa V.none)) ⟨[some (.ref l), some (.int k), some (.int d)], H⟩ = .ok (!decide (fk (par k) = .none)) ⟨[some (.ref l), some (.int k), some (.int d)], H⟩ := bM (by unfold aW; rw [bq e (mr := aa .none) rfl]; exact eX _ _)
  have t2 : aB (aW CmpOp.Lt (ai 2) (aa (V.int 7))) ⟨[some (.ref l), some (.int k), some (.int d)], H⟩ = .ok (decide ((d : Int) < 7)) ⟨[some (.ref l), some (.int k), some (.int d)], H⟩ := rfl
  rw [decide_eq_true (by lia)] at t2
  cases hq : par k with
  | none =>
   refine ⟨k, ?_⟩
   unfold yI bT gz zB
   rw [t1, zV.bind_ok, hq]
   simp only [zG, hq]
   rfl
  | some p =>
   obtain ⟨k', ih⟩ := ih (d + 1) p f (by lia) (by lia) (hp _ _ hq)
   refine ⟨k', ?_⟩
   have t3 : (gz (aB (aW CmpOp.IsNot (bp br (bp br (ai 0) (ai 1)) (aa (V.int 0))) (aa V.none))) (gz (aB (aW CmpOp.Lt (ai 2) (aa (V.int 7)))) (aa true))) ⟨[some (.ref l), some (.int k), some (.int d)], H⟩ = .ok true ⟨[some (.ref l), some (.int k), some (.int d)], H⟩ := by
    unfold gz zB
    rw [t1, zV.bind_ok, hq]
    simp only [fk, decide_false, Bool.not_false, if_true, reduceCtorEq]
    rw [t2]; rfl
   have b1 : (aM (an (bp br (bp br (ai 0) (ai 1)) (aa (V.int 0))) (ao 1)) (w0 Operator.Add 2 (aa (V.int 1)))) ⟨[some (.ref l), some (.int k), some (.int d)], H⟩ = .ok .next ⟨[some (.ref l), some (.int p), some (.int ((d + 1 : Nat) : Int))], H⟩ := by
    rw [aG (bx e), hq]
    rfl
   unfold yI bT
   rw [t3]
   simp only [zV.calm, zV.bind_ok, if_true]
   rw [b1]
   simp only [zV.calm, zV.bind_ok]
   unfold yI at ih
   rw [ih]
   simp only [zG, hq]
   rw [show d + 1 + zG par n p = d + (zG par n p + 1) by lia]
theorem xA {H : List O} {l : Nat} {par : Nat → Option Nat} (h : df H l par) (hp : ∀ k p, par k = some p → p < 6) {k : Nat} (hk : k < 6) :
  ∃ τ, mn [.ref l, .int k] H = .ok (.int (zG par 7 k)) τ ∧ τ.heap = H := by
 obtain ⟨k', e⟩ := rX h hp 7 0 k 10 (by lia) (by lia) hk
 refine ⟨⟨[some (.ref l), some (.int k'), some (.int ((0 + zG par 7 k : Nat) : Int))], H⟩, ?_, rfl⟩
 refine du (b8 := H) (L := [some (.ref l), some (.int k), none]) rfl rfl ?_
 rw [aG (bx (m := aa (V.int 0)) (v := .int 0) (ae := ⟨[some (.ref l), some (.int k), none], H⟩) rfl)]
 simp only [List.set_cons_succ, List.set_cons_zero]
 refine (aG e).trans ?_
 refine eK ?_
 rw [Nat.zero_add]
 rfl
theorem i6 (xs : List V) (a : Nat) : ∀ n : Nat, ((List.range n).map (a + ·)).filterMap (xs[·]?) = (xs.drop a).take n
 | 0 => by simp
 | n + 1 => by
  rw [List.range_succ, List.map_append, List.filterMap_append, i6 xs a n, List.take_add_one]
  congr 1
  simp only [List.map_cons, List.map_nil, List.getElem?_drop]
  cases h : xs[a + n]? <;> simp [h]
theorem ja (xs : List V) (lo hi : Option Int) : eA xs lo hi = (xs.drop (lo.elim 0 (clipAt xs.length))).take (hi.elim xs.length (clipAt xs.length) - lo.elim 0 (clipAt xs.length)) := by
 unfold eA
 rw [sliceBounds_plain]
 simp only [sliceRange_one, i6]
theorem vQ (xs : List V) (b : Nat) : eA xs none (some (b : Int)) = xs.take b := by
 rw [ja]
 simp only [Option.elim, clipAt_nat, List.drop_zero, Nat.sub_zero]
 rcases Nat.le_total b xs.length with h | h
 ·rw [Nat.min_eq_left h]
 ·rw [Nat.min_eq_right h, List.take_of_length_le (Nat.le_refl _), List.take_of_length_le h]
theorem pick_from (xs : List V) (a : Nat) : eA xs (some (a : Int)) none = xs.drop a := by
 rw [ja]
 simp only [Option.elim, clipAt_nat]
 rcases Nat.le_total a xs.length with h | h
 ·rw [Nat.min_eq_left h, List.take_of_length_le (by simp)]
 ·rw [Nat.min_eq_right h, List.drop_of_length_le (by simp), List.drop_of_length_le h]; simp
theorem ny {l : Nat} {xs ys : List V} {lo hi : V} {a b : Option Int} {σ : St} (h : σ.heap[l]? = some (.list xs)) (hl : xs.length ≤ 1000) (ha : gJ lo = some a) (hb : gJ hi = some b) (hy : eA xs a b = ys) :
  eG (.ref l) lo hi σ = .ok (.ref σ.heap.length) { σ with heap := σ.heap ++ [.list ys] } := by
 refine (mL ha).trans ((mL hb).trans ?_)
 show gl _ _ _ = _
 rw [iT h, if_pos (by show xs.length ≤ 16777216; lia), hy]
theorem kx {z : Addr} {xs ys : List V} {lo hi : V} {a b : Option Int} {σ : St} (hl : xs.length ≤ 1000) (ha : gJ lo = some a) (hb : gJ hi = some b) (hy : eA xs a b = ys) :
  ky z xs (.top z) lo hi σ = .ok (.ref σ.heap.length) { σ with heap := σ.heap ++ [.list ys] } := by
 unfold ky
 simp only [ha, hb]
 rw [if_pos ⟨trivial, by show xs.length ≤ 16777216; lia⟩, hy]
theorem iY {z : Addr} {xs : List V} {mo ml mu : St → zV V} {σ ae aq aS : St} {v l u : V} (h1 : mo σ = .ok v ae) (h2 : ml ae = .ok l aq) (h3 : mu aq = .ok u aS) : dp z xs mo ml mu σ = ky z xs v l u aS := by
 unfold dp; rw [h1, zV.bind_ok, h2, zV.bind_ok, h3, zV.bind_ok]
theorem kz {mo ml mu : St → zV V} {σ ae aq aS : St} {v l u : V} (h1 : mo σ = .ok v ae) (h2 : ml ae = .ok l aq) (h3 : mu aq = .ok u aS) : cw mo ml mu σ = eG v l u aS := by
 unfold cw; rw [h1, zV.bind_ok, h2, zV.bind_ok, h3, zV.bind_ok]
theorem rN {a b : Nat} {xs ys : List V} {σ : St} (h : σ.heap[a]? = some (.list xs)) (h' : σ.heap[b]? = some (.list ys)) (hl : xs.length + ys.length ≤ 1000) :
  zr .Add (.ref a) (.ref b) σ = .ok (.ref σ.heap.length) { σ with heap := σ.heap ++ [.list (xs ++ ys)] } := by
 simp only [zr, wL, zL, bH, zI, Option.isSome_none, cond_false]
 rw [iT h, iT h']
 exact if_pos (Nat.le_trans hl (by decide))
noncomputable def jv : List Int := [4374, 6104, 3486, 1878, 272, 11036]
noncomputable def ey (s : List Int) : List Int := s.take 6 ++ jv.drop (s.take 6).length
theorem h9 (s : List Int) : (ey s).length = 6 := by
 unfold ey
 have h : (s.take 6).length ≤ 6 := List.length_take_le _ _
 have h6 : jv.length = 6 := rfl
 rw [List.length_append, List.length_drop, h6]; lia
noncomputable def lv (k : Nat) (x : Int) : Option Nat := if x.fmod 7 < 6 ∧ (x.fmod 7 ≠ k ∨ (x.fdiv 7).fmod 2 = 1) then some (x.fmod 7).toNat else none
noncomputable abbrev ze (z : Addr) (zs : List V) : St → zV V := (aR Operator.Add (dp z zs (ai 0) (aa V.none) (aa (V.int 6))) (cw (bu (aj (aa (V.int 4374)) (aj (aa (V.int 6104)) (aj (aa (V.int 3486)) (aj (aa (V.int 1878)) (aj (aa (V.int 272)) (aj (aa (V.int 11036)) (aa [])))))))) (aC (aj (dp z zs (ai 0) (aa V.none) (aa (V.int 6))) (aa [])) iS) (aa V.none)))
noncomputable def cb (s : List Int) : List V := s.map .int
theorem sJ (z : Addr) (s : List Int) (hs : s.length ≤ 63) (p f : O) (v1 v2 v3 v4 v5 : Option V) :
  ∃ a b c d, ze z (cb s) ⟨[some (.top z), v1, v2, v3, v4, v5], [p, f]⟩ = .ok (.ref 6) ⟨[some (.top z), v1, v2, v3, v4, v5], [p, f, .list a, .list b, .list c, .list d, .list (cb (ey s))]⟩ ∧ (∀ v ∈ a ++ b ++ c ++ d, ∃ i, v = .int i) := by
 refine ⟨cb (s.take 6), cb jv, cb (s.take 6), cb (jv.drop (s.take 6).length), ?_, ?_⟩
 ·have hl : (cb s).length ≤ 1000 := by unfold cb; rw [List.length_map]; lia
  have pk : eA (cb s) none (some 6) = cb (s.take 6) := by rw [show (6 : Int) = ((6 : Nat) : Int) from rfl, vQ]; unfold cb; rw [List.map_take]
  have e1 : dp z (cb s) (ai 0) (aa V.none) (aa (V.int 6)) ⟨[some (.top z), v1, v2, v3, v4, v5], [p, f]⟩ = .ok (.ref 2) ⟨[some (.top z), v1, v2, v3, v4, v5], [p, f, .list (cb (s.take 6))]⟩ := by
   rw [iY (mo := ai 0) (ml := aa .none) (mu := aa (.int 6)) (v := .top z) (l := .none) (u := .int 6) (ae := ⟨[some (.top z), v1, v2, v3, v4, v5], [p, f]⟩) rfl rfl rfl]
   exact kx hl rfl rfl pk
  have e2 : bu (aj (aa (V.int 4374))
          (aj (aa (V.int 6104))
           (aj (aa (V.int 3486))
            (aj (aa (V.int 1878)) (aj (aa (V.int 272)) (aj (aa (V.int 11036)) (aa []))))))) ⟨[some (.top z), v1, v2, v3, v4, v5], [p, f, .list (cb (s.take 6))]⟩ = .ok (.ref 3) ⟨[some (.top z), v1, v2, v3, v4, v5], [p, f, .list (cb (s.take 6)), .list (cb jv)]⟩ :=
   cP (vs := cb jv) (ae := ⟨[some (.top z), v1, v2, v3, v4, v5], [p, f, .list (cb (s.take 6))]⟩) rfl (by show 6 ≤ 1000; decide)
  have e3 : dp z (cb s) (ai 0) (aa V.none) (aa (V.int 6)) ⟨[some (.top z), v1, v2, v3, v4, v5], [p, f, .list (cb (s.take 6)), .list (cb jv)]⟩ = .ok (.ref 4) ⟨[some (.top z), v1, v2, v3, v4, v5], [p, f, .list (cb (s.take 6)), .list (cb jv), .list (cb (s.take 6))]⟩ := by
   rw [iY (mo := ai 0) (ml := aa .none) (mu := aa (.int 6)) (v := .top z) (l := .none) (u := .int 6) (ae := ⟨[some (.top z), v1, v2, v3, v4, v5], [p, f, .list (cb (s.take 6)), .list (cb jv)]⟩) rfl rfl rfl]
   exact kx hl rfl rfl pk
  have ht : (cb (s.take 6)).length ≤ 6 := by unfold cb; rw [List.length_map]; exact List.length_take_le _ _
  have e4 : aC (aj (dp z (cb s) (ai 0) (aa V.none) (aa (V.int 6))) (aa [])) iS ⟨[some (.top z), v1, v2, v3, v4, v5], [p, f, .list (cb (s.take 6)), .list (cb jv)]⟩ = .ok (.int ((s.take 6).length : Nat)) ⟨[some (.top z), v1, v2, v3, v4, v5], [p, f, .list (cb (s.take 6)), .list (cb jv), .list (cb (s.take 6))]⟩ := by
   rw [bX (aX e3 (ms := aa []) rfl)]
   exact nS (xs := cb (s.take 6)) rfl (by lia) (by unfold cb; rw [List.length_map])
  have e5 : cw
        (bu
         (aj (aa (V.int 4374))
          (aj (aa (V.int 6104))
           (aj (aa (V.int 3486))
            (aj (aa (V.int 1878)) (aj (aa (V.int 272)) (aj (aa (V.int 11036)) (aa []))))))))
        (aC (aj (dp z (cb s) (ai 0) (aa V.none) (aa (V.int 6))) (aa [])) iS) (aa V.none) ⟨[some (.top z), v1, v2, v3, v4, v5], [p, f, .list (cb (s.take 6))]⟩ = .ok (.ref 5) ⟨[some (.top z), v1, v2, v3, v4, v5], [p, f, .list (cb (s.take 6)), .list (cb jv), .list (cb (s.take 6)), .list (cb (jv.drop (s.take 6).length))]⟩ := by
   rw [kz e2 e4 (mu := aa V.none) rfl]
   exact ny (xs := cb jv) rfl (by show 6 ≤ 1000; decide) rfl rfl (by rw [pick_from]; unfold cb; rw [List.map_drop])
  unfold ze aR
  rw [bq e1 e5]
  have hd : (cb (jv.drop (s.take 6).length)).length ≤ 6 := by unfold cb; rw [List.length_map, List.length_drop]; show 6 - _ ≤ 6; lia
  have e6 := rN (a := 2) (b := 5) (σ := ⟨[some (.top z), v1, v2, v3, v4, v5], [p, f, .list (cb (s.take 6)), .list (cb jv), .list (cb (s.take 6)), .list (cb (jv.drop (s.take 6).length))]⟩) (xs := cb (s.take 6)) (ys := cb (jv.drop (s.take 6).length)) rfl rfl (by lia)
  rw [e6]
  have : cb (s.take 6) ++ cb (jv.drop (s.take 6).length) = cb (ey s) := by unfold cb ey; rw [List.map_append]
  rw [this]
  rfl
 ·unfold cb
  intro v hv
  simp only [List.mem_append, List.mem_map] at hv
  rcases hv with ((⟨i, _, rfl⟩ | ⟨i, _, rfl⟩) | ⟨i, _, rfl⟩) | ⟨i, _, rfl⟩ <;> exact ⟨i, rfl⟩
noncomputable abbrev zd : St → zV V := (zB (gz (aB (aW CmpOp.Lt (aR Operator.Mod (ai 4) (aa (V.int 7))) (aa (V.int 6)))) (gz (zq (aB (aW CmpOp.NotEq (aR Operator.Mod (ai 4) (aa (V.int 7))) (ai 3))) (zq (aB (aW CmpOp.Eq (aR Operator.Mod (aR Operator.FloorDiv (ai 4) (aa (V.int 7))) (aa (V.int 2))) (aa (V.int 1)))) (aa false))) (aa true))) (aR Operator.Mod (ai 4) (aa (V.int 7))) (aa V.none))
theorem gu (x : Int) {n : Int} (h : 0 < n) : 0 ≤ x.fmod n ∧ x.fmod n < n := ⟨Int.fmod_nonneg_of_pos x h, Int.fmod_lt_of_pos x h⟩
theorem sH {k : Nat} {x : Int} {v0 v1 v2 v5 : Option V} {H : List O} :
  zd ⟨[v0, v1, v2, some (.int k), some (.int x), v5], H⟩ = .ok (fk (lv k x)) ⟨[v0, v1, v2, some (.int k), some (.int x), v5], H⟩ := by
 have m7 : aR Operator.Mod (ai 4) (aa (V.int 7)) ⟨[v0, v1, v2, some (.int k), some (.int x), v5], H⟩ = .ok (.int (x.fmod 7)) ⟨[v0, v1, v2, some (.int k), some (.int x), v5], H⟩ := rfl
 have t1 : aB (aW CmpOp.Lt (aR Operator.Mod (ai 4) (aa (V.int 7))) (aa (V.int 6))) ⟨[v0, v1, v2, some (.int k), some (.int x), v5], H⟩ = .ok (decide (x.fmod 7 < 6)) ⟨[v0, v1, v2, some (.int k), some (.int x), v5], H⟩ := rfl
 have t2 : aB (aW CmpOp.NotEq (aR Operator.Mod (ai 4) (aa (V.int 7))) (ai 3)) ⟨[v0, v1, v2, some (.int k), some (.int x), v5], H⟩ = .ok (!(x.fmod 7 == (k : Int))) ⟨[v0, v1, v2, some (.int k), some (.int x), v5], H⟩ := rfl
 have t3 : aB (aW CmpOp.Eq (aR Operator.Mod (aR Operator.FloorDiv (ai 4) (aa (V.int 7))) (aa (V.int 2))) (aa (V.int 1))) ⟨[v0, v1, v2, some (.int k), some (.int x), v5], H⟩ = .ok ((x.fdiv 7).fmod 2 == 1) ⟨[v0, v1, v2, some (.int k), some (.int x), v5], H⟩ := rfl
 have h7 := gu x (n := 7) (by decide)
 unfold zd gz zq zB
 rw [t1]
 simp only [zV.bind_ok]
 by_cases h1 : x.fmod 7 < 6
 ·rw [decide_eq_true h1]
  simp only [if_true, t2, zV.bind_ok]
  have hv : (V.int (x.fmod 7)) = .int ((x.fmod 7).toNat : Nat) := by rw [Int.toNat_of_nonneg h7.1]
  by_cases h2 : x.fmod 7 = k
  ·rw [h2, beq_self_eq_true]
   simp only [Bool.not_true, Bool.false_eq_true, if_false, t3, zV.bind_ok]
   by_cases h3 : (x.fdiv 7).fmod 2 = 1
   ·rw [h3, beq_self_eq_true]
    simp only [if_true, aa, zV.bind_ok, lv]
    rw [if_pos ⟨h1, .inr h3⟩]
    show aR Operator.Mod (ai 4) (aa (V.int 7)) _ = _
    rw [m7, hv]; rfl
   ·rw [beq_eq_false_iff_ne.mpr h3]
    simp only [Bool.false_eq_true, if_false, aa, zV.bind_ok, lv]
    rw [if_neg (by rintro ⟨_, h | h⟩ <;> contradiction)]; rfl
  ·rw [beq_eq_false_iff_ne.mpr h2]
   simp only [Bool.not_false, if_true, aa, zV.bind_ok, lv]
   rw [if_pos ⟨h1, .inl h2⟩]
   show aR Operator.Mod (ai 4) (aa (V.int 7)) _ = _
   rw [m7, hv]; rfl
 ·rw [decide_eq_false h1]
  simp only [Bool.false_eq_true, if_false, aa, zV.bind_ok, lv]
  rw [if_neg (fun h => h1 h.1)]; rfl
theorem cN {chk : V → List O → Bool} {f : V → List V → St → zV V} {mo : St → zV V} {ma : St → zV (List V)} {σ ae aq : St} {v : V} {vs : List V} (h : mo σ = .ok v ae) (hc : chk v ae.heap = true) (ha : ma ae = .ok vs aq) : a7 chk f mo ma σ = f v vs aq := by
 unfold a7; rw [h, zV.bind_ok, if_pos hc, ha, zV.bind_ok]
theorem dT {l : Nat} {ys : List V} {y : V} {σ : St} (h : σ.heap[l]? = some (.list ys)) (hl : ys.length ≤ 1000) : bk (.ref l) [y] σ = .ok .none { σ with heap := σ.heap.set l (.list (ys ++ [y])) } := by
 show (c9 l y σ).bind _ = _
 unfold c9
 rw [h]
 dsimp only
 rw [if_pos (by show ys.length ≤ 16777216; lia)]; rfl
theorem c0 {m : St → zV V} {v : V} {σ ae : St} (h : m σ = .ok v ae) : bE m σ = .ok .next ae := by
 unfold bE; rw [h]; rfl
theorem cC {l : Nat} {H : List O} {ys : List V} (h : H[l]? = some (.list ys)) : aO (.ref l) H = true := by
 exact yf h
noncomputable def zp : List V := [.str (pc 0), .str (pc 1), .str (pc 2), .str (pc 3), .str (pc 4), .str (pc 5)]
theorem um : ∀ i, i < 6 → zp[i]? = some (.str (pc i)) := zn rfl rfl rfl rfl rfl rfl
theorem un : ∀ i, i < 6 → (pc i).length ≤ 10000 := by apply zn <;> decide +kernel
noncomputable def ow (t : O) (k : Nat) (x : Int) : Prop := ∃ c d i j : Nat, ∃ p : Int, c < 4 ∧ d < 6 ∧ i < 6 ∧ j < 6 ∧ 1024 ≤ p ∧ p < 61024 ∧ t = ev (fk (lv k x)) c d (pc i ++ pc j) p
noncomputable abbrev T280 : St → zV V := (hV (aj (ai 5) (aj (aR Operator.Mod (aR Operator.FloorDiv (ai 4) (aa (V.int 14))) (aa (V.int 4))) (aj (aR Operator.Mod (aR Operator.FloorDiv (ai 4) (aa (V.int 56))) (aa (V.int 6))) (aj (aR Operator.Add (bp br (ai 1) (aR Operator.Mod (aR Operator.FloorDiv (ai 4) (aa (V.int 336))) (aa (V.int 6)))) (bp br (ai 1) (aR Operator.Mod (aR Operator.FloorDiv (ai 4) (aa (V.int 2016))) (aa (V.int 6))))) (aj (aR Operator.Add (aa (V.int 1024)) (aR Operator.Mod (aR Operator.FloorDiv (ai 4) (aa (V.int 336))) (aa (V.int 60000)))) (aa [])))))))
theorem hM {z : Int} {n : Nat} (h : 0 ≤ z ∧ z < n) : ∃ c : Nat, c < n ∧ z = c := ⟨z.toNat, by lia, by lia⟩
theorem sE {k : Nat} {x : Int} {v0 v2 v3 : Option V} {H : List O} (h1 : H[0]? = some (.list zp)) :
  ∃ t, ow t k x ∧ T280 ⟨[v0, some (.ref 0), v2, v3, some (.int x), some (fk (lv k x))], H⟩ = .ok (.ref H.length) ⟨[v0, some (.ref 0), v2, v3, some (.int x), some (fk (lv k x))], H ++ [t]⟩ := by
 obtain ⟨c, hc, ec⟩ := hM (n := 4) (gu (x.fdiv 14) (n := 4) (by decide))
 obtain ⟨d, hd, ed⟩ := hM (n := 6) (gu (x.fdiv 56) (n := 6) (by decide))
 obtain ⟨i, hi, ei⟩ := hM (n := 6) (gu (x.fdiv 336) (n := 6) (by decide))
 obtain ⟨j, hj, ej⟩ := hM (n := 6) (gu (x.fdiv 2016) (n := 6) (by decide))
 have hp := gu (x.fdiv 336) (n := 60000) (by decide)
 refine ⟨ev (fk (lv k x)) c d (pc i ++ pc j) (1024 + (x.fdiv 336).fmod 60000), ⟨c, d, i, j, _, hc, hd, hi, hj, by lia, by lia, rfl⟩, ?_⟩
 let σ : St := ⟨[v0, some (.ref 0), v2, v3, some (.int x), some (fk (lv k x))], H⟩
 have e1 : aR Operator.Mod (aR Operator.FloorDiv (ai 4) (aa (V.int 14))) (aa (V.int 4)) σ = .ok (.int ((x.fdiv 14).fmod 4)) σ := rfl
 have e2 : aR Operator.Mod (aR Operator.FloorDiv (ai 4) (aa (V.int 56))) (aa (V.int 6)) σ = .ok (.int ((x.fdiv 56).fmod 6)) σ := rfl
 have e3 : aR Operator.Mod (aR Operator.FloorDiv (ai 4) (aa (V.int 336))) (aa (V.int 6)) σ = .ok (.int ((x.fdiv 336).fmod 6)) σ := rfl
 have e4 : aR Operator.Mod (aR Operator.FloorDiv (ai 4) (aa (V.int 2016))) (aa (V.int 6)) σ = .ok (.int ((x.fdiv 2016).fmod 6)) σ := rfl
 have e5 : aR Operator.Add (aa (V.int 1024)) (aR Operator.Mod (aR Operator.FloorDiv (ai 4) (aa (V.int 336))) (aa (V.int 60000))) σ = .ok (.int (1024 + (x.fdiv 336).fmod 60000)) σ := rfl
 rw [ec] at e1; rw [ed] at e2; rw [ei] at e3; rw [ej] at e4
 have p1 : bp br (ai 1) (aR Operator.Mod (aR Operator.FloorDiv (ai 4) (aa (V.int 336))) (aa (V.int 6))) σ = .ok (.str (pc i)) σ := by
  rw [bq (ml := ai 1) (a := .ref 0) (ae := σ) rfl e3]
  exact item_at h1 (by lia) (um i hi)
 have p2 : bp br (ai 1) (aR Operator.Mod (aR Operator.FloorDiv (ai 4) (aa (V.int 2016))) (aa (V.int 6))) σ = .ok (.str (pc j)) σ := by
  rw [bq (ml := ai 1) (a := .ref 0) (ae := σ) rfl e4]
  exact item_at h1 (by lia) (um j hj)
 have p3 : aR Operator.Add (bp br (ai 1) (aR Operator.Mod (aR Operator.FloorDiv (ai 4) (aa (V.int 336))) (aa (V.int 6)))) (bp br (ai 1) (aR Operator.Mod (aR Operator.FloorDiv (ai 4) (aa (V.int 2016))) (aa (V.int 6)))) σ = .ok (.str (pc i ++ pc j)) σ := by
  unfold aR
  rw [bq p1 p2]
  exact add_str (un i hi) (un j hj) σ
 exact j8 (aX (m := ai 5) (v := fk (lv k x)) (σ := σ) (ae := σ) rfl (aX e1 (aX e2 (aX p3 (aX e5 (ms := aa []) rfl))))) (by show 5 ≤ 1000; decide)
noncomputable abbrev zf : St → zV F := (aM (an zd (ao 5)) (bE (a7 aO bk (ai 2) (aj T280 (aa [])))))
theorem sM {k : Nat} {x : Int} {v0 v5 : Option V} {H : List O} {rs : List V} (h1 : H[0]? = some (.list zp)) (h2 : H[1]? = some (.list rs)) (hl : rs.length ≤ 1000) :
  ∃ t, ow t k x ∧ zf ⟨[v0, some (.ref 0), some (.ref 1), some (.int k), some (.int x), v5], H⟩ = .ok .next ⟨[v0, some (.ref 0), some (.ref 1), some (.int k), some (.int x), some (fk (lv k x))], (H ++ [t]).set 1 (.list (rs ++ [.ref H.length]))⟩ := by
 obtain ⟨t, ht, e⟩ := sE (k := k) (x := x) (v0 := v0) (v2 := some (.ref 1)) (v3 := some (.int k)) h1
 refine ⟨t, ht, ?_⟩
 unfold zf
 rw [aG (bx (sH (k := k) (x := x) (v0 := v0) (v1 := some (.ref 0)) (v2 := some (.ref 1)) (v5 := v5) (H := H)))]
 simp only [List.set_cons_succ, List.set_cons_zero]
 refine c0 (v := .none) ?_
 rw [cN (mo := ai 2) (v := .ref 1) (ae := ⟨[v0, some (.ref 0), some (.ref 1), some (.int k), some (.int x), some (fk (lv k x))], H⟩) rfl (cC h2) (aX e (ms := aa []) rfl)]
 refine dT (σ := ⟨_, H ++ [t]⟩) ?_ hl
 show (H ++ [t])[1]? = _
 rw [List.getElem?_append_left (List.getElem?_eq_some_iff.mp h2).1, h2]
theorem wu {tk tx : V → St → zV Unit} {body els : St → zV F} {src : Option (Nat × O)} {i : Nat} {x : V} {xs : List V} {σ ae aq aS : St} (hs : dL src σ.heap = true) (h1 : tk (.int i) σ = .ok () ae) (h2 : tx x ae = .ok () aq) (h3 : body aq = .ok .next aS) : dC tk tx body els src i (x :: xs) σ = dC tk tx body els src (i + 1) xs aS := by
 rw [dC, if_pos hs, h1]
 simp only [zV.calm, zV.bind_ok]
 rw [h2]
 simp only [zV.calm, zV.bind_ok]
 rw [h3]
 simp only [zV.calm, zV.bind_ok]
theorem bC {l : Nat} {o : O} {H : List O} (h : H[l]? = some o) : dL (some (l, o)) H = true := decide_eq_true h
noncomputable def fU (ys : List Int) (rs a b c d : List V) : List O := [.list zp, .list rs, .list a, .list b, .list c, .list d, .list (cb ys)]
noncomputable def d4 (n : Nat) : List V := (List.range n).map fun i => V.ref (7 + i)
theorem oP (n : Nat) : d4 (n + 1) = d4 n ++ [V.ref (7 + n)] := by
 unfold d4; rw [List.range_succ, List.map_append]; rfl
theorem we {z : Addr} {ys : List Int} {a b c d : List V} (hy : ys.length = 6) : ∀ (todo pre : List Int) (ts : List O) (v3 v4 v5 : Option V), ys = pre ++ todo → ts.length = pre.length → (∀ (k : Nat) (x : Int) t, pre[k]? = some x → ts[k]? = some t → ow t k x) →
  ∃ w3 w4 w5 us, dC (ao 3) (ao 4) zf (aa F.next) (some (6, .list (cb ys))) pre.length (cb todo) ⟨[some (.top z), some (.ref 0), some (.ref 1), v3, v4, v5], fU ys (d4 pre.length) a b c d ++ ts⟩
   = .ok .next ⟨[some (.top z), some (.ref 0), some (.ref 1), w3, w4, w5], fU ys (d4 6) a b c d ++ us⟩ ∧ us.length = 6 ∧ ∀ (k : Nat) (x : Int) t, ys[k]? = some x → us[k]? = some t → ow t k x := by
 intro todo
 induction todo with
 | nil =>
  intro pre ts v3 v4 v5 h1 h2 h3
  rw [List.append_nil] at h1
  subst h1
  refine ⟨v3, v4, v5, ts, ?_, by lia, h3⟩
  rw [hy]
  show (if dL (some (6, .list (cb ys))) (fU ys (d4 6) a b c d ++ ts) = true then _ else _) = _
  rw [if_pos (bC rfl)]
  rfl
 | cons x todo ih =>
  intro pre ts v3 v4 v5 h1 h2 h3
  have hpl : pre.length ≤ 6 := by rw [h1] at hy; simp at hy; lia
  obtain ⟨t, ht, e⟩ := sM (k := pre.length) (x := x) (v0 := some (.top z)) (v5 := v5) (H := fU ys (d4 pre.length) a b c d ++ ts) (rs := d4 pre.length) rfl rfl (by unfold d4; simp; lia)
  have hn : (fU ys (d4 pre.length) a b c d ++ ts ++ [t]).set 1 (.list (d4 pre.length ++ [.ref (fU ys (d4 pre.length) a b c d ++ ts).length])) = fU ys (d4 (pre.length + 1)) a b c d ++ (ts ++ [t]) := by
   rw [oP, List.length_append, h2, List.append_assoc]; rfl
  rw [hn] at e
  obtain ⟨w3, w4, w5, us, q1, q2, q3⟩ := ih (pre ++ [x]) (ts ++ [t]) (some (.int (pre.length : Nat))) (some (.int x)) (some (fk (lv pre.length x))) (by rw [h1, List.append_assoc]; rfl) (by simp [h2]) (by
   intro k y u hk hu
   by_cases hlt : k < pre.length
   ·rw [List.getElem?_append_left hlt] at hk
    rw [List.getElem?_append_left (by lia)] at hu
    exact h3 k y u hk hu
   ·have hk' := (List.getElem?_eq_some_iff.mp hk).1
    simp at hk'
    have : k = pre.length := by lia
    subst this
    rw [List.getElem?_append_right (Nat.le_refl _), Nat.sub_self] at hk
    rw [List.getElem?_append_right (by lia), h2, Nat.sub_self] at hu
    cases hk; cases hu; exact ht)
  refine ⟨w3, w4, w5, us, ?_, q2, q3⟩
  show dC _ _ _ _ _ _ (.int x :: cb todo) _ = _
  rw [wu (bC rfl) rfl rfl e]
  rw [List.length_append] at q1
  exact q1
noncomputable def j0 (H : List O) (l : Nat) (par : Nat → Option Nat) : Prop := ∃ ls : List Nat, H[l]? = some (.list (ls.map .ref)) ∧ ls.length = 6 ∧ ∀ k, k < 6 → ∃ m c d i j : Nat, ∃ p : Int, ls[k]? = some m ∧ c < 4 ∧ d < 6 ∧ i < 6 ∧ j < 6 ∧ 1024 ≤ p ∧ p < 61024 ∧ H[m]? = some (ev (fk (par k)) c d (pc i ++ pc j) p)
theorem j0.at {H : List O} {l : Nat} {par : Nat → Option Nat} (h : j0 H l par) : df H l par := by
 obtain ⟨ls, h1, h2, h3⟩ := h
 refine ⟨ls, h1, h2, fun k hk => ?_⟩
 obtain ⟨m, c, d, i, j, p, q1, _, _, _, _, _, _, q2⟩ := h3 k hk
 exact ⟨m, _, q1, q2⟩
noncomputable def oV (ys : List Int) (k : Nat) : Option Nat := match ys[k]? with
 | some x => lv k x
 | none => none
theorem s0 {ys : List Int} {k p : Nat} (h : oV ys k = some p) : p < 6 := by
 unfold oV lv at h
 split at h
 ·split at h
  ·rename_i x _ q
   cases h
   lia
  ·cases h
 ·cases h
theorem xE (z : Addr) (s : List Int) (hs : s.length ≤ 63) : ∃ τ, o9 z (cb s) [.top z] [] = .ok (.ref 1) τ ∧ j0 τ.heap 1 (oV (ey s)) ∧ τ.heap.all (eB (mZ τ.heap.length)) = true := by
 obtain ⟨a, b, c, d, e1, hi⟩ := sJ z s hs (.list zp) (.list []) (some (.ref 0)) (some (.ref 1)) none none none
 obtain ⟨w3, w4, w5, us, q1, q2, q3⟩ := we (z := z) (a := a) (b := b) (c := c) (d := d) (h9 s) (ey s) [] [] none none none rfl rfl (fun k x t h => by simp at h)
 refine ⟨⟨[some (.top z), some (.ref 0), some (.ref 1), w3, w4, w5], fU (ey s) (d4 6) a b c d ++ us⟩, ?_, ?_, ?_⟩
 ·refine du (b8 := []) (L := [some (.top z), none, none, none, none, none]) rfl rfl ?_
  have a1 := bx (i := 1) (cP (ms := (aj (aa (V.str "a"))
      (aj (aa (V.str "\""))
       (aj (aa (V.str " b"))
        (aj (aa (V.str "\"\""))
         (aj (aa (V.str "ä")) (aj (aa (V.str "/")) (aa [])))))))) (vs := zp) (σ := ⟨[some (.top z), none, none, none, none, none], []⟩) (ae := ⟨[some (.top z), none, none, none, none, none], []⟩) rfl (by show 6 ≤ 1000; decide))
  have a2 := bx (i := 2) (cP (ms := aa []) (vs := []) (σ := ⟨[some (.top z), some (.ref 0), none, none, none, none], [.list zp]⟩) (ae := ⟨[some (.top z), some (.ref 0), none, none, none, none], [.list zp]⟩) rfl (by show 0 ≤ 1000; decide))
  refine (aG a1).trans ?_
  refine (aG a2).trans ?_
  refine (aG (ae := ⟨[some (.top z), some (.ref 0), some (.ref 1), w3, w4, w5], fU (ey s) (d4 6) a b c d ++ us⟩) ?_).trans (eK rfl)
  show (ze z (cb s) ⟨[some (.top z), some (.ref 0), some (.ref 1), none, none, none], [.list zp, .list []]⟩).bind _ = _
  rw [e1, zV.bind_ok]
  exact q1
 ·refine ⟨(List.range 6).map (7 + ·), ?_, rfl, fun k hk => ?_⟩
  ·rfl
  ·have hk' : k < (ey s).length := by rw [h9]; exact hk
   have hk2 : k < us.length := by lia
   obtain ⟨cc, dd, i, j, p, g1, g2, g3, g4, g5, g6, g7⟩ := q3 k _ _ (List.getElem?_eq_getElem hk') (List.getElem?_eq_getElem hk2)
   refine ⟨7 + k, cc, dd, i, j, p, ?_, g1, g2, g3, g4, g5, g6, ?_⟩
   ·rw [List.getElem?_map, List.getElem?_range hk]; rfl
   ·show (fU (ey s) (d4 6) a b c d ++ us)[7 + k]? = _
    rw [List.getElem?_append_right (Nat.le_add_right 7 k)]
    show us[7 + k - 7]? = _
    rw [Nat.add_sub_cancel_left, List.getElem?_eq_getElem hk2, g7]
    unfold oV
    rw [List.getElem?_eq_getElem hk']
 ·have hint : ∀ (p : Nat → Bool) (xs : List V), (∀ v ∈ xs, ∃ i, v = .int i) → eB p (.list xs) = true := fun p xs h => by
   show xs.all (oQ p) = true
   rw [List.all_eq_true]
   intro v hv
   obtain ⟨i, rfl⟩ := h v hv
   rfl
  have hv : ∀ zs : List Int, ∀ v ∈ cb zs, ∃ i, v = .int i := fun zs v hv => by
   unfold cb at hv
   obtain ⟨i, _, rfl⟩ := List.mem_map.mp hv
   exact ⟨i, rfl⟩
  have hlen : (fU (ey s) (d4 6) a b c d ++ us).length = 13 := by rw [List.length_append, q2]; rfl
  show (fU (ey s) (d4 6) a b c d ++ us).all (eB (mZ (fU (ey s) (d4 6) a b c d ++ us).length)) = true
  rw [hlen, List.all_append, Bool.and_eq_true]
  constructor
  ·unfold fU
   simp only [List.all_cons, List.all_nil, Bool.and_true, Bool.and_eq_true]
   refine ⟨rfl, rfl, hint _ _ fun v h => hi v (by simp [h]), hint _ _ fun v h => hi v (by simp [h]), hint _ _ fun v h => hi v (by simp [h]), hint _ _ fun v h => hi v (by simp [h]), hint _ _ (hv _)⟩
  ·rw [List.all_eq_true]
   intro t ht
   obtain ⟨k, hk, rfl⟩ := List.mem_iff_getElem.mp ht
   have hk' : k < (ey s).length := by rw [h9]; lia
   obtain ⟨cc, dd, i, j, p, _, _, _, _, _, _, g7⟩ := q3 k _ _ (List.getElem?_eq_getElem hk') (List.getElem?_eq_getElem hk)
   rw [g7]
   cases lv k (ey s)[k] <;> rfl
theorem ca : ∀ {l m : List Nat}, l.Nodup → (∀ x ∈ l, x ∈ m) → l.length ≤ m.length
 | [], _, _, _ => Nat.zero_le _
 | x :: l, m, hn, hs => by
  have hx := hs x (List.mem_cons_self ..)
  have hn' := List.nodup_cons.mp hn
  have := ca (l := l) (m := m.erase x) hn'.2 fun y hy => by
   have hne : y ≠ x := fun e => hn'.1 (e ▸ hy)
   exact (List.mem_erase_of_ne hne).mpr (hs y (List.mem_cons_of_mem _ hy))
  rw [List.length_erase_of_mem hx] at this
  have := List.length_pos_of_mem hx
  simp only [List.length_cons]
  lia
section
variable (par : Nat → Option Nat) (su : Nat → List Nat) (ord : List Nat)
noncomputable def zO : List (Nat × Nat) → Option (Nat × List (Nat × Nat))
 | [] => none
 | (x, p) :: r => match (su x)[p]? with
  | some y => some (y, (x, p + 1) :: r)
  | none => zO r
noncomputable def fV : Nat → Nat → List (Nat × Nat) → List Nat → Option (Option (List Nat))
 | 0, _, _, _ => none
 | f + 1, node, T, sn =>
  if node ∈ sn then
   if node ∈ T.map (·.1) then some none else
    match zO su T with
    | none => some (some sn)
    | some (y, T') => fV f y T' sn
  else
   match zO su ((node, 0) :: T) with
   | none => some (some (sn ++ [node]))
   | some (y, T') => fV f y T' (sn ++ [node])
noncomputable def bf : List Nat → List Nat → Option (Option (List Nat))
 | [], sn => some (some sn)
 | k :: ks, sn => if k ∈ sn then bf ks sn else match fV su 20 k [] sn with
  | none => none
  | some none => some none
  | some (some sn') => bf ks sn'
noncomputable def yM : Nat → List (Nat × Nat) → Prop
 | _, [] => True
 | c, (x, _) :: r => par c = some x ∧ yM x r
noncomputable def wQ : List (Nat × Nat) → Prop
 | [] => True
 | (x, _) :: r => yM par x r
noncomputable def t7 (fin : List Nat) : Option Nat → List (Nat × Nat) → Prop
 | _, [] => True
 | c, (x, p) :: r => (∀ y ∈ (su x).take p, y ∈ fin ∨ some y = c) ∧ t7 fin (some x) r
noncomputable def yJ : List Nat → Prop
 | [] => True
 | x :: r => (∀ y ∈ su x, y ∈ r) ∧ yJ r
structure Seen (T : List (Nat × Nat)) (sn fin : List Nat) : Prop where
 nod : sn.Nodup
 sub : ∀ x ∈ sn, x ∈ ord
 tn : (T.map (·.1)).Nodup
 spl : ∀ x, x ∈ sn ↔ x ∈ fin ∨ x ∈ T.map (·.1)
 dis : ∀ x ∈ fin, x ∉ T.map (·.1)
 fn : fin.Nodup
 topo : yJ su fin
noncomputable def zw (T : List (Nat × Nat)) : Nat := (T.map fun t => (su t.1).length - t.2).sum
noncomputable def rest (sn : List Nat) : Nat := ((ord.filter fun x => decide (x ∉ sn)).map fun x => (su x).length).sum
variable {par su ord}
theorem t7.mono {fin fin' : List Nat} {c c' : Option Nat} (h : ∀ x ∈ fin, x ∈ fin') (hc : ∀ y, some y = c → y ∈ fin' ∨ some y = c') : ∀ {T : List (Nat × Nat)}, t7 su fin c T → t7 su fin' c' T
 | [], _ => trivial
 | (x, p) :: r, ⟨h1, h2⟩ => ⟨fun y hy => (h1 y hy).elim (fun q => .inl (h y q)) (hc y), t7.mono h (fun y hy => .inr hy) h2⟩
theorem uM (hsu : ∀ x y, y ∈ su x → par y = some x ∧ y ∈ ord) : ∀ (T : List (Nat × Nat)) (sn fin : List Nat), Seen su ord T sn fin → wQ par T → t7 su fin none T →
  (zO su T = none ∧ ∃ fin', Seen su ord [] sn fin') ∨ (∃ y T' fin', zO su T = some (y, T') ∧ Seen su ord T' sn fin' ∧ yM par y T' ∧ t7 su fin' (some y) T' ∧ y ∈ ord ∧ zw su T' + 1 ≤ zw su T) := by
 intro T
 induction T with
 | nil => exact fun sn fin h _ _ => .inl ⟨rfl, fin, h⟩
 | cons t r ih =>
  obtain ⟨x, p⟩ := t
  intro sn fin h hl hp
  cases q : (su x)[p]? with
  | some y =>
   right
   have hlt := (List.getElem?_eq_some_iff.mp q).1
   have hy : y ∈ su x := List.mem_of_getElem? q
   refine ⟨y, (x, p + 1) :: r, fin, by simp only [zO, q], ⟨h.nod, h.sub, h.tn, h.spl, h.dis, h.fn, h.topo⟩, ⟨(hsu x y hy).1, hl⟩, ⟨fun z hz => ?_, hp.2⟩, (hsu x y hy).2, ?_⟩
   ·rw [List.take_add_one, q, List.mem_append] at hz
    rcases hz with hz | hz
    ·exact .inl ((hp.1 z hz).elim id fun e => by cases e)
    ·simp at hz; subst hz; exact .inr rfl
   ·simp only [zw, List.map_cons, List.sum_cons]; lia
  | none =>
   have hge : (su x).length ≤ p := List.getElem?_eq_none_iff.mp q
   have hall : ∀ y ∈ su x, y ∈ fin := fun y hy => by
    have := hp.1 y (by rw [List.take_of_length_le hge]; exact hy)
    exact this.elim id fun e => by cases e
   have hxT : x ∉ r.map (·.1) := (List.nodup_cons.mp h.tn).1
   have hxf : x ∉ fin := fun hf => h.dis x hf (List.mem_cons_self ..)
   have h' : Seen su ord r sn (x :: fin) := ⟨h.nod, h.sub, (List.nodup_cons.mp h.tn).2, fun z => by
     rw [h.spl z, List.map_cons, List.mem_cons, List.mem_cons]
     constructor
     ·rintro (a | a | a)
      ·exact .inl (.inr a)
      ·exact .inl (.inl a)
      ·exact .inr a
     ·rintro ((a | a) | a)
      ·exact .inr (.inl a)
      ·exact .inl a
      ·exact .inr (.inr a), fun z hz => by
     rcases List.mem_cons.mp hz with rfl | hz
     ·exact hxT
     ·exact fun hr => h.dis z hz (List.mem_cons_of_mem _ hr), List.nodup_cons.mpr ⟨hxf, h.fn⟩, ⟨hall, h.topo⟩⟩
   have hl' : wQ par r := by
    cases r with
    | nil => trivial
    | cons t r => exact hl.2
   have hp' : t7 su (x :: fin) none r := hp.2.mono (fun z hz => List.mem_cons_of_mem _ hz) fun y e => by cases e; exact .inl (List.mem_cons_self ..)
   rcases ih sn (x :: fin) h' hl' hp' with ⟨a, b⟩ | ⟨y, T', fin', a, b, c, d, e, f⟩
   ·exact .inl ⟨by simp only [zO, q, a], b⟩
   ·refine .inr ⟨y, T', fin', by simp only [zO, q, a], b, c, d, e, ?_⟩
    have : zw su ((x, p) :: r) = ((su x).length - p) + zw su r := by simp only [zw, List.map_cons, List.sum_cons]
    lia
noncomputable def rS (par : Nat → Option Nat) (cyc : List Nat) : Prop := cyc ≠ [] ∧ ∀ y ∈ cyc, ∃ x ∈ cyc, par y = some x
theorem qA : ∀ (T : List (Nat × Nat)) (c z : Nat), yM par c T → z ∈ T.map (·.1) → ∃ cyc : List Nat, z ∈ cyc ∧ (∀ y ∈ cyc, y ∈ T.map (·.1)) ∧ (∃ x ∈ cyc, par c = some x) ∧ ∀ y ∈ cyc, y ≠ z → ∃ x ∈ cyc, par y = some x
 | [], _, _, _, h => by cases h
 | (x, p) :: r, c, z, hl, h => by
  by_cases e : x = z
  ·subst e
   exact ⟨[x], by simp, by simp, ⟨x, by simp, hl.1⟩, fun y hy hne => absurd (by simpa using hy) hne⟩
  ·have hz : z ∈ r.map (·.1) := by
    rcases List.mem_cons.mp h with h | h
    ·exact absurd h.symm e
    ·exact h
   obtain ⟨cyc, h1, h2, h3, h4⟩ := qA r x z hl.2 hz
   refine ⟨x :: cyc, List.mem_cons_of_mem _ h1, fun y hy => ?_, ⟨x, List.mem_cons_self .., hl.1⟩, fun y hy hne => ?_⟩
   ·rcases List.mem_cons.mp hy with rfl | hy
    ·exact List.mem_cons_self ..
    ·exact List.mem_cons_of_mem _ (h2 y hy)
   ·rcases List.mem_cons.mp hy with rfl | hy
    ·obtain ⟨a, ha, e⟩ := h3; exact ⟨a, List.mem_cons_of_mem _ ha, e⟩
    ·obtain ⟨a, ha, e⟩ := h4 y hy hne; exact ⟨a, List.mem_cons_of_mem _ ha, e⟩
theorem qB : ∀ {ord : List Nat} {sn : List Nat} {x : Nat}, ord.Nodup → x ∈ ord → x ∉ sn → rest su ord (sn ++ [x]) + (su x).length = rest su ord sn := by
 intro ord
 induction ord with
 | nil => intro sn x _ h; cases h
 | cons a ord ih =>
  intro sn x hn hx hs
  have hn' := List.nodup_cons.mp hn
  by_cases e : a = x
  ·subst e
   have hsame : ∀ l : List Nat, a ∉ l → (l.filter fun y => decide (y ∉ sn ++ [a])) = l.filter fun y => decide (y ∉ sn) := fun l hl => by
    apply List.filter_congr
    intro y hy
    have : y ≠ a := fun q => hl (q ▸ hy)
    simp [this]
   unfold rest
   rw [List.filter_cons, List.filter_cons, if_neg (by simp), if_pos (by simpa using hs), hsame ord hn'.1]
   simp only [List.map_cons, List.sum_cons]
   lia
  ·have hx' : x ∈ ord := by
    rcases List.mem_cons.mp hx with h | h
    ·exact absurd h.symm e
    ·exact h
   have ih' := ih hn'.2 hx' hs
   unfold rest at ih' ⊢
   rw [List.filter_cons, List.filter_cons]
   by_cases ha : a ∈ sn
   ·rw [if_neg (by simp [ha]), if_neg (by simp [ha])]; exact ih'
   ·rw [if_pos (by simp [ha, e]), if_pos (by simp [ha])]
    simp only [List.map_cons, List.sum_cons]
    lia
theorem vG (sn : List Nat) : rest su ord sn ≤ rest su ord [] := by
 unfold rest
 induction ord with
 | nil => exact Nat.le_refl _
 | cons a ord ih =>
  have e : decide (a ∉ ([] : List Nat)) = true := by simp
  simp only [List.filter_cons, e, if_true, List.map_cons, List.sum_cons]
  split
  ·simp only [List.map_cons, List.sum_cons]; lia
  ·lia
theorem uP (hsu : ∀ x y, y ∈ su x → par y = some x ∧ y ∈ ord) (ho : ord.Nodup) : ∀ (f node : Nat) (T : List (Nat × Nat)) (sn fin : List Nat), Seen su ord T sn fin → node ∈ ord → yM par node T → t7 su fin (some node) T → rest su ord sn + zw su T < f →
  (fV su f node T sn = some none ∧ ∃ cyc, rS par cyc ∧ ∀ y ∈ cyc, y ∈ ord) ∨ (∃ sn' fin', fV su f node T sn = some (some sn') ∧ Seen su ord [] sn' fin' ∧ node ∈ sn' ∧ ∀ x ∈ sn, x ∈ sn') := by
 intro f
 induction f with
 | zero => intro node T sn fin _ _ _ _ h; lia
 | succ f ih =>
  intro node T sn fin h hno hl hp hm
  by_cases h1 : node ∈ sn
  ·by_cases h2 : node ∈ T.map (·.1)
   ·left
    refine ⟨by simp only [fV, h1, h2, if_true], ?_⟩
    obtain ⟨cyc, c1, c2, c3, c4⟩ := qA T node node hl h2
    refine ⟨cyc, ⟨fun e => (by rw [e] at c1; cases c1), fun y hy => ?_⟩, fun y hy => h.sub y ((h.spl y).mpr (.inr (c2 y hy)))⟩
    by_cases e : y = node
    ·subst e; exact c3
    ·exact c4 y hy e
   ·have hf : node ∈ fin := ((h.spl node).mp h1).elim id fun q => absurd q h2
    have hlB : wQ par T := by
     cases T with
     | nil => trivial
     | cons t r => exact hl.2
    rcases uM hsu T sn fin h hlB (hp.mono (fun _ q => q) fun y e => by cases e; exact .inl hf) with ⟨a, fin', b⟩ | ⟨y, T', fin', a, b, c, d, e, g⟩
    ·exact .inr ⟨sn, fin', by simp only [fV, h1, h2, if_true, if_false, a], b, h1, fun _ q => q⟩
    ·have hw : fV su (f + 1) node T sn = fV su f y T' sn := by simp only [fV, h1, h2, if_true, if_false, a]
     rw [hw]
     rcases ih y T' sn fin' b e c d (by lia) with q | ⟨sn', fin'', q1, q2, q3, q4⟩
     ·exact .inl q
     ·exact .inr ⟨sn', fin'', q1, q2, q4 _ h1, q4⟩
  ·have hT : node ∉ T.map (·.1) := fun q => h1 ((h.spl node).mpr (.inr q))
   have hfi : node ∉ fin := fun q => h1 ((h.spl node).mpr (.inl q))
   have h' : Seen su ord ((node, 0) :: T) (sn ++ [node]) fin := ⟨by
     rw [List.nodup_append]; exact ⟨h.nod, by simp, fun a ha b hb => by simp at hb; subst hb; exact fun e => h1 (e ▸ ha)⟩, fun x hx => by
     rcases List.mem_append.mp hx with hx | hx
     ·exact h.sub x hx
     ·simp at hx; subst hx; exact hno, List.nodup_cons.mpr ⟨hT, h.tn⟩, fun x => by
     rw [List.mem_append, List.mem_singleton, h.spl x, List.map_cons, List.mem_cons]
     constructor
     ·rintro ((a | a) | a)
      ·exact .inl a
      ·exact .inr (.inr a)
      ·exact .inr (.inl a)
     ·rintro (a | a | a)
      ·exact .inl (.inl a)
      ·exact .inr a
      ·exact .inl (.inr a), fun x hx q => by
     rcases List.mem_cons.mp q with rfl | q
     ·exact hfi hx
     ·exact h.dis x hx q, h.fn, h.topo⟩
   have hmu : zw su ((node, 0) :: T) = (su node).length + zw su T := by simp only [zw, List.map_cons, List.sum_cons, Nat.sub_zero]
   have hrp := qB (su := su) ho hno h1
   rcases uM hsu ((node, 0) :: T) (sn ++ [node]) fin h' hl ⟨fun y hy => by simp at hy, hp⟩ with ⟨a, fin', b⟩ | ⟨y, T', fin', a, b, c, d, e, g⟩
   ·exact .inr ⟨sn ++ [node], fin', by simp only [fV, h1, if_false, a], b, by simp, fun x hx => by simp [hx]⟩
   ·have hw : fV su (f + 1) node T sn = fV su f y T' (sn ++ [node]) := by simp only [fV, h1, if_false, a]
    rw [hw]
    rcases ih y T' (sn ++ [node]) fin' b e c d (by lia) with q | ⟨sn', fin'', q1, q2, q3, q4⟩
    ·exact .inl q
    ·exact .inr ⟨sn', fin'', q1, q2, q4 _ (by simp), fun x hx => q4 _ (by simp [hx])⟩
theorem oC (hsu : ∀ x y, y ∈ su x → par y = some x ∧ y ∈ ord) (ho : ord.Nodup) (hr : rest su ord [] < 20) : ∀ (ks sn fin : List Nat), (∀ k ∈ ks, k ∈ ord) → Seen su ord [] sn fin →
  (bf su ks sn = some none ∧ ∃ cyc, rS par cyc ∧ ∀ y ∈ cyc, y ∈ ord) ∨ (∃ sn' fin', bf su ks sn = some (some sn') ∧ Seen su ord [] sn' fin' ∧ (∀ k ∈ ks, k ∈ sn') ∧ ∀ x ∈ sn, x ∈ sn') := by
 intro ks
 induction ks with
 | nil => exact fun sn fin _ h => .inr ⟨sn, fin, rfl, h, by simp, fun _ q => q⟩
 | cons k ks ih =>
  intro sn fin hk h
  by_cases h1 : k ∈ sn
  ·have hw : bf su (k :: ks) sn = bf su ks sn := by simp only [bf, h1, if_true]
   rw [hw]
   rcases ih sn fin (fun x hx => hk x (List.mem_cons_of_mem _ hx)) h with q | ⟨sn', fin', q1, q2, q3, q4⟩
   ·exact .inl q
   ·exact .inr ⟨sn', fin', q1, q2, fun x hx => by
     rcases List.mem_cons.mp hx with rfl | hx
     ·exact q4 _ h1
     ·exact q3 x hx, q4⟩
  ·have hrl := vG (su := su) (ord := ord) sn
   rcases uP hsu ho 20 k [] sn fin h (hk k (List.mem_cons_self ..)) trivial trivial (by simp only [zw, List.map_nil, List.sum_nil]; lia) with ⟨q, c⟩ | ⟨sn', fin', q1, q2, q3, q4⟩
   ·exact .inl ⟨by simp only [bf, h1, if_false, q], c⟩
   ·have hw : bf su (k :: ks) sn = bf su ks sn' := by simp only [bf, h1, if_false, q1]
    rw [hw]
    rcases ih sn' fin' (fun x hx => hk x (List.mem_cons_of_mem _ hx)) q2 with q | ⟨sn2, fin2, r1, r2, r3, r4⟩
    ·exact .inl q
    ·exact .inr ⟨sn2, fin2, r1, r2, fun x hx => by
      rcases List.mem_cons.mp hx with rfl | hx
      ·exact r4 _ q3
      ·exact r3 x hx, fun x hx => r4 _ (q4 x hx)⟩
theorem jp {cyc : List Nat} (h : rS par cyc) : ∀ n, ∀ y ∈ cyc, zG par n y = n
 | 0, _, _ => rfl
 | n + 1, y, hy => by
  obtain ⟨x, hx, e⟩ := h.2 y hy
  simp only [zG, e, jp h n x hx]
theorem yJ.at : ∀ {fin : List Nat}, yJ su fin → ∀ {i x y : Nat}, fin[i]? = some x → y ∈ su x → ∃ j, i < j ∧ fin[j]? = some y
 | [], _, i, x, y, h, _ => by simp at h
 | a :: fin, ht, 0, x, y, h, hy => by
  simp at h; subst h
  obtain ⟨j, hj⟩ := List.mem_iff_getElem?.mp (ht.1 y hy)
  exact ⟨j + 1, by lia, by simpa using hj⟩
 | a :: fin, ht, i + 1, x, y, h, hy => by
  obtain ⟨j, hj, e⟩ := ht.2.at (i := i) (by simpa using h) hy
  exact ⟨j + 1, by lia, by simpa using e⟩
theorem qR {l : List Nat} (h : l.Nodup) {i j x : Nat} (hi : l[i]? = some x) (hj : l[j]? = some x) : i = j := by
 obtain ⟨a, ea⟩ := List.getElem?_eq_some_iff.mp hi
 obtain ⟨b, eb⟩ := List.getElem?_eq_some_iff.mp hj
 exact (List.getElem_inj h).mp (ea.trans eb.symm)
theorem tT {fin : List Nat} (hf : fin.Nodup) (ht : yJ su fin) (hs : ∀ x y, par y = some x → y ∈ fin → y ∈ su x ∧ x ∈ fin) : ∀ (m n y : Nat), fin[m]? = some y → zG par n y ≤ m := by
 intro m
 induction m using Nat.strongRecOn with
 | _ m ih =>
  intro n y hy
  cases n with
  | zero => exact Nat.zero_le _
  | succ n =>
   cases q : par y with
   | none => simp only [zG, q]; exact Nat.zero_le _
   | some x =>
    obtain ⟨h1, h2⟩ := hs x y q (List.mem_of_getElem? hy)
    obtain ⟨i, hi⟩ := List.mem_iff_getElem?.mp h2
    obtain ⟨j, hj, e⟩ := ht.at hi h1
    have := qR hf e hy
    subst this
    have := ih i hj n x hi
    simp only [zG, q]
    lia
end
noncomputable def aP (l : List Nat) : List V := l.map fun (x : Nat) => V.int (x : Int)
noncomputable def eD (n : Nat) (rdy : V) (po fi : Int) : List (Str × V) := [(Str.ofString "_node2info", .ref (n + 2)), (Str.ofString "_ready_nodes", rdy), (Str.ofString "_npassedout", .int po), (Str.ofString "_nfinished", .int fi)]
noncomputable def gE (ord : List Nat) (nd : Nat → Nat) : List (Int × V) := ord.map fun (k : Nat) => ((k : Int), V.ref (nd k))
structure zR (pre : List O) (ord : List Nat) (nd sc : Nat → Nat) (np : Nat → Int) (su : Nat → List Nat) (rdy : V) (po fi : Int) (H : List O) : Prop where
 take : H.take pre.length = pre
 fl : H[pre.length]? = some (.idict (eD pre.length rdy po fi))
 so : H[pre.length + 1]? = some (.inst 269 pre.length [])
 di : ∃ ep, H[pre.length + 2]? = some (.dict (gE ord nd) ep)
 no : ∀ k ∈ ord, ∃ d fs, H[nd k]? = some (.inst 172 d [some (.int k), some (.int (np k)), some (.ref (sc k))]) ∧ H[d]? = some (.idict fs) ∧ pre.length ≤ nd k
 sx : ∀ k ∈ ord, H[sc k]? = some (.list (aP (su k))) ∧ pre.length ≤ sc k
 inj : ∀ j ∈ ord, ∀ k ∈ ord, sc j = sc k → j = k
 nod : ord.Nodup
 dfl : ∀ k, k ∉ ord → np k = 0 ∧ su k = []
theorem cD {H : List O} {l : Nat} {o : O} (h : H[l]? = some o) : l < H.length := (List.getElem?_eq_some_iff.mp h).1
theorem aY {H : List O} {l m : Nat} {o o' : O} (h : H[l]? = some o) (hne : m ≠ l) : (H.set m o')[l]? = some o := by rw [List.getElem?_set_ne hne, h]
theorem fN {H : List O} {m : Nat} {o o' : O} (h : H[m]? = some o) : (H.set m o')[m]? = some o' := by rw [List.getElem?_set_self (cD h)]
theorem aE {H X : List O} {l : Nat} {o : O} (h : H[l]? = some o) : (H ++ X)[l]? = some o := by rw [List.getElem?_append_left (cD h), h]
theorem aN {H : List O} {l m : Nat} {a b : O} (h : H[l]? = some a) (h' : H[m]? = some b) (hab : a ≠ b) : l ≠ m := fun e => by subst e; rw [h] at h'; exact hab (by cases h'; rfl)
theorem take_set {H pre : List O} {m : Nat} {o : O} (h : H.take pre.length = pre) (hm : pre.length ≤ m) : (H.set m o).take pre.length = pre := by
 rw [List.take_set, h, List.set_eq_of_length_le hm]
theorem fF {H X pre : List O} (h : H.take pre.length = pre) : (H ++ X).take pre.length = pre := by
 have : pre.length ≤ H.length := by rw [← h, List.length_take]; lia
 rw [List.take_append_of_le_length this, h]
theorem gq {nd : Nat → Nat} : ∀ (ord : List Nat) (k : Nat), (gE ord nd).lookup (k : Int) = if k ∈ ord then some (V.ref (nd k)) else none
 | [], _ => rfl
 | a :: ord, k => by
  unfold gE
  rw [List.map_cons, List.lookup_cons]
  by_cases e : k = a
  ·subst e; simp
  ·have e1 : ((k : Int) == (a : Int)) = false := by rw [beq_eq_false_iff_ne]; lia
   simp only [e1]
   have := gq (nd := nd) ord k
   unfold gE at this
   rw [this]
   simp only [List.mem_cons, e, false_or]
section
variable {pre : List O} {ord : List Nat} {nd sc : Nat → Nat} {np : Nat → Int} {su : Nat → List Nat} {rdy : V} {po fi : Int} {H : List O}
theorem zR.n2i (S : zR pre ord nd sc np su rdy po fi H) (L : List (Option V)) : getD 269 "_node2info" (.ref (pre.length + 1)) ⟨L, H⟩ = .ok (.ref (pre.length + 2)) ⟨L, H⟩ := by
 have e : nX (eD pre.length rdy po fi) "_node2info" = some (.ref (pre.length + 2)) := by kernel_rfl
 exact jP S.so S.fl e rfl
theorem zR.grd (S : zR pre ord nd sc np su rdy po fi H) (ho : okV rdy = true) (L : List (Option V)) : getD 269 "_ready_nodes" (.ref (pre.length + 1)) ⟨L, H⟩ = .ok rdy ⟨L, H⟩ := by
 have e : nX (eD pre.length rdy po fi) "_ready_nodes" = some rdy := by kernel_rfl
 exact jP S.so S.fl e ho
theorem zR.gpo (S : zR pre ord nd sc np su rdy po fi H) (L : List (Option V)) : getD 269 "_npassedout" (.ref (pre.length + 1)) ⟨L, H⟩ = .ok (.int po) ⟨L, H⟩ := by
 have e : nX (eD pre.length rdy po fi) "_npassedout" = some (.int po) := by kernel_rfl
 exact jP S.so S.fl e rfl
theorem zR.gfi (S : zR pre ord nd sc np su rdy po fi H) (L : List (Option V)) : getD 269 "_nfinished" (.ref (pre.length + 1)) ⟨L, H⟩ = .ok (.int fi) ⟨L, H⟩ := by
 have e : nX (eD pre.length rdy po fi) "_nfinished" = some (.int fi) := by kernel_rfl
 exact jP S.so S.fl e rfl
theorem zR.srdy (S : zR pre ord nd sc np su rdy po fi H) (u : V) (L : List (Option V)) : iP 269 "_ready_nodes" (.ref (pre.length + 1)) u ⟨L, H⟩ = .ok () ⟨L, H.set pre.length (.idict (eD pre.length u po fi))⟩ := by
 have e : lK (eD pre.length rdy po fi) "_ready_nodes" u = eD pre.length u po fi := by kernel_rfl
 rw [jF S.so S.fl (by show 4 ≤ 900; decide), e]
theorem zR.spo (S : zR pre ord nd sc np su rdy po fi H) (u : Int) (L : List (Option V)) : iP 269 "_npassedout" (.ref (pre.length + 1)) (.int u) ⟨L, H⟩ = .ok () ⟨L, H.set pre.length (.idict (eD pre.length rdy u fi))⟩ := by
 have e : lK (eD pre.length rdy po fi) "_npassedout" (.int u) = eD pre.length rdy u fi := by kernel_rfl
 rw [jF S.so S.fl (by show 4 ≤ 900; decide), e]
theorem zR.sfi (S : zR pre ord nd sc np su rdy po fi H) (u : Int) (L : List (Option V)) : iP 269 "_nfinished" (.ref (pre.length + 1)) (.int u) ⟨L, H⟩ = .ok () ⟨L, H.set pre.length (.idict (eD pre.length rdy po u))⟩ := by
 have e : lK (eD pre.length rdy po fi) "_nfinished" (.int u) = eD pre.length rdy po u := by kernel_rfl
 rw [jF S.so S.fl (by show 4 ≤ 900; decide), e]
theorem zR.own (S : zR pre ord nd sc np su rdy po fi H) {x : Str} (hx : (nX (eD pre.length rdy po fi) x).isNone = true) : bP 269 x (.ref (pre.length + 1)) H = true := by
 exact rc S.so S.fl hx
theorem zR.isD (S : zR pre ord nd sc np su rdy po fi H) : bQ (.ref (pre.length + 2)) H = true := by
 obtain ⟨ep, h⟩ := S.di
 exact yg h
theorem zR.dget (S : zR pre ord nd sc np su rdy po fi H) (k : Nat) (L : List (Option V)) : gx (.ref (pre.length + 2)) [.int k] ⟨L, H⟩ = .ok (if k ∈ ord then .ref (nd k) else .none) ⟨L, H⟩ := by
 obtain ⟨ep, h⟩ := S.di
 unfold gx
 rw [wY, gI_k, wp h, gq]
 split <;> rfl
theorem zR.dsub (S : zR pre ord nd sc np su rdy po fi H) {k : Nat} (hk : k ∈ ord) (L : List (Option V)) : br (.ref (pre.length + 2)) (.int k) ⟨L, H⟩ = .ok (.ref (nd k)) ⟨L, H⟩ := by
 obtain ⟨ep, h⟩ := S.di
 rw [kh h, gq, if_pos hk]; rfl
theorem zR.g0 (S : zR pre ord nd sc np su rdy po fi H) {k : Nat} (hk : k ∈ ord) (L : List (Option V)) : eM 172 0 (.ref (nd k)) ⟨L, H⟩ = .ok (.int k) ⟨L, H⟩ := by
 obtain ⟨d, fs, h1, h2, _⟩ := S.no k hk
 exact mK h1 h2 rfl rfl
theorem zR.g1 (S : zR pre ord nd sc np su rdy po fi H) {k : Nat} (hk : k ∈ ord) (L : List (Option V)) : eM 172 1 (.ref (nd k)) ⟨L, H⟩ = .ok (.int (np k)) ⟨L, H⟩ := by
 obtain ⟨d, fs, h1, h2, _⟩ := S.no k hk
 exact mK h1 h2 rfl rfl
theorem zR.g2 (S : zR pre ord nd sc np su rdy po fi H) {k : Nat} (hk : k ∈ ord) (L : List (Option V)) : eM 172 2 (.ref (nd k)) ⟨L, H⟩ = .ok (.ref (sc k)) ⟨L, H⟩ := by
 obtain ⟨d, fs, h1, h2, _⟩ := S.no k hk
 exact mK h1 h2 rfl rfl
theorem zR.ndInj (S : zR pre ord nd sc np su rdy po fi H) {j k : Nat} (hj : j ∈ ord) (hk : k ∈ ord) (e : nd j = nd k) : j = k := by
 obtain ⟨d, fs, h1, h2, _⟩ := S.no j hj
 obtain ⟨d', fs', h1', h2', _⟩ := S.no k hk
 rw [e, h1'] at h1
 simp only [Option.some.injEq, O.inst.injEq, List.cons.injEq, V.int.injEq] at h1
 lia
theorem zR.app (S : zR pre ord nd sc np su rdy po fi H) (X : List O) : zR pre ord nd sc np su rdy po fi (H ++ X) :=
 ⟨fF S.take, aE S.fl, aE S.so, S.di.elim fun ep h => ⟨ep, aE h⟩, fun k hk => by
  obtain ⟨d, fs, h1, h2, h3⟩ := S.no k hk; exact ⟨d, fs, aE h1, aE h2, h3⟩, fun k hk => ⟨aE (S.sx k hk).1, (S.sx k hk).2⟩, S.inj, S.nod, S.dfl⟩
theorem zR.setList (S : zR pre ord nd sc np su rdy po fi H) {m : Nat} {xs : List V} (h : H[m]? = some (.list xs)) (hm : pre.length ≤ m) (hs : ∀ k ∈ ord, sc k ≠ m) (o : O) : zR pre ord nd sc np su rdy po fi (H.set m o) :=
 ⟨take_set S.take hm, aY S.fl (aN h S.fl (by simp)), aY S.so (aN h S.so (by simp)), S.di.elim fun ep q => ⟨ep, aY q (aN h q (by simp))⟩, fun k hk => by
  obtain ⟨d, fs, h1, h2, h3⟩ := S.no k hk; exact ⟨d, fs, aY h1 (aN h h1 (by simp)), aY h2 (aN h h2 (by simp)), h3⟩, fun k hk => ⟨aY (S.sx k hk).1 (hs k hk).symm, (S.sx k hk).2⟩, S.inj, S.nod, S.dfl⟩
theorem zR.setFl (S : zR pre ord nd sc np su rdy po fi H) (rdy' : V) (po' fi' : Int) : zR pre ord nd sc np su rdy' po' fi' (H.set pre.length (.idict (eD pre.length rdy' po' fi'))) :=
 ⟨take_set S.take (Nat.le_refl _), fN S.fl, aY S.so (aN S.fl S.so (by simp)), S.di.elim fun ep q => ⟨ep, aY q (aN S.fl q (by simp))⟩, fun k hk => by
  obtain ⟨d, fs, h1, h2, h3⟩ := S.no k hk
  by_cases e : d = pre.length
  ·exact ⟨d, eD pre.length rdy' po' fi', aY h1 (aN S.fl h1 (by simp)), by rw [e]; exact fN S.fl, h3⟩
  ·exact ⟨d, fs, aY h1 (aN S.fl h1 (by simp)), aY h2 (fun q => e q.symm), h3⟩, fun k hk => ⟨aY (S.sx k hk).1 (aN S.fl (S.sx k hk).1 (by simp)), (S.sx k hk).2⟩, S.inj, S.nod, S.dfl⟩
noncomputable def upd {α : Type} (f : Nat → α) (k : Nat) (v : α) : Nat → α := fun x => if x = k then v else f x
theorem eE {α : Type} (f : Nat → α) (k : Nat) (v : α) : upd f k v k = v := if_pos rfl
theorem dc {α : Type} (f : Nat → α) {k x : Nat} (v : α) (h : x ≠ k) : upd f k v x = f x := if_neg h
theorem zR.s1 (S : zR pre ord nd sc np su rdy po fi H) {k : Nat} (hk : k ∈ ord) (z : Int) (L : List (Option V)) : ∃ H', fC 172 1 (.ref (nd k)) (.int z) ⟨L, H⟩ = .ok () ⟨L, H'⟩ ∧ zR pre ord nd sc (upd np k z) su rdy po fi H' ∧ H'.length = H.length ∧ ∀ (l : Nat) (xs : List V), H[l]? = some (O.list xs) → H'[l]? = some (O.list xs) := by
 obtain ⟨d, fs, h1, h2, h3⟩ := S.no k hk
 refine ⟨H.set (nd k) (.inst 172 d [some (.int k), some (.int z), some (.ref (sc k))]), ?_, ?_, List.length_set, fun l xs q => aY q (aN h1 q (by simp))⟩
 ·exact jC (σ := ⟨L, H⟩) h1 h2
 ·refine ⟨take_set S.take h3, aY S.fl (aN h1 S.fl (by simp)), aY S.so (aN h1 S.so (by simp)), S.di.elim fun ep q => ⟨ep, aY q (aN h1 q (by simp))⟩, fun j hj => ?_, fun j hj => ⟨aY (S.sx j hj).1 (aN h1 (S.sx j hj).1 (by simp)), (S.sx j hj).2⟩, S.inj, S.nod, fun j hj => ?_⟩
  ·by_cases e : j = k
   ·subst e
    exact ⟨d, fs, by rw [eE]; exact fN h1, aY h2 (aN h1 h2 (by simp)), h3⟩
   ·obtain ⟨d', fs', g1, g2, g3⟩ := S.no j hj
    exact ⟨d', fs', by rw [dc _ _ e]; exact aY g1 (fun q => e (S.ndInj hj hk q.symm)), aY g2 (aN h1 g2 (by simp)), g3⟩
  ·have : j ≠ k := fun e => hj (e ▸ hk)
   rw [dc _ _ this]; exact S.dfl j hj
theorem zR.addS (S : zR pre ord nd sc np su rdy po fi H) {k : Nat} (hk : k ∈ ord) (y : Nat) : zR pre ord nd sc np (upd su k (su k ++ [y])) rdy po fi (H.set (sc k) (.list (aP (su k) ++ [.int y]))) := by
 obtain ⟨h1, h3⟩ := S.sx k hk
 refine ⟨take_set S.take h3, aY S.fl (aN h1 S.fl (by simp)), aY S.so (aN h1 S.so (by simp)), S.di.elim fun ep q => ⟨ep, aY q (aN h1 q (by simp))⟩, fun j hj => ?_, fun j hj => ?_, S.inj, S.nod, fun j hj => ?_⟩
 ·obtain ⟨d', fs', g1, g2, g3⟩ := S.no j hj
  exact ⟨d', fs', aY g1 (aN h1 g1 (by simp)), aY g2 (aN h1 g2 (by simp)), g3⟩
 ·by_cases e : j = k
  ·subst e
   refine ⟨?_, h3⟩
   rw [eE, fN h1]
   unfold aP
   rw [List.map_append]; rfl
  ·exact ⟨by rw [dc _ _ e]; exact aY (S.sx j hj).1 (fun q => e (S.inj j hj k hk q.symm)), (S.sx j hj).2⟩
 ·have : j ≠ k := fun e => hj (e ▸ hk)
  rw [dc _ _ this]; exact S.dfl j hj
noncomputable def md (n k : Nat) : List O := [.idict [], .inst 172 n [some (.int k), some (.int 0), some (.ref (n + 2))], .list []]
theorem zR.new (S : zR pre ord nd sc np su rdy po fi H) {k : Nat} (hk : k ∉ ord) : ∀ ep, H[pre.length + 2]? = some (.dict (gE ord nd) ep) → zR pre (ord ++ [k]) (upd nd k (H.length + 1)) (upd sc k (H.length + 2)) np su rdy po fi ((H ++ md H.length k).set (pre.length + 2) (O.dict (gE ord nd ++ [((k : Int), V.ref (H.length + 1))]) (ep + 1))) := by
 intro ep hd
 have h1 := aE (X := md H.length k) hd
 have S' := S.app (md H.length k)
 have a0 : (H ++ md H.length k)[H.length]? = some (.idict []) := by rw [List.getElem?_append_right (Nat.le_refl _), Nat.sub_self]; rfl
 have a1 : (H ++ md H.length k)[H.length + 1]? = some (.inst 172 H.length [some (.int k), some (.int 0), some (.ref (H.length + 2))]) := by rw [List.getElem?_append_right (Nat.le_add_right _ _), Nat.add_sub_cancel_left]; rfl
 have a2 : (H ++ md H.length k)[H.length + 2]? = some (.list []) := by rw [List.getElem?_append_right (Nat.le_add_right _ _), Nat.add_sub_cancel_left]; rfl
 have hle : pre.length ≤ H.length := by have := cD hd; lia
 have hne : ∀ j ∈ ord, j ≠ k := fun j hj e => hk (e ▸ hj)
 refine ⟨take_set S'.take (Nat.le_add_right _ _), aY S'.fl (aN h1 S'.fl (by simp)), aY S'.so (aN h1 S'.so (by simp)), ⟨ep + 1, ?_⟩, fun j hj => ?_, fun j hj => ?_, fun i hi j hj e => ?_, ?_, fun j hj => S.dfl j fun q => hj (List.mem_append_left _ q)⟩
 ·rw [fN h1]
  unfold gE
  rw [List.map_append]
  congr 2
  congr 1
  ·apply List.map_congr_left
   intro j hj
   rw [dc _ _ (hne j hj)]
  ·simp only [List.map_cons, List.map_nil, eE]
 ·rcases List.mem_append.mp hj with hj | hj
  ·obtain ⟨d', fs', g1, g2, g3⟩ := S'.no j hj
   rw [dc _ _ (hne j hj), dc _ _ (hne j hj)]
   exact ⟨d', fs', aY g1 (aN h1 g1 (by simp)), aY g2 (aN h1 g2 (by simp)), g3⟩
  ·simp at hj; subst hj
   rw [eE, eE, (S.dfl j hk).1]
   exact ⟨H.length, [], aY a1 (aN h1 a1 (by simp)), aY a0 (aN h1 a0 (by simp)), by lia⟩
 ·rcases List.mem_append.mp hj with hj | hj
  ·rw [dc _ _ (hne j hj)]
   exact ⟨aY (S'.sx j hj).1 (aN h1 (S'.sx j hj).1 (by simp)), (S'.sx j hj).2⟩
  ·simp at hj; subst hj
   rw [eE, (S.dfl j hk).2]
   exact ⟨aY a2 (aN h1 a2 (by simp)), by lia⟩
 ·have hk2 : ∀ j ∈ ord, sc j < H.length := fun j hj => cD (S.sx j hj).1
  rcases List.mem_append.mp hi with qi | qi <;> rcases List.mem_append.mp hj with qj | qj
  ·rw [dc _ _ (hne i qi), dc _ _ (hne j qj)] at e; exact S.inj i qi j qj e
  ·have e2 : j = k := by simpa using qj
   rw [dc _ _ (hne i qi), e2, eE] at e
   have := hk2 i qi; lia
  ·have e2 : i = k := by simpa using qi
   rw [dc _ _ (hne j qj), e2, eE] at e
   have := hk2 j qj; lia
  ·have e2 : i = k := by simpa using qi
   have e3 : j = k := by simpa using qj
   rw [e2, e3]
 ·rw [List.nodup_append]
  exact ⟨S.nod, by simp, fun a ha b hb => by simp at hb; subst hb; exact hne a ha⟩
end
theorem bY {m : St → zV V} {f : V → St → zV Unit} {v : V} {σ ae aq : St} (h : m σ = .ok v ae) (h' : f v ae = .ok () aq) : an m f σ = .ok .next aq := by
 unfold an; rw [h, zV.bind_ok, h', zV.bind_ok]
theorem bz {g : V → St → zV V} {mo : St → zV V} {v : V} {σ ae : St} (h : mo σ = .ok v ae) : ba g mo σ = g v ae := by
 unfold ba; rw [h, zV.bind_ok]
theorem d9 {β : Type} {t : St → zV Bool} {a b : St → zV β} {c : Bool} {σ ae : St} (h : t σ = .ok c ae) : zB t a b σ = if c then a ae else b ae := by
 unfold zB; rw [h, zV.bind_ok]
theorem gM {t : St → zV Bool} {b e : St → zV F} {n : Nat} {σ ae aq : St} (ht : t σ = .ok true ae) (hb : b ae = .ok .next aq) : bT t b e (n + 1) σ = bT t b e n aq := by
 rw [bT, ht]
 simp only [zV.calm, zV.bind_ok, if_true]
 rw [hb]
 simp only [zV.calm, zV.bind_ok]
theorem j7 {t : St → zV Bool} {b e : St → zV F} {n : Nat} {σ ae aq : St} (ht : t σ = .ok true ae) (hb : b ae = .ok .brk aq) : bT t b e (n + 1) σ = .ok .next aq := by
 rw [bT, ht]
 simp only [zV.calm, zV.bind_ok, if_true]
 rw [hb]
 simp only [zV.calm, zV.bind_ok]
theorem pM {t : St → zV Bool} {b e : St → zV F} {n : Nat} {σ ae aq : St} {v : V} (ht : t σ = .ok true ae) (hb : b ae = .ok (.ret v) aq) : bT t b e (n + 1) σ = .ok (.ret v) aq := by
 rw [bT, ht]
 simp only [zV.calm, zV.bind_ok, if_true]
 rw [hb]
 simp only [zV.calm, zV.bind_ok]
theorem j6 {t : St → zV Bool} {b e : St → zV F} {n : Nat} {σ ae aq : St} {f : F} (ht : t σ = .ok false ae) (he : e ae = .ok f aq) : bT t b e (n + 1) σ = .ok f aq := by
 rw [bT, ht]
 simp only [zV.calm, zV.bind_ok, if_false, Bool.false_eq_true]
 rw [he]
theorem uc {m : St → zV F} {hd : zY} {f : F} {σ ae : St} (h : m σ = .ok f ae) : lQ m hd σ = .ok f ae := by
 unfold lQ; rw [h]
theorem pO {m : St → zV F} {hd : zY} {c : V} {as : List V} {σ ae : St} (h : m σ = .exc c as ae) : lQ m hd σ = hd c as ae := by
 unfold lQ; rw [h]
theorem wj {l : Nat} {xs : List V} {v : V} {σ : St} (h : σ.heap[l]? = some (.list (xs ++ [v]))) : br (.ref l) (.int (-1)) σ = .ok v σ := by
 have hl : (xs ++ [v]).length = xs.length + 1 := by simp
 rw [kg h, show decide ((0 : Int) ≤ -1) = false from rfl, cond_false, if_pos ⟨by decide, by rw [hl]; lia, by decide⟩, hl, show ((-1 : Int) + ((xs.length + 1 : Nat) : Int)).toNat = xs.length by lia]
 rw [List.getElem?_append_right (Nat.le_refl _), Nat.sub_self]; rfl
theorem fY {l : Nat} {xs : List V} {σ : St} (h : σ.heap[l]? = some (.list xs)) (hl : xs.length ≤ 1000) : bU (.ref l) σ = .ok (!xs.isEmpty) σ := by
 rw [r8 h, if_pos (by show xs.length ≤ 16777216; lia)]
theorem ul {l : Nat} {xs : List V} {v : V} {σ : St} (h : σ.heap[l]? = some (.list (xs ++ [v]))) (hl : xs.length ≤ 999) : oS (.ref l) [] σ = .ok v { σ with heap := σ.heap.set l (.list xs) } := by
 unfold oS
 rw [yV, iT h, List.getLast?_concat, List.dropLast_concat, y7]
 have hl2 : (xs ++ [v]).length = xs.length + 1 := by simp
 rw [hl2, if_pos (by show xs.length + 1 ≤ 16777216; lia)]
theorem tJ {l : Nat} {H : List O} {xs : List Int} (h : H[l]? = some (.set xs)) : eu (.ref l) H = true := by
 exact uv h
noncomputable def zC (H0 : List O) (a b c d : O) (Y : List O) : List O := H0 ++ (a :: b :: c :: d :: Y)
section
variable (H0 : List O) (a b c d : O) (Y : List O)
theorem ln : (zC H0 a b c d Y)[H0.length]? = some a := by unfold zC; rw [List.getElem?_append_right (Nat.le_refl _), Nat.sub_self]; rfl
theorem rg : (zC H0 a b c d Y)[H0.length + 1]? = some b := by unfold zC; rw [List.getElem?_append_right (Nat.le_add_right _ _), Nat.add_sub_cancel_left]; rfl
theorem tM : (zC H0 a b c d Y)[H0.length + 2]? = some c := by unfold zC; rw [List.getElem?_append_right (Nat.le_add_right _ _), Nat.add_sub_cancel_left]; rfl
theorem tL : (zC H0 a b c d Y)[H0.length + 3]? = some d := by unfold zC; rw [List.getElem?_append_right (Nat.le_add_right _ _), Nat.add_sub_cancel_left]; rfl
theorem wm (i : Nat) : (zC H0 a b c d Y)[H0.length + 4 + i]? = Y[i]? := by
 unfold zC
 rw [List.getElem?_append_right (by lia), show H0.length + 4 + i - H0.length = i + 1 + 1 + 1 + 1 by lia]
 rfl
theorem uz (o : O) : (zC H0 a b c d Y).set H0.length o = zC H0 o b c d Y := by unfold zC; rw [List.set_append_right _ _ (Nat.le_refl _), Nat.sub_self]; rfl
theorem uy (o : O) : (zC H0 a b c d Y).set (H0.length + 1) o = zC H0 a o c d Y := by unfold zC; rw [List.set_append_right _ _ (Nat.le_add_right _ _), Nat.add_sub_cancel_left]; rfl
theorem yi (o : O) : (zC H0 a b c d Y).set (H0.length + 2) o = zC H0 a b o d Y := by unfold zC; rw [List.set_append_right _ _ (Nat.le_add_right _ _), Nat.add_sub_cancel_left]; rfl
theorem ux (o : O) : (zC H0 a b c d Y).set (H0.length + 3) o = zC H0 a b c o Y := by unfold zC; rw [List.set_append_right _ _ (Nat.le_add_right _ _), Nat.add_sub_cancel_left]; rfl
theorem yh (i : Nat) (o : O) : (zC H0 a b c d Y).set (H0.length + 4 + i) o = zC H0 a b c d (Y.set i o) := by
 unfold zC
 rw [List.set_append_right _ _ (by lia), show H0.length + 4 + i - H0.length = i + 1 + 1 + 1 + 1 by lia]
 rfl
theorem rf (Z : List O) : zC H0 a b c d Y ++ Z = zC H0 a b c d (Y ++ Z) := by unfold zC; rw [List.append_assoc]; rfl
theorem re : (zC H0 a b c d Y).length = H0.length + 4 + Y.length := by unfold zC; rw [List.length_append]; simp only [List.length_cons]; lia
theorem nV : (zC H0 a b c d Y).take H0.length = H0 := by unfold zC; rw [List.take_append_of_le_length (Nat.le_refl _), List.take_length]
end
noncomputable def zl (T : List (Nat × Nat)) : List V := (T.map fun t => V.int ((t.1 : Nat) : Int)).reverse
noncomputable def zy (b : Nat) (I : List Nat) : List V := (I.map fun i => V.ref (b + 4 + (2 * i + 1))).reverse
noncomputable def zm (sn : List Nat) : List Int := sn.map fun (x : Nat) => (x : Int)
noncomputable def zD : List (Nat × Nat) → List (Int × V)
 | [] => []
 | (x, _) :: r => zD r ++ [((x : Int), V.int ((r.length : Nat) : Int))]
theorem ju (x p : Nat) (T : List (Nat × Nat)) : zl ((x, p) :: T) = zl T ++ [.int x] := by unfold zl; rw [List.map_cons, List.reverse_cons]
theorem jM (b i : Nat) (I : List Nat) : zy b (i :: I) = zy b I ++ [.ref (b + 4 + (2 * i + 1))] := by unfold zy; rw [List.map_cons, List.reverse_cons]
theorem fv (T : List (Nat × Nat)) : (zl T).length = T.length := by unfold zl; rw [List.length_reverse, List.length_map]
theorem q9 (b : Nat) (I : List Nat) : (zy b I).length = I.length := by unfold zy; rw [List.length_reverse, List.length_map]
theorem mR : ∀ T : List (Nat × Nat), (zD T).length = T.length
 | [] => rfl
 | (x, p) :: r => by simp [zD, mR r]
theorem pZ (sn : List Nat) (x : Nat) : (zm sn).contains (x : Int) = decide (x ∈ sn) := by
 unfold zm
 rw [Bool.eq_iff_iff]
 simp only [List.contains_iff_mem, List.mem_map, decide_eq_true_eq]
 constructor
 ·rintro ⟨y, h, e⟩
  have : y = x := by lia
  exact this ▸ h
 ·exact fun h => ⟨x, h, rfl⟩
theorem mO : ∀ (T : List (Nat × Nat)) (z : Nat), z ∉ T.map (·.1) → (zD T).lookup (z : Int) = none
 | [], _, _ => rfl
 | (x, p) :: r, z, h => by
  have h1 : z ≠ x := fun e => h (by simp [e])
  have e1 : ((z : Int) == (x : Int)) = false := by rw [beq_eq_false_iff_ne]; lia
  rw [zD, List.lookup_append, mO r z fun q => h (by simp only [List.map_cons]; exact List.mem_cons_of_mem _ q)]
  simp only [List.lookup_cons, e1, List.lookup_nil, Option.or_none, Option.none_or]
theorem jS : ∀ (T : List (Nat × Nat)) (z : Nat), z ∈ T.map (·.1) → ∃ j : Nat, (zD T).lookup (z : Int) = some (.int j)
 | [], _, h => by cases h
 | (x, p) :: r, z, h => by
  rw [zD, List.lookup_append]
  by_cases hr : z ∈ r.map (·.1)
  ·obtain ⟨j, e⟩ := jS r z hr
   exact ⟨j, by rw [e]; rfl⟩
  ·have e : z = x := by
    rcases List.mem_cons.mp h with h | h
    ·exact h
    ·exact absurd h hr
   rw [mO r z hr, e]
   exact ⟨r.length, by simp only [List.lookup_cons, beq_self_eq_true, Option.none_or]⟩
theorem mP : ∀ (T : List (Nat × Nat)) (e : Int × V), e ∈ zD T → ∃ x : Nat, x ∈ T.map (·.1) ∧ e.1 = (x : Int)
 | [], e, h => by cases h
 | (x, p) :: r, e, h => by
  rw [zD, List.mem_append] at h
  rcases h with h | h
  ·obtain ⟨y, hy, q⟩ := mP r e h
   exact ⟨y, List.mem_cons_of_mem _ hy, q⟩
  ·simp at h; subst h; exact ⟨x, List.mem_cons_self .., rfl⟩
theorem ym (T : List (Nat × Nat)) (x p : Nat) (h : x ∉ T.map (·.1)) : rt (zD ((x, p) :: T)) (x : Int) = zD T := by
 unfold rt
 rw [zD, List.filter_append]
 have h1 : (zD T).filter (fun q => decide (q.1 ≠ (x : Int))) = zD T := by
  rw [List.filter_eq_self]
  intro e he
  obtain ⟨y, hy, q⟩ := mP T e he
  rw [decide_eq_true_eq, q]
  intro e2
  have : y = x := by lia
  exact h (this ▸ hy)
 rw [h1]
 simp
theorem yl (T : List (Nat × Nat)) (x p : Nat) (h : x ∉ T.map (·.1)) (ep : Nat) : lx (zD T) (x : Int) (.int ((T.length : Nat) : Int)) = zD ((x, p) :: T) ∧ (if (zD T).any (fun q => q.1 = (x : Int)) then ep else ep + 1) = ep + 1 := by
 have h1 : (zD T).any (fun q => decide (q.1 = (x : Int))) = false := by
  rw [List.any_eq_false]
  intro e he
  obtain ⟨y, hy, q⟩ := mP T e he
  rw [decide_eq_true_eq, q]
  intro e2
  have : y = x := by lia
  exact h (this ▸ hy)
 refine ⟨?_, by rw [h1]; rfl⟩
 unfold lx
 rw [h1]; rfl
noncomputable def j5 (sc : Nat → Nat) (b : Nat) (Y : List O) : List (Nat × Nat) → List Nat → Prop
 | [], [] => True
 | (x, p) :: T, i :: I => Y[2 * i]? = some (.liter (sc x) p) ∧ Y[2 * i + 1]? = some (.mnext (b + 4 + 2 * i)) ∧ i ∉ I ∧ j5 sc b Y T I
 | _, _ => False
theorem j5.app {sc : Nat → Nat} {b : Nat} {Y Z : List O} : ∀ {T : List (Nat × Nat)} {I : List Nat}, j5 sc b Y T I → j5 sc b (Y ++ Z) T I
 | [], [], _ => trivial
 | (x, p) :: T, i :: I, ⟨h1, h2, h3, h4⟩ => ⟨aE h1, aE h2, h3, h4.app⟩
theorem j5.set {sc : Nat → Nat} {b : Nat} {Y : List O} {j : Nat} {o : O} : ∀ {T : List (Nat × Nat)} {I : List Nat}, j5 sc b Y T I → j ∉ I → j5 sc b (Y.set (2 * j) o) T I
 | [], [], _, _ => trivial
 | (x, p) :: T, i :: I, ⟨h1, h2, h3, h4⟩, hj => by
  have : j ≠ i := fun e => hj (by simp [e])
  exact ⟨aY h1 (by lia), aY h2 (by lia), h3, h4.set fun q => hj (List.mem_cons_of_mem _ q)⟩
theorem j5.len {sc : Nat → Nat} {b : Nat} {Y : List O} : ∀ {T : List (Nat × Nat)} {I : List Nat}, j5 sc b Y T I → I.length = T.length
 | [], [], _ => rfl
 | (x, p) :: T, i :: I, ⟨_, _, _, h4⟩ => by simp [h4.len]
theorem j5.lt {sc : Nat → Nat} {b : Nat} {Y : List O} : ∀ {T : List (Nat × Nat)} {I : List Nat}, j5 sc b Y T I → ∀ i ∈ I, 2 * i < Y.length
 | [], [], _, i, h => by cases h
 | (x, p) :: T, j :: I, ⟨h1, _, _, h4⟩, i, h => by
  rcases List.mem_cons.mp h with rfl | h
  ·exact cD h1
  ·exact h4.lt i h
noncomputable def L7 (n b : Nat) (v : Option V) : List (Option V) := [some (.ref (n + 1)), some (.ref (n + 2)), some (.ref b), some (.ref (b + 1)), some (.ref (b + 2)), some (.ref (b + 3)), v]
noncomputable abbrev HP (H0 : List O) (T : List (Nat × Nat)) (I sn : List Nat) (ep : Nat) (Y : List O) : List O := zC H0 (.list (zl T)) (.list (zy H0.length I)) (.set (zm sn)) (.dict (zD T) ep) Y
noncomputable abbrev y0 : St → zV V := fun σ => (bp br (ai 3) (fun σ => (aa (V.int 1) σ).bind tq) σ).bind rA
noncomputable abbrev zb : Nat → St → zV F := bT (aB (ai 2)) (lQ (aM (an y0 (ao 6)) (aa F.brk)) (gk [(V.type "StopIteration", true)] (kS (aM (wv (ai 5) (a7 aO oS (ai 2) (aa []))) (bE (a7 aO oS (ai 3) (aa []))))) uF)) (aa F.brk)
section
variable {pre : List O} {ord : List Nat} {nd sc : Nat → Nat} {np : Nat → Int} {su : Nat → List Nat} {rdy : V} {po fi : Int} {H0 : List O}
theorem sN (S : zR pre ord nd sc np su rdy po fi H0) {a c d : O} {xs : List V} {i x p : Nat} {Y : List O} {v : Option V} (hx : x ∈ ord) (h1 : Y[2 * i]? = some (.liter (sc x) p)) (h2 : Y[2 * i + 1]? = some (.mnext (H0.length + 4 + 2 * i))) :
  y0 ⟨L7 pre.length H0.length v, zC H0 a (.list (xs ++ [.ref (H0.length + 4 + (2 * i + 1))])) c d Y⟩ = match (su x)[p]? with
   | some y => .ok (.int y) ⟨L7 pre.length H0.length v, zC H0 a (.list (xs ++ [.ref (H0.length + 4 + (2 * i + 1))])) c d (Y.set (2 * i) (.liter (sc x) (p + 1)))⟩
   | none => .exc (.type "StopIteration") [] ⟨L7 pre.length H0.length v, zC H0 a (.list (xs ++ [.ref (H0.length + 4 + (2 * i + 1))])) c d (Y.set (2 * i) .dead)⟩ := by
 have e1 : bp br (ai 3) (fun σ => (aa (V.int 1) σ).bind tq) ⟨L7 pre.length H0.length v, zC H0 a (.list (xs ++ [.ref (H0.length + 4 + (2 * i + 1))])) c d Y⟩ = .ok (.ref (H0.length + 4 + (2 * i + 1))) ⟨L7 pre.length H0.length v, zC H0 a (.list (xs ++ [.ref (H0.length + 4 + (2 * i + 1))])) c d Y⟩ := by
  refine (bq (a := .ref (H0.length + 1)) (b := .int (-1)) (ae := ⟨L7 pre.length H0.length v, zC H0 a (.list (xs ++ [.ref (H0.length + 4 + (2 * i + 1))])) c d Y⟩) (aq := ⟨L7 pre.length H0.length v, zC H0 a (.list (xs ++ [.ref (H0.length + 4 + (2 * i + 1))])) c d Y⟩) rfl rfl).trans ?_
  exact wj (rg ..)
 show (bp br (ai 3) (fun σ => (aa (V.int 1) σ).bind tq) _).bind rA = _
 rw [e1, zV.bind_ok]
 have g1 := (wm H0 a (.list (xs ++ [.ref (H0.length + 4 + (2 * i + 1))])) c d Y (2 * i + 1)).trans h2
 have g2 := (wm H0 a (.list (xs ++ [.ref (H0.length + 4 + (2 * i + 1))])) c d Y (2 * i)).trans h1
 have g3 : (zC H0 a (.list (xs ++ [.ref (H0.length + 4 + (2 * i + 1))])) c d Y)[sc x]? = some (.list (aP (su x))) := aE (S.sx x hx).1
 refine (iD g1).trans ((mL g2).trans ((mL g3).trans ?_))
 show pP _ _ _ _ _ = _
 unfold pP
 simp only [yh]
 cases q : (su x)[p]? with
 | some y =>
  have : (aP (su x))[p]? = some (.int y) := by unfold aP; rw [List.getElem?_map, q]; rfl
  simp only [this]
 | none =>
  have : (aP (su x))[p]? = none := by unfold aP; rw [List.getElem?_map, q]; rfl
  simp only [this]
theorem oM {T : List (Nat × Nat)} {x p i ep : Nat} {I sn : List Nat} {Y : List O} {v : Option V} (hx : x ∉ T.map (·.1)) (hl : T.length ≤ 100) (hi : I.length ≤ 100) :
  (aM (wv (ai 5) (a7 aO oS (ai 2) (aa []))) (bE (a7 aO oS (ai 3) (aa [])))) ⟨L7 pre.length H0.length v, HP H0 ((x, p) :: T) (i :: I) sn ep Y⟩ = .ok .next ⟨L7 pre.length H0.length v, HP H0 T I sn (ep + 1) Y⟩ := by
 unfold HP
 rw [ju, jM]
 have p1 : a7 aO oS (ai 2) (aa []) ⟨L7 pre.length H0.length v, zC H0 (.list (zl T ++ [.int x])) (.list (zy H0.length I ++ [.ref (H0.length + 4 + (2 * i + 1))])) (.set (zm sn)) (.dict (zD ((x, p) :: T)) ep) Y⟩ = .ok (.int x) ⟨L7 pre.length H0.length v, zC H0 (.list (zl T)) (.list (zy H0.length I ++ [.ref (H0.length + 4 + (2 * i + 1))])) (.set (zm sn)) (.dict (zD ((x, p) :: T)) ep) Y⟩ := by
  rw [cN (mo := ai 2) (ma := aa []) (v := .ref H0.length) (vs := []) (ae := ⟨L7 pre.length H0.length v, zC H0 (.list (zl T ++ [.int x])) (.list (zy H0.length I ++ [.ref (H0.length + 4 + (2 * i + 1))])) (.set (zm sn)) (.dict (zD ((x, p) :: T)) ep) Y⟩) rfl (cC (ln ..)) rfl]
  rw [ul (ln ..) (by rw [fv]; lia)]
  simp only [uz]
 have p2 : wv (ai 5) (a7 aO oS (ai 2) (aa [])) ⟨L7 pre.length H0.length v, zC H0 (.list (zl T ++ [.int x])) (.list (zy H0.length I ++ [.ref (H0.length + 4 + (2 * i + 1))])) (.set (zm sn)) (.dict (zD ((x, p) :: T)) ep) Y⟩ = .ok .next ⟨L7 pre.length H0.length v, zC H0 (.list (zl T)) (.list (zy H0.length I ++ [.ref (H0.length + 4 + (2 * i + 1))])) (.set (zm sn)) (.dict (zD T) (ep + 1)) Y⟩ := by
  unfold wv
  have e0 : ai 5 ⟨L7 pre.length H0.length v, zC H0 (.list (zl T ++ [.int x])) (.list (zy H0.length I ++ [.ref (H0.length + 4 + (2 * i + 1))])) (.set (zm sn)) (.dict (zD ((x, p) :: T)) ep) Y⟩ = .ok (.ref (H0.length + 3)) ⟨L7 pre.length H0.length v, zC H0 (.list (zl T ++ [.int x])) (.list (zy H0.length I ++ [.ref (H0.length + 4 + (2 * i + 1))])) (.set (zm sn)) (.dict (zD ((x, p) :: T)) ep) Y⟩ := rfl
  rw [e0, zV.bind_ok, p1, zV.bind_ok]
  have hlk : ((zD ((x, p) :: T)).lookup (x : Int)).isSome = true := by
   obtain ⟨j, e⟩ := jS ((x, p) :: T) x (List.mem_cons_self ..)
   rw [e]; rfl
  unfold yW
  simp only [tL]
  rw [if_pos ⟨by rw [mR]; show T.length + 1 ≤ 16777216; lia, hlk⟩]
  simp only [zV.bind_ok, ux, ym T x p hx]
 rw [aG p2]
 refine c0 (v := .ref (H0.length + 4 + (2 * i + 1))) ?_
 rw [cN (mo := ai 3) (ma := aa []) (v := .ref (H0.length + 1)) (vs := []) (ae := ⟨L7 pre.length H0.length v, zC H0 (.list (zl T)) (.list (zy H0.length I ++ [.ref (H0.length + 4 + (2 * i + 1))])) (.set (zm sn)) (.dict (zD T) (ep + 1)) Y⟩) rfl (cC (rg ..)) rfl]
 rw [ul (rg ..) (by rw [q9]; lia)]
 simp only [uy]
theorem sD (S : zR pre ord nd sc np su rdy po fi H0) {sn : List Nat} {v : Option V} : ∀ (T : List (Nat × Nat)) (I : List Nat) (Y : List O) (ep f : Nat), j5 sc H0.length Y T I → (T.map (·.1)).Nodup → (∀ x ∈ T.map (·.1), x ∈ ord) → T.length ≤ 100 → T.length < f →
  (zO su T = none → ∃ ep' Y', zb f ⟨L7 pre.length H0.length v, HP H0 T I sn ep Y⟩ = .ok .brk ⟨L7 pre.length H0.length v, HP H0 [] [] sn ep' Y'⟩ ∧ Y'.length = Y.length) ∧
  (∀ y T', zO su T = some (y, T') → ∃ I' ep' Y', zb f ⟨L7 pre.length H0.length v, HP H0 T I sn ep Y⟩ = .ok .next ⟨L7 pre.length H0.length (some (.int y)), HP H0 T' I' sn ep' Y'⟩ ∧ j5 sc H0.length Y' T' I' ∧ Y'.length = Y.length) := by
 intro T
 induction T with
 | nil =>
  intro I Y ep f h1 _ _ _ hf
  obtain ⟨f, rfl⟩ : ∃ g, f = g + 1 := ⟨f - 1, by lia⟩
  cases I with
  | cons => exact h1.elim
  | nil =>
   refine ⟨fun _ => ⟨ep, Y, ?_, rfl⟩, fun y T' h => by cases h⟩
   refine j6 (ae := ⟨L7 pre.length H0.length v, HP H0 [] [] sn ep Y⟩) ?_ rfl
   show (ai 2 _).bind bU = _
   rw [show ai 2 ⟨L7 pre.length H0.length v, HP H0 [] [] sn ep Y⟩ = .ok (.ref H0.length) ⟨L7 pre.length H0.length v, HP H0 [] [] sn ep Y⟩ from rfl, zV.bind_ok]
   exact fY (xs := []) (ln ..) (by decide)
 | cons t T ih =>
  obtain ⟨x, p⟩ := t
  intro I Y ep f h1 hn ho hl hf
  obtain ⟨f, rfl⟩ : ∃ g, f = g + 1 := ⟨f - 1, by lia⟩
  cases I with
  | nil => exact h1.elim
  | cons i I =>
   obtain ⟨l1, l2, l3, l4⟩ := h1
   have hn' := List.nodup_cons.mp hn
   simp only [List.length_cons] at hl hf
   have ht : aB (ai 2) ⟨L7 pre.length H0.length v, HP H0 ((x, p) :: T) (i :: I) sn ep Y⟩ = .ok true ⟨L7 pre.length H0.length v, HP H0 ((x, p) :: T) (i :: I) sn ep Y⟩ := by
    show (ai 2 _).bind bU = _
    rw [show ai 2 ⟨L7 pre.length H0.length v, HP H0 ((x, p) :: T) (i :: I) sn ep Y⟩ = .ok (.ref H0.length) ⟨L7 pre.length H0.length v, HP H0 ((x, p) :: T) (i :: I) sn ep Y⟩ from rfl, zV.bind_ok]
    rw [fY (xs := zl ((x, p) :: T)) (ln ..) (by rw [fv]; simp only [List.length_cons]; lia)]
    rw [ju]
    cases zl T <;> rfl
   have hc := sN S (a := .list (zl ((x, p) :: T))) (c := .set (zm sn)) (d := .dict (zD ((x, p) :: T)) ep) (xs := zy H0.length I) (v := v) (ho x (List.mem_cons_self ..)) l1 l2
   rw [← jM] at hc
   cases q : (su x)[p]? with
   | some y =>
    rw [q] at hc
    refine ⟨fun e => (by simp only [zO, q] at e; cases e), fun y' T' e => ?_⟩
    simp only [zO, q, Option.some.injEq, Prod.mk.injEq] at e
    obtain ⟨e1, e2⟩ := e
    subst e1; subst e2
    refine ⟨i :: I, ep, Y.set (2 * i) (.liter (sc x) (p + 1)), ?_, ⟨fN l1, aY l2 (by lia), l3, l4.set l3⟩, List.length_set⟩
    refine j7 ht (uc ?_)
    rw [aG (bx hc)]
    rfl
   | none =>
    rw [q] at hc
    have hb : (lQ (aM (an y0 (ao 6)) (aa F.brk))
              (gk [(V.type "StopIteration", true)]
               (kS
                (aM (wv (ai 5) (a7 aO oS (ai 2) (aa [])))
                 (bE (a7 aO oS (ai 3) (aa [])))))
               uF)) ⟨L7 pre.length H0.length v, HP H0 ((x, p) :: T) (i :: I) sn ep Y⟩ = .ok .next ⟨L7 pre.length H0.length v, HP H0 T I sn (ep + 1) (Y.set (2 * i) .dead)⟩ := by
     have hx : aM (an y0 (ao 6)) (aa F.brk) ⟨L7 pre.length H0.length v, HP H0 ((x, p) :: T) (i :: I) sn ep Y⟩ = .exc (.type "StopIteration") [] ⟨L7 pre.length H0.length v, HP H0 ((x, p) :: T) (i :: I) sn ep (Y.set (2 * i) .dead)⟩ := by
      unfold aM an
      rw [hc]; rfl
     rw [pO hx]
     have hpick : ∀ (yes no : zY) (as : List V) (σ : St), gk [(V.type "StopIteration", true)] yes no (V.type "StopIteration") as σ = yes (V.type "StopIteration") as σ := fun _ _ _ _ => rfl
     rw [hpick]
     show (aM _ _ _).calm = _
     rw [oM hn'.1 (by lia) (by rw [l4.len]; lia)]
     rfl
    obtain ⟨i1, i2⟩ := ih I (Y.set (2 * i) .dead) (ep + 1) f (l4.set l3) hn'.2 (fun z hz => ho z (List.mem_cons_of_mem _ hz)) (by lia) (by lia)
    refine ⟨fun e => ?_, fun y' T' e => ?_⟩
    ·simp only [zO, q] at e
     obtain ⟨ep', Y', a, b⟩ := i1 e
     exact ⟨ep', Y', (gM ht hb).trans a, by rw [b, List.length_set]⟩
    ·simp only [zO, q] at e
     obtain ⟨I', ep', Y', a, b, c⟩ := i2 y' T' e
     exact ⟨I', ep', Y', (gM ht hb).trans a, b, by rw [c, List.length_set]⟩
end
noncomputable abbrev R259 : St → zV F := (dh (aR Operator.Add (cw (ai 2) (bp br (ai 5) (ai 6)) (aa V.none)) (bu (aj (ai 6) (aa [])))))
noncomputable abbrev P259 : St → zV F := (aM (bE (a7 eu yH (ai 4) (aj (ai 6) (aa [])))) (aM (bE (a7 aO bk (ai 3) (aj (ba oY (aC (aj (ba (eM 172 2) (bp br (ai 1) (ai 6))) (aa [])) mG)) (aa [])))) (aM (an (aC (aj (ai 2) (aa [])) iS) (pS (ai 5) (ai 6))) (bE (a7 aO bk (ai 2) (aj (ai 6) (aa [])))))))
noncomputable abbrev yO : St → zV F := (zB (aB (aW CmpOp.In (ai 6) (ai 4))) (zB (aB (aW CmpOp.In (ai 6) (ai 5))) R259 (aa F.next)) P259)
noncomputable abbrev pF : Nat → St → zV F := bT (aB (aa (V.bool true))) (aM yO (zb 20)) (aa F.next)
theorem rM (su : Nat → List Nat) : ∀ (T : List (Nat × Nat)) (y : Nat) (T' : List (Nat × Nat)), zO su T = some (y, T') → (∃ Q, T.map (·.1) = Q ++ T'.map (·.1)) ∧ ∃ x, y ∈ su x
 | [], y, T', h => by cases h
 | (x, p) :: r, y, T', h => by
  unfold zO at h
  split at h
  ·rename_i z q
   cases h
   exact ⟨⟨[], rfl⟩, x, List.mem_of_getElem? q⟩
  ·obtain ⟨⟨Q, e⟩, g⟩ := rM su r y T' h
   exact ⟨⟨x :: Q, by rw [List.map_cons, e]; rfl⟩, g⟩
structure Sm (ord : List Nat) (T : List (Nat × Nat)) (sn : List Nat) : Prop where
 nod : sn.Nodup
 sub : ∀ x ∈ sn, x ∈ ord
 tn : (T.map (·.1)).Nodup
 ts : ∀ x ∈ T.map (·.1), x ∈ sn
section
variable {pre : List O} {ord : List Nat} {nd sc : Nat → Nat} {np : Nat → Int} {su : Nat → List Nat} {rdy : V} {po fi : Int} {H0 : List O}
theorem uw {H : List O} {L : List (Option V)} {k l : Nat} {sn : List Nat} {i j : Nat} (hi : L[i]? = some (some (.int k))) (hj : L[j]? = some (some (.ref l))) (h : H[l]? = some (.set (zm sn))) : aB (aW CmpOp.In (ai i) (ai j)) ⟨L, H⟩ = .ok (decide (k ∈ sn)) ⟨L, H⟩ := by
 refine bM ?_
 refine (bq (aI hi) (aI hj)).trans ?_
 show cond (eu _ _) (ge _ _ _) _ = _
 rw [uv h, cond_true, yk h, pZ]
theorem in_dict {H : List O} {L : List (Option V)} {k l ep : Nat} {T : List (Nat × Nat)} {i j : Nat} (hi : L[i]? = some (some (.int k))) (hj : L[j]? = some (some (.ref l))) (h : H[l]? = some (.dict (zD T) ep)) : aB (aW CmpOp.In (ai i) (ai j)) ⟨L, H⟩ = .ok (decide (k ∈ T.map (·.1))) ⟨L, H⟩ := by
 refine bM ?_
 refine (bq (aI hi) (aI hj)).trans ?_
 show cond (eu _ _) _ (gd _ _ _) = _
 rw [tK h, cond_false, wp h]
 by_cases e : k ∈ T.map (·.1)
 ·obtain ⟨j, q⟩ := jS T k e
  rw [q, decide_eq_true e]; rfl
 ·rw [mO T k e, decide_eq_false e]; rfl
theorem sF {T : List (Nat × Nat)} {I sn : List Nat} {ep k : Nat} {Y : List O} (hk : k ∈ T.map (·.1)) (hl : T.length ≤ 100) :
  ∃ q τ xs, R259 ⟨L7 pre.length H0.length (some (.int k)), HP H0 T I sn ep Y⟩ = .ok (.ret (.ref q)) τ ∧ τ.heap.take H0.length = H0 ∧ τ.heap[q]? = some (.list xs) ∧ xs ≠ [] ∧ xs.length ≤ 500 := by
 obtain ⟨j, hj⟩ := jS T k hk
 have e1 : bp br (ai 5) (ai 6) ⟨L7 pre.length H0.length (some (.int k)), HP H0 T I sn ep Y⟩ = .ok (.int j) ⟨L7 pre.length H0.length (some (.int k)), HP H0 T I sn ep Y⟩ := by
  refine (bq (aI (v := .ref (H0.length + 3)) rfl) (aI (v := .int k) rfl)).trans ?_
  rw [kh (tL ..), hj]; rfl
 have hp : (eA (zl T) (some (j : Int)) none).length ≤ 100 := by
  rw [pick_from, List.length_drop, fv]; lia
 have e2 := kz (mo := ai 2) (mu := aa .none) (v := .ref H0.length) (u := .none) (σ := ⟨L7 pre.length H0.length (some (.int k)), HP H0 T I sn ep Y⟩) (ae := ⟨L7 pre.length H0.length (some (.int k)), HP H0 T I sn ep Y⟩) (aS := ⟨L7 pre.length H0.length (some (.int k)), HP H0 T I sn ep Y⟩) rfl e1 rfl
 rw [ny (lo := .int j) (hi := .none) (a := some (j : Int)) (b := none) (xs := zl T) (ln ..) (by rw [fv]; lia) rfl rfl rfl] at e2
 have e3 := cP (ms := aj (ai 6) (aa [])) (vs := [.int k]) (σ := ⟨L7 pre.length H0.length (some (.int k)), HP H0 T I sn ep Y ++ [.list (eA (zl T) (some (j : Int)) none)]⟩) (ae := ⟨L7 pre.length H0.length (some (.int k)), HP H0 T I sn ep Y ++ [.list (eA (zl T) (some (j : Int)) none)]⟩) rfl (by show 1 ≤ 1000; decide)
 have e4 := rN (a := (HP H0 T I sn ep Y).length) (b := (HP H0 T I sn ep Y ++ [O.list (eA (zl T) (some (j : Int)) none)]).length) (xs := eA (zl T) (some (j : Int)) none) (ys := [.int k]) (σ := ⟨L7 pre.length H0.length (some (.int k)), (HP H0 T I sn ep Y ++ [.list (eA (zl T) (some (j : Int)) none)]) ++ [.list [.int k]]⟩)
  (aE (by rw [List.getElem?_append_right (Nat.le_refl _), Nat.sub_self]; rfl)) (by show (_ ++ _)[List.length _]? = _; rw [List.getElem?_append_right (Nat.le_refl _), Nat.sub_self]; rfl) (by simp only [List.length_cons, List.length_nil]; lia)
 refine ⟨_, _, eA (zl T) (some (j : Int)) none ++ [.int k], eK ((bq (f := zr .Add) e2 e3).trans e4), ?_, ?_, ?_, ?_⟩
 ·exact fF (fF (fF (nV ..)))
 ·show (_ ++ _)[List.length _]? = _
  rw [List.getElem?_append_right (Nat.le_refl _), Nat.sub_self]; rfl
 ·simp
 ·simp only [List.length_append, List.length_cons, List.length_nil]; lia
theorem sI (S : zR pre ord nd sc np su rdy po fi H0) {T : List (Nat × Nat)} {I sn : List Nat} {ep k c : Nat} {Y : List O} (hR : j5 sc H0.length Y T I) (hc : Y.length = 2 * c) (ho : k ∈ ord) (hk : k ∉ sn) (hT : k ∉ T.map (·.1)) (hl : T.length ≤ 100) (hs : sn.length ≤ 100) :
  P259 ⟨L7 pre.length H0.length (some (.int k)), HP H0 T I sn ep Y⟩ = .ok .next ⟨L7 pre.length H0.length (some (.int k)), HP H0 ((k, 0) :: T) (c :: I) (sn ++ [k]) (ep + 1) (Y ++ [.liter (sc k) 0, .mnext (H0.length + 4 + 2 * c)])⟩ := by
 unfold HP
 have a1 : bE (a7 eu yH (ai 4) (aj (ai 6) (aa []))) ⟨L7 pre.length H0.length (some (.int k)), zC H0 (.list (zl T)) (.list (zy H0.length I)) (.set (zm sn)) (.dict (zD T) ep) Y⟩ = .ok .next ⟨L7 pre.length H0.length (some (.int k)), zC H0 (.list (zl T)) (.list (zy H0.length I)) (.set (zm (sn ++ [k]))) (.dict (zD T) ep) Y⟩ := by
  refine c0 (v := .none) ?_
  rw [cN (mo := ai 4) (ma := aj (ai 6) (aa [])) (v := .ref (H0.length + 2)) (vs := [.int k]) (ae := ⟨L7 pre.length H0.length (some (.int k)), zC H0 (.list (zl T)) (.list (zy H0.length I)) (.set (zm sn)) (.dict (zD T) ep) Y⟩) (aq := ⟨L7 pre.length H0.length (some (.int k)), zC H0 (.list (zl T)) (.list (zy H0.length I)) (.set (zm sn)) (.dict (zD T) ep) Y⟩) rfl (tJ (tM ..)) rfl]
  unfold yH
  rw [wY, gI_k, yk (tM ..), pZ, decide_eq_false hk, if_pos (by unfold zm; rw [List.length_map]; show sn.length + 1 < 4096; lia)]
  simp only [yi, Bool.false_eq_true, if_false]
  unfold zm
  rw [List.map_append]; rfl
 refine (aG a1).trans ?_
 have S1 := S.app (.list (zl T) :: .list (zy H0.length I) :: .set (zm (sn ++ [k])) :: .dict (zD T) ep :: Y)
 have b1 : aC (aj (ba (eM 172 2) (bp br (ai 1) (ai 6))) (aa [])) mG ⟨L7 pre.length H0.length (some (.int k)), zC H0 (.list (zl T)) (.list (zy H0.length I)) (.set (zm (sn ++ [k]))) (.dict (zD T) ep) Y⟩ = .ok (.ref (H0.length + 4 + 2 * c)) ⟨L7 pre.length H0.length (some (.int k)), zC H0 (.list (zl T)) (.list (zy H0.length I)) (.set (zm (sn ++ [k]))) (.dict (zD T) ep) (Y ++ [.liter (sc k) 0])⟩ := by
  have q1 : bp br (ai 1) (ai 6) ⟨L7 pre.length H0.length (some (.int k)), zC H0 (.list (zl T)) (.list (zy H0.length I)) (.set (zm (sn ++ [k]))) (.dict (zD T) ep) Y⟩ = .ok (.ref (nd k)) ⟨L7 pre.length H0.length (some (.int k)), zC H0 (.list (zl T)) (.list (zy H0.length I)) (.set (zm (sn ++ [k]))) (.dict (zD T) ep) Y⟩ := by
   refine (bq (aI (v := .ref (pre.length + 2)) rfl) (aI (v := .int k) rfl)).trans ?_
   exact S1.dsub ho _
  have q2 := (bz (g := eM 172 2) q1).trans (S1.g2 ho _)
  rw [bX (aX q2 (ms := aa []) rfl)]
  have q3 : (zC H0 (.list (zl T)) (.list (zy H0.length I)) (.set (zm (sn ++ [k]))) (.dict (zD T) ep) Y)[sc k]? = some (.list (aP (su k))) := (S1.sx k ho).1
  have q4 : (H0 ++ (.list (zl T) :: .list (zy H0.length I) :: .set (zm (sn ++ [k])) :: .dict (zD T) ep :: Y)) = zC H0 (.list (zl T)) (.list (zy H0.length I)) (.set (zm (sn ++ [k]))) (.dict (zD T) ep) Y := rfl
  rw [q4]
  unfold mG
  rw [wY, iT q3]
  simp only [re, rf, hc]
 have b2 : ba oY (aC (aj (ba (eM 172 2) (bp br (ai 1) (ai 6))) (aa [])) mG) ⟨L7 pre.length H0.length (some (.int k)), zC H0 (.list (zl T)) (.list (zy H0.length I)) (.set (zm (sn ++ [k]))) (.dict (zD T) ep) Y⟩ = .ok (.ref (H0.length + 4 + (2 * c + 1))) ⟨L7 pre.length H0.length (some (.int k)), zC H0 (.list (zl T)) (.list (zy H0.length I)) (.set (zm (sn ++ [k]))) (.dict (zD T) ep) (Y ++ [.liter (sc k) 0, .mnext (H0.length + 4 + 2 * c)])⟩ := by
  rw [bz b1]
  have q5 : (zC H0 (.list (zl T)) (.list (zy H0.length I)) (.set (zm (sn ++ [k]))) (.dict (zD T) ep) (Y ++ [.liter (sc k) 0]))[H0.length + 4 + 2 * c]? = some (.liter (sc k) 0) := by
   rw [wm, ← hc, List.getElem?_append_right (Nat.le_refl _), Nat.sub_self]; rfl
  refine (iD q5).trans ?_
  simp only [asW_k, y7, re, rf, List.length_append, List.length_cons, List.length_nil, hc, List.append_assoc]
  rfl
 have a2 : bE (a7 aO bk (ai 3) (aj (ba oY (aC (aj (ba (eM 172 2) (bp br (ai 1) (ai 6))) (aa [])) mG)) (aa []))) ⟨L7 pre.length H0.length (some (.int k)), zC H0 (.list (zl T)) (.list (zy H0.length I)) (.set (zm (sn ++ [k]))) (.dict (zD T) ep) Y⟩ = .ok .next ⟨L7 pre.length H0.length (some (.int k)), zC H0 (.list (zl T)) (.list (zy H0.length (c :: I))) (.set (zm (sn ++ [k]))) (.dict (zD T) ep) (Y ++ [.liter (sc k) 0, .mnext (H0.length + 4 + 2 * c)])⟩ := by
  refine c0 (v := .none) ?_
  rw [cN (mo := ai 3) (v := .ref (H0.length + 1)) (ae := ⟨L7 pre.length H0.length (some (.int k)), zC H0 (.list (zl T)) (.list (zy H0.length I)) (.set (zm (sn ++ [k]))) (.dict (zD T) ep) Y⟩) rfl (cC (rg ..)) (aX b2 (ms := aa []) rfl)]
  rw [dT (rg ..) (by rw [q9, hR.len]; lia)]
  simp only [uy, jM]
 refine (aG a2).trans ?_
 have a3 : an (aC (aj (ai 2) (aa [])) iS) (pS (ai 5) (ai 6)) ⟨L7 pre.length H0.length (some (.int k)), zC H0 (.list (zl T)) (.list (zy H0.length (c :: I))) (.set (zm (sn ++ [k]))) (.dict (zD T) ep) (Y ++ [.liter (sc k) 0, .mnext (H0.length + 4 + 2 * c)])⟩ = .ok .next ⟨L7 pre.length H0.length (some (.int k)), zC H0 (.list (zl T)) (.list (zy H0.length (c :: I))) (.set (zm (sn ++ [k]))) (.dict (zD ((k, 0) :: T)) (ep + 1)) (Y ++ [.liter (sc k) 0, .mnext (H0.length + 4 + 2 * c)])⟩ := by
  refine bY (v := .int ((T.length : Nat) : Int)) (ae := ⟨L7 pre.length H0.length (some (.int k)), zC H0 (.list (zl T)) (.list (zy H0.length (c :: I))) (.set (zm (sn ++ [k]))) (.dict (zD T) ep) (Y ++ [.liter (sc k) 0, .mnext (H0.length + 4 + 2 * c)])⟩) ?_ ?_
  ·rw [bX (ms := aj (ai 2) (aa [])) (vs := [.ref H0.length]) (ae := ⟨L7 pre.length H0.length (some (.int k)), zC H0 (.list (zl T)) (.list (zy H0.length (c :: I))) (.set (zm (sn ++ [k]))) (.dict (zD T) ep) (Y ++ [.liter (sc k) 0, .mnext (H0.length + 4 + 2 * c)])⟩) rfl]
   exact nS (xs := zl T) (ln ..) (by rw [fv]; lia) (by rw [fv])
  ·unfold pS
   rw [show ∀ H, ai 5 ⟨L7 pre.length H0.length (some (.int k)), H⟩ = .ok (.ref (H0.length + 3)) ⟨L7 pre.length H0.length (some (.int k)), H⟩ from fun _ => rfl, zV.bind_ok, show ∀ H, ai 6 ⟨L7 pre.length H0.length (some (.int k)), H⟩ = .ok (.int k) ⟨L7 pre.length H0.length (some (.int k)), H⟩ from fun _ => rfl, zV.bind_ok]
   obtain ⟨g1, g2⟩ := yl T k 0 hT ep
   rw [kK (tL ..), if_pos (by rw [mR]; show T.length ≤ 16777216; lia), g1, g2]
   simp only [ux]
 refine (aG a3).trans ?_
 refine c0 (v := .none) ?_
 rw [cN (mo := ai 2) (ma := aj (ai 6) (aa [])) (v := .ref H0.length) (vs := [.int k]) (ae := ⟨L7 pre.length H0.length (some (.int k)), zC H0 (.list (zl T)) (.list (zy H0.length (c :: I))) (.set (zm (sn ++ [k]))) (.dict (zD ((k, 0) :: T)) (ep + 1)) (Y ++ [.liter (sc k) 0, .mnext (H0.length + 4 + 2 * c)])⟩) (aq := ⟨L7 pre.length H0.length (some (.int k)), zC H0 (.list (zl T)) (.list (zy H0.length (c :: I))) (.set (zm (sn ++ [k]))) (.dict (zD ((k, 0) :: T)) (ep + 1)) (Y ++ [.liter (sc k) 0, .mnext (H0.length + 4 + 2 * c)])⟩) rfl (cC (ln ..)) rfl]
 rw [dT (ln ..) (by rw [fv]; lia)]
 simp only [uz, ju]
end
section
variable {pre : List O} {ord : List Nat} {nd sc : Nat → Nat} {np : Nat → Int} {su : Nat → List Nat} {rdy : V} {po fi : Int} {H0 : List O}
theorem vE {a b : St → zV F} {v : V} {σ ae : St} (h : a σ = .ok (.ret v) ae) : aM a b σ = .ok (.ret v) ae := by
 unfold aM; rw [h]; rfl
theorem lR (σ : St) : aB (aa (V.bool true)) σ = .ok true σ := rfl
theorem qx (S : zR pre ord nd sc np su rdy po fi H0) (hsu : ∀ x y, y ∈ su x → y ∈ ord) (h6 : ord.length ≤ 6) : ∀ (f node : Nat) (T : List (Nat × Nat)) (I sn : List Nat) (ep c : Nat) (Y : List O), j5 sc H0.length Y T I → Y.length = 2 * c → Sm ord T sn → node ∈ ord →
  (fV su f node T sn = some none → ∃ q τ xs, pF f ⟨L7 pre.length H0.length (some (.int node)), HP H0 T I sn ep Y⟩ = .ok (.ret (.ref q)) τ ∧ τ.heap.take H0.length = H0 ∧ τ.heap[q]? = some (.list xs) ∧ xs ≠ [] ∧ xs.length ≤ 500) ∧
  (∀ sn', fV su f node T sn = some (some sn') → ∃ v ep' c' Y', pF f ⟨L7 pre.length H0.length (some (.int node)), HP H0 T I sn ep Y⟩ = .ok .next ⟨L7 pre.length H0.length v, HP H0 [] [] sn' ep' Y'⟩ ∧ Y'.length = 2 * c' ∧ sn'.Nodup ∧ ∀ x ∈ sn', x ∈ ord) := by
 intro f
 induction f with
 | zero => exact fun node T I sn ep c Y _ _ _ _ => ⟨fun h => (by cases h), fun sn' h => (by cases h)⟩
 | succ f ih =>
  intro node T I sn ep c Y hR hc hS ho
  have hTo : ∀ x ∈ T.map (·.1), x ∈ ord := fun x hx => hS.sub x (hS.ts x hx)
  have hTl : T.length ≤ 6 := by
   have := ca hS.tn hTo
   rw [List.length_map] at this; lia
  have hsl : sn.length ≤ 6 := by have := ca hS.nod hS.sub; lia
  have t1 := uw (L := L7 pre.length H0.length (some (.int node))) (H := HP H0 T I sn ep Y) (i := 6) (j := 4) (k := node) (l := H0.length + 2) (sn := sn) rfl rfl (tM ..)
  have t2 := in_dict (L := L7 pre.length H0.length (some (.int node))) (H := HP H0 T I sn ep Y) (i := 6) (j := 5) (k := node) (l := H0.length + 3) (T := T) (ep := ep) rfl rfl (tL ..)
  have next : ∀ (T2 : List (Nat × Nat)) (I2 sn2 : List Nat) (ep2 c2 : Nat) (Y2 : List O), j5 sc H0.length Y2 T2 I2 → Y2.length = 2 * c2 → Sm ord T2 sn2 →
    yO ⟨L7 pre.length H0.length (some (.int node)), HP H0 T I sn ep Y⟩ = .ok .next ⟨L7 pre.length H0.length (some (.int node)), HP H0 T2 I2 sn2 ep2 Y2⟩ →
    (zO su T2 = none → ∃ v ep' c' Y', pF (f + 1) ⟨L7 pre.length H0.length (some (.int node)), HP H0 T I sn ep Y⟩ = .ok .next ⟨L7 pre.length H0.length v, HP H0 [] [] sn2 ep' Y'⟩ ∧ Y'.length = 2 * c') ∧
    (∀ y T', zO su T2 = some (y, T') → ∃ I' ep' Y', pF (f + 1) ⟨L7 pre.length H0.length (some (.int node)), HP H0 T I sn ep Y⟩ = pF f ⟨L7 pre.length H0.length (some (.int y)), HP H0 T' I' sn2 ep' Y'⟩ ∧ j5 sc H0.length Y' T' I' ∧ Y'.length = 2 * c2 ∧ Sm ord T' sn2 ∧ y ∈ ord) := by
   intro T2 I2 sn2 ep2 c2 Y2 hR2 hc2 hS2 hA
   have hTo2 : ∀ x ∈ T2.map (·.1), x ∈ ord := fun x hx => hS2.sub x (hS2.ts x hx)
   have hTl2 : T2.length ≤ 6 := by
    have := ca hS2.tn hTo2
    rw [List.length_map] at this; lia
   obtain ⟨w1, w2⟩ := sD S (sn := sn2) (v := some (.int node)) T2 I2 Y2 ep2 20 hR2 hS2.tn hTo2 (by lia) (by lia)
   refine ⟨fun e => ?_, fun y T' e => ?_⟩
   ·obtain ⟨ep', Y', a, b⟩ := w1 e
    exact ⟨_, ep', c2, Y', j7 (lR _) ((aG hA).trans a), by lia⟩
   ·obtain ⟨I', ep', Y', a, b, d⟩ := w2 y T' e
    obtain ⟨⟨Q, q1⟩, x, q2⟩ := rM su T2 y T' e
    refine ⟨I', ep', Y', gM (lR _) ((aG hA).trans a), b, by lia, ⟨hS2.nod, hS2.sub, ?_, fun z hz => hS2.ts z (by rw [q1]; exact List.mem_append_right _ hz)⟩, hsu x y q2⟩
    have := hS2.tn
    rw [q1, List.nodup_append] at this
    exact this.2.1
  by_cases h1 : node ∈ sn
  ·by_cases h2 : node ∈ T.map (·.1)
   ·refine ⟨fun _ => ?_, fun sn' e => ?_⟩
    ·obtain ⟨q, τ, xs, r1, r2, r3, r4, r5⟩ := sF (pre := pre) (H0 := H0) (I := I) (sn := sn) (ep := ep) (Y := Y) h2 (by lia)
     refine ⟨q, τ, xs, pM (lR _) ?_, r2, r3, r4, r5⟩
     have hA : yO ⟨L7 pre.length H0.length (some (.int node)), HP H0 T I sn ep Y⟩ = .ok (.ret (.ref q)) τ := by
      refine (d9 t1).trans ?_
      rw [decide_eq_true h1, if_pos rfl]
      refine (d9 t2).trans ?_
      rw [decide_eq_true h2, if_pos rfl]
      exact r1
     unfold aM
     rw [hA]; rfl
    ·simp only [fV, h1, h2, if_true, Option.some.injEq, reduceCtorEq] at e
   ·have hA : yO ⟨L7 pre.length H0.length (some (.int node)), HP H0 T I sn ep Y⟩ = .ok .next ⟨L7 pre.length H0.length (some (.int node)), HP H0 T I sn ep Y⟩ := by
     refine (d9 t1).trans ?_
     rw [decide_eq_true h1, if_pos rfl]
     refine (d9 t2).trans ?_
     rw [decide_eq_false h2, if_neg (by decide)]
     rfl
    obtain ⟨n1, n2⟩ := next T I sn ep c Y hR hc hS hA
    cases ha : zO su T with
    | none =>
     have hw : fV su (f + 1) node T sn = some (some sn) := by simp only [fV, h1, h2, if_true, if_false, ha]
     rw [hw]
     refine ⟨fun e => (by cases e), fun sn' e => ?_⟩
     cases e
     obtain ⟨v, ep', c', Y', a, b⟩ := n1 ha
     exact ⟨v, ep', c', Y', a, b, hS.nod, hS.sub⟩
    | some yT =>
     obtain ⟨y, T'⟩ := yT
     have hw : fV su (f + 1) node T sn = fV su f y T' sn := by simp only [fV, h1, h2, if_true, if_false, ha]
     rw [hw]
     obtain ⟨I', ep', Y', a, b, d, e, g⟩ := n2 y T' ha
     rw [a]
     exact ih y T' I' sn ep' c Y' b d e g
  ·have hT : node ∉ T.map (·.1) := fun q => h1 (hS.ts _ q)
   have hp := sI S (ep := ep) hR hc ho h1 hT (by lia) (by lia)
   have hA : yO ⟨L7 pre.length H0.length (some (.int node)), HP H0 T I sn ep Y⟩ = .ok .next ⟨L7 pre.length H0.length (some (.int node)), HP H0 ((node, 0) :: T) (c :: I) (sn ++ [node]) (ep + 1) (Y ++ [.liter (sc node) 0, .mnext (H0.length + 4 + 2 * c)])⟩ := by
    refine (d9 t1).trans ?_
    rw [decide_eq_false h1, if_neg (by decide)]
    exact hp
   have hS2 : Sm ord ((node, 0) :: T) (sn ++ [node]) := ⟨by
    rw [List.nodup_append]; exact ⟨hS.nod, by simp, fun a ha b hb => by simp at hb; subst hb; exact fun e => h1 (e ▸ ha)⟩, fun x hx => by
    rcases List.mem_append.mp hx with hx | hx
    ·exact hS.sub x hx
    ·simp at hx; subst hx; exact ho, List.nodup_cons.mpr ⟨hT, hS.tn⟩, fun x hx => by
    rcases List.mem_cons.mp hx with rfl | hx
    ·simp
    ·exact List.mem_append_left _ (hS.ts x hx)⟩
   have hR2 : j5 sc H0.length (Y ++ [.liter (sc node) 0, .mnext (H0.length + 4 + 2 * c)]) ((node, 0) :: T) (c :: I) := by
    refine ⟨?_, ?_, fun q => ?_, hR.app⟩
    ·rw [List.getElem?_append_right (by lia), hc, Nat.sub_self]; rfl
    ·rw [List.getElem?_append_right (by lia), hc, Nat.add_sub_cancel_left]; rfl
    ·have := hR.lt c q; lia
   obtain ⟨n1, n2⟩ := next ((node, 0) :: T) (c :: I) (sn ++ [node]) (ep + 1) (c + 1) (Y ++ [.liter (sc node) 0, .mnext (H0.length + 4 + 2 * c)]) hR2 (by simp [hc]; lia) hS2 hA
   cases ha : zO su ((node, 0) :: T) with
   | none =>
    have hw : fV su (f + 1) node T sn = some (some (sn ++ [node])) := by simp only [fV, h1, if_false, ha]
    rw [hw]
    refine ⟨fun e => (by cases e), fun sn' e => ?_⟩
    cases e
    obtain ⟨v, ep', c', Y', a, b⟩ := n1 ha
    exact ⟨v, ep', c', Y', a, b, hS2.nod, hS2.sub⟩
   | some yT =>
    obtain ⟨y, T'⟩ := yT
    have hw : fV su (f + 1) node T sn = fV su f y T' (sn ++ [node]) := by simp only [fV, h1, if_false, ha]
    rw [hw]
    obtain ⟨I', ep', Y', a, b, d, e, g⟩ := n2 y T' ha
    rw [a]
    exact ih y T' I' (sn ++ [node]) ep' (c + 1) Y' b d e g
theorem ee {tgt : V → St → zV Unit} {body els : St → zV F} {src : Option (Nat × O)} {x : V} {xs : List V} {σ ae aq : St} (hs : dL src σ.heap = true) (h1 : tgt x σ = .ok () ae) (h2 : body ae = .ok .next aq ∨ body ae = .ok .cont aq) : gs tgt body els src (x :: xs) σ = gs tgt body els src xs aq := by
 rw [gs, if_pos hs, h1]
 simp only [zV.calm, zV.bind_ok]
 rcases h2 with h2 | h2 <;> rw [h2] <;> simp only [zV.calm, zV.bind_ok]
theorem wq {tgt : V → St → zV Unit} {body els : St → zV F} {src : Option (Nat × O)} {x v : V} {xs : List V} {σ ae aq : St} (hs : dL src σ.heap = true) (h1 : tgt x σ = .ok () ae) (h2 : body ae = .ok (.ret v) aq) : gs tgt body els src (x :: xs) σ = .ok (.ret v) aq := by
 rw [gs, if_pos hs, h1]
 simp only [zV.calm, zV.bind_ok]
 rw [h2]
 simp only [zV.calm, zV.bind_ok]
theorem fz {tgt : V → St → zV Unit} {body : St → zV F} {src : Option (Nat × O)} {σ : St} (hs : dL src σ.heap = true) : gs tgt body (aa F.next) src [] σ = .ok .next σ := by
 rw [gs, if_pos hs]; rfl
noncomputable abbrev wU : St → zV F := (aM (zB (aB (aW CmpOp.In (ai 6) (ai 4))) (aa F.cont) (aa F.next)) (pF 20))
theorem sL (S : zR pre ord nd sc np su rdy po fi H0) (hsu : ∀ x y, y ∈ su x → y ∈ ord) (h6 : ord.length ≤ 6) {e0 : Nat} (hd : H0[pre.length + 2]? = some (.dict (gE ord nd) e0)) : ∀ (ks : List Nat) (sn : List Nat) (ep c : Nat) (Y : List O) (v : Option V), (∀ k ∈ ks, k ∈ ord) → Y.length = 2 * c → sn.Nodup → (∀ x ∈ sn, x ∈ ord) →
  (bf su ks sn = some none → ∃ q τ xs, gs (ao 6) wU (aa F.next) (some (pre.length + 2, .dict (gE ord nd) e0)) (aP ks) ⟨L7 pre.length H0.length v, HP H0 [] [] sn ep Y⟩ = .ok (.ret (.ref q)) τ ∧ τ.heap.take H0.length = H0 ∧ τ.heap[q]? = some (.list xs) ∧ xs ≠ [] ∧ xs.length ≤ 500) ∧
  (∀ sn', bf su ks sn = some (some sn') → ∃ τ, gs (ao 6) wU (aa F.next) (some (pre.length + 2, .dict (gE ord nd) e0)) (aP ks) ⟨L7 pre.length H0.length v, HP H0 [] [] sn ep Y⟩ = .ok .next τ ∧ τ.heap.take H0.length = H0) := by
 intro ks
 induction ks with
 | nil =>
  intro sn ep c Y v _ hc _ _
  exact ⟨fun h => (by cases h), fun sn' _ => ⟨_, fz (bC (aE hd)), nV ..⟩⟩
 | cons k ks ih =>
  intro sn ep c Y v hk hc hn hs
  have hst : dL (some (pre.length + 2, O.dict (gE ord nd) e0)) (⟨L7 pre.length H0.length v, HP H0 [] [] sn ep Y⟩ : St).heap = true := bC (aE hd)
  have h1 : ao 6 (.int k) ⟨L7 pre.length H0.length v, HP H0 [] [] sn ep Y⟩ = .ok () ⟨L7 pre.length H0.length (some (.int k)), HP H0 [] [] sn ep Y⟩ := rfl
  have t1 := uw (L := L7 pre.length H0.length (some (.int k))) (H := HP H0 [] [] sn ep Y) (i := 6) (j := 4) (k := k) (l := H0.length + 2) (sn := sn) rfl rfl (tM ..)
  by_cases hks : k ∈ sn
  ·have hw : bf su (k :: ks) sn = bf su ks sn := by simp only [bf, hks, if_true]
   have hb : wU ⟨L7 pre.length H0.length (some (.int k)), HP H0 [] [] sn ep Y⟩ = .ok .cont ⟨L7 pre.length H0.length (some (.int k)), HP H0 [] [] sn ep Y⟩ := by
    have : zB (aB (aW CmpOp.In (ai 6) (ai 4))) (aa F.cont) (aa F.next) ⟨L7 pre.length H0.length (some (.int k)), HP H0 [] [] sn ep Y⟩ = .ok .cont ⟨L7 pre.length H0.length (some (.int k)), HP H0 [] [] sn ep Y⟩ := by
     refine (d9 t1).trans ?_
     rw [decide_eq_true hks, if_pos rfl]; rfl
    show aM _ _ _ = _
    unfold aM
    rw [this]; rfl
   have hf : gs (ao 6) wU (aa F.next) (some (pre.length + 2, .dict (gE ord nd) e0)) (aP (k :: ks)) ⟨L7 pre.length H0.length v, HP H0 [] [] sn ep Y⟩ = _ := ee hst h1 (.inr hb)
   rw [hw, hf]
   exact ih sn ep c Y _ (fun z hz => hk z (List.mem_cons_of_mem _ hz)) hc hn hs
  ·have hA : zB (aB (aW CmpOp.In (ai 6) (ai 4))) (aa F.cont) (aa F.next) ⟨L7 pre.length H0.length (some (.int k)), HP H0 [] [] sn ep Y⟩ = .ok .next ⟨L7 pre.length H0.length (some (.int k)), HP H0 [] [] sn ep Y⟩ := by
    refine (d9 t1).trans ?_
    rw [decide_eq_false hks, if_neg (by decide)]; rfl
   obtain ⟨w1, w2⟩ := qx S hsu h6 20 k [] [] sn ep c Y trivial hc ⟨hn, hs, List.nodup_nil, fun x h => by cases h⟩ (hk k (List.mem_cons_self ..))
   cases hq : fV su 20 k [] sn with
   | none =>
    have hw : bf su (k :: ks) sn = none := by simp only [bf, hks, if_false, hq]
    rw [hw]
    exact ⟨fun h => (by cases h), fun sn' h => (by cases h)⟩
   | some r =>
    cases r with
    | none =>
     have hw : bf su (k :: ks) sn = some none := by simp only [bf, hks, if_false, hq]
     rw [hw]
     refine ⟨fun _ => ?_, fun sn' h => (by cases h)⟩
     obtain ⟨q, τ, xs, r1, r2⟩ := w1 hq
     exact ⟨q, τ, xs, wq hst h1 ((aG hA).trans r1), r2⟩
    | some sn2 =>
     have hw : bf su (k :: ks) sn = bf su ks sn2 := by simp only [bf, hks, if_false, hq]
     obtain ⟨v2, ep', c', Y', r1, r2, r3, r4⟩ := w2 sn2 hq
     have hf : gs (ao 6) wU (aa F.next) (some (pre.length + 2, .dict (gE ord nd) e0)) (aP (k :: ks)) ⟨L7 pre.length H0.length v, HP H0 [] [] sn ep Y⟩ = _ := ee hst h1 (.inl ((aG hA).trans r1))
     rw [hw, hf]
     exact ih sn2 ep' c' Y' v2 (fun z hz => hk z (List.mem_cons_of_mem _ hz)) r2 r3 r4
theorem xF (S : zR pre ord nd sc np su rdy po fi H0) (hsu : ∀ x y, y ∈ su x → y ∈ ord) (h6 : ord.length ≤ 6) :
  (bf su ord [] = some none → ∃ q τ xs, iR [.ref (pre.length + 1)] H0 = .ok (.ref q) τ ∧ τ.heap.take H0.length = H0 ∧ τ.heap[q]? = some (.list xs) ∧ xs ≠ [] ∧ xs.length ≤ 500) ∧
  (∀ sn', bf su ord [] = some (some sn') → ∃ τ, iR [.ref (pre.length + 1)] H0 = .ok .none τ ∧ τ.heap.take H0.length = H0) := by
 obtain ⟨e0, hd⟩ := S.di
 obtain ⟨f1, f2⟩ := sL S hsu h6 hd ord [] 0 0 [] none (fun _ h => h) rfl List.nodup_nil (fun x h => by cases h)
 have go : ∀ (v : V) (f : F) (τ : St), gs (ao 6) wU (aa F.next) (some (pre.length + 2, .dict (gE ord nd) e0)) (aP ord) ⟨L7 pre.length H0.length none, HP H0 [] [] [] 0 []⟩ = .ok f τ → (f = .ret v ∨ (f = .next ∧ v = .none)) → iR [.ref (pre.length + 1)] H0 = .ok v τ := by
  intro v f τ hf hv
  have a1 : an (ba (getD 269 "_node2info") (ai 0)) (ao 1) ⟨[some (.ref (pre.length + 1)), none, none, none, none, none, none], H0⟩ = .ok .next ⟨[some (.ref (pre.length + 1)), some (.ref (pre.length + 2)), none, none, none, none, none], H0⟩ :=
   bx ((bz (aI rfl)).trans (S.n2i _))
  have a2 : an (bu (aa [])) (ao 2) ⟨[some (.ref (pre.length + 1)), some (.ref (pre.length + 2)), none, none, none, none, none], H0⟩ = .ok .next ⟨[some (.ref (pre.length + 1)), some (.ref (pre.length + 2)), some (.ref H0.length), none, none, none, none], H0 ++ [.list []]⟩ :=
   bx (cP (ms := aa []) rfl (by show 0 ≤ 1000; decide))
  have l1 : (H0 ++ [O.list []]).length = H0.length + 1 := by rw [List.length_append]; rfl
  have a3 : an (bu (aa [])) (ao 3) ⟨[some (.ref (pre.length + 1)), some (.ref (pre.length + 2)), some (.ref H0.length), none, none, none, none], H0 ++ [.list []]⟩ = .ok .next ⟨[some (.ref (pre.length + 1)), some (.ref (pre.length + 2)), some (.ref H0.length), some (.ref (H0.length + 1)), none, none, none], (H0 ++ [.list []]) ++ [.list []]⟩ := by
   rw [bx (i := 3) (cP (ms := aa []) (vs := []) (σ := ⟨[some (.ref (pre.length + 1)), some (.ref (pre.length + 2)), some (.ref H0.length), none, none, none, none], H0 ++ [O.list []]⟩) (ae := ⟨[some (.ref (pre.length + 1)), some (.ref (pre.length + 2)), some (.ref H0.length), none, none, none, none], H0 ++ [O.list []]⟩) rfl (by show 0 ≤ 1000; decide)), l1]; rfl
  have l2 : ((H0 ++ [O.list []]) ++ [O.list []]).length = H0.length + 2 := by rw [List.length_append, l1]; rfl
  have a4 : an (aC (aa []) yQ) (ao 4) ⟨[some (.ref (pre.length + 1)), some (.ref (pre.length + 2)), some (.ref H0.length), some (.ref (H0.length + 1)), none, none, none], (H0 ++ [.list []]) ++ [.list []]⟩ = .ok .next ⟨[some (.ref (pre.length + 1)), some (.ref (pre.length + 2)), some (.ref H0.length), some (.ref (H0.length + 1)), some (.ref (H0.length + 2)), none, none], ((H0 ++ [.list []]) ++ [.list []]) ++ [.set []]⟩ := by
   have : aC (aa []) yQ ⟨[some (.ref (pre.length + 1)), some (.ref (pre.length + 2)), some (.ref H0.length), some (.ref (H0.length + 1)), none, none, none], (H0 ++ [.list []]) ++ [.list []]⟩ = .ok (.ref ((H0 ++ [O.list []]) ++ [O.list []]).length) ⟨[some (.ref (pre.length + 1)), some (.ref (pre.length + 2)), some (.ref H0.length), some (.ref (H0.length + 1)), none, none, none], ((H0 ++ [.list []]) ++ [.list []]) ++ [.set []]⟩ := rfl
   rw [bx this, l2]; rfl
  have l3 : (((H0 ++ [O.list []]) ++ [O.list []]) ++ [O.set []]).length = H0.length + 3 := by rw [List.length_append, l2]; rfl
  have a5 : an mV (ao 5) ⟨[some (.ref (pre.length + 1)), some (.ref (pre.length + 2)), some (.ref H0.length), some (.ref (H0.length + 1)), some (.ref (H0.length + 2)), none, none], ((H0 ++ [.list []]) ++ [.list []]) ++ [.set []]⟩ = .ok .next ⟨L7 pre.length H0.length none, HP H0 [] [] [] 0 []⟩ := by
   have : mV ⟨[some (.ref (pre.length + 1)), some (.ref (pre.length + 2)), some (.ref H0.length), some (.ref (H0.length + 1)), some (.ref (H0.length + 2)), none, none], ((H0 ++ [.list []]) ++ [.list []]) ++ [.set []]⟩ = .ok (.ref (((H0 ++ [O.list []]) ++ [O.list []]) ++ [O.set []]).length) ⟨[some (.ref (pre.length + 1)), some (.ref (pre.length + 2)), some (.ref H0.length), some (.ref (H0.length + 1)), some (.ref (H0.length + 2)), none, none], (((H0 ++ [.list []]) ++ [.list []]) ++ [.set []]) ++ [.dict [] 0]⟩ := rfl
   rw [bx this, l3]
   simp only [List.append_assoc, List.cons_append, List.nil_append]
   rfl
  have a6 : gZ (ai 1) (ao 6) wU (aa F.next) ⟨L7 pre.length H0.length none, HP H0 [] [] [] 0 []⟩ = .ok f τ := by
   unfold gZ
   rw [show ai 1 ⟨L7 pre.length H0.length none, HP H0 [] [] [] 0 []⟩ = .ok (.ref (pre.length + 2)) ⟨L7 pre.length H0.length none, HP H0 [] [] [] 0 []⟩ from rfl, zV.bind_ok]
   have hi : bZ (.ref (pre.length + 2)) (HP H0 [] [] [] 0 []) = some (aP ord, some (pre.length + 2, .dict (gE ord nd) e0)) := by
    have := aE (X := [.list (zl []), .list (zy H0.length []), .set (zm []), .dict (zD []) 0]) hd
    have q : (HP H0 [] [] [] 0 [])[pre.length + 2]? = some (.dict (gE ord nd) e0) := this
    rw [ck q]
    unfold jh gE aP
    dsimp only
    rw [List.map_map]
    rfl
   simp only [hi]
   exact hf
  refine du (b8 := H0) (L := [some (.ref (pre.length + 1)), none, none, none, none, none, none]) rfl rfl ?_
  refine (aG a1).trans ((aG a2).trans ((aG a3).trans ((aG a4).trans ((aG a5).trans ?_))))
  rcases hv with rfl | ⟨rfl, rfl⟩
  ·exact vE a6
  ·exact (aG a6).trans rfl
 refine ⟨fun h => ?_, fun sn' h => ?_⟩
 ·obtain ⟨q, τ, xs, r1, r2⟩ := f1 h
  exact ⟨q, τ, xs, go _ _ _ r1 (.inl rfl), r2⟩
 ·obtain ⟨τ, r1, r2⟩ := f2 sn' h
  exact ⟨τ, go _ _ _ r1 (.inr ⟨rfl, rfl⟩), r2⟩
end
theorem iU (H Z : List O) (a : O) : (H ++ a :: Z)[H.length]? = some a := by rw [List.getElem?_append_right (Nat.le_refl _), Nat.sub_self]; rfl
theorem rU (H Z : List O) (a b : O) : (H ++ a :: b :: Z)[H.length + 1]? = some b := by rw [List.getElem?_append_right (Nat.le_add_right _ _), Nat.add_sub_cancel_left]; rfl
theorem at_2 (H Z : List O) (a b c : O) : (H ++ a :: b :: c :: Z)[H.length + 2]? = some c := by rw [List.getElem?_append_right (Nat.le_add_right _ _), Nat.add_sub_cancel_left]; rfl
theorem sZ (H Z : List O) (a o : O) : (H ++ a :: Z).set H.length o = H ++ o :: Z := by rw [List.set_append_right _ _ (Nat.le_refl _), Nat.sub_self]; rfl
theorem vO (H Z : List O) (a b o : O) : (H ++ a :: b :: Z).set (H.length + 1) o = H ++ a :: o :: Z := by rw [List.set_append_right _ _ (Nat.le_add_right _ _), Nat.add_sub_cancel_left]; rfl
theorem jD (H Z : List O) (fs : List (Str × V)) (sl : List (Option V)) (i : Nat) (u : V) (L : List (Option V)) : fC 172 i (.ref (H.length + 1)) u ⟨L, H ++ (.idict fs :: .inst 172 H.length sl :: Z)⟩ = .ok () ⟨L, H ++ (.idict fs :: .inst 172 H.length (oG sl i u) :: Z)⟩ := by
 exact (jC (rU ..) (iU ..)).trans (by rw [vO])
theorem gU (H Z : List O) (fs : List (Str × V)) (sl : List (Option V)) (x : Str) (u : V) (L : List (Option V)) (hl : fs.length ≤ 900) : iP 269 x (.ref (H.length + 1)) u ⟨L, H ++ (.idict fs :: .inst 269 H.length sl :: Z)⟩ = .ok () ⟨L, H ++ (.idict (lK fs x u) :: .inst 269 H.length sl :: Z)⟩ := by
 exact (jF (rU ..) (iU ..) hl).trans (by rw [sZ])
theorem xM (H : List O) (k : Nat) : ∃ L, lc [.ref (H.length + 1), .int k] (H ++ [.idict [], .inst 172 H.length []]) = .ok .none ⟨L, H ++ md H.length k⟩ := by
 refine ⟨[some (.ref (H.length + 1)), some (.int k)], ?_⟩
 have a1 : an (ai 1) (cE (fC 172 0) (ai 0)) ⟨[some (.ref (H.length + 1)), some (.int k)], H ++ (.idict [] :: .inst 172 H.length [] :: [])⟩ = .ok .next ⟨[some (.ref (H.length + 1)), some (.int k)], H ++ (.idict [] :: .inst 172 H.length [some (.int k)] :: [])⟩ :=
  bY (v := .int k) (ae := ⟨[some (.ref (H.length + 1)), some (.int k)], H ++ (O.idict [] :: O.inst 172 H.length [] :: [])⟩) rfl (jD H [] [] [] 0 (.int k) _)
 have a2 : an (aa (V.int 0)) (cE (fC 172 1) (ai 0)) ⟨[some (.ref (H.length + 1)), some (.int k)], H ++ (.idict [] :: .inst 172 H.length [some (.int k)] :: [])⟩ = .ok .next ⟨[some (.ref (H.length + 1)), some (.int k)], H ++ (.idict [] :: .inst 172 H.length [some (.int k), some (.int 0)] :: [])⟩ :=
  bY (v := .int 0) (ae := ⟨[some (.ref (H.length + 1)), some (.int k)], H ++ (O.idict [] :: O.inst 172 H.length [some (.int k)] :: [])⟩) rfl (jD H [] [] [some (.int k)] 1 (.int 0) _)
 have a3 : an (bu (aa [])) (cE (fC 172 2) (ai 0)) ⟨[some (.ref (H.length + 1)), some (.int k)], H ++ (.idict [] :: .inst 172 H.length [some (.int k), some (.int 0)] :: [])⟩ = .ok .next ⟨[some (.ref (H.length + 1)), some (.int k)], H ++ md H.length k⟩ := by
  have e := cP (ms := aa []) (vs := []) (σ := ⟨[some (.ref (H.length + 1)), some (.int k)], H ++ (O.idict [] :: O.inst 172 H.length [some (.int k), some (.int 0)] :: [])⟩) (ae := ⟨[some (.ref (H.length + 1)), some (.int k)], H ++ (O.idict [] :: O.inst 172 H.length [some (.int k), some (.int 0)] :: [])⟩) rfl (by show 0 ≤ 1000; decide)
  have hl : (H ++ (O.idict [] :: .inst 172 H.length [some (.int k), some (.int 0)] :: [])).length = H.length + 2 := by rw [List.length_append]; rfl
  simp only [hl, List.append_assoc, List.cons_append, List.nil_append] at e
  exact bY e (jD H [.list []] [] [some (.int k), some (.int 0)] 2 (.ref (H.length + 2)) _)
 have b : (aM (an (ai 1) (cE (fC 172 0) (ai 0))) (aM (an (aa (V.int 0)) (cE (fC 172 1) (ai 0))) (an (bu (aa [])) (cE (fC 172 2) (ai 0))))) ⟨[some (.ref (H.length + 1)), some (.int k)], H ++ (.idict [] :: .inst 172 H.length [] :: [])⟩ = .ok .next ⟨[some (.ref (H.length + 1)), some (.int k)], H ++ md H.length k⟩ :=
  (aG a1).trans ((aG a2).trans a3)
 unfold lc dj
 show (match (aM (an (ai 1) (cE (fC 172 0) (ai 0))) (aM (an (aa (V.int 0)) (cE (fC 172 1) (ai 0))) (an (bu (aa [])) (cE (fC 172 2) (ai 0))))) ⟨[some (.ref (H.length + 1)), some (.int k)], H ++ (.idict [] :: .inst 172 H.length [] :: [])⟩ with
   | .ok (.ret v) τ => zV.ok v τ
   | .ok .next τ => .ok .none τ
   | .ok _ _ => .bad
   | .exc c as τ => .exc c as τ
   | .bad => .bad) = _
 rw [b]
theorem fQ {n : Nat} {bnd : List V → List O → Option (List V × List O)} {body : St → zV F} {vs ps : List V} {H b8 : List O} {L : List (Option V)} {τ : St} (hb : bnd vs H = some (ps, b8)) (hL : dH n ps = L) (h : body ⟨L, b8⟩ = .ok .next τ) : dj n bnd body vs H = .ok .none τ := by
 unfold dj; rw [hb]; subst hL; simp only [h]
theorem cm {m : cY} {vs : List V} {v : V} {σ τ : St} (h : m vs σ.heap = .ok v τ) : bJ m vs σ = .ok v ⟨σ.loc, τ.heap⟩ := by
 unfold bJ; rw [h]
section
variable {pre : List O} {ord : List Nat} {nd sc : Nat → Nat} {np : Nat → Int} {su : Nat → List Nat} {rdy : V} {po fi : Int} {H : List O}
theorem xL (S : zR pre ord nd sc np su rdy po fi H) (k : Nat) (h100 : ord.length ≤ 100) : ∃ ord' nd' sc' τ, lb [.ref (pre.length + 1), .int k] H = .ok (.ref (nd' k)) τ ∧ zR pre ord' nd' sc' np su rdy po fi τ.heap ∧ k ∈ ord' ∧ (∀ x ∈ ord, x ∈ ord') ∧ (∀ x ∈ ord', x ∈ ord ∨ x = k) ∧ ∀ (l : Nat) (xs : List V), H[l]? = some (O.tup xs) → τ.heap[l]? = some (O.tup xs) := by
 obtain ⟨ep, hd⟩ := S.di
 have g0 : ba (getD 269 "_node2info") (ai 0) ⟨[some (.ref (pre.length + 1)), some (.int k), none], H⟩ = .ok (.ref (pre.length + 2)) ⟨[some (.ref (pre.length + 1)), some (.int k), none], H⟩ := (bz (aI rfl)).trans (S.n2i _)
 have g1 : a7 bQ gx (ba (getD 269 "_node2info") (ai 0)) (aj (ai 1) (aa [])) ⟨[some (.ref (pre.length + 1)), some (.int k), none], H⟩ = .ok (if k ∈ ord then .ref (nd k) else .none) ⟨[some (.ref (pre.length + 1)), some (.int k), none], H⟩ :=
  (cN g0 S.isD (ma := aj (ai 1) (aa [])) (vs := [.int k]) (aq := ⟨[some (.ref (pre.length + 1)), some (.int k), none], H⟩) rfl).trans (S.dget k _)
 have g2 : aB (aW CmpOp.Is (fun σ => (a7 bQ gx (ba (getD 269 "_node2info") (ai 0)) (aj (ai 1) (aa [])) σ).bind fun v ae => (ao 2 v ae).bind fun x aq => zV.ok v aq) (aa V.none)) ⟨[some (.ref (pre.length + 1)), some (.int k), none], H⟩ = .ok (decide (k ∉ ord)) ⟨[some (.ref (pre.length + 1)), some (.int k), some (if k ∈ ord then .ref (nd k) else .none)], H⟩ := by
  refine bM ?_
  have q : (fun σ => (a7 bQ gx (ba (getD 269 "_node2info") (ai 0)) (aj (ai 1) (aa [])) σ).bind fun v ae => (ao 2 v ae).bind fun x aq => zV.ok v aq : St → zV V) ⟨[some (.ref (pre.length + 1)), some (.int k), none], H⟩ = .ok (if k ∈ ord then .ref (nd k) else .none) ⟨[some (.ref (pre.length + 1)), some (.int k), some (if k ∈ ord then .ref (nd k) else .none)], H⟩ := by
   show (a7 bQ gx _ _ _).bind _ = _
   rw [g1, zV.bind_ok]; rfl
  refine (bq q (mr := aa V.none) rfl).trans ?_
  rw [is_none]
  by_cases e : k ∈ ord
  ·rw [if_pos e, decide_eq_false (by simp), decide_eq_false (by simpa using e)]
  ·rw [if_neg e, decide_eq_true rfl, decide_eq_true e]
 by_cases e : k ∈ ord
 ·refine ⟨ord, nd, sc, ⟨[some (.ref (pre.length + 1)), some (.int k), some (.ref (nd k))], H⟩, ?_, S, e, fun _ h => h, fun _ h => .inl h, fun _ _ h => h⟩
  refine du (b8 := H) (L := [some (.ref (pre.length + 1)), some (.int k), none]) rfl rfl ?_
  rw [decide_eq_false (by simpa using e), if_pos e] at g2
  refine (aG (ae := ⟨[some (.ref (pre.length + 1)), some (.int k), some (.ref (nd k))], H⟩) ?_).trans (eK rfl)
  refine (d9 g2).trans ?_
  rw [if_neg (by decide)]; rfl
 ·rw [decide_eq_true e, if_neg e] at g2
  obtain ⟨L, r⟩ := xM H k
  have h1 := aE (X := md H.length k) hd
  have S' := S.app (md H.length k)
  refine ⟨ord ++ [k], _, _, ⟨[some (.ref (pre.length + 1)), some (.int k), some (.ref (H.length + 1))], _⟩, ?_, S.new e ep hd, by simp, fun x h => List.mem_append_left _ h, fun x h => by simpa using h, fun l xs h => ?_⟩
  ·rw [eE]
   refine du (b8 := H) (L := [some (.ref (pre.length + 1)), some (.int k), none]) rfl rfl ?_
   refine (aG (ae := ⟨[some (.ref (pre.length + 1)), some (.int k), some (.ref (H.length + 1))], _⟩) ?_).trans (eK rfl)
   refine (d9 g2).trans ?_
   rw [if_pos rfl]
   have c1 : aC (aj (ai 1) (aa [])) (bJ (gp 172 lc)) ⟨[some (.ref (pre.length + 1)), some (.int k), some .none], H⟩ = .ok (.ref (H.length + 1)) ⟨[some (.ref (pre.length + 1)), some (.int k), some .none], H ++ md H.length k⟩ := by
    rw [bX (ms := aj (ai 1) (aa [])) (vs := [.int k]) (ae := ⟨[some (.ref (pre.length + 1)), some (.int k), some .none], H⟩) rfl]
    have : gp 172 lc [.int k] H = .ok (.ref (H.length + 1)) ⟨L, H ++ md H.length k⟩ := by
     unfold gp
     rw [r]
    exact cm (m := gp 172 lc) (vs := [.int k]) (σ := ⟨[some (.ref (pre.length + 1)), some (.int k), some .none], H⟩) this
   unfold jY
   rw [c1, zV.bind_ok]
   have c2 : pS (ba (getD 269 "_node2info") (ai 0)) (ai 1) (.ref (H.length + 1)) ⟨[some (.ref (pre.length + 1)), some (.int k), some .none], H ++ md H.length k⟩ = .ok () ⟨[some (.ref (pre.length + 1)), some (.int k), some .none], (H ++ md H.length k).set (pre.length + 2) (.dict (gE ord nd ++ [((k : Int), .ref (H.length + 1))]) (ep + 1))⟩ := by
    unfold pS
    rw [bz (aI (v := .ref (pre.length + 1)) rfl), S'.n2i, zV.bind_ok, aI (v := .int k) rfl, zV.bind_ok]
    have q2 : (gE ord nd).any (fun p => decide (p.1 = (k : Int))) = false := by
     rw [List.any_eq_false]
     intro p hp
     unfold gE at hp
     obtain ⟨j, hj, rfl⟩ := List.mem_map.mp hp
     rw [decide_eq_true_eq]
     intro q
     have : j = k := by lia
     exact e (this ▸ hj)
    rw [kK h1]
    unfold lx
    rw [q2]
    simp only [Bool.false_eq_true, if_false]
    rw [if_pos (by unfold gE; rw [List.length_map]; show ord.length ≤ 16777216; lia)]
   rw [c2, zV.bind_ok]
   rfl
  ·exact aY (aE h) (aN h1 (aE h) (by simp))
end
theorem d0 {chk : V → List O → Bool} {g : List V → St → zV V} {mo : St → zV V} {ma : St → zV (List V)} {v : V} {vs : List V} {σ ae aq : St} (h : mo σ = .ok v ae) (hc : chk v ae.heap = true) (ha : ma ae = .ok vs aq) : cW chk g mo ma σ = g (v :: vs) aq := by
 unfold cW; rw [h, zV.bind_ok, if_pos hc, ha, zV.bind_ok]
theorem oj {op : Operator} {g : V → St → zV V} {f : V → V → St → zV Unit} {mo m : St → zV V} {σ ae aq aS cg fD : St} {o a b c : V} (h1 : mo σ = .ok o ae) (h2 : g o ae = .ok a aq) (h3 : m aq = .ok b aS) (h4 : opI op a b aS = .ok c cg) (h5 : f o c cg = .ok () fD) : pt op g f mo m σ = .ok .next fD := by
 unfold pt; rw [h1, zV.bind_ok, h2, zV.bind_ok, h3, zV.bind_ok, h4, zV.bind_ok, h5, zV.bind_ok]
noncomputable def cj : Option Nat → List V
 | none => []
 | some p => [.int p]
noncomputable def wV (su : Nat → List Nat) (k : Nat) : Option Nat → Nat → List Nat
 | none => su
 | some p => upd su p (su p ++ [k])
noncomputable def tY : Option Nat → Int
 | none => 0
 | some _ => 1
section
variable {pre : List O} {ord : List Nat} {nd sc : Nat → Nat} {np : Nat → Int} {su : Nat → List Nat} {rdy : V} {po fi : Int} {H : List O}
theorem nE (S : zR pre ord nd sc np su rdy po fi H) {k i j : Nat} (h100 : ord.length ≤ 100) {L : List (Option V)} (h0 : L[0]? = some (some (.ref (pre.length + 1)))) (hi : L[i]? = some (some (.int k))) :
  ∃ ord' nd' sc' H', an (cW (bP 269 "_get_nodeinfo") (bJ lb) (ai 0) (aj (ai i) (aa []))) (ao j) ⟨L, H⟩ = .ok .next ⟨L.set j (some (.ref (nd' k))), H'⟩ ∧ zR pre ord' nd' sc' np su rdy po fi H' ∧ k ∈ ord' ∧ (∀ x ∈ ord, x ∈ ord') ∧ (∀ x ∈ ord', x ∈ ord ∨ x = k) ∧ ∀ (l : Nat) (xs : List V), H[l]? = some (O.tup xs) → H'[l]? = some (O.tup xs) := by
 obtain ⟨ord', nd', sc', τ, r1, r2⟩ := xL S k h100
 refine ⟨ord', nd', sc', τ.heap, ?_, r2⟩
 refine bx (ae := ⟨L, τ.heap⟩) ?_
 rw [d0 (v := .ref (pre.length + 1)) (vs := [.int k]) (ae := ⟨L, H⟩) (aq := ⟨L, H⟩) (aI h0) (S.own (by kernel_rfl)) (aX (aI hi) (ms := aa []) rfl)]
 exact cm (m := lb) (σ := ⟨L, H⟩) r1
noncomputable abbrev y3 : St → zV F := (aM (an (cW (bP 269 "_get_nodeinfo") (bJ lb) (ai 0) (aj (ai 4) (aa []))) (ao 5)) (bE (a7 aO bk (ba (eM 172 2) (ai 5)) (aj (ai 1) (aa [])))))
theorem sR (S : zR pre ord nd sc np su rdy po fi H) {k p t : Nat} (h100 : ord.length ≤ 100) (hs : ∀ x, (su x).length ≤ 100) {v3 v5 : Option V} :
  ∃ ord' nd' sc' H', y3 ⟨[some (.ref (pre.length + 1)), some (.int k), some (.ref t), v3, some (.int p), v5], H⟩ = .ok .next ⟨[some (.ref (pre.length + 1)), some (.int k), some (.ref t), v3, some (.int p), some (.ref (nd' p))], H'⟩ ∧ zR pre ord' nd' sc' np (upd su p (su p ++ [k])) rdy po fi H' ∧ p ∈ ord' ∧ (∀ x ∈ ord, x ∈ ord') ∧ (∀ x ∈ ord', x ∈ ord ∨ x = p) ∧ ∀ (l : Nat) (xs : List V), H[l]? = some (O.tup xs) → H'[l]? = some (O.tup xs) := by
 obtain ⟨ord', nd', sc', H', r1, S', r3, r4, r5, r6⟩ := nE S (k := p) (i := 4) (j := 5) h100 (L := [some (.ref (pre.length + 1)), some (.int k), some (.ref t), v3, some (.int p), v5]) rfl rfl
 refine ⟨ord', nd', sc', H'.set (sc' p) (.list (aP (su p) ++ [.int k])), ?_, S'.addS r3 k, r3, r4, r5, fun l xs h => aY (r6 l xs h) (aN (S'.sx p r3).1 (r6 l xs h) (by simp))⟩
 refine (aG r1).trans ?_
 refine c0 (v := .none) ?_
 rw [cN (ma := aj (ai 1) (aa [])) (vs := [.int k]) ((bz (aI (v := .ref (nd' p)) rfl)).trans (S'.g2 r3 _)) (cC (S'.sx p r3).1) (aX (aI (v := .int k) rfl) (ms := aa []) rfl)]
 exact dT (S'.sx p r3).1 (by unfold aP; rw [List.length_map]; have := hs p; lia)
theorem xK (S : zR pre ord nd sc np su .none po fi H) (k : Nat) (o : Option Nat) (h100 : ord.length ≤ 90) (hs : ∀ x, (su x).length ≤ 100) :
  ∃ ord' nd' sc' τ, pd (.ref (pre.length + 1) :: .int k :: cj o) H = .ok .none τ ∧ zR pre ord' nd' sc' (upd np k (np k + tY o)) (wV su k o) .none po fi τ.heap ∧ k ∈ ord' ∧ (∀ p, o = some p → p ∈ ord') ∧ (∀ x ∈ ord, x ∈ ord') ∧ (∀ x ∈ ord', x ∈ ord ∨ x = k ∨ o = some x) := by
 have S0 := S.app [.tup (cj o)]
 have hlo : (cj o).length ≤ 1 := by cases o <;> simp [cj]
 have c1 : zB (aB (aW CmpOp.IsNot (ba (getD 269 "_ready_nodes") (ai 0)) (aa V.none))) dU (aa F.next) ⟨[some (.ref (pre.length + 1)), some (.int k), some (.ref H.length), none, none, none], H ++ [.tup (cj o)]⟩ = .ok .next ⟨[some (.ref (pre.length + 1)), some (.int k), some (.ref H.length), none, none, none], H ++ [.tup (cj o)]⟩ := by
  have q := (bz (g := getD 269 "_ready_nodes") (aI (i := 0) (L := [some (.ref (pre.length + 1)), some (.int k), some (.ref H.length), none, none, none]) (H := H ++ [.tup (cj o)]) rfl)).trans (S0.grd rfl _)
  refine (d9 (bM ((bq q (mr := aa .none) rfl).trans (eX _ _)))).trans ?_
  rfl
 obtain ⟨ord1, nd1, sc1, H1, r1, S1, r3, r4, r5, r6⟩ := nE S0 (k := k) (i := 1) (j := 3) (by lia) (L := [some (.ref (pre.length + 1)), some (.int k), some (.ref H.length), none, none, none]) rfl rfl
 simp only [List.set_cons_succ, List.set_cons_zero] at r1
 have t0 : (H ++ [O.tup (cj o)])[H.length]? = some (.tup (cj o)) := iU ..
 have t1 := r6 _ _ t0
 obtain ⟨H2, s1, S2, s3, s4⟩ := S1.s1 r3 (np k + tY o) [some (.ref (pre.length + 1)), some (.int k), some (.ref H.length), some (.ref (nd1 k)), none, none]
 have t2 : H2[H.length]? = some (.tup (cj o)) := by
  obtain ⟨d, fs, h1, h2, _⟩ := S1.no k r3
  have : fC 172 1 (.ref (nd1 k)) (.int (np k + tY o)) ⟨[some (.ref (pre.length + 1)), some (.int k), some (.ref H.length), some (.ref (nd1 k)), none, none], H1⟩ = .ok () ⟨[some (.ref (pre.length + 1)), some (.int k), some (.ref H.length), some (.ref (nd1 k)), none, none], H1.set (nd1 k) (.inst 172 d (oG [some (.int k), some (.int (np k)), some (.ref (sc1 k))] 1 (.int (np k + tY o))))⟩ := by
   exact jC h1 h2
  rw [this] at s1
  simp only [zV.ok.injEq, St.mk.injEq, true_and] at s1
  rw [← s1]
  exact aY t1 (aN h1 t1 (by simp))
 have c3 : pt Operator.Add (eM 172 1) (fC 172 1) (ai 3) (aC (aj (ai 2) (aa [])) iS) ⟨[some (.ref (pre.length + 1)), some (.int k), some (.ref H.length), some (.ref (nd1 k)), none, none], H1⟩ = .ok .next ⟨[some (.ref (pre.length + 1)), some (.int k), some (.ref H.length), some (.ref (nd1 k)), none, none], H2⟩ := by
  refine oj (aI (v := .ref (nd1 k)) rfl) (S1.g1 r3 _) ((bX (aX (aI (i := 2) (v := .ref H.length) rfl) (ms := aa []) rfl)).trans ?_) (b := .int (tY o)) (c := .int (np k + tY o)) rfl s1
  rw [qY t1, if_pos (by lia)]
  cases o <;> rfl
 have hi : bZ (.ref H.length) H2 = some (cj o, some (H.length, .tup (cj o))) := by
  exact ck t2
 have ho1 : ord1.length ≤ 100 := by
  have := ca (m := k :: ord) S1.nod fun x hx => by
   rcases r5 x hx with h | h
   ·exact List.mem_cons_of_mem _ h
   ·exact h ▸ List.mem_cons_self ..
  simp only [List.length_cons] at this; lia
 have loop : ∃ ord' nd' sc' τ, gZ (ai 2) (ao 4) y3 (aa F.next) ⟨[some (.ref (pre.length + 1)), some (.int k), some (.ref H.length), some (.ref (nd1 k)), none, none], H2⟩ = .ok .next τ ∧ zR pre ord' nd' sc' (upd np k (np k + tY o)) (wV su k o) .none po fi τ.heap ∧ (∀ p, o = some p → p ∈ ord') ∧ (∀ x ∈ ord1, x ∈ ord') ∧ (∀ x ∈ ord', x ∈ ord1 ∨ o = some x) := by
  have hf : gZ (ai 2) (ao 4) y3 (aa F.next) ⟨[some (.ref (pre.length + 1)), some (.int k), some (.ref H.length), some (.ref (nd1 k)), none, none], H2⟩ = gs (ao 4) y3 (aa F.next) (some (H.length, .tup (cj o))) (cj o) ⟨[some (.ref (pre.length + 1)), some (.int k), some (.ref H.length), some (.ref (nd1 k)), none, none], H2⟩ := by
   unfold gZ
   rw [show ai 2 ⟨[some (.ref (pre.length + 1)), some (.int k), some (.ref H.length), some (.ref (nd1 k)), none, none], H2⟩ = .ok (.ref H.length) ⟨[some (.ref (pre.length + 1)), some (.int k), some (.ref H.length), some (.ref (nd1 k)), none, none], H2⟩ from rfl, zV.bind_ok]
   simp only [hi]
  rw [hf]
  cases o with
  | none => exact ⟨ord1, nd1, sc1, _, fz (bC t2), S2, fun p h => (by cases h), fun _ h => h, fun _ h => .inl h⟩
  | some p =>
   obtain ⟨ord3, nd3, sc3, H3, g1, g2, g3, g4, g5, g6⟩ := sR S2 (k := k) (p := p) (t := H.length) ho1 hs (v3 := some (.ref (nd1 k))) (v5 := none)
   refine ⟨ord3, nd3, sc3, ⟨[some (.ref (pre.length + 1)), some (.int k), some (.ref H.length), some (.ref (nd1 k)), some (.int p), some (.ref (nd3 p))], H3⟩, ?_, g2, fun q h => (by cases h; exact g3), g4, fun x hx => (g5 x hx).imp id fun h => by rw [h]⟩
   rw [show cj (some p) = [V.int p] from rfl]
   rw [ee (ae := ⟨[some (.ref (pre.length + 1)), some (.int k), some (.ref H.length), some (.ref (nd1 k)), some (.int p), none], H2⟩) (bC t2) rfl (.inl g1)]
   exact fz (bC (g6 _ _ t2))
 obtain ⟨ord', nd', sc', τ, l1, l2, l3, l4, l5⟩ := loop
 refine ⟨ord', nd', sc', τ, ?_, l2, l4 k r3, l3, fun x hx => l4 x (r4 x hx), fun x hx => ?_⟩
 ·refine fQ (ps := [.ref (pre.length + 1), .int k, .ref H.length]) (b8 := H ++ [.tup (cj o)]) (L := [some (.ref (pre.length + 1)), some (.int k), some (.ref H.length), none, none, none]) ?_ rfl ?_
  ·unfold wz
   rw [if_pos ⟨by simp, by simp; lia⟩]; rfl
  ·exact (aG c1).trans ((aG r1).trans ((aG c3).trans l1))
 ·rcases l5 x hx with h | h
  ·rcases r5 x h with h | h
   ·exact .inl h
   ·exact .inr (.inl h)
  ·exact .inr (.inr h)
end
theorem sz (pre : List O) (L : List (Option V)) : aC (aa []) (bJ (gp 269 mA)) ⟨L, pre⟩ = .ok (.ref (pre.length + 1)) ⟨L, pre ++ [.idict (eD pre.length .none 0 0), .inst 269 pre.length [], .dict [] 0]⟩ := by
 have p1 : lK [] "_node2info" (.ref (pre.length + 2)) = [(Str.ofString "_node2info", .ref (pre.length + 2))] := rfl
 have p2 : lK [(Str.ofString "_node2info", .ref (pre.length + 2))] "_ready_nodes" .none = [(Str.ofString "_node2info", .ref (pre.length + 2)), (Str.ofString "_ready_nodes", .none)] := by kernel_rfl
 have p3 : lK [(Str.ofString "_node2info", .ref (pre.length + 2)), (Str.ofString "_ready_nodes", .none)] "_npassedout" (.int 0) = [(Str.ofString "_node2info", .ref (pre.length + 2)), (Str.ofString "_ready_nodes", .none), (Str.ofString "_npassedout", .int 0)] := by kernel_rfl
 have p4 : lK [(Str.ofString "_node2info", .ref (pre.length + 2)), (Str.ofString "_ready_nodes", .none), (Str.ofString "_npassedout", .int 0)] "_nfinished" (.int 0) = eD pre.length .none 0 0 := by kernel_rfl
 have hl : (pre ++ [O.idict [], .inst 269 pre.length []]).length = pre.length + 2 := by rw [List.length_append]; rfl
 have b : mA [.ref (pre.length + 1)] (pre ++ [.idict [], .inst 269 pre.length []]) = .ok .none ⟨[some (.ref (pre.length + 1)), some .none, none, none], pre ++ [.idict (eD pre.length .none 0 0), .inst 269 pre.length [], .dict [] 0]⟩ := by
  refine fQ (b8 := pre ++ [.idict [], .inst 269 pre.length []]) (L := [some (.ref (pre.length + 1)), some .none, none, none]) rfl rfl ?_
  have d1 : mV ⟨[some (.ref (pre.length + 1)), some .none, none, none], pre ++ [.idict [], .inst 269 pre.length []]⟩ = .ok (.ref (pre.length + 2)) ⟨[some (.ref (pre.length + 1)), some .none, none, none], pre ++ (O.idict [] :: O.inst 269 pre.length [] :: [.dict [] 0])⟩ := by
   unfold mV
   simp only [hl, List.append_assoc, List.cons_append, List.nil_append]
  have a1 := bY (f := cE (iP 269 "_node2info") (ai 0)) d1 (gU pre [.dict [] 0] [] [] "_node2info" (.ref (pre.length + 2)) _ (by decide))
  rw [p1] at a1
  have a2 := bY (m := aa V.none) (σ := ⟨[some (.ref (pre.length + 1)), some .none, none, none], pre ++ (O.idict [(Str.ofString "_node2info", .ref (pre.length + 2))] :: O.inst 269 pre.length [] :: [.dict [] 0])⟩) (ae := ⟨[some (.ref (pre.length + 1)), some .none, none, none], pre ++ (O.idict [(Str.ofString "_node2info", .ref (pre.length + 2))] :: O.inst 269 pre.length [] :: [.dict [] 0])⟩) (f := cE (iP 269 "_ready_nodes") (ai 0)) rfl (gU pre [.dict [] 0] _ [] "_ready_nodes" .none _ (by show 1 ≤ 900; decide))
  rw [p2] at a2
  have a3 := bY (m := aa (V.int 0)) (σ := ⟨[some (.ref (pre.length + 1)), some .none, none, none], pre ++ (O.idict [(Str.ofString "_node2info", .ref (pre.length + 2)), (Str.ofString "_ready_nodes", .none)] :: O.inst 269 pre.length [] :: [.dict [] 0])⟩) (ae := ⟨[some (.ref (pre.length + 1)), some .none, none, none], pre ++ (O.idict [(Str.ofString "_node2info", .ref (pre.length + 2)), (Str.ofString "_ready_nodes", .none)] :: O.inst 269 pre.length [] :: [.dict [] 0])⟩) (f := cE (iP 269 "_npassedout") (ai 0)) rfl (gU pre [.dict [] 0] _ [] "_npassedout" (.int 0) _ (by show 2 ≤ 900; decide))
  rw [p3] at a3
  have a4 := bY (m := aa (V.int 0)) (σ := ⟨[some (.ref (pre.length + 1)), some .none, none, none], pre ++ (O.idict [(Str.ofString "_node2info", .ref (pre.length + 2)), (Str.ofString "_ready_nodes", .none), (Str.ofString "_npassedout", .int 0)] :: O.inst 269 pre.length [] :: [.dict [] 0])⟩) (ae := ⟨[some (.ref (pre.length + 1)), some .none, none, none], pre ++ (O.idict [(Str.ofString "_node2info", .ref (pre.length + 2)), (Str.ofString "_ready_nodes", .none), (Str.ofString "_npassedout", .int 0)] :: O.inst 269 pre.length [] :: [.dict [] 0])⟩) (f := cE (iP 269 "_nfinished") (ai 0)) rfl (gU pre [.dict [] 0] _ [] "_nfinished" (.int 0) _ (by show 3 ≤ 900; decide))
  rw [p4] at a4
  exact (aG a1).trans ((aG a2).trans ((aG a3).trans ((aG a4).trans rfl)))
 rw [bX (ms := aa []) (vs := []) (ae := ⟨L, pre⟩) rfl]
 have : gp 269 mA [] pre = .ok (.ref (pre.length + 1)) ⟨[some (.ref (pre.length + 1)), some .none, none, none], pre ++ [.idict (eD pre.length .none 0 0), .inst 269 pre.length [], .dict [] 0]⟩ := by
  unfold gp
  rw [b]
 exact cm (m := gp 269 mA) (vs := []) (σ := ⟨L, pre⟩) this
theorem se (pre : List O) : zR pre [] (fun _ => 0) (fun _ => 0) (fun _ => 0) (fun _ => []) .none 0 0 (pre ++ [.idict (eD pre.length .none 0 0), .inst 269 pre.length [], .dict [] 0]) :=
 ⟨by rw [List.take_append_of_le_length (Nat.le_refl _), List.take_length], iU .., rU .., ⟨0, at_2 ..⟩, fun k h => (by cases h), fun k h => (by cases h), fun j h => (by cases h), List.nodup_nil, fun _ _ => ⟨rfl, rfl⟩⟩
noncomputable abbrev zc : St → zV V := bI 6 (bu (aj (bp br (bp br (ai 0) (ai 2)) (aa (V.int 0))) (aa []))) (aB (aW CmpOp.IsNot (ai 6) (aa V.none))) (ai 6)
theorem sG {H : List O} {l : Nat} {par : Nat → Option Nat} (h : df H l par) {k : Nat} (hk : k < 6) (v1 v3 v4 v5 : Option V) :
  zc ⟨[some (.ref l), v1, some (.int k), v3, v4, v5], H⟩ = .ok (.ref (H.length + 1)) ⟨[some (.ref l), v1, some (.int k), v3, v4, v5], H ++ [.list [fk (par k)], .list (cj (par k))]⟩ := by
 have e1 := cP (aX (qI h hk (L := [some (.ref l), v1, some (.int k), v3, v4, v5]) (i := 0) (j := 2) rfl rfl) (ms := aa []) rfl) (by show 1 ≤ 1000; decide)
 have hl : (H ++ [O.list [fk (par k)]]).length = H.length + 1 := by rw [List.length_append]; rfl
 have hi : bZ (.ref H.length) (H ++ [O.list [fk (par k)]]) = some ([fk (par k)], some (H.length, .list [fk (par k)])) := by
  exact ck (iU ..)
 have s1 : ∀ xs, dL (some (H.length, .list [fk (par k)])) (H ++ (O.list [fk (par k)] :: O.list xs :: [])) = true := fun xs => bC (iU ..)
 unfold zc bI
 rw [e1, zV.bind_ok]
 simp only [hi, hl]
 rw [if_pos (show ([some (.ref l), v1, some (.int k), v3, v4, v5] : List (Option V)).length = 6 from rfl)]
 simp only [List.append_assoc, List.cons_append, List.nil_append]
 cases hq : par k with
 | none =>
  have s2 := s1 []
  rw [hq] at s2
  simp only [fk] at s2 ⊢
  simp only [c8, ao, zV.bind_ok]
  rw [if_pos s2]
  have t : aB (aW CmpOp.IsNot (ai 6) (aa V.none)) ⟨[some (.ref l), v1, some (.int k), v3, v4, v5, none].set 6 (some .none), H ++ [.list [.none], .list []]⟩ = .ok false ⟨[some (.ref l), v1, some (.int k), v3, v4, v5].append [some .none], H ++ [.list [.none], .list []]⟩ := rfl
  rw [t]
  simp only [zV.calm, zV.bind_ok]
  rw [if_neg (by decide), if_pos s2]
  rfl
 | some p =>
  have s2 := s1 []
  have s3 := s1 [.int p]
  rw [hq] at s2 s3
  simp only [fk] at s2 s3 ⊢
  simp only [c8, ao, zV.bind_ok]
  rw [if_pos s2]
  have t : aB (aW CmpOp.IsNot (ai 6) (aa V.none)) ⟨[some (.ref l), v1, some (.int k), v3, v4, v5, none].set 6 (some (.int p)), H ++ [.list [.int p], .list []]⟩ = .ok true ⟨[some (.ref l), v1, some (.int k), v3, v4, v5, some (.int p)], H ++ [.list [.int p], .list []]⟩ := rfl
  rw [t]
  simp only [zV.calm, zV.bind_ok, if_true]
  rw [show ai 6 ⟨[some (.ref l), v1, some (.int k), v3, v4, v5, some (.int p)], H ++ [.list [.int p], .list []]⟩ = .ok (.int p) ⟨[some (.ref l), v1, some (.int k), v3, v4, v5, some (.int p)], H ++ [.list [.int p], .list []]⟩ from rfl]
  simp only [zV.calm, zV.bind_ok]
  unfold c9
  simp only [rU, vO]
  rw [if_pos (by show 0 ≤ 16777216; decide), zV.bind_ok]
  simp only [List.nil_append]
  rw [if_pos s3]
  rfl
noncomputable def zv (par : Nat → Option Nat) (i : Nat) : Nat → Int := fun k => if k < i ∧ (par k).isSome = true then 1 else 0
noncomputable def zk (par : Nat → Option Nat) (i : Nat) : Nat → List Nat := fun p => (List.range i).filter fun k => decide (par k = some p)
theorem tm (par : Nat → Option Nat) (i : Nat) : upd (zv par i) i (zv par i i + tY (par i)) = zv par (i + 1) := by
 funext k
 unfold upd zv
 by_cases e : k = i
 ·subst e
  simp only [if_true, Nat.lt_irrefl, false_and, if_false, Nat.lt_succ_self, true_and]
  cases par k <;> rfl
 ·have : (k < i + 1) = (k < i) := by apply propext; lia
  simp only [if_neg e, this]
theorem sa (par : Nat → Option Nat) (i : Nat) : wV (zk par i) i (par i) = zk par (i + 1) := by
 funext x
 have h : zk par (i + 1) x = zk par i x ++ (if par i = some x then [i] else []) := by
  unfold zk
  rw [List.range_succ, List.filter_append]
  congr 1
  by_cases e : par i = some x <;> simp [e]
 rw [h]
 cases q : par i with
 | none => simp [wV]
 | some p =>
  simp only [wV, upd]
  by_cases e : x = p
  ·subst e; simp
  ·rw [if_neg e, if_neg (by simp; lia)]; simp
theorem uR (par : Nat → Option Nat) (i x : Nat) : (zk par i x).length ≤ i := by
 unfold zk
 have := List.length_filter_le (fun k => decide (par k = some x)) (List.range i)
 rw [List.length_range] at this
 exact this
theorem df.mono {pre H : List O} {l : Nat} {par : Nat → Option Nat} (h : df pre l par) (ht : H.take pre.length = pre) : df H l par := by
 have e : H = pre ++ H.drop pre.length := by
  have q := List.take_append_drop pre.length H
  rw [ht] at q
  exact q.symm
 obtain ⟨ls, h1, h2, h3⟩ := h
 rw [e]
 refine ⟨ls, aE h1, h2, fun k hk => ?_⟩
 obtain ⟨m, r, a, b⟩ := h3 k hk
 exact ⟨m, r, a, aE b⟩
noncomputable abbrev zg : St → zV F := (bE (cW (bP 269 "add") (bJ pd) (ai 1) (aj (ai 2) (fR zc (aa [])))))
theorem uS {m : St → zV V} {ms : St → zV (List V)} {σ ae aq : St} {l : Nat} {us vs : List V} (h : m σ = .ok (.ref l) ae) (hu : ae.heap[l]? = some (.list us)) (hl : us.length ≤ 1000) (h2 : ms ae = .ok vs aq) : fR m ms σ = .ok (us ++ vs) aq := by
 unfold fR
 rw [h, zV.bind_ok, nu hu rfl, if_pos (by show us.length ≤ 16777216; lia), zV.bind_ok, h2, zV.bind_ok]
theorem sP {pre : List O} {ord : List Nat} {nd sc : Nat → Nat} {np : Nat → Int} {su : Nat → List Nat} {po fi : Int} {H : List O} (S : zR pre ord nd sc np su .none po fi H) {l : Nat} {par : Nat → Option Nat} (h : df pre l par) {k : Nat} (hk : k < 6) (h90 : ord.length ≤ 90) (hs : ∀ x, (su x).length ≤ 100) (v3 v4 v5 : Option V) :
  ∃ ord' nd' sc' H', zg ⟨[some (.ref l), some (.ref (pre.length + 1)), some (.int k), v3, v4, v5], H⟩ = .ok .next ⟨[some (.ref l), some (.ref (pre.length + 1)), some (.int k), v3, v4, v5], H'⟩ ∧ zR pre ord' nd' sc' (upd np k (np k + tY (par k))) (wV su k (par k)) .none po fi H' ∧ k ∈ ord' ∧ (∀ p, par k = some p → p ∈ ord') ∧ (∀ x ∈ ord, x ∈ ord') ∧ (∀ x ∈ ord', x ∈ ord ∨ x = k ∨ par k = some x) := by
 have S1 := S.app [.list [fk (par k)], .list (cj (par k))]
 obtain ⟨ord', nd', sc', τ, r1, r2⟩ := xK S1 k (par k) h90 hs
 refine ⟨ord', nd', sc', τ.heap, ?_, r2⟩
 refine c0 (v := .none) ?_
 have e1 := sG (h.mono S.take) hk (some (.ref (pre.length + 1))) v3 v4 v5
 have e2 := uS (ms := aa []) e1 (us := cj (par k)) (rU ..) (by cases par k <;> simp [cj]) rfl
 rw [List.append_nil] at e2
 rw [d0 (v := .ref (pre.length + 1)) (ae := ⟨[some (.ref l), some (.ref (pre.length + 1)), some (.int k), v3, v4, v5], H⟩) (aI rfl) (S.own (by kernel_rfl)) (aX (aI (v := .int k) rfl) e2)]
 exact cm (m := pd) (σ := ⟨[some (.ref l), some (.ref (pre.length + 1)), some (.int k), v3, v4, v5], H ++ [.list [fk (par k)], .list (cj (par k))]⟩) r1
theorem sB {pre : List O} {l : Nat} {par : Nat → Option Nat} (h : df pre l par) (hp : ∀ k p, par k = some p → p < 6) (v3 v4 v5 : Option V) : ∀ (m i : Nat) (ord : List Nat) (nd sc : Nat → Nat) (H : List O) (v2 : Option V), i + m = 6 → zR pre ord nd sc (zv par i) (zk par i) .none 0 0 H → (∀ k, k < i → k ∈ ord) → (∀ k ∈ ord, k < 6) → (∀ k p, k < i → par k = some p → p ∈ ord) →
  ∃ ord' nd' sc' H' w2, gs (ao 2) zg (aa F.next) none (aP (List.range' i m)) ⟨[some (.ref l), some (.ref (pre.length + 1)), v2, v3, v4, v5], H⟩ = .ok .next ⟨[some (.ref l), some (.ref (pre.length + 1)), w2, v3, v4, v5], H'⟩ ∧ zR pre ord' nd' sc' (zv par 6) (zk par 6) .none 0 0 H' ∧ (∀ k, k < 6 → k ∈ ord') ∧ (∀ k ∈ ord', k < 6) := by
 intro m
 induction m with
 | zero =>
  intro i ord nd sc H v2 hi S h1 h2 h3
  have : i = 6 := by lia
  subst this
  exact ⟨ord, nd, sc, H, v2, fz rfl, S, h1, h2⟩
 | succ m ih =>
  intro i ord nd sc H v2 hi S h1 h2 h3
  have hl6 : ord.length ≤ 6 := by
   have := ca (m := List.range 6) S.nod fun x hx => List.mem_range.mpr (h2 x hx)
   rw [List.length_range] at this; exact this
  obtain ⟨ord1, nd1, sc1, H1, r1, S1, r3, r4, r5, r6⟩ := sP S h (k := i) (by lia) (by lia) (fun x => by have := uR par i x; lia) v3 v4 v5
  rw [tm, sa] at S1
  obtain ⟨ord2, nd2, sc2, H2, w2, q1, q2⟩ := ih (i + 1) ord1 nd1 sc1 H1 (some (.int i)) (by lia) S1 (fun k hk => by
    by_cases e : k = i
    ·rw [e]; exact r3
    ·exact r5 k (h1 k (by lia))) (fun k hk => by
    rcases r6 k hk with q | q | q
    ·exact h2 k q
    ·lia
    ·exact hp _ _ q) (fun k p hk e => by
    by_cases e2 : k = i
    ·exact r4 p (e2 ▸ e)
    ·exact r5 p (h3 k p (by lia) e))
  refine ⟨ord2, nd2, sc2, H2, w2, ?_, q2⟩
  rw [List.range'_succ]
  show gs _ _ _ _ (.int i :: aP _) _ = _
  rw [ee (ae := ⟨[some (.ref l), some (.ref (pre.length + 1)), some (.int i), v3, v4, v5], H⟩) rfl rfl (.inl r1)]
  exact q1
noncomputable def gC (R : Nat) (H H' : List O) : Prop := ∀ l, l ≠ R → (∀ xs : List V, H[l]? = some (O.list xs) → H'[l]? = some (O.list xs)) ∧ (∀ xs : List V, H[l]? = some (O.tup xs) → H'[l]? = some (O.tup xs))
theorem qP {H T : List O} (h : T.take H.length = H) : ∃ X, T = H ++ X := ⟨T.drop H.length, by
 have q := List.take_append_drop H.length T
 rw [h] at q
 exact q.symm⟩
theorem gC.refl (R : Nat) (H : List O) : gC R H H := fun _ _ => ⟨fun _ h => h, fun _ h => h⟩
theorem gC.trans {R : Nat} {H H' H'' : List O} (a : gC R H H') (b : gC R H' H'') : gC R H H'' := fun l hl => ⟨fun xs h => (b l hl).1 xs ((a l hl).1 xs h), fun xs h => (b l hl).2 xs ((a l hl).2 xs h)⟩
theorem gC.app (R : Nat) (H X : List O) : gC R H (H ++ X) := fun _ _ => ⟨fun _ h => aE h, fun _ h => aE h⟩
theorem gC.set {H : List O} (R : Nat) (o : O) : gC R H (H.set R o) := fun _ hl => ⟨fun _ h => aY h hl.symm, fun _ h => aY h hl.symm⟩
theorem gC.fl {H : List O} {m : Nat} {fs : List (Str × V)} (h : H[m]? = some (.idict fs)) (R : Nat) (o : O) : gC R H (H.set m o) := fun _ _ => ⟨fun _ q => aY q (aN h q (by simp)), fun _ q => aY q (aN h q (by simp))⟩
theorem tU {n : Nat} {bnd : List V → List O → Option (List V × List O)} {body : St → zV F} {vs ps as : List V} {c : V} {H b8 : List O} {L : List (Option V)} {τ : St} (hb : bnd vs H = some (ps, b8)) (hL : dH n ps = L) (h : body ⟨L, b8⟩ = .exc c as τ) : dj n bnd body vs H = .exc c as τ := by
 unfold dj; rw [hb]; subst hL; simp only [h]
section
variable {pre : List O} {ord : List Nat} {nd sc : Nat → Nat} {np : Nat → Int} {su : Nat → List Nat} {rdy : V} {po fi : Int} {H : List O}
theorem zR.s1k (S : zR pre ord nd sc np su rdy po fi H) {k : Nat} (hk : k ∈ ord) (z : Int) (L : List (Option V)) : ∃ H', fC 172 1 (.ref (nd k)) (.int z) ⟨L, H⟩ = .ok () ⟨L, H'⟩ ∧ zR pre ord nd sc (upd np k z) su rdy po fi H' ∧ ∀ R, gC R H H' := by
 obtain ⟨H', a, b, c, d⟩ := S.s1 hk z L
 refine ⟨H', a, b, ?_⟩
 obtain ⟨e, fs, h1, h2, h3⟩ := S.no k hk
 have : fC 172 1 (.ref (nd k)) (.int z) ⟨L, H⟩ = .ok () ⟨L, H.set (nd k) (.inst 172 e (oG [some (.int k), some (.int (np k)), some (.ref (sc k))] 1 (.int z)))⟩ := by
  exact jC h1 h2
 rw [this] at a
 simp only [zV.ok.injEq, St.mk.injEq, true_and] at a
 rw [← a]
 exact fun R l _ => ⟨fun _ q => aY q (aN h1 q (by simp)), fun _ q => aY q (aN h1 q (by simp))⟩
noncomputable abbrev yX : St → zV Bool := aB (aW CmpOp.Eq (ba (eM 172 1) (ai 2)) (aa (V.int 0)))
theorem ww (S : zR pre ord nd sc np su rdy po fi H) {ep : Nat} (hd : H[pre.length + 2]? = some (.dict (gE ord nd) ep)) (v1 : Option V) : ∀ (ks acc : List Nat) (x : Option V), (∀ k ∈ ks, k ∈ ord) → acc.length + ks.length ≤ 100 →
  ∃ x', c8 2 yX (ba (eM 172 0) (ai 2)) (some (pre.length + 2, .dict (gE ord nd) ep)) (H.length + 1) (ks.map fun k => V.ref (nd k)) ⟨[some (.ref (pre.length + 1)), v1, x], H ++ (O.dvals (pre.length + 2) :: O.list (aP acc) :: [])⟩
   = .ok () ⟨[some (.ref (pre.length + 1)), v1, x'], H ++ (O.dvals (pre.length + 2) :: O.list (aP (acc ++ ks.filter fun k => decide (np k = 0))) :: [])⟩ := by
 intro ks
 induction ks with
 | nil =>
  intro acc x _ _
  refine ⟨x, ?_⟩
  simp only [List.map_nil, c8, List.filter_nil, List.append_nil]
  rw [if_pos (bC (aE hd))]
 | cons k ks ih =>
  intro acc x hk hl
  have ho := hk k (List.mem_cons_self ..)
  have S' := S.app (O.dvals (pre.length + 2) :: O.list (aP acc) :: [])
  have t : yX ⟨[some (.ref (pre.length + 1)), v1, some (.ref (nd k))], H ++ (O.dvals (pre.length + 2) :: O.list (aP acc) :: [])⟩ = .ok (decide (np k = 0)) ⟨[some (.ref (pre.length + 1)), v1, some (.ref (nd k))], H ++ (O.dvals (pre.length + 2) :: O.list (aP acc) :: [])⟩ := by
   refine bM ((bq ((bz (aI (v := .ref (nd k)) rfl)).trans (S'.g1 ho _)) (mr := aa (V.int 0)) rfl).trans ?_)
   show zV.ok (V.bool (np k == 0)) _ = _
   by_cases e : np k = 0
   ·rw [e]; rfl
   ·rw [decide_eq_false e, beq_eq_false_iff_ne.mpr e]
  rw [List.map_cons, c8, if_pos (bC (aE hd))]
  rw [show ao 2 (V.ref (nd k)) ⟨[some (.ref (pre.length + 1)), v1, x], H ++ (O.dvals (pre.length + 2) :: O.list (aP acc) :: [])⟩ = .ok () ⟨[some (.ref (pre.length + 1)), v1, some (.ref (nd k))], H ++ (O.dvals (pre.length + 2) :: O.list (aP acc) :: [])⟩ from rfl, zV.bind_ok, t]
  simp only [zV.calm, zV.bind_ok]
  by_cases e : np k = 0
  ·rw [decide_eq_true e, if_pos rfl]
   have q := (bz (g := eM 172 0) (aI (i := 2) (L := [some (.ref (pre.length + 1)), v1, some (.ref (nd k))]) (H := H ++ (O.dvals (pre.length + 2) :: O.list (aP acc) :: [])) (v := .ref (nd k)) rfl)).trans (S'.g0 ho _)
   rw [q]
   simp only [zV.calm, zV.bind_ok]
   unfold c9
   simp only [rU, vO]
   rw [if_pos (by unfold aP; rw [List.length_map]; show acc.length ≤ 16777216; simp only [List.length_cons] at hl; lia), zV.bind_ok]
   have hn : aP acc ++ [V.int k] = aP (acc ++ [k]) := by unfold aP; rw [List.map_append]; rfl
   rw [hn]
   obtain ⟨x', r⟩ := ih (acc ++ [k]) (some (.ref (nd k))) (fun z hz => hk z (List.mem_cons_of_mem _ hz)) (by simp only [List.length_append, List.length_cons, List.length_nil] at hl ⊢; lia)
   refine ⟨x', r.trans ?_⟩
   rw [List.filter_cons, if_pos (decide_eq_true e), List.append_assoc]; rfl
  ·rw [decide_eq_false e, if_neg (by decide)]
   obtain ⟨x', r⟩ := ih acc (some (.ref (nd k))) (fun z hz => hk z (List.mem_cons_of_mem _ hz)) (by simp only [List.length_cons] at hl; lia)
   refine ⟨x', r.trans ?_⟩
   rw [List.filter_cons, if_neg (by simpa using e)]
theorem xJ (S : zR pre ord nd sc np su .none po fi H) (hsu : ∀ x y, y ∈ su x → y ∈ ord) (h6 : ord.length ≤ 6) :
  (bf su ord [] = some none → ∃ as τ R, k9 [.ref (pre.length + 1)] H = .exc (.top 187) as τ ∧ zR pre ord nd sc np su (.ref R) po fi τ.heap ∧ τ.heap[R]? = some (.list (aP (ord.filter fun k => decide (np k = 0)))) ∧ pre.length ≤ R ∧ ∀ k ∈ ord, sc k ≠ R) ∧
  (∀ sn', bf su ord [] = some (some sn') → ∃ τ R, k9 [.ref (pre.length + 1)] H = .ok .none τ ∧ zR pre ord nd sc np su (.ref R) po fi τ.heap ∧ τ.heap[R]? = some (.list (aP (ord.filter fun k => decide (np k = 0)))) ∧ pre.length ≤ R ∧ ∀ k ∈ ord, sc k ≠ R) := by
 obtain ⟨ep, hd⟩ := S.di
 have hpl : pre.length ≤ H.length := by have := cD hd; lia
 have c1 : zB (aB (aW CmpOp.IsNot (ba (getD 269 "_ready_nodes") (ai 0)) (aa V.none))) dU (aa F.next) ⟨[some (.ref (pre.length + 1)), none], H⟩ = .ok .next ⟨[some (.ref (pre.length + 1)), none], H⟩ := by
  have q := (bz (g := getD 269 "_ready_nodes") (aI (i := 0) (L := [some (.ref (pre.length + 1)), none]) (H := H) rfl)).trans (S.grd rfl _)
  exact (d9 (bM ((bq q (mr := aa .none) rfl).trans (eX _ _)))).trans rfl
 have S1 := S.app (O.dvals (pre.length + 2) :: O.list (aP (ord.filter fun k => decide (np k = 0))) :: [])
 have S2 := S1.setFl (.ref (H.length + 1)) po fi
 have c2 : bI 2 (a7 bQ hU (ba (getD 269 "_node2info") (ai 0)) (aa [])) yX (ba (eM 172 0) (ai 2)) ⟨[some (.ref (pre.length + 1)), none], H⟩ = .ok (.ref (H.length + 1)) ⟨[some (.ref (pre.length + 1)), none], H ++ (O.dvals (pre.length + 2) :: O.list (aP (ord.filter fun k => decide (np k = 0))) :: [])⟩ := by
  have g0 : ba (getD 269 "_node2info") (ai 0) ⟨[some (.ref (pre.length + 1)), none], H⟩ = .ok (.ref (pre.length + 2)) ⟨[some (.ref (pre.length + 1)), none], H⟩ := (bz (aI rfl)).trans (S.n2i _)
  have g1 : a7 bQ hU (ba (getD 269 "_node2info") (ai 0)) (aa []) ⟨[some (.ref (pre.length + 1)), none], H⟩ = .ok (.ref H.length) ⟨[some (.ref (pre.length + 1)), none], H ++ [.dvals (pre.length + 2)]⟩ := by
   rw [cN g0 S.isD (ma := aa []) (vs := []) (aq := ⟨[some (.ref (pre.length + 1)), none], H⟩) rfl]
   unfold hU
   rw [yV, wp hd]
  have hi : bZ (.ref H.length) (H ++ [.dvals (pre.length + 2)]) = some (ord.map fun k => V.ref (nd k), some (pre.length + 2, .dict (gE ord nd) ep)) := by
   have q := aE (X := [O.dvals (pre.length + 2)]) hd
   rw [ck (iU ..)]
   unfold jh
   simp only [q, Option.bind_some, asD_k, Option.map_some]
   unfold gE
   rw [List.map_map]; rfl
  have hl : (H ++ [O.dvals (pre.length + 2)]).length = H.length + 1 := by rw [List.length_append]; rfl
  obtain ⟨x', r⟩ := ww S hd none ord [] none (fun _ h => h) (by simp only [List.length_nil]; lia)
  unfold bI
  rw [g1, zV.bind_ok]
  simp only [hi, hl]
  rw [if_pos (show ([some (.ref (pre.length + 1)), none] : List (Option V)).length = 2 from rfl)]
  simp only [List.append_assoc, List.cons_append, List.nil_append]
  have r' : c8 2 yX (ba (eM 172 0) (ai 2)) (some (pre.length + 2, .dict (gE ord nd) ep)) (H.length + 1) (ord.map fun k => V.ref (nd k)) ⟨[some (.ref (pre.length + 1)), none, none], H ++ (O.dvals (pre.length + 2) :: O.list [] :: [])⟩ = _ := r
  rw [r', zV.bind_ok]
  rfl
 have c3 := bY (f := cE (iP 269 "_ready_nodes") (ai 0)) c2 (S1.srdy (.ref (H.length + 1)) _)
 have hR1 : (H ++ (O.dvals (pre.length + 2) :: O.list (aP (ord.filter fun k => decide (np k = 0))) :: []))[H.length + 1]? = some (.list (aP (ord.filter fun k => decide (np k = 0)))) := rU ..
 have hR2 := (gC.fl S1.fl (H.length + 2) (.idict (eD pre.length (.ref (H.length + 1)) po fi)) (H.length + 1) (by lia)).1 _ hR1
 have hsc : ∀ k ∈ ord, sc k ≠ H.length + 1 := fun k hk => by have := cD (S.sx k hk).1; lia
 obtain ⟨f1, f2⟩ := xF S2 hsu h6
 refine ⟨fun h => ?_, fun sn' h => ?_⟩
 ·obtain ⟨q, τ, xs, r1, r2, r3, r4, r5⟩ := f1 h
  obtain ⟨X, eτ⟩ := qP r2
  have S3 := S2.app X
  have hR3 := aE (X := X) hR2
  rw [← eτ] at S3 hR3
  have c4 : an (cW (bP 269 "_find_cycle") (bJ iR) (ai 0) (aa [])) (ao 1) ⟨[some (.ref (pre.length + 1)), none], (H ++ (O.dvals (pre.length + 2) :: O.list (aP (ord.filter fun k => decide (np k = 0))) :: [])).set pre.length (.idict (eD pre.length (.ref (H.length + 1)) po fi))⟩ = .ok .next ⟨[some (.ref (pre.length + 1)), some (.ref q)], τ.heap⟩ := by
   refine bx (i := 1) (ae := ⟨[some (.ref (pre.length + 1)), none], τ.heap⟩) ?_
   rw [d0 (v := .ref (pre.length + 1)) (vs := []) (ma := aa []) (aI rfl) (S2.own (by kernel_rfl)) rfl]
   exact cm (m := iR) r1
  have c5 : zB (aB (ai 1)) (cK (V.top 187) (aj (aa (V.str "nodes are in a cycle")) (aj (ai 1) (aa [])))) (aa F.next) ⟨[some (.ref (pre.length + 1)), some (.ref q)], τ.heap⟩ = .exc (.top 187) [.str "nodes are in a cycle", .ref q] ⟨[some (.ref (pre.length + 1)), some (.ref q)], τ.heap⟩ := by
   have t : aB (ai 1) ⟨[some (.ref (pre.length + 1)), some (.ref q)], τ.heap⟩ = .ok true ⟨[some (.ref (pre.length + 1)), some (.ref q)], τ.heap⟩ := by
    show (ai 1 _).bind bU = _
    rw [aI (v := .ref q) rfl, zV.bind_ok, fY (σ := ⟨[some (.ref (pre.length + 1)), some (.ref q)], τ.heap⟩) r3 (by lia)]
    cases xs with
    | nil => exact absurd rfl r4
    | cons => rfl
   refine (d9 t).trans ?_
   rw [if_pos rfl]
   unfold cK
   rw [show aj (aa (V.str "nodes are in a cycle")) (aj (ai 1) (aa [])) ⟨[some (.ref (pre.length + 1)), some (.ref q)], τ.heap⟩ = .ok [.str "nodes are in a cycle", .ref q] ⟨[some (.ref (pre.length + 1)), some (.ref q)], τ.heap⟩ from rfl, zV.bind_ok]
   rw [if_pos (by show 2 ≤ 16777216; decide)]
  refine ⟨[.str "nodes are in a cycle", .ref q], ⟨[some (.ref (pre.length + 1)), some (.ref q)], τ.heap⟩, H.length + 1, ?_, S3, hR3, by lia, hsc⟩
  refine tU (b8 := H) (L := [some (.ref (pre.length + 1)), none]) rfl rfl ?_
  exact (aG c1).trans ((aG c3).trans ((aG c4).trans c5))
 ·obtain ⟨τ, r1, r2⟩ := f2 sn' h
  obtain ⟨X, eτ⟩ := qP r2
  have S3 := S2.app X
  have hR3 := aE (X := X) hR2
  rw [← eτ] at S3 hR3
  have c4 : an (cW (bP 269 "_find_cycle") (bJ iR) (ai 0) (aa [])) (ao 1) ⟨[some (.ref (pre.length + 1)), none], (H ++ (O.dvals (pre.length + 2) :: O.list (aP (ord.filter fun k => decide (np k = 0))) :: [])).set pre.length (.idict (eD pre.length (.ref (H.length + 1)) po fi))⟩ = .ok .next ⟨[some (.ref (pre.length + 1)), some .none], τ.heap⟩ := by
   refine bx (i := 1) (ae := ⟨[some (.ref (pre.length + 1)), none], τ.heap⟩) ?_
   rw [d0 (v := .ref (pre.length + 1)) (vs := []) (ma := aa []) (aI rfl) (S2.own (by kernel_rfl)) rfl]
   exact cm (m := iR) r1
  refine ⟨⟨[some (.ref (pre.length + 1)), some .none], τ.heap⟩, H.length + 1, ?_, S3, hR3, by lia, hsc⟩
  refine fQ (b8 := H) (L := [some (.ref (pre.length + 1)), none]) rfl rfl ?_
  exact (aG c1).trans ((aG c3).trans ((aG c4).trans rfl))
theorem xH {R : Nat} {r : List Nat} (S : zR pre ord nd sc np su (.ref R) po po H) (hR : H[R]? = some (.list (aP r))) (hl : r.length ≤ 100) : ∃ L, pb [.ref (pre.length + 1)] H = .ok (.bool (!r.isEmpty)) ⟨L, H⟩ := by
 refine ⟨[some (.ref (pre.length + 1))], du (b8 := H) (L := [some (.ref (pre.length + 1))]) rfl rfl ?_⟩
 have q := (bz (g := getD 269 "_ready_nodes") (aI (i := 0) (L := [some (.ref (pre.length + 1))]) (H := H) rfl)).trans (S.grd rfl _)
 have c1 : zB (aB (aW CmpOp.Is (ba (getD 269 "_ready_nodes") (ai 0)) (aa V.none))) dU (aa F.next) ⟨[some (.ref (pre.length + 1))], H⟩ = .ok .next ⟨[some (.ref (pre.length + 1))], H⟩ :=
  (d9 (bM ((bq q (mr := aa .none) rfl).trans (ji _ _)))).trans rfl
 refine (aG c1).trans (eK ?_)
 have q1 := (bz (g := getD 269 "_nfinished") (aI (i := 0) (L := [some (.ref (pre.length + 1))]) (H := H) rfl)).trans (S.gfi _)
 have q2 := (bz (g := getD 269 "_npassedout") (aI (i := 0) (L := [some (.ref (pre.length + 1))]) (H := H) rfl)).trans (S.gpo _)
 have q3 : aW CmpOp.Lt (ba (getD 269 "_nfinished") (ai 0)) (ba (getD 269 "_npassedout") (ai 0)) ⟨[some (.ref (pre.length + 1))], H⟩ = .ok (.bool false) ⟨[some (.ref (pre.length + 1))], H⟩ := by
  refine (bq q1 q2).trans ?_
  rw [lt_int, decide_eq_false (by lia)]
 unfold orV
 rw [q3, zV.bind_ok]
 rw [show bU (.bool false) ⟨[some (.ref (pre.length + 1))], H⟩ = .ok false ⟨[some (.ref (pre.length + 1))], H⟩ from rfl, zV.bind_ok, if_neg (by decide)]
 rw [bX (aX q (ms := aa []) rfl)]
 unfold wy
 rw [wY, iT hR, if_pos (by unfold aP; rw [List.length_map]; lia)]
 unfold aP
 cases r <;> rfl
end
noncomputable def gH (np : Nat → Int) (ks : List Nat) (z : Int) : Nat → Int := fun k => if k ∈ ks then z else np k
theorem kL (np : Nat → Int) (k : Nat) (ks : List Nat) (z : Int) : gH (upd np k z) ks z = gH np (k :: ks) z := by
 funext x
 unfold gH upd
 by_cases h : x ∈ ks
 ·rw [if_pos h, if_pos (List.mem_cons_of_mem _ h)]
 ·rw [if_neg h]
  by_cases e : x = k
  ·rw [if_pos e, if_pos (by simp [e])]
  ·rw [if_neg e, if_neg (by simp [e, h])]
theorem nD (np : Nat → Int) (z : Int) : gH np [] z = np := by funext x; unfold gH; rw [if_neg (by simp)]
section
variable {pre : List O} {ord : List Nat} {nd sc : Nat → Nat} {su : Nat → List Nat}
noncomputable abbrev zi : St → zV F := (an (aa (V.int (-1))) (cE (fC 172 1) (bp br (ai 2) (ai 3))))
theorem wf {R : Nat} {po fi : Int} {t : Nat} {ks0 : List Nat} : ∀ (ks : List Nat) (np : Nat → Int) (H : List O) (v3 : Option V), zR pre ord nd sc np su (.ref R) po fi H → (∀ k ∈ ks, k ∈ ord) → H[t]? = some (.tup (aP ks0)) → t ≠ R →
  ∃ H' w3, gs (ao 3) zi (aa F.next) (some (t, .tup (aP ks0))) (aP ks) ⟨[some (.ref (pre.length + 1)), some (.ref t), some (.ref (pre.length + 2)), v3], H⟩ = .ok .next ⟨[some (.ref (pre.length + 1)), some (.ref t), some (.ref (pre.length + 2)), w3], H'⟩ ∧ zR pre ord nd sc (gH np ks (-1)) su (.ref R) po fi H' ∧ ∀ Q, gC Q H H' := by
 intro ks
 induction ks with
 | nil =>
  intro np H v3 S hk ht htR
  exact ⟨H, v3, fz (bC ht), by rw [nD]; exact S, fun Q => .refl Q H⟩
 | cons k ks ih =>
  intro np H v3 S hk ht htR
  have ho := hk k (List.mem_cons_self ..)
  obtain ⟨H1, s1, S1, K1⟩ := S.s1k ho (-1) [some (.ref (pre.length + 1)), some (.ref t), some (.ref (pre.length + 2)), some (.int k)]
  have hb : zi ⟨[some (.ref (pre.length + 1)), some (.ref t), some (.ref (pre.length + 2)), some (.int k)], H⟩ = .ok .next ⟨[some (.ref (pre.length + 1)), some (.ref t), some (.ref (pre.length + 2)), some (.int k)], H1⟩ := by
   refine bY (v := .int (-1)) (ae := ⟨[some (.ref (pre.length + 1)), some (.ref t), some (.ref (pre.length + 2)), some (.int k)], H⟩) rfl ?_
   unfold cE
   rw [bq (aI (v := .ref (pre.length + 2)) rfl) (aI (v := .int k) rfl), S.dsub ho, zV.bind_ok]
   exact s1
  obtain ⟨H2, w3, r, S2, K2⟩ := ih (upd np k (-1)) H1 (some (.int k)) S1 (fun z hz => hk z (List.mem_cons_of_mem _ hz)) ((K1 R t htR).2 _ ht) htR
  refine ⟨H2, w3, ?_, by rw [kL] at S2; exact S2, fun Q => (K1 Q).trans (K2 Q)⟩
  show gs _ _ _ _ (.int k :: aP ks) _ = _
  rw [ee (ae := ⟨[some (.ref (pre.length + 1)), some (.ref t), some (.ref (pre.length + 2)), some (.int k)], H⟩) (bC ht) rfl (.inl hb)]
  exact r
theorem xI {R : Nat} {po fi : Int} {r : List Nat} {np : Nat → Int} {H : List O} (S : zR pre ord nd sc np su (.ref R) po fi H) (hR : H[R]? = some (.list (aP r))) (hl : r.length ≤ 100) (hr : ∀ k ∈ r, k ∈ ord) (hn : pre.length ≤ R) (hsc : ∀ k ∈ ord, sc k ≠ R) :
  ∃ τ t, mz [.ref (pre.length + 1)] H = .ok (.ref t) τ ∧ zR pre ord nd sc (gH np r (-1)) su (.ref R) (po + r.length) fi τ.heap ∧ τ.heap[t]? = some (.tup (aP r)) ∧ τ.heap[R]? = some (.list []) ∧ gC R H τ.heap := by
 have htR : H.length ≠ R := by have := cD hR; lia
 have q := (bz (g := getD 269 "_ready_nodes") (aI (i := 0) (L := [some (.ref (pre.length + 1)), none, none, none]) (H := H) rfl)).trans (S.grd rfl _)
 have c1 : zB (aB (aW CmpOp.Is (ba (getD 269 "_ready_nodes") (ai 0)) (aa V.none))) dU (aa F.next) ⟨[some (.ref (pre.length + 1)), none, none, none], H⟩ = .ok .next ⟨[some (.ref (pre.length + 1)), none, none, none], H⟩ :=
  (d9 (bM ((bq q (mr := aa .none) rfl).trans (ji _ _)))).trans rfl
 have hnl : (aP r).length = r.length := by unfold aP; rw [List.length_map]
 have c2 : an (aC (aj (ba (getD 269 "_ready_nodes") (ai 0)) (aa [])) ni) (ao 1) ⟨[some (.ref (pre.length + 1)), none, none, none], H⟩ = .ok .next ⟨[some (.ref (pre.length + 1)), some (.ref H.length), none, none], H ++ [.tup (aP r)]⟩ := by
  refine bx (i := 1) (v := .ref H.length) (ae := ⟨[some (.ref (pre.length + 1)), none, none, none], H ++ [.tup (aP r)]⟩) ?_
  rw [bX (aX q (ms := aa []) rfl)]
  unfold ni
  rw [wY, iT hR, if_pos (by rw [hnl]; show r.length ≤ 16777216; lia)]
 have S1 := S.app [.tup (aP r)]
 have c3 : an (ba (getD 269 "_node2info") (ai 0)) (ao 2) ⟨[some (.ref (pre.length + 1)), some (.ref H.length), none, none], H ++ [.tup (aP r)]⟩ = .ok .next ⟨[some (.ref (pre.length + 1)), some (.ref H.length), some (.ref (pre.length + 2)), none], H ++ [.tup (aP r)]⟩ :=
  bx ((bz (aI rfl)).trans (S1.n2i _))
 have ht : (H ++ [O.tup (aP r)])[H.length]? = some (.tup (aP r)) := iU ..
 obtain ⟨H2, w3, l1, S2, K2⟩ := wf (t := H.length) (ks0 := r) r np (H ++ [.tup (aP r)]) none S1 hr ht htR
 have c4 : gZ (ai 1) (ao 3) zi (aa F.next) ⟨[some (.ref (pre.length + 1)), some (.ref H.length), some (.ref (pre.length + 2)), none], H ++ [.tup (aP r)]⟩ = .ok .next ⟨[some (.ref (pre.length + 1)), some (.ref H.length), some (.ref (pre.length + 2)), w3], H2⟩ := by
  unfold gZ
  rw [aI (v := .ref H.length) rfl, zV.bind_ok]
  have hi : bZ (.ref H.length) (H ++ [O.tup (aP r)]) = some (aP r, some (H.length, .tup (aP r))) := by
   exact ck ht
  simp only [hi]
  exact l1
 have hR2 := (K2 (R + 1) R (by lia)).1 _ (aE (X := [O.tup (aP r)]) hR)
 have ht2 := (K2 R H.length htR).2 _ ht
 have q2 := (bz (g := getD 269 "_ready_nodes") (aI (i := 0) (L := [some (.ref (pre.length + 1)), some (.ref H.length), some (.ref (pre.length + 2)), w3]) (H := H2) rfl)).trans (S2.grd rfl _)
 have c5 : bE (a7 aO n7 (ba (getD 269 "_ready_nodes") (ai 0)) (aa [])) ⟨[some (.ref (pre.length + 1)), some (.ref H.length), some (.ref (pre.length + 2)), w3], H2⟩ = .ok .next ⟨[some (.ref (pre.length + 1)), some (.ref H.length), some (.ref (pre.length + 2)), w3], H2.set R (.list [])⟩ := by
  refine c0 (v := .none) ?_
  rw [cN q2 (cC hR2) (ma := aa []) (vs := []) (aq := ⟨[some (.ref (pre.length + 1)), some (.ref H.length), some (.ref (pre.length + 2)), w3], H2⟩) rfl]
  unfold n7
  rw [yV, iT hR2, if_pos (by rw [hnl]; show r.length ≤ 16777216; lia)]
 have S3 := S2.setList hR2 hn hsc (.list [])
 have K3 : gC R H2 (H2.set R (.list [])) := .set R _
 have S4 := S3.setFl (.ref R) (po + r.length) fi
 have K4 : gC (R + 1) (H2.set R (.list [])) ((H2.set R (.list [])).set pre.length (.idict (eD pre.length (.ref R) (po + r.length) fi))) := .fl S3.fl _ _
 have K4' : gC R (H2.set R (.list [])) ((H2.set R (.list [])).set pre.length (.idict (eD pre.length (.ref R) (po + r.length) fi))) := .fl S3.fl _ _
 have c6 : pt Operator.Add (getD 269 "_npassedout") (iP 269 "_npassedout") (ai 0) (aC (aj (ai 1) (aa [])) iS) ⟨[some (.ref (pre.length + 1)), some (.ref H.length), some (.ref (pre.length + 2)), w3], H2.set R (.list [])⟩ = .ok .next ⟨[some (.ref (pre.length + 1)), some (.ref H.length), some (.ref (pre.length + 2)), w3], (H2.set R (.list [])).set pre.length (.idict (eD pre.length (.ref R) (po + r.length) fi))⟩ := by
  refine oj (aI (v := .ref (pre.length + 1)) rfl) (S3.gpo _) ((bX (aX (aI (i := 1) (v := .ref H.length) rfl) (ms := aa []) rfl)).trans ?_) (b := .int (r.length : Nat)) (c := .int (po + r.length)) rfl (S3.spo _ _)
  rw [qY ((K3 H.length htR).2 _ ht2), hnl, if_pos (by lia)]
 refine ⟨⟨[some (.ref (pre.length + 1)), some (.ref H.length), some (.ref (pre.length + 2)), w3], (H2.set R (.list [])).set pre.length (.idict (eD pre.length (.ref R) (po + r.length) fi))⟩, H.length, ?_, S4, (K4' H.length htR).2 _ ((K3 H.length htR).2 _ ht2), (K4 R (by lia)).1 _ (fN hR2), (((gC.app R H _).trans (K2 R)).trans K3).trans K4'⟩
 refine du (b8 := H) (L := [some (.ref (pre.length + 1)), none, none, none]) rfl rfl ?_
 exact (aG c1).trans ((aG c2).trans ((aG c3).trans ((aG c4).trans ((aG c5).trans ((aG c6).trans (eK rfl))))))
end
noncomputable def lz (su : Nat → List Nat) : (Nat → Int) → List Nat → Nat → Int
 | np, [] => np
 | np, k :: ks => lz su (gH (upd np k (-2)) (su k) 0) ks
section
variable {pre : List O} {ord : List Nat} {nd sc : Nat → Nat} {su : Nat → List Nat}
noncomputable abbrev yZ : St → zV F := (aM (an (bp br (ai 2) (ai 6)) (ao 7)) (aM (pt Operator.Sub (eM 172 1) (fC 172 1) (ai 7) (aa (V.int 1))) (zB (aB (aW CmpOp.Eq (ba (eM 172 1) (ai 7)) (aa (V.int 0)))) (bE (a7 aO bk (ba (getD 269 "_ready_nodes") (ai 0)) (aj (ai 6) (aa [])))) (aa F.next))))
theorem tu (a b : List Nat) : aP (a ++ b) = aP a ++ aP b := by unfold aP; rw [List.map_append]
theorem eW (a : List Nat) : (aP a).length = a.length := by unfold aP; rw [List.length_map]
theorem sK {R : Nat} {po fi : Int} {v1 v3 v4 v5 v7 : Option V} {y : Nat} {rr : List Nat} {np : Nat → Int} {H : List O} (S : zR pre ord nd sc np su (.ref R) po fi H) (hy : y ∈ ord) (h1 : np y = 1) (hR : H[R]? = some (.list (aP rr))) (hl : rr.length ≤ 100) (hn : pre.length ≤ R) (hsc : ∀ k ∈ ord, sc k ≠ R) :
  ∃ H' w7, yZ ⟨[some (.ref (pre.length + 1)), v1, some (.ref (pre.length + 2)), v3, v4, v5, some (.int y), v7], H⟩ = .ok .next ⟨[some (.ref (pre.length + 1)), v1, some (.ref (pre.length + 2)), v3, v4, v5, some (.int y), w7], H'⟩ ∧ zR pre ord nd sc (upd np y 0) su (.ref R) po fi H' ∧ H'[R]? = some (.list (aP (rr ++ [y]))) ∧ gC R H H' := by
 obtain ⟨H1, s1, S1, K1⟩ := S.s1k hy 0 [some (.ref (pre.length + 1)), v1, some (.ref (pre.length + 2)), v3, v4, v5, some (.int y), some (.ref (nd y))]
 have hR1 := (K1 (R + 1) R (by lia)).1 _ hR
 have a1 : an (bp br (ai 2) (ai 6)) (ao 7) ⟨[some (.ref (pre.length + 1)), v1, some (.ref (pre.length + 2)), v3, v4, v5, some (.int y), v7], H⟩ = .ok .next ⟨[some (.ref (pre.length + 1)), v1, some (.ref (pre.length + 2)), v3, v4, v5, some (.int y), some (.ref (nd y))], H⟩ :=
  bx ((bq (aI (v := .ref (pre.length + 2)) rfl) (aI (v := .int y) rfl)).trans (S.dsub hy _))
 have g1 := S.g1 hy [some (.ref (pre.length + 1)), v1, some (.ref (pre.length + 2)), v3, v4, v5, some (.int y), some (.ref (nd y))]
 rw [h1] at g1
 have a2 : pt Operator.Sub (eM 172 1) (fC 172 1) (ai 7) (aa (V.int 1)) ⟨[some (.ref (pre.length + 1)), v1, some (.ref (pre.length + 2)), v3, v4, v5, some (.int y), some (.ref (nd y))], H⟩ = .ok .next ⟨[some (.ref (pre.length + 1)), v1, some (.ref (pre.length + 2)), v3, v4, v5, some (.int y), some (.ref (nd y))], H1⟩ :=
  oj (aI (v := .ref (nd y)) rfl) g1 (m := aa (V.int 1)) (b := .int 1) rfl (c := .int 0) rfl s1
 have g2 := S1.g1 hy [some (.ref (pre.length + 1)), v1, some (.ref (pre.length + 2)), v3, v4, v5, some (.int y), some (.ref (nd y))]
 rw [eE] at g2
 have q := (bz (g := getD 269 "_ready_nodes") (aI (i := 0) (L := [some (.ref (pre.length + 1)), v1, some (.ref (pre.length + 2)), v3, v4, v5, some (.int y), some (.ref (nd y))]) (H := H1) rfl)).trans (S1.grd rfl _)
 have a3 : zB (aB (aW CmpOp.Eq (ba (eM 172 1) (ai 7)) (aa (V.int 0)))) (bE (a7 aO bk (ba (getD 269 "_ready_nodes") (ai 0)) (aj (ai 6) (aa [])))) (aa F.next) ⟨[some (.ref (pre.length + 1)), v1, some (.ref (pre.length + 2)), v3, v4, v5, some (.int y), some (.ref (nd y))], H1⟩ = .ok .next ⟨[some (.ref (pre.length + 1)), v1, some (.ref (pre.length + 2)), v3, v4, v5, some (.int y), some (.ref (nd y))], H1.set R (.list (aP rr ++ [.int y]))⟩ := by
  refine (d9 (c := true) (bM ((bq ((bz (aI (v := .ref (nd y)) rfl)).trans g2) (mr := aa (V.int 0)) rfl).trans rfl))).trans ?_
  rw [if_pos rfl]
  refine c0 (v := .none) ?_
  rw [cN q (cC hR1) (aX (aI (v := .int y) rfl) (ms := aa []) rfl)]
  exact dT hR1 (by rw [eW]; lia)
 have e : aP rr ++ [V.int y] = aP (rr ++ [y]) := by rw [tu]; rfl
 refine ⟨H1.set R (.list (aP rr ++ [.int y])), _, (aG a1).trans ((aG a2).trans a3), S1.setList hR1 hn hsc _, by rw [fN hR1, e], (K1 R).trans (.set R _)⟩
theorem tE {R : Nat} {po fi : Int} {v1 v3 v4 v5 : Option V} {k : Nat} (hk : k ∈ ord) (hn : pre.length ≤ R) (hsc : ∀ k ∈ ord, sc k ≠ R) : ∀ (ys rr : List Nat) (np : Nat → Int) (H : List O) (v6 v7 : Option V), zR pre ord nd sc np su (.ref R) po fi H → (∀ y ∈ ys, y ∈ ord ∧ np y = 1) → ys.Nodup → H[R]? = some (.list (aP rr)) → rr.length + ys.length ≤ 100 →
  ∃ H' w6 w7, gs (ao 6) yZ (aa F.next) (some (sc k, .list (aP (su k)))) (aP ys) ⟨[some (.ref (pre.length + 1)), v1, some (.ref (pre.length + 2)), v3, v4, v5, v6, v7], H⟩ = .ok .next ⟨[some (.ref (pre.length + 1)), v1, some (.ref (pre.length + 2)), v3, v4, v5, w6, w7], H'⟩ ∧ zR pre ord nd sc (gH np ys 0) su (.ref R) po fi H' ∧ H'[R]? = some (.list (aP (rr ++ ys))) ∧ gC R H H' := by
 intro ys
 induction ys with
 | nil =>
  intro rr np H v6 v7 S hy hd hR hl
  exact ⟨H, v6, v7, fz (bC (S.sx k hk).1), by rw [nD]; exact S, by rw [List.append_nil]; exact hR, .refl R H⟩
 | cons y ys ih =>
  intro rr np H v6 v7 S hy hd hR hl
  have hyo := hy y (List.mem_cons_self ..)
  simp only [List.length_cons] at hl
  obtain ⟨H1, w7, r1, S1, hR1, K1⟩ := sK (v1 := v1) (v3 := v3) (v4 := v4) (v5 := v5) (v7 := v7) S hyo.1 hyo.2 hR (by lia) hn hsc
  have hd' := List.nodup_cons.mp hd
  obtain ⟨H2, w6, w7', r2, S2, hR2, K2⟩ := ih (rr ++ [y]) (upd np y 0) H1 (some (.int y)) w7 S1 (fun z hz => by
   have := hy z (List.mem_cons_of_mem _ hz)
   refine ⟨this.1, ?_⟩
   have hne : z ≠ y := fun e => hd'.1 (e ▸ hz)
   rw [dc _ _ hne]; exact this.2) hd'.2 hR1 (by simp only [List.length_append, List.length_cons, List.length_nil]; lia)
  refine ⟨H2, w6, w7', ?_, by rw [kL] at S2; exact S2, by rw [hR2, List.append_assoc]; rfl, K1.trans K2⟩
  show gs _ _ _ _ (.int y :: aP ys) _ = _
  rw [ee (ae := ⟨[some (.ref (pre.length + 1)), v1, some (.ref (pre.length + 2)), v3, v4, v5, some (.int y), v7], H⟩) (bC (S.sx k hk).1) rfl (.inl r1)]
  exact r2
noncomputable abbrev zh : St → zV F := (aM (zB (aB (aW CmpOp.Is (fun σ => (a7 bQ gx (ai 2) (aj (ai 3) (aa [])) σ).bind fun v ae => (ao 4 v ae).bind fun x aq => zV.ok v aq) (aa V.none))) dU (aa F.next)) (aM (an (ba (eM 172 1) (ai 4)) (ao 5)) (aM (zB (aB (aW CmpOp.NotEq (ai 5) (aa (V.int (-1))))) (zB (aB (aW CmpOp.GtE (ai 5) (aa (V.int 0)))) dU (zB (aB (aW CmpOp.Eq (ai 5) (aa (V.int (-2))))) dU dU)) (aa F.next)) (aM (an (aa (V.int (-2))) (cE (fC 172 1) (ai 4))) (aM (gZ (ba (eM 172 2) (ai 4)) (ao 6) yZ (aa F.next)) (pt Operator.Add (getD 269 "_nfinished") (iP 269 "_nfinished") (ai 0) (aa (V.int 1))))))))
theorem sQ {R : Nat} {po fi : Int} {t k : Nat} {v4 v5 v6 v7 : Option V} {rr : List Nat} {np : Nat → Int} {H : List O} (S : zR pre ord nd sc np su (.ref R) po fi H) (hk : k ∈ ord) (h1 : np k = -1) (hs : ∀ y ∈ su k, y ∈ ord ∧ np y = 1) (hd : (su k).Nodup) (hR : H[R]? = some (.list (aP rr))) (hl : rr.length + (su k).length ≤ 100) (hn : pre.length ≤ R) (hsc : ∀ k ∈ ord, sc k ≠ R) :
  ∃ H' w6 w7, zh ⟨[some (.ref (pre.length + 1)), some (.ref t), some (.ref (pre.length + 2)), some (.int k), v4, v5, v6, v7], H⟩ = .ok .next ⟨[some (.ref (pre.length + 1)), some (.ref t), some (.ref (pre.length + 2)), some (.int k), some (.ref (nd k)), some (.int (-1)), w6, w7], H'⟩ ∧ zR pre ord nd sc (gH (upd np k (-2)) (su k) 0) su (.ref R) po (fi + 1) H' ∧ H'[R]? = some (.list (aP (rr ++ su k))) ∧ gC R H H' := by
 have q : (fun σ => (a7 bQ gx (ai 2) (aj (ai 3) (aa [])) σ).bind fun v ae => (ao 4 v ae).bind fun x aq => zV.ok v aq : St → zV V) ⟨[some (.ref (pre.length + 1)), some (.ref t), some (.ref (pre.length + 2)), some (.int k), v4, v5, v6, v7], H⟩ = .ok (.ref (nd k)) ⟨[some (.ref (pre.length + 1)), some (.ref t), some (.ref (pre.length + 2)), some (.int k), some (.ref (nd k)), v5, v6, v7], H⟩ := by
  show (a7 bQ gx (ai 2) (aj (ai 3) (aa [])) ⟨_, _⟩).bind _ = _
  rw [cN (aI (v := .ref (pre.length + 2)) rfl) S.isD (aX (aI (v := .int k) rfl) (ms := aa []) rfl), S.dget, if_pos hk, zV.bind_ok]
  rfl
 have b1 : zB (aB (aW CmpOp.Is (fun σ => (a7 bQ gx (ai 2) (aj (ai 3) (aa [])) σ).bind fun v ae => (ao 4 v ae).bind fun x aq => zV.ok v aq) (aa V.none))) dU (aa F.next) ⟨[some (.ref (pre.length + 1)), some (.ref t), some (.ref (pre.length + 2)), some (.int k), v4, v5, v6, v7], H⟩ = .ok .next ⟨[some (.ref (pre.length + 1)), some (.ref t), some (.ref (pre.length + 2)), some (.int k), some (.ref (nd k)), v5, v6, v7], H⟩ :=
  (d9 (bM ((bq q (mr := aa .none) rfl).trans (ji _ _)))).trans rfl
 have g1 := S.g1 hk [some (.ref (pre.length + 1)), some (.ref t), some (.ref (pre.length + 2)), some (.int k), some (.ref (nd k)), v5, v6, v7]
 rw [h1] at g1
 have b2 : an (ba (eM 172 1) (ai 4)) (ao 5) ⟨[some (.ref (pre.length + 1)), some (.ref t), some (.ref (pre.length + 2)), some (.int k), some (.ref (nd k)), v5, v6, v7], H⟩ = .ok .next ⟨[some (.ref (pre.length + 1)), some (.ref t), some (.ref (pre.length + 2)), some (.int k), some (.ref (nd k)), some (.int (-1)), v6, v7], H⟩ :=
  bx ((bz (aI (v := .ref (nd k)) rfl)).trans g1)
 have b3 : ∀ (x : St → zV F) , zB (aB (aW CmpOp.NotEq (ai 5) (aa (V.int (-1))))) x (aa F.next) ⟨[some (.ref (pre.length + 1)), some (.ref t), some (.ref (pre.length + 2)), some (.int k), some (.ref (nd k)), some (.int (-1)), v6, v7], H⟩ = .ok .next ⟨[some (.ref (pre.length + 1)), some (.ref t), some (.ref (pre.length + 2)), some (.int k), some (.ref (nd k)), some (.int (-1)), v6, v7], H⟩ := fun x =>
  (d9 (c := false) (bM ((bq (aI (v := .int (-1)) rfl) (mr := aa (V.int (-1))) rfl).trans rfl))).trans rfl
 obtain ⟨H1, s1, S1, K1⟩ := S.s1k hk (-2) [some (.ref (pre.length + 1)), some (.ref t), some (.ref (pre.length + 2)), some (.int k), some (.ref (nd k)), some (.int (-1)), v6, v7]
 have b4 : an (aa (V.int (-2))) (cE (fC 172 1) (ai 4)) ⟨[some (.ref (pre.length + 1)), some (.ref t), some (.ref (pre.length + 2)), some (.int k), some (.ref (nd k)), some (.int (-1)), v6, v7], H⟩ = .ok .next ⟨[some (.ref (pre.length + 1)), some (.ref t), some (.ref (pre.length + 2)), some (.int k), some (.ref (nd k)), some (.int (-1)), v6, v7], H1⟩ :=
  bY (m := aa (V.int (-2))) rfl s1
 have hR1 := (K1 (R + 1) R (by lia)).1 _ hR
 obtain ⟨H2, w6, w7, l1, S2, hR2, K2⟩ := tE (v1 := some (.ref t)) (v3 := some (.int k)) (v4 := some (.ref (nd k))) (v5 := some (.int (-1))) hk hn hsc (su k) rr (upd np k (-2)) H1 v6 v7 S1 (fun y hy => by
  refine ⟨(hs y hy).1, ?_⟩
  have hne : y ≠ k := fun e => by
   have := (hs y hy).2
   rw [e, h1] at this; lia
  rw [dc _ _ hne]; exact (hs y hy).2) hd hR1 hl
 have b5 : gZ (ba (eM 172 2) (ai 4)) (ao 6) yZ (aa F.next) ⟨[some (.ref (pre.length + 1)), some (.ref t), some (.ref (pre.length + 2)), some (.int k), some (.ref (nd k)), some (.int (-1)), v6, v7], H1⟩ = .ok .next ⟨[some (.ref (pre.length + 1)), some (.ref t), some (.ref (pre.length + 2)), some (.int k), some (.ref (nd k)), some (.int (-1)), w6, w7], H2⟩ := by
  unfold gZ
  rw [bz (aI (v := .ref (nd k)) rfl), S1.g2 hk, zV.bind_ok]
  have hi : bZ (.ref (sc k)) H1 = some (aP (su k), some (sc k, .list (aP (su k)))) := by
   exact ck (S1.sx k hk).1
  simp only [hi]
  exact l1
 have S3 := S2.setFl (.ref R) po (fi + 1)
 have b6 : pt Operator.Add (getD 269 "_nfinished") (iP 269 "_nfinished") (ai 0) (aa (V.int 1)) ⟨[some (.ref (pre.length + 1)), some (.ref t), some (.ref (pre.length + 2)), some (.int k), some (.ref (nd k)), some (.int (-1)), w6, w7], H2⟩ = .ok .next ⟨[some (.ref (pre.length + 1)), some (.ref t), some (.ref (pre.length + 2)), some (.int k), some (.ref (nd k)), some (.int (-1)), w6, w7], H2.set pre.length (.idict (eD pre.length (.ref R) po (fi + 1)))⟩ :=
  oj (aI (v := .ref (pre.length + 1)) rfl) (S2.gfi _) (m := aa (V.int 1)) (b := .int 1) rfl (c := .int (fi + 1)) rfl (S2.sfi _ _)
 refine ⟨_, w6, w7, (aG b1).trans ((aG b2).trans ((aG (b3 _)).trans ((aG b4).trans ((aG b5).trans b6)))), S3, (gC.fl S2.fl (R + 1) _ R (by lia)).1 _ hR2, ((K1 R).trans K2).trans (.fl S2.fl R _)⟩
theorem tF {R : Nat} {po : Int} {t : Nat} {ks0 : List Nat} (hn : pre.length ≤ R) (hsc : ∀ k ∈ ord, sc k ≠ R) (htR : t ≠ R) (hun : ∀ x x' y, y ∈ su x → y ∈ su x' → x = x') (hsd : ∀ x, (su x).Nodup) : ∀ (ks rr : List Nat) (np : Nat → Int) (fi : Int) (H : List O) (v3 v4 v5 v6 v7 : Option V), zR pre ord nd sc np su (.ref R) po fi H → (∀ k ∈ ks, k ∈ ord ∧ np k = -1) → ks.Nodup → (∀ k ∈ ks, ∀ y ∈ su k, y ∈ ord ∧ np y = 1) → H[t]? = some (.tup (aP ks0)) → H[R]? = some (.list (aP rr)) → rr.length + (ks.flatMap su).length ≤ 100 →
  ∃ H' L', gs (ao 3) zh (aa F.next) (some (t, .tup (aP ks0))) (aP ks) ⟨[some (.ref (pre.length + 1)), some (.ref t), some (.ref (pre.length + 2)), v3, v4, v5, v6, v7], H⟩ = .ok .next ⟨L', H'⟩ ∧ zR pre ord nd sc (lz su np ks) su (.ref R) po (fi + ks.length) H' ∧ H'[R]? = some (.list (aP (rr ++ ks.flatMap su))) ∧ gC R H H' := by
 intro ks
 induction ks with
 | nil =>
  intro rr np fi H v3 v4 v5 v6 v7 S hk hd hs ht hR hl
  exact ⟨H, _, fz (bC ht), by simpa [lz] using S, by simpa using hR, .refl R H⟩
 | cons k ks ih =>
  intro rr np fi H v3 v4 v5 v6 v7 S hk hd hs ht hR hl
  have hko := hk k (List.mem_cons_self ..)
  have hd' := List.nodup_cons.mp hd
  rw [List.flatMap_cons, List.length_append] at hl
  obtain ⟨H1, w6, w7, r1, S1, hR1, K1⟩ := sQ (t := t) (v4 := v4) (v5 := v5) (v6 := v6) (v7 := v7) S hko.1 hko.2 (hs k (List.mem_cons_self ..)) (hsd k) hR (by lia) hn hsc
  have ht1 := (K1 t htR).2 _ ht
  have hnp : ∀ z, z ≠ k → z ∉ su k → gH (upd np k (-2)) (su k) 0 z = np z := fun z h1 h2 => by
   unfold gH
   rw [if_neg h2, dc _ _ h1]
  obtain ⟨H2, L', r2, S2, hR2, K2⟩ := ih (rr ++ su k) (gH (upd np k (-2)) (su k) 0) (fi + 1) H1 (some (.int k)) (some (.ref (nd k))) (some (.int (-1))) w6 w7 S1 (fun z hz => by
    have hz' := hk z (List.mem_cons_of_mem _ hz)
    refine ⟨hz'.1, ?_⟩
    rw [hnp z (fun e => hd'.1 (e ▸ hz)) (fun q => by
     have := (hs k (List.mem_cons_self ..) z q).2
     rw [hz'.2] at this; lia)]
    exact hz'.2) hd'.2 (fun z hz y hy => by
    have hy' := hs z (List.mem_cons_of_mem _ hz) y hy
    refine ⟨hy'.1, ?_⟩
    rw [hnp y (fun e => by rw [e, hko.2] at hy'; lia) (fun q => hd'.1 (hun z k y hy q ▸ hz))]
    exact hy'.2) ht1 hR1 (by rw [List.length_append]; lia)
  refine ⟨H2, L', ?_, ?_, ?_, K1.trans K2⟩
  ·show gs _ _ _ _ (.int k :: aP ks) _ = _
   rw [ee (ae := ⟨[some (.ref (pre.length + 1)), some (.ref t), some (.ref (pre.length + 2)), some (.int k), v4, v5, v6, v7], H⟩) (bC ht) rfl (.inl r1)]
   exact r2
  ·have e : fi + ((k :: ks).length : Nat) = fi + 1 + (ks.length : Nat) := by simp only [List.length_cons]; lia
   rw [e]; exact S2
  ·rw [hR2, List.flatMap_cons, List.append_assoc]
theorem xG {R : Nat} {po fi : Int} {ks : List Nat} {np : Nat → Int} {H : List O} (S : zR pre ord nd sc np su (.ref R) po fi H) (hn : pre.length ≤ R) (hsc : ∀ k ∈ ord, sc k ≠ R) (hun : ∀ x x' y, y ∈ su x → y ∈ su x' → x = x') (hsd : ∀ x, (su x).Nodup) (hk : ∀ k ∈ ks, k ∈ ord ∧ np k = -1) (hd : ks.Nodup) (hs : ∀ k ∈ ks, ∀ y ∈ su k, y ∈ ord ∧ np y = 1) (hR : H[R]? = some (.list [])) (hl : (ks.flatMap su).length ≤ 100) (hkl : ks.length ≤ 100) :
  ∃ τ, my (.ref (pre.length + 1) :: aP ks) H = .ok .none τ ∧ zR pre ord nd sc (lz su np ks) su (.ref R) po (fi + ks.length) τ.heap ∧ τ.heap[R]? = some (.list (aP (ks.flatMap su))) ∧ gC R H τ.heap := by
 have S1 := S.app [.tup (aP ks)]
 have hR1 := aE (X := [O.tup (aP ks)]) hR
 have htR : H.length ≠ R := by have := cD hR; lia
 obtain ⟨H2, L', l1, S2, hR2, K2⟩ := tF (t := H.length) (ks0 := ks) hn hsc htR hun hsd ks [] np fi (H ++ [.tup (aP ks)]) none none none none none S1 hk hd hs (iU ..) hR1 (by simpa using hl)
 refine ⟨⟨L', H2⟩, ?_, S2, hR2, (gC.app R H _).trans K2⟩
 have q := (bz (g := getD 269 "_ready_nodes") (aI (i := 0) (L := [some (.ref (pre.length + 1)), some (.ref H.length), none, none, none, none, none, none]) (H := H ++ [.tup (aP ks)]) rfl)).trans (S1.grd rfl _)
 have c1 : zB (aB (aW CmpOp.Is (ba (getD 269 "_ready_nodes") (ai 0)) (aa V.none))) dU (aa F.next) ⟨[some (.ref (pre.length + 1)), some (.ref H.length), none, none, none, none, none, none], H ++ [.tup (aP ks)]⟩ = .ok .next ⟨[some (.ref (pre.length + 1)), some (.ref H.length), none, none, none, none, none, none], H ++ [.tup (aP ks)]⟩ :=
  (d9 (bM ((bq q (mr := aa .none) rfl).trans (ji _ _)))).trans rfl
 have c2 : an (ba (getD 269 "_node2info") (ai 0)) (ao 2) ⟨[some (.ref (pre.length + 1)), some (.ref H.length), none, none, none, none, none, none], H ++ [.tup (aP ks)]⟩ = .ok .next ⟨[some (.ref (pre.length + 1)), some (.ref H.length), some (.ref (pre.length + 2)), none, none, none, none, none], H ++ [.tup (aP ks)]⟩ :=
  bx ((bz (aI rfl)).trans (S1.n2i _))
 have c3 : gZ (ai 1) (ao 3) zh (aa F.next) ⟨[some (.ref (pre.length + 1)), some (.ref H.length), some (.ref (pre.length + 2)), none, none, none, none, none], H ++ [.tup (aP ks)]⟩ = .ok .next ⟨L', H2⟩ := by
  unfold gZ
  rw [aI (v := .ref H.length) rfl, zV.bind_ok]
  have hi : bZ (.ref H.length) (H ++ [O.tup (aP ks)]) = some (aP ks, some (H.length, .tup (aP ks))) := by
   exact ck (iU ..)
  simp only [hi]
  exact l1
 refine fQ (ps := [.ref (pre.length + 1), .ref H.length]) (b8 := H ++ [.tup (aP ks)]) (L := [some (.ref (pre.length + 1)), some (.ref H.length), none, none, none, none, none, none]) ?_ rfl ?_
 ·unfold wz
  rw [if_pos ⟨by simp, by simp only [List.length_cons, eW]; lia⟩]; rfl
 ·exact (aG c1).trans ((aG c2).trans c3)
end
section
variable {par : Nat → Option Nat}
theorem cZ {x y : Nat} : y ∈ zk par 6 x ↔ y < 6 ∧ par y = some x := by
 unfold zk
 rw [List.mem_filter, List.mem_range, decide_eq_true_eq]
theorem ki (x : Nat) : (zk par 6 x).Nodup := List.nodup_range.filter _
theorem lS (x x' y : Nat) (h : y ∈ zk par 6 x) (h' : y ∈ zk par 6 x') : x = x' := by
 have := (cZ.mp h).2.symm.trans (cZ.mp h').2
 cases this; rfl
theorem n3 : ∀ (n k d : Nat), d < n → (zG par n k = d ↔ zG par (n + 1) k = d)
 | 0, k, d, h => by lia
 | n + 1, k, d, h => by
  cases q : par k with
  | none => simp only [zG, q]
  | some p =>
   simp only [zG, q]
   cases d with
   | zero => constructor <;> intro h <;> lia
   | succ d =>
    have := n3 n p d (by lia)
    simp only [zG] at this
    lia
theorem uE : ∀ (n k : Nat), zG par n k ≤ n
 | 0, k => Nat.le_refl _
 | n + 1, k => by
  cases q : par k with
  | none => simp only [zG, q]; lia
  | some p => have := uE n p; simp only [zG, q]; lia
theorem ef {k : Nat} : zG par 7 k = 0 ↔ par k = none := by
 cases q : par k with
 | none => simp [zG, q]
 | some p => simp [zG, q]
theorem eZ {k p d : Nat} (h : par k = some p) (hd : d < 6) : zG par 7 k = d + 1 ↔ zG par 7 p = d := by
 have e : zG par 7 k = zG par 6 p + 1 := by
  show zG par (6 + 1) k = _
  simp only [zG, h]
 have := n3 (par := par) 6 p d hd
 rw [e, ← this]; lia
noncomputable def zx (par : Nat → Option Nat) (d : Nat) : List Nat := (List.range 6).filter fun k => decide (zG par 7 k = d)
theorem gn {d k : Nat} : k ∈ zx par d ↔ k < 6 ∧ zG par 7 k = d := by
 unfold zx
 rw [List.mem_filter, List.mem_range, decide_eq_true_eq]
theorem uu (hp : ∀ k p, par k = some p → p < 6) {d : Nat} (hd : d < 6) (h : zx par d = []) : zx par (d + 1) = [] := by
 rw [List.eq_nil_iff_forall_not_mem]
 intro k hk
 obtain ⟨h1, h2⟩ := gn.mp hk
 cases q : par k with
 | none => rw [ef.mpr q] at h2; lia
 | some p =>
  have : p ∈ zx par d := gn.mpr ⟨hp _ _ q, (eZ q hd).mp h2⟩
  rw [h] at this; cases this
theorem wi (hp : ∀ k p, par k = some p → p < 6) : zx par 6 = [] := by
 apply Classical.byContradiction
 intro h
 have h0 : ∀ d, d ≤ 6 → zx par d ≠ [] := by
  intro d hd e
  have : ∀ m, d + m ≤ 6 → zx par (d + m) = [] := by
   intro m
   induction m with
   | zero => exact fun _ => e
   | succ m ih => exact fun hm => uu (d := d + m) hp (by lia) (ih (by lia))
  exact h (by have := this (6 - d) (by lia); rwa [show d + (6 - d) = 6 by lia] at this)
 have : (List.range 7).length ≤ ((List.range 6).map (zG par 7)).length := ca List.nodup_range fun d hd => by
  obtain ⟨k, hk⟩ := List.exists_mem_of_ne_nil _ (h0 d (by have := List.mem_range.mp hd; lia))
  obtain ⟨h1, h2⟩ := gn.mp hk
  exact List.mem_map.mpr ⟨k, List.mem_range.mpr h1, h2⟩
 rw [List.length_range, List.length_map, List.length_range] at this
 lia
theorem sf {r s : List Nat} (hr : r.Nodup) (hs : s.Pairwise (· < ·)) (h : ∀ k, k ∈ r ↔ k ∈ s) : sortI (r.map fun (k : Nat) => (k : Int)) = s.map fun (k : Nat) => (k : Int) := by
 unfold sortI
 refine List.Perm.eq_of_pairwise (le := fun a b => a ≤ b) (fun a b _ _ h1 h2 => Int.le_antisymm h1 h2) ?_ ?_ ?_
 ·have := List.pairwise_mergeSort (le := fun (a b : Int) => decide (a ≤ b)) (fun a b c h1 h2 => by simp at h1 h2 ⊢; lia) (fun a b => by simp; lia) (r.map fun (k : Nat) => (k : Int))
  exact this.imp fun h => by simpa using h
 ·rw [List.pairwise_map]
  exact hs.imp fun h => by lia
 ·refine (List.mergeSort_perm _ _).trans ?_
  have hsn : s.Nodup := hs.imp fun h => by lia
  exact ((List.perm_ext_iff_of_nodup hr hsn).mpr h).map _
theorem q6 (d : Nat) : (zx par d).Pairwise (· < ·) := List.pairwise_lt_range.filter _
theorem pQ : ∀ {ord : List Nat} (z : Nat → Nat), ord.Nodup → (∀ x y, z x ≠ 0 → z y ≠ 0 → x = y) → (∀ x, z x ≤ 1) → (ord.map z).sum ≤ 1
 | [], z, _, _, _ => by simp
 | a :: ord, z, hn, h1, h2 => by
  have hn' := List.nodup_cons.mp hn
  simp only [List.map_cons, List.sum_cons]
  by_cases e : z a = 0
  ·have := pQ (ord := ord) z hn'.2 h1 h2; lia
  ·have : (ord.map z).sum = 0 := by
    have : ∀ x ∈ ord, z x = 0 := fun x hx => by
     by_cases q : z x = 0
     ·exact q
     ·exact absurd (h1 a x e q ▸ hx) hn'.1
    clear hn hn' h1 h2
    induction ord with
    | nil => rfl
    | cons b ord ih => rw [List.map_cons, List.sum_cons, this b (List.mem_cons_self ..), ih fun x hx => this x (List.mem_cons_of_mem _ hx)]
   have := h2 a; lia
theorem ud {ord : List Nat} (hn : ord.Nodup) : ∀ (ks : List Nat), (ord.map fun x => (ks.filter fun k => decide (par k = some x)).length).sum ≤ ks.length
 | [] => by
  have : ∀ l : List Nat, (l.map fun x => ((([] : List Nat).filter fun k => decide (par k = some x)).length)).sum = 0 := by
   intro l; induction l with
   | nil => rfl
   | cons a l ih => rw [List.map_cons, List.sum_cons, ih]; rfl
  rw [this]; exact Nat.zero_le _
 | k :: ks => by
  have ih := ud hn ks
  have h1 := pQ (ord := ord) (fun x => if par k = some x then 1 else 0) hn (fun x y hx hy => by
   have a : par k = some x := by
    apply Classical.byContradiction; intro q; simp [q] at hx
   have b : par k = some y := by
    apply Classical.byContradiction; intro q; simp [q] at hy
   rw [a] at b; cases b; rfl) (fun x => by split <;> lia)
  have h2 : (ord.map fun x => ((k :: ks).filter fun k => decide (par k = some x)).length).sum = (ord.map fun x => if par k = some x then 1 else 0).sum + (ord.map fun x => (ks.filter fun k => decide (par k = some x)).length).sum := by
   clear ih h1 hn
   induction ord with
   | nil => rfl
   | cons a ord ih =>
    simp only [List.map_cons, List.sum_cons]
    rw [ih, List.filter_cons]
    by_cases e : par k = some a
    ·rw [if_pos (decide_eq_true e), if_pos e, List.length_cons]; lia
    ·rw [if_neg (by simpa using e), if_neg e]; lia
  rw [h2, List.length_cons]; lia
theorem sS {ord : List Nat} (hn : ord.Nodup) : rest (zk par 6) ord [] < 20 := by
 have h := ud (par := par) hn (List.range 6)
 unfold rest
 have e : (ord.filter fun x => decide (x ∉ ([] : List Nat))) = ord := by
  rw [List.filter_eq_self]; intro x _; simp
 rw [e]
 rw [List.length_range] at h
 unfold zk
 lia
theorem oO (hp : ∀ k p, par k = some p → p < 6) {ord : List Nat} (ho : ord.Nodup) (h1 : ∀ k, k < 6 → k ∈ ord) (h2 : ∀ k ∈ ord, k < 6) :
  (bf (zk par 6) ord [] = some none ∧ ∃ k, k < 6 ∧ zG par 7 k = 7) ∨ (∃ sn', bf (zk par 6) ord [] = some (some sn') ∧ ∀ k, k < 6 → zG par 7 k ≤ 5) := by
 have hsu : ∀ x y, y ∈ zk par 6 x → par y = some x ∧ y ∈ ord := fun x y h => ⟨(cZ.mp h).2, h1 y (cZ.mp h).1⟩
 rcases oC hsu ho (sS ho) ord [] [] (fun _ h => h) ⟨List.nodup_nil, fun x h => (by cases h), List.nodup_nil, fun x => by simp, fun x h => (by cases h), List.nodup_nil, trivial⟩ with ⟨a, cyc, c1, c2⟩ | ⟨sn', fin', a, b, c, d⟩
 ·left
  obtain ⟨y, hy⟩ := List.exists_mem_of_ne_nil _ c1.1
  exact ⟨a, y, h2 y (c2 y hy), jp c1 7 y hy⟩
 ·right
  refine ⟨sn', a, fun k hk => ?_⟩
  have hfin : ∀ x ∈ ord, x ∈ fin' := fun x hx => by
   have := (b.spl x).mp (c x hx)
   simpa using this
  obtain ⟨m, hm⟩ := List.mem_iff_getElem?.mp (hfin k (h1 k hk))
  have hfl : fin'.length ≤ 6 := by
   have := ca (m := List.range 6) b.fn fun x hx => List.mem_range.mpr (h2 x (b.sub x ((b.spl x).mpr (.inl hx))))
   rw [List.length_range] at this; exact this
  have := tT b.fn b.topo (fun x y q hy => ⟨cZ.mpr ⟨h2 y (b.sub y ((b.spl y).mpr (.inl hy))), q⟩, hfin x (h1 x (hp _ _ q))⟩) m 7 k hm
  have := (List.getElem?_eq_some_iff.mp hm).1
  lia
theorem nZ {su : Nat → List Nat} : ∀ (ks : List Nat) (np : Nat → Int) (z : Nat), (∀ k ∈ ks, np k = -1) → ks.Nodup → (∀ k ∈ ks, ∀ y ∈ su k, np y = 1) → (∀ x x' y, y ∈ su x → y ∈ su x' → x = x') →
  lz su np ks z = if z ∈ ks then -2 else if z ∈ ks.flatMap su then 0 else np z
 | [], np, z, _, _, _, _ => by simp [lz]
 | k :: ks, np, z, h1, h2, h3, h4 => by
  have h2' := List.nodup_cons.mp h2
  have hk := h1 k (List.mem_cons_self ..)
  have hnp : ∀ z, z ≠ k → z ∉ su k → gH (upd np k (-2)) (su k) 0 z = np z := fun z h1 h2 => by
   unfold gH
   rw [if_neg h2, dc _ _ h1]
  have q1 : ∀ x ∈ ks, x ≠ k := fun x hx e => h2'.1 (e ▸ hx)
  have q2 : ∀ x ∈ ks, x ∉ su k := fun x hx q => by
   have := h3 k (List.mem_cons_self ..) x q
   rw [h1 x (List.mem_cons_of_mem _ hx)] at this; lia
  rw [lz, nZ ks _ z (fun x hx => by rw [hnp x (q1 x hx) (q2 x hx)]; exact h1 x (List.mem_cons_of_mem _ hx)) h2'.2 (fun x hx y hy => by
   have hy1 := h3 x (List.mem_cons_of_mem _ hx) y hy
   rw [hnp y (fun e => by rw [e, hk] at hy1; lia) (fun q => q1 x hx (h4 x k y hy q))]; exact hy1) h4]
  by_cases e1 : z ∈ ks
  ·rw [if_pos e1, if_pos (List.mem_cons_of_mem _ e1)]
  ·rw [if_neg e1]
   by_cases e2 : z = k
   ·subst e2
    have : z ∉ ks.flatMap su := fun q => by
     obtain ⟨x, hx, hy⟩ := List.mem_flatMap.mp q
     have := h3 x (List.mem_cons_of_mem _ hx) z hy
     rw [hk] at this; lia
    have hz2 : z ∉ su z := fun q => by
     have := h3 z (List.mem_cons_self ..) z q
     rw [hk] at this; lia
    rw [if_neg this, if_pos (List.mem_cons_self ..)]
    unfold gH
    rw [if_neg hz2, eE]
   ·rw [if_neg (by simp [e1, e2] : ¬ z ∈ k :: ks), List.flatMap_cons]
    by_cases e3 : z ∈ ks.flatMap su
    ·rw [if_pos e3, if_pos (List.mem_append_right _ e3)]
    ·rw [if_neg e3]
     by_cases e4 : z ∈ su k
     ·rw [if_pos (List.mem_append_left _ e4)]
      unfold gH
      rw [if_pos e4]
     ·rw [if_neg (by simp only [List.mem_append]; exact fun q => q.elim e4 e3), hnp z e2 e4]
theorem jn {su : Nat → List Nat} (h1 : ∀ x, (su x).Nodup) (h2 : ∀ x x' y, y ∈ su x → y ∈ su x' → x = x') : ∀ {r : List Nat}, r.Nodup → (r.flatMap su).Nodup
 | [], _ => List.nodup_nil
 | a :: r, h => by
  have h' := List.nodup_cons.mp h
  rw [List.flatMap_cons, List.nodup_append]
  refine ⟨h1 a, jn h1 h2 h'.2, fun y hy z hz e => ?_⟩
  subst e
  obtain ⟨x, hx, q⟩ := List.mem_flatMap.mp hz
  exact h'.1 (h2 a x y hy q ▸ hx)
end
theorem jN : ∀ r : List Nat, fM (aP r) = some (r.map fun (k : Nat) => (k : Int))
 | [] => rfl
 | a :: r => by
  show (fM (aP r)).map _ = _
  rw [jN r]; rfl
theorem mJ {l : List Nat} {i x : Nat} (h : l[i]? = some x) : i < l.length := (List.getElem?_eq_some_iff.mp h).1
theorem wg {m : St → zV V} {σ ae : St} {t : Nat} {us : List V} (h : m σ = .ok (.ref t) ae) (hu : ae.heap[t]? = some (.tup us)) (hl : us.length ≤ 1000) : lf m σ = .ok us ae := by
 unfold lf
 rw [h, zV.bind_ok, nu hu rfl, if_pos (by show us.length ≤ 16777216; lia)]
noncomputable abbrev wM : St → zV Bool := (aB (cW (bP 269 "is_active") (bJ pb) (ai 1) (aa [])))
noncomputable abbrev wT : St → zV F := (aM (an (cW (bP 269 "get_ready") (bJ mz) (ai 1) (aa [])) (ao 5)) (aM (bE (a7 aO bk (ai 4) (aj (aC (aj (ai 5) (aa [])) ga) (aa [])))) (bE (cW (bP 269 "done") (bJ my) (ai 1) (lf (ai 5))))))
structure RI (pre : List O) (par : Nat → Option Nat) (ord : List Nat) (nd sc : Nat → Nat) (R Q : Nat) (d : Nat) (r : List Nat) (ls : List Nat) (np : Nat → Int) (po : Int) (H : List O) : Prop where
 S : zR pre ord nd sc np (zk par 6) (.ref R) po po H
 hnp : ∀ k ∈ ord, np k = if zG par 7 k < d then -2 else if zG par 7 k = d then 0 else 1
 rn : r.Nodup
 rm : ∀ k, k ∈ r ↔ k < 6 ∧ zG par 7 k = d
 hR : H[R]? = some (.list (aP r))
 hQ : H[Q]? = some (.list (ls.map .ref))
 ll : ls.length = d
 hls : ∀ j, j < d → ∃ m, ls[j]? = some m ∧ H[m]? = some (.list (aP (zx par j))) ∧ pre.length ≤ m ∧ m ≠ R ∧ m ≠ Q
 lsn : ls.Nodup
 ne : ∀ j, j < d → zx par j ≠ []
section
variable {pre : List O} {par : Nat → Option Nat} {ord : List Nat} {nd sc : Nat → Nat} {R Q : Nat}
theorem RI.emp {d : Nat} {r ls : List Nat} {np : Nat → Int} {po : Int} {H : List O} (I : RI pre par ord nd sc R Q d r ls np po H) : r = [] ↔ zx par d = [] := by
 constructor
 ·intro e
  rw [List.eq_nil_iff_forall_not_mem]
  intro k hk
  have := (I.rm k).mpr (gn.mp hk)
  rw [e] at this; cases this
 ·intro e
  rw [List.eq_nil_iff_forall_not_mem]
  intro k hk
  have := gn.mpr ((I.rm k).mp hk)
  rw [e] at this; cases this
theorem RI.len {d : Nat} {r ls : List Nat} {np : Nat → Int} {po : Int} {H : List O} (I : RI pre par ord nd sc R Q d r ls np po H) : r.length ≤ 6 := by
 have := ca (m := List.range 6) I.rn fun x hx => List.mem_range.mpr ((I.rm x).mp hx).1
 rw [List.length_range] at this; exact this
theorem qz (hp : ∀ k p, par k = some p → p < 6) (h1 : ∀ k, k < 6 → k ∈ ord) (h2 : ∀ k ∈ ord, k < 6) (hn : pre.length ≤ R) (hnQ : pre.length ≤ Q) (hsc : ∀ k ∈ ord, sc k ≠ R) (hsQ : ∀ k ∈ ord, sc k ≠ Q) (hQR : Q ≠ R) {d : Nat} (hd : d < 6) {r ls : List Nat} {np : Nat → Int} {po : Int} {H : List O} (I : RI pre par ord nd sc R Q d r ls np po H) (hne : r ≠ []) {v0 v2 v3 v5 : Option V} :
  ∃ H' w5 r' ls' np' po', wT ⟨[v0, some (.ref (pre.length + 1)), v2, v3, some (.ref Q), v5], H⟩ = .ok .next ⟨[v0, some (.ref (pre.length + 1)), v2, v3, some (.ref Q), w5], H'⟩ ∧ RI pre par ord nd sc R Q (d + 1) r' ls' np' po' H' := by
 have hl := I.len
 have hro : ∀ k ∈ r, k ∈ ord := fun k hk => h1 k ((I.rm k).mp hk).1
 obtain ⟨τ1, t, r1, S1, ht, hR1, K1⟩ := xI I.S I.hR (by lia) hro hn hsc
 have htR : t ≠ R := aN ht hR1 (by simp)
 have a1 : an (cW (bP 269 "get_ready") (bJ mz) (ai 1) (aa [])) (ao 5) ⟨[v0, some (.ref (pre.length + 1)), v2, v3, some (.ref Q), v5], H⟩ = .ok .next ⟨[v0, some (.ref (pre.length + 1)), v2, v3, some (.ref Q), some (.ref t)], τ1.heap⟩ := by
  refine bx (i := 5) (v := .ref t) (ae := ⟨[v0, some (.ref (pre.length + 1)), v2, v3, some (.ref Q), v5], τ1.heap⟩) ?_
  rw [d0 (v := .ref (pre.length + 1)) (vs := []) (ma := aa []) (aI rfl) (I.S.own (by kernel_rfl)) rfl]
  exact cm (m := mz) r1
 have hQ1 := (K1 Q hQR).1 _ I.hQ
 have hQ2 := aE (X := [O.list (aP (zx par d))]) hQ1
 have a2a : aC (aj (ai 5) (aa [])) ga ⟨[v0, some (.ref (pre.length + 1)), v2, v3, some (.ref Q), some (.ref t)], τ1.heap⟩ = .ok (.ref τ1.heap.length) ⟨[v0, some (.ref (pre.length + 1)), v2, v3, some (.ref Q), some (.ref t)], τ1.heap ++ [O.list (aP (zx par d))]⟩ := by
  rw [bX (aX (aI (v := .ref t) rfl) (ms := aa []) rfl)]
  have e := sf I.rn (q6 (par := par) d) (fun k => (I.rm k).trans gn.symm)
  unfold ga
  rw [wY, wn ht, jN, y7, e, if_pos (by rw [List.length_map]; lia), List.map_map]
  rfl
 have a2 : bE (a7 aO bk (ai 4) (aj (aC (aj (ai 5) (aa [])) ga) (aa []))) ⟨[v0, some (.ref (pre.length + 1)), v2, v3, some (.ref Q), some (.ref t)], τ1.heap⟩ = .ok .next ⟨[v0, some (.ref (pre.length + 1)), v2, v3, some (.ref Q), some (.ref t)], (τ1.heap ++ [O.list (aP (zx par d))]).set Q (O.list (ls.map V.ref ++ [V.ref τ1.heap.length]))⟩ := by
  refine c0 (v := .none) ?_
  rw [cN (ae := ⟨[v0, some (.ref (pre.length + 1)), v2, v3, some (.ref Q), some (.ref t)], τ1.heap⟩) (aI (v := .ref Q) rfl) (cC hQ1) (aX a2a (ms := aa []) rfl)]
  exact dT hQ2 (by rw [List.length_map, I.ll]; lia)
 have S2 := (S1.app [O.list (aP (zx par d))]).setList hQ2 hnQ hsQ (O.list (ls.map V.ref ++ [V.ref τ1.heap.length]))
 have hR2 : ((τ1.heap ++ [O.list (aP (zx par d))]).set Q (O.list (ls.map V.ref ++ [V.ref τ1.heap.length])))[R]? = some (.list []) := aY (aE hR1) hQR
 have hsame : gH np r (-1) = gH np r (-1) := rfl
 have hin : ∀ k ∈ r, gH np r (-1) k = -1 := fun k hk => by unfold gH; rw [if_pos hk]
 have hout : ∀ k, k ∉ r → gH np r (-1) k = np k := fun k hk => by unfold gH; rw [if_neg hk]
 have hy : ∀ k ∈ r, ∀ y ∈ zk par 6 k, y ∈ ord ∧ gH np r (-1) y = 1 := fun k hk y hy => by
  obtain ⟨y1, y2⟩ := cZ.mp hy
  have e := (eZ y2 hd).mpr ((I.rm k).mp hk).2
  refine ⟨h1 y y1, ?_⟩
  rw [hout y (fun q => by have := ((I.rm y).mp q).2; lia), I.hnp y (h1 y y1), if_neg (by lia), if_neg (by lia)]
 have hfn : (r.flatMap (zk par 6)).Nodup := jn ki lS I.rn
 have hfl : (r.flatMap (zk par 6)).length ≤ 6 := by
  have := ca (m := List.range 6) hfn fun x hx => by
   obtain ⟨k, _, q⟩ := List.mem_flatMap.mp hx
   exact List.mem_range.mpr (cZ.mp q).1
  rw [List.length_range] at this; exact this
 obtain ⟨τ4, r4, S4, hR4, K4⟩ := xG S2 hn hsc lS ki (fun k hk => ⟨hro k hk, hin k hk⟩) I.rn hy hR2 (by lia) (by lia)
 have a3 : bE (cW (bP 269 "done") (bJ my) (ai 1) (lf (ai 5))) ⟨[v0, some (.ref (pre.length + 1)), v2, v3, some (.ref Q), some (.ref t)], (τ1.heap ++ [O.list (aP (zx par d))]).set Q (O.list (ls.map V.ref ++ [V.ref τ1.heap.length]))⟩ = .ok .next ⟨[v0, some (.ref (pre.length + 1)), v2, v3, some (.ref Q), some (.ref t)], τ4.heap⟩ := by
  refine c0 (v := .none) ?_
  have ht2 : ((τ1.heap ++ [O.list (aP (zx par d))]).set Q (O.list (ls.map V.ref ++ [V.ref τ1.heap.length])))[t]? = some (.tup (aP r)) := aY (aE ht) (aN hQ2 (aE ht) (by simp))
  rw [d0 (v := .ref (pre.length + 1)) (aI rfl) (S2.own (by kernel_rfl)) (wg (aI (v := .ref t) rfl) ht2 (by rw [eW]; lia))]
  exact cm (m := my) r4
 have hQl := cD hQ1
 refine ⟨τ4.heap, some (.ref t), r.flatMap (zk par 6), ls ++ [τ1.heap.length], lz (zk par 6) (gH np r (-1)) r, po + r.length, (aG a1).trans ((aG a2).trans a3), ⟨S4, ?_, hfn, ?_, hR4, ?_, ?_, ?_, ?_, ?_⟩⟩
 ·intro k hk
  rw [nZ r _ k hin I.rn (fun k hk y q => (hy k hk y q).2) lS]
  have hk0 := I.hnp k hk
  by_cases e1 : k ∈ r
  ·have := ((I.rm k).mp e1).2
   rw [if_pos e1, if_pos (by lia)]
  ·rw [if_neg e1, hout k e1, hk0]
   have e1' : zG par 7 k ≠ d := fun q => e1 ((I.rm k).mpr ⟨h2 k hk, q⟩)
   by_cases e2 : k ∈ r.flatMap (zk par 6)
   ·obtain ⟨x, hx, q⟩ := List.mem_flatMap.mp e2
    have := (eZ (cZ.mp q).2 hd).mpr ((I.rm x).mp hx).2
    rw [if_pos e2, if_neg (by lia), if_pos this]
   ·rw [if_neg e2, if_neg (by lia : ¬ zG par 7 k = d)]
    have e3 : zG par 7 k ≠ d + 1 := fun q => by
     cases qp : par k with
     | none => rw [ef.mpr qp] at q; lia
     | some p => exact e2 (List.mem_flatMap.mpr ⟨p, (I.rm p).mpr ⟨hp _ _ qp, (eZ qp hd).mp q⟩, cZ.mpr ⟨h2 k hk, qp⟩⟩)
    by_cases e4 : zG par 7 k < d
    ·rw [if_pos e4, if_pos (by lia)]
    ·rw [if_neg e4, if_neg (by lia), if_neg e3]
 ·intro k
  rw [List.mem_flatMap]
  constructor
  ·rintro ⟨x, hx, q⟩
   obtain ⟨q1, q2⟩ := cZ.mp q
   exact ⟨q1, (eZ q2 hd).mpr ((I.rm x).mp hx).2⟩
  ·rintro ⟨q1, q2⟩
   cases qp : par k with
   | none => rw [ef.mpr qp] at q2; lia
   | some p => exact ⟨p, (I.rm p).mpr ⟨hp _ _ qp, (eZ qp hd).mp q2⟩, cZ.mpr ⟨q1, qp⟩⟩
 ·rw [(K4 Q hQR).1 _ (fN hQ2), List.map_append]; rfl
 ·rw [List.length_append, I.ll]; rfl
 ·intro j hj
  by_cases e : j < d
  ·obtain ⟨m, m1, m2, m3, m4, m5⟩ := I.hls j e
   exact ⟨m, by rw [List.getElem?_append_left (mJ m1)]; exact m1, (K4 m m4).1 _ (aY (aE ((K1 m m4).1 _ m2)) m5.symm), m3, m4, m5⟩
  ·have : j = d := by lia
   subst this
   have hmQ : τ1.heap.length ≠ Q := by lia
   have hmR : τ1.heap.length ≠ R := by have := cD hR1; lia
   refine ⟨τ1.heap.length, ?_, (K4 _ hmR).1 _ (aY (iU ..) hmQ.symm), by lia, hmR, hmQ⟩
   rw [List.getElem?_append_right (by rw [I.ll]; exact Nat.le_refl _), I.ll, Nat.sub_self]; rfl
 ·rw [List.nodup_append]
  refine ⟨I.lsn, by simp, fun a ha b hb => ?_⟩
  simp at hb
  obtain ⟨j, hj⟩ := List.mem_iff_getElem?.mp ha
  obtain ⟨m, m1, m2, m3, m4, m5⟩ := I.hls j (by rw [← I.ll]; exact mJ hj)
  rw [hj] at m1
  cases m1
  have := cD ((K1 a m4).1 _ m2)
  lia
 ·intro j hj
  by_cases e : j < d
  ·exact I.ne j e
  ·have : j = d := by lia
   subst this
   exact fun q => hne (I.emp.mpr q)
theorem sC (hp : ∀ k p, par k = some p → p < 6) (h1 : ∀ k, k < 6 → k ∈ ord) (h2 : ∀ k ∈ ord, k < 6) (hn : pre.length ≤ R) (hnQ : pre.length ≤ Q) (hsc : ∀ k ∈ ord, sc k ≠ R) (hsQ : ∀ k ∈ ord, sc k ≠ Q) (hQR : Q ≠ R) {v0 v2 v3 : Option V} : ∀ (m d f : Nat) (r ls : List Nat) (np : Nat → Int) (po : Int) (H : List O) (v5 : Option V), d + m = 6 → m < f → RI pre par ord nd sc R Q d r ls np po H →
  ∃ d' ls' np' po' H' w5, bT wM wT (aa F.next) f ⟨[v0, some (.ref (pre.length + 1)), v2, v3, some (.ref Q), v5], H⟩ = .ok .next ⟨[v0, some (.ref (pre.length + 1)), v2, v3, some (.ref Q), w5], H'⟩ ∧ RI pre par ord nd sc R Q d' [] ls' np' po' H' ∧ d' ≤ 6 := by
 intro m
 have test : ∀ {d : Nat} {r ls : List Nat} {np : Nat → Int} {po : Int} {H : List O} {v5 : Option V}, RI pre par ord nd sc R Q d r ls np po H → wM ⟨[v0, some (.ref (pre.length + 1)), v2, v3, some (.ref Q), v5], H⟩ = .ok (!r.isEmpty) ⟨[v0, some (.ref (pre.length + 1)), v2, v3, some (.ref Q), v5], H⟩ := by
  intro d r ls np po H v5 I
  obtain ⟨L, q⟩ := xH I.S I.hR (by have := I.len; lia)
  refine bM ?_
  rw [d0 (v := .ref (pre.length + 1)) (vs := []) (ma := aa []) (ae := ⟨[v0, some (.ref (pre.length + 1)), v2, v3, some (.ref Q), v5], H⟩) (aq := ⟨[v0, some (.ref (pre.length + 1)), v2, v3, some (.ref Q), v5], H⟩) (aI rfl) (I.S.own (by kernel_rfl)) rfl]
  exact cm (m := pb) (σ := ⟨[v0, some (.ref (pre.length + 1)), v2, v3, some (.ref Q), v5], H⟩) q
 have stop : ∀ {d f : Nat} {ls : List Nat} {np : Nat → Int} {po : Int} {H : List O} {v5 : Option V}, RI pre par ord nd sc R Q d [] ls np po H → bT wM wT (aa F.next) (f + 1) ⟨[v0, some (.ref (pre.length + 1)), v2, v3, some (.ref Q), v5], H⟩ = .ok .next ⟨[v0, some (.ref (pre.length + 1)), v2, v3, some (.ref Q), v5], H⟩ := fun I => j6 (test I) rfl
 induction m with
 | zero =>
  intro d f r ls np po H v5 hd hf I
  have : d = 6 := by lia
  subst this
  obtain ⟨f, rfl⟩ : ∃ g, f = g + 1 := ⟨f - 1, by lia⟩
  have e := I.emp.mpr (wi hp)
  subst e
  exact ⟨6, ls, np, po, H, v5, stop I, I, Nat.le_refl _⟩
 | succ m ih =>
  intro d f r ls np po H v5 hd hf I
  obtain ⟨f, rfl⟩ : ∃ g, f = g + 1 := ⟨f - 1, by lia⟩
  by_cases e : r = []
  ·subst e
   exact ⟨d, ls, np, po, H, v5, stop I, I, by lia⟩
  ·obtain ⟨H1, w5, r1, ls1, np1, po1, b1, I1⟩ := qz hp h1 h2 hn hnQ hsc hsQ hQR (by lia) I e (v0 := v0) (v2 := v2) (v3 := v3) (v5 := v5)
   obtain ⟨d', ls', np', po', H', w5', q1, q2, q3⟩ := ih (d + 1) f r1 ls1 np1 po1 H1 w5 (by lia) (by lia) I1
   refine ⟨d', ls', np', po', H', w5', ?_, q2, q3⟩
   have t := test (v5 := v5) I
   have : (!r.isEmpty) = true := by cases r with
    | nil => exact absurd rfl e
    | cons => rfl
   rw [this] at t
   exact (gM t b1).trans q1
end
structure Told (pre : List O) (par : Nat → Option Nat) (ring : Bool) (d : Nat) (H : List O) (r Q : Nat) (ls : List Nat) : Prop where
 take : H.take pre.length = pre
 res : H[r]? = some (.tup [.bool ring, .ref Q])
 rn : pre.length ≤ r
 hQ : H[Q]? = some (.list (ls.map .ref))
 Qn : pre.length ≤ Q
 ll : ls.length = d
 hls : ∀ j, j < d → ∃ m, ls[j]? = some m ∧ H[m]? = some (.list (aP (zx par j))) ∧ pre.length ≤ m ∧ m ≠ Q
 lsn : ls.Nodup
 d6 : d ≤ 6
 ne : ∀ j, j < d → zx par j ≠ []
 last : zx par d = []
 ring : (ring = true ∧ ∃ k, k < 6 ∧ zG par 7 k = 7) ∨ (ring = false ∧ ∀ k, k < 6 → zG par 7 k ≤ 5)
theorem vK : ii 0 6 1 = aP (List.range' 0 6) := by kernel_rfl
theorem xD {pre : List O} {l : Nat} {par : Nat → Option Nat} (h : df pre l par) (hp : ∀ k p, par k = some p → p < 6) : ∃ τ ring d r Q ls, o8 [.ref l] pre = .ok (.ref r) τ ∧ Told pre par ring d τ.heap r Q ls := by
 have a1 := bx (i := 1) (sz pre [some (.ref l), none, none, none, none, none])
 simp only [List.set_cons_succ, List.set_cons_zero] at a1
 have S0 := (se pre).app [O.range 0 6 1]
 have e0 : zv par 0 = fun _ => 0 := by
  funext k
  unfold zv
  rw [if_neg (by lia)]
 have e1 : zk par 0 = fun _ => [] := by funext k; rfl
 rw [← e0, ← e1] at S0
 obtain ⟨ord, nd, sc, H1, w2, r1, S1, h1, h2⟩ := sB h hp none none none 6 0 [] _ _ _ none rfl S0 (fun k hk => by lia) (fun k hk => by cases hk) (fun k p hk => by lia)
 have hr : aC (aj (aa (V.int 6)) (aa [])) ek ⟨[some (.ref l), some (.ref (pre.length + 1)), none, none, none, none], pre ++ [.idict (eD pre.length .none 0 0), .inst 269 pre.length [], .dict [] 0]⟩ = .ok (.ref (pre.length + 3)) ⟨[some (.ref l), some (.ref (pre.length + 1)), none, none, none, none], (pre ++ [.idict (eD pre.length .none 0 0), .inst 269 pre.length [], .dict [] 0]) ++ [.range 0 6 1]⟩ := by
  refine (bX (vs := [.int 6]) (ae := ⟨[some (.ref l), some (.ref (pre.length + 1)), none, none, none, none], pre ++ [O.idict (eD pre.length .none 0 0), O.inst 269 pre.length [], O.dict [] 0]⟩) rfl).trans ?_
  show zV.ok _ _ = _
  simp only [List.length_append, List.length_cons, List.length_nil]
 have a2 : gZ (aC (aj (aa (V.int 6)) (aa [])) ek) (ao 2) zg (aa F.next) ⟨[some (.ref l), some (.ref (pre.length + 1)), none, none, none, none], pre ++ [.idict (eD pre.length .none 0 0), .inst 269 pre.length [], .dict [] 0]⟩ = .ok .next ⟨[some (.ref l), some (.ref (pre.length + 1)), w2, none, none, none], H1⟩ := by
  unfold gZ
  rw [hr, zV.bind_ok]
  have hi : bZ (.ref (pre.length + 3)) ((pre ++ [.idict (eD pre.length .none 0 0), .inst 269 pre.length [], .dict [] 0]) ++ [.range 0 6 1]) = some (aP (List.range' 0 6), none) := by
   have q : ((pre ++ [O.idict (eD pre.length .none 0 0), .inst 269 pre.length [], .dict [] 0]) ++ [O.range 0 6 1])[pre.length + 3]? = some (.range 0 6 1) := by
    rw [List.getElem?_append_right (by simp)]; simp
   have s : Builtin.Range.small 0 6 1 = true := by decide +kernel
   rw [ck q]
   unfold jh
   simp only [s, if_true, vK]
  simp only [hi]
  exact r1
 have hol : ord.length ≤ 6 := by
  have := ca (m := List.range 6) S1.nod fun x hx => List.mem_range.mpr (h2 x hx)
  rw [List.length_range] at this; exact this
 obtain ⟨p1, p2⟩ := xJ S1 (fun x y hy => h1 y (cZ.mp hy).1) hol
 have a3 : an (aa (V.bool false)) (ao 3) ⟨[some (.ref l), some (.ref (pre.length + 1)), w2, none, none, none], H1⟩ = .ok .next ⟨[some (.ref l), some (.ref (pre.length + 1)), w2, some (.bool false), none, none], H1⟩ := rfl
 have prep : ∃ ring R H2, lQ (bE (cW (bP 269 "prepare") (bJ k9) (ai 1) (aa []))) (gk [(V.top 187, true)] (kS (an (aa (V.bool true)) (ao 3))) uF) ⟨[some (.ref l), some (.ref (pre.length + 1)), w2, some (.bool false), none, none], H1⟩ = .ok .next ⟨[some (.ref l), some (.ref (pre.length + 1)), w2, some (.bool ring), none, none], H2⟩
   ∧ zR pre ord nd sc (zv par 6) (zk par 6) (.ref R) 0 0 H2 ∧ H2[R]? = some (.list (aP (ord.filter fun k => decide (zv par 6 k = 0)))) ∧ pre.length ≤ R ∧ (∀ k ∈ ord, sc k ≠ R) ∧ ((ring = true ∧ ∃ k, k < 6 ∧ zG par 7 k = 7) ∨ (ring = false ∧ ∀ k, k < 6 → zG par 7 k ≤ 5)) := by
  rcases oO hp S1.nod h1 h2 with ⟨q, k⟩ | ⟨sn', q, k⟩
  ·obtain ⟨as, τ, R, g1, g2, g3, g4, g5⟩ := p1 q
   refine ⟨true, R, τ.heap, ?_, g2, g3, g4, g5, .inl ⟨rfl, k⟩⟩
   have hx : bE (cW (bP 269 "prepare") (bJ k9) (ai 1) (aa [])) ⟨[some (.ref l), some (.ref (pre.length + 1)), w2, some (.bool false), none, none], H1⟩ = .exc (.top 187) as ⟨[some (.ref l), some (.ref (pre.length + 1)), w2, some (.bool false), none, none], τ.heap⟩ := by
    unfold bE
    rw [d0 (v := .ref (pre.length + 1)) (vs := []) (ma := aa []) (ae := ⟨[some (.ref l), some (.ref (pre.length + 1)), w2, some (.bool false), none, none], H1⟩) (aq := ⟨[some (.ref l), some (.ref (pre.length + 1)), w2, some (.bool false), none, none], H1⟩) (aI rfl) (S1.own (by kernel_rfl)) rfl]
    unfold bJ
    simp only [g1, zV.bind_exc]
   rw [pO hx]
   rfl
  ·obtain ⟨τ, R, g1, g2, g3, g4, g5⟩ := p2 sn' q
   refine ⟨false, R, τ.heap, ?_, g2, g3, g4, g5, .inr ⟨rfl, k⟩⟩
   refine uc (c0 (v := .none) ?_)
   rw [d0 (v := .ref (pre.length + 1)) (vs := []) (ma := aa []) (ae := ⟨[some (.ref l), some (.ref (pre.length + 1)), w2, some (.bool false), none, none], H1⟩) (aq := ⟨[some (.ref l), some (.ref (pre.length + 1)), w2, some (.bool false), none, none], H1⟩) (aI rfl) (S1.own (by kernel_rfl)) rfl]
   exact cm (m := k9) (σ := ⟨[some (.ref l), some (.ref (pre.length + 1)), w2, some (.bool false), none, none], H1⟩) g1
 obtain ⟨ring, R, H2, a4, S2, hR, hn, hsc, hring⟩ := prep
 have a5 : an (bu (aa [])) (ao 4) ⟨[some (.ref l), some (.ref (pre.length + 1)), w2, some (.bool ring), none, none], H2⟩ = .ok .next ⟨[some (.ref l), some (.ref (pre.length + 1)), w2, some (.bool ring), some (.ref H2.length), none], H2 ++ [.list []]⟩ :=
  bx (cP (ms := aa []) (vs := []) (σ := ⟨[some (.ref l), some (.ref (pre.length + 1)), w2, some (.bool ring), none, none], H2⟩) rfl (by show 0 ≤ 1000; decide))
 have hnH : pre.length ≤ H2.length := by have := cD hR; lia
 have I0 : RI pre par ord nd sc R H2.length 0 (ord.filter fun k => decide (zv par 6 k = 0)) [] (zv par 6) 0 (H2 ++ [.list []]) := by
  refine ⟨S2.app _, fun k hk => ?_, S2.nod.filter _, fun k => ?_, aE hR, iU .., rfl, fun j hj => by lia, List.nodup_nil, fun j hj => by lia⟩
  ·have h6 := h2 k hk
   rw [if_neg (by lia)]
   unfold zv
   cases q : par k with
   | none => rw [if_neg (by simp), if_pos (ef.mpr q)]
   | some p => rw [if_pos ⟨h6, rfl⟩, if_neg (by rw [ef, q]; simp)]
  ·rw [List.mem_filter, decide_eq_true_eq]
   unfold zv
   constructor
   ·rintro ⟨q1, q2⟩
    refine ⟨h2 k q1, ef.mpr ?_⟩
    cases q : par k with
    | none => rfl
    | some p => rw [if_pos ⟨h2 k q1, by rw [q]; rfl⟩] at q2; lia
   ·rintro ⟨q1, q2⟩
    refine ⟨h1 k q1, ?_⟩
    rw [ef.mp q2, if_neg (by simp)]
 obtain ⟨d', ls', np', po', H', w5, a6, I, hd'⟩ := sC hp h1 h2 hn hnH hsc (fun k hk => by have := cD (S2.sx k hk).1; lia) (by have := cD hR; lia) 6 0 20 _ [] _ 0 _ none rfl (by decide) I0 (v0 := some (.ref l)) (v2 := w2) (v3 := some (.bool ring))
 have e7 := j8 (ms := aj (ai 3) (aj (ai 4) (aa []))) (vs := [.bool ring, .ref H2.length]) (σ := ⟨[some (.ref l), some (.ref (pre.length + 1)), w2, some (.bool ring), some (.ref H2.length), w5], H'⟩) (ae := ⟨[some (.ref l), some (.ref (pre.length + 1)), w2, some (.bool ring), some (.ref H2.length), w5], H'⟩) rfl (by show 2 ≤ 1000; decide)
 refine ⟨⟨[some (.ref l), some (.ref (pre.length + 1)), w2, some (.bool ring), some (.ref H2.length), w5], H' ++ [.tup [.bool ring, .ref H2.length]]⟩, ring, d', H'.length, H2.length, ls', ?_, ?_⟩
 ·refine du (b8 := pre) (L := [some (.ref l), none, none, none, none, none]) rfl rfl ?_
  exact (aG a1).trans ((aG a2).trans ((aG a3).trans ((aG a4).trans ((aG a5).trans ((aG a6).trans (eK e7))))))
 ·refine ⟨fF I.S.take, iU .., by have := cD I.hR; lia, aE I.hQ, hnH, I.ll, fun j hj => ?_, I.lsn, hd', I.ne, I.emp.mp rfl, hring⟩
  obtain ⟨m, m1, m2, m3, m4, m5⟩ := I.hls j hj
  exact ⟨m, m1, aE m2, m3, m5⟩
theorem sT (ls : List Nat) : refsOf (ls.map .ref) = ls := by
 unfold refsOf
 induction ls with
 | nil => rfl
 | cons a ls ih => rw [List.map_cons, List.filterMap_cons]; simp only [ih]
theorem vH (f : Nat → Nat) (r : List Nat) : qC f (.list (aP r)) = .list (aP r) := by
 show O.list ((aP r).map (zo f)) = _
 unfold aP
 rw [List.map_map]; rfl
theorem tP (p : Nat → Bool) (r : List Nat) : eB p (.list (aP r)) = true := by
 unfold eB aP
 rw [List.all_eq_true]
 intro v hv
 obtain ⟨k, _, rfl⟩ := List.mem_map.mp hv
 rfl
noncomputable def eV (n d : Nat) : List V := (List.range d).map fun j => V.ref (n + j)
theorem rz {pre : List O} {l : Nat} {par : Nat → Option Nat} (h : df pre l par) (hp : ∀ k p, par k = some p → p < 6) (hg : pre.all (eB (mZ pre.length)) = true) (L : List (Option V)) :
  ∃ ring d, mW o8 [.ref l] ⟨L, pre⟩ = .ok (.ref (pre.length + (d + 1))) ⟨L, pre ++ ((List.range d).map (fun j => O.list (aP (zx par j))) ++ [.list (eV pre.length d), .tup [.bool ring, .ref (pre.length + d)]])⟩ ∧ d ≤ 6 ∧ (∀ j, j < d → zx par j ≠ []) ∧ zx par d = [] ∧ ((ring = true ∧ ∃ k, k < 6 ∧ zG par 7 k = 7) ∨ (ring = false ∧ ∀ k, k < 6 → zG par 7 k ≤ 5)) := by
 obtain ⟨τ, ring, d, r, Q, ls, e, T⟩ := xD h hp
 refine ⟨ring, d, ?_, T.d6, T.ne, T.last, T.ring⟩
 have hk1 : wk pre.length τ.heap r = [Q] := by
  unfold wk
  simp only [T.res]
  show (List.filter _ [Q]) = _
  rw [List.filter_cons, if_pos (decide_eq_true T.Qn)]; rfl
 have hmem : ∀ m ∈ ls, pre.length ≤ m ∧ m ≠ Q ∧ m ≠ r ∧ ∃ j, j < d ∧ τ.heap[m]? = some (.list (aP (zx par j))) := fun m hm => by
  obtain ⟨j, hj⟩ := List.mem_iff_getElem?.mp hm
  have hjd : j < d := by rw [← T.ll]; exact mJ hj
  obtain ⟨m', m1, m2, m3, m4⟩ := T.hls j hjd
  rw [hj] at m1; cases m1
  exact ⟨m3, m4, aN m2 T.res (by simp), j, hjd, m2⟩
 have hk2 : wk pre.length τ.heap Q = ls := by
  unfold wk
  simp only [T.hQ]
  rw [sT, List.filter_eq_self]
  exact fun m hm => decide_eq_true (hmem m hm).1
 have hD : deepOf pre.length τ.heap r = ls ++ [Q, r] := by
  unfold deepOf
  rw [hk1, List.flatMap_cons, List.flatMap_nil, List.append_nil, hk2, List.append_assoc]; rfl
 have hQr : Q ≠ r := aN T.hQ T.res (by simp)
 have hDn : (ls ++ [Q, r]).Nodup := by
  rw [List.nodup_append]
  refine ⟨T.lsn, by simp [hQr], fun a ha b hb => ?_⟩
  simp at hb
  rcases hb with rfl | rfl
  ·exact (hmem a ha).2.1
  ·exact (hmem a ha).2.2.1
 have mv : ∀ j m, (ls ++ [Q, r])[j]? = some m → pre.length ≤ m → er pre.length (ls ++ [Q, r]) m = pre.length + j := fun j m hj hm => by
  obtain ⟨hlt, he⟩ := List.getElem?_eq_some_iff.mp hj
  unfold er
  rw [if_neg (by lia), ← he, hDn.idxOf_getElem j hlt]
 have mQ : er pre.length (ls ++ [Q, r]) Q = pre.length + d := mv d Q (by rw [List.getElem?_append_right (by rw [T.ll]; exact Nat.le_refl _), T.ll, Nat.sub_self]; rfl) T.Qn
 have mr : er pre.length (ls ++ [Q, r]) r = pre.length + (d + 1) := mv (d + 1) r (by rw [List.getElem?_append_right (by rw [T.ll]; lia), T.ll, Nat.add_sub_cancel_left]; rfl) T.rn
 have gD : ∀ {m : Nat} {o : O}, τ.heap[m]? = some o → τ.heap.getD m .dead = o := fun hm => by rw [List.getD_eq_getElem?_getD, hm]; rfl
 unfold mW
 simp only [e, hD]
 rw [if_pos]
 ·rw [mr]
  congr 2
  rw [List.map_append]
  congr 1
  have l1 : ls.map (fun k => qC (er pre.length (ls ++ [Q, r])) (τ.heap.getD k .dead)) = (List.range d).map (fun j => O.list (aP (zx par j))) := by
   apply List.ext_getElem?
   intro j
   rw [List.getElem?_map, List.getElem?_map]
   by_cases hj : j < d
   ·obtain ⟨m, m1, m2, m3, m4⟩ := T.hls j hj
    rw [m1, List.getElem?_range hj]
    show some (qC _ (τ.heap.getD m .dead)) = _
    rw [gD m2, vH]; rfl
   ·rw [List.getElem?_eq_none (by rw [T.ll]; lia), List.getElem?_eq_none (by rw [List.length_range]; lia)]; rfl
  have l2 : (ls.map V.ref).map (zo (er pre.length (ls ++ [Q, r]))) = eV pre.length d := by
   apply List.ext_getElem?
   intro j
   unfold eV
   rw [List.getElem?_map, List.getElem?_map, List.getElem?_map]
   by_cases hj : j < d
   ·obtain ⟨m, m1, m2, m3, m4⟩ := T.hls j hj
    rw [m1, List.getElem?_range hj]
    have := mv j m (by rw [List.getElem?_append_left (by rw [T.ll]; exact hj), m1]) m3
    show some (V.ref (er _ _ m)) = some (V.ref _)
    rw [this]
   ·rw [List.getElem?_eq_none (by rw [T.ll]; lia), List.getElem?_eq_none (by rw [List.length_range]; lia)]; rfl
  rw [l1]
  congr 1
  simp only [List.map_cons, List.map_nil, gD T.hQ, gD T.res, qC, l2, zo, mQ]
 ·refine ⟨⟨hg, T.take⟩, hDn, ?_⟩
  rw [List.all_eq_true]
  intro k hk
  rw [Bool.and_eq_true, decide_eq_true_eq]
  have inK : ∀ m, m ∈ ls ++ [Q, r] → jO pre.length (ls ++ [Q, r]) m = true := fun m hm => by
   unfold jO
   rw [Bool.or_eq_true]
   exact .inr (by simpa using hm)
  rcases List.mem_append.mp hk with hm | hm
  ·obtain ⟨q1, _, _, j, _, q2⟩ := hmem k hm
   exact ⟨⟨q1, cD q2⟩, by rw [gD q2]; exact tP _ _⟩
  ·simp only [List.mem_cons, List.not_mem_nil, or_false] at hm
   rcases hm with rfl | rfl
   ·refine ⟨⟨T.Qn, cD T.hQ⟩, ?_⟩
    rw [gD T.hQ]
    unfold eB
    rw [List.all_eq_true]
    intro v hv
    obtain ⟨m, hm, rfl⟩ := List.mem_map.mp hv
    exact inK m (List.mem_append_left _ hm)
   ·refine ⟨⟨T.rn, cD T.res⟩, ?_⟩
    rw [gD T.res]
    unfold eB
    rw [List.all_eq_true]
    intro v hv
    simp only [List.mem_cons, List.not_mem_nil, or_false] at hv
    rcases hv with rfl | rfl
    ·rfl
    ·exact inK Q (by simp)
noncomputable def fc (l : List Nat) : PyData := .list (l.map fun (k : Nat) => PyData.int (k : Int))
noncomputable def rx (ds : List (List Nat)) : PyData := .list (ds.map fc)
theorem jV : ∀ l : List Nat, PyData.canLayAll0 (l.map fun (k : Nat) => PyData.int (k : Int)) = true
 | [] => rfl
 | a :: l => by rw [List.map_cons, PyData.canLayAll0, jV l]; rfl
theorem n9 : ∀ ds : List (List Nat), PyData.canLayAll0 (ds.map fc) = true
 | [] => rfl
 | a :: ds => by
  rw [List.map_cons, PyData.canLayAll0, n9 ds]
  unfold fc
  rw [PyData.canLay0, jV]; rfl
theorem jT : ∀ l : List Nat, PyData.depthAll (l.map fun (k : Nat) => PyData.int (k : Int)) ≤ 2
 | [] => by simp [PyData.depthAll]
 | a :: l => by have := jT l; rw [List.map_cons, PyData.depthAll]; simp [PyData.depth]; lia
theorem n0 : ∀ ds : List (List Nat), PyData.depthAll (ds.map fc) ≤ 4
 | [] => by simp [PyData.depthAll]
 | a :: ds => by
  have := n0 ds
  have h := jT a
  rw [List.map_cons, PyData.depthAll]
  unfold fc
  rw [PyData.depth]
  have : PyData.depthAll (ds.map fc) ≤ 4 := this
  unfold fc at this
  lia
theorem lY (ds : List (List Nat)) : SeqAt.shaped (rx ds) = true := by
 unfold SeqAt.shaped rx
 rw [PyData.canLay0, n9, Bool.true_and, decide_eq_true_eq, PyData.depth]
 have := n0 ds
 lia
theorem shaped_ints (l : List Nat) : SeqAt.shaped (fc l) = true := by
 unfold SeqAt.shaped fc
 rw [PyData.canLay0, jV, Bool.true_and, decide_eq_true_eq, PyData.depth]
 have := jT l
 lia
theorem eO {n m : Nat} {H : List O} {l : List Nat} (h : H[m]? = some (.list (aP l))) : dataOf (n + 2) H (.ref m) = some (fc l) := by
 have : (aP l).mapM (dataOf (n + 1) H) = some (l.map fun (k : Nat) => PyData.int (k : Int)) := by
  clear h
  induction l with
  | nil => rfl
  | cons a l ih =>
   show (V.int a :: aP l).mapM _ = _
   rw [List.mapM_cons, ih]; rfl
 exact iG h this
theorem lB {n m : Nat} {H : List O} {ls : List Nat} {ds : List (List Nat)} (h : H[m]? = some (.list (ls.map .ref))) (hl : ls.length = ds.length) (hd : ∀ (j k : Nat) (r : List Nat), ls[j]? = some k → ds[j]? = some r → H[k]? = some (.list (aP r))) : dataOf (n + 3) H (.ref m) = some (rx ds) := by
 have : ∀ (ls : List Nat) (ds : List (List Nat)), ls.length = ds.length → (∀ (j k : Nat) (r : List Nat), ls[j]? = some k → ds[j]? = some r → H[k]? = some (.list (aP r))) → (ls.map V.ref).mapM (dataOf (n + 2) H) = some (ds.map fc) := by
  intro ls
  induction ls with
  | nil => intro ds hl _; cases ds with
   | nil => rfl
   | cons => cases hl
  | cons a ls ih =>
   intro ds hl hd
   cases ds with
   | nil => cases hl
   | cons r ds =>
    rw [List.map_cons, List.mapM_cons, eO (hd 0 a r rfl rfl), ih ds (by simpa using hl) fun j k r' q1 q2 => hd (j + 1) k r' (by simpa using q1) (by simpa using q2)]
    rfl
 exact iG h (this ls ds hl hd)
theorem jB {L : List (Option V)} {j : Nat} (hL : L.length = j) (x0 y : Option V) : (L ++ [x0]).set j y = L ++ [y] := by
 subst hL
 rw [List.set_append_right _ _ (Nat.le_refl _), Nat.sub_self]; rfl
theorem dK {L : List (Option V)} {j : Nat} (hL : L.length = j) (x : Option V) (H : List O) : e8 j ⟨L ++ [x], H⟩ = ⟨L, H⟩ := by
 subst hL
 unfold e8
 simp only [List.take_append_of_le_length (Nat.le_refl _), List.take_length]
theorem eP {j : Nat} {tests : St → zV Bool} {elt : St → zV V} {src : Option (Nat × O)} {P : List O} {L : List (Option V)} (hL : L.length = j) (p : V → Bool) (g : V → V) (hs : ∀ acc, dL src (P ++ [O.list acc]) = true) : ∀ (xs acc : List V) (x0 : Option V), (∀ x ∈ xs, ∀ acc, tests ⟨L ++ [some x], P ++ [.list acc]⟩ = .ok (p x) ⟨L ++ [some x], P ++ [.list acc]⟩) → (∀ x ∈ xs, p x = true → ∀ acc, elt ⟨L ++ [some x], P ++ [.list acc]⟩ = .ok (g x) ⟨L ++ [some x], P ++ [.list acc]⟩) → acc.length + xs.length ≤ 1000 →
  ∃ x1, c8 j tests elt src P.length xs ⟨L ++ [x0], P ++ [.list acc]⟩ = .ok () ⟨L ++ [x1], P ++ [.list (acc ++ (xs.filter p).map g)]⟩
 | [], acc, x0, _, _, _ => ⟨x0, by rw [c8, if_pos (hs acc)]; simp⟩
 | x :: xs, acc, x0, ht, he, hl => by
  simp only [List.length_cons] at hl
  have h1 := ht x (List.mem_cons_self ..) acc
  rw [c8, if_pos (hs acc)]
  unfold ao
  simp only [zV.bind_ok, jB hL]
  rw [h1]
  simp only [zV.calm, zV.bind_ok]
  cases q : p x with
  | false =>
   obtain ⟨x1, r⟩ := eP hL p g hs xs acc (some x) (fun y hy => ht y (List.mem_cons_of_mem _ hy)) (fun y hy => he y (List.mem_cons_of_mem _ hy)) (by lia)
   refine ⟨x1, ?_⟩
   rw [if_neg (by decide), r, List.filter_cons, if_neg (by rw [q]; decide)]
  | true =>
   obtain ⟨x1, r⟩ := eP hL p g hs xs (acc ++ [g x]) (some x) (fun y hy => ht y (List.mem_cons_of_mem _ hy)) (fun y hy => he y (List.mem_cons_of_mem _ hy)) (by simp only [List.length_append, List.length_cons, List.length_nil]; lia)
   refine ⟨x1, ?_⟩
   rw [if_pos rfl, he x (List.mem_cons_self ..) q acc]
   simp only [zV.calm, zV.bind_ok]
   unfold c9
   simp only [iU, sZ]
   rw [if_pos (by show acc.length ≤ 16777216; lia), zV.bind_ok, r, List.filter_cons, if_pos q, List.map_cons, List.append_assoc]
   rfl
theorem sW : ii 0 6 1 = aP (List.range 6) := by kernel_rfl
theorem xd : Builtin.Range.small 0 6 1 = true := by decide +kernel
noncomputable abbrev R6 : St → zV V := aC (aj (aa (V.int 6)) (aa [])) ek
theorem tX {j : Nat} {tests : St → zV Bool} {elt : St → zV V} {L : List (Option V)} {H : List O} (hL : L.length = j) : bI j R6 tests elt ⟨L, H⟩ = (c8 j tests elt none (H ++ [O.range 0 6 1]).length (aP (List.range 6)) ⟨L ++ [none], (H ++ [O.range 0 6 1]) ++ [O.list []]⟩).bind fun _ aq => .ok (.ref (H ++ [O.range 0 6 1]).length) (e8 j aq) := by
 have e : R6 ⟨L, H⟩ = .ok (.ref H.length) ⟨L, H ++ [.range 0 6 1]⟩ := rfl
 unfold bI
 rw [e, zV.bind_ok]
 have hi : bZ (.ref H.length) (H ++ [O.range 0 6 1]) = some (aP (List.range 6), none) := by
  rw [ck (iU ..)]
  unfold jh
  simp only [xd, if_true, sW]
 simp only [hi]
 rw [if_pos hL]
theorem iw (p : V → Bool) (q : Nat → Bool) (h : ∀ k : Nat, p (.int (k : Int)) = q k) : ∀ r : List Nat, (aP r).filter p = aP (r.filter q)
 | [] => rfl
 | a :: r => by
  show (V.int a :: aP r).filter p = _
  rw [List.filter_cons, List.filter_cons, h a, iw p q h r]
  cases q a <;> rfl
theorem jK {r : List Nat} {v : V} (h : v ∈ aP r) : ∃ k ∈ r, v = .int ((k : Nat) : Int) := by
 unfold aP at h
 obtain ⟨k, hk, rfl⟩ := List.mem_map.mp h
 exact ⟨k, hk, rfl⟩
theorem df.app {H : List O} {l : Nat} {par : Nat → Option Nat} (h : df H l par) (X : List O) : df (H ++ X) l par := by
 obtain ⟨ls, h1, h2, h3⟩ := h
 exact ⟨ls, aE h1, h2, fun k hk => by obtain ⟨m, r, a, b⟩ := h3 k hk; exact ⟨m, r, a, aE b⟩⟩
theorem j0.app {H : List O} {l : Nat} {par : Nat → Option Nat} (h : j0 H l par) (X : List O) : j0 (H ++ X) l par := by
 obtain ⟨ls, h1, h2, h3⟩ := h
 exact ⟨ls, aE h1, h2, fun k hk => by obtain ⟨m, c, d, i, j, p, a, b1, b2, b3, b4, b5, b6, b⟩ := h3 k hk; exact ⟨m, c, d, i, j, p, a, b1, b2, b3, b4, b5, b6, aE b⟩⟩
noncomputable def zF (par : Nat → Option Nat) : List Nat := (List.range 6).map (zG par 7)
noncomputable def yU (f : Nat → Nat) : V → V
 | .int k => .int ((f k.toNat : Nat) : Int)
 | v => v
theorem nL (f : Nat → Nat) : ∀ r : List Nat, (aP r).map (yU f) = aP (r.map f)
 | [] => rfl
 | a :: r => by
  show yU f (.int a) :: (aP r).map (yU f) = _
  rw [nL f r]
  show V.int ((f ((a : Nat) : Int).toNat : Nat) : Int) :: _ = _
  rw [Int.toNat_natCast]; rfl
section
variable {par : Nat → Option Nat}
theorem xm (hp : ∀ k p, par k = some p → p < 6) {H : List O} (h : df H 1 par) {v0 v1 v2 v3 v5 : Option V} :
  bI 6 R6 (aa true) (aC (aj (ai 4) (aj (ai 6) (aa []))) (bJ mn)) ⟨[v0, v1, v2, v3, some (.ref 1), v5], H⟩ = .ok (.ref (H.length + 1)) ⟨[v0, v1, v2, v3, some (.ref 1), v5], H ++ [.range 0 6 1, .list (aP (zF par))]⟩ := by
 refine (tX (j := 6) (L := [v0, v1, v2, v3, some (.ref 1), v5]) rfl).trans ?_
 obtain ⟨x1, r⟩ := eP (j := 6) (tests := aa true) (elt := aC (aj (ai 4) (aj (ai 6) (aa []))) (bJ mn)) (src := none) (P := H ++ [.range 0 6 1]) (L := [v0, v1, v2, v3, some (.ref 1), v5]) rfl (fun _ => true) (yU (zG par 7)) (fun _ => rfl) (aP (List.range 6)) [] none (fun x hx acc => rfl) (fun x hx _ acc => by
  obtain ⟨k, hk, rfl⟩ := jK hx
  obtain ⟨τ, q1, q2⟩ := xA ((h.app [.range 0 6 1]).app [.list acc]) hp (List.mem_range.mp hk)
  rw [bX (ms := aj (ai 4) (aj (ai 6) (aa []))) (vs := [.ref 1, .int k]) (ae := ⟨[v0, v1, v2, v3, some (.ref 1), v5] ++ [some (.int k)], H ++ [.range 0 6 1] ++ [.list acc]⟩) rfl]
  refine (cm (m := mn) (vs := [.ref 1, .int k]) (σ := ⟨[v0, v1, v2, v3, some (.ref 1), v5] ++ [some (.int k)], H ++ [O.range 0 6 1] ++ [O.list acc]⟩) q1).trans ?_
  rw [q2]
  show _ = zV.ok (V.int ((zG par 7 ((k : Nat) : Int).toNat : Nat) : Int)) _
  rw [Int.toNat_natCast]) (by rw [eW, List.length_range]; decide)
 rw [r, zV.bind_ok, dK (j := 6) (L := [v0, v1, v2, v3, some (.ref 1), v5]) rfl, show (aP (List.range 6)).filter (fun _ => true) = aP (List.range 6) from rfl, nL, List.nil_append, List.length_append, List.append_assoc]
 rfl
noncomputable abbrev t9 : St → zV V := (bI 7 R6 (aB (aW CmpOp.Eq (bp br (ai 5) (ai 7)) (ai 6))) (ai 7))
theorem xi {v0 v1 v2 v3 v4 : Option V} {e dd : Nat} {H : List O} (h : H[e]? = some (.list (aP (zF par)))) :
  t9 ⟨[v0, v1, v2, v3, v4, some (.ref e), some (.int dd)], H⟩ = .ok (.ref (H.length + 1)) ⟨[v0, v1, v2, v3, v4, some (.ref e), some (.int dd)], H ++ [.range 0 6 1, .list (aP (zx par dd))]⟩ := by
 refine (tX (j := 7) (L := [v0, v1, v2, v3, v4, some (.ref e), some (.int dd)]) rfl).trans ?_
 obtain ⟨x1, r⟩ := eP (j := 7) (tests := aB (aW CmpOp.Eq (bp br (ai 5) (ai 7)) (ai 6))) (elt := ai 7) (src := none) (P := H ++ [.range 0 6 1]) (L := [v0, v1, v2, v3, v4, some (.ref e), some (.int dd)]) rfl (fun v => match v with | .int k => decide (zG par 7 k.toNat = dd) | _ => false) id (fun _ => rfl) (aP (List.range 6)) [] none (fun x hx acc => by
  obtain ⟨k, hk, rfl⟩ := jK hx
  have hk6 := List.mem_range.mp hk
  have q : bp br (ai 5) (ai 7) ⟨[v0, v1, v2, v3, v4, some (.ref e), some (.int dd)] ++ [some (.int k)], H ++ [.range 0 6 1] ++ [.list acc]⟩ = .ok (.int (zG par 7 k : Nat)) ⟨[v0, v1, v2, v3, v4, some (.ref e), some (.int dd)] ++ [some (.int k)], H ++ [.range 0 6 1] ++ [.list acc]⟩ := by
   refine (bq (aI (v := .ref e) rfl) (aI (v := .int k) rfl)).trans ?_
   refine item_at (xs := aP (zF par)) (aE (aE h)) (by lia) ?_
   unfold aP zF
   rw [List.getElem?_map, List.getElem?_map, List.getElem?_range hk6]; rfl
  refine bM ((bq q (aI (v := .int dd) rfl)).trans ?_)
  rw [eq_int]
  show _ = zV.ok (V.bool (decide (zG par 7 ((k : Nat) : Int).toNat = dd))) _
  rw [Int.toNat_natCast]
  congr 2
  by_cases e : zG par 7 k = dd
  ·rw [e, beq_self_eq_true, decide_eq_true rfl]
  ·rw [decide_eq_false e, beq_eq_false_iff_ne]; lia) (fun x hx _ acc => rfl) (by rw [eW, List.length_range]; decide)
 rw [r, zV.bind_ok, dK (j := 7) (L := [v0, v1, v2, v3, v4, some (.ref e), some (.int dd)]) rfl, List.map_id, iw _ (fun k => decide (zG par 7 k = dd)) (fun k => by simp only [Int.toNat_natCast]), List.nil_append, List.length_append, List.append_assoc]
 rfl
theorem qy {v0 v1 v2 v3 v4 : Option V} {e : Nat} {P : List O} (h : P[e]? = some (.list (aP (zF par)))) : ∀ (ks : List Nat) (ps : List (Nat × List Nat)) (Z : List O) (x0 : Option V), (∀ p ∈ ps, ∃ i, p.1 = P.length + 1 + i ∧ Z[i]? = some (.list (aP p.2))) → Z.all noDict = true → ps.length + ks.length ≤ 100 →
  ∃ (qs : List (Nat × List Nat)) (Z' : List O) (x1 : Option V), c8 6 (aa true) t9 none P.length (aP ks) ⟨[v0, v1, v2, v3, v4, some (.ref e)] ++ [x0], P ++ (.list (ps.map fun p => V.ref p.1) :: Z)⟩ = .ok () ⟨[v0, v1, v2, v3, v4, some (.ref e)] ++ [x1], P ++ (.list (qs.map fun p => V.ref p.1) :: Z')⟩ ∧ (∀ p ∈ qs, ∃ i, p.1 = P.length + 1 + i ∧ Z'[i]? = some (.list (aP p.2))) ∧ Z'.all noDict = true ∧ qs.map (·.2) = ps.map (·.2) ++ ks.map (zx par)
 | [], ps, Z, x0, h1, h2, _ => ⟨ps, Z, x0, by show (if dL none (P ++ (O.list (ps.map fun p => V.ref p.1) :: Z)) = true then _ else _) = _; rw [if_pos (show dL none (P ++ (O.list (ps.map fun p => V.ref p.1) :: Z)) = true from rfl)], h1, h2, by simp⟩
 | k :: ks, ps, Z, x0, h1, h2, h3 => by
  simp only [List.length_cons] at h3
  have hlen : (P ++ (O.list (ps.map fun p => V.ref p.1) :: Z)).length = P.length + 1 + Z.length := by rw [List.length_append, List.length_cons]; lia
  have e1 := xi (par := par) (v0 := v0) (v1 := v1) (v2 := v2) (v3 := v3) (v4 := v4) (e := e) (dd := k) (H := P ++ (.list (ps.map fun p => V.ref p.1) :: Z)) (aE h)
  rw [hlen] at e1
  obtain ⟨qs, Z', x1, r, r1, r2, r3⟩ := qy h ks (ps ++ [(P.length + 1 + Z.length + 1, zx par k)]) (Z ++ [.range 0 6 1, .list (aP (zx par k))]) (some (.int k)) (fun p hp => by
   rcases List.mem_append.mp hp with hp | hp
   ·obtain ⟨i, q1, q2⟩ := h1 p hp
    exact ⟨i, q1, aE q2⟩
   ·simp at hp; subst hp
    exact ⟨Z.length + 1, by lia, rU ..⟩) (by rw [List.all_append, h2]; rfl) (by simp only [List.length_append, List.length_cons, List.length_nil]; lia)
  refine ⟨qs, Z', x1, ?_, r1, r2, ?_⟩
  ·show c8 _ _ _ _ _ (.int k :: aP ks) _ = _
   rw [c8, if_pos (show dL none (P ++ (O.list (ps.map fun p => V.ref p.1) :: Z)) = true from rfl)]
   unfold ao
   simp only [zV.bind_ok, jB (j := 6) (L := [v0, v1, v2, v3, v4, some (.ref e)]) rfl]
   rw [show aa true ⟨[v0, v1, v2, v3, v4, some (.ref e)] ++ [some (V.int k)], P ++ (O.list (ps.map fun p => V.ref p.1) :: Z)⟩ = .ok true ⟨[v0, v1, v2, v3, v4, some (.ref e)] ++ [some (V.int k)], P ++ (O.list (ps.map fun p => V.ref p.1) :: Z)⟩ from rfl]
   simp only [zV.calm, zV.bind_ok, if_true]
   rw [show [v0, v1, v2, v3, v4, some (V.ref e)] ++ [some (V.int k)] = [v0, v1, v2, v3, v4, some (V.ref e), some (V.int k)] from rfl, e1]
   simp only [zV.calm, zV.bind_ok]
   have hat : ((P ++ (O.list (ps.map fun p => V.ref p.1) :: Z)) ++ [.range 0 6 1, .list (aP (zx par k))])[P.length]? = some (.list (ps.map fun p => V.ref p.1)) := aE (iU ..)
   unfold c9
   simp only [hat]
   rw [if_pos (by rw [List.length_map]; show ps.length ≤ 16777216; lia), zV.bind_ok, List.append_assoc, List.cons_append, sZ]
   rw [List.map_append] at r
   exact r
  ·rw [r3, List.map_append, List.append_assoc]; rfl
theorem xl {v0 v1 v2 v3 v4 : Option V} {e : Nat} {H : List O} (h : H[e]? = some (.list (aP (zF par)))) :
  ∃ (ps : List (Nat × List Nat)) (Z : List O), bI 6 R6 (aa true) t9 ⟨[v0, v1, v2, v3, v4, some (.ref e)], H⟩ = .ok (.ref (H.length + 1)) ⟨[v0, v1, v2, v3, v4, some (.ref e)], (H ++ [.range 0 6 1]) ++ (.list (ps.map fun p => V.ref p.1) :: Z)⟩ ∧ (∀ p ∈ ps, ∃ i, p.1 = (H ++ [O.range 0 6 1]).length + 1 + i ∧ Z[i]? = some (.list (aP p.2))) ∧ Z.all noDict = true ∧ ps.map (·.2) = (List.range 6).map (zx par) := by
 obtain ⟨ps, Z, x1, r, r1, r2, r3⟩ := qy (par := par) (v0 := v0) (v1 := v1) (v2 := v2) (v3 := v3) (v4 := v4) (aE (X := [O.range 0 6 1]) h) (List.range 6) [] [] none (fun p hp => by cases hp) rfl (by rw [List.length_range]; decide)
 refine ⟨ps, Z, ?_, r1, r2, r3⟩
 refine (tX (j := 6) (L := [v0, v1, v2, v3, v4, some (.ref e)]) rfl).trans ?_
 have r' : c8 6 (aa true) t9 none (H ++ [O.range 0 6 1]).length (aP (List.range 6)) ⟨[v0, v1, v2, v3, v4, some (.ref e)] ++ [none], (H ++ [.range 0 6 1]) ++ [.list []]⟩ = _ := r
 rw [r', zV.bind_ok, dK (j := 6) (L := [v0, v1, v2, v3, v4, some (.ref e)]) rfl, List.length_append]
 rfl
end
theorem ne_data {a b : Nat} {D D' : PyData} {σ : St} (ha : dataOf 8 σ.heap (.ref a) = some D) (hb : dataOf 8 σ.heap (.ref b) = some D') (hs : SeqAt.shaped D = true) (hs' : SeqAt.shaped D' = true) : j3 .NotEq (.ref a) (.ref b) σ = .ok (.bool (!PyData.eqv D D')) σ := by
 show mY σ ((zE σ.heap (.ref a) (.ref b)).map (!·)) = _
 unfold zE
 rw [ha, hb]
 simp only [Option.bind_some, hs, hs', Bool.and_self, if_true]
 rfl
theorem wt (r : List Nat) : PyData.eqv (fc r) (fc []) = r.isEmpty := by
 cases r <;> rfl
theorem ne_bool (a b : Bool) (σ : St) : j3 .NotEq (.bool a) (.bool b) σ = .ok (.bool (!(a == b))) σ := by
 cases a <;> cases b <;> rfl
noncomputable abbrev TC3 : St → zV Bool := aB (aW CmpOp.NotEq (ai 6) (bu (aa [])))
section
variable {par : Nat → Option Nat}
theorem l7 {L : List (Option V)} (hL : L.length = 6) {b : Nat} {H : List O} {items : List V} (hb : H[b]? = some (.list items)) : ∀ (ps : List (Nat × List Nat)) (acc : List V) (Z : List O) (x0 : Option V), (∀ p ∈ ps, H[p.1]? = some (.list (aP p.2))) → Z.all noDict = true → acc.length + ps.length ≤ 100 →
  ∃ (Z' : List O) (x1 : Option V), c8 6 TC3 (ai 6) (some (b, .list items)) H.length (ps.map fun p => V.ref p.1) ⟨L ++ [x0], H ++ (.list acc :: Z)⟩ = .ok () ⟨L ++ [x1], H ++ (.list (acc ++ (ps.filter fun p => !p.2.isEmpty).map fun p => V.ref p.1) :: Z')⟩ ∧ Z'.all noDict = true
 | [], acc, Z, x0, _, h2, _ => ⟨Z, x0, by rw [List.map_nil, c8, if_pos (bC (aE hb))]; simp, h2⟩
 | p :: ps, acc, Z, x0, h1, h2, h3 => by
  simp only [List.length_cons] at h3
  have hl6 : (L ++ [some (V.ref p.1)])[6]? = some (some (.ref p.1)) := by rw [List.getElem?_append_right (by lia), hL]; rfl
  have e1 : ai 6 ⟨L ++ [some (V.ref p.1)], H ++ (.list acc :: Z)⟩ = .ok (.ref p.1) ⟨L ++ [some (V.ref p.1)], H ++ (.list acc :: Z)⟩ := aI hl6
  have e2 := cP (ms := aa []) (vs := []) (σ := ⟨L ++ [some (V.ref p.1)], H ++ (.list acc :: Z)⟩) (ae := ⟨L ++ [some (V.ref p.1)], H ++ (.list acc :: Z)⟩) rfl (by show 0 ≤ 1000; decide)
  have d1 : dataOf 8 ((H ++ (.list acc :: Z)) ++ [.list []]) (.ref p.1) = some (fc p.2) := eO (aE (aE (h1 p (List.mem_cons_self ..))))
  have d2 : dataOf 8 ((H ++ (.list acc :: Z)) ++ [.list []]) (.ref (H ++ (.list acc :: Z)).length) = some (fc []) := eO (l := []) (iU ..)
  have t : TC3 ⟨L ++ [some (V.ref p.1)], H ++ (.list acc :: Z)⟩ = .ok (!p.2.isEmpty) ⟨L ++ [some (V.ref p.1)], H ++ (.list acc :: (Z ++ [.list []]))⟩ := by
   refine bM ((bq e1 e2).trans ?_)
   have := ne_data (σ := ⟨L ++ [some (V.ref p.1)], (H ++ (.list acc :: Z)) ++ [.list []]⟩) d1 d2 (shaped_ints _) (shaped_ints _)
   rw [wt] at this
   refine this.trans ?_
   rw [List.append_assoc, List.cons_append]
  rw [List.map_cons, c8, if_pos (bC (aE hb))]
  unfold ao
  simp only [zV.bind_ok, jB hL]
  rw [t]
  simp only [zV.calm, zV.bind_ok]
  have hz : (Z ++ [O.list []]).all noDict = true := by rw [List.all_append, h2]; rfl
  cases q : p.2.isEmpty with
  | true =>
   obtain ⟨Z', x1, r, r2⟩ := l7 hL hb ps acc (Z ++ [.list []]) (some (.ref p.1)) (fun z hz => h1 z (List.mem_cons_of_mem _ hz)) hz (by lia)
   refine ⟨Z', x1, ?_, r2⟩
   rw [Bool.not_true, if_neg (by decide), r, List.filter_cons, if_neg (by rw [q]; decide)]
  | false =>
   obtain ⟨Z', x1, r, r2⟩ := l7 hL hb ps (acc ++ [.ref p.1]) (Z ++ [.list []]) (some (.ref p.1)) (fun z hz => h1 z (List.mem_cons_of_mem _ hz)) hz (by simp only [List.length_append, List.length_cons, List.length_nil]; lia)
   refine ⟨Z', x1, ?_, r2⟩
   rw [Bool.not_false, if_pos rfl]
   rw [show ai 6 ⟨L ++ [some (V.ref p.1)], H ++ (.list acc :: (Z ++ [.list []]))⟩ = .ok (.ref p.1) ⟨L ++ [some (V.ref p.1)], H ++ (.list acc :: (Z ++ [.list []]))⟩ from aI hl6]
   simp only [zV.calm, zV.bind_ok]
   unfold c9
   simp only [iU, sZ]
   rw [if_pos (by show acc.length ≤ 16777216; lia), zV.bind_ok, r, List.filter_cons, if_pos (by rw [q]; rfl), List.map_cons, List.append_assoc]
   rfl
theorem xk {L : List (Option V)} (hL : L.length = 6) {b : Nat} (h3 : L[3]? = some (some (.ref b))) {H : List O} {ps : List (Nat × List Nat)} (hb : H[b]? = some (.list (ps.map fun p => V.ref p.1))) (hps : ∀ p ∈ ps, H[p.1]? = some (.list (aP p.2))) (hl : ps.length ≤ 100) :
  ∃ Z : List O, bI 6 (ai 3) TC3 (ai 6) ⟨L, H⟩ = .ok (.ref H.length) ⟨L, H ++ (.list ((ps.filter fun p => !p.2.isEmpty).map fun p => V.ref p.1) :: Z)⟩ ∧ Z.all noDict = true := by
 obtain ⟨Z, x1, r, r2⟩ := l7 hL hb ps [] [] none hps rfl (by simpa using hl)
 refine ⟨Z, ?_, r2⟩
 unfold bI
 rw [aI h3, zV.bind_ok]
 have hi : bZ (.ref b) H = some (ps.map fun p => V.ref p.1, some (b, .list (ps.map fun p => V.ref p.1))) := by
  exact ck hb
 simp only [hi]
 rw [if_pos hL, r, zV.bind_ok, dK hL, List.nil_append]
theorem mF (hp : ∀ k p, par k = some p → p < 6) {d : Nat} (hd : d ≤ 6) (h1 : ∀ j, j < d → zx par j ≠ []) (h2 : zx par d = []) : ((List.range 6).map (zx par)).filter (fun r => !r.isEmpty) = (List.range d).map (zx par) := by
 have h3 : ∀ m, d + m ≤ 6 → zx par (d + m) = [] := by
  intro m
  induction m with
  | zero => exact fun _ => h2
  | succ m ih => exact fun hm => uu (d := d + m) hp (by lia) (ih (by lia))
 have e : List.range 6 = List.range d ++ (List.range (6 - d)).map (d + ·) := by rw [← List.range_add, show d + (6 - d) = 6 by lia]
 rw [e, List.map_append, List.filter_append]
 have a : ((List.range d).map (zx par)).filter (fun r => !r.isEmpty) = (List.range d).map (zx par) := by
  rw [List.filter_eq_self]
  intro r hr
  obtain ⟨j, hj, rfl⟩ := List.mem_map.mp hr
  have := h1 j (List.mem_range.mp hj)
  cases q : zx par j with
  | nil => exact absurd q this
  | cons => rfl
 have b : (((List.range (6 - d)).map (d + ·)).map (zx par)).filter (fun r => !r.isEmpty) = [] := by
  rw [List.filter_eq_nil_iff]
  intro r hr
  obtain ⟨j, hj, rfl⟩ := List.mem_map.mp hr
  obtain ⟨m, hm, rfl⟩ := List.mem_map.mp hj
  have := List.mem_range.mp hm
  rw [h3 m (by lia)]; decide
 rw [a, b, List.append_nil]
theorem fold_max : ∀ (ns : List Int) (n : Int), (ns.foldl (fun a b => if b > a then b else a) n = n ∨ ns.foldl (fun a b => if b > a then b else a) n ∈ ns) ∧ n ≤ ns.foldl (fun a b => if b > a then b else a) n ∧ ∀ x ∈ ns, x ≤ ns.foldl (fun a b => if b > a then b else a) n
 | [], n => ⟨.inl rfl, Int.le_refl _, fun x h => by cases h⟩
 | a :: ns, n => by
  rw [List.foldl_cons]
  obtain ⟨h1, h2, h3⟩ := fold_max ns (if a > n then a else n)
  have q1 : n ≤ (if a > n then a else n) := by split <;> lia
  have q2 : a ≤ (if a > n then a else n) := by split <;> lia
  refine ⟨?_, by lia, fun x hx => ?_⟩
  ·rcases h1 with h | h
   ·by_cases e : a > n
    ·rw [if_pos e] at h ⊢; exact .inr (by rw [h]; exact List.mem_cons_self ..)
    ·rw [if_neg e] at h ⊢; exact .inl h
   ·exact .inr (List.mem_cons_of_mem _ h)
  ·rcases List.mem_cons.mp hx with rfl | hx
   ·lia
   ·exact h3 x hx
theorem vF {L : List (Option V)} {e : Nat} {H : List O} (h5 : L[5]? = some (some (.ref e))) (h : H[e]? = some (.list (aP (zF par)))) {ring : Bool} (hr : (ring = true ∧ ∃ k, k < 6 ∧ zG par 7 k = 7) ∨ (ring = false ∧ ∀ k, k < 6 → zG par 7 k ≤ 5)) :
  aW CmpOp.Eq (aC (aj (ai 5) (aa [])) tz) (aa (V.int 7)) ⟨L, H⟩ = .ok (.bool ring) ⟨L, H⟩ := by
 have hi : fM (aP (zF par)) = some (((zG par 7 0 : Nat) : Int) :: [((zG par 7 1 : Nat) : Int), ((zG par 7 2 : Nat) : Int), ((zG par 7 3 : Nat) : Int), ((zG par 7 4 : Nat) : Int), ((zG par 7 5 : Nat) : Int)]) := by
  rw [jN]; rfl
 obtain ⟨m1, m2, m3⟩ := fold_max [((zG par 7 1 : Nat) : Int), ((zG par 7 2 : Nat) : Int), ((zG par 7 3 : Nat) : Int), ((zG par 7 4 : Nat) : Int), ((zG par 7 5 : Nat) : Int)] ((zG par 7 0 : Nat) : Int)
 have e1 : aC (aj (ai 5) (aa [])) tz ⟨L, H⟩ = .ok (.int ([((zG par 7 1 : Nat) : Int), ((zG par 7 2 : Nat) : Int), ((zG par 7 3 : Nat) : Int), ((zG par 7 4 : Nat) : Int), ((zG par 7 5 : Nat) : Int)].foldl (fun a b => if b > a then b else a) ((zG par 7 0 : Nat) : Int))) ⟨L, H⟩ := by
  rw [bX (aX (aI h5) (ms := aa []) rfl)]
  unfold tz
  rw [gc_k, show ([] : List V).isEmpty = true from rfl, cond_true, yV, iT h, hi]; rfl
 refine (bq e1 (mr := aa (V.int 7)) rfl).trans ?_
 rw [eq_int]
 congr 2
 generalize [((zG par 7 1 : Nat) : Int), ((zG par 7 2 : Nat) : Int), ((zG par 7 3 : Nat) : Int), ((zG par 7 4 : Nat) : Int), ((zG par 7 5 : Nat) : Int)].foldl (fun a b => if b > a then b else a) ((zG par 7 0 : Nat) : Int) = mx at *
 have hall : ∀ k, k < 6 → ((zG par 7 k : Nat) : Int) ≤ mx := zn m2 (m3 _ (by simp)) (m3 _ (by simp)) (m3 _ (by simp)) (m3 _ (by simp)) (m3 _ (by simp))
 have hone : ∃ k, k < 6 ∧ mx = ((zG par 7 k : Nat) : Int) := by
  simp only [List.mem_cons, List.not_mem_nil, or_false] at m1
  rcases m1 with h | h | h | h | h | h
  ·exact ⟨0, by lia, h⟩
  ·exact ⟨1, by lia, h⟩
  ·exact ⟨2, by lia, h⟩
  ·exact ⟨3, by lia, h⟩
  ·exact ⟨4, by lia, h⟩
  ·exact ⟨5, by lia, h⟩
 obtain ⟨k0, q0, q1⟩ := hone
 rcases hr with ⟨rfl, k, hk, e⟩ | ⟨rfl, hk⟩
 ·have := hall k hk
  have := uE (par := par) 7 k0
  rw [beq_iff_eq]; lia
 ·have := hk k0 q0
  rw [beq_eq_false_iff_ne]; lia
theorem ro (o : Option Nat) (c d : Int) (x : PySem.Str) (p : Int) : gv (ev (fk o) c d x p) = true := by cases o <;> rfl
theorem sA {L : List (Option V)} (hL : L.length = 6) (h4 : L[4]? = some (some (.ref 1))) {H : List O} (h : j0 H 1 par) (hd : H.all noDict = true) :
  bI 6 R6 (uq (aB (aC (aj (bp br (ai 4) (ai 6)) (aj (ai 6) (aa []))) (bR jL)))) (ai 6) ⟨L, H⟩ = .ok (.ref (H.length + 1)) ⟨L, H ++ [.range 0 6 1, .list []]⟩ := by
 refine (tX hL).trans ?_
 obtain ⟨x1, r⟩ := eP (j := 6) (tests := uq (aB (aC (aj (bp br (ai 4) (ai 6)) (aj (ai 6) (aa []))) (bR jL)))) (elt := ai 6) (src := none) (P := H ++ [.range 0 6 1]) (L := L) hL (fun _ => false) id (fun _ => rfl) (aP (List.range 6)) [] none (fun x hx acc => by
  obtain ⟨k, hk, rfl⟩ := jK hx
  have hk6 := List.mem_range.mp hk
  obtain ⟨ls, f1, f2, f3⟩ := h
  obtain ⟨m, c, d, i, j, p, g1, g2, g3, g4, g5, g6, g7, g8⟩ := f3 k hk6
  have l6 : (L ++ [some (V.int k)])[6]? = some (some (.int k)) := by rw [List.getElem?_append_right (by lia), hL]; rfl
  have l4 : (L ++ [some (V.int k)])[4]? = some (some (.ref 1)) := by rw [List.getElem?_append_left (by lia), h4]
  have q1 : bp br (ai 4) (ai 6) ⟨L ++ [some (.int k)], H ++ [.range 0 6 1] ++ [.list acc]⟩ = .ok (.ref m) ⟨L ++ [some (.int k)], H ++ [.range 0 6 1] ++ [.list acc]⟩ := by
   refine (bq (aI l4) (aI l6)).trans ?_
   exact item_at (aE (aE f1)) (by lia) (by rw [List.getElem?_map, g1]; rfl)
  obtain ⟨τ, z1, z2⟩ := xB g4 g5 (par := fk (par k)) (by cases par k <;> rfl) g2 g3 hk6 g6 g7
  have hm : (H ++ [O.range 0 6 1] ++ [O.list acc])[m]? = some (ev (fk (par k)) c d (pc i ++ pc j) p) := aE (aE g8)
  have hz : zj [.ref m, .int k] (H ++ [O.range 0 6 1] ++ [O.list acc]) = some ([.ref 0, .int k], [ev (fk (par k)) c d (pc i ++ pc j) p]) := by
   show (match (H ++ [O.range 0 6 1] ++ [O.list acc])[m]? with
    | some o => if gv o then some ([V.ref m, .int k].map (zo fun _ => 0), [o]) else none
    | none => none) = _
   simp only [hm, ro, if_true]
   rfl
  have hnd : (H ++ [O.range 0 6 1] ++ [O.list acc]).all noDict = true := by rw [List.all_append, List.all_append, hd]; rfl
  have q2 : aC (aj (bp br (ai 4) (ai 6)) (aj (ai 6) (aa []))) (bR jL) ⟨L ++ [some (.int k)], H ++ [.range 0 6 1] ++ [.list acc]⟩ = .ok (.bool true) ⟨L ++ [some (.int k)], H ++ [.range 0 6 1] ++ [.list acc]⟩ := by
   rw [bX (aX q1 (aX (aI l6) (ms := aa []) rfl))]
   exact fT (σ := ⟨L ++ [some (.int k)], H ++ [.range 0 6 1] ++ [.list acc]⟩) hz hnd z1 z2 rfl
  unfold uq
  rw [bM q2]
  rfl) (fun x hx q acc => by cases q) (by rw [eW, List.length_range]; decide)
 rw [r, zV.bind_ok, dK hL, show (aP (List.range 6)).filter (fun _ => false) = [] from rfl, List.length_append, List.append_assoc]
 rfl
end
theorem rj {p : Nat → Bool} {H : List O} (h : H.all (eB p) = true) : H.all noDict = true := by
 rw [List.all_eq_true] at h ⊢
 intro o ho
 have := h o ho
 cases o <;> first | rfl | cases this
theorem or_false {t u : St → zV Bool} {σ ae aq : St} (h : t σ = .ok false ae) (h' : u ae = .ok false aq) : zq t u σ = .ok false aq := by
 unfold zq zB
 rw [h, zV.bind_ok, if_neg (by decide), h']
noncomputable abbrev S319 : St → zV F := (zB (zq (aB (aW CmpOp.NotEq (ai 1) (aW CmpOp.Eq (aC (aj (ai 5) (aa [])) tz) (aa (V.int 7))))) (zq (aB (aW CmpOp.NotEq (ai 2) (bI 6 (ai 3) TC3 (ai 6)))) (aa false))) (dh (aa (V.bool false))) (aa F.next))
noncomputable abbrev Z319 : St → zV F := (dh (aW CmpOp.Eq (bI 6 R6 (uq (aB (aC (aj (bp br (ai 4) (ai 6)) (aj (ai 6) (aa []))) (bR jL)))) (ai 6)) (bu (aa []))))
theorem xz (z : Addr) (s : List Int) (hs : s.length ≤ 63) : ∃ τ, vY z (cb s) [.top z] [] = .ok (.bool true) τ := by
 obtain ⟨τ0, r0, hF, hgood⟩ := xE z s hs
 have hp : ∀ k p, oV (ey s) k = some p → p < 6 := fun k p h => s0 h
 generalize oV (ey s) = par at hF hp
 have a1 : an (aC (aj (ai 0) (aa [])) (bJ (o9 z (cb s)))) (ao 4) ⟨[some (.top z), none, none, none, none, none], []⟩ = .ok .next ⟨[some (.top z), none, none, none, some (.ref 1), none], τ0.heap⟩ := by
  refine bx (i := 4) (v := .ref 1) (ae := ⟨[some (.top z), none, none, none, none, none], τ0.heap⟩) ?_
  rw [bX (aX (aI (v := .top z) rfl) (ms := aa []) rfl)]
  exact cm (m := o9 z (cb s)) r0
 obtain ⟨ring, d, e2, d6, hne, hlast, hring⟩ := rz hF.at hp hgood [some (.top z), none, none, none, some (.ref 1), none]
 generalize hG : τ0.heap ++ ((List.range d).map (fun j => O.list (aP (zx par j))) ++ [.list (eV τ0.heap.length d), .tup [.bool ring, .ref (τ0.heap.length + d)]]) = G at e2
 have rl : ((List.range d).map (fun j => O.list (aP (zx par j)))).length = d := by rw [List.length_map, List.length_range]
 have g1 : G[τ0.heap.length + (d + 1)]? = some (.tup [.bool ring, .ref (τ0.heap.length + d)]) := by
  rw [← hG, List.getElem?_append_right (Nat.le_add_right _ _), Nat.add_sub_cancel_left, List.getElem?_append_right (by rw [rl]; lia), rl, Nat.add_sub_cancel_left]; rfl
 have g2 : G[τ0.heap.length + d]? = some (.list (eV τ0.heap.length d)) := by
  rw [← hG, List.getElem?_append_right (Nat.le_add_right _ _), Nat.add_sub_cancel_left, List.getElem?_append_right (by rw [rl]; exact Nat.le_refl _), rl, Nat.sub_self]; rfl
 have g3 : ∀ j, j < d → G[τ0.heap.length + j]? = some (.list (aP (zx par j))) := fun j hj => by
  rw [← hG, List.getElem?_append_right (Nat.le_add_right _ _), Nat.add_sub_cancel_left, List.getElem?_append_left (by rw [rl]; exact hj), List.getElem?_map, List.getElem?_range hj]; rfl
 have gF : j0 G 1 par := hG ▸ hF.app _
 have gd : G.all noDict = true := by
  rw [← hG, List.all_append, rj hgood, List.all_append, Bool.true_and, Bool.and_eq_true]
  refine ⟨?_, rfl⟩
  rw [List.all_eq_true]
  intro o ho
  obtain ⟨j, _, rfl⟩ := List.mem_map.mp ho
  rfl
 have a2 : an (aC (aj (ai 4) (aa [])) (mW o8)) (pJ [ao 1, ao 2]) ⟨[some (.top z), none, none, none, some (.ref 1), none], τ0.heap⟩ = .ok .next ⟨[some (.top z), some (.bool ring), some (.ref (τ0.heap.length + d)), none, some (.ref 1), none], G⟩ := by
  refine bY ((bX (aX (aI (v := .ref 1) rfl) (ms := aa []) rfl)).trans e2) ?_
  exact (wn g1).trans rfl
 have a3 := bx (i := 5) (xm hp gF.at (v0 := some (.top z)) (v1 := some (.bool ring)) (v2 := some (.ref (τ0.heap.length + d))) (v3 := none) (v5 := none))
 simp only [List.set_cons_succ, List.set_cons_zero] at a3
 have h1 : (G ++ [.range 0 6 1, .list (aP (zF par))])[G.length + 1]? = some (.list (aP (zF par))) := rU ..
 obtain ⟨ps, Z, c2, c3, c4, c5⟩ := xl (v0 := some (.top z)) (v1 := some (.bool ring)) (v2 := some (.ref (τ0.heap.length + d))) (v3 := none) (v4 := some (.ref 1)) h1
 have a4 := bx (i := 3) c2
 simp only [List.set_cons_succ, List.set_cons_zero] at a4
 generalize hK : (G ++ [O.range 0 6 1, .list (aP (zF par))] ++ [O.range 0 6 1]) ++ (O.list (ps.map fun p => V.ref p.1) :: Z) = K at a4
 have kG : ∀ {l : Nat} {o : O}, G[l]? = some o → K[l]? = some o := fun h => by
  rw [← hK]; exact aE (aE (aE h))
 have kb : K[(G ++ [O.range 0 6 1, .list (aP (zF par))]).length + 1]? = some (.list (ps.map fun p => V.ref p.1)) := by
  rw [← hK]
  have := iU (G ++ [O.range 0 6 1, .list (aP (zF par))] ++ [O.range 0 6 1]) Z (O.list (ps.map fun p => V.ref p.1))
  rw [List.length_append (bs := [O.range 0 6 1])] at this
  exact this
 have kps : ∀ p ∈ ps, K[p.1]? = some (.list (aP p.2)) := fun p hp' => by
  obtain ⟨i, q1, q2⟩ := c3 p hp'
  rw [← hK, q1, List.getElem?_append_right (by lia), show (G ++ [O.range 0 6 1, .list (aP (zF par))] ++ [O.range 0 6 1]).length + 1 + i - (G ++ [O.range 0 6 1, .list (aP (zF par))] ++ [O.range 0 6 1]).length = i + 1 by lia]
  exact q2
 have kd : K.all noDict = true := by
  simp only [← hK, List.all_append, List.all_cons, List.all_nil, gd, c4]; rfl
 have k1 : K[G.length + 1]? = some (.list (aP (zF par))) := by
  rw [← hK]; exact aE (aE h1)
 have hpl : ps.length = 6 := by
  have := congrArg List.length c5
  rw [List.length_map, List.length_map, List.length_range] at this; exact this
 obtain ⟨Z2, b1, b2⟩ := xk (L := [some (.top z), some (.bool ring), some (.ref (τ0.heap.length + d)), some (.ref ((G ++ [O.range 0 6 1, .list (aP (zF par))]).length + 1)), some (.ref 1), some (.ref (G.length + 1))]) rfl rfl kb kps (by lia)
 have t1 : aB (aW CmpOp.NotEq (ai 1) (aW CmpOp.Eq (aC (aj (ai 5) (aa [])) tz) (aa (V.int 7)))) ⟨[some (.top z), some (.bool ring), some (.ref (τ0.heap.length + d)), some (.ref ((G ++ [O.range 0 6 1, .list (aP (zF par))]).length + 1)), some (.ref 1), some (.ref (G.length + 1))], K⟩ = .ok false ⟨[some (.top z), some (.bool ring), some (.ref (τ0.heap.length + d)), some (.ref ((G ++ [O.range 0 6 1, .list (aP (zF par))]).length + 1)), some (.ref 1), some (.ref (G.length + 1))], K⟩ := by
  refine bM ((bq (aI (v := .bool ring) rfl) (vF rfl k1 hring)).trans ?_)
  rw [ne_bool, beq_self_eq_true]; rfl
 have hrow : (ps.filter fun p => !p.2.isEmpty).map (·.2) = (List.range d).map (zx par) := by
  have := mF hp d6 hne hlast
  rw [← c5, List.filter_map] at this
  exact this
 have D1 : dataOf 8 (K ++ (.list ((ps.filter fun p => !p.2.isEmpty).map fun p => V.ref p.1) :: Z2)) (.ref (τ0.heap.length + d)) = some (rx ((List.range d).map (zx par))) := by
  refine lB (ls := (List.range d).map (τ0.heap.length + ·)) ?_ (by rw [List.length_map, List.length_map]) (fun j k r q1 q2 => ?_)
  ·rw [aE (kG g2)]
   unfold eV
   rw [List.map_map]; rfl
  ·have hj : j < d := by
    have := (List.getElem?_eq_some_iff.mp q1).1
    rw [List.length_map, List.length_range] at this; exact this
   rw [List.getElem?_map, List.getElem?_range hj] at q1 q2
   cases q1; cases q2
   exact aE (kG (g3 j hj))
 have D2 : dataOf 8 (K ++ (.list ((ps.filter fun p => !p.2.isEmpty).map fun p => V.ref p.1) :: Z2)) (.ref K.length) = some (rx ((List.range d).map (zx par))) := by
  rw [← hrow]
  refine lB (ls := (ps.filter fun p => !p.2.isEmpty).map (·.1)) ?_ (by rw [List.length_map, List.length_map]) (fun j k r q1 q2 => ?_)
  ·rw [iU, List.map_map]; rfl
  ·rw [List.getElem?_map] at q1 q2
   cases q : (ps.filter fun p => !p.2.isEmpty)[j]? with
   | none => rw [q] at q1; cases q1
   | some p =>
    rw [q] at q1 q2
    cases q1; cases q2
    exact aE (kps p ((List.mem_filter.mp (List.mem_of_getElem? q)).1))
 have t2 : aB (aW CmpOp.NotEq (ai 2) (bI 6 (ai 3) TC3 (ai 6))) ⟨[some (.top z), some (.bool ring), some (.ref (τ0.heap.length + d)), some (.ref ((G ++ [O.range 0 6 1, .list (aP (zF par))]).length + 1)), some (.ref 1), some (.ref (G.length + 1))], K⟩ = .ok false ⟨[some (.top z), some (.bool ring), some (.ref (τ0.heap.length + d)), some (.ref ((G ++ [O.range 0 6 1, .list (aP (zF par))]).length + 1)), some (.ref 1), some (.ref (G.length + 1))], K ++ (.list ((ps.filter fun p => !p.2.isEmpty).map fun p => V.ref p.1) :: Z2)⟩ := by
  refine bM ((bq (aI (v := .ref (τ0.heap.length + d)) rfl) b1).trans ?_)
  have hsr := lY ((List.range d).map (zx par))
  refine (ne_data D1 D2 hsr hsr).trans ?_
  rw [SeqAt.eqv_refl _ (SeqAt.canLay_of_shaped hsr)]; rfl
 have a5 : S319 ⟨[some (.top z), some (.bool ring), some (.ref (τ0.heap.length + d)), some (.ref ((G ++ [O.range 0 6 1, .list (aP (zF par))]).length + 1)), some (.ref 1), some (.ref (G.length + 1))], K⟩ = .ok .next ⟨[some (.top z), some (.bool ring), some (.ref (τ0.heap.length + d)), some (.ref ((G ++ [O.range 0 6 1, .list (aP (zF par))]).length + 1)), some (.ref 1), some (.ref (G.length + 1))], K ++ (.list ((ps.filter fun p => !p.2.isEmpty).map fun p => V.ref p.1) :: Z2)⟩ := by
  refine (d9 (or_false t1 (or_false t2 (u := aa false) rfl))).trans ?_
  rw [if_neg (by decide)]; rfl
 have hKF : j0 (K ++ (.list ((ps.filter fun p => !p.2.isEmpty).map fun p => V.ref p.1) :: Z2)) 1 par := by
  rw [← hK]
  exact (((gF.app _).app _).app _).app _
 have hKd : (K ++ (O.list ((ps.filter fun p => !p.2.isEmpty).map fun p => V.ref p.1) :: Z2)).all noDict = true := by
  simp only [List.all_append, List.all_cons, kd, b2]; rfl
 have c6 := sA (L := [some (.top z), some (.bool ring), some (.ref (τ0.heap.length + d)), some (.ref ((G ++ [O.range 0 6 1, .list (aP (zF par))]).length + 1)), some (.ref 1), some (.ref (G.length + 1))]) rfl rfl hKF hKd
 have c7 := cP (ms := aa []) (vs := []) (σ := ⟨[some (.top z), some (.bool ring), some (.ref (τ0.heap.length + d)), some (.ref ((G ++ [O.range 0 6 1, .list (aP (zF par))]).length + 1)), some (.ref 1), some (.ref (G.length + 1))], (K ++ (.list ((ps.filter fun p => !p.2.isEmpty).map fun p => V.ref p.1) :: Z2)) ++ [.range 0 6 1, .list []]⟩) (ae := ⟨[some (.top z), some (.bool ring), some (.ref (τ0.heap.length + d)), some (.ref ((G ++ [O.range 0 6 1, .list (aP (zF par))]).length + 1)), some (.ref 1), some (.ref (G.length + 1))], (K ++ (.list ((ps.filter fun p => !p.2.isEmpty).map fun p => V.ref p.1) :: Z2)) ++ [.range 0 6 1, .list []]⟩) rfl (by show 0 ≤ 1000; decide)
 have a6 : ∃ τ, Z319 ⟨[some (.top z), some (.bool ring), some (.ref (τ0.heap.length + d)), some (.ref ((G ++ [O.range 0 6 1, .list (aP (zF par))]).length + 1)), some (.ref 1), some (.ref (G.length + 1))], K ++ (.list ((ps.filter fun p => !p.2.isEmpty).map fun p => V.ref p.1) :: Z2)⟩ = .ok (.ret (.bool true)) τ := by
  refine ⟨_, eK ((bq c6 c7).trans (eq_data (D := fc []) ?_ ?_ (shaped_ints [])))⟩
  ·exact eO (l := []) (aE (rU ..))
  ·exact eO (l := []) (iU ..)
 obtain ⟨τ, a6⟩ := a6
 refine ⟨τ, du (b8 := []) (L := [some (.top z), none, none, none, none, none]) rfl rfl ?_⟩
 exact (aG a1).trans ((aG a2).trans ((aG a3).trans ((aG a4).trans ((aG a5).trans a6))))
theorem rd {vs : List Value} {ns : List Int} (h : IntsAre vs ns) (ρ : List Addr) : bL ρ (cb ns) vs := by
 induction h with
 | nil => exact .nil
 | cons n t _ ih => exact .cons ⟨t, rfl⟩ ih
theorem law_ends {prog p : Program} {loose : List Str} {w : World} {s : Shared} {mg mb : Str → Option Value} (X : (kH w.params).In s.heap) (R : TopRead p loose mg mb s.heap)
  {fa : Addr} (hmg : mg "law" = some (.ref fa)) {la : Addr} {vs : List Value} {ns : List Int} (hL : s.heap.IsList la vs.toArray) (hI : IntsAre vs ns) (hn : ns.length ≤ 63) {Q : Result → Shared → Prop}
  (hQ : ∀ s' : Shared, s.heap.StaysIn s'.heap → s'.gens = s.gens → s'.os = s.os → Q (.ok (.ret (.bool true))) s') :
  codeAny (model prog w) callerA (.call (.ref fa) ⟨[.ref la], []⟩) Q s := by
 have T : bB (KK w) s.heap mg mb := ⟨X, ⟨R.g, R.b, R.nolimit, R.builtins⟩, p, loose, R⟩
 have e : mg "law" = some (.ref 319) := mg_of X R.g (by kernel_rfl)
 have hfa : fa = 319 := by
  rw [hmg] at e
  cases e; rfl
 subst hfa
 obtain ⟨τ, hr⟩ := xz la ns hn
 have hm : ∃ o, s.heap.get? mainGlobals = some o := by
  obtain ⟨o, _, _, ho, _⟩ := R.g
  exact ⟨o, ho⟩
 have hS := u6 (prog := prog) T (z := la) (zs := cb ns) ⟨vs, hL, fun ρ => rd hI ρ⟩ callerA [] [] [] s [.top la] [.ref la] rfl rfl (by decide +kernel) (by decide +kernel) (fun e he => by cases he) (fun L h => by cases h)
  ⟨fun _ _ q => q, rfl, fun l o a h => by simp at h, List.nodup_nil, fun a h => (by cases h), fun l es ep a h => by simp at h, hm⟩ (.one rfl) (by rw [hr]; intro q; cases q)
 rw [hr] at hS
 refine codeAny_mono hS fun r s' ⟨x, ρ', h1, h2, h3⟩ => ?_
 have hx : x = .bool true := h2
 subst h1; subst hx
 exact hQ s' h3.rel.base h3.rest.1 h3.rest.2.2
end
end Mine
open PySem PySem.Spec PySem.Calls PySem.W PyProof.Rows
theorem PySem.Challenge.cw_qh0058_01_holds : PySem.Challenge.rw_qh0058_01.Holds := by
  refine Mine.head ?_
  intro w bg az mg mb G Y fa o pm cd doc dV kV ho hd hcd hD hmg hg args vals as hpre hlay hrd hwl hlo
  have KX := kIn_of Y
  refine Ground.open G ?_
  intro T B D TE TW
  clear Y D TE TW B hD hcd
  wrow_args hpre hlay hrd hwl hlo
  rename_i hn0 hn1
  rename (Heap.IsList _ _ _) => hL
  rename (IntsAre _ _) => hI
  refine enter_call ?_
  refine Mine.law_ends KX (topRead_of T) hmg hL hI (by omega) fun s' hst hgn hos => ?_
  refine ⟨.inl ⟨.bool true, .bool true, [], rfl, fun cls => rfl, .bool true, ?_, fun _ => ⟨.nil, fun a ha => nomatch ha⟩⟩, .of_keep hst, hos, .of_eq (hgn.trans hg)⟩
  exact postW_of (r := PySem.Challenge.rw_qh0058_01.row.toRowW) (X := true) (by rfl) (by first | kernel_rfl | rfl) rfl
