import PyProof.Rows.All
import Wide.All
import OpenK.AllK
import Wide.FinOn
import PySem.Challenge.RW_qh0058_01
set_option Elab.async false
set_option autoImplicit false
set_option maxRecDepth 100000
set_option maxHeartbeats 8000000
namespace Mine
section
open PySem PySem.W PyProof.Rows PySem.W.Fast
noncomputable abbrev pw : Program := PySem.Challenge.pw_qh0058_01
noncomputable def tp (i : Nat) : Option Stmt := pw.main.body[i]?
noncomputable def mt (i j : Nat) : Option Stmt := match tp i with
  | some (.ClassDef _ _ _ b _ _ _ _ _ _ _) => b[j]?
  | _ => none
noncomputable def dE (P : Params) (k : Str) (t : Tok) (v : Value) : DictEntry := { hash := PyData.keyHash P k, key := .str k t, val := v }
noncomputable def cO (l : List Value) : Obj := { cls := .type "code", data := .fields l.toArray }
noncomputable def tO (l : List Value) : Obj := { cls := .type "tuple", data := .seq l.toArray }
noncomputable def dO (l : List DictEntry) (n : Nat) : Obj := { cls := .type "dict", data := .dict l.toArray n }
noncomputable def fO (o : Option Stmt) (q m : Str) (t : Tok) (c : Addr) (d k : Value) : Obj := match o with
  | some (.FunctionDef name args body _ _ _ scope _ _ _) => { cls := .type "function", data := .func { name := name, qualname := q, params := args, body := .stmts body, scope := scope, globals := 3, closure := [], defaults := d, kwdefaults := k, pyModule := .str m t, code := .ref c } }
  | _ => { cls := .none, data := .plain }
noncomputable def kH (P : Params) : Frag := [
(2,{cls:=.none,data:=.dict #[dE P "type.__subclasses__.Exception.0" 212 (.int 31 0),dE P "type.__subclasses__.Exception.n" 213 (.int 1 0)] 2}),
(3,dO [dE P "__name__" 165 (.str "law_qh0058_01" 569),dE P "__doc__" 166 .none,dE P "__package__" 167 .none,dE P "__loader__" 168 (.builtin "__main__.__loader__#opaque"),dE P "__spec__" 169 .none,dE P "__annotations__" 170 (.ref 6),dE P "__builtins__" 171 (.ref 4),dE P "__file__" 173 (.str "/claim/cut.py" 172),dE P "__cached__" 174 .none,dE P "_wall" 193 (.ref 21),dE P "Error" 215 (.ref 90),dE P "Error_ftplib" 216 (.ref 31),dE P "error_reply" 232 (.ref 44),dE P "error_proto" 248 (.ref 56),dE P "parse229" 261 (.ref 65),dE P "parse257" 272 (.ref 72),dE P "bytes_types" 275 (.ref 73),dE P "_bytes_from_decode_data" 282 (.ref 80),dE P "Error_binascii" 303 (.ref 90),dE P "_ascii_buffer" 311 (.ref 100),dE P "_buffer" 319 (.ref 107),dE P "_truth" 327 (.ref 114),dE P "_B64" 329 (.bytes #[65,66,67,68,69,70,71,72,73,74,75,76,77,78,79,80,81,82,83,84,85,86,87,88,89,90,97,98,99,100,101,102,103,104,105,106,107,108,109,110,111,112,113,114,115,116,117,118,119,120,121,122,48,49,50,51,52,53,54,55,56,57,43,47] 328),dE P "_b64_value" 336 (.ref 121),dE P "a2b_base64" 352 (.ref 129),dE P "b2a_base64" 366 (.ref 137),dE P "b64encode" 377 (.ref 145),dE P "b64decode" 386 (.ref 153),dE P "_NODE_OUT" 391 (.int (-1) 390),dE P "_NODE_DONE" 394 (.int (-2) 393),dE P "_NodeInfo" 431 (.ref 172),dE P "CycleError" 449 (.ref 187),dE P "TopologicalSorter" 568 (.ref 269),dE P "_law_folders" 582 (.ref 280),dE P "_law_rounds" 588 (.ref 285),dE P "_law_replies" 594 (.ref 290),dE P "_law_asked" 603 (.ref 297),dE P "_law_bits" 609 (.ref 302),dE P "_law_holds" 615 (.ref 307),dE P "_law_depth" 624 (.ref 314),dE P "law" 630 (.ref 319)] 41),
(20,cO [.str "_wall" 187,.str "_wall" 188,.str "/claim/cut.py" 189,.int 1 0,.int 1 0,.int 0 0,.int 0 0,.int 3 0,.ref 15,.bool true,.int 181 0,.ref 16,.none,.ref 17,.ref 18,.ref 19,.int 191 0,.int 1 0,.str "/claim/cut.py" 192]),
(21,fO (tp 0) "_wall" "__main__" 164 20 .none .none),
(22,tO [.type "Exception"]),
(29,tO []),
(30,dO [dE P "__module__" 203 (.str "cpy313.ftplib" 194),dE P "__firstlineno__" 207 (.int 5 206),dE P "__static_attributes__" 208 (.ref 29),dE P "__weakref__" 210 (.ref 32),dE P "__doc__" 211 .none] 3),
(31,{cls:=.type "type",data:=.cls {name:="Error",bases:=[.type "Exception"],mro:=[.ref 31,.type "Exception",.type "BaseException",.type "object"],ns:=30,qualname:="Error",subclasses:=[.ref 44,.ref 56]},slots:=#[some (.ref 22),none,some (.str "Error" 196),some (.str "Error" 204),some (.builtin "Exception.__new__"),some (.bool true)]}),
(32,{cls:=.type "getset_descriptor",data:=.fields #[.str "__weakref__" 209,.ref 31,.builtin "ExceptionGroup.__weakref__",.none]}),
(35,tO [.ref 31]),
(42,tO []),
(43,dO [dE P "__module__" 224 (.str "cpy313.ftplib" 194),dE P "__firstlineno__" 228 (.int 8 227),dE P "__static_attributes__" 229 (.ref 42),dE P "__doc__" 230 .none] 2),
(44,{cls:=.type "type",data:=.cls {name:="error_reply",bases:=[.ref 31],mro:=[.ref 44,.ref 31,.type "Exception",.type "BaseException",.type "object"],ns:=43,qualname:="error_reply"},slots:=#[some (.ref 35),none,some (.str "error_reply" 217),some (.str "error_reply" 225),some (.builtin "Exception.__new__"),some (.bool true)]}),
(47,tO [.ref 31]),
(54,tO []),
(55,dO [dE P "__module__" 240 (.str "cpy313.ftplib" 194),dE P "__firstlineno__" 244 (.int 10 243),dE P "__static_attributes__" 245 (.ref 54),dE P "__doc__" 246 .none] 2),
(56,{cls:=.type "type",data:=.cls {name:="error_proto",bases:=[.ref 31],mro:=[.ref 56,.ref 31,.type "Exception",.type "BaseException",.type "object"],ns:=55,qualname:="error_proto"},slots:=#[some (.ref 47),none,some (.str "error_proto" 233),some (.str "error_proto" 241),some (.builtin "Exception.__new__"),some (.bool true)]}),
(64,cO [.str "parse229" 249,.str "parse229" 250,.str "/claim/cut.py" 251,.int 12 0,.int 2 0,.int 0 0,.int 0 0,.int 3 0,.ref 59,.bool true,.int 181 0,.ref 60,.none,.ref 61,.ref 62,.ref 63,.int 259 0,.int 12 0,.str "/claim/cut.py" 260]),
(65,fO (tp 6) "parse229" "cpy313.ftplib" 194 64 .none .none),
(71,cO [.str "parse257" 262,.str "parse257" 263,.str "/claim/cut.py" 264,.int 29 0,.int 1 0,.int 0 0,.int 0 0,.int 3 0,.ref 66,.bool true,.int 181 0,.ref 67,.none,.ref 68,.ref 69,.ref 70,.int 270 0,.int 29 0,.str "/claim/cut.py" 271]),
(72,fO (tp 7) "parse257" "cpy313.ftplib" 194 71 .none .none),
(73,tO [.type "bytes",.type "bytearray"]),
(79,cO [.str "_bytes_from_decode_data" 276,.str "_bytes_from_decode_data" 277,.str "/claim/cut.py" 278,.int 48 0,.int 1 0,.int 0 0,.int 0 0,.int 3 0,.ref 74,.bool true,.int 181 0,.ref 75,.none,.ref 76,.ref 77,.ref 78,.int 280 0,.int 48 0,.str "/claim/cut.py" 281]),
(80,fO (tp 10) "_bytes_from_decode_data" "cpy313.base64" 273 79 .none .none),
(81,tO [.type "ValueError"]),
(88,tO []),
(89,dO [dE P "__module__" 292 (.str "binascii" 283),dE P "__firstlineno__" 296 (.int 61 295),dE P "__static_attributes__" 297 (.ref 88),dE P "__weakref__" 299 (.ref 91),dE P "__doc__" 300 .none] 3),
(90,{cls:=.type "type",data:=.cls {name:="Error",bases:=[.type "ValueError"],mro:=[.ref 90,.type "ValueError",.type "Exception",.type "BaseException",.type "object"],ns:=89,qualname:="Error"},slots:=#[some (.ref 81),none,some (.str "Error" 285),some (.str "Error" 293),some (.builtin "ValueError.__new__"),some (.bool true)]}),
(91,{cls:=.type "getset_descriptor",data:=.fields #[.str "__weakref__" 298,.ref 90,.builtin "ExceptionGroup.__weakref__",.none]}),
(99,cO [.str "_ascii_buffer" 304,.str "_ascii_buffer" 305,.str "/claim/cut.py" 306,.int 64 0,.int 1 0,.int 0 0,.int 0 0,.int 3 0,.ref 94,.bool true,.int 181 0,.ref 95,.none,.ref 96,.ref 97,.ref 98,.int 309 0,.int 64 0,.str "/claim/cut.py" 310]),
(100,fO (tp 14) "_ascii_buffer" "binascii" 283 99 .none .none),
(106,cO [.str "_buffer" 312,.str "_buffer" 313,.str "/claim/cut.py" 314,.int 75 0,.int 1 0,.int 0 0,.int 0 0,.int 3 0,.ref 101,.bool true,.int 181 0,.ref 102,.none,.ref 103,.ref 104,.ref 105,.int 317 0,.int 75 0,.str "/claim/cut.py" 318]),
(107,fO (tp 15) "_buffer" "binascii" 283 106 .none .none),
(113,cO [.str "_truth" 320,.str "_truth" 321,.str "/claim/cut.py" 322,.int 82 0,.int 1 0,.int 0 0,.int 0 0,.int 3 0,.ref 108,.bool true,.int 181 0,.ref 109,.none,.ref 110,.ref 111,.ref 112,.int 325 0,.int 82 0,.str "/claim/cut.py" 326]),
(114,fO (tp 16) "_truth" "binascii" 283 113 .none .none),
(120,cO [.str "_b64_value" 330,.str "_b64_value" 331,.str "/claim/cut.py" 332,.int 88 0,.int 1 0,.int 0 0,.int 0 0,.int 3 0,.ref 115,.bool true,.int 181 0,.ref 116,.none,.ref 117,.ref 118,.ref 119,.int 334 0,.int 88 0,.str "/claim/cut.py" 335]),
(121,fO (tp 18) "_b64_value" "binascii" 283 120 .none .none),
(122,dO [dE P "strict_mode" 337 (.bool false)] 1),
(128,cO [.str "a2b_base64" 338,.str "a2b_base64" 339,.str "/claim/cut.py" 340,.int 100 0,.int 1 0,.int 1 0,.int 1 0,.int 3 0,.ref 123,.bool true,.int 181 0,.ref 124,.none,.ref 125,.ref 126,.ref 127,.int 350 0,.int 100 0,.str "/claim/cut.py" 351]),
(129,fO (tp 19) "a2b_base64" "binascii" 283 128 .none (.ref 122)),
(130,dO [dE P "newline" 353 (.bool true)] 1),
(136,cO [.str "b2a_base64" 354,.str "b2a_base64" 355,.str "/claim/cut.py" 356,.int 154 0,.int 1 0,.int 1 0,.int 1 0,.int 3 0,.ref 131,.bool true,.int 181 0,.ref 132,.none,.ref 133,.ref 134,.ref 135,.int 364 0,.int 154 0,.str "/claim/cut.py" 365]),
(137,fO (tp 20) "b2a_base64" "binascii" 283 136 .none (.ref 130)),
(138,tO [.none]),
(144,cO [.str "b64encode" 369,.str "b64encode" 370,.str "/claim/cut.py" 371,.int 177 0,.int 2 0,.int 0 0,.int 0 0,.int 3 0,.ref 139,.bool true,.int 181 0,.ref 140,.none,.ref 141,.ref 142,.ref 143,.int 375 0,.int 177 0,.str "/claim/cut.py" 376]),
(145,fO (tp 22) "b64encode" "cpy313.base64" 367 144 (.ref 138) .none),
(146,tO [.none,.bool false]),
(152,cO [.str "b64decode" 378,.str "b64decode" 379,.str "/claim/cut.py" 380,.int 183 0,.int 3 0,.int 0 0,.int 0 0,.int 3 0,.ref 147,.bool true,.int 181 0,.ref 148,.none,.ref 149,.ref 150,.ref 151,.int 384 0,.int 183 0,.str "/claim/cut.py" 385]),
(153,fO (tp 23) "b64decode" "cpy313.base64" 367 152 (.ref 146) .none),
(161,tO [.str "node" 407,.str "npredecessors" 408,.str "successors" 409]),
(167,cO [.str "__init__" 411,.str "_NodeInfo.__init__" 412,.str "/claim/cut.py" 413,.int 196 0,.int 2 0,.int 0 0,.int 0 0,.int 3 0,.ref 162,.bool true,.int 181 0,.ref 163,.none,.ref 164,.ref 165,.ref 166,.int 416 0,.int 196 0,.str "/claim/cut.py" 417]),
(168,fO (mt 27 1) "_NodeInfo.__init__" "cpy313.graphlib" 387 167 .none .none),
(169,tO [.str "node" 419,.str "npredecessors" 420,.str "successors" 421]),
(171,dO [dE P "__module__" 402 (.str "cpy313.graphlib" 387),dE P "__firstlineno__" 406 (.int 193 405),dE P "__slots__" 410 (.ref 161),dE P "__init__" 418 (.ref 168),dE P "__static_attributes__" 422 (.ref 169),dE P "node" 424 (.ref 173),dE P "npredecessors" 426 (.ref 174),dE P "successors" 428 (.ref 175),dE P "__doc__" 429 .none] 5),
(172,{cls:=.type "type",data:=.cls {name:="_NodeInfo",bases:=[.type "object"],mro:=[.ref 172,.type "object"],ns:=171,qualname:="_NodeInfo",hasDict:=false,slotNames:=["node","npredecessors","successors"]},slots:=#[none,none,some (.str "_NodeInfo" 395),some (.str "_NodeInfo" 403),some (.builtin "object.__new__"),some (.bool false)]}),
(173,{cls:=.type "member_descriptor",data:=.fields #[.str "node" 423,.ref 172,.builtin "proto.slot",.builtin "proto.slot#set",.int 2 0]}),
(174,{cls:=.type "member_descriptor",data:=.fields #[.str "npredecessors" 425,.ref 172,.builtin "proto.slot",.builtin "proto.slot#set",.int 1 0]}),
(175,{cls:=.type "member_descriptor",data:=.fields #[.str "successors" 427,.ref 172,.builtin "proto.slot",.builtin "proto.slot#set",.int 0 0]}),
(178,tO [.type "ValueError"]),
(185,tO []),
(186,dO [dE P "__module__" 439 (.str "cpy313.graphlib" 387),dE P "__firstlineno__" 443 (.int 200 442),dE P "__static_attributes__" 444 (.ref 185),dE P "__weakref__" 446 (.ref 188),dE P "__doc__" 447 .none] 3),
(187,{cls:=.type "type",data:=.cls {name:="CycleError",bases:=[.type "ValueError"],mro:=[.ref 187,.type "ValueError",.type "Exception",.type "BaseException",.type "object"],ns:=186,qualname:="CycleError"},slots:=#[some (.ref 178),none,some (.str "CycleError" 432),some (.str "CycleError" 440),some (.builtin "ValueError.__new__"),some (.bool true)]}),
(188,{cls:=.type "getset_descriptor",data:=.fields #[.str "__weakref__" 445,.ref 187,.builtin "ExceptionGroup.__weakref__",.none]}),
(198,tO [.none]),
(204,cO [.str "__init__" 462,.str "TopologicalSorter.__init__" 463,.str "/claim/cut.py" 464,.int 204 0,.int 2 0,.int 0 0,.int 0 0,.int 3 0,.ref 199,.bool true,.int 181 0,.ref 200,.none,.ref 201,.ref 202,.ref 203,.int 469 0,.int 204 0,.str "/claim/cut.py" 470]),
(205,fO (mt 29 0) "TopologicalSorter.__init__" "cpy313.graphlib" 387 204 (.ref 198) .none),
(211,cO [.str "_get_nodeinfo" 472,.str "TopologicalSorter._get_nodeinfo" 473,.str "/claim/cut.py" 474,.int 213 0,.int 2 0,.int 0 0,.int 0 0,.int 3 0,.ref 206,.bool true,.int 181 0,.ref 207,.none,.ref 208,.ref 209,.ref 210,.int 478 0,.int 213 0,.str "/claim/cut.py" 479]),
(212,fO (mt 29 1) "TopologicalSorter._get_nodeinfo" "cpy313.graphlib" 387 211 .none .none),
(218,cO [.str "add" 481,.str "TopologicalSorter.add" 482,.str "/claim/cut.py" 483,.int 218 0,.int 2 0,.int 0 0,.int 0 0,.int 7 0,.ref 213,.bool true,.int 181 0,.ref 214,.none,.ref 215,.ref 216,.ref 217,.int 490 0,.int 218 0,.str "/claim/cut.py" 491]),
(219,fO (mt 29 2) "TopologicalSorter.add" "cpy313.graphlib" 387 218 .none .none),
(223,cO [.str "prepare" 493,.str "TopologicalSorter.prepare" 494,.str "/claim/cut.py" 495,.int 227 0,.int 1 0,.int 0 0,.int 0 0,.int 3 0,.ref 220,.bool true,.int 181 0,.ref 221,.none,.none,.none,.ref 222,.int 496 0,.int 227 0,.str "/claim/cut.py" 497]),
(224,fO (mt 29 3) "TopologicalSorter.prepare" "cpy313.graphlib" 387 223 .none .none),
(230,cO [.str "get_ready" 499,.str "TopologicalSorter.get_ready" 500,.str "/claim/cut.py" 501,.int 235 0,.int 1 0,.int 0 0,.int 0 0,.int 3 0,.ref 225,.bool true,.int 181 0,.ref 226,.none,.ref 227,.ref 228,.ref 229,.int 506 0,.int 235 0,.str "/claim/cut.py" 507]),
(231,fO (mt 29 4) "TopologicalSorter.get_ready" "cpy313.graphlib" 387 230 .none .none),
(237,cO [.str "is_active" 509,.str "TopologicalSorter.is_active" 510,.str "/claim/cut.py" 511,.int 246 0,.int 1 0,.int 0 0,.int 0 0,.int 3 0,.ref 232,.bool true,.int 181 0,.ref 233,.none,.ref 234,.ref 235,.ref 236,.int 513 0,.int 246 0,.str "/claim/cut.py" 514]),
(238,fO (mt 29 5) "TopologicalSorter.is_active" "cpy313.graphlib" 387 237 .none .none),
(244,cO [.str "__bool__" 516,.str "TopologicalSorter.__bool__" 517,.str "/claim/cut.py" 518,.int 251 0,.int 1 0,.int 0 0,.int 0 0,.int 3 0,.ref 239,.bool true,.int 181 0,.ref 240,.none,.ref 241,.ref 242,.ref 243,.int 520 0,.int 251 0,.str "/claim/cut.py" 521]),
(245,fO (mt 29 6) "TopologicalSorter.__bool__" "cpy313.graphlib" 387 244 .none .none),
(251,cO [.str "done" 523,.str "TopologicalSorter.done" 524,.str "/claim/cut.py" 525,.int 254 0,.int 1 0,.int 0 0,.int 0 0,.int 7 0,.ref 246,.bool true,.int 181 0,.ref 247,.none,.ref 248,.ref 249,.ref 250,.int 534 0,.int 254 0,.str "/claim/cut.py" 535]),
(252,fO (mt 29 7) "TopologicalSorter.done" "cpy313.graphlib" 387 251 .none .none),
(258,cO [.str "_find_cycle" 537,.str "TopologicalSorter._find_cycle" 538,.str "/claim/cut.py" 539,.int 277 0,.int 1 0,.int 0 0,.int 0 0,.int 3 0,.ref 253,.bool true,.int 181 0,.ref 254,.none,.ref 255,.ref 256,.ref 257,.int 547 0,.int 277 0,.str "/claim/cut.py" 548]),
(259,fO (mt 29 8) "TopologicalSorter._find_cycle" "cpy313.graphlib" 387 258 .none .none),
(265,cO [.str "static_order" 550,.str "TopologicalSorter.static_order" 551,.str "/claim/cut.py" 552,.int 306 0,.int 1 0,.int 0 0,.int 0 0,.int 3 0,.ref 260,.bool true,.int 181 0,.ref 261,.none,.ref 262,.ref 263,.ref 264,.int 554 0,.int 306 0,.str "/claim/cut.py" 555]),
(266,fO (mt 29 9) "TopologicalSorter.static_order" "cpy313.graphlib" 387 265 .none .none),
(267,tO [.str "_nfinished" 557,.str "_node2info" 558,.str "_npassedout" 559,.str "_ready_nodes" 560]),
(268,dO [dE P "__module__" 457 (.str "cpy313.graphlib" 387),dE P "__firstlineno__" 461 (.int 202 460),dE P "__init__" 471 (.ref 205),dE P "_get_nodeinfo" 480 (.ref 212),dE P "add" 492 (.ref 219),dE P "prepare" 498 (.ref 224),dE P "get_ready" 508 (.ref 231),dE P "is_active" 515 (.ref 238),dE P "__bool__" 522 (.ref 245),dE P "done" 536 (.ref 252),dE P "_find_cycle" 549 (.ref 259),dE P "static_order" 556 (.ref 266),dE P "__static_attributes__" 561 (.ref 267),dE P "__dict__" 563 (.ref 270),dE P "__weakref__" 565 (.ref 271),dE P "__doc__" 566 .none] 4),
(269,{cls:=.type "type",data:=.cls {name:="TopologicalSorter",bases:=[.type "object"],mro:=[.ref 269,.type "object"],ns:=268,qualname:="TopologicalSorter"},slots:=#[none,none,some (.str "TopologicalSorter" 450),some (.str "TopologicalSorter" 458),some (.builtin "object.__new__"),some (.bool true)]}),
(270,{cls:=.type "getset_descriptor",data:=.fields #[.str "__dict__" 562,.ref 269,.builtin "function.__dict__",.builtin "function.__dict__#set"]}),
(271,{cls:=.type "getset_descriptor",data:=.fields #[.str "__weakref__" 564,.ref 269,.builtin "ExceptionGroup.__weakref__",.none]}),
(279,cO [.str "_law_folders" 571,.str "_law_folders" 572,.str "/claim/cut.py" 573,.int 309 0,.int 1 0,.int 0 0,.int 0 0,.int 3 0,.ref 274,.bool true,.int 181 0,.ref 275,.none,.ref 276,.ref 277,.ref 278,.int 580 0,.int 309 0,.str "/claim/cut.py" 581]),
(280,fO (tp 31) "_law_folders" "law_qh0058_01" 569 279 .none .none),
(284,cO [.str "_law_rounds" 583,.str "_law_rounds" 584,.str "/claim/cut.py" 585,.int 316 0,.int 1 0,.int 0 0,.int 0 0,.int 3 0,.ref 281,.bool true,.int 181 0,.ref 282,.none,.none,.none,.ref 283,.int 586 0,.int 316 0,.str "/claim/cut.py" 587]),
(285,fO (tp 32) "_law_rounds" "law_qh0058_01" 569 284 .none .none),
(289,cO [.str "_law_replies" 589,.str "_law_replies" 590,.str "/claim/cut.py" 591,.int 331 0,.int 2 0,.int 0 0,.int 0 0,.int 3 0,.ref 286,.bool true,.int 181 0,.ref 287,.none,.none,.none,.ref 288,.int 592 0,.int 331 0,.str "/claim/cut.py" 593]),
(290,fO (tp 33) "_law_replies" "law_qh0058_01" 569 289 .none .none),
(296,cO [.str "_law_asked" 595,.str "_law_asked" 596,.str "/claim/cut.py" 597,.int 340 0,.int 2 0,.int 0 0,.int 0 0,.int 3 0,.ref 291,.bool true,.int 181 0,.ref 292,.none,.ref 293,.ref 294,.ref 295,.int 601 0,.int 340 0,.str "/claim/cut.py" 602]),
(297,fO (tp 34) "_law_asked" "law_qh0058_01" 569 296 .none .none),
(301,cO [.str "_law_bits" 604,.str "_law_bits" 605,.str "/claim/cut.py" 606,.int 347 0,.int 1 0,.int 0 0,.int 0 0,.int 3 0,.ref 298,.bool true,.int 181 0,.ref 299,.none,.none,.none,.ref 300,.int 607 0,.int 347 0,.str "/claim/cut.py" 608]),
(302,fO (tp 35) "_law_bits" "law_qh0058_01" 569 301 .none .none),
(306,cO [.str "_law_holds" 610,.str "_law_holds" 611,.str "/claim/cut.py" 612,.int 356 0,.int 2 0,.int 0 0,.int 0 0,.int 3 0,.ref 303,.bool true,.int 181 0,.ref 304,.none,.none,.none,.ref 305,.int 613 0,.int 356 0,.str "/claim/cut.py" 614]),
(307,fO (tp 36) "_law_holds" "law_qh0058_01" 569 306 .none .none),
(313,cO [.str "_law_depth" 616,.str "_law_depth" 617,.str "/claim/cut.py" 618,.int 366 0,.int 2 0,.int 0 0,.int 0 0,.int 3 0,.ref 308,.bool true,.int 181 0,.ref 309,.none,.ref 310,.ref 311,.ref 312,.int 622 0,.int 366 0,.str "/claim/cut.py" 623]),
(314,fO (tp 37) "_law_depth" "law_qh0058_01" 569 313 .none .none),
(318,cO [.str "law" 625,.str "law" 626,.str "/claim/cut.py" 627,.int 372 0,.int 1 0,.int 0 0,.int 0 0,.int 3 0,.ref 315,.bool true,.int 181 0,.ref 316,.none,.none,.none,.ref 317,.int 628 0,.int 372 0,.str "/claim/cut.py" 629]),
(319,fO (tp 38) "law" "law_qh0058_01" 569 318 .none .none)]
noncomputable def kA : List Addr := [2,3,20,21,22,29,30,31,32,35,42,43,44,47,54,55,56,64,65,71,72,73,79,80,81,88,89,90,91,99,100,106,107,113,114,120,121,122,128,129,130,136,137,138,144,145,146,152,153,161,167,168,169,171,172,173,174,175,178,185,186,187,188,198,204,205,211,212,218,219,223,224,230,231,237,238,244,245,251,252,258,259,265,266,267,268,269,270,271,279,280,284,285,289,290,296,297,301,302,306,307,313,314,318,319]
noncomputable def keepL : List Nat := [0,3,4,5,6,7,9,10,12,13,14,15,16,17,18,25,26,27,28,29,31,32,33,34,35,36,37,38]
noncomputable def qv : Program := view pw keepL
noncomputable def looseL : List Str := ["Error_ftplib", "bytes_types", "Error_binascii", "a2b_base64", "b2a_base64", "b64encode", "b64decode", "_NodeInfo"]
theorem left_of {p q : Program} {loose : List Str} {Xt : Shared → Bool} {α : Type} {Yf : Shared → α} {Ya : World → α} {N : Nat}
  {tt} (e1 : treeTable = tt) {ie} (e2 : @importEnds = ie) {tr} (e3 : @topRun = tr) {st} (e4 : @start = st) {os} (e5 : @openSeen = os) {fm} (e6 : @fenceModules? = fm)
  (h : ∀ w : World, (((ie tt (opening p) w N (st (opening p)).1 (st (opening p)).2).bind (fm p)).bind fun bg => match bg.heap.isNs mainGlobals && bg.gens.size == 0 with
    | true => (tr tt p w bg.heap.objs.size (bg.heap.nsMap mainGlobals "__annotations__") N bg (topStub p)).bind fun az => match staticsOk (importedModules p.main.body) bg.heap az.heap && namesBound p az.heap && gensDone az && laidKept bg.heap az.heap with
      | true => some az
      | false => none
    | false => none).map (fun s => (os q loose (importedModules p.main.body) Xt true s, Yf s)) = some (openGood q loose, Ya w)) : LeftO p q loose Xt Yf Ya N := by
  subst e1 e2 e3 e4 e5 e6
  exact h
noncomputable abbrev HK : Hook := kHook kH kA (fun _ => by kernel_rfl)
theorem said : PySem.Challenge.rw_qh0058_01.wellSaid = true := (congrFun te9446332074065402090 PySem.Challenge.rw_qh0058_01).trans (by kernel_rfl)
theorem left : LeftO pw qv looseL (fun s => xlAt qv [] s && recOk (RowW.records PySem.Challenge.rw_qh0058_01.row.toRowW) s) (Hook.obs HK) (Hook.val HK) 5200 :=
  left_of te14364793385576792824 te10274390034422433532 te14082659384304107361 te1435165496053646825 te4187177175401517315 te14289696077712309145 (fun w => by kernel_rfl)
noncomputable def dR : DefRec := match tp 38 with
  | some (.FunctionDef name args body _ _ _ scope _ _ pos) => { name := name, params := args, body := body, scope := scope, pos := pos }
  | _ => { name := "", params := ⟨[], [], none, [], [], none, []⟩, body := [], scope := { kind := .function, names := [], isGenerator := false, isCoroutine := false }, pos := ⟨0, 0, 0, 0⟩ }
theorem head (call : WalkO qv looseL (XL qv []) (Hook.says HK) PySem.Challenge.rw_qh0058_01.row.toRowW dR [] fun f vs => PySem.call f vs) : PySem.Challenge.rw_qh0058_01.Holds := by
  refine holds_law said fun sd => ?_
  exact holds_open (q := qv) (loose := looseL) (Xt := fun s => xlAt qv [] s && recOk (RowW.records PySem.Challenge.rw_qh0058_01.row.toRowW) s) (XP := XL qv []) (Yf := Hook.obs HK) (Ya := Hook.val HK) (YP := Hook.says HK) (N := 5200) left (Hook.of HK) (Hook.keeps HK) (fun s e => xl_of s (Bool.and_eq_true_iff.mp e).1) XL.keeps (by kernel_rfl) (by kernel_rfl) (by kernel_rfl) (fun s e => recFacts_of (Bool.and_eq_true_iff.mp e).2) (by kernel_rfl) (by first | assumption | decide +kernel) (by decide +kernel) ⟨rfl, rfl, rfl, rfl, rfl, by decide +kernel⟩ ⟨[.list []], by decide +kernel, by decide +kernel⟩ call
end
end Mine
namespace Mine
open PySem PySem.Spec PySem.Calls PyProof.Rows PySem.W
noncomputable section
inductive V where
 | none
 | bool (b : Bool)
 | int (i : Int)
 | str (x : Str)
 | bytes (b : Array UInt8)
 | type (n : String)
 | blt (n : String)
 | top (a : Nat)
 | ref (l : Nat)
deriving DecidableEq, Inhabited
inductive O where
 | list (xs : List V)
 | tup (xs : List V)
 | dict (es : List (Int × V)) (ep : Nat)
 | dvals (l : Nat)
 | range (a b c : Int)
 | set (xs : List Int)
 | inst (c d : Nat) (sl : List (Option V))
 | idict (fs : List (Str × V))
 | liter (l i : Nat)
 | mnext (l : Nat)
 | exc (c : V) (t : Nat)
 | dead
deriving DecidableEq, Inhabited
structure St where
 loc : List (Option V)
 heap : List O
deriving Inhabited
inductive zZ (α : Type) where
 | ok (a : α) (σ : St)
 | exc (c : V) (args : List V) (σ : St)
 | bad
namespace zZ
noncomputable def bind {α β : Type} : zZ α → (α → St → zZ β) → zZ β
 | .ok a σ, f => f a σ
 | .exc c as σ, _ => .exc c as σ
 | .bad, _ => .bad
@[simp] theorem bind_ok {α β : Type} (a : α) (σ : St) (f : α → St → zZ β) : (zZ.ok a σ).bind f = f a σ := rfl
@[simp] theorem bind_exc {α β : Type} (c : V) (as : List V) (σ : St) (f : α → St → zZ β) : (zZ.exc c as σ : zZ α).bind f = .exc c as σ := rfl
@[simp] theorem bind_bad {α β : Type} (f : α → St → zZ β) : (zZ.bad : zZ α).bind f = .bad := rfl
end zZ
inductive RefR (ρ : List Addr) (l : Nat) (v : Value) : Prop
 | mk (a : Addr) (h : ρ[l]? = some a) (e : v = .ref a)
noncomputable def VR (ρ : List Addr) : V → Value → Prop
 | .none, v => v = .none
 | .bool b, v => v = .bool b
 | .int i, v => ∃ t, v = .int i t
 | .str x, v => ∃ t, v = .str x t
 | .bytes b, v => ∃ t, v = .bytes b t
 | .type n, v => v = .type n
 | .blt n, v => v = .builtin n
 | .top a, v => v = .ref a
 | .ref l, v => RefR ρ l v
theorem VR.mono {ρ more : List Addr} {v : V} {x : Value} (h : VR ρ v x) : VR (ρ ++ more) v x := by
 cases v <;> first | exact h | skip
 obtain ⟨a, h1, h2⟩ := h
 refine ⟨a, ?_, h2⟩
 obtain ⟨hl, _⟩ := List.getElem?_eq_some_iff.mp h1
 rw [List.getElem?_append_left hl]
 exact h1
inductive ConR (P : Value → Prop) (Q : List Value → Prop) (ys : List Value) : Prop
 | mk (x : Value) (xs : List Value) (e : ys = x :: xs) (h : P x) (r : Q xs)
noncomputable def bL (ρ : List Addr) : List V → List Value → Prop
 | [], ys => ys = []
 | v :: vs, ys => ConR (VR ρ v) (bL ρ vs) ys
theorem bL.mono {ρ more : List Addr} : ∀ {vs : List V} {xs : List Value}, bL ρ vs xs → bL (ρ ++ more) vs xs
 | [], _, h => h
 | _ :: _, _, ⟨x, xs, e, h, r⟩ => ⟨x, xs, e, h.mono, r.mono⟩
theorem bL.length {ρ : List Addr} : ∀ {vs : List V} {xs : List Value}, bL ρ vs xs → xs.length = vs.length
 | [], _, h => by cases h; rfl
 | _ :: vs, _, ⟨x, xs, e, _, r⟩ => by subst e; simp [r.length]
theorem bL.get {ρ : List Addr} : ∀ {vs : List V} {xs : List Value}, bL ρ vs xs → ∀ {i : Nat} {v : V}, vs[i]? = some v → ∃ x, xs[i]? = some x ∧ VR ρ v x
 | [], _, _, i, v, e => by simp at e
 | _ :: vs, _, ⟨x, xs, e, h, r⟩, 0, v, e' => by subst e; simp at e'; subst e'; exact ⟨x, by simp, h⟩
 | _ :: vs, _, ⟨x, xs, e, h, r⟩, i + 1, v, e' => by subst e; simp at e'; obtain ⟨y, h1, h2⟩ := r.get e'; exact ⟨y, by simpa using h1, h2⟩
theorem bL.append {ρ : List Addr} : ∀ {vs ws : List V} {xs ys : List Value}, bL ρ vs xs → bL ρ ws ys → bL ρ (vs ++ ws) (xs ++ ys)
 | [], _, _, _, h, g => by cases h; exact g
 | _ :: vs, _, _, _, ⟨x, xs, e, h, r⟩, g => by subst e; exact ⟨x, _, rfl, h, r.append g⟩
theorem bL.nil {ρ : List Addr} : bL ρ [] [] := rfl
theorem bL.cons {ρ : List Addr} {v : V} {vs : List V} {x : Value} {xs : List Value} (h : VR ρ v x) (r : bL ρ vs xs) : bL ρ (v :: vs) (x :: xs) := ⟨x, xs, rfl, h, r⟩
theorem bL.one {ρ : List Addr} {v : V} {x : Value} (h : VR ρ v x) : bL ρ [v] [x] := .cons h .nil
theorem bL.set {ρ : List Addr} : ∀ {vs : List V} {xs : List Value}, bL ρ vs xs → ∀ {i : Nat} {v : V} {x : Value}, VR ρ v x → bL ρ (vs.set i v) (xs.set i x)
 | [], _, h, _, _, _, _ => by cases h; exact rfl
 | _ :: vs, _, ⟨x, xs, e, h, r⟩, 0, _, _, g => by subst e; exact ⟨_, _, rfl, g, r⟩
 | _ :: vs, _, ⟨x, xs, e, h, r⟩, i + 1, _, _, g => by subst e; exact ⟨_, _, rfl, h, r.set g⟩
theorem bL.take {ρ : List Addr} : ∀ {vs : List V} {xs : List Value} (n : Nat), bL ρ vs xs → bL ρ (vs.take n) (xs.take n)
 | [], _, n, h => by cases h; simp; exact rfl
 | _ :: vs, _, 0, ⟨x, xs, e, h, r⟩ => by simp; exact rfl
 | _ :: vs, _, n + 1, ⟨x, xs, e, h, r⟩ => by subst e; exact ⟨_, _, rfl, h, r.take n⟩
theorem bL.drop {ρ : List Addr} : ∀ {vs : List V} {xs : List Value} (n : Nat), bL ρ vs xs → bL ρ (vs.drop n) (xs.drop n)
 | [], _, n, h => by cases h; simp; exact rfl
 | _ :: vs, _, 0, ⟨x, xs, e, h, r⟩ => by subst e; exact ⟨_, _, rfl, h, r⟩
 | _ :: vs, _, n + 1, ⟨x, xs, e, h, r⟩ => by subst e; exact r.drop n
noncomputable def zS (ρ : List Addr) : Option V → Option Value → Prop
 | .none, v => v = none
 | some v, x => ∃ y, x = some y ∧ VR ρ v y
theorem zS.mono {ρ more : List Addr} {v : Option V} {x : Option Value} (h : zS ρ v x) : zS (ρ ++ more) v x := by
 cases v with
 | none => exact h
 | some v => obtain ⟨y, e, h⟩ := h; exact ⟨y, e, h.mono⟩
noncomputable def zT (ρ : List Addr) : Option V → Option Value → Prop
 | .none, _ => True
 | some v, x => ∃ y, x = some y ∧ VR ρ v y
theorem zT.mono {ρ more : List Addr} {v : Option V} {x : Option Value} (h : zT ρ v x) : zT (ρ ++ more) v x := by
 cases v with
 | none => trivial
 | some v => obtain ⟨y, e, h⟩ := h; exact ⟨y, e, h.mono⟩
theorem zS.l {ρ : List Addr} {v : Option V} {x : Option Value} (h : zS ρ v x) : zT ρ v x := by
 cases v with
 | none => trivial
 | some v => exact h
noncomputable def cF (ρ : List Addr) : List (Int × V) → List (Int × Value) → Prop
 | [], ys => ys = []
 | (k, v) :: es, ys => ∃ x r, ys = (k, x) :: r ∧ VR ρ v x ∧ cF ρ es r
theorem cF.mono {ρ more : List Addr} : ∀ {es : List (Int × V)} {ys : List (Int × Value)}, cF ρ es ys → cF (ρ ++ more) es ys
 | [], _, h => h
 | (_, _) :: _, _, ⟨x, r, e, h, q⟩ => ⟨x, r, e, h.mono, q.mono⟩
noncomputable def dz (ρ : List Addr) : List (Str × V) → List DictEntry → Prop
 | [], ys => ys = []
 | (k, v) :: es, ys => ∃ e r, ys = e :: r ∧ (∃ t, e.key = .str k t) ∧ VR ρ v e.val ∧ dz ρ es r
theorem dz.mono {ρ more : List Addr} : ∀ {es : List (Str × V)} {ys : List DictEntry}, dz ρ es ys → dz (ρ ++ more) es ys
 | [], _, h => h
 | (_, _) :: _, _, ⟨x, r, e, t, h, q⟩ => ⟨x, r, e, t, h.mono, q.mono⟩
noncomputable def dF (ρ : List Addr) : List (Option V) → List (Option Value) → Prop
 | [], ys => ys = []
 | v :: es, ys => ∃ x r, ys = x :: r ∧ zS ρ v x ∧ dF ρ es r
theorem dF.mono {ρ more : List Addr} : ∀ {es : List (Option V)} {ys : List (Option Value)}, dF ρ es ys → dF (ρ ++ more) es ys
 | [], _, h => h
 | _ :: _, _, ⟨x, r, e, h, q⟩ => ⟨x, r, e, h.mono, q.mono⟩
section
variable (prog : Program) (w : World)
inductive SeqR (ρ : List Addr) (c : String) (xs : List V) (ob : Obj) : Prop
 | mk (vs : List Value) (n : Nat) (e : ob = { cls := .type c, data := .seq vs.toArray n }) (h : bL ρ xs vs)
noncomputable def z4 (ρ : List Addr) : O → Obj → Prop
 | .list xs, ob => SeqR ρ "list" xs ob
 | .tup xs, ob => SeqR ρ "tuple" xs ob
 | .dict es ep, ob => ∃ kvs, ob.IsDictOf (intKind prog w) kvs ∧ cF ρ es kvs ∧ ∃ es', ob.data = .dict es' ep
 | .dvals l, ob => ∃ a, ρ[l]? = some a ∧ ob = { cls := .type "dict_values", data := .fields #[.ref a] }
 | .range a b c, ob => ∃ t u v, ob = { cls := .type "range", dict := none, data := .fields #[.int a t, .int b u, .int c v], slots := #[] }
 | .set xs, ob => ∃ es ep t, ob.ExactSet ∧ ob.data = .set es ep t ∧ ElemsOf (intKind prog w) es.toList ∧ (∀ k, xs.contains k = true ↔ ∃ e ∈ es.toList, (intKind prog w).is k e.2 = true)
   ∧ es.size < scanBound ∧ t.fits es.size = true ∧ es.size = xs.length
 | .inst c d sl, ob => ∃ dx sx, ρ[d]? = some dx ∧ ob = { cls := .ref c, dict := some dx, data := .plain, slots := List.toArray sx } ∧ dF ρ sl sx
 | .idict fs, ob => ∃ es n, ob = dictOf es n ∧ dz ρ fs es
 | .liter l i, ob => ∃ a, ρ[l]? = some a ∧ ob = { cls := .type "list_iterator", data := .fields #[.ref a, .int i 0] }
 | .mnext l, ob => ∃ a, ρ[l]? = some a ∧ ob = { cls := .type "method-wrapper", data := .fields #[.builtin "list_iterator.__next__", .ref a] }
 | .exc c t, ob => ∃ a vs, VR ρ c ob.cls ∧ ρ[t]? = some a ∧ ob.data = .fields vs ∧ vs[0]? = some (.ref a)
 | .dead, ob => ∃ vs, ob.data = .fields vs
theorem cq {ρ more : List Addr} {l : Nat} {a : Addr} (h : ρ[l]? = some a) : (ρ ++ more)[l]? = some a := by
 obtain ⟨hl, _⟩ := List.getElem?_eq_some_iff.mp h
 rw [List.getElem?_append_left hl]
 exact h
variable {prog w}
theorem z4.mono {ρ more : List Addr} {o : O} {ob : Obj} (h : z4 prog w ρ o ob) : z4 prog w (ρ ++ more) o ob := by
 cases o with
 | list xs => obtain ⟨vs, n, e, h⟩ := h; exact ⟨vs, n, e, h.mono⟩
 | tup xs => obtain ⟨vs, n, e, h⟩ := h; exact ⟨vs, n, e, h.mono⟩
 | dict es ep => obtain ⟨kvs, e, h, q⟩ := h; exact ⟨kvs, e, h.mono, q⟩
 | dvals l => obtain ⟨a, e, h⟩ := h; exact ⟨a, cq e, h⟩
 | range a b c => exact h
 | set xs => exact h
 | inst c d sl => obtain ⟨dx, sx, e, h, q⟩ := h; exact ⟨dx, sx, cq e, h, q.mono⟩
 | idict fs => obtain ⟨es, n, e, h⟩ := h; exact ⟨es, n, e, h.mono⟩
 | liter l i => obtain ⟨a, e, h⟩ := h; exact ⟨a, cq e, h⟩
 | mnext l => obtain ⟨a, e, h⟩ := h; exact ⟨a, cq e, h⟩
 | exc c t => obtain ⟨a, vs, h1, h2, h3⟩ := h; exact ⟨a, vs, h1.mono, cq h2, h3⟩
 | dead => exact h
end
structure Cx where
 A : Around
 env : Env
 fenv : Env
 outer : List Env
 vars : List (Str × Nat)
 cells : List (Str × Nat × Addr)
 k : Nat
structure Cx.Ok (C : Cx) : Prop where
 fr : C.A.frames = some (C.fenv :: C.outer)
 kind : C.env.scope.kind = .function
 glob : C.env.globals = mainGlobals
 bltn : C.env.builtins = builtinsNs
 frame : C.env.frame = C.fenv.frame
 loc : ∀ p ∈ C.vars, C.env.kindOf p.1 = some .local
 cel : ∀ p ∈ C.cells, (C.env.kindOf p.1 = some .cell ∨ C.env.kindOf p.1 = some .free) ∧ C.env.cells.lookup p.1 = some p.2.2
 depth : C.A.depth + C.k < recursionLimit
 units : C.A.units + 8 * C.k + 100 < cLine
 uni : ∀ p ∈ C.vars, ∀ q ∈ C.vars, (p.1 = q.1 ↔ p.2 = q.2)
 unc : ∀ p ∈ C.cells, ∀ q ∈ C.cells, (p.2.2 = q.2.2 ↔ p.2.1 = q.2.1)
 dis : ∀ p ∈ C.vars, ∀ q ∈ C.cells, p.2 ≠ q.2.1
noncomputable def Cx.idx (C : Cx) : List Nat := C.vars.map (·.2) ++ C.cells.map (·.2.1)
inductive FrS (base h : Heap) (e : Env) : Prop
 | mk (k : e.scope.kind ≠ .module) (L : Addr) (o : Obj) (es : Array DictEntry) (n : Nat) (h1 : e.frame = some L) (h2 : base.get? L = none) (h3 : h.get? L = some o) (h4 : o.data = .dict es n)
noncomputable def z6 (base h : Heap) (l : List Env) : Prop := ∀ e ∈ l, FrS base h e
structure yN (ac : Heap) (mg mb : Str → Option Value) : Prop where
 g : ac.Ns mainGlobals mg
 b : ac.Ns builtinsNs mb
 nolimit : ac.NoLimit
 builtins : ∀ x : Str, x ≠ "__name__" → mb x = bootBuiltins x
noncomputable def zY (C : Cx) (ρ : List Addr) (a : Addr) : Prop := a ∈ ρ ∨ a = C.env.locals ∨ ∃ p ∈ C.cells, p.2.2 = a
inductive ObR (prog : Program) (w : World) (ρ : List Addr) (o : O) (h : Heap) (a : Addr) : Prop
 | mk (ob : Obj) (h1 : h.get? a = some ob) (h2 : z4 prog w ρ o ob)
inductive wV (ac : Heap) (L : Addr) (ρ : List Addr) (v : Option V) (h : Heap) (a : Addr) : Prop
 | mk (h1 : ac.get? a = none) (h2 : a ∉ ρ) (h3 : a ≠ L) (x : Option Value) (h4 : h.IsCell a x) (h5 : zT ρ v x)
inductive NsR (L : Addr) (vars : List (Str × Nat)) (ρ : List Addr) (loc : List (Option V)) (h : Heap) : Prop
 | mk (m : Str → Option Value) (h1 : h.Ns L m) (h2 : ∀ p ∈ vars, zT ρ (loc[p.2]?).join (m p.1))
theorem wV.n {ac : Heap} {L : Addr} {ρ : List Addr} {v : Option V} {h : Heap} {a : Addr} : wV ac L ρ v h a → a ∉ ρ
 | .mk _ h _ _ _ _ => h
theorem wV.l {ac : Heap} {L : Addr} {ρ : List Addr} {v : Option V} {h : Heap} {a : Addr} : wV ac L ρ v h a → a ≠ L
 | .mk _ _ h _ _ _ => h
theorem wV.of {ac : Heap} {L : Addr} {ρ : List Addr} {v : Option V} {h : Heap} {a : Addr} (h1 : ac.get? a = none) (h2 : a ∉ ρ) (h3 : a ≠ L) : (∃ x, h.IsCell a x ∧ zT ρ v x) → wV ac L ρ v h a
 | ⟨x, h4, h5⟩ => ⟨h1, h2, h3, x, h4, h5⟩
structure eh (prog : Program) (w : World) (ac : Heap) (ρ : List Addr) (H : List O) (s : Shared) : Prop where
 base : ac.StaysIn s.heap
 len : ρ.length = H.length
 obj : ∀ (l : Nat) (o : O) (a : Addr), H[l]? = some o → ρ[l]? = some a → ObR prog w ρ o s.heap a
 nodup : ρ.Nodup
 new : ∀ a ∈ ρ, ac.get? a = none
 sys : ∀ (l : Nat) (es : List (Int × V)) (ep : Nat) (a : Addr), H[l]? = some (.dict es ep) → ρ[l]? = some a → a ≠ sysModules
 main : ∃ o, ac.get? mainGlobals = some o
structure zX (prog : Program) (w : World) (ac : Heap) (C : Cx) (ρ : List Addr) (σ : St) (s : Shared) : Prop where
 hp : eh prog w ac ρ σ.heap s
 ns : NsR C.env.locals C.vars ρ σ.loc s.heap
 lnew : ac.get? C.env.locals = none ∧ C.env.locals ∉ ρ
 cel : ∀ p ∈ C.cells, wV ac C.env.locals ρ (σ.loc[p.2.1]?).join s.heap p.2.2
 frs : z6 ac s.heap (C.fenv :: C.outer)
 frn : ∀ e ∈ C.fenv :: C.outer, ∀ L, e.frame = some L → L ∉ ρ ∧ ∀ p ∈ C.cells, p.2.2 ≠ L
 locs : ∀ i ∈ C.idx, i < σ.loc.length
noncomputable def iS (o o' : Obj) : Prop := o' = o ∨ ((∃ es n, o.data = .dict es n) ∧ ∃ sl, o' = { o with slots := sl })
theorem iS.refl (o : Obj) : iS o o := .inl rfl
theorem iS.trans {a b c : Obj} (h : iS a b) (g : iS b c) : iS a c := by
 rcases h with rfl | ⟨h, sl, rfl⟩
 ·exact g
 ·rcases g with rfl | ⟨_, sl', rfl⟩
  ·exact .inr ⟨h, sl, rfl⟩
  ·exact .inr ⟨h, sl', rfl⟩
noncomputable def Pres (own : Addr → Prop) (s s' : Shared) : Prop := ∀ a o, s.heap.get? a = some o → ¬ own a → ∃ o', s'.heap.get? a = some o' ∧ iS o o'
noncomputable def rU (s s' : Shared) : Prop := s'.gens = s.gens ∧ s'.drawn = s.drawn ∧ s'.os = s.os
theorem rU.refl (s : Shared) : rU s s := ⟨rfl, rfl, rfl⟩
theorem rU.trans {a b c : Shared} (h : rU a b) (g : rU b c) : rU a c := ⟨g.1.trans h.1, g.2.1.trans h.2.1, g.2.2.trans h.2.2⟩
structure Step (prog : Program) (w : World) (ac : Heap) (C : Cx) (ρ : List Addr) (σ : St) (s : Shared) (ρ' : List Addr) (σ' : St) (s' : Shared) : Prop where
 rel : zX prog w ac C ρ' σ' s'
 ext : ∃ more, ρ' = ρ ++ more ∧ ∀ a ∈ more, s.heap.get? a = none
 pres : Pres (zY C ρ) s s'
 loc : ∀ i, i ∉ C.idx → σ'.loc[i]? = σ.loc[i]?
 rest : rU s s'
section
variable {prog : Program} {w : World} {ac : Heap} {C : Cx}
theorem Step.refl {ρ : List Addr} {σ : St} {s : Shared} (r : zX prog w ac C ρ σ s) : Step prog w ac C ρ σ s ρ σ s :=
 ⟨r, ⟨[], by simp, by simp⟩, fun _ o e _ => ⟨o, e, .refl o⟩, fun _ _ => rfl, .refl s⟩
theorem Step.trans {ρ ρ' ρ'' : List Addr} {σ σ' σ'' : St} {s s' s'' : Shared} (a : Step prog w ac C ρ σ s ρ' σ' s') (b : Step prog w ac C ρ' σ' s' ρ'' σ'' s'') : Step prog w ac C ρ σ s ρ'' σ'' s'' := by
 obtain ⟨m1, e1, n1⟩ := a.ext
 obtain ⟨m2, e2, n2⟩ := b.ext
 have alive : ∀ x o, s.heap.get? x = some o → ¬ zY C ρ x → ¬ zY C ρ' x := fun x o hx hn hx' => by
  rcases hx' with h | h
  ·rw [e1, List.mem_append] at h
   rcases h with h | h
   ·exact hn (.inl h)
   ·rw [n1 x h] at hx; cases hx
  ·exact hn (.inr h)
 refine ⟨b.rel, ⟨m1 ++ m2, by rw [e2, e1, List.append_assoc], fun x hx => ?_⟩, fun x o hx hn => ?_, fun i hi => (b.loc i hi).trans (a.loc i hi), a.rest.trans b.rest⟩
 ·rcases List.mem_append.mp hx with h | h
  ·exact n1 x h
  ·cases q : s.heap.get? x with
   | none => rfl
   | some o =>
    exfalso
    by_cases ho : zY C ρ x
    ·-- owned before: it lies in s' too
     rcases ho with h' | h' | ⟨p, hp, h'⟩
     ·have := b.rel.hp.nodup
      rw [e2] at this
      exact (List.nodup_append.mp this).2.2 x (e1 ▸ List.mem_append_left _ h') x h rfl
     ·subst h'
      exact b.rel.lnew.2 (e2 ▸ List.mem_append_right _ h)
     ·exact (b.rel.cel p hp).n (h' ▸ e2 ▸ List.mem_append_right _ h)
    ·obtain ⟨o', q', _⟩ := a.pres x o q ho
     rw [n2 x h] at q'; cases q'
 ·obtain ⟨o', h', e'⟩ := a.pres x o hx hn
  obtain ⟨o'', h'', e''⟩ := b.pres x o' h' (alive x o hx hn)
  exact ⟨o'', h'', e'.trans e''⟩
theorem Step.vr {ρ ρ' : List Addr} {σ σ' : St} {s s' : Shared} (a : Step prog w ac C ρ σ s ρ' σ' s') {v : V} {x : Value} (h : VR ρ v x) : VR ρ' v x := by
 obtain ⟨m, rfl, _⟩ := a.ext; exact h.mono
theorem Step.all {ρ ρ' : List Addr} {σ σ' : St} {s s' : Shared} (a : Step prog w ac C ρ σ s ρ' σ' s') {v : List V} {x : List Value} (h : bL ρ v x) : bL ρ' v x := by
 obtain ⟨m, rfl, _⟩ := a.ext; exact h.mono
inductive TbR (bG : Heap) (own : Addr → Prop) (h : Heap) (a : Addr) (vs : Array Value) : Prop
 | mk (T : Addr) (oT : Obj) (ts : Array Value) (e : vs[1]? = some (.ref T)) (h1 : T ≠ a) (h2 : bG.get? T = none) (h3 : ¬ own T) (h4 : h.get? T = some oT) (h5 : oT.data = .fields ts) (h6 : ts[3]? = some .none)
inductive cG (bG : Heap) (own : Addr → Prop) (ρ : List Addr) (c : V) (args : List V) (e : Value) (h : Heap) : Prop
 | mk (a : Addr) (oe : Obj) (vs : Array Value) (t : Addr) (as : List Value) (n : Nat) (e1 : e = .ref a) (h1 : bG.get? a = none) (h2 : ¬ own a) (h3 : h.get? a = some oe) (h4 : VR ρ c oe.cls) (h5 : oe.data = .fields vs) (h6 : vs[0]? = some (.ref t))
  (g1 : bG.get? t = none) (g2 : ¬ own t) (g3 : h.get? t = some { cls := .type "tuple", data := .seq (List.toArray as) n }) (g4 : bL ρ args as) (tb : vs[1]? = some .none ∨ TbR bG own h a vs)
noncomputable def z3 (prog : Program) (w : World) (ac : Heap) (C : Cx) {α β : Type} (R : List Addr → β → α → Prop) (ρ : List Addr) (σ : St) (s : Shared) (o : zZ β) (v : α) (s' : Shared) : Prop :=
 match o with
 | .ok b σ' => ∃ ρ', R ρ' b v ∧ Step prog w ac C ρ σ s ρ' σ' s'
 | _ => False
noncomputable def z7 (prog : Program) (w : World) (ac : Heap) (C : Cx) {β : Type} (ρ : List Addr) (σ : St) (s : Shared) (o : zZ β) (e : Value) (s' : Shared) : Prop :=
 match o with
 | .exc c args σ' => ∃ ρ', cG s.heap (zY C ρ') ρ' c args e s'.heap ∧ Step prog w ac C ρ σ s ρ' σ' s'
 | _ => False
noncomputable def zW (prog : Program) (w : World) (ac : Heap) (C : Cx) {α β : Type} (R : List Addr → β → α → Prop) (m : St → zZ β) (t : Sem α) : Prop := ∀ ρ σ s, zX prog w ac C ρ σ s → m σ ≠ .bad → wpAny (model prog w) C.A t (z3 prog w ac C R ρ σ s (m σ)) (z7 prog w ac C ρ σ s (m σ)) s
end
section
variable {prog : Program} {w : World} {ac : Heap} {C : Cx} {ρ ρ' : List Addr} {σ σ' : St} {s s' : Shared} {α β γ δ : Type}
theorem eh.at {H : List O} (r : eh prog w ac ρ H s) {l : Nat} {o : O} (h : H[l]? = some o) : ∃ a ob, ρ[l]? = some a ∧ a ∈ ρ ∧ s.heap.get? a = some ob ∧ z4 prog w ρ o ob := by
 obtain ⟨hl, _⟩ := List.getElem?_eq_some_iff.mp h
 have hl' : l < ρ.length := r.len ▸ hl
 have e : ρ[l]? = some ρ[l] := List.getElem?_eq_getElem hl'
 obtain ⟨ob, h1, h2⟩ := r.obj l o _ h e
 exact ⟨ρ[l], ob, e, List.getElem_mem hl', h1, h2⟩
theorem eh.keep {H : List O} (r : eh prog w ac ρ H s) (k : ∀ a o, s.heap.get? a = some o → (ac.get? a ≠ none ∨ a ∈ ρ) → s'.heap.get? a = some o) : eh prog w ac ρ H s' :=
 ⟨fun b o e => k b o (r.base b o e) (.inl (by rw [e]; simp)), r.len, fun l o a h e => by
  obtain ⟨ob, h1, h2⟩ := r.obj l o a h e
  exact ⟨ob, k a ob h1 (.inr (List.mem_of_getElem? e)), h2⟩, r.nodup, r.new, r.sys, r.main⟩
theorem d7 {h h' : Heap} {a : Addr} {m : Str → Option Value} (x : h.Ns a m) (k : ∀ o, h.get? a = some o → ∃ o', h'.get? a = some o' ∧ iS o o') : h'.Ns a m := by
 obtain ⟨o, es, ep, ho, hd, r⟩ := x
 obtain ⟨o', ho', hs⟩ := k o ho
 refine ⟨o', es, ep, ho', ?_, r⟩
 rcases hs with rfl | ⟨_, sl, rfl⟩ <;> exact hd
theorem dt {h h' : Heap} {l : List Env} (x : z6 ac h l) (k : ∀ e ∈ l, ∀ L, e.frame = some L → ∀ o, h.get? L = some o → ∃ o', h'.get? L = some o' ∧ iS o o') : z6 ac h' l := by
 intro e he
 obtain ⟨hk, L, o, es, n, hf, hb, ho, hd⟩ := x e he
 obtain ⟨o', ho', hs⟩ := k e he L hf o ho
 refine ⟨hk, L, o', es, n, hf, hb, ho', ?_⟩
 rcases hs with rfl | ⟨_, sl, rfl⟩ <;> assumption
theorem zX.keepUp (r : zX prog w ac C ρ σ s) (k : ∀ a o, s.heap.get? a = some o → ∃ o', s'.heap.get? a = some o' ∧ iS o o') (kb : ∀ a o, s.heap.get? a = some o → (ac.get? a ≠ none ∨ a ∈ ρ) → s'.heap.get? a = some o)
  (q : rU s s') : Step prog w ac C ρ σ s ρ σ s' := by
 refine ⟨⟨r.hp.keep kb, ?_, r.lnew, fun p hp => ?_, dt r.frs fun e _ L _ o ho => k L o ho, r.frn, r.locs⟩, ⟨[], by simp, by simp⟩, fun a o e _ => k a o e, fun _ _ => rfl, q⟩
 ·obtain ⟨m, hm, hv⟩ := r.ns
  exact ⟨m, d7 hm fun o ho => k _ o ho, hv⟩
 ·obtain ⟨h1, h2, h3, v, h4, h5⟩ := r.cel p hp
  obtain ⟨o, ho, hd⟩ := h4
  obtain ⟨o', e', hs⟩ := k _ _ ho
  refine ⟨h1, h2, h3, v, ⟨o', e', ?_⟩, h5⟩
  rcases hs with rfl | ⟨hc, sl, rfl⟩ <;> exact hd
theorem zX.keep (r : zX prog w ac C ρ σ s) (k : ∀ a o, s.heap.get? a = some o → s'.heap.get? a = some o) (q : rU s s') : Step prog w ac C ρ σ s ρ σ s' :=
 r.keepUp (fun a o e => ⟨o, k a o e, .refl o⟩) (fun a o e _ => k a o e) q
theorem zX.toks (r : zX prog w ac C ρ σ s) (t : Nat) : Step prog w ac C ρ σ s ρ σ { s with toks := t } := r.keep (fun _ _ e => e) ⟨rfl, rfl, rfl⟩
theorem zX.grow (r : zX prog w ac C ρ σ s) (ob : Obj) (t : Nat) : Step prog w ac C ρ σ s ρ σ { s with heap := s.heap.push ob, toks := t } := r.keep (fun _ _ e => Heap.get?_push_of_some _ e) ⟨rfl, rfl, rfl⟩
theorem eh.fresh {H : List O} (r : eh prog w ac ρ H s) : s.heap.objs.size ∉ ρ := fun hm => by
 obtain ⟨l, hl, e⟩ := List.mem_iff_getElem.mp hm
 have e' : ρ[l]? = some s.heap.objs.size := by rw [List.getElem?_eq_getElem hl, e]
 have hl2 : l < H.length := r.len ▸ hl
 obtain ⟨ob, h1, _⟩ := r.obj l _ _ (List.getElem?_eq_getElem hl2) e'
 exact Nat.lt_irrefl _ (Heap.lt_size h1)
theorem eh.notSys {H : List O} (r : eh prog w ac ρ H s) : s.heap.objs.size ≠ sysModules := by
 obtain ⟨o, ho⟩ := r.main
 have h3 : 3 < s.heap.objs.size := Heap.lt_size (r.base _ _ ho)
 exact Nat.ne_of_gt (Nat.lt_trans (by decide : 1 < 3) h3)
theorem eh.alloc {H : List O} (r : eh prog w ac ρ H s) {o : O} {ob : Obj} {t : Nat} (hf : ob.isFreed = false) (ho : z4 prog w (ρ ++ [s.heap.objs.size]) o ob) :
  eh prog w ac (ρ ++ [s.heap.objs.size]) (H ++ [o]) { s with heap := s.heap.push ob, toks := t } := by
 refine ⟨fun b o e => Heap.get?_push_of_some _ (r.base b o e), by simp [r.len], fun l o' a h e => ?_, ?_, fun a ha => ?_, ?_, r.main⟩
 ·by_cases hl : l < ρ.length
  ·rw [List.getElem?_append_left hl] at e
   rw [List.getElem?_append_left (r.len ▸ hl)] at h
   obtain ⟨ob', h1, h2⟩ := r.obj l o' a h e
   exact ⟨ob', Heap.get?_push_of_some _ h1, h2.mono⟩
  ·have hl' : l = ρ.length := by
    have := (List.getElem?_eq_some_iff.mp e).1
    simp at this; lia
   subst hl'
   rw [List.getElem?_append_right (Nat.le_refl _)] at e
   rw [r.len, List.getElem?_append_right (Nat.le_refl _)] at h
   simp at e h
   subst e h
   exact ⟨ob, Heap.get?_push_size _ hf, ho⟩
 ·exact List.nodup_append.mpr ⟨r.nodup, by simp, fun a ha b hb => by simp at hb; subst hb; intro e; subst e; exact r.fresh ha⟩
 ·rcases List.mem_append.mp ha with h | h
  ·exact r.new a h
  ·simp at h; subst h; exact r.base.fresh
 ·intro l es ep a h e
  by_cases hl : l < ρ.length
  ·rw [List.getElem?_append_left hl] at e
   rw [List.getElem?_append_left (r.len ▸ hl)] at h
   exact r.sys l es ep a h e
  ·have hl' : l = ρ.length := by
    have := (List.getElem?_eq_some_iff.mp e).1
    simp at this; lia
   subst hl'
   rw [List.getElem?_append_right (Nat.le_refl _)] at e
   simp at e
   subst e
   exact r.notSys
theorem zX.alloc (r : zX prog w ac C ρ σ s) {o : O} {ob : Obj} {t : Nat} (hf : ob.isFreed = false) (ho : z4 prog w (ρ ++ [s.heap.objs.size]) o ob) :
  Step prog w ac C ρ σ s (ρ ++ [s.heap.objs.size]) { σ with heap := σ.heap ++ [o] } { s with heap := s.heap.push ob, toks := t } := by
 have kp : ∀ a o, s.heap.get? a = some o → (s.heap.push ob).get? a = some o := fun _ _ e => Heap.get?_push_of_some _ e
 have ne : ∀ {a : Addr} {o : Obj}, s.heap.get? a = some o → a ≠ s.heap.objs.size := fun e => Nat.ne_of_lt (Heap.lt_size e)
 refine ⟨⟨r.hp.alloc hf ho, ?_, ⟨r.lnew.1, ?_⟩, fun p hp => ?_, dt r.frs fun _ _ L _ o e => ⟨o, kp L o e, .refl o⟩, fun e he L hL => ⟨?_, (r.frn e he L hL).2⟩, r.locs⟩, ⟨[s.heap.objs.size], rfl, fun a ha => ?_⟩, fun a o e _ => ⟨o, kp a o e, .refl o⟩, fun _ _ => rfl, ⟨rfl, rfl, rfl⟩⟩
 ·obtain ⟨m, hm, hv⟩ := r.ns
  exact ⟨m, hm.keeps kp, fun p hp => (hv p hp).mono⟩
 ·obtain ⟨m, hm, hv⟩ := r.ns
  intro h
  rcases List.mem_append.mp h with h | h
  ·exact r.lnew.2 h
  ·simp at h; exact Nat.lt_irrefl _ (h ▸ hm.lt)
 ·obtain ⟨g1, g2, g3, v, g4, g5⟩ := r.cel p hp
  refine ⟨g1, fun h => ?_, g3, v, g4.keeps kp, g5.mono⟩
  rcases List.mem_append.mp h with h | h
  ·exact g2 h
  ·obtain ⟨o, ho, _⟩ := g4
   simp at h; exact ne ho h
 ·obtain ⟨_, L', o, es, n, hf', _, ho', _⟩ := r.frs e he
  rw [hL] at hf'; cases hf'
  intro h
  rcases List.mem_append.mp h with h | h
  ·exact (r.frn e he L hL).1 h
  ·simp at h; exact ne ho' h
 ·simp at ha; subst ha; exact Heap.get?_none_of_le (Nat.le_refl _)
theorem iy {l : List Addr} (h : l.Nodup) {i j : Nat} {a : Addr} (hi : l[i]? = some a) (hj : l[j]? = some a) : i = j := by
 obtain ⟨hi', ei⟩ := List.getElem?_eq_some_iff.mp hi
 obtain ⟨hj', ej⟩ := List.getElem?_eq_some_iff.mp hj
 have hp := List.pairwise_iff_getElem.mp h
 rcases Nat.lt_trichotomy i j with q | q | q
 ·exact absurd (ei.trans ej.symm) (hp i j hi' hj' q)
 ·exact q
 ·exact absurd (ej.trans ei.symm) (hp j i hj' hi' q)
theorem eh.upd {H : List O} (r : eh prog w ac ρ H s) {l : Nat} {a : Addr} {o : O} {ob : Obj} {h' : Heap} {t : Nat} (hl : ρ[l]? = some a) (hs : Heap.SameBut a s.heap h') (hg : h'.get? a = some ob) (ho : z4 prog w ρ o ob) (hsy : ∀ es ep, o = .dict es ep → a ≠ sysModules := by nofun) :
  eh prog w ac ρ (H.set l o) { s with heap := h', toks := t } := by
 have ha : ac.get? a = none := (r.new a (List.mem_of_getElem? hl))
 refine ⟨fun b o' e => (hs.2 b (by rintro rfl; rw [ha] at e; cases e)).trans (r.base b o' e), by simp [r.len], fun j o' b h e => ?_, r.nodup, r.new, fun j es ep b h e => ?_, r.main⟩
 rotate_left
 ·by_cases hj : l = j
  ·subst hj
   rw [hl] at e; cases e
   rw [List.getElem?_set] at h
   simp only [if_true] at h
   split at h
   ·cases h; exact hsy _ _ rfl
   ·cases h
  ·rw [List.getElem?_set_ne hj] at h
   exact r.sys j es ep b h e
 by_cases hj : l = j
 ·subst hj
  rw [hl] at e; cases e
  rw [List.getElem?_set] at h
  simp only [if_true] at h
  split at h
  ·cases h; exact ⟨ob, hg, ho⟩
  ·cases h
 ·rw [List.getElem?_set_ne hj] at h
  obtain ⟨ob', h1, h2⟩ := r.obj j o' b h e
  have hne : b ≠ a := fun q => hj (iy r.nodup hl (q ▸ e))
  exact ⟨ob', (hs.2 b hne).trans h1, h2⟩
theorem zX.upd (r : zX prog w ac C ρ σ s) {l : Nat} {a : Addr} {o : O} {ob : Obj} {h' : Heap} {t : Nat} (hl : ρ[l]? = some a) (hs : Heap.SameBut a s.heap h') (hg : h'.get? a = some ob) (ho : z4 prog w ρ o ob) (hsy : ∀ es ep, o = .dict es ep → a ≠ sysModules := by nofun) :
  Step prog w ac C ρ σ s ρ { σ with heap := σ.heap.set l o } { s with heap := h', toks := t } := by
 have hm := List.mem_of_getElem? hl
 have ot : ∀ {b : Addr}, b ∉ ρ → h'.get? b = s.heap.get? b := fun {b} hb => hs.2 b (by rintro rfl; exact hb hm)
 refine ⟨⟨r.hp.upd hl hs hg ho hsy, ?_, r.lnew, fun p hp => ?_, dt r.frs fun e he L hL o e' => ⟨o, (ot (r.frn e he L hL).1).trans e', .refl o⟩, r.frn, r.locs⟩, ⟨[], by simp, by simp⟩, fun b o' e hb => ⟨o', (ot fun h => hb (.inl h)).trans e, .refl o'⟩, fun _ _ => rfl, ⟨rfl, rfl, rfl⟩⟩
 ·obtain ⟨m, hm', hv⟩ := r.ns
  exact ⟨m, d7 hm' fun o e => ⟨o, (ot r.lnew.2).trans e, .refl o⟩, hv⟩
 ·obtain ⟨g1, g2, g3, v, g4, g5⟩ := r.cel p hp
  obtain ⟨o, ho, hd⟩ := g4
  exact ⟨g1, g2, g3, v, ⟨o, (ot g2).trans ho, hd⟩, g5⟩
theorem ii {l : List (Option V)} {i j : Nat} {v : V} (h : i < l.length) : ((l.set i (some v))[j]?).join = if i = j then some v else (l[j]?).join := by
 rw [List.getElem?_set]
 by_cases e : i = j
 ·subst e; simp [h]
 ·simp [e]
theorem zX.store (ok : C.Ok) (r : zX prog w ac C ρ σ s) {x : Str} {i : Nat} {v : V} {v' : Value} {m : Str → Option Value} {h' : Heap} {t : Nat} (hx : (x, i) ∈ C.vars) (hv : VR ρ v v') (hm : s.heap.Ns C.env.locals m) (hvs : ∀ p ∈ C.vars, zT ρ (σ.loc[p.2]?).join (m p.1))
  (hn : h'.Ns C.env.locals (fun y => if y = x then some v' else m y)) (hs : Heap.SameBut C.env.locals s.heap h') :
  Step prog w ac C ρ σ s ρ { σ with loc := σ.loc.set i (some v) } { s with heap := h', toks := t } := by
 have hi : i ∈ C.idx := by unfold Cx.idx; exact List.mem_append_left _ (List.mem_map.mpr ⟨_, hx, rfl⟩)
 have hil := r.locs i hi
 have ot : ∀ {b : Addr}, b ≠ C.env.locals → h'.get? b = s.heap.get? b := fun hb => hs.2 _ hb
 have fr : ∀ e ∈ C.fenv :: C.outer, ∀ L, e.frame = some L → L ≠ C.env.locals → h'.get? L = s.heap.get? L := fun _ _ L _ hL => ot hL
 refine ⟨⟨⟨fun b o e => (ot (by rintro rfl; rw [r.lnew.1] at e; cases e)).trans (r.hp.base b o e), r.hp.len, fun l o a h e => ?_, r.hp.nodup, r.hp.new, r.hp.sys, r.hp.main⟩, ⟨_, hn, fun p hp => ?_⟩, r.lnew, fun p hp => ?_, ?_, r.frn, fun j hj => by simpa using r.locs j hj⟩,
  ⟨[], by simp, by simp⟩, fun b o e hb => ⟨o, (ot fun q => hb (.inr (.inl q))).trans e, .refl o⟩, fun j hj => ?_, ⟨rfl, rfl, rfl⟩⟩
 ·obtain ⟨ob, h1, h2⟩ := r.hp.obj l o a h e
  exact ⟨ob, (ot (by rintro rfl; exact r.lnew.2 (List.mem_of_getElem? e))).trans h1, h2⟩
 ·have := hvs p hp
  have hu := ok.uni (x, i) hx p hp
  dsimp only at hu ⊢
  rw [ii hil]
  by_cases e : i = p.2
  ·rw [if_pos e, if_pos (hu.mpr e).symm]
   exact ⟨v', rfl, hv⟩
  ·rw [if_neg e, if_neg fun q => e (hu.mp q.symm)]
   exact this
 ·obtain ⟨g1, g2, g3, v0, ⟨o, ho, hd⟩, g5⟩ := r.cel p hp
  refine ⟨g1, g2, g3, v0, ⟨o, (ot g3).trans ho, hd⟩, ?_⟩
  dsimp only
  rw [ii hil, if_neg (ok.dis (x, i) hx p hp)]
  exact g5
 ·intro e he
  obtain ⟨hk, L, o, es, n, hf, hb, ho, hd⟩ := r.frs e he
  by_cases hL : L = C.env.locals
  ·subst hL
   obtain ⟨o', es', ep', ho', hd', _⟩ := hn
   exact ⟨hk, _, o', es', ep', hf, hb, ho', hd'⟩
  ·exact ⟨hk, L, o, es, n, hf, hb, (ot hL).trans ho, hd⟩
 ·dsimp only
  rw [List.getElem?_set_ne]
  rintro rfl; exact hj hi
theorem zX.storeCell (ok : C.Ok) (r : zX prog w ac C ρ σ s) {x : Str} {i : Nat} {a : Addr} {v : V} {v' : Value} {h' : Heap} {t : Nat} (hx : (x, i, a) ∈ C.cells) (hv : VR ρ v v')
  (hn : h'.IsCell a (some v')) (hs : Heap.SameBut a s.heap h') :
  Step prog w ac C ρ σ s ρ { σ with loc := σ.loc.set i (some v) } { s with heap := h', toks := t } := by
 have hi : i ∈ C.idx := by unfold Cx.idx; exact List.mem_append_right _ (List.mem_map.mpr ⟨_, hx, rfl⟩)
 have hil := r.locs i hi
 obtain ⟨a1, a2, a3, _, _, _⟩ := r.cel _ hx
 dsimp only at a1 a2 a3
 have ot : ∀ {b : Addr}, b ≠ a → h'.get? b = s.heap.get? b := fun hb => hs.2 _ hb
 refine ⟨⟨⟨fun b o e => (ot (by rintro rfl; rw [a1] at e; cases e)).trans (r.hp.base b o e), r.hp.len, fun l o b h e => ?_, r.hp.nodup, r.hp.new, r.hp.sys, r.hp.main⟩, ?_, r.lnew, fun p hp => ?_, ?_, r.frn, fun j hj => by simpa using r.locs j hj⟩,
  ⟨[], by simp, by simp⟩, fun b o e hb => ⟨o, (ot fun q => hb (.inr (.inr ⟨_, hx, q.symm⟩))).trans e, .refl o⟩, fun j hj => ?_, ⟨rfl, rfl, rfl⟩⟩
 ·obtain ⟨ob, h1, h2⟩ := r.hp.obj l o b h e
  exact ⟨ob, (ot (by rintro rfl; exact a2 (List.mem_of_getElem? e))).trans h1, h2⟩
 ·obtain ⟨m, hm, hvs⟩ := r.ns
  refine ⟨m, d7 hm fun o e => ⟨o, (ot (Ne.symm a3)).trans e, .refl o⟩, fun p hp => ?_⟩
  dsimp only
  rw [ii hil, if_neg (Ne.symm (ok.dis p hp _ hx))]
  exact hvs p hp
 ·obtain ⟨g1, g2, g3, v0, ⟨o, ho, hd⟩, g5⟩ := r.cel p hp
  have hu := ok.unc _ hx p hp
  dsimp only at hu ⊢
  by_cases e : a = p.2.2
  ·refine ⟨g1, g2, g3, some v', e ▸ hn, ?_⟩
   rw [ii hil, if_pos (hu.mp e)]
   exact ⟨v', rfl, hv⟩
  ·refine ⟨g1, g2, g3, v0, ⟨o, (ot (Ne.symm e)).trans ho, hd⟩, ?_⟩
   rw [ii hil, if_neg fun q => e (hu.mpr q)]
   exact g5
 ·exact dt r.frs fun e he L hL o e' => ⟨o, (ot (Ne.symm ((r.frn e he L hL).2 _ hx))).trans e', .refl o⟩
 ·dsimp only
  rw [List.getElem?_set_ne]
  rintro rfl; exact hj hi
noncomputable abbrev At (prog : Program) (w : World) (ac : Heap) (C : Cx) (R : List Addr → β → α → Prop) (ρ : List Addr) (σ : St) (s : Shared) (o : zZ β) (t : Sem α) : Prop := o ≠ .bad → wpAny (model prog w) C.A t (z3 prog w ac C R ρ σ s o) (z7 prog w ac C ρ σ s o) s
theorem z3.trans {R : List Addr → β → α → Prop} {o : zZ β} {v : α} {s'' : Shared} (st : Step prog w ac C ρ σ s ρ' σ' s') (h : z3 prog w ac C R ρ' σ' s' o v s'') : z3 prog w ac C R ρ σ s o v s'' := by
 cases o with
 | ok b σ'' => obtain ⟨ρ'', hr, st'⟩ := h; exact ⟨ρ'', hr, st.trans st'⟩
 | exc => exact h
 | bad => exact h
theorem bo (r : zX prog w ac C ρ σ s) : ∀ a, zY C ρ a → s.heap.get? a ≠ none := by
 rintro a (h | h | ⟨p, hp, h⟩)
 ·obtain ⟨l, hl, e⟩ := List.mem_iff_getElem.mp h
  have e' : ρ[l]? = some a := by rw [List.getElem?_eq_getElem hl, e]
  have hl2 : l < σ.heap.length := r.hp.len ▸ hl
  obtain ⟨ob, h1, _⟩ := r.hp.obj l _ _ (List.getElem?_eq_getElem hl2) e'
  rw [h1]; simp
 ·subst h
  obtain ⟨m, ⟨o, _, _, ho, _⟩, _⟩ := r.ns
  rw [ho]; simp
 ·subst h
  obtain ⟨_, _, _, v, ⟨o, ho, _⟩, _⟩ := r.cel p hp
  rw [ho]; simp
theorem Step.live (st : Step prog w ac C ρ σ s ρ' σ' s') {a : Addr} (h : s.heap.get? a ≠ none) : s'.heap.get? a ≠ none := by
 obtain ⟨o, ho⟩ := Option.ne_none_iff_exists'.mp h
 by_cases hw : zY C ρ a
 ·obtain ⟨m, e, _⟩ := st.ext
  refine bo st.rel a ?_
  rcases hw with q | q
  ·exact .inl (e ▸ List.mem_append_left _ q)
  ·exact .inr q
 ·obtain ⟨o', ho', _⟩ := st.pres a o ho hw
  rw [ho']; simp
noncomputable abbrev wR (o : Obj) : Prop := (∃ vs, o.data = .fields vs) ∨ ∃ vs n, o.data = .seq vs n
theorem cG.map {bG lq h h' : Heap} {own own' : Addr → Prop} {c : V} {args : List V} {e : Value} (f : cG lq own' ρ c args e h) (kc : ∀ x, VR ρ c x → VR ρ' c x) (ka : ∀ xs, bL ρ args xs → bL ρ' args xs)
  (k : ∀ a o, lq.get? a = none → ¬ own' a → h.get? a = some o → wR o → bG.get? a = none ∧ ¬ own a ∧ h'.get? a = some o) : cG bG own ρ' c args e h' := by
 obtain ⟨a, oe, vs, t, as, n, e1, ha, hao, hoe, hc, hd, h0, ht, hto, htt, has, hv1⟩ := f
 have ka1 := k a oe ha hao hoe (.inl ⟨_, hd⟩)
 have kt := k t _ ht hto htt (.inr ⟨_, _, rfl⟩)
 refine ⟨a, oe, vs, t, as, n, e1, ka1.1, ka1.2.1, ka1.2.2, kc _ hc, hd, h0, kt.1, kt.2.1, kt.2.2, ka _ has, hv1.imp_right ?_⟩
 intro ⟨T, oT, ts, h1, h2, h3, h4, h5, h6, h7⟩
 have kT := k T oT h3 h4 h5 (.inl ⟨_, h6⟩)
 exact ⟨T, oT, ts, h1, h2, kT.1, kT.2.1, kT.2.2, h6, h7⟩
theorem cG.before {bG lq h : Heap} {own : Addr → Prop} {c : V} {args : List V} {e : Value} (f : cG lq own ρ c args e h) (k : ∀ a, bG.get? a ≠ none → lq.get? a ≠ none) : cG bG own ρ c args e h :=
 f.map (fun _ h => h) (fun _ h => h) fun a _ h1 h2 h3 _ => ⟨Classical.byContradiction fun q => k a q h1, h2, h3⟩
theorem z7.trans {o : zZ β} {e : Value} {s'' : Shared} (st : Step prog w ac C ρ σ s ρ' σ' s') (h : z7 prog w ac C ρ' σ' s' o e s'') : z7 prog w ac C ρ σ s o e s'' := by
 cases o with
 | exc c as σ'' => obtain ⟨ρ'', hr, st'⟩ := h; exact ⟨ρ'', hr.before fun _ => st.live, st.trans st'⟩
 | ok => exact h
 | bad => exact h
theorem At.trans {R : List Addr → β → α → Prop} {o : zZ β} {t : Sem α} (st : Step prog w ac C ρ σ s ρ' σ' s') (h : At prog w ac C R ρ' σ' s' o t) (hb : o ≠ .bad) :
  wpAny (model prog w) C.A t (z3 prog w ac C R ρ σ s o) (z7 prog w ac C ρ σ s o) s' := wpAny_mono (h hb) (fun _ _ => z3.trans st) (fun _ _ => z7.trans st)
theorem At.next {R : List Addr → β → α → Prop} {m : zZ β} {t : Sem α} {f : β → St → zZ γ} {Q : α → Shared → Prop} {v : zZ γ} (h : At prog w ac C R ρ σ s m t) (e : v = m.bind f) (hb : v ≠ .bad)
  (k : ∀ b ae aw az a, m = .ok b ae → R aw b a → Step prog w ac C ρ σ s aw ae az → v = f b ae → Q a az) :
  wpAny (model prog w) C.A t Q (z7 prog w ac C ρ σ s v) s := by
 subst e
 refine wpAny_mono (h fun q => hb (by rw [q]; rfl)) (fun a az ac => ?_) fun e az ac => ?_
 ·cases m with
  | ok b ae => obtain ⟨aw, hr, st⟩ := ac; exact k b ae aw az a rfl hr st rfl
  | exc => exact ac.elim
  | bad => exact ac.elim
 ·cases m with
  | exc c as ae => exact ac
  | ok => exact ac.elim
  | bad => exact ac.elim
theorem zx {R : List Addr → β → α → Prop} {b : β} {v : α} (hr : R ρ' b v) (st : Step prog w ac C ρ σ s ρ' σ' s') : z3 prog w ac C R ρ σ s (.ok b σ') v s' := ⟨ρ', hr, st⟩
theorem zW.at {R : List Addr → β → α → Prop} {m : St → zZ β} {t : Sem α} (h : zW prog w ac C R m t) (r : zX prog w ac C ρ σ s) : At prog w ac C R ρ σ s (m σ) t := h ρ σ s r
end
noncomputable abbrev bi (prog : Program) (w : World) (ac : Heap) (C : Cx) (m : St → zZ V) (t : Sem Value) : Prop := zW prog w ac C VR m t
noncomputable def t9 (prog : Program) (w : World) (ac : Heap) (C : Cx) {α β : Type} (R : List Addr → β → α → Prop) (f : V → St → zZ β) (t : Value → Sem α) : Prop := ∀ ρ σ s a a', zX prog w ac C ρ σ s → VR ρ a a' → At prog w ac C R ρ σ s (f a σ) (t a')
noncomputable def yO (prog : Program) (w : World) (ac : Heap) (C : Cx) {α β : Type} (R : List Addr → β → α → Prop) (f : V → V → St → zZ β) (t : Value → Value → Sem α) : Prop := ∀ ρ σ s a a' b b', zX prog w ac C ρ σ s → VR ρ a a' → VR ρ b b' → At prog w ac C R ρ σ s (f a b σ) (t a' b')
noncomputable def gM : List Addr → Bool → Bool → Prop := fun _ b c => c = b
noncomputable def fZ : List Addr → Unit → Unit → Prop := fun _ _ _ => True
section
variable {prog : Program} {w : World} {ac : Heap} {C : Cx}
noncomputable def ai (i : Nat) : St → zZ V := fun σ => match (σ.loc[i]?).join with
 | some v => .ok v σ
 | none => .bad
theorem u3 (ok : C.Ok) {x : Str} {i : Nat} {pos : Pos} (hx : (x, i) ∈ C.vars) (hd : (x == ("__debug__" : Str)) = false) : bi prog w ac C (ai i) (eval (.Name x pos) C.env) := by
 intro ρ σ s r hb
 obtain ⟨m, hm, hv⟩ := r.ns
 have hvx := hv (x, i) hx
 unfold ai at hb ⊢
 cases q : (σ.loc[i]?).join with
 | none => rw [q] at hb; exact absurd rfl hb
 | some v =>
  simp only [q] at hvx hb ⊢
  obtain ⟨y, e, hy⟩ := hvx
  exact wpAny_Name (wpAny_loadName_local ok.kind (ok.loc _ hx) hm e (zx hy (.refl r))) hd
theorem sr (ok : C.Ok) {x : Str} {i : Nat} {a : Addr} {pos : Pos} (hx : (x, i, a) ∈ C.cells) (hd : (x == ("__debug__" : Str)) = false) (hq : (x == ("__classdict__" : Str)) = false) : bi prog w ac C (ai i) (eval (.Name x pos) C.env) := by
 intro ρ σ s r hb
 obtain ⟨_, _, _, v, hc, hv⟩ := r.cel _ hx
 unfold ai at hb ⊢
 cases q : (σ.loc[i]?).join with
 | none => rw [q] at hb; exact absurd rfl hb
 | some v' =>
  simp only [q] at hv hb ⊢
  obtain ⟨y, e, hy⟩ := hv
  subst e
  obtain ⟨hk, hl⟩ := ok.cel _ hx
  have ic : s.heap.IsCell a (some y) := hc
  rcases hk with hk | hk
  ·exact wpAny_Name (wpAny_loadName_cell ok.kind hk hl ic (zx hy (.refl r))) hd
  ·exact wpAny_Name (wpAny_loadName_free ok.kind hk hl ic (zx hy (.refl r)) hq) hd
end
section
variable {α β γ : Type}
noncomputable def gc (vs : List V) (k : V → List V → zZ β) : zZ β := match vs with
 | a :: as => k a as
 | [] => .bad
noncomputable def g0 (vs : List V) (k : zZ β) : zZ β := match vs with
 | [] => k
 | _ => .bad
noncomputable def g1 (vs : List V) (k : V → zZ β) : zZ β := gc vs fun a as => g0 as (k a)
noncomputable def g2 (vs : List V) (k : V → V → zZ β) : zZ β := gc vs fun a as => g1 as (k a)
noncomputable def gO (o : Option γ) (k : γ → zZ β) : zZ β := match o with
 | some x => k x
 | none => .bad
noncomputable def zO (v : V) : Option (Int) := match v with | .int i => some i | _ => none
noncomputable def zL (v : V) : Option (Str) := match v with | .str x => some x | _ => none
noncomputable def asB (v : V) : Option (Bool) := match v with | .bool b => some b | _ => none
noncomputable def asY (v : V) : Option (Array UInt8) := match v with | .bytes b => some b | _ => none
noncomputable def asT (v : V) : Option (String) := match v with | .type n => some n | _ => none
noncomputable def zM (v : V) : Option (Nat) := match v with | .ref l => some l | _ => none
noncomputable def zN (o : O) : Option (List V) := match o with | .list xs => some xs | _ => none
noncomputable def zK (o : O) : Option (List V) := match o with | .tup xs => some xs | _ => none
noncomputable def zQ (o : O) : Option (List (Int × V) × Nat) := match o with | .dict es ep => some (es, ep) | _ => none
noncomputable def zP (o : O) : Option (List Int) := match o with | .set xs => some xs | _ => none
theorem bR {X Y : Type} {f : X → Option Y} {g : Y → X} (h : ∀ v, f v = none ∨ (f v).map g = some v) {v : X} {i : Y} (e : f v = some i) : v = g i := by
 rcases h v with q | q <;> rw [e] at q
 ·exact absurd q (Option.some_ne_none i)
 ·exact (Option.some.inj q).symm
theorem uM (v : V) : zO v = none ∨ (zO v).map .int = some v := by cases v <;> first | exact .inl rfl | exact .inr rfl
theorem lI (v : V) : zL v = none ∨ (zL v).map .str = some v := by cases v <;> first | exact .inl rfl | exact .inr rfl
theorem yJ (v : V) : asB v = none ∨ (asB v).map .bool = some v := by cases v <;> first | exact .inl rfl | exact .inr rfl
theorem yF (v : V) : asY v = none ∨ (asY v).map .bytes = some v := by cases v <;> first | exact .inl rfl | exact .inr rfl
theorem yH (v : V) : asT v = none ∨ (asT v).map .type = some v := by cases v <;> first | exact .inl rfl | exact .inr rfl
theorem iN (v : V) : zM v = none ∨ (zM v).map .ref = some v := by cases v <;> first | exact .inl rfl | exact .inr rfl
theorem jt (o : O) : zN o = none ∨ (zN o).map .list = some o := by cases o <;> first | exact .inl rfl | exact .inr rfl
theorem oq (o : O) : zK o = none ∨ (zK o).map .tup = some o := by cases o <;> first | exact .inl rfl | exact .inr rfl
theorem rI (o : O) : zQ o = none ∨ (zQ o).map (fun p => .dict p.1 p.2) = some o := by cases o <;> first | exact .inl rfl | exact .inr rfl
theorem uO (o : O) : zP o = none ∨ (zP o).map .set = some o := by cases o <;> first | exact .inl rfl | exact .inr rfl
noncomputable def gI (v : V) (k : Int → zZ β) : zZ β := gO (zO v) k
noncomputable def gS (v : V) (k : Str → zZ β) : zZ β := gO (zL v) k
noncomputable def gB (v : V) (k : Bool → zZ β) : zZ β := gO (asB v) k
noncomputable def gY (v : V) (k : Array UInt8 → zZ β) : zZ β := gO (asY v) k
noncomputable def gT (v : V) (k : String → zZ β) : zZ β := gO (asT v) k
noncomputable def gh (v : V) (H : List O) (k : Nat → O → zZ β) : zZ β := gO (zM v) fun l => gO H[l]? (k l)
noncomputable def gl (v : V) (H : List O) (k : Nat → List V → zZ β) : zZ β := gh v H fun l o => gO (zN o) (k l)
noncomputable def gt (v : V) (H : List O) (k : Nat → List V → zZ β) : zZ β := gh v H fun l o => gO (zK o) (k l)
noncomputable def gd (v : V) (H : List O) (k : Nat → List (Int × V) → Nat → zZ β) : zZ β := gh v H fun l o => gO (zQ o) fun p => k l p.1 p.2
noncomputable def ge (v : V) (H : List O) (k : Nat → List Int → zZ β) : zZ β := gh v H fun l o => gO (zP o) (k l)
noncomputable def zC {X : Type} (f : O → Option X) (v : V) (H : List O) : Bool := (zM v).any fun l => H[l]?.any fun o => (f o).isSome
theorem q9 {X : Type} (f : O → Option X) {v : V} {H : List O} (h : zC f v H = true) : ∃ l o, v = .ref l ∧ H[l]? = some o ∧ ∃ i, f o = some i := by
 obtain ⟨l, hl, h⟩ := Option.any_eq_true .. |>.mp h
 obtain ⟨o, ho, h⟩ := Option.any_eq_true .. |>.mp h
 exact ⟨l, o, bR iN hl, ho, Option.isSome_iff_exists.mp h⟩
noncomputable def aO : V → List O → Bool := zC zN
noncomputable def bP : V → List O → Bool := zC zQ
noncomputable def eu : V → List O → Bool := zC zP
noncomputable def bH (v : V) (_ : List O) : Bool := (zL v).isSome
variable {prog : Program} {w : World} {ac : Heap} {C : Cx} {ρ : List Addr} {σ : St} {s : Shared} {R : List Addr → β → α → Prop} {H : List O} {v : V} {x : Value} {vs : List V} {xs : List Value} {t : Value → Sem α} {u : Sem α}
theorem rH {k : V → List V → zZ β} {t : List Value → Sem α} (ha : bL ρ vs xs) (q : ∀ v vs x xs, VR ρ v x → bL ρ vs xs → At prog w ac C R ρ σ s (k v vs) (t (x :: xs))) : At prog w ac C R ρ σ s (gc vs k) (t xs) := by
 cases vs with
 | nil => exact fun h => absurd rfl h
 | cons v vs => obtain ⟨x, xs, rfl, hv, ha⟩ := ha; exact q v vs x xs hv ha
theorem jY {k : zZ β} {t : List Value → Sem α} (ha : bL ρ vs xs) (q : At prog w ac C R ρ σ s k (t [])) : At prog w ac C R ρ σ s (g0 vs k) (t xs) := by
 cases vs with
 | nil => cases ha; exact q
 | cons v vs => exact fun h => absurd rfl h
theorem dw {k : V → zZ β} {t : List Value → Sem α} (ha : bL ρ vs xs) (q : ∀ v x, VR ρ v x → At prog w ac C R ρ σ s (k v) (t [x])) : At prog w ac C R ρ σ s (g1 vs k) (t xs) :=
 rH ha fun v _ x _ hv ha => jY (t := fun xs => t (x :: xs)) ha (q v x hv)
theorem yB {k : V → V → zZ β} {t : List Value → Sem α} (ha : bL ρ vs xs) (q : ∀ v u x y, VR ρ v x → VR ρ u y → At prog w ac C R ρ σ s (k v u) (t [x, y])) : At prog w ac C R ρ σ s (g2 vs k) (t xs) :=
 rH ha fun v _ x _ hv ha => dw (t := fun xs => t (x :: xs)) ha fun u y hu => q v u x y hv hu
theorem bA {o : Option γ} {k : γ → zZ β} (q : ∀ y, o = some y → At prog w ac C R ρ σ s (k y) u) : At prog w ac C R ρ σ s (gO o k) u := by
 cases o with
 | some y => exact q y rfl
 | none => exact fun h => absurd rfl h
theorem fg {k : Int → zZ β} (hv : VR ρ v x) (q : ∀ i j, At prog w ac C R ρ σ s (k i) (t (.int i j))) : At prog w ac C R ρ σ s (gI v k) (t x) := bA fun i h => by cases bR uM h; obtain ⟨j, rfl⟩ := hv; exact q i j
theorem dB {k : Str → zZ β} (hv : VR ρ v x) (q : ∀ i j, At prog w ac C R ρ σ s (k i) (t (.str i j))) : At prog w ac C R ρ σ s (gS v k) (t x) := bA fun i h => by cases bR lI h; obtain ⟨j, rfl⟩ := hv; exact q i j
theorem at_gB {k : Bool → zZ β} (hv : VR ρ v x) (q : ∀ i, At prog w ac C R ρ σ s (k i) (t (.bool i))) : At prog w ac C R ρ σ s (gB v k) (t x) := bA fun i h => by cases bR yJ h; cases hv; exact q i
theorem wJ {k : Array UInt8 → zZ β} (hv : VR ρ v x) (q : ∀ i j, At prog w ac C R ρ σ s (k i) (t (.bytes i j))) : At prog w ac C R ρ σ s (gY v k) (t x) := bA fun i h => by cases bR yF h; obtain ⟨j, rfl⟩ := hv; exact q i j
theorem wK {k : String → zZ β} (hv : VR ρ v x) (q : ∀ i, At prog w ac C R ρ σ s (k i) (t (.type i))) : At prog w ac C R ρ σ s (gT v k) (t x) := bA fun i h => by cases bR yH h; cases hv; exact q i
theorem a8 {p : Prop} {d : Decidable p} {o : zZ β} (q : p → At prog w ac C R ρ σ s o u) : At prog w ac C R ρ σ s (if p then o else .bad) u := by
 by_cases h : p
 ·rw [if_pos h]; exact q h
 ·rw [if_neg h]; exact fun h => absurd rfl h
theorem bw {c : Bool} {o o' : zZ β} (q : At prog w ac C R ρ σ s o u) (q' : At prog w ac C R ρ σ s o' u) : At prog w ac C R ρ σ s (cond c o o') u := by
 cases c
 ·exact q'
 ·exact q
theorem lG {k : Nat → O → zZ β} (hv : VR ρ v x) (q : ∀ l a o, ρ[l]? = some a → H[l]? = some o → At prog w ac C R ρ σ s (k l o) (t (.ref a))) : At prog w ac C R ρ σ s (gh v H k) (t x) := bA fun l h => by
 cases bR iN h; obtain ⟨a, hl, rfl⟩ := hv; exact bA fun o ho => q l a o hl ho
theorem fD {k : Nat → List V → zZ β} (r : eh prog w ac ρ H s) (hv : VR ρ v x) (q : ∀ l a ys vs n, ρ[l]? = some a → H[l]? = some (.list ys) → s.heap.get? a = some { cls := .type "list", data := .seq vs.toArray n } → bL ρ ys vs → At prog w ac C R ρ σ s (k l ys) (t (.ref a))) :
  At prog w ac C R ρ σ s (gl v H k) (t x) := lG hv fun l a o hl ho => bA fun ys h => by
 cases bR jt h; obtain ⟨ob, h1, vs, n, rfl, hv⟩ := r.obj _ _ _ ho hl; exact q l a ys vs n hl ho h1 hv
theorem t6 {k : Nat → List V → zZ β} (r : eh prog w ac ρ H s) (hv : VR ρ v x) (q : ∀ l a ys vs n, ρ[l]? = some a → H[l]? = some (.tup ys) → s.heap.get? a = some { cls := .type "tuple", data := .seq vs.toArray n } → bL ρ ys vs → At prog w ac C R ρ σ s (k l ys) (t (.ref a))) :
  At prog w ac C R ρ σ s (gt v H k) (t x) := lG hv fun l a o hl ho => bA fun ys h => by
 cases bR oq h; obtain ⟨ob, h1, vs, n, rfl, hv⟩ := r.obj _ _ _ ho hl; exact q l a ys vs n hl ho h1 hv
theorem rG {k : Nat → List (Int × V) → Nat → zZ β} (hv : VR ρ v x) (q : ∀ l a es ep, ρ[l]? = some a → H[l]? = some (.dict es ep) → At prog w ac C R ρ σ s (k l es ep) (t (.ref a))) : At prog w ac C R ρ σ s (gd v H k) (t x) :=
 lG hv fun l a _ hl ho => bA fun p h => q l a p.1 p.2 hl (bR rI h ▸ ho)
theorem yA {k : Nat → List Int → zZ β} (hv : VR ρ v x) (q : ∀ l a es, ρ[l]? = some a → H[l]? = some (.set es) → At prog w ac C R ρ σ s (k l es) (t (.ref a))) : At prog w ac C R ρ σ s (ge v H k) (t x) :=
 lG hv fun l a _ hl ho => bA fun p h => q l a p hl (bR uO h ▸ ho)
theorem jo {o : Option γ} {k : γ → zZ β} (h : gO o k ≠ .bad) : ∃ y, o = some y ∧ k y ≠ .bad := by
 cases o with
 | some y => exact ⟨y, rfl, h⟩
 | none => exact absurd rfl h
theorem ym {v : V} {H : List O} {k : Nat → List V → zZ β} (h : gl v H k ≠ .bad) : ∃ l ys, v = .ref l ∧ H[l]? = some (.list ys) := by
 obtain ⟨l, hl, h⟩ := jo h
 obtain ⟨o, ho, h⟩ := jo h
 obtain ⟨ys, hy, h⟩ := jo h
 exact ⟨l, ys, bR iN hl, bR jt hy ▸ ho⟩
end
section
variable {prog : Program} {w : World} {ac : Heap} {C : Cx} {mg mb : Str → Option Value} {α β : Type}
noncomputable def aa (v : β) : St → zZ β := fun σ => .ok v σ
noncomputable def dU : St → zZ β := fun _ => .bad
theorem ig {R : List Addr → β → α → Prop} {t : Sem α} : zW prog w ac C R dU t := fun _ _ _ _ hb => absurd rfl hb
theorem nB (ok : C.Ok) (T : yN ac mg mb) {x : Str} {pos : Pos} {v : V} {v' : Value} (hk : C.env.kindOf x = some .globalImplicit) (hv : mg x = some v') (hr : ∀ ρ, VR ρ v v') (hd : (x == ("__debug__" : Str)) = false) :
  bi prog w ac C (aa v) (eval (.Name x pos) C.env) := by
 intro ρ σ s r _
 refine Name_function_global ok.kind hk (loadGlobal_global (mg := mg) ?_ hv (zx (hr ρ) (.refl r))) hd
 rw [ok.glob]
 exact T.g.keeps r.hp.base
theorem nC (ok : C.Ok) (T : yN ac mg mb) {x : Str} {pos : Pos} {v : V} {v' : Value} (hk : C.env.kindOf x = some .globalImplicit) (hm : mg x = none) (hn : x ≠ "__name__") (hv : bootBuiltins x = some v') (hr : ∀ ρ, VR ρ v v') (hd : (x == ("__debug__" : Str)) = false) :
  bi prog w ac C (aa v) (eval (.Name x pos) C.env) := by
 intro ρ σ s r _
 refine Name_function_global ok.kind hk (loadGlobal_builtin (mg := mg) (mb := mb) ?_ hm ?_ ?_ (zx (hr ρ) (.refl r))) hd
 ·rw [ok.glob]; exact T.g.keeps r.hp.base
 ·rw [ok.bltn]; exact T.b.keeps r.hp.base
 ·rw [T.builtins x hn, hv]
noncomputable def cV : Const → Option V
 | .none => some .none
 | .bool b => some (.bool b)
 | .int i => some (.int i)
 | .str x => some (.str x)
 | _ => none
theorem af {c : Const} {v : V} {k : Nat} {pos : Pos} (h : cV c = some v) : bi prog w ac C (aa v) (eval (.Constant c k pos) C.env) := by
 intro ρ σ s r _
 show wpAny _ _ (constValue C.env c) _ _ s
 cases c <;> simp [cV] at h <;> subst h
 ·exact wpAny_pure (zx rfl (.refl r))
 ·exact wpAny_pure (zx rfl (.refl r))
 ·exact wpAny_mkInt (zx ⟨_, rfl⟩ (r.toks _))
 ·exact wpAny_mkText (zx ⟨_, rfl⟩ (r.toks _))
noncomputable def small (i : Int) : Bool := decide (i.natAbs < 2 ^ 64)
@[reducible] def tY (x : Str) (n : Int) : Decidable (MulOk x n) := by unfold MulOk; infer_instance
noncomputable def zD (f : Int → Int → zZ V) (a b : V) : zZ V := gI a fun x => gI b fun y => f x y
noncomputable def wO (σ : St) (a b : V) : zZ V := cond (zO a).isSome (zD (fun a b => .ok (.int (a + b)) σ) a b) (cond (bH a σ.heap) (gS a fun x => gS b fun y => if x.length + y.length ≤ sizeLine then .ok (.str (x ++ y)) σ else .bad) (gl a σ.heap fun _ xs => gl b σ.heap fun _ ys => if xs.length + ys.length ≤ sizeLine then .ok (.ref σ.heap.length) { σ with heap := σ.heap ++ [.list (xs ++ ys)] } else .bad))
noncomputable def mulB (σ : St) (a b : V) : zZ V := cond (zO a).isSome (zD (fun a b => if small a then .ok (.int (a * b)) σ else .bad) a b) (gS a fun x => gI b fun n => @ite _ (MulOk x n) (tY x n) (.ok (.str (Txt.mul x n)) σ) .bad)
noncomputable def zv (op : Operator) (a b : V) (σ : St) : zZ V := match op with
 | .Add => wO σ a b
 | .Sub => zD (fun a b => .ok (.int (a - b)) σ) a b
 | .Mult => mulB σ a b
 | .FloorDiv => zD (fun a b => if b ≠ 0 ∧ small b then .ok (.int (a.fdiv b)) σ else .bad) a b
 | .Mod => zD (fun a b => if b ≠ 0 then .ok (.int (a.fmod b)) σ else .bad) a b
 | .LShift => zD (fun a n => if 0 ≤ n ∧ n ≤ 1000 ∧ small a then .ok (.int (a * 2 ^ n.toNat)) σ else .bad) a b
 | .RShift => zD (fun a n => if 0 ≤ n then .ok (.int (a.fdiv (2 ^ n.toNat))) σ else .bad) a b
 | .BitAnd => zD (fun a b => .ok (.int (Builtin.bitAnd a b)) σ) a b
 | .BitOr => zD (fun a b => .ok (.int (Builtin.bitOr a b)) σ) a b
 | .Pow => zD (fun a n => if 0 ≤ n ∧ n ≤ 1000 ∧ small a then .ok (.int (a ^ n.toNat)) σ else .bad) a b
 | _ => .bad
theorem gQ {i : Int} (h : small i = true) : i.natAbs < 2 ^ 64 := of_decide_eq_true h
theorem kR {a b : Int} (h : small b = true) : Builtin.divisionGoesByPylong a b = false := by
 have hb := gQ h
 unfold Builtin.divisionGoesByPylong
 simp only [Bool.and_eq_false_iff]
 left
 apply decide_eq_false
 by_cases h0 : b = 0
 ·simp [h0]
 ·have hl : b.natAbs.log2 < 64 := (Nat.log2_lt (by lia)).mpr hb
  have hn : (b == 0) = false := by simpa using h0
  simp only [hn, Bool.false_eq_true, if_false]
  lia
theorem mq {a b : Int} (h : small a = true) : IntMulOk a b := IntMulOk.of_left (by
 have := gQ h
 exact intBits_le_64 (by lia) (by lia))
theorem bv {H : List O} {ρ : List Addr} {s : Shared} (r : eh prog w ac ρ H s) (a : Addr) : (ρ ++ [a])[H.length]? = some a := by
 rw [← r.len]; simp
theorem eC {R : List Addr → V → α → Prop} {ρ : List Addr} {σ : St} {s : Shared} {f : Int → Int → zZ V} {a b : V} {a' b' : Value} {T : Value → Value → Sem α} (ha : VR ρ a a') (hb : VR ρ b b') (q : ∀ x y t u, At prog w ac C R ρ σ s (f x y) (T (.int x t) (.int y u))) : At prog w ac C R ρ σ s (zD f a b) (T a' b') :=
 fg (t := fun a' => T a' b') ha fun x t => fg (t := fun b' => T (.int x t) b') hb fun y u => q x y t u
theorem sv {ρ : List Addr} {σ : St} {s : Shared} {a b : V} {a' b' : Value} (r : zX prog w ac C ρ σ s) (ha : VR ρ a a') (hb : VR ρ b b') : At prog w ac C VR ρ σ s (wO σ a b) (binaryOp .Add a' b') :=
 bw (eC (T := binaryOp .Add) ha hb fun x y t u _ => add_int (zx ⟨_, rfl⟩ (r.toks _)))
  (bw (dB (t := fun a' => binaryOp .Add a' b') ha fun x t => dB (t := fun b' => binaryOp .Add (.str x t) b') hb fun y u => a8 fun h _ => add_str (fun t' k => zx ⟨_, rfl⟩ (r.toks _)) h)
   (fD (t := fun a' => binaryOp .Add a' b') r.hp ha fun l x ys vs n _ _ g1 hv => fD (t := fun b' => binaryOp .Add (.ref x) b') r.hp hb fun l' x' zs ws n' _ _ g2 hw => a8 fun hsz _ => by
    refine concat_meets ⟨_, g1, rfl⟩ ⟨_, g2, rfl⟩ noFill_list_add seq_list_add PySem.F.slot_list_add PySem.F.entry_list_add (PySem.F.args_list_add_2 _ _) (list_addW _ _ vs.toArray ws.toArray n n' none none #[] #[] (by simpa [hv.length, hw.length] using hsz)) ⟨g1, g2, ?_⟩
    rw [List.append_toArray]
    exact zx (ρ' := ρ ++ [s.heap.objs.size]) ⟨_, bv r.hp _, rfl⟩ (r.alloc (t := s.toks) rfl ⟨_, 0, rfl, (hv.append hw).mono⟩)))
theorem sj {ρ : List Addr} {σ : St} {s : Shared} {a b : V} {a' b' : Value} (r : zX prog w ac C ρ σ s) (ha : VR ρ a a') (hb : VR ρ b b') : At prog w ac C VR ρ σ s (mulB σ a b) (binaryOp .Mult a' b') :=
 bw (eC (T := binaryOp .Mult) ha hb fun x y t u => a8 fun h _ => mul_int (zx ⟨_, rfl⟩ (r.toks _)) (mq h))
  (dB (t := fun a' => binaryOp .Mult a' b') ha fun x t => fg (t := fun b' => binaryOp .Mult (.str x t) b') hb fun n u => a8 fun h _ => SB.mul h fun t' k => zx ⟨_, rfl⟩ (r.toks _))
theorem u2 (op : Operator) : yO prog w ac C VR (zv op) (fun a b => binaryOp op a b) := by
 intro ρ σ s a a' b b' r ha hb
 have tk : ∀ {v : V} {x : Value}, VR ρ v x → z3 prog w ac C VR ρ σ s (.ok v σ) x { s with toks := s.toks + 1 } := fun h => zx h (r.toks _)
 cases op with
 | Add => exact sv r ha hb
 | Mult => exact sj r ha hb
 | Sub => exact eC (T := binaryOp .Sub) ha hb fun x y t u _ => sub_int (tk ⟨_, rfl⟩)
 | FloorDiv => exact eC (T := binaryOp .FloorDiv) ha hb fun x y t u => a8 fun h _ => floordiv_int h.1 (tk ⟨_, rfl⟩) (.inl (kR h.2))
 | Mod => exact eC (T := binaryOp .Mod) ha hb fun x y t u => a8 fun h _ => mod_int' h (tk ⟨_, rfl⟩)
 | LShift => exact eC (T := binaryOp .LShift) ha hb fun x y t u => a8 fun h _ => lshift_int_small h.1 (by have := h.2.1; lia) (gQ h.2.2) (tk ⟨_, rfl⟩)
 | RShift => exact eC (T := binaryOp .RShift) ha hb fun x y t u => a8 fun h _ => rshift_int h (tk ⟨_, rfl⟩)
 | BitAnd => exact eC (T := binaryOp .BitAnd) ha hb fun x y t u _ => and_int (tk ⟨_, rfl⟩)
 | BitOr => exact eC (T := binaryOp .BitOr) ha hb fun x y t u _ => or_int (tk ⟨_, rfl⟩)
 | Pow => exact eC (T := binaryOp .Pow) ha hb fun x y t u => a8 fun h _ => pow_int_small h.1 (by have := h.2.1; lia) (gQ h.2.2) (tk ⟨_, rfl⟩)
 | _ => exact fun h => absurd rfl h
end
section
variable {prog : Program} {w : World} {ac : Heap} {C : Cx} {mg mb : Str → Option Value} {α β : Type}
noncomputable def yt (v : V) : Option PyData := match v with
 | .none => some .none
 | .bool b => some (.bool b)
 | .int i => some (.int i)
 | .str x => some (.str x)
 | _ => none
noncomputable def dataOf : Nat → List O → V → Option PyData
 | 0, _, _ => none
 | n + 1, H, v => (yt v).or ((zM v).bind fun l => H[l]?.bind fun o => ((zN o).bind fun xs => (xs.mapM (dataOf n H)).map .list).or ((zK o).bind fun xs => (xs.mapM (dataOf n H)).map .tuple))
theorem n6 {n l : Nat} {H : List O} {o : O} (h : H[l]? = some o) : dataOf (n + 1) H (.ref l) = ((zN o).bind fun xs => (xs.mapM (dataOf n H)).map .list).or ((zK o).bind fun xs => (xs.mapM (dataOf n H)).map .tuple) := by
 show H[l]?.bind _ = _; rw [h]; rfl
theorem kP {h : Heap} {ρ : List Addr} {f : V → Option PyData} (hf : ∀ v x d, VR ρ v x → f v = some d → ∃ as, Reads h x d as) : ∀ (vs : List V) (xs : List Value) (ds : List PyData), bL ρ vs xs → vs.mapM f = some ds → ∃ as, ReadsAll h xs ds as := by
 intro vs
 induction vs with
 | nil => intro xs ds ha hm; cases ha; cases hm; exact ⟨_, .nil⟩
 | cons v vs ih =>
  intro xs ds ⟨x, r, e, hv, hr⟩ hm
  subst e
  rw [List.mapM_cons] at hm
  obtain ⟨d, hd, hm⟩ := Option.bind_eq_some_iff.mp hm
  obtain ⟨ds', hds, hm⟩ := Option.bind_eq_some_iff.mp hm
  cases hm
  obtain ⟨as, h1⟩ := hf v x d hv hd
  obtain ⟨bs, h2⟩ := ih r ds' hr hds
  exact ⟨_, .cons h1 h2⟩
theorem xQ {h : Heap} {ρ : List Addr} {v : V} {x : Value} {d : PyData} (hv : VR ρ v x) (hd : yt v = some d) : ∃ as, Reads h x d as := by
 cases v with
 | none => cases hd; cases hv; exact ⟨_, .none⟩
 | bool b => cases hd; cases hv; exact ⟨_, .bool b⟩
 | int i => cases hd; obtain ⟨t, rfl⟩ := hv; exact ⟨_, .int i t⟩
 | str i => cases hd; obtain ⟨t, rfl⟩ := hv; exact ⟨_, .str i t⟩
 | _ => cases hd
theorem nH {ρ : List Addr} {H : List O} {s : Shared} (r : eh prog w ac ρ H s) (n : Nat) : ∀ (v : V) (x : Value) (d : PyData), VR ρ v x → dataOf n H v = some d → ∃ as, Reads s.heap x d as := by
 induction n with
 | zero => intro _ _ _ _ h; cases h
 | succ n ih =>
  intro v x d hv h
  rcases Option.or_eq_some_iff.mp h with h | ⟨_, k⟩
  ·exact xQ hv h
  clear h
  obtain ⟨l, hl, k⟩ := Option.bind_eq_some_iff.mp k
  obtain ⟨o, q, h⟩ := Option.bind_eq_some_iff.mp k
  clear k
  cases bR iN hl
  obtain ⟨a, ha, rfl⟩ := hv
  rcases Option.or_eq_some_iff.mp h with h | ⟨_, h⟩
  ·obtain ⟨xs, hx, h⟩ := Option.bind_eq_some_iff.mp h
   obtain ⟨ds, hm, rfl⟩ := Option.map_eq_some_iff.mp h
   cases bR jt hx
   obtain ⟨ob, h1, vs, k, rfl, hvs⟩ := r.obj _ _ _ q ha
   obtain ⟨as, hr⟩ := kP ih xs vs ds hvs hm
   exact ⟨_, .list h1 rfl rfl hr⟩
  ·obtain ⟨xs, hx, h⟩ := Option.bind_eq_some_iff.mp h
   obtain ⟨ds, hm, rfl⟩ := Option.map_eq_some_iff.mp h
   cases bR oq hx
   obtain ⟨ob, h1, vs, k, rfl, hvs⟩ := r.obj _ _ _ q ha
   obtain ⟨as, hr⟩ := kP ih xs vs ds hvs hm
   exact ⟨_, .tuple h1 rfl rfl hr⟩
noncomputable def zH (H : List O) (a b : V) : Option Bool := (dataOf 8 H a).bind fun da => (dataOf 8 H b).bind fun db => if SeqAt.shaped da && SeqAt.shaped db then some (PyData.eqv da db) else none
noncomputable def mZ (σ : St) (o : Option Bool) : zZ V := gO o fun b => .ok (.bool b) σ
noncomputable def eqB (a b : V) (σ : St) : zZ V := cond ((zO a).isSome && (zO b).isSome) (zD (fun x y => .ok (.bool (x == y)) σ) a b) (cond ((zL a).isSome && (zL b).isSome) (gS a fun x => gS b fun y => .ok (.bool (x == y)) σ) (mZ σ (zH σ.heap a b)))
noncomputable def neB (a b : V) (σ : St) : zZ V := cond ((zO a).isSome && (zO b).isSome) (zD (fun x y => .ok (.bool (x != y)) σ) a b) (mZ σ ((zH σ.heap a b).map (!·)))
noncomputable def w0 (v : V) : Bool := match v with | .none => true | _ => false
noncomputable def isB (a b : V) (σ : St) : zZ V := cond (asT b).isSome (gT b fun y => gT a fun x => .ok (.bool (x == y)) σ) (if w0 b = true then .ok (.bool (w0 a)) σ else .bad)
noncomputable def isnB (a b : V) (σ : St) : zZ V := if w0 b = true then .ok (.bool (!w0 a)) σ else .bad
noncomputable def inB (a b : V) (σ : St) : zZ V := gI a fun k => cond (eu b σ.heap) (ge b σ.heap fun _ xs => .ok (.bool (xs.contains k)) σ) (gd b σ.heap fun _ es _ => .ok (.bool ((es.lookup k).isSome)) σ)
noncomputable def j4 (op : CmpOp) (a b : V) (σ : St) : zZ V := match op with
 | .Lt => zD (fun a b => .ok (.bool (decide (a < b))) σ) a b
 | .LtE => zD (fun a b => .ok (.bool (decide (a ≤ b))) σ) a b
 | .Gt => zD (fun a b => .ok (.bool (decide (b < a))) σ) a b
 | .GtE => zD (fun a b => .ok (.bool (decide (b ≤ a))) σ) a b
 | .Eq => eqB a b σ
 | .NotEq => neB a b σ
 | .Is => isB a b σ
 | .IsNot => isnB a b σ
 | .In => inB a b σ
 | _ => .bad
theorem ra {v : V} (h : w0 v = true) : v = .none := by cases v <;> first | rfl | cases h
theorem pM {ρ : List Addr} {v : V} {x : Value} (h : VR ρ v x) : (x == Value.none) = w0 v := by
 cases v <;> first | (cases h; rfl; done) | (obtain ⟨t, rfl⟩ := h; rfl; done) | (obtain ⟨a, _, rfl⟩ := h; rfl; done)
theorem pairs_at {ρ : List Addr} : ∀ {es : List (Int × V)} {kvs : List (Int × Value)}, cF ρ es kvs → ∀ k, zS ρ (es.lookup k) (valueAt kvs k)
 | [], _, h, k => by cases h; simp [valueAt, zS]
 | (j, v) :: es, _, ⟨x, r, e, hv, hr⟩, k => by
  subst e
  have ih := pairs_at hr k
  by_cases hk : k = j
  ·subst hk; simp [valueAt, zS, hv]
  ·have h1 : (k == j) = false := by simpa using hk
   have h2 : decide (j = k) = false := by simpa using fun q : j = k => hk q.symm
   rw [List.lookup_cons, h1]
   simpa [valueAt, List.find?_cons, h2] using ih
theorem isSome_of {ρ : List Addr} {v : Option V} {x : Option Value} (h : zS ρ v x) : x.isSome = v.isSome := by
 cases v with
 | none => cases h; rfl
 | some v => obtain ⟨y, rfl, _⟩ := h; rfl
theorem nZ {ρ : List Addr} {H : List O} {s : Shared} (r : eh prog w ac ρ H s) {a b : V} {a' b' : Value} (ha : VR ρ a a') (hb : VR ρ b b') {cQ : Bool} (h : zH H a b = some cQ) : ∃ da db as bs, Reads s.heap a' da as ∧ Reads s.heap b' db bs ∧ SeqAt.shaped da = true ∧ SeqAt.shaped db = true ∧ PyData.eqv da db = cQ := by
 obtain ⟨da, hda, h⟩ := Option.bind_eq_some_iff.mp h
 obtain ⟨db, hdb, h⟩ := Option.bind_eq_some_iff.mp h
 obtain ⟨hs, h⟩ := Option.ite_none_right_eq_some.mp h
 obtain ⟨as, r1⟩ := nH r 8 a a' da ha hda
 obtain ⟨bs, r2⟩ := nH r 8 b b' db hb hdb
 exact ⟨da, db, as, bs, r1, r2, (Bool.and_eq_true_iff.mp hs).1, (Bool.and_eq_true_iff.mp hs).2, Option.some.inj h⟩
theorem yw (ok : C.Ok) {ρ : List Addr} {σ : St} {s : Shared} (r : zX prog w ac C ρ σ s) {a b : V} {a' b' : Value} (ha : VR ρ a a') (hb : VR ρ b b') : At prog w ac C VR ρ σ s (mZ σ (zH σ.heap a b)) (compareOp .Eq a' b') := bA fun cQ q _ => by
 obtain ⟨da, db, as, bs, r1, r2, s1, s2, e⟩ := nZ r.hp ha hb q
 exact SeqAt.compareEq_shaped r1 r2 s1 s2 (by have := ok.units; lia) (zx (congrArg Value.bool e) (.refl r))
theorem yv (ok : C.Ok) {ρ : List Addr} {σ : St} {s : Shared} (r : zX prog w ac C ρ σ s) {a b : V} {a' b' : Value} (ha : VR ρ a a') (hb : VR ρ b b') : At prog w ac C VR ρ σ s (mZ σ ((zH σ.heap a b).map (!·))) (compareOp .NotEq a' b') := bA fun cQ q _ => by
 obtain ⟨b₁, q', rfl⟩ := Option.map_eq_some_iff.mp q
 obtain ⟨da, db, as, bs, r1, r2, s1, s2, e⟩ := nZ r.hp ha hb q'
 exact SeqAt.compareNe_shaped r1 r2 s1 s2 (by have := ok.units; lia) (zx (congrArg (fun x => Value.bool (!x)) e) (.refl r))
theorem gR (ok : C.Ok) (op : CmpOp) : yO prog w ac C VR (j4 op) (fun a b => compareOp op a b) := by
 intro ρ σ s a a' b b' r ha hb
 have here : ∀ {v : V} {x : Value}, VR ρ v x → z3 prog w ac C VR ρ σ s (.ok v σ) x s := fun h => zx h (.refl r)
 cases op with
 | Lt => exact eC (T := compareOp .Lt) ha hb fun x y t u _ => lt_int (here rfl)
 | LtE => exact eC (T := compareOp .LtE) ha hb fun x y t u _ => le_int (here rfl)
 | Gt => exact eC (T := compareOp .Gt) ha hb fun x y t u _ => gt_int (here rfl)
 | GtE => exact eC (T := compareOp .GtE) ha hb fun x y t u _ => ge_int (here rfl)
 | Eq =>
  exact bw (eC (T := compareOp .Eq) ha hb fun x y t u _ => eq_int (here (v := .bool (x == y)) rfl))
   (bw (dB (t := fun a' => compareOp .Eq a' b') ha fun x t => dB (t := fun b' => compareOp .Eq (.str x t) b') hb fun y u _ => eq_str (here (v := .bool (x == y)) rfl)) (yw ok r ha hb))
 | NotEq => exact bw (eC (T := compareOp .NotEq) ha hb fun x y t u _ => ne_int (here (v := .bool (x != y)) rfl)) (yv ok r ha hb)
 | Is =>
  exact bw (wK (t := fun b' => compareOp .Is a' b') hb fun y => wK (t := fun a' => compareOp .Is a' (.type y)) ha fun x _ => wpAny_is_plain rfl (here (v := .bool (x == y)) (congrArg Value.bool (Bool.eq_iff_iff.mpr (by simp)))))
   (a8 fun h _ => by cases ra h; cases hb; exact is_none_gen (here (pM ha ▸ rfl)))
 | IsNot => exact a8 fun h _ => by cases ra h; cases hb; exact isnot_none_gen (here (pM ha ▸ rfl))
 | In =>
  exact fg (t := fun a' => compareOp .In a' b') ha fun k t => bw
   (yA (t := fun b' => compareOp .In (.int k t) b') hb fun l x xs hx q _ => by
    obtain ⟨ob, h1, es, ep, tb, h2, h3, h4, h5, h6, h7, h8⟩ := r.hp.obj _ _ _ q hx
    exact wpAny_inSet_of (knd := intKind prog w) (intKind_is _ _ _ _) rfl (S := fun k => xs.contains k) (n := xs.length) ⟨ob, es, ep, tb, h1, h2, h3, h4, h5, h6, h7, h8⟩ (zx rfl (r.toks _)))
   (rG (t := fun b' => compareOp .In (.int k t) b') hb fun l x es ep hx q _ => by
    obtain ⟨ob, h1, kvs, h2, h3, _⟩ := r.hp.obj _ _ _ q hx
    exact wpAny_in_of (knd := intKind prog w) (intKind_is _ _ _ _) (beq_eq_false_iff_ne.mpr (r.hp.sys _ _ _ _ q hx)) (Heap.DictOf.mapOf (Heap.dictOf_iff.mpr ⟨ob, h1, h2⟩)) (zx (congrArg Value.bool (isSome_of (pairs_at h3 k))) (r.toks _)))
 | NotIn => exact fun h => absurd rfl h
end
inductive F where
 | next | brk | cont
 | ret (v : V)
deriving DecidableEq
noncomputable def FR (ρ : List Addr) : F → Flow → Prop
 | .next, f => f = .next
 | .brk, f => f = .brk
 | .cont, f => f = .cont
 | .ret v, f => ∃ x, f = .ret x ∧ VR ρ v x
noncomputable def zZ.calm {α : Type} : zZ α → zZ α
 | .exc .. => .bad
 | o => o
@[simp] theorem zZ.calm_ok {α : Type} (a : α) (σ : St) : (zZ.ok a σ).calm = .ok a σ := rfl
section
variable {prog : Program} {w : World} {ac : Heap} {C : Cx} {mg mb : Str → Option Value} {α β γ : Type} {ρ ρ' : List Addr} {σ σ' : St} {s s' : Shared}
theorem At.calm {R : List Addr → β → α → Prop} {o : zZ β} {t : Sem α} {Q : α → Shared → Prop} {E : Value → Shared → Prop} (h : At prog w ac C R ρ σ s o t) (hb : o.calm ≠ .bad)
  (k : ∀ b ae aw az a, o.calm = .ok b ae → R aw b a → Step prog w ac C ρ σ s aw ae az → Q a az) : wpAny (model prog w) C.A t Q E s := by
 cases o with
 | ok b ae => exact wpAny_mono (h (by simp)) (fun a az ⟨aw, hr, st⟩ => k b ae aw az a rfl hr st) fun _ _ x => x.elim
 | exc => exact absurd rfl hb
 | bad => exact absurd rfl hb
theorem zW.gen {R : List Addr → β → α → Prop} {m : St → zZ β} {t : Sem α} (h : ∀ ρ σ s z, zX prog w ac C ρ σ s → z = m σ → z ≠ .bad → wpAny (model prog w) C.A t (z3 prog w ac C R ρ σ s z) (z7 prog w ac C ρ σ s z) s) : zW prog w ac C R m t := fun ρ σ s r hn => h ρ σ s _ r rfl hn
theorem fq {p : Prop} [Decidable p] {o z : zZ β} (h : (if p then o else .bad) = z) (hz : z ≠ .bad) : p ∧ o = z := by
 by_cases hp : p
 ·rw [if_pos hp] at h; exact ⟨hp, h⟩
 ·rw [if_neg hp] at h; exact absurd h.symm hz
theorem At.calmF {R : List Addr → β → α → Prop} {m : zZ β} {t : Sem α} {f : β → St → zZ γ} {z : zZ γ} {Q : α → Shared → Prop} {E : Value → Shared → Prop} (h : At prog w ac C R ρ σ s m t) (hf : m.calm.bind f = z) (hz : z ≠ .bad)
  (k : ∀ b ae aw az a, R aw b a → Step prog w ac C ρ σ s aw ae az → f b ae = z → Q a az) : wpAny (model prog w) C.A t Q E s :=
 h.calm (fun q => hz (hf.symm.trans (by rw [q]; rfl))) fun b ae aw az a e hr st => k b ae aw az a hr st (by rw [e] at hf; exact hf)
noncomputable def bp (f : V → V → St → zZ β) (ml mr : St → zZ V) : St → zZ β := fun σ => (ml σ).bind fun a ae => (mr ae).bind fun b aq => f a b aq
noncomputable abbrev aR (op : Operator) := bp (zv op)
noncomputable abbrev aW (op : CmpOp) := bp (j4 op)
theorem At.then {R : List Addr → β → α → Prop} {m : zZ β} {t : Sem α} {f : β → St → zZ γ} {Q : α → Shared → Prop} {v : zZ γ} {ct : List Addr} {cr : St} {bg : Shared} (iZ : Step prog w ac C ct cr bg ρ σ s) (h : At prog w ac C R ρ σ s m t) (e : v = m.bind f) (hb : v ≠ .bad)
  (k : ∀ b ae aw az a, m = .ok b ae → R aw b a → Step prog w ac C ρ σ s aw ae az → Step prog w ac C ct cr bg aw ae az → v = f b ae → Q a az) :
  wpAny (model prog w) C.A t Q (z7 prog w ac C ct cr bg v) s :=
 wpAny_mono (h.next e hb fun b ae aw az a e' hr st e'' => k b ae aw az a e' hr st (iZ.trans st) e'') (fun _ _ h => h) fun _ _ => z7.trans iZ
theorem aA {op : Operator} {ml mr : St → zZ V} {l r : Expr} {pos : Pos} (hl : bi prog w ac C ml (eval l C.env)) (hr : bi prog w ac C mr (eval r C.env)) : bi prog w ac C (aR op ml mr) (eval (.BinOp l op r pos) C.env) := by
 refine zW.gen fun ρ σ s z r e hb => ?_
 refine wpAny_BinOp ((hl.at r).next e hb fun a ae aw az a' _ va au e => ?_)
 refine (hr.at au.rel).then au e hb fun b aq aK aS b' _ vb aJ st e => ?_
 subst e
 exact (u2 op aK aq aS a a' b b' aJ.rel (aJ.vr va) vb).trans st hb
theorem jA (ok : C.Ok) {op : CmpOp} {ml mr : St → zZ V} {l r : Expr} {pos : Pos} (hl : bi prog w ac C ml (eval l C.env)) (hr : bi prog w ac C mr (eval r C.env)) (hm : behindInMarks op r = false) : bi prog w ac C (aW op ml mr) (eval (.Compare l [op] [r] pos) C.env) := by
 refine zW.gen fun ρ σ s z r e hb => ?_
 refine wpAny_Compare1 ((hl.at r).next e hb fun a ae aw az a' _ va au e => ?_) hm
 refine (hr.at au.rel).then au e hb fun b aq aK aS b' _ vb aJ st e => ?_
 subst e
 exact (gR ok op aK aq aS a a' b b' aJ.rel (aJ.vr va) vb).trans st hb
noncomputable def bT (v : V) (σ : St) : zZ Bool := match v with
 | .none => .ok false σ
 | .bool b => .ok b σ
 | .int i => .ok (i != 0) σ
 | .ref l => match σ.heap[l]? with
  | some (.list xs) => if xs.length ≤ sizeLine then .ok (!xs.isEmpty) σ else .bad
  | some (.tup xs) => if xs.length ≤ sizeLine then .ok (!xs.isEmpty) σ else .bad
  | _ => .bad
 | _ => .bad
theorem i4 {n : Nat} (h : n ≤ sizeLine) : (n : Int) < 2 ^ 63 := by rw [sizeLine_eq] at h; lia
theorem eL {xs : List V} {vs : List Value} (h : bL ρ xs vs) : (!vs.toArray.isEmpty) = !xs.isEmpty := by
 cases xs with
 | nil => cases h; rfl
 | cons x xs => obtain ⟨y, ys, rfl, _⟩ := h; rfl
theorem dP : t9 prog w ac C gM bT truthy := by
 intro ρ σ s a a' r ha hn
 have here : ∀ {b : Bool}, z3 prog w ac C gM ρ σ s (.ok b σ) b s := fun {b} => zx rfl (.refl r)
 cases a with
 | none => cases ha; exact truthy_none here
 | bool b => cases ha; exact wpAny_truthy_bool here
 | int i => obtain ⟨t, rfl⟩ := ha; exact truthy_int here
 | ref l =>
  obtain ⟨x, hx, rfl⟩ := ha
  unfold bT at hn ⊢
  dsimp only at hn ⊢
  split at hn
  ·rename_i xs q
   obtain ⟨ob, h1, vs, n, rfl, hv⟩ := r.hp.obj _ _ _ q hx
   split at hn
   ·rename_i hs
    rw [if_pos hs]
    refine wpAny_truthy_list (items := vs.toArray) ⟨_, h1, rfl, n, rfl⟩ (i4 (by simpa [hv.length] using hs)) (zx ?_ (r.toks _))
    exact eL hv
   ·exact absurd rfl hn
  ·rename_i xs q
   obtain ⟨ob, h1, vs, n, rfl, hv⟩ := r.hp.obj _ _ _ q hx
   split at hn
   ·rename_i hs
    rw [if_pos hs]
    refine ktl_truthy (items := vs.toArray) h1 (by have := i4 hs; simp [hv.length]; lia) (zx ?_ (r.toks _))
    exact eL hv
   ·exact absurd rfl hn
  ·exact absurd rfl hn
 | str | bytes | type | blt | top => exact absurd rfl hn
noncomputable abbrev pK (prog : Program) (w : World) (ac : Heap) (C : Cx) (m : St → zZ Bool) (e : Expr) : Prop := zW prog w ac C gM m (isTrue e C.env (eval e C.env))
noncomputable def aB (m : St → zZ V) : St → zZ Bool := fun σ => (m σ).bind bT
theorem cb {m : St → zZ V} {e : Expr} (h : bi prog w ac C m (eval e C.env)) (hp : isTrue e C.env (eval e C.env) = do let v ← eval e C.env; standAt e.pos; holding [v] (truthy v)) : pK prog w ac C (aB m) e := by
 refine zW.gen fun ρ σ s z r e hb => ?_
 refine isTrue_plain ((h.at r).next e hb fun a ae aw az a' _ va au e => ?_) hp
 subst e
 exact (dP aw ae az a a' au.rel va).trans au hb
theorem ay (ok : C.Ok) {op : CmpOp} {ml mr : St → zZ V} {l r : Expr} {pos : Pos} (hl : bi prog w ac C ml (eval l C.env)) (hr : bi prog w ac C mr (eval r C.env)) (hm : behindInMarks op r = false) : pK prog w ac C (aB (aW op ml mr)) (.Compare l [op] [r] pos) := by
 intro ρ σ s r hb
 have e0 : aB (aW op ml mr) σ = (ml σ).bind fun a ae => (mr ae).bind fun b aq => (j4 op a b aq).bind bT := by
  unfold aB aW bp
  cases ml σ with
  | ok a ae => dsimp; cases mr ae <;> rfl
  | exc => rfl
  | bad => rfl
 rw [e0] at hb ⊢
 refine wpAny_isTrue_Compare1 ((hl.at r).next rfl hb fun a ae aw az a' _ va au e => ?_) hm
 rw [e] at hb ⊢
 refine (hr.at au.rel).then au rfl hb fun b aq aK aS b' _ vb aJ st e => ?_
 rw [e] at hb ⊢
 refine At.then st (gR ok op aK aq aS a a' b b' aJ.rel (aJ.vr va) vb) rfl hb fun c aT bZ bF c' _ vc _ st' e => ?_
 rw [e] at hb ⊢
 exact (dP bZ aT bF c c' st'.rel vc).trans st' hb
noncomputable def n9 (op op' : CmpOp) (ml mr mr' : St → zZ V) : St → zZ Bool := fun σ => (ml σ).bind fun a ae => (mr ae).bind fun b aq => (j4 op a b aq).bind fun c aT => (bT c aT).bind fun t cg => if t then (mr' cg).bind fun d fF => (j4 op' b d fF).bind bT else .ok false cg
theorem gj (ok : C.Ok) {op op' : CmpOp} {ml mr mr' : St → zZ V} {l r r' : Expr} {pos : Pos} (hl : bi prog w ac C ml (eval l C.env)) (hr : bi prog w ac C mr (eval r C.env)) (hr' : bi prog w ac C mr' (eval r' C.env))
  (hm : lastMarks [op, op'] [r, r'] = false) : pK prog w ac C (n9 op op' ml mr mr') (.Compare l [op, op'] [r, r'] pos) := by
 intro ρ σ s r hb
 refine isTrue_chain ((hl.at r).next rfl hb fun a ae aw az a' _ va au e => ?_) hm
 revert hb; refine e ▸ fun hb => ?_
 refine test_link ((hr.at au.rel).then au rfl hb fun b aq aK aS b' _ vb aJ st e => ?_)
 revert hb; refine e ▸ fun hb => ?_
 refine At.then st (gR ok op aK aq aS a a' b b' aJ.rel (aJ.vr va) vb) rfl hb fun c aT bZ bF c' _ vc b8 st' e => ?_
 revert hb; refine e ▸ fun hb => ?_
 refine At.then st' (dP bZ aT bF c c' st'.rel vc) rfl hb fun t cg iX ke t' _ vt iY st'' e => ?_
 revert hb; refine e ▸ fun hb => ?_
 cases vt
 cases t with
 | false => exact zx rfl st''
 | true =>
  refine test_last ((hr'.at st''.rel).then st'' rfl hb fun d fF ud s₅ d' _ vd pS st5 e => ?_)
  revert hb; refine e ▸ fun hb => ?_
  refine At.then st5 (gR ok op' ud fF s₅ b b' d d' pS.rel (pS.vr (iY.vr (b8.vr vb))) vd) rfl hb fun f σ₆ ρ₆ s₆ f' _ vf _ st6 e => ?_
  revert hb; refine e ▸ fun hb => ?_
  exact (dP ρ₆ σ₆ s₆ f f' st6.rel vf).trans st6 hb
end
section
variable {prog : Program} {w : World} {ac : Heap} {C : Cx} {mg mb : Str → Option Value} {α β γ : Type} {ρ ρ' : List Addr} {σ σ' : St} {s s' : Shared}
noncomputable def zE (t : St → zZ Bool) (a b : St → zZ β) : St → zZ β := fun σ => (t σ).bind fun c ae => if c then a ae else b ae
noncomputable def uu (t : St → zZ Bool) : St → zZ Bool := fun σ => (t σ).bind fun c ae => .ok (!c) ae
noncomputable abbrev gA (a b : St → zZ Bool) : St → zZ Bool := zE a b (aa false)
noncomputable abbrev zu (a b : St → zZ Bool) : St → zZ Bool := zE a (aa true) b
theorem lW {t : St → zZ Bool} {x : Expr} {pos : Pos} (h : pK prog w ac C t x) : pK prog w ac C (uu t) (.UnaryOp .Not x pos) := by
 refine zW.gen fun ρ σ s z r e hb => ?_
 refine wpAny_isTrue_Not ((h.at r).next e hb fun a ae aw az a' _ va au e => ?_)
 subst e
 cases va
 exact zx rfl au
theorem yz {R : List Addr → β → α → Prop} {t : St → zZ Bool} {a b : St → zZ β} {ta tb : Sem α} {tt : Sem Bool} (ht : zW prog w ac C gM t tt) (ha : zW prog w ac C R a ta) (hb' : zW prog w ac C R b tb) (r : zX prog w ac C ρ σ s) (hb : zE t a b σ ≠ .bad) :
  wpAny (model prog w) C.A tt (fun c az => if c then wpAny (model prog w) C.A ta (z3 prog w ac C R ρ σ s (zE t a b σ)) (z7 prog w ac C ρ σ s (zE t a b σ)) az else wpAny (model prog w) C.A tb (z3 prog w ac C R ρ σ s (zE t a b σ)) (z7 prog w ac C ρ σ s (zE t a b σ)) az) (z7 prog w ac C ρ σ s (zE t a b σ)) s := by
 refine (ht.at r).next rfl hb fun c ae aw az c' _ vc au e => ?_
 rw [e] at hb ⊢
 cases vc
 cases c with
 | true => simp only [if_true] at hb ⊢; exact (ha.at au.rel).trans au hb
 | false => simp only [Bool.false_eq_true, if_false] at hb ⊢; exact (hb'.at au.rel).trans au hb
theorem eI {t : St → zZ Bool} {a b : St → zZ V} {x y z : Expr} {pos : Pos} (ht : pK prog w ac C t x) (ha : bi prog w ac C a (eval y C.env)) (hb : bi prog w ac C b (eval z C.env)) : bi prog w ac C (zE t a b) (eval (.IfExp x y z pos) C.env) :=
 fun _ _ _ r hn => wpAny_IfExp (yz ht ha hb r hn)
noncomputable abbrev iQ (prog : Program) (w : World) (ac : Heap) (C : Cx) (op : BoolOp) (m : St → zZ Bool) (es : List Expr) : Prop := zW prog w ac C gM m (allTrue op es C.env)
theorem cn : iQ prog w ac C .And (aa true) [] := fun _ _ _ r _ => wpAny_allTrue_And_nil (zx rfl (.refl r))
theorem eU : iQ prog w ac C .Or (aa false) [] := fun _ _ _ r _ => wpAny_allTrue_Or_nil (zx rfl (.refl r))
theorem bc {t u : St → zZ Bool} {x : Expr} {rest : List Expr} (ht : pK prog w ac C t x) (hu : iQ prog w ac C .And u rest) : iQ prog w ac C .And (gA t u) (x :: rest) := by
 refine zW.gen fun ρ σ s z r e hb => ?_
 refine wpAny_allTrue_And_cons ((ht.at r).next e hb fun c ae aw az c' _ vc au e => ?_)
 subst e
 cases vc
 cases c with
 | true => simp only [if_true] at hb ⊢; exact (hu.at au.rel).trans au hb
 | false => simp only [Bool.false_eq_true, if_false] at hb ⊢; exact zx rfl au
theorem aV {t u : St → zZ Bool} {x : Expr} {rest : List Expr} (ht : pK prog w ac C t x) (hu : iQ prog w ac C .Or u rest) : iQ prog w ac C .Or (zu t u) (x :: rest) := by
 refine zW.gen fun ρ σ s z r e hb => ?_
 refine wpAny_allTrue_Or_cons ((ht.at r).next e hb fun c ae aw az c' _ vc au e => ?_)
 subst e
 cases vc
 cases c with
 | true => simp only [if_true] at hb ⊢; exact zx rfl au
 | false => simp only [Bool.false_eq_true, if_false] at hb ⊢; exact (hu.at au.rel).trans au hb
theorem cz {t : St → zZ Bool} {es : List Expr} {op : BoolOp} {pos : Pos} (h : iQ prog w ac C op t es) : pK prog w ac C t (.BoolOp op es pos) := fun ρ σ s r hn => wpAny_isTrue_BoolOp (h ρ σ s r hn)
noncomputable def orV (a b : St → zZ V) : St → zZ V := fun σ => (a σ).bind fun v ae => (bT v ae).bind fun t aq => if t then .ok v aq else b aq
theorem u1 {a b : St → zZ V} {x y : Expr} {pos : Pos} (ha : bi prog w ac C a (eval x C.env)) (hb' : bi prog w ac C b (eval y C.env)) : bi prog w ac C (orV a b) (eval (.BoolOp .Or [x, y] pos) C.env) := by
 refine zW.gen fun ρ σ s z r e hb => ?_
 refine wpAny_Or2 ((ha.at r).next e hb fun v ae aw az v' _ vv au e => ?_)
 refine At.then au (dP aw ae az v v' au.rel vv) e hb fun t aq aK aS t' _ vt aJ st e => ?_
 subst e
 cases vt
 cases t with
 | true => simp only [if_true] at hb ⊢; exact zx (aJ.vr vv) st
 | false => simp only [Bool.false_eq_true, if_false] at hb ⊢; exact (hb'.at st.rel).trans st hb
noncomputable def tv (v : V) (σ : St) : zZ V := match v with | .int i => .ok (.int (-i)) σ | _ => .bad
theorem lX {m : St → zZ V} {x : Expr} {pos : Pos} (h : bi prog w ac C m (eval x C.env)) : bi prog w ac C (fun σ => (m σ).bind tv) (eval (.UnaryOp .USub x pos) C.env) := by
 refine zW.gen fun ρ σ s z r e hb => ?_
 refine wpAny_UnaryOp ((h.at r).next e hb fun a ae aw az a' _ va au e => ?_)
 subst e
 cases a <;> first | exact absurd rfl hb | skip
 obtain ⟨t, rfl⟩ := va
 exact neg_int (zx ⟨_, rfl⟩ (au.trans (au.rel.toks _)))
noncomputable abbrev j5 (prog : Program) (w : World) (ac : Heap) (C : Cx) (f : V → St → zZ Unit) (t : Expr) : Prop := t9 prog w ac C fZ f (assign t C.env)
noncomputable def ao (i : Nat) (v : V) (σ : St) : zZ Unit := .ok () { σ with loc := σ.loc.set i (some v) }
theorem dW (ok : C.Ok) {x : Str} {i : Nat} (hx : (x, i) ∈ C.vars) : t9 prog w ac C fZ (ao i) (storeName C.env x) := by
 intro ρ σ s a a' r ha hb
 obtain ⟨m, hm, hvs⟩ := r.ns
 exact wpAny_storeName_local (ok.loc _ hx) hm (fun h' hn hs => zx trivial (r.store ok hx ha hm hvs hn hs)) (by rw [ok.kind]; rfl)
theorem fL (ok : C.Ok) {x : Str} {i : Nat} {pos : Pos} (hx : (x, i) ∈ C.vars) : j5 prog w ac C (ao i) (.Name x pos) :=
 fun ρ σ s a a' r ha hb => wpAny_assign_Name (dW ok hx ρ σ s a a' r ha hb)
theorem kI (ok : C.Ok) {x : Str} {i : Nat} {c : Addr} {pos : Pos} (hx : (x, i, c) ∈ C.cells) (hk : C.env.kindOf x = some .cell) : j5 prog w ac C (ao i) (.Name x pos) := by
 intro ρ σ s a a' r ha hb
 obtain ⟨_, _, _, v, hc, _⟩ := r.cel _ hx
 exact wpAny_assign_Name (wpAny_storeName_cell ok.kind hk (ok.cel _ hx).2 hc fun h' hn hs => zx trivial (r.storeCell (t := s.toks) ok hx ha hn hs))
theorem kC {m : St → zZ V} {f : V → St → zZ Unit} {t v : Expr} {pos : Pos} (hv : bi prog w ac C m (eval v C.env)) (ht : j5 prog w ac C f t) :
  bi prog w ac C (fun σ => (m σ).bind fun v ae => (f v ae).bind fun _ aq => .ok v aq) (eval (.NamedExpr t v pos) C.env) := by
 refine zW.gen fun ρ σ s z r e hb => ?_
 refine wpAny_NamedExpr ((hv.at r).next e hb fun a ae aw az a' _ va au e => ?_)
 refine At.then au (ht aw ae az a a' au.rel va) e hb fun _ aq aK aS _ _ _ aJ st e => ?_
 subst e
 exact zx (aJ.vr va) st
noncomputable abbrev gN (prog : Program) (w : World) (ac : Heap) (C : Cx) (m : St → zZ F) (st : Stmt) : Prop := zW prog w ac C FR m (exec st C.env)
noncomputable abbrev fY (prog : Program) (w : World) (ac : Heap) (C : Cx) (m : St → zZ F) (sts : List Stmt) : Prop := zW prog w ac C FR m (execs sts C.env)
noncomputable def aM (a b : St → zZ F) : St → zZ F := fun σ => (a σ).bind fun f ae => match f with | .next => b ae | f => .ok f ae
theorem aD : fY prog w ac C (aa .next) [] := fun _ _ _ r _ => wpAny_execs_nil (zx rfl (.refl r))
theorem ah {a b : St → zZ F} {st : Stmt} {rest : List Stmt} (ha : gN prog w ac C a st) (hb' : fY prog w ac C b rest) : fY prog w ac C (aM a b) (st :: rest) := by
 refine zW.gen fun ρ σ s z r e hb => ?_
 refine wpAny_execs_cons ((ha.at r).next e hb fun f ae aw az f' _ vf au e => ?_)
 subst e
 cases f with
 | next => cases vf; exact (hb'.at au.rel).trans au hb
 | brk => cases vf; exact zx rfl au
 | cont => cases vf; exact zx rfl au
 | ret v => obtain ⟨x, rfl, hv⟩ := vf; exact zx ⟨x, rfl, hv⟩ au
theorem ar {a : St → zZ F} {st : Stmt} (ha : gN prog w ac C a st) : fY prog w ac C a [st] := by
 intro ρ σ s r hb
 refine wpAny_execs_cons (wpAny_mono (ha.at r hb) (fun f az h => ?_) fun _ _ h => h)
 cases hm : a σ with
 | ok f' ae =>
  rw [hm] at h
  obtain ⟨aw, vf, au⟩ := h
  cases f' with
  | next => cases vf; exact wpAny_execs_nil (zx rfl au)
  | brk => cases vf; exact zx rfl au
  | cont => cases vf; exact zx rfl au
  | ret v => obtain ⟨x, rfl, hv⟩ := vf; exact zx ⟨x, rfl, hv⟩ au
 | exc => rw [hm] at h; exact h.elim
 | bad => rw [hm] at h; exact h.elim
noncomputable def an (m : St → zZ V) (f : V → St → zZ Unit) : St → zZ F := fun σ => (m σ).bind fun v ae => (f v ae).bind fun _ aq => .ok .next aq
theorem al {m : St → zZ V} {f : V → St → zZ Unit} {t v : Expr} {pos : Pos} (hv : bi prog w ac C m (eval v C.env)) (ht : j5 prog w ac C f t)
  (hs : swapsWithSole [t] v pos.line C.env = pure false) (hw : swappedStores [t] v C.env = pure none) (he : (assignEach [t] C.env).map (·.2) = [assign t C.env]) :
  gN prog w ac C (an m f) (.Assign [t] v pos) := by
 refine zW.gen fun ρ σ s z r e hb => ?_
 refine wpAny_Assign_stores ((hv.at r).next e hb fun a ae aw az a' _ va au e => ?_) hs hw
 rw [he]
 show wpAny _ _ (assign t C.env a') _ _ _
 refine At.then au (ht aw ae az a a' au.rel va) e hb fun _ aq aK aS _ _ _ aJ st e => ?_
 subst e
 exact zx rfl st
noncomputable def jZ (m : St → zZ V) (f g : V → St → zZ Unit) : St → zZ F := fun σ => (m σ).bind fun v ae => (f v ae).bind fun _ aq => (g v aq).bind fun _ aT => .ok .next aT
theorem l7 {m : St → zZ V} {f g : V → St → zZ Unit} {t u v : Expr} {pos : Pos} (hv : bi prog w ac C m (eval v C.env)) (ht : j5 prog w ac C f t) (hu : j5 prog w ac C g u)
  (hw : swappedStores [t, u] v C.env = pure none) (he : (assignEach [t, u] C.env).map (·.2) = [assign t C.env, assign u C.env]) :
  gN prog w ac C (jZ m f g) (.Assign [t, u] v pos) := by
 refine zW.gen fun ρ σ s z r e hb => ?_
 refine wpAny_Assign_two ((hv.at r).next e hb fun a ae aw az a' _ va au e => ?_) he hw
 refine At.then au (ht aw ae az a a' au.rel va) e hb fun _ aq aK aS _ _ _ aJ st e => ?_
 refine At.then st (hu aK aq aS a a' aJ.rel (aJ.vr va)) e hb fun _ aT bZ bF _ _ _ b8 st' e => ?_
 subst e
 exact zx rfl st'
noncomputable def bE (m : St → zZ V) : St → zZ F := fun σ => (m σ).bind fun _ ae => .ok .next ae
theorem bj {m : St → zZ V} {v : Expr} {pos : Pos} (hv : bi prog w ac C m (eval v C.env)) (hi : interactive C.env = false) (hs : swapsWith v none pos.line C.env = pure false) : gN prog w ac C (bE m) (.Expr v pos) := by
 refine zW.gen fun ρ σ s z r e hb => ?_
 refine wpAny_Expr_any ((hv.at r).next e hb fun a ae aw az a' _ va au e => ?_) hi hs
 subst e
 exact zx rfl au
theorem aQ {t : St → zZ Bool} {a b : St → zZ F} {x : Expr} {y z : List Stmt} {pos : Pos} (ht : pK prog w ac C t x) (ha : fY prog w ac C a y) (hb : fY prog w ac C b z) : gN prog w ac C (zE t a b) (.If x y z pos) :=
 fun _ _ _ r hn => wpAny_If (yz ht ha hb r hn)
noncomputable def dg (m : St → zZ V) : St → zZ F := fun σ => (m σ).bind fun v ae => .ok (.ret v) ae
theorem aZ {m : St → zZ V} {v : Expr} {pos : Pos} (hv : bi prog w ac C m (eval v C.env)) : gN prog w ac C (dg m) (.Return (some v) pos) := by
 refine zW.gen fun ρ σ s z r e hb => ?_
 refine wpAny_Return_some ((hv.at r).next e hb fun a ae aw az a' _ va au e => ?_)
 subst e
 exact zx ⟨a', rfl, va⟩ au
theorem fK {pos : Pos} : gN prog w ac C (aa .brk) (.Break pos) := fun _ _ _ r _ => wpAny_Break (zx rfl (.refl r))
theorem dC {pos : Pos} : gN prog w ac C (aa .cont) (.Continue pos) := fun _ _ _ r _ => wpAny_Continue (zx rfl (.refl r))
noncomputable def opI (op : Operator) (a b : V) (σ : St) : zZ V := match op with
 | .Add =>
  cond (zO a).isSome (zD (fun a b => .ok (.int (a + b)) σ) a b) (gS a fun x => gS b fun y => if x.length + y.length ≤ sizeLine then .ok (.str (x ++ y)) σ else .bad)
 | .Sub => zD (fun a b => .ok (.int (a - b)) σ) a b
 | _ => .bad
theorem p9 (op : Operator) : yO prog w ac C VR (opI op) (fun a b => inplaceOp op a b) := by
 intro ρ σ s a a' b b' r ha hb
 cases op with
 | Add =>
  exact bw (eC (T := inplaceOp .Add) ha hb fun x y t u _ => iadd_int (zx ⟨_, rfl⟩ (r.toks _)))
   (dB (t := fun a' => inplaceOp .Add a' b') ha fun x t => dB (t := fun b' => inplaceOp .Add (.str x t) b') hb fun y u => a8 fun h _ => iadd_str (fun t' k => zx ⟨_, rfl⟩ (r.toks _)) h)
 | Sub => exact eC (T := inplaceOp .Sub) ha hb fun x y t u _ => isub_int (zx ⟨_, rfl⟩ (r.toks _))
 | _ => exact fun h => absurd rfl h
theorem kD (ok : C.Ok) {x : Str} {i : Nat} (hx : (x, i) ∈ C.vars) : bi prog w ac C (ai i) (loadName C.env x) := by
 intro ρ σ s r hb
 obtain ⟨m, hm, hv⟩ := r.ns
 have hvx := hv (x, i) hx
 unfold ai at hb ⊢
 cases q : (σ.loc[i]?).join with
 | none => rw [q] at hb; exact absurd rfl hb
 | some v =>
  simp only [q] at hvx hb ⊢
  obtain ⟨y, e, hy⟩ := hvx
  exact wpAny_loadName_local ok.kind (ok.loc _ hx) hm e (zx hy (.refl r))
noncomputable def xa (op : Operator) (i : Nat) (m : St → zZ V) : St → zZ F := fun σ => (ai i σ).bind fun a ae => (m ae).bind fun b aq => (opI op a b aq).bind fun c aT => (ao i c aT).bind fun _ cg => .ok .next cg
theorem u8 (ok : C.Ok) {op : Operator} {x : Str} {i : Nat} {m : St → zZ V} {v : Expr} {p pos : Pos} (hx : (x, i) ∈ C.vars) (hv : bi prog w ac C m (eval v C.env)) : gN prog w ac C (xa op i m) (.AugAssign (.Name x p) op v pos) := by
 refine zW.gen fun ρ σ s z r e hb => ?_
 refine wpAny_AugAssign_Name (((kD ok hx).at r).next e hb fun a ae aw az a' _ va au e => ?_)
 refine (hv.at au.rel).then au e hb fun b aq aK aS b' _ vb aJ st e => ?_
 refine At.then st (p9 op aK aq aS a a' b b' aJ.rel (aJ.vr va) vb) e hb fun c aT bZ bF c' _ vc b8 st' e => ?_
 refine At.then st' (dW ok hx bZ aT bF c c' b8.rel vc) e hb fun _ cg iX ke _ _ _ iY st'' e => ?_
 subst e
 exact zx rfl st''
noncomputable def bS (t : St → zZ Bool) (b e : St → zZ F) : Nat → St → zZ F
 | 0, _ => .bad
 | n + 1, σ => (t σ).calm.bind fun c ae => if c then ((b ae).calm.bind fun f aq => match f with
   | .next | .cont => bS t b e n aq
   | .brk => .ok .next aq
   | .ret v => .ok (.ret v) aq) else (e ae).calm
inductive WhI (prog : Program) (w : World) (ac : Heap) (C : Cx) (ρ : List Addr) (σ : St) (s : Shared) (f : Nat → St → zZ F) (o : zZ F) (k : Nat) (s' : Shared) : Prop
 | mk (ρ' : List Addr) (σ' : St) (st : Step prog w ac C ρ σ s ρ' σ' s') (hf : f k σ' = o)
theorem dN {t : St → zZ Bool} {b e : St → zZ F} {x : Expr} {y z : List Stmt} {pos : Pos} (n : Nat) (ht : pK prog w ac C t x) (hb : fY prog w ac C b y) (he : fY prog w ac C e z) : gN prog w ac C (bS t b e n) (.While x y z pos) := by
 refine zW.gen fun ρ σ s o r ho hn => ?_
 refine wpAny_While (codeAny_mono (R := fun r s' => ∃ f, r = .ok f ∧ z3 prog w ac C FR ρ σ s o f s') ?_ fun r s' ⟨f, e, h⟩ => by subst e; exact h)
 refine codeAny_whileLoop (I := WhI prog w ac C ρ σ s (bS t b e) o) (fun k bg ⟨ct, cr, iZ, hf⟩ => ?_) n ⟨ρ, σ, .refl r, ho.symm⟩
 cases k with
 | zero => exact absurd hf.symm hn
 | succ k =>
  refine (ht.at iZ.rel).calmF hf hn fun c ae aw az c' vc au hf => ?_
  cases vc
  cases c with
  | true =>
   refine (hb.at au.rel).calmF hf hn fun f aq aK aS f' vf aJ hf => ?_
   have st := (iZ.trans au).trans aJ
   cases f with
   | next => cases vf; exact ⟨k, Nat.lt_succ_self k, aK, aq, st, hf⟩
   | cont => cases vf; exact ⟨k, Nat.lt_succ_self k, aK, aq, st, hf⟩
   | brk => cases vf; exact ⟨_, rfl, hf ▸ zx rfl st⟩
   | ret v => obtain ⟨x, rfl, hv⟩ := vf; exact ⟨_, rfl, hf ▸ zx ⟨x, rfl, hv⟩ st⟩
  | false =>
   refine (he.at au.rel).calm (fun q => hn (hf.symm.trans q)) fun f aq aK aS f' jS vf aJ => ?_
   exact ⟨_, rfl, (jS.symm.trans hf) ▸ zx vf ((iZ.trans au).trans aJ)⟩
end
noncomputable def uw (h : Heap) (S : List Addr) : Heap := ⟨h.objs.mapIdx fun i o => if i ∈ S then { o with data := .freed } else o, h.life⟩
theorem gZ (h : Heap) (S : List Addr) (a : Addr) : (uw h S).get? a = if a ∈ S then none else h.get? a := by
 unfold Heap.get? uw
 dsimp only
 rw [Array.getElem?_mapIdx]
 by_cases hs : a ∈ S
 ·rw [if_pos hs]
  cases h.objs[a]? with
  | none => rfl
  | some o => simp [hs]
 ·rw [if_neg hs]
  cases h.objs[a]? with
  | none => rfl
  | some o => simp [hs]
theorem o8 (h : Heap) (S : List Addr) : (uw h S).StaysIn h := fun b o e => by
 rw [gZ] at e
 split at e
 ·cases e
 ·exact e
section
variable {prog : Program} {w : World} {ac : Heap} {A : Around} {E : Value → Shared → Prop} {ρ : List Addr} {s : Shared} {M : Model}
noncomputable def bD (l : List Env) : List Addr := l.filterMap (·.frame)
theorem z6.mem {h : Heap} {l : List Env} (x : z6 ac h l) {L : Addr} (hm : L ∈ bD l) : ac.get? L = none ∧ ∃ o es n, h.get? L = some o ∧ o.data = .dict es n := by
 obtain ⟨e, he, hf⟩ := List.mem_filterMap.mp hm
 obtain ⟨_, L', o, es, n, hf', hb, ho, hd⟩ := x e he
 rw [hf] at hf'; cases hf'
 exact ⟨hb, o, es, n, ho, hd⟩
theorem z6.fun {h base : Heap} : ∀ {l : List Env}, z6 ac h l → (∀ L ∈ bD l, base.get? L = none) → h.FunFrames base l
 | [], _, _ => trivial
 | e :: l, x, hb => by
  obtain ⟨hk, L, o, es, n, hf, _, ho, hd⟩ := x e (.head _)
  refine ⟨hk, ⟨L, o, hf, hb L (by simp [bD, hf]), ho, fun vs q => by rw [hd] at q; cases q⟩, z6.fun (fun e' he' => x e' (.tail _ he')) fun L' hL' => hb L' ?_⟩
  simp only [bD, List.filterMap_cons, hf] at hL' ⊢
  exact .tail _ hL'
theorem jh {bG : Heap} {own : Addr → Prop} {env : Env} {outer : List Env} {L : Addr} {c : V} {args : List V} {e : Value} {Q : Unit → Shared → Prop} (hfr : A.frames = some (env :: outer)) (hL : env.frame = some L) (frs : z6 ac s.heap (env :: outer)) (fl : cG bG own ρ c args e s.heap)
  (hown : ∀ a, own a → s.heap.get? a ≠ none) (hb0 : ∀ a, ac.get? a ≠ none → bG.get? a ≠ none) (hlive : ∀ a, bG.get? a ≠ none → s.heap.get? a ≠ none)
  (hQ : ∀ h', (∀ a o, s.heap.get? a = some o → (own a ∨ ac.get? a ≠ none ∨ e ≠ .ref a ∧ ∀ vs, o.data ≠ .fields vs ) → ∃ o', h'.get? a = some o' ∧ iS o o') →
   (∀ a o, s.heap.get? a = some o → (own a ∨ ac.get? a ≠ none) → a ∉ bD (env :: outer) → h'.get? a = some o) → cG bG own ρ c args e h' →
   (∃ ea T, e = .ref ea ∧ ¬ own ea ∧ ¬ own T ∧ bG.get? ea = none ∧ bG.get? T = none ∧ ∀ a o, s.heap.get? a = some o → a ≠ ea → a ≠ T → ∃ o', h'.get? a = some o' ∧ iS o o') → Q () { s with heap := h' }) :
  wpAny M A (noteFrame e env) (fun _ s' => wpAny M A (setFlight e none) Q E s') E s := by
 obtain ⟨a, oe, vs, t, as, n, rfl, ha, hao, hoe, hc, hd, h0, ht, hto, htt, has, hv1⟩ := fl
 obtain ⟨T, hT1, hT2, hTT⟩ : ∃ T, bG.get? T = none ∧ ¬ own T ∧ ((vs[1]? = some .none ∧ T = a) ∨ ∃ oT ts, vs[1]? = some (.ref T) ∧ T ≠ a ∧ s.heap.get? T = some oT ∧ oT.data = .fields ts ∧ ts[3]? = some .none) := by
  rcases hv1 with h | ⟨T, oT, ts, h1, h2, h3, h4, h5, h6, h7⟩
  ·exact ⟨a, ha, hao, .inl ⟨h, rfl⟩⟩
  ·exact ⟨T, h3, h4, .inr ⟨oT, ts, h1, h2, h5, h6, h7⟩⟩
 let S := a :: T :: bD (env :: outer)
 have hTf : ∀ {o : Obj}, s.heap.get? T = some o → ∃ ws, o.data = .fields ws := fun {o} q => by
  rcases hTT with ⟨_, rfl⟩ | ⟨oT, ts, _, _, h5, h6, _⟩
  ·rw [hoe] at q; cases q; exact ⟨vs, hd⟩
  ·rw [h5] at q; cases q; exact ⟨ts, h6⟩
 have bs : (uw s.heap S).StaysIn s.heap := o8 _ _
 have bmem : ∀ {x}, x ∈ S → (uw s.heap S).get? x = none := fun hx => by rw [gZ, if_pos hx]
 have bout : ∀ {x o}, s.heap.get? x = some o → x ∉ S → (uw s.heap S).get? x = some o := fun q hx => by rw [gZ, if_neg hx]; exact q
 have ff : s.heap.FunFrames (uw s.heap S) (env :: outer) := frs.fun fun L hL => bmem (.tail _ (.tail _ hL))
 have fin : ∀ h', Heap.LeftW (uw s.heap S) (env :: outer) a oe.cls (.ref t) s.heap h' → Q () { s with heap := h' } := by
  rintro h' ⟨k1, k2, ⟨oe', vs', T', oT', ts', g1, ⟨g2, g3⟩, g4, g5, g6, g7, g8, g9, g10⟩, k4⟩
  have fr' : ∀ L ∈ bD (env :: outer), ∀ o, s.heap.get? L = some o → ∃ sl, h'.get? L = some { o with slots := sl } := fun L hL o ho => by
   obtain ⟨_, o', es, m, ho', hd'⟩ := frs.mem hL
   rw [ho] at ho'; cases ho'
   exact k4 L o ho fun ws q => by rw [hd'] at q; cases q
  have same : ∀ x o, s.heap.get? x = some o → x ≠ a → x ≠ T → ∃ o', h'.get? x = some o' ∧ iS o o' := fun x o hx hxa hxT => by
   by_cases hf : x ∈ bD (env :: outer)
   ·obtain ⟨_, o', es, m, ho', hd'⟩ := frs.mem hf
    rw [hx] at ho'; cases ho'
    obtain ⟨sl, q⟩ := fr' x hf o hx
    exact ⟨_, q, .inr ⟨⟨es, m, hd'⟩, sl, rfl⟩⟩
   ·exact ⟨o, k1 x o (bout hx (by simp [S, hxa, hxT, hf])), .refl o⟩
  have exact' : ∀ x o, s.heap.get? x = some o → x ≠ a → x ≠ T → x ∉ bD (env :: outer) → h'.get? x = some o := fun x o hx hxa hxT hf => k1 x o (bout hx (by simp [S, hxa, hxT, hf]))
  have oth : ∀ x, (own x ∨ ac.get? x ≠ none) → x ≠ a ∧ x ≠ T := fun x hx => by
   rcases hx with hx | hx
   ·exact ⟨by rintro rfl; exact hao hx, by rintro rfl; exact hT2 hx⟩
   ·exact ⟨by rintro rfl; exact hb0 _ hx ha, by rintro rfl; exact hb0 _ hx hT1⟩
  have hta : t ≠ a := by rintro rfl; rw [hoe] at htt; cases htt; cases hd
  have htT : t ≠ T := by rintro rfl; obtain ⟨ws, q⟩ := hTf htt; cases q
  have htf : t ∉ bD (env :: outer) := fun hm => by
   obtain ⟨_, o', es, m, ho', hd'⟩ := frs.mem hm
   rw [htt] at ho'; cases ho'; cases hd'
  have hT' : bG.get? T' = none ∧ ¬ own T' := by
   rw [gZ] at g6
   split at g6
   ·rename_i hm
    simp only [S, List.mem_cons] at hm
    rcases hm with rfl | rfl | hm
    ·exact absurd rfl g7
    ·exact ⟨hT1, hT2⟩
    ·obtain ⟨_, o', es, m, ho', hd'⟩ := frs.mem hm
     obtain ⟨sl, q⟩ := fr' T' hm o' ho'
     rw [g8] at q; cases q
     rw [hd'] at g9; cases g9
   ·refine ⟨?_, fun q => hown _ q g6⟩
    cases q : bG.get? T' with
    | none => rfl
    | some o => exact absurd g6 (hlive _ (by rw [q]; simp))
  refine hQ h' (fun x o hx hor => ?_) (fun x o hx hor hf => exact' x o hx (oth x hor).1 (oth x hor).2 hf) ?_ ⟨a, T, rfl, hao, hT2, ha, hT1, same⟩
  ·rcases hor with h | h | ⟨h, h'⟩
   ·exact same x o hx (oth x (.inl h)).1 (oth x (.inl h)).2
   ·exact same x o hx (oth x (.inr h)).1 (oth x (.inr h)).2
   ·refine same x o hx (fun q => h (q ▸ rfl)) fun q => ?_
    subst q
    obtain ⟨ws, q⟩ := hTf hx
    exact h' ws q
  ·exact ⟨a, oe', vs', t, as, n, rfl, ha, hao, g1, g2 ▸ hc, g4, g3, ht, hto, exact' t _ htt hta htT htf, has, .inr ⟨T', oT', ts', g5, g7, hT'.1, hT'.2, g8, g9, g10⟩⟩
 rcases hTT with ⟨hv, rfl⟩ | ⟨oT, ts, hv, hne, h5, h6, h7⟩
 ·unfold noteFrame
  simp only [hL]
  refine wpAny_bind (wpAny_field hoe hd hv ?_)
  rw [if_neg (by decide)]
  exact wpAny_newEntryW hfr ff hL hoe bs (bmem (.head _)) hd (Array.getElem?_eq_some_iff.mp hv).1 h0 fin
 ·have oth : ∀ b, b ≠ T → (s.heap.update T (Obj.mapFields (·.setIfInBounds 3 Value.none))).get? b = s.heap.get? b := fun b hb => Heap.get?_update_other _ _ (Ne.symm hb)
  have nrec : ∀ b o, s.heap.get? b = some o → (∀ vs, o.data ≠ .fields vs) → b ≠ T := fun b o hb hnf q => by
   subst q; rw [h5] at hb; cases hb; exact hnf ts h6
  unfold noteFrame
  simp only [hL]
  refine wpAny_bind (wpAny_field hoe hd hv ?_)
  rw [if_pos (by simp)]
  refine wpAny_bind (wpAny_field h5 h6 h7 ?_)
  rw [if_neg (by simp [rawInt])]
  refine wpAny_bind (wpAny_setField h5 h6 (Array.getElem?_eq_some_iff.mp h7).1 ?_)
  refine wpAny_newEntryW hfr (ff.of_keeps fun b o hb hnf => ⟨o, (oth b (nrec b o hb hnf)).trans hb, rfl⟩) hL ((oth a (Ne.symm hne)).trans hoe)
   (fun b o hbo => (oth b fun q => by rw [q, bmem (.tail _ (.head _))] at hbo; cases hbo).trans (bs b o hbo)) (bmem (.head _)) hd (Array.getElem?_eq_some_iff.mp hv).1 h0
   fun h' x => fin h' ⟨x.1, x.2.1, x.2.2.1, fun b o hb hnf => x.2.2.2 b o ((oth b (nrec b o hb hnf)).trans hb) hnf⟩
theorem mH {bG : Heap} {own : Addr → Prop} {env : Env} {outer : List Env} {L : Addr} {c : V} {args : List V} {e : Value} {Q : Unit → Shared → Prop} (hfr : A.frames = some (env :: outer)) (hL : env.frame = some L) (frs : z6 ac s.heap (env :: outer)) (fl : cG bG own ρ c args e s.heap)
  (hown : ∀ a, own a → s.heap.get? a ≠ none) (hb0 : ∀ a, ac.get? a ≠ none → bG.get? a ≠ none) (hlive : ∀ a, bG.get? a ≠ none → s.heap.get? a ≠ none)
  (hQ : ∀ h', (∀ a o, s.heap.get? a = some o → (own a ∨ ac.get? a ≠ none ∨ e ≠ .ref a ∧ ∀ vs, o.data ≠ .fields vs ) → ∃ o', h'.get? a = some o' ∧ iS o o') →
   (∀ a o, s.heap.get? a = some o → (own a ∨ ac.get? a ≠ none) → a ∉ bD (env :: outer) → h'.get? a = some o) → cG bG own ρ c args e h' →
   (∃ ea T, e = .ref ea ∧ ¬ own ea ∧ ¬ own T ∧ bG.get? ea = none ∧ bG.get? T = none ∧ ∀ a o, s.heap.get? a = some o → a ≠ ea → a ≠ T → ∃ o', h'.get? a = some o' ∧ iS o o') → Q () { s with heap := h' }) :
  wpAny M A (leaving env e) Q E s := wpAny_bind (jh hfr hL frs fl hown hb0 hlive hQ)
end
structure cE (prog : Program) (w : World) (ac : Heap) (ρ : List Addr) (H : List O) (s : Shared) (ρ' : List Addr) (H' : List O) (s' : Shared) : Prop where
 rel : eh prog w ac ρ' H' s'
 ext : ∃ more, ρ' = ρ ++ more ∧ ∀ a ∈ more, s.heap.get? a = none
 pres : Pres (· ∈ ρ) s s'
 rest : rU s s'
section
variable {prog : Program} {w : World} {ac : Heap} {C : Cx} {ρ ρ' ρ'' : List Addr} {σ : St} {H H' H'' : List O} {s s' s'' : Shared}
theorem cE.refl (r : eh prog w ac ρ H s) : cE prog w ac ρ H s ρ H s := ⟨r, ⟨[], by simp, by simp⟩, fun _ o e _ => ⟨o, e, .refl o⟩, .refl s⟩
theorem cE.trans (a : cE prog w ac ρ H s ρ' H' s') (b : cE prog w ac ρ' H' s' ρ'' H'' s'') : cE prog w ac ρ H s ρ'' H'' s'' := by
 obtain ⟨m1, e1, n1⟩ := a.ext
 obtain ⟨m2, e2, n2⟩ := b.ext
 refine ⟨b.rel, ⟨m1 ++ m2, by rw [e2, e1, List.append_assoc], fun x hx => ?_⟩, fun x o hx hn => ?_, a.rest.trans b.rest⟩
 ·rcases List.mem_append.mp hx with h | h
  ·exact n1 x h
  ·cases q : s.heap.get? x with
   | none => rfl
   | some o =>
    exfalso
    by_cases ho : x ∈ ρ
    ·have := b.rel.nodup
     rw [e2] at this
     exact (List.nodup_append.mp this).2.2 x (e1 ▸ List.mem_append_left _ ho) x h rfl
    ·obtain ⟨o', q', _⟩ := a.pres x o q ho
     rw [n2 x h] at q'; cases q'
 ·obtain ⟨o', h', e'⟩ := a.pres x o hx hn
  obtain ⟨o'', h'', e''⟩ := b.pres x o' h' fun hm => by
   rw [e1, List.mem_append] at hm
   rcases hm with h | h
   ·exact hn h
   ·rw [n1 x h] at hx; cases hx
  exact ⟨o'', h'', e'.trans e''⟩
theorem cE.all (a : cE prog w ac ρ H s ρ' H' s') {v : List V} {x : List Value} (h : bL ρ v x) : bL ρ' v x := by
 obtain ⟨m, rfl, _⟩ := a.ext; exact h.mono
theorem cE.up (r : zX prog w ac C ρ σ s) (a : cE prog w ac ρ σ.heap s ρ' H' s') : Step prog w ac C ρ σ s ρ' { σ with heap := H' } s' := by
 obtain ⟨m1, e1, n1⟩ := a.ext
 have live : ∀ {x o}, s.heap.get? x = some o → x ∉ ρ → x ∉ ρ' := fun hx hn hm => by
  rw [e1, List.mem_append] at hm
  rcases hm with h | h
  ·exact hn h
  ·rw [n1 _ h] at hx; cases hx
 refine ⟨⟨a.rel, ?_, ⟨r.lnew.1, ?_⟩, fun p hp => ?_, dt r.frs fun e he L hL o ho => a.pres L o ho (r.frn e he L hL).1, fun e he L hL => ⟨?_, (r.frn e he L hL).2⟩, r.locs⟩, a.ext, fun x o hx hn => a.pres x o hx fun h => hn (.inl h), fun _ _ => rfl, a.rest⟩
 ·obtain ⟨m, hm, hv⟩ := r.ns
  refine ⟨m, d7 hm fun o ho => a.pres _ o ho r.lnew.2, fun p hp => ?_⟩
  rw [e1]; exact (hv p hp).mono
 ·obtain ⟨m, ⟨o, _, _, ho, _⟩, _⟩ := r.ns
  exact live ho r.lnew.2
 ·obtain ⟨g1, g2, g3, v, ⟨o, ho, hd⟩, g5⟩ := r.cel p hp
  obtain ⟨o', ho', hs⟩ := a.pres _ o ho g2
  refine ⟨g1, live ho g2, g3, v, ⟨o', ho', ?_⟩, by rw [e1]; exact g5.mono⟩
  rcases hs with rfl | ⟨_, sl, rfl⟩ <;> exact hd
 ·obtain ⟨_, L', o, es, n, hf', _, ho', _⟩ := r.frs e he
  rw [hL] at hf'; cases hf'
  exact live ho' (r.frn e he L hL).1
noncomputable abbrev cX := List V → List O → zZ V
noncomputable def FunP (prog : Program) (w : World) (ac : Heap) (ρ : List Addr) (H : List O) (s : Shared) (o : zZ V) (r : Result) (s' : Shared) : Prop := match o with
 | .ok v τ => ∃ x ρ', r = .ok (.ret x) ∧ VR ρ' v x ∧ cE prog w ac ρ H s ρ' τ.heap s'
 | .exc c as τ => ∃ e ρ', r = .error e ∧ cG s.heap (· ∈ ρ') ρ' c as e s'.heap ∧ cE prog w ac ρ H s ρ' τ.heap s'
 | .bad => False
noncomputable def dy (prog : Program) (w : World) (ac : Heap) (k : Nat) (f : Value) (mk : List Value → Args) (m : cX) : Prop := ∀ A outer ρ H s vs xs, A.frames = some outer → A.handled = none → A.depth + k < recursionLimit → A.units + 8 * k + 100 < cLine → z6 ac s.heap outer → (∀ L ∈ bD outer, L ∉ ρ) → eh prog w ac ρ H s → bL ρ vs xs → m vs H ≠ .bad → codeAny (model prog w) A (.call f (mk xs)) (FunP prog w ac ρ H s (m vs H)) s
noncomputable abbrev av : List Value → Args := fun xs => ⟨xs, []⟩
noncomputable def bJ (m : cX) (vs : List V) (σ : St) : zZ V := match m vs σ.heap with
 | .ok v τ => .ok v { σ with heap := τ.heap }
 | .exc c as τ => .exc c as { σ with heap := τ.heap }
 | .bad => .bad
theorem ix (r : zX prog w ac C ρ σ s) {a : Addr} {o : Obj} (ha : a ∉ ρ) (ho : s.heap.get? a = some o) (hd : wR o) : ¬ zY C ρ a := by
 rintro (h | h | ⟨p, hp, h⟩)
 ·exact ha h
 ·subst h
  obtain ⟨m, ⟨o', es, ep, ho', hd', _⟩, _⟩ := r.ns
  rw [ho] at ho'; cases ho'
  rcases hd with ⟨vs, q⟩ | ⟨vs, n, q⟩ <;> rw [hd'] at q <;> cases q
 ·subst h
  obtain ⟨_, _, _, v, ⟨o', ho', hd'⟩, _⟩ := r.cel p hp
  rw [ho] at ho'; cases ho'
  rcases hd with ⟨vs, q⟩ | ⟨vs, n, q⟩ <;> rw [hd'] at q <;> cases q
theorem cG.up {bG : Heap} (r : zX prog w ac C ρ σ s) {c : V} {as : List V} {e : Value} (f : cG bG (· ∈ ρ) ρ c as e s.heap) : cG bG (zY C ρ) ρ c as e s.heap :=
 f.map (fun _ h => h) (fun _ h => h) fun _ _ h1 h2 h3 h4 => ⟨h1, ix r h2 h3 h4, h3⟩
theorem cG.down {own : Addr → Prop} {bG h : Heap} {c : V} {as : List V} {e : Value} (f : cG bG own ρ c as e h) (hw : ∀ a ∈ ρ, own a) : cG bG (· ∈ ρ) ρ c as e h :=
 f.map (fun _ h => h) (fun _ h => h) fun _ _ h1 h2 h3 _ => ⟨h1, fun q => h2 (hw _ q), h3⟩
noncomputable def cR (prog : Program) (w : World) (ac : Heap) (C : Cx) (f : Value) (mk : List Value → Args) (g : List V → St → zZ V) : Prop := ∀ ρ σ s vs xs, zX prog w ac C ρ σ s → bL ρ vs xs → At prog w ac C VR ρ σ s (g vs σ) (call f (mk xs).pos (mk xs).kw)
theorem qk (ok : C.Ok) (hq : C.A.handled = none) {k : Nat} {f : Value} {mk : List Value → Args} {m : cX} (hk : k ≤ C.k) (h : dy prog w ac k f mk m) : cR prog w ac C f mk (bJ m) := by
 intro ρ σ s vs xs r ha hn
 have hm : m vs σ.heap ≠ .bad := fun q => hn (by unfold bJ; rw [q])
 have hd := ok.depth
 have hu := ok.units
 have frm : ∀ L ∈ bD (C.fenv :: C.outer), L ∉ ρ := fun L hL => by
  obtain ⟨e, he, hf⟩ := List.mem_filterMap.mp hL
  exact (r.frn e he L hf).1
 refine wpAny_call (codeAny_mono (h C.A _ ρ σ.heap s vs xs ok.fr hq (by lia) (by lia) r.frs frm r.hp ha hm) fun res s' hp => ?_)
 unfold bJ at hn ⊢
 cases q : m vs σ.heap with
 | ok v τ =>
  rw [q] at hp
  obtain ⟨x, ρ', rfl, hv, st⟩ := hp
  exact zx hv (st.up r)
 | exc c as τ =>
  rw [q] at hp
  obtain ⟨e, ρ', rfl, hf, st⟩ := hp
  exact ⟨ρ', hf.up (st.up r).rel, st.up r⟩
 | bad => rw [q] at hp; exact hp.elim
end
structure wU (ac : Heap) (fa : Addr) (fd : FuncData) (body : List Stmt) : Prop where
 obj : ∃ o, ac.get? fa = some o ∧ o.data = .func fd
 cd : ac.CodeRec fd.code fd.qualname
 body : fd.body = .stmts body
 clo : fd.closure = []
 glob : fd.globals = mainGlobals
 bl : fd.builtins = builtinsNs
 co : fd.scope.isCoroutine = false
 gen : fd.scope.isGenerator = false
 kind : fd.scope.kind = .function
theorem pf {l : List (Str × Value)} (h : (l.map (·.1)).Nodup) {x : Str} {v : Value} (hm : (x, v) ∈ l) : l.lookup x = some v := by
 induction l with
 | nil => cases hm
 | cons p l ih =>
  obtain ⟨y, u⟩ := p
  rw [List.map_cons, List.nodup_cons] at h
  rcases List.mem_cons.mp hm with e | hm'
  ·cases e; simp
  ·have hne : (x == y) = false := by
    rw [beq_eq_false_iff_ne]
    intro q
    subst q
    exact h.1 (List.mem_map.mpr ⟨(x, v), hm', rfl⟩)
   rw [List.lookup_cons, hne]
   exact ih h.2 hm'
theorem mE {l : List (Str × Value)} {x : Str} (h : x ∉ l.map (·.1)) : l.lookup x = none := by
 induction l with
 | nil => rfl
 | cons p l ih =>
  obtain ⟨y, u⟩ := p
  rw [List.map_cons, List.mem_cons, not_or] at h
  have hne : (x == y) = false := by rw [beq_eq_false_iff_ne]; exact h.1
  rw [List.lookup_cons, hne]
  exact ih h.2
theorem rV {ps : List Str} {ys : List Value} (h : ys.length = ps.length) : (ps.zip ys).map (·.1) = ps := by
 rw [List.map_fst_zip]; lia
noncomputable def dI (n : Nat) (vs : List V) : List (Option V) := vs.map some ++ List.replicate (n - vs.length) none
theorem kX {n : Nat} {vs : List V} {i : Nat} : ((dI n vs)[i]?).join = vs[i]? := by
 unfold dI
 by_cases h : i < vs.length
 ·rw [List.getElem?_append_left (by simpa using h), List.getElem?_map, List.getElem?_eq_getElem h]; rfl
 ·have hn : vs[i]? = none := List.getElem?_eq_none (by lia)
  rw [List.getElem?_append_right (by simpa using h), hn, List.getElem?_replicate]
  split <;> rfl
theorem pX {ρ : List Addr} {params others : List Str} {ys : List Value} {ps : List V} {n : Nat} (hnd : (params ++ others).Nodup) (hl : ys.length = params.length) (ha : bL ρ ps ys) {x : Str} {i : Nat} (hx : (params ++ others)[i]? = some x) :
  zS ρ ((dI n ps)[i]?).join ((params.zip ys).reverse.lookup x) := by
 have hkeys : (((params.zip ys).reverse).map (·.1)) = params.reverse := by rw [List.map_reverse, rV hl]
 have hpn : params.Nodup := (List.nodup_append.mp hnd).1
 rw [kX]
 by_cases h : i < params.length
 ·have hps : ps.length = params.length := by rw [← hl, ha.length]
  rw [List.getElem?_append_left h] at hx
  have hi : i < ps.length := by lia
  obtain ⟨y, hy, hv⟩ := ha.get (List.getElem?_eq_getElem hi)
  rw [List.getElem?_eq_getElem hi]
  refine ⟨y, pf (by rw [hkeys]; exact (List.pairwise_reverse.mpr (hpn.imp fun h => Ne.symm h))) (List.mem_reverse.mpr ?_), hv⟩
  refine List.mem_of_getElem? (i := i) ?_
  rw [List.getElem?_zip_eq_some]
  exact ⟨hx, hy⟩
 ·have hps : ps.length = params.length := by rw [← hl, ha.length]
  rw [List.getElem?_eq_none (by lia)]
  refine mE ?_
  rw [hkeys, List.mem_reverse]
  intro hm
  rw [List.getElem?_append_right (by lia)] at hx
  exact (List.nodup_append.mp hnd).2.2 x hm x (List.mem_of_getElem? hx) rfl
section
variable {prog : Program} {w : World} {ac : Heap} {mg mb : Str → Option Value}
noncomputable def oC (prog : Program) (w : World) (ac : Heap) (fd : FuncData) (params : List Str) (mk : List Value → Args) (bnd : List V → List O → Option (List V × List O)) : Prop := ∀ A ρ H s vs xs ps b7, eh prog w ac ρ H s → bL ρ vs xs → bnd vs H = some (ps, b7) → wpAny (model prog w) A (bindArgs fd (mk xs)) (fun binds s' => ∃ ρ' ys, binds = params.zip ys ∧ ys.length = params.length ∧ bL ρ' ps ys ∧ cE prog w ac ρ H s ρ' b7 s') (fun _ _ => False) s
noncomputable def dh (n : Nat) (bnd : List V → List O → Option (List V × List O)) (body : St → zZ F) : cX := fun vs H => match bnd vs H with
 | none => .bad
 | some (ps, b7) => match body ⟨dI n ps, b7⟩ with
  | .ok (.ret v) τ => .ok v τ
  | .ok .next τ => .ok .none τ
  | .ok _ _ => .bad
  | .exc c as τ => .exc c as τ
  | .bad => .bad
end
section
variable {prog : Program} {w : World} {ac : Heap} {C : Cx} {mg mb : Str → Option Value} {ρ : List Addr} {σ : St} {s : Shared}
noncomputable abbrev bK (prog : Program) (w : World) (ac : Heap) (C : Cx) (ms : St → zZ (List V)) (pos : Pos) (args : List Expr) : Prop := zW prog w ac C bL ms (spliced (backTo pos (starEach args C.env)))
noncomputable def aj (m : St → zZ V) (ms : St → zZ (List V)) : St → zZ (List V) := fun σ => (m σ).bind fun v ae => (ms ae).bind fun vs aq => .ok (v :: vs) aq
theorem ag {pos : Pos} : bK prog w ac C (aa []) pos [] := fun _ _ _ r _ => spliced_nil (zx rfl (.refl r))
theorem ad {m : St → zZ V} {ms : St → zZ (List V)} {pos : Pos} {e : Expr} {rest : List Expr} (h : bi prog w ac C m (eval e C.env)) (hr : bK prog w ac C ms pos rest)
  (he : starEach (e :: rest) C.env = (false, eval e C.env) :: starEach rest C.env) : bK prog w ac C (aj m ms) pos (e :: rest) := by
 refine zW.gen fun ρ σ s z r q hb => ?_
 rw [he]
 show wpAny _ _ (spliced ((false, eval e C.env) :: backTo pos (starEach rest C.env))) _ _ _
 refine spliced_cons ((h.at r).next q hb fun a ae aw az a' _ va au q => ?_)
 refine (hr.at au.rel).then au q hb fun b aq aK aS b' _ vb aJ st q => ?_
 subst q
 exact zx ⟨_, _, rfl, aJ.vr va, vb⟩ st
noncomputable def bu (ms : St → zZ (List V)) : St → zZ V := fun σ => (ms σ).bind fun vs ae => if vs.length ≤ sizeLine then .ok (.ref ae.heap.length) { ae with heap := ae.heap ++ [.list vs] } else .bad
noncomputable def hY (ms : St → zZ (List V)) : St → zZ V := fun σ => (ms σ).bind fun vs ae => if vs.length ≤ sizeLine then .ok (.ref ae.heap.length) { ae with heap := ae.heap ++ [.tup vs] } else .bad
theorem pz (r : zX prog w ac C ρ σ s) {vs : List V} {xs : List Value} (ha : bL ρ vs xs) : At prog w ac C VR ρ σ s (if vs.length ≤ sizeLine then .ok (.ref σ.heap.length) { σ with heap := σ.heap ++ [.list vs] } else .bad) (newList xs) := by
 intro hn
 split at hn
 ·rename_i h
  rw [if_pos h]
  exact wpAny_newList (zx (ρ' := ρ ++ [s.heap.objs.size]) ⟨_, bv r.hp _, rfl⟩ (r.alloc (t := s.toks) rfl ⟨_, 0, rfl, ha.mono⟩)) (by rw [ha.length]; exact h)
 ·exact absurd rfl hn
theorem m9 (r : zX prog w ac C ρ σ s) {vs : List V} {xs : List Value} (ha : bL ρ vs xs) : At prog w ac C VR ρ σ s (if vs.length ≤ sizeLine then .ok (.ref σ.heap.length) { σ with heap := σ.heap ++ [.tup vs] } else .bad) (newTuple xs) := by
 intro hn
 split at hn
 ·rename_i h
  rw [if_pos h]
  exact wpAny_newTuple (zx (ρ' := ρ ++ [s.heap.objs.size]) ⟨_, bv r.hp _, rfl⟩ (r.alloc (t := s.toks) rfl ⟨_, 0, rfl, ha.mono⟩)) (by rw [ha.length]; exact h)
 ·exact absurd rfl hn
theorem bn {ms : St → zZ (List V)} {pos : Pos} {es : List Expr} (h : bK prog w ac C ms pos es) : bi prog w ac C (bu ms) (eval (.List es pos) C.env) := by
 refine zW.gen fun ρ σ s z r e hb => ?_
 refine List_ ((h.at r).next e hb fun a ae aw az a' _ va au e => ?_)
 subst e
 exact (pz au.rel va).trans au hb
theorem dG {ms : St → zZ (List V)} {k : Nat} {pos : Pos} {es : List Expr} (h : bK prog w ac C ms pos es) : bi prog w ac C (hY ms) (eval (.Tuple es k pos) C.env) := by
 refine zW.gen fun ρ σ s z r e hb => ?_
 refine Tuple_ ((h.at r).next e hb fun a ae aw az a' _ va au e => ?_)
 subst e
 exact (m9 au.rel va).trans au hb
noncomputable def Keeps (ac : Heap) (M : Model) (f : Value) : Prop := ∀ h, ac.StaysIn h → ∃ k, (k = Keeper.frame ∨ k = Keeper.machine ∨ k = Keeper.boundFrame) ∧ Looks M h (keeperOf f) k
theorem q7 {M : Model} {id : String} : Keeps ac M (.builtin id) := fun _ _ => ⟨.machine, .inr (.inl rfl), .now⟩
theorem pg {M : Model} {id : String} : Keeps ac M (.type id) := fun _ _ => ⟨.machine, .inr (.inl rfl), .now⟩
theorem cw {f : Value} {args : List (Bool × Sem Value)} {Q : Args → Shared → Prop} {E : Value → Shared → Prop} {A : Around} {M : Model} (hp : args.any (·.1) = false) (h : wpAny M A (spliced args) (fun vs s' => Q ⟨vs, []⟩ s') E s) : wpAny M A (evalArgs f true args []) Q E s := by
 cases args with
 | nil =>
  unfold evalArgs
  show wpAny M A (spliced [] >>= _) Q E s
  refine wpAny_bind (wpAny_mono h (fun vs s' h' => ?_) fun _ _ x => x)
  refine wpAny_bind (wpAny_pure (wpAny_holding ?_))
  exact wpAny_bind (wpAny_pure (wpAny_bind (wpAny_pure (wpAny_pure h'))))
 | cons p rest =>
  obtain ⟨b, t⟩ := p
  have hb : b = false := by simp at hp; exact hp.1
  subst hb
  exact evalArgs_plain h
noncomputable def aC (ma : St → zZ (List V)) (g : List V → St → zZ V) : St → zZ V := fun σ => (ma σ).bind g
theorem fJ {v : V} {f : Value} {ma : St → zZ (List V)} {g : List V → St → zZ V} {x : Str} {np pos : Pos} {args : List Expr} (hk : Keeps ac (model prog w) f) (hn : bi prog w ac C (aa v) (eval (.Name x np) C.env)) (hv : ∀ ρ x, VR ρ v x → x = f)
  (ha : bK prog w ac C ma pos args) (hg : cR prog w ac C f av g) (hp : (backTo pos (starEach args C.env)).any (·.1) = false) : bi prog w ac C (aC ma g) (eval (.Call (.Name x np) args [] pos) C.env) := by
 refine zW.gen fun ρ σ s z r e hb => ?_
 refine wpAny_Call_ofName (At.next (f := fun _ ae => aC ma g ae) (hn.at r) e hb fun a ae aw az a' mR va au e => ?_)
 cases mR
 have := hv _ _ va
 subst this
 refine callWith_of (P := ac.StaysIn) (by rw [hp]; rfl) (fun h k => hk h k) (cw hp ((ha.at au.rel).then au e hb fun b aq aK aS b' _ vb aJ st e => ⟨st.rel.hp.base, ?_⟩))
 subst e
 exact (hg aK aq aS b b' st.rel vb).trans st hb
noncomputable def a7 (chk : V → List O → Bool) (f : V → List V → St → zZ V) (mo : St → zZ V) (ma : St → zZ (List V)) : St → zZ V := fun σ => (mo σ).bind fun v ae => if chk v ae.heap then (ma ae).bind fun vs aq => f v vs aq else .bad
structure ex (prog : Program) (w : World) (ac : Heap) (C : Cx) (T : String) (name : Str) (id : String) (chk : V → List O → Bool) (f : V → List V → St → zZ V) : Prop where
 pa : PlainAttrs T
 slot : Slot T name id
 ty : typeOf (.builtin id) = pure (.type "method_descriptor")
 self : ∀ ρ H s v v', eh prog w ac ρ H s → VR ρ v v' → chk v H = true → s.TypeIs v' T ∧ ∀ a, v' = .ref a → ∃ ob, s.heap.get? a = some ob ∧ ob.dict = none
 call : ∀ ρ σ s v v' vs xs, zX prog w ac C ρ σ s → VR ρ v v' → bL ρ vs xs → At prog w ac C VR ρ σ s (f v vs σ) (call (.builtin id) (v' :: xs))
theorem aU {T : String} {name : Str} {id : String} {chk : V → List O → Bool} {f : V → List V → St → zZ V} {mo : St → zZ V} {ma : St → zZ (List V)} {o : Expr} {apos pos : Pos} {args : List Expr} (M : ex prog w ac C T name id chk f)
  (ho : bi prog w ac C mo (eval o C.env)) (ha : bK prog w ac C ma pos args) (hbase : attributeBase o name C.env (eval o C.env) = eval o C.env) (hp : (backTo pos (starEach args C.env)).any (·.1) = false)
  (hfew : ((backTo pos (starEach args C.env)).all (fun x => !x.1) && (backToKw pos (keywordEach [] C.env)).all (fun x => x.1.isSome) && decide (args.length + ([] : List Keyword).length + (if ([] : List Keyword).isEmpty then 0 else 1) < 30)) = true)
  (hline : (apos.endLine == pos.line) = true) : bi prog w ac C (a7 chk f mo ma) (eval (.Call (.Attribute o name apos) args [] pos) C.env) := by
 refine zW.gen fun ρ σ s z r e hb => ?_
 refine wpAny_Call_method_lateS hbase hfew hline ((ho.at r).next e hb fun v ae aw az v' _ vv au e => ?_)
 obtain ⟨hc, e⟩ := fq e.symm hb
 obtain ⟨hT, hd⟩ := M.self aw _ az v v' au.rel.hp vv hc
 refine ⟨T, id, M.pa, M.slot, M.ty, hT, hd, callWith_builtin hp (cw hp ((ha.at au.rel).then au e.symm hb fun b aq aK aS b' _ vb aJ st e => ?_))⟩
 subst e
 exact (M.call aK aq aS v v' b b' st.rel (aJ.vr vv) vb).trans st hb
end
theorem cP {xs : List V} {vs : List Value} {ρ : List Addr} (h : bL ρ xs vs) : vs.toArray.size = xs.length := by simp [h.length]
noncomputable def br (a b : V) (σ : St) : zZ V := gI b fun k => cond (aO a σ.heap) (gl a σ.heap fun _ xs => cond (decide (0 ≤ k)) (if 0 ≤ k ∧ k < 2 ^ 63 then gO xs[k.toNat]? fun v => .ok v σ else .bad) (if k < 0 ∧ -(xs.length : Int) ≤ k ∧ -(2 ^ 63) ≤ k then gO xs[(k + xs.length).toNat]? fun v => .ok v σ else .bad)) (cond (bP a σ.heap) (gd a σ.heap fun _ es _ => gO (es.lookup k) fun v => .ok v σ) (cond (bH a σ.heap) (gS a fun x => if -(2 ^ 63) ≤ k ∧ k < 2 ^ 63 then gO ((seqIndex? k x.length).bind (x.cps[·]?)) fun c => .ok (.str ⟨#[c]⟩) σ else .bad) (cond (asY a).isSome (gY a fun b => if b.size ≤ 1099511627776 ∧ 0 ≤ k ∧ k < b.size then .ok (.int (b.toList.getD k.toNat 0).toNat) σ else .bad) (gt a σ.heap fun _ xs => if -(2 ^ 63) ≤ k ∧ k < 2 ^ 63 then gO ((seqIndex? k xs.length).bind (xs[·]?)) fun v => .ok v σ else .bad))))
theorem dQ {X : Type} {f : O → Option X} {l : Nat} {H : List O} {o : O} (h : H[l]? = some o) : zC f (.ref l) H = (f o).isSome := by
 show H[l]?.any _ = _; rw [h]; rfl
theorem iF {β : Type} {l : Nat} {H : List O} {o : O} {k : Nat → O → zZ β} (h : H[l]? = some o) : gh (.ref l) H k = k l o := by
 show gO H[l]? _ = _; rw [h]; rfl
theorem kh {l : Nat} {xs : List V} {k : Int} {σ : St} (h : σ.heap[l]? = some (.list xs)) : br (.ref l) (.int k) σ = cond (decide (0 ≤ k)) (if 0 ≤ k ∧ k < 2 ^ 63 then gO xs[k.toNat]? fun v => .ok v σ else .bad)
  (if k < 0 ∧ -(xs.length : Int) ≤ k ∧ -(2 ^ 63) ≤ k then gO xs[(k + xs.length).toNat]? fun v => .ok v σ else .bad) := by
 show cond (zC zN _ _) _ _ = _
 rw [dQ h]; show gl _ _ _ = _; exact iF h
theorem ki {l : Nat} {es : List (Int × V)} {ep : Nat} {k : Int} {σ : St} (h : σ.heap[l]? = some (.dict es ep)) : br (.ref l) (.int k) σ = gO (es.lookup k) fun v => .ok v σ := by
 show cond (zC zN _ _) _ (cond (zC zQ _ _) _ _) = _
 rw [dQ h, dQ h]; exact .trans (show _ = gd (.ref l) σ.heap fun _ es _ => gO (es.lookup k) fun v => .ok v σ from rfl) (iF h)
theorem r8 {l : Nat} {xs : List V} {k : Int} {σ : St} (h : σ.heap[l]? = some (.tup xs)) : br (.ref l) (.int k) σ = if -(2 ^ 63) ≤ k ∧ k < 2 ^ 63 then gO ((seqIndex? k xs.length).bind (xs[·]?)) fun v => .ok v σ else .bad := by
 show cond (zC zN _ _) _ (cond (zC zQ _ _) _ _) = _
 rw [dQ h, dQ h]; exact .trans (show _ = gt (.ref l) σ.heap fun _ xs => if -(2 ^ 63) ≤ k ∧ k < 2 ^ 63 then gO ((seqIndex? k xs.length).bind (xs[·]?)) fun v => .ok v σ else .bad from rfl) (iF h)
section
variable {prog : Program} {w : World} {ac : Heap} {C : Cx} {mg mb : Str → Option Value} {ρ : List Addr} {σ : St} {s : Shared}
theorem sg {value slice : Expr} (hs : ∀ o k t, subscripted slice false o (.int k t) = operate [o, .int k t] (getItem o (.int k t))) : yO prog w ac C VR br (fun a b => subscriptTail value slice a b) := fun ρ σ s a a' b b' r ha hb =>
 fg (t := fun b' => subscriptTail value slice a' b') hb fun k u => bw (fD (t := fun a' => subscriptTail value slice a' (.int k u)) r.hp ha fun l x ys vs n _ _ h1 hv => bw
   (a8 fun h => bA fun v hg _ => by
    obtain ⟨y, hy, hvy⟩ := hv.get hg
    have il : s.heap.IsList x vs.toArray := ⟨_, h1, rfl, n, rfl⟩
    exact tail_any il.typeIs slot_list_getitem.lookup (wpAny_getItem_list il h.1 h.2 ((List.getElem?_toArray ..).trans hy) (zx hvy (.refl r))) (hs _ _ _))
   (a8 fun h => bA fun v hg _ => by
    obtain ⟨y, hy, hvy⟩ := hv.get hg
    have il : s.heap.IsList x vs.toArray := ⟨_, h1, rfl, n, rfl⟩
    have e : vs.toArray.size = ys.length := cP hv
    exact tail_any il.typeIs slot_list_getitem.lookup (wpAny_getItem_list_neg il h.1 (by rw [e]; exact h.2.1) h.2.2 (by rw [e]; exact (List.getElem?_toArray ..).trans hy) (zx hvy (.refl r))) (hs _ _ _)))
  (bw (rG (t := fun a' => subscriptTail value slice a' (.int k u)) ha fun l x es ep hx q => bA fun v hg _ => by
   obtain ⟨ob, h1, kvs, h2, h3, _⟩ := r.hp.obj _ _ _ q hx
   have hd : s.heap.DictOf (intKind prog w) x kvs := Heap.dictOf_iff.mpr ⟨ob, h1, h2⟩
   have hvk := pairs_at h3 k
   rw [hg] at hvk
   obtain ⟨y, hy, hvy⟩ := hvk
   exact tail_any hd.mapOf.typeIs slot_dict_getitem.lookup (wpAny_getItem_of (knd := intKind prog w) (intKind_is _ _ _ _) hd.mapOf hy (zx hvy (r.toks _))) (hs _ _ _))
  (bw (dB (t := fun a' => subscriptTail value slice a' (.int k u)) ha fun x t => a8 fun h => bA fun c hi _ =>
   tail_any (typeIs_str s x t) slot_str_getitem.lookup (getItem_str (Bool.or_eq_false_iff.mpr ⟨decide_eq_false (Int.not_lt.mpr h.1), decide_eq_false (Int.not_le.mpr h.2)⟩) hi (zx ⟨_, rfl⟩ (r.toks _))) (hs _ _ _))
  (bw (wJ (t := fun a' => subscriptTail value slice a' (.int k u)) ha fun ⟨bs⟩ t => a8 fun h _ =>
   tail_any (typeIs_bytes s _ t) FB.slot_bytes_getitem.lookup (getItem_bytes h.1 h.2.1 h.2.2 (zx (ρ' := ρ) ⟨_, rfl⟩ (r.toks _))) (hs _ _ _))
  (t6 (t := fun a' => subscriptTail value slice a' (.int k u)) r.hp ha fun l x ys vs n _ _ h1 hv => a8 fun h63 => bA fun v hg _ => by
   obtain ⟨j, hi, hg⟩ := Option.bind_eq_some_iff.mp hg
   obtain ⟨y, hy, hvy⟩ := hv.get hg
   have il : IsTup s.heap x vs.toArray := ⟨_, h1, rfl, n, rfl⟩
   exact tail_any il.typeIs slot_tuple_getitem.lookup (getItem_tuple il h63.1 h63.2 (by rewrite [cP hv]; exact hi) ((List.getElem?_toArray ..).trans hy) (zx hvy (.refl r))) (hs _ _ _)))))
theorem a9 {mo mi : St → zZ V} {value slice : Expr} {pos : Pos} (ho : bi prog w ac C mo (eval value C.env)) (hi : bi prog w ac C mi (eval slice C.env)) (hs : ∀ o k t, subscripted slice false o (.int k t) = operate [o, .int k t] (getItem o (.int k t))) :
  bi prog w ac C (bp br mo mi) (eval (.Subscript value slice pos) C.env) := by
 refine zW.gen fun ρ σ s z r e hb => ?_
 refine Subscript_ ((ho.at r).next e hb fun a ae aw az a' _ va au e => ?_)
 refine (hi.at au.rel).then au e hb fun b aq aK aS b' _ vb aJ st e => ?_
 subst e
 exact (sg hs aK aq aS a a' b b' aJ.rel (aJ.vr va) vb).trans st hb
noncomputable def gL : V → Option (Option Int)
 | .none => some none
 | .int i => some (some i)
 | _ => none
noncomputable def eA (xs : List V) (lo hi : Option Int) : List V := (sliceRange (sliceBounds lo hi none xs.length).1 (sliceBounds lo hi none xs.length).2.1 (sliceBounds lo hi none xs.length).2.2).filterMap (xs[·]?)
noncomputable def eG (v lo hi : V) (σ : St) : zZ V := gO (gL lo) fun l => gO (gL hi) fun u => cond (bH v σ.heap) (gS v fun x => if x.length ≤ sizeLine then .ok (.str (Txt.slice x l u)) σ else .bad) (gl v σ.heap fun _ xs => if xs.length ≤ sizeLine then .ok (.ref σ.heap.length) { σ with heap := σ.heap ++ [.list (eA xs l u)] } else .bad)
noncomputable def cu (mo ml mu : St → zZ V) : St → zZ V := fun σ => (mo σ).bind fun v ae => (ml ae).bind fun l aq => (mu aq).bind fun u aT => eG v l u aT
noncomputable abbrev xb (prog : Program) (w : World) (ac : Heap) (C : Cx) (m : St → zZ V) (x : Option Expr) : Prop := bi prog w ac C m (evalPart x C.env)
theorem dp : xb prog w ac C (aa .none) none := fun _ _ _ r _ => evalPart_none_step (zx rfl (.refl r))
theorem bN {m : St → zZ V} {e : Expr} (h : bi prog w ac C m (eval e C.env)) : xb prog w ac C m (some e) := h
theorem part_of {v : V} {x : Value} {o : Option Int} (h : VR ρ v x) (hp : gL v = some o) : IsPart x o ∧ ∃ p : Option (Int × Tok), x = partValue p ∧ p.map (·.1) = o := by
 cases v <;> simp [gL] at hp
 ·subst hp; cases h; exact ⟨.none, none, rfl, rfl⟩
 ·subst hp; obtain ⟨t, rfl⟩ := h; exact ⟨.int _ _, some (_, t), rfl, rfl⟩
theorem nK {xs : List V} {vs : List Value} (h : bL ρ xs vs) (is : List Nat) : bL ρ (is.filterMap (xs[·]?)) (is.filterMap (vs[·]?)) := by
 induction is with
 | nil => exact .nil
 | cons i is ih =>
  rw [List.filterMap_cons, List.filterMap_cons]
  cases hx : xs[i]? with
  | none =>
   have : vs[i]? = none := by
    rw [List.getElem?_eq_none_iff] at hx ⊢
    rw [h.length]; exact hx
   rw [this]; exact ih
  | some v =>
   obtain ⟨y, hy, hv⟩ := h.get hx
   rw [hy]; exact .cons hv ih
theorem oS {x : Str} {t : Tok} {l u : Option (Int × Tok)} {Q : Value → Shared → Prop} (hsz : x.length ≤ sizeLine) (h : ∀ t' k, Q (.str (Txt.slice x (l.map (·.1)) (u.map (·.1))) t') { s with toks := k }) : (sliceMade x t l u none).post Q s := by
 unfold sliceMade
 refine post_val_or_made (fun hc => ?_) fun t' k => ?_
 ·have := Txt.slice_le x (l.map (·.1)) (u.map (·.1))
  unfold Txt.slice at this
  rw [if_neg (show ¬ ((1 : Int) == 1 && (Builtin.Str.strSliceIndices (l.map (·.1)) (u.map (·.1)) 1 x.length).length == x.length) = true from hc)] at this
  exact Nat.le_trans this hsz
 ·exact h t' k
theorem cS {mo ml mu : St → zZ V} {value : Expr} {lo hi : Option Expr} {p pos : Pos} (ho : bi prog w ac C mo (eval value C.env)) (hl : xb prog w ac C ml lo) (hu : xb prog w ac C mu hi) :
  bi prog w ac C (cu mo ml mu) (eval (.Subscript value (.Slice lo hi none p) pos) C.env) := by
 refine zW.gen fun ρ σ s z r e hb => ?_
 refine Subscript_ ((ho.at r).next e hb fun a ae aw az a' _ va au e => ?_)
 refine wpAny_Slice ((hl.at au.rel).then au e hb fun b aq aK aS b' _ vb aJ st e => ?_)
 refine (hu.at st.rel).then st e hb fun c aT bZ bF c' _ vc b8 st' e => ?_
 subst e
 refine evalPart_none_step ?_
 have va' := b8.vr (aJ.vr va)
 have vb' := b8.vr vb
 have r3 := st'.rel
 have stp : Step prog w ac C bZ aT bF bZ aT { bF with heap := bF.heap.push { cls := .type "slice", data := .fields #[b', c', .none] } } := r3.grow _ bF.toks
 refine At.trans (st'.trans stp) (bA fun l hpl => bA fun u hpu => ?_) hb
 obtain ⟨pl, pl', epl, ml'⟩ := part_of vb' hpl
 obtain ⟨pu, pu', epu, mu'⟩ := part_of vc hpu
 refine bw (dB (t := fun x => subscriptTail value (.Slice lo hi none p) x (.ref bF.heap.objs.size)) va' fun x t => a8 fun hsz _ => ?_) (fD (t := fun x => subscriptTail value (.Slice lo hi none p) x (.ref bF.heap.objs.size)) stp.rel.hp va' fun l0 x xs vs n hx q h1 hv => a8 fun hsz _ => ?_)
 ·refine tail_any (typeIs_str _ x t) slot_str_getitem.lookup (wpAny_getItem_str_slice (l := pl') (u := pu') (st := none) ⟨_, Heap.get?_push_size _ rfl, rfl, by rw [epl, epu]; rfl⟩ rfl (oS hsz fun t' k => ?_)) (ops := _) rfl
  subst ml' mu'
  exact zx ⟨_, rfl⟩ (stp.rel.toks _)
 ·have il : Heap.IsList (bF.heap.push { cls := .type "slice", data := .fields #[b', c', .none] }) x vs.toArray := ⟨_, h1, rfl, n, rfl⟩
  refine tail_any (Heap.IsList.typeIs (s := { bF with heap := bF.heap.push { cls := .type "slice", data := .fields #[b', c', .none] } }) il) slot_list_getitem.lookup (wpAny_getItem_list_slice il (Heap.IsSliceOf.new ..) pl pu .none (by intro q; cases q) ?_ (by rw [cP hv]; exact hsz)) (ops := _) rfl
  refine zx (ρ' := bZ ++ [(bF.heap.push { cls := .type "slice", data := .fields #[b', c', .none] }).objs.size]) ⟨_, bv stp.rel.hp _, rfl⟩ (stp.rel.alloc (t := bF.toks) rfl ⟨_, 0, rfl, ?_⟩)
  have := (nK hv (sliceRange (sliceBounds l u none xs.length).1 (sliceBounds l u none xs.length).2.1 (sliceBounds l u none xs.length).2.2)).mono (more := [(bF.heap.push { cls := .type "slice", data := .fields #[b', c', .none] }).objs.size])
  unfold eA
  simpa [cP hv, hv.length] using this
end
noncomputable abbrev j0 (src : Option (Nat × O)) (a : Addr) (ρ : List Addr) (H : List O) : Prop := ∀ l o, src = some (l, o) → H[l]? = some o ∧ ρ[l]? = some a
structure iP (prog : Program) (w : World) (ac : Heap) (A : Around) (I : Addr) (src : Option (Nat × O)) (a : Addr) (P : List V → Heap → Prop) : Prop where
 frame : ∀ xs h h', P xs h → h'.get? I = h.get? I → P xs h'
 live : ∀ xs h, P xs h → ∃ o vs, h.get? I = some o ∧ o.data = .fields vs
 item : ∀ x xs (s : Shared) ρ H (Q : Option Value → Shared → Prop) (E : Value → Shared → Prop), P (x :: xs) s.heap → eh prog w ac ρ H s → j0 src a ρ H → I ∉ ρ →
  (∀ v' h' tk, VR ρ x v' → P xs h' → Heap.ExtBut I s.heap h' → Q (some v') { s with heap := h', toks := tk }) → wpAny (model prog w) A (pyNext (.ref I)) Q E s
 done : ∀ (s : Shared) ρ H (Q : Option Value → Shared → Prop) (E : Value → Shared → Prop), P [] s.heap → eh prog w ac ρ H s → j0 src a ρ H → I ∉ ρ →
  (∀ h' tk, Heap.ExtBut I s.heap h' → Q none { s with heap := h', toks := tk }) → wpAny (model prog w) A (pyNext (.ref I)) Q E s
 self : ∀ xs (s : Shared) (Q : Value → Shared → Prop) (E : Value → Shared → Prop), P xs s.heap → Q (.ref I) s → wpAny (model prog w) A (pyIter (.ref I)) Q E s
noncomputable def im (a b c : Int) : List V := (List.range (Builtin.Range.rangeSize a b c).toNat).map fun (i : Nat) => V.int (a + (i : Int) * c)
noncomputable def jj (l : Nat) (H : List O) (o : O) : Option (List V × Option (Nat × O)) := match o with
 | .list xs => some (xs, some (l, .list xs))
 | .tup xs => some (xs, some (l, .tup xs))
 | .dict es ep => some (es.map fun p => .int p.1, some (l, .dict es ep))
 | .dvals d => H[d]?.bind fun o => (zQ o).map fun p => (p.1.map (·.2), some (d, .dict p.1 p.2))
 | .range a b c => if Builtin.Range.small a b c then some (im a b c, none) else none
 | _ => none
noncomputable def bY (v : V) (H : List O) : Option (List V × Option (Nat × O)) := match v with
 | .bytes b => some (b.toList.map fun c => .int c.toNat, none)
 | .str x => some (x.cps.toList.map fun c => .str ⟨#[c]⟩, none)
 | .ref l => H[l]?.bind (jj l H)
 | _ => none
theorem ck {l : Nat} {H : List O} {o : O} (h : H[l]? = some o) : bY (.ref l) H = jj l H o := by
 show H[l]?.bind _ = _; rw [h]; rfl
section
variable {prog : Program} {w : World} {ac : Heap} {C : Cx} {mg mb : Str → Option Value} {α β γ : Type} {ρ ρ' : List Addr} {σ σ' : St} {s s' : Shared} {A : Around}
theorem dS {α : Type} {ys xs : List α} {x : α} {i : Nat} (h : ys.drop i = x :: xs) : ys[i]? = some x ∧ ys.drop (i + 1) = xs ∧ i < ys.length := by
 have hi : i < ys.length := by
  rcases Nat.lt_or_ge i ys.length with q | q
  ·exact q
  ·rw [List.drop_eq_nil_of_le q] at h; cases h
 rw [List.drop_eq_getElem_cons hi] at h
 cases h
 exact ⟨List.getElem?_eq_getElem hi, rfl, hi⟩
theorem eZ {α : Type} {ys : List α} {i : Nat} (h : ys.drop i = []) : ys.length ≤ i := by
 have := congrArg List.length h
 simp at this; lia
theorem lP (hh : A.handled = none) {I a : Addr} {l : Nat} {ys : List V} :
  iP prog w ac A I (some (l, .list ys)) a (fun xs h => ∃ i, h.IsListIter I a i ∧ ys.drop i = xs) where
 frame := fun xs h h' ⟨i, p, q⟩ e => ⟨i, p.at fun o ho => by rw [e]; exact ho, q⟩
 live := fun xs h ⟨i, ⟨o, ho, _, hd⟩, _⟩ => ⟨o, _, ho, hd⟩
 item := fun x xs s ρ H Q E ⟨i, p, q⟩ r hs hI k => by
  obtain ⟨h1, h2⟩ := hs _ _ rfl
  obtain ⟨ob, h3, vs, n, rfl, hv⟩ := r.obj _ _ _ h1 h2
  obtain ⟨g1, g2, g3⟩ := dS q
  obtain ⟨v', hv1, hv2⟩ := hv.get g1
  have hne : a ≠ I := fun e => hI (e ▸ List.mem_of_getElem? h2)
  have il : s.heap.IsList a vs.toArray := ⟨_, h3, rfl, n, rfl⟩
  exact wpAny_pyNext_list_item p il (by simpa using hv1) fun h' hit hb => k v' h' s.toks hv2 ⟨i + 1, hit, g2⟩ hb.extBut
 done := fun s ρ H Q E ⟨i, p, q⟩ r hs hI k => by
  obtain ⟨h1, h2⟩ := hs _ _ rfl
  obtain ⟨ob, h3, vs, n, rfl, hv⟩ := r.obj _ _ _ h1 h2
  have il : s.heap.IsList a vs.toArray := ⟨_, h3, rfl, n, rfl⟩
  exact wpAny_pyNext_list_end hh p il (by have := eZ q; simp [hv.length]; exact this) fun h' he => k h' s.toks he
 self := fun xs s Q E ⟨i, p, q⟩ h => wpAny_pyIter_listiter p h
theorem oD (hh : A.handled = none) {I a : Addr} {l : Nat} {ys : List V} :
  iP prog w ac A I (some (l, .tup ys)) a (fun xs h => ∃ i, h.IsTupleIter I a i ∧ ys.drop i = xs) where
 frame := fun xs h h' ⟨i, p, q⟩ e => ⟨i, p.at fun o ho => by rw [e]; exact ho, q⟩
 live := fun xs h ⟨i, ⟨o, ho, _, hd⟩, _⟩ => ⟨o, _, ho, hd⟩
 item := fun x xs s ρ H Q E ⟨i, p, q⟩ r hs hI k => by
  obtain ⟨h1, h2⟩ := hs _ _ rfl
  obtain ⟨ob, h3, vs, n, rfl, hv⟩ := r.obj _ _ _ h1 h2
  obtain ⟨g1, g2, g3⟩ := dS q
  obtain ⟨v', hv1, hv2⟩ := hv.get g1
  have il : s.heap.IsTuple a vs.toArray := ⟨_, h3, rfl, n, rfl⟩
  exact wpAny_pyNext_tuple_item p il (by simpa using hv1) fun h' hit hb => k v' h' s.toks hv2 ⟨i + 1, hit, g2⟩ hb.extBut
 done := fun s ρ H Q E ⟨i, p, q⟩ r hs hI k => by
  obtain ⟨h1, h2⟩ := hs _ _ rfl
  obtain ⟨ob, h3, vs, n, rfl, hv⟩ := r.obj _ _ _ h1 h2
  have il : s.heap.IsTuple a vs.toArray := ⟨_, h3, rfl, n, rfl⟩
  exact wpAny_pyNext_tuple_end hh p il (by have := eZ q; simp [hv.length]; exact this) fun h' he => k h' s.toks he
 self := fun xs s Q E ⟨i, p, q⟩ h => wpAny_pyIter_tupleiter p h
theorem ir : ∀ {es : List (Int × V)} {kvs : List (Int × Value)}, cF ρ es kvs → ∀ {i : Nat} {k : Int} {v : V}, es[i]? = some (k, v) → ∃ x, kvs[i]? = some (k, x) ∧ VR ρ v x
 | [], _, _, i, k, v, e => by simp at e
 | (k0, v0) :: es, _, ⟨x, r, e, h, q⟩, 0, k, v, e' => by subst e; simp at e'; obtain ⟨rfl, rfl⟩ := e'; exact ⟨x, by simp, h⟩
 | (k0, v0) :: es, _, ⟨x, r, e, h, q⟩, i + 1, k, v, e' => by subst e; simp at e'; obtain ⟨y, h1, h2⟩ := ir q e'; exact ⟨y, by simpa using h1, h2⟩
theorem pairs_len : ∀ {es : List (Int × V)} {kvs : List (Int × Value)}, cF ρ es kvs → kvs.length = es.length
 | [], _, h => by cases h; rfl
 | (_, _) :: es, _, ⟨x, r, e, h, q⟩ => by subst e; simp [pairs_len q]
theorem dK {H : List O} (r : eh prog w ac ρ H s) {l : Nat} {a : Addr} {es : List (Int × V)} {ep : Nat} (h1 : H[l]? = some (.dict es ep)) (h2 : ρ[l]? = some a) :
  ∃ kvs, s.heap.DictAt (intKind prog w) a kvs ep ∧ cF ρ es kvs := by
 obtain ⟨ob, h3, kvs, ⟨es', ep', i1, i2, i3⟩, hp, es'', hd⟩ := r.obj _ _ _ h1 h2
 rw [hd] at i2; cases i2
 exact ⟨kvs, ⟨ob, es', h3, i1, hd, i3⟩, hp⟩
theorem lQ (hh : A.handled = none) {I a : Addr} {l : Nat} {es : List (Int × V)} {ep : Nat} :
  iP prog w ac A I (some (l, .dict es ep)) a (fun xs h => ∃ i, h.IsKeyIter I a i es.length ep ∧ (es.map fun p => V.int p.1).drop i = xs) where
 frame := fun xs h h' ⟨i, p, q⟩ e => ⟨i, p.at fun o ho => by rw [e]; exact ho, q⟩
 live := fun xs h ⟨i, ⟨o, ho, _, hd⟩, _⟩ => ⟨o, _, ho, hd⟩
 item := fun x xs s ρ H Q E ⟨i, p, q⟩ r hs hI k => by
  obtain ⟨h1, h2⟩ := hs _ _ rfl
  obtain ⟨kvs, hd, hp⟩ := dK r h1 h2
  obtain ⟨g1, g2, g3⟩ := dS q
  rw [List.getElem?_map, Option.map_eq_some_iff] at g1
  obtain ⟨⟨k0, v0⟩, g1, rfl⟩ := g1
  obtain ⟨y, hy, _⟩ := ir hp g1
  rw [← pairs_len hp] at p
  refine wpAny_pyNext_dict_item p hd hy fun key h' hkey hit hb => k key h' s.toks ?_ ⟨i + 1, by rw [← pairs_len hp]; exact hit, g2⟩ hb.extBut
  cases key <;> simp [intKind, Value.isInt] at hkey
  subst hkey
  exact ⟨_, rfl⟩
 done := fun s ρ H Q E ⟨i, p, q⟩ r hs hI k => by
  obtain ⟨h1, h2⟩ := hs _ _ rfl
  obtain ⟨kvs, hd, hp⟩ := dK r h1 h2
  rw [← pairs_len hp] at p
  exact wpAny_pyNext_dict_end hh p hd (by have := eZ q; rw [List.length_map, ← pairs_len hp] at this; exact List.getElem?_eq_none this) fun h' he => k h' s.toks he
 self := fun xs s Q E ⟨i, p, q⟩ h => wpAny_pyIter_keyiter p h
theorem lO (hh : A.handled = none) {I a : Addr} {l : Nat} {es : List (Int × V)} {ep : Nat} :
  iP prog w ac A I (some (l, .dict es ep)) a (fun xs h => ∃ i, h.IsValIter I a i es.length ep ∧ (es.map (·.2)).drop i = xs) where
 frame := fun xs h h' ⟨i, p, q⟩ e => ⟨i, p.at fun o ho => by rw [e]; exact ho, q⟩
 live := fun xs h ⟨i, ⟨o, ho, _, hd⟩, _⟩ => ⟨o, _, ho, hd⟩
 item := fun x xs s ρ H Q E ⟨i, p, q⟩ r hs hI k => by
  obtain ⟨h1, h2⟩ := hs _ _ rfl
  obtain ⟨kvs, hd, hp⟩ := dK r h1 h2
  obtain ⟨g1, g2, g3⟩ := dS q
  rw [List.getElem?_map, Option.map_eq_some_iff] at g1
  obtain ⟨⟨k0, v0⟩, g1, rfl⟩ := g1
  obtain ⟨y, hy, hv⟩ := ir hp g1
  rw [← pairs_len hp] at p
  exact wpAny_pyNext_values_item p hd hy fun h' hit hb => k y h' s.toks hv ⟨i + 1, by rw [← pairs_len hp]; exact hit, g2⟩ hb.extBut
 done := fun s ρ H Q E ⟨i, p, q⟩ r hs hI k => by
  obtain ⟨h1, h2⟩ := hs _ _ rfl
  obtain ⟨kvs, hd, hp⟩ := dK r h1 h2
  rw [← pairs_len hp] at p
  exact wpAny_pyNext_values_end hh p hd (by have := eZ q; rw [List.length_map, ← pairs_len hp] at this; exact List.getElem?_eq_none this) fun h' he => k h' s.toks he
 self := fun xs s Q E ⟨i, p, q⟩ h => wpAny_pyIter_valiter p h
theorem fG {I : Addr} {n : Nat} {Pv : Nat → Value → Prop} {Sx : Nat → Heap → Prop} {ys : List V} (W : Walks prog w A I [I] [I] n Pv Sx) (hn : ys.length = n) (hp : ∀ ρ i v x, Pv i x → ys[i]? = some v → VR ρ v x)
  (hl : ∀ i h, Sx i h → ∃ o vs, h.get? I = some o ∧ o.data = .fields vs) {a : Addr} :
  iP prog w ac A I none a (fun xs h => ∃ i, Sx i h ∧ i ≤ n ∧ ys.drop i = xs) where
 frame := fun xs h h' ⟨i, p, q⟩ e => ⟨i, W.frame _ _ _ p fun b hb o ho => by simp at hb; subst hb; rw [e]; exact ho, q⟩
 live := fun xs h ⟨i, p, _⟩ => hl i h p
 item := fun x xs s ρ H Q E ⟨i, p, q0, q⟩ r hs hI k => by
  obtain ⟨g1, g2, g3⟩ := dS q
  exact W.item i s Q E (by lia) p fun v h' tk hv st' hb => k v h' tk (hp ρ i x v hv g1) ⟨i + 1, st', by lia, g2⟩ fun b o hbI e => hb b o (by simpa using hbI) e
 done := fun s ρ H Q E ⟨i, p, q0, q⟩ r hs hI k => by
  have := eZ q
  have e : i = n := by lia
  subst e
  exact W.done s Q E p fun h' tk hb => k h' tk fun b o hbI e => hb b o (by simpa using hbI) e
 self := fun xs s Q E ⟨i, p, q⟩ h => W.self i s Q E p h
theorem sU (h : Heap) {x y z : Int} : IsRangeIter (h.push { cls := .type "range_iterator", data := .fields #[.int x 0, .int (Builtin.Range.rangeSize x y z) 0, .int z 0] }) h.objs.size (x + ((0 : Nat) : Int) * z) (((Builtin.Range.rangeSize x y z).toNat : Int) - ((0 : Nat) : Int)) z := by
 have h0 : 0 ≤ Builtin.Range.rangeSize x y z := by rw [rangeSize_toNat]; exact Int.natCast_nonneg _
 show Heap.get? _ _ = _
 rw [Heap.get?_push_size _ rfl]
 simp [Int.toNat_of_nonneg h0]
 exact ⟨rfl, rfl, rfl⟩
theorem sV {x y z : Int} (ρ : List Addr) (i : Nat) (v : V) (x' : Value) (hx : ∃ t, x' = .int (x + (i : Int) * z) t) (hy : (im x y z)[i]? = some v) : VR ρ v x' := by
 obtain ⟨t', rfl⟩ := hx
 unfold im at hy
 rw [List.getElem?_map] at hy
 obtain ⟨j, hj, rfl⟩ := Option.map_eq_some_iff.mp hy
 obtain ⟨hj1, hj2⟩ := List.getElem?_eq_some_iff.mp hj
 rw [List.getElem_range] at hj2
 subst hj2
 exact ⟨t', rfl⟩
theorem qt {x : Str} (ρ : List Addr) (i : Nat) (v : V) (y : Value) (hx : SignAt x i y) (hy : (x.cps.toList.map fun c => V.str ⟨#[c]⟩)[i]? = some v) : VR ρ v y := by
 obtain ⟨c, u, h1, rfl⟩ := hx
 rw [List.getElem?_map] at hy
 have : x.cps.toList[i]? = some c := by simpa using h1
 rw [this] at hy; cases hy
 exact ⟨u, rfl⟩
theorem rF (hh : A.handled = none) {H : List O} (r : eh prog w ac ρ H s) {v : V} {v' : Value} (hv : VR ρ v v') {xs : List V} {src : Option (Nat × O)} (hi : bY v H = some (xs, src)) {Q : Value → Shared → Prop} {E : Value → Shared → Prop}
  (k : ∀ ob P a, j0 src a ρ H → (∀ A' : Around, A'.handled = none → iP prog w ac A' s.heap.objs.size src a P) → P xs (s.heap.push ob) → Q (.ref s.heap.objs.size) { s with heap := s.heap.push ob }) :
  wpAny (model prog w) A (pyIter v') Q E s := by
 cases v with
 | bytes b =>
  obtain ⟨t, rfl⟩ := hv
  cases hi
  refine KBw.pyIter_bytes (k _ _ 0 (fun _ _ q => by cases q) (fun A' hA => fG (KBw.walks hA s.heap.objs.size b t) (by simp) (fun ρ i v x hx hy => ?_) fun i h hx => ?_) ⟨0, ⟨_, Heap.get?_push_size _ rfl, rfl, rfl⟩, Nat.zero_le _, rfl⟩)
  ·obtain ⟨c, u, h1, rfl⟩ := hx
   rw [List.getElem?_map] at hy
   have : b.toList[i]? = some c := by simpa using h1
   rw [this] at hy; cases hy
   exact ⟨u, rfl⟩
  ·obtain ⟨o, ho, _, hd⟩ := hx
   exact ⟨o, _, ho, hd⟩
 | str x =>
  obtain ⟨t, rfl⟩ := hv
  cases hi
  cases ha : x.cps.all (· < 128)
  ·refine wpAny_pyIter_wide ha (k _ _ 0 (fun _ _ q => by cases q) (fun A' hA => fG (Walks.strWide hA _ x t) (by simp) qt fun i h hx => ?_) ⟨0, ⟨_, Heap.get?_push_size _ rfl, rfl, rfl⟩, Nat.zero_le _, rfl⟩)
   obtain ⟨o, ho, _, hd⟩ := hx
   exact ⟨o, _, ho, hd⟩
  ·refine wpAny_pyIter_ascii ha (k _ _ 0 (fun _ _ q => by cases q) (fun A' hA => fG (Walks.strAscii hA _ x t) (by simp) qt fun i h hx => ?_) ⟨0, ⟨_, Heap.get?_push_size _ rfl, rfl, rfl⟩, Nat.zero_le _, rfl⟩)
   obtain ⟨o, ho, _, hd⟩ := hx
   exact ⟨o, _, ho, hd⟩
 | ref l =>
  obtain ⟨a, ha, rfl⟩ := hv
  obtain ⟨o, q, hi⟩ := Option.bind_eq_some_iff.mp hi
  have sok : j0 (some (l, o)) a ρ H := fun l' o' e => by cases e; exact ⟨q, ha⟩
  cases o with
  | list ys =>
   cases hi
   obtain ⟨ob, h3, vs, n, rfl, hv⟩ := r.obj _ _ _ q ha
   have il : s.heap.IsList a vs.toArray := ⟨_, h3, rfl, n, rfl⟩
   exact wpAny_pyIter_list il (k _ _ a sok (fun A' hA => lP hA) ⟨0, ⟨_, Heap.get?_push_size _ rfl, rfl, rfl⟩, rfl⟩)
  | tup ys =>
   cases hi
   obtain ⟨ob, h3, vs, n, rfl, hv⟩ := r.obj _ _ _ q ha
   have il : s.heap.IsTuple a vs.toArray := ⟨_, h3, rfl, n, rfl⟩
   exact wpAny_pyIter_tuple il (k _ _ a sok (fun A' hA => oD hA) ⟨0, ⟨_, Heap.get?_push_size _ rfl, rfl, rfl⟩, rfl⟩)
  | dict es ep =>
   cases hi
   obtain ⟨kvs, hd, hp⟩ := dK r q ha
   exact wpAny_pyIter_dict (beq_eq_false_iff_ne.mpr (r.sys _ _ _ _ q ha)) hd (k _ _ a sok (fun A' hA => lQ hA) ⟨0, ⟨_, Heap.get?_push_size _ rfl, rfl, by rw [pairs_len hp]; rfl⟩, rfl⟩)
  | dvals d =>
   obtain ⟨o, q', hi⟩ := Option.bind_eq_some_iff.mp hi
   obtain ⟨⟨es, ep⟩, ho, hi⟩ := Option.map_eq_some_iff.mp hi
   cases hi
   cases bR rI ho
   obtain ⟨ob, h3, a', ha', rfl⟩ := r.obj _ _ _ q ha
   obtain ⟨kvs, hd, hp⟩ := dK r q' ha'
   exact wpAny_pyIter_values ⟨_, h3, rfl, rfl⟩ hd (k _ _ a' (fun l' o' e => by cases e; exact ⟨q', ha'⟩) (fun A' hA => lO hA) ⟨0, ⟨_, Heap.get?_push_size _ rfl, rfl, by rw [pairs_len hp]; rfl⟩, rfl⟩)
  | range x y z =>
   obtain ⟨hsm, hi⟩ := Option.ite_none_right_eq_some.mp hi
   cases hi
   obtain ⟨ob, h3, t, u, v, rfl⟩ := r.obj _ _ _ q ha
   refine wpAny_pyIter_range h3 hsm (k _ _ 0 (fun _ _ q => nomatch q) (fun A' hA => fG (Walks.range hA _ x z (Builtin.Range.rangeSize x y z).toNat) (ys := im x y z) (by simp [im]) sV fun i h hx => ⟨_, _, hx, rfl⟩) ⟨0, sU _, Nat.zero_le _, rfl⟩)
  | _ => cases hi
 | none | bool | int | type | blt | top => cases hi
end
section
variable {prog : Program} {w : World} {ac : Heap} {C : Cx} {mg mb : Str → Option Value} {α β γ : Type} {ρ ρ' aw : List Addr} {σ σ' ae : St} {s s' bg az : Shared} {A : Around}
theorem zX.but (r : zX prog w ac C ρ σ s) {I : Addr} {o : Obj} {vs : Array Value} {h' : Heap} (hI : I ∉ ρ) (hb : ac.get? I = none) (ho : s.heap.get? I = some o) (hd : o.data = .fields vs) (e : Heap.ExtBut I s.heap h') (tk : Nat) :
  zX prog w ac C ρ σ { s with heap := h', toks := tk } := by
 have nd : ∀ {a : Addr} {o' : Obj} {es : Array DictEntry} {n : Nat}, s.heap.get? a = some o' → o'.data = .dict es n → a ≠ I := fun h1 h2 q => by
  subst q; rw [ho] at h1; cases h1; rw [hd] at h2; cases h2
 refine ⟨⟨fun b o' q => e b o' (by rintro rfl; rw [hb] at q; cases q) (r.hp.base b o' q), r.hp.len, fun l o' a h1 h2 => ?_, r.hp.nodup, r.hp.new, r.hp.sys, r.hp.main⟩, ?_, r.lnew, fun p hp => ?_, fun en he => ?_, r.frn, r.locs⟩
 ·obtain ⟨ob, h3, h4⟩ := r.hp.obj l o' a h1 h2
  exact ⟨ob, e a ob (by rintro rfl; exact hI (List.mem_of_getElem? h2)) h3, h4⟩
 ·obtain ⟨m, ⟨o', es, ep, h3, h4, h5⟩, hv⟩ := r.ns
  exact ⟨m, ⟨o', es, ep, e _ _ (nd h3 h4) h3, h4, h5⟩, hv⟩
 ·obtain ⟨g1, g2, g3, v, ⟨o', h3, h4⟩, g5⟩ := r.cel p hp
  refine ⟨g1, g2, g3, v, ⟨o', e _ _ ?_ h3, h4⟩, g5⟩
  rintro rfl; rw [ho] at h3; cases h3; rw [hd] at h4; cases h4
 ·obtain ⟨hk, L, o', es, n, hf, hb', h3, h4⟩ := r.frs en he
  exact ⟨hk, L, o', es, n, hf, hb', e _ _ (nd h3 h4) h3, h4⟩
theorem Step.but (st : Step prog w ac C ρ σ bg aw ae az) {I : Addr} {o : Obj} {vs : Array Value} {h' : Heap} (hI0 : bg.heap.get? I = none) (hI : I ∉ aw) (hb : ac.get? I = none) (ho : az.heap.get? I = some o) (hd : o.data = .fields vs) (e : Heap.ExtBut I az.heap h') (tk : Nat) :
  Step prog w ac C ρ σ bg aw ae { az with heap := h', toks := tk } := by
 refine ⟨st.rel.but hI hb ho hd e tk, st.ext, fun a o' h1 h2 => ?_, st.loc, st.rest⟩
 obtain ⟨o'', h3, h4⟩ := st.pres a o' h1 h2
 exact ⟨o'', e a o'' (by rintro rfl; rw [hI0] at h1; cases h1) h3, h4⟩
theorem Step.same (st : Step prog w ac C ρ σ s aw ae az) (r : zX prog w ac C ρ σ s) {I : Addr} {o : Obj} {vs : Array Value} (hI : I ∉ ρ) (ho : s.heap.get? I = some o) (hd : o.data = .fields vs) : az.heap.get? I = s.heap.get? I ∧ I ∉ aw := by
 obtain ⟨o', h1, h2⟩ := st.pres I o ho (ix r hI ho (.inl ⟨vs, hd⟩))
 obtain ⟨more, e1, n1⟩ := st.ext
 refine ⟨?_, fun hm => ?_⟩
 ·rw [ho, h1]
  rcases h2 with rfl | ⟨⟨es, n, q⟩, _⟩
  ·rfl
  ·rw [hd] at q; cases q
 ·rw [e1, List.mem_append] at hm
  rcases hm with q | q
  ·exact hI q
  ·rw [n1 _ q] at ho; cases ho
theorem j0.ext {src : Option (Nat × O)} {a : Addr} {H H' : List O} (h : j0 src a ρ H) (e : ∃ more, ρ' = ρ ++ more) (k : ∀ l o, src = some (l, o) → H'[l]? = some o) : j0 src a ρ' H' := fun l o q => by
 obtain ⟨more, rfl⟩ := e
 exact ⟨k l o q, cq (h l o q).2⟩
noncomputable def dM (src : Option (Nat × O)) (H : List O) : Bool := match src with
 | none => true
 | some (l, o) => decide (H[l]? = some o)
theorem eT {src : Option (Nat × O)} {H : List O} (h : dM src H = true) : ∀ l o, src = some (l, o) → H[l]? = some o := fun l o q => by
 subst q; simpa [dM] using h
noncomputable def gu (tgt : V → St → zZ Unit) (body els : St → zZ F) (src : Option (Nat × O)) : List V → St → zZ F
 | [], σ => if dM src σ.heap then (els σ).calm else .bad
 | x :: xs, σ => if dM src σ.heap then (tgt x σ).calm.bind fun _ ae => (body ae).calm.bind fun f aq => match f with
   | .next | .cont => gu tgt body els src xs aq
   | .brk => .ok .next aq
   | .ret v => .ok (.ret v) aq else .bad
noncomputable def hO (mi : St → zZ V) (tgt : V → St → zZ Unit) (body els : St → zZ F) : St → zZ F := fun σ => (mi σ).bind fun v ae => match bY v ae.heap with
 | some (xs, src) => gu tgt body els src xs ae
 | none => .bad
inductive ForI (prog : Program) (w : World) (ac : Heap) (C : Cx) (ρ : List Addr) (σ : St) (bg : Shared) (P : List V → Heap → Prop) (I : Addr) (f : List V → St → zZ F) (o : zZ F) (k : Nat) (s' : Shared) : Prop
 | mk (ρ' : List Addr) (σ' : St) (ys : List V) (st : Step prog w ac C ρ σ bg ρ' σ' s') (hP : P ys s'.heap) (hI : I ∉ ρ') (hk : k = ys.length) (hf : f ys σ' = o)
theorem yD (hh : C.A.handled = none) {tgt : V → St → zZ Unit} {body els : St → zZ F} {target : Expr} {b z : List Stmt} (ht : j5 prog w ac C tgt target) (hb : fY prog w ac C body b) (he : fY prog w ac C els z)
  {I : Addr} {src : Option (Nat × O)} {a : Addr} {P : List V → Heap → Prop} {xs : List V} {ρ : List Addr} {σ : St} {bg s : Shared} (W : iP prog w ac C.A I src a P) (st : Step prog w ac C ρ σ bg ρ σ s) (hP : P xs s.heap) (hsrc : j0 src a ρ σ.heap) (hI : I ∉ ρ) (hI0 : bg.heap.get? I = none) (hIb : ac.get? I = none)
  {o : zZ F} (hf : gu tgt body els src xs σ = o) (hn : o ≠ .bad) (htg : ∀ v, letOwnedTupleGo target (.ref I) v = pure ()) :
  codeAny (model prog w) C.A (.forLoop target (.ref I) b z C.env) (fun r s' => ∃ f, r = .ok f ∧ z3 prog w ac C FR ρ σ bg o f s') s := by
 refine codeAny_forLoop (ht := htg) (I := ForI prog w ac C ρ σ bg P I (gu tgt body els src) o) (fun k s' ⟨ρ', σ', ys, st', hP', hI', hk, hf⟩ => ?_) xs.length ⟨ρ, σ, xs, st, hP, hI, rfl, hf⟩
 obtain ⟨oI, vI, hoI, hdI⟩ := W.live _ _ hP'
 have ext : ∃ more, ρ' = ρ ++ more := let ⟨m, e, _⟩ := st'.ext; ⟨m, e⟩
 cases ys with
 | nil =>
  obtain ⟨hs, hf⟩ := fq hf hn
  refine W.done s' ρ' σ'.heap _ _ hP' st'.rel.hp (hsrc.ext ext (eT hs)) hI' fun h' tk hx => ?_
  have st1 := st'.but hI0 hI' hIb hoI hdI hx tk
  refine (he.at st1.rel).calm (fun q => hn (hf.symm.trans q)) fun f aq aK aS f' jS vf aJ => ?_
  exact ⟨_, rfl, (jS.symm.trans hf) ▸ zx vf (st1.trans aJ)⟩
 | cons y ys =>
  obtain ⟨hs, hf⟩ := fq hf hn
  refine W.item y ys s' ρ' σ'.heap _ _ hP' st'.rel.hp (hsrc.ext ext (eT hs)) hI' fun v' h' tk hv hP1 hx => ?_
  have st1 := st'.but hI0 hI' hIb hoI hdI hx tk
  obtain ⟨oI1, vI1, hoI1, hdI1⟩ := W.live _ _ hP1
  refine At.calmF (ht ρ' σ' _ y v' st1.rel hv) hf hn fun _ ae aw az _ _ au hf => ?_
  obtain ⟨k1, k2⟩ := au.same st1.rel hI' hoI1 hdI1
  refine (hb.at au.rel).calmF hf hn fun f aq aK aS f' vf aJ hf => ?_
  obtain ⟨k3, k4⟩ := aJ.same au.rel k2 (k1.trans hoI1) hdI1
  have stt := (st1.trans au).trans aJ
  have hlt : ys.length < k := hk ▸ Nat.lt_succ_self _
  have nx : gu tgt body els src ys aq = o → ∃ k', k' < k ∧ ForI prog w ac C ρ σ bg P I (gu tgt body els src) o k' aS := fun hf => ⟨_, hlt, aK, aq, ys, stt, W.frame _ _ _ (W.frame _ _ _ hP1 k1) k3, k4, rfl, hf⟩
  cases f with
  | next => cases vf; exact nx hf
  | cont => cases vf; exact nx hf
  | brk => cases vf; exact ⟨_, rfl, hf ▸ zx rfl stt⟩
  | ret v => exact match vf with | ⟨x, e, hv'⟩ => e ▸ ⟨_, rfl, hf ▸ zx ⟨x, rfl, hv'⟩ stt⟩
theorem dZ (hh : C.A.handled = none) {mi : St → zZ V} {tgt : V → St → zZ Unit} {body els : St → zZ F} {target iter : Expr} {b z : List Stmt} {pos : Pos} (hi : bi prog w ac C mi (eval iter C.env)) (ht : j5 prog w ac C tgt target) (hb : fY prog w ac C body b) (he : fY prog w ac C els z)
  (htg : ∀ it v, letOwnedTupleGo target it v = pure ()) (hs : ∀ x, foldedSetIterable iter C.env x = pure x) : gN prog w ac C (hO mi tgt body els) (.For target iter b z pos) := by
 intro ρ σ s r hn
 refine wpAny_For ((hi.at r).next rfl hn fun v ae aw az v' _ vv au e => ?_) hs
 rw [e] at hn ⊢
 cases q : bY v ae.heap with
 | none => rw [q] at hn; exact absurd rfl hn
 | some p =>
  obtain ⟨xs, src⟩ := p
  rw [q] at hn
  dsimp only at hn ⊢
  refine rF hh au.rel.hp vv q fun ob P a hsrc hW hP => ?_
  have hI0 : az.heap.get? az.heap.objs.size = none := Heap.get?_none_of_le (Nat.le_refl _)
  refine codeAny_mono (yD hh ht hb he (hW _ hh) (au.rel.grow ob az.toks) hP hsrc au.rel.hp.fresh hI0 au.rel.hp.base.fresh rfl hn (htg _)) fun r s' ⟨f, e, h⟩ => ?_
  subst e
  exact z3.trans au h
end
structure rP (C C' : Cx) (j : Nat) (new : Addr → Prop) : Prop where
 A : C'.A = C.A
 fenv : C'.fenv = C.fenv
 outer : C'.outer = C.outer
 loc : new C'.env.locals
 vars : ∀ p ∈ C'.vars, p.2 = j
 cells : ∀ p ∈ C'.cells, p ∈ C.cells ∨ (p.2.1 = j ∧ new p.2.2)
noncomputable def fb (j : Nat) (σ : St) : St := { σ with loc := σ.loc.take j }
section
variable {prog : Program} {w : World} {ac : Heap} {C C' : Cx} {mg mb : Str → Option Value} {α β γ : Type} {ρ ct aw aK : List Addr} {σ cr ae aq : St} {s bg az aS : Shared} {j : Nat} {new : Addr → Prop}
theorem rP.idx (i : rP C C' j new) {n : Nat} (h : n ∈ C'.idx) : n = j ∨ n ∈ C.idx := by
 unfold Cx.idx at h ⊢
 rcases List.mem_append.mp h with h | h
 ·obtain ⟨p, hp, rfl⟩ := List.mem_map.mp h
  exact .inl (i.vars p hp)
 ·obtain ⟨p, hp, rfl⟩ := List.mem_map.mp h
  rcases i.cells p hp with q | q
  ·exact .inr (List.mem_append_right _ (List.mem_map.mpr ⟨p, q, rfl⟩))
  ·exact .inl q.1
theorem tc (r : zX prog w ac C ρ σ s) (st : Step prog w ac C ρ σ s aw ae az) {a : Addr} {o : Obj} (ho : s.heap.get? a = some o) (hn : ¬ zY C ρ a) : a ∉ aw := fun hm => by
 obtain ⟨more, e1, n1⟩ := st.ext
 rw [e1, List.mem_append] at hm
 rcases hm with q | q
 ·exact hn (.inl q)
 ·rw [n1 _ q] at ho; cases ho
theorem Step.leave (ok : C.Ok) (i : rP C C' j new) (ez : zX prog w ac C ct cr bg) (hj : cr.loc.length = j) (hnew : ∀ a, new a → bg.heap.get? a = none)
  (st : Step prog w ac C ct cr bg aw (fb j ae) az) (st' : Step prog w ac C' aw ae az aK aq aS) : Step prog w ac C ct cr bg aK (fb j aq) aS := by
 obtain ⟨m1, e1, n1⟩ := st.ext
 obtain ⟨m2, e2, n2⟩ := st'.ext
 have live : ∀ {a : Addr}, bg.heap.get? a ≠ none → a ∉ aw → (∀ p ∈ C'.cells, p ∈ C.cells → p.2.2 ≠ a) → ¬ zY C' aw a := fun {a} ha h1 h2 h => by
  rcases h with h | h | ⟨p, hp, h⟩
  ·exact h1 h
  ·subst h; exact ha (hnew _ i.loc)
  ·subst h
   rcases i.cells p hp with q | q
   ·exact h2 p hp q rfl
   ·exact ha (hnew _ q.2)
 have lt : ∀ {n : Nat}, n ∈ C.idx → n < j := fun h => hj ▸ ez.locs _ h
 have idx : ∀ {n : Nat}, n < j → n ∉ C'.cells.map (·.2.1) → aq.loc[n]? = ae.loc[n]? := fun {n} hn hc => st'.loc n fun h => by
  unfold Cx.idx at h
  rcases List.mem_append.mp h with h | h
  ·obtain ⟨p, hp, rfl⟩ := List.mem_map.mp h
   have := i.vars p hp; lia
  ·exact hc h
 have get : ∀ {σ : St} {n : Nat}, n < j → ((fb j σ).loc[n]?) = σ.loc[n]? := fun {σ n} hn => by unfold fb; rw [List.getElem?_take_of_lt hn]
 have alive0 : ∀ {a : Addr}, zY C ct a → bg.heap.get? a ≠ none := fun h => bo ez _ h
 have locne : ∀ p ∈ C'.cells, p ∈ C.cells → p.2.2 ≠ C.env.locals := fun p hp q => (ez.cel p q).l
 have back : ∀ {a : Addr} {o : Obj}, az.heap.get? a = some o → ¬ zY C' aw a → ∃ o', aS.heap.get? a = some o' ∧ iS o o' := fun h1 h2 => st'.pres _ _ h1 h2
 have keep2 : ∀ {a : Addr}, a ∉ aw → az.heap.get? a ≠ none → a ∉ aK := fun {a} h1 h2 hm => by
  rw [e2, List.mem_append] at hm
  rcases hm with q | q
  ·exact h1 q
  ·exact h2 (n2 _ q)
 refine ⟨⟨st'.rel.hp, ?_, ⟨ez.lnew.1, ?_⟩, fun p hp => ?_, ?_, fun e he L hL => ⟨?_, (st.rel.frn e he L hL).2⟩, fun n hn => ?_⟩, ⟨m1 ++ m2, by rw [e2, e1, List.append_assoc], fun a ha => ?_⟩, fun a o ho hn => ?_, fun n hn => ?_, st.rest.trans st'.rest⟩
 ·obtain ⟨m, hm, hv⟩ := st.rel.ns
  have hno : ¬ zY C' aw C.env.locals := live (alive0 (.inr (.inl rfl))) st.rel.lnew.2 locne
  refine ⟨m, d7 hm fun o ho => back ho hno, fun p hp => ?_⟩
  have hi : p.2 ∈ C.idx := by unfold Cx.idx; exact List.mem_append_left _ (List.mem_map.mpr ⟨p, hp, rfl⟩)
  have := hv p hp
  rw [get (lt hi)] at this ⊢
  rw [idx (lt hi), e2]
  ·exact this.mono
  ·intro hm'
   obtain ⟨q, hq, e⟩ := List.mem_map.mp hm'
   rcases i.cells q hq with g | g
   ·exact ok.dis p hp q g e.symm
   ·have := lt hi; lia
 ·obtain ⟨m, ⟨o, _, _, ho, _⟩, _⟩ := st.rel.ns
  exact keep2 st.rel.lnew.2 (by rw [ho]; simp)
 ·obtain ⟨g1, g2, g3, v, ⟨o, ho, hd⟩, g5⟩ := st.rel.cel p hp
  have hi : p.2.1 ∈ C.idx := by unfold Cx.idx; exact List.mem_append_right _ (List.mem_map.mpr ⟨p, hp, rfl⟩)
  refine .of g1 (keep2 g2 (by rw [ho]; simp)) g3 ?_
  rw [get (lt hi)] at g5 ⊢
  by_cases hc : ∃ q ∈ C'.cells, q.2.2 = p.2.2
  ·obtain ⟨q, hq, e⟩ := hc
   have hqC : q ∈ C.cells := by
    rcases i.cells q hq with g | g
    ·exact g
    ·exact absurd (hnew _ g.2) (e ▸ alive0 (.inr (.inr ⟨p, hp, rfl⟩)))
   obtain ⟨_, _, _, v', h4, h5⟩ := st'.rel.cel q hq
   have := (ok.unc q hqC p hp).mp e
   rw [e] at h4; rw [this] at h5
   exact ⟨v', h4, h5⟩
  ·have hno : ¬ zY C' aw p.2.2 := live (alive0 (.inr (.inr ⟨p, hp, rfl⟩))) g2 fun q hq _ e => hc ⟨q, hq, e⟩
   obtain ⟨o', ho', hs⟩ := back ho hno
   refine ⟨v, ⟨o', ho', ?_⟩, ?_⟩
   ·rcases hs with rfl | ⟨_, sl, rfl⟩ <;> exact hd
   ·rw [idx (lt hi), e2]
    ·exact g5.mono
    ·intro hm'
     obtain ⟨q, hq, e⟩ := List.mem_map.mp hm'
     rcases i.cells q hq with g | g
     ·exact hc ⟨q, hq, (ok.unc q g p hp).mpr e⟩
     ·have := lt hi; lia
 ·have := st'.rel.frs
  rwa [i.fenv, i.outer] at this
 ·obtain ⟨_, L', o, es, n, hf', _, ho', _⟩ := st.rel.frs e he
  rw [hL] at hf'; cases hf'
  exact keep2 (st.rel.frn e he L hL).1 (by rw [ho']; simp)
 ·have h1 := st.rel.locs n hn
  have h2 := lt hn
  unfold fb at h1 ⊢
  simp only [List.length_take] at h1 ⊢
  have : n < aq.loc.length := by
   by_cases hc : n ∈ C'.idx
   ·exact st'.rel.locs n hc
   ·have e := st'.loc n hc
    have hl : n < ae.loc.length := by lia
    rw [List.getElem?_eq_getElem hl] at e
    exact (List.getElem?_eq_some_iff.mp e).1
  lia
 ·rcases List.mem_append.mp ha with h | h
  ·exact n1 a h
  ·cases q : bg.heap.get? a with
   | none => rfl
   | some o =>
    exfalso
    have hl := st.live (a := a) (by rw [q]; simp)
    exact hl (n2 a h)
 ·obtain ⟨o', h1, h2⟩ := st.pres a o ho hn
  have h3 := tc ez st ho hn
  obtain ⟨o'', h4, h5⟩ := back h1 (live (by rw [ho]; simp) h3 fun p _ hp e => hn (.inr (.inr ⟨p, hp, e⟩)))
  exact ⟨o'', h4, h2.trans h5⟩
 ·rw [← st.loc n hn]
  by_cases hnj : n < j
  ·rw [get hnj, get hnj]
   exact st'.loc n fun h => (i.idx h).elim (fun q => by lia) hn
  ·unfold fb
   rw [List.getElem?_eq_none (by simp; lia), List.getElem?_eq_none (by simp; lia)]
theorem Step.butNew (st : Step prog w ac C ct cr bg aw ae az) (ez : zX prog w ac C ct cr bg) {I : Addr} {h' : Heap} (hI0 : bg.heap.get? I = none) (hI : I ∉ aw) (hb : ac.get? I = none) (e : Heap.ExtBut I az.heap h') (tk : Nat) :
  Step prog w ac C ct cr bg aw ae { az with heap := h', toks := tk } := by
 have alive : ∀ {a : Addr}, bg.heap.get? a ≠ none → a ≠ I := fun h q => h (q ▸ hI0)
 refine ⟨⟨⟨fun b o' q => e b o' (by rintro rfl; rw [hb] at q; cases q) (st.rel.hp.base b o' q), st.rel.hp.len, fun l o' a h1 h2 => ?_, st.rel.hp.nodup, st.rel.hp.new, st.rel.hp.sys, st.rel.hp.main⟩, ?_, st.rel.lnew, fun p hp => ?_, fun en he => ?_, st.rel.frn, st.rel.locs⟩,
  st.ext, fun a o' h1 h2 => ?_, st.loc, st.rest⟩
 ·obtain ⟨ob, h3, h4⟩ := st.rel.hp.obj l o' a h1 h2
  exact ⟨ob, e a ob (by rintro rfl; exact hI (List.mem_of_getElem? h2)) h3, h4⟩
 ·obtain ⟨m, ⟨o', es, ep, h3, h4, h5⟩, hv⟩ := st.rel.ns
  exact ⟨m, ⟨o', es, ep, e _ _ (alive (bo ez _ (.inr (.inl rfl)))) h3, h4, h5⟩, hv⟩
 ·obtain ⟨g1, g2, g3, v, ⟨o', h3, h4⟩, g5⟩ := st.rel.cel p hp
  exact ⟨g1, g2, g3, v, ⟨o', e _ _ (alive (bo ez _ (.inr (.inr ⟨p, hp, rfl⟩)))) h3, h4⟩, g5⟩
 ·obtain ⟨hk, L, o', es, n, hf, hb', h3, h4⟩ := st.rel.frs en he
  obtain ⟨_, L0, o0, _, _, hf0, _, h0, _⟩ := ez.frs en he
  rw [hf] at hf0; cases hf0
  exact ⟨hk, L, o', es, n, hf, hb', e _ _ (alive (by rw [h0]; simp)) h3, h4⟩
 ·obtain ⟨o'', h3, h4⟩ := st.pres a o' h1 h2
  exact ⟨o'', e a o'' (by rintro rfl; rw [hI0] at h1; cases h1) h3, h4⟩
theorem zX.enter (i : rP C C' j new) (r : zX prog w ac C ρ σ s) (hj : σ.loc.length = j) (hL : ∃ m, s.heap.Ns C'.env.locals m ∧ ∀ p ∈ C'.vars, m p.1 = none) (hl1 : ac.get? C'.env.locals = none) (hl2 : C'.env.locals ∉ ρ)
  (hc : ∀ p ∈ C'.cells, p ∉ C.cells → ac.get? p.2.2 = none ∧ p.2.2 ∉ ρ ∧ p.2.2 ≠ C'.env.locals ∧ s.heap.IsCell p.2.2 none) (hnc : ∀ p ∈ C.cells, ¬ new p.2.2) (hfr : ∀ e ∈ C.fenv :: C.outer, ∀ L, e.frame = some L → ¬ new L) :
  zX prog w ac C' ρ { σ with loc := σ.loc ++ [none] } s := by
 have get : ∀ {n : Nat}, n < j → (σ.loc ++ [none])[n]? = σ.loc[n]? := fun {n} hn => by rw [List.getElem?_append_left (by lia)]
 have getj : (((σ.loc ++ [none])[j]?).join : Option V) = none := by rw [← hj]; simp
 refine ⟨r.hp, ?_, ⟨hl1, hl2⟩, fun p hp => ?_, by rw [i.fenv, i.outer]; exact r.frs, fun e he L hL' => ?_, fun n hn => ?_⟩
 ·obtain ⟨m, hm, hv⟩ := hL
  refine ⟨m, hm, fun p hp => ?_⟩
  dsimp only
  rw [i.vars p hp, getj, hv p hp]
  trivial
 ·by_cases q : p ∈ C.cells
  ·obtain ⟨g1, g2, g3, v, g4, g5⟩ := r.cel p q
   refine ⟨g1, g2, fun e => hnc p q (e ▸ i.loc), v, g4, ?_⟩
   have : p.2.1 < j := hj ▸ r.locs _ (by unfold Cx.idx; exact List.mem_append_right _ (List.mem_map.mpr ⟨p, q, rfl⟩))
   dsimp only
   rw [get this]; exact g5
  ·obtain ⟨h1, h2, h3, h4⟩ := hc p hp q
   refine ⟨h1, h2, h3, none, h4, ?_⟩
   dsimp only
   rw [((i.cells p hp).resolve_left q).1, getj]
   trivial
 ·rw [i.fenv, i.outer] at he
  refine ⟨(r.frn e he L hL').1, fun p hp => ?_⟩
  rcases i.cells p hp with q | q
  ·exact (r.frn e he L hL').2 p q
  ·intro e'; exact hfr e he L hL' (e' ▸ q.2)
 ·show n < (σ.loc ++ [none]).length
  rcases i.idx hn with q | q
  ·simp; lia
  ·have := r.locs n q; simp; lia
noncomputable def c8 (l : Nat) (y : V) (σ : St) : zZ Unit := match σ.heap[l]? with
 | some (.list ys) => if ys.length ≤ sizeLine then .ok () { σ with heap := σ.heap.set l (.list (ys ++ [y])) } else .bad
 | _ => .bad
noncomputable def c0 (j : Nat) (tests : St → zZ Bool) (elt : St → zZ V) (src : Option (Nat × O)) (l : Nat) : List V → St → zZ Unit
 | [], σ => if dM src σ.heap then .ok () σ else .bad
 | x :: xs, σ => if dM src σ.heap then (ao j x σ).bind fun _ ae => (tests ae).calm.bind fun b aq =>
   if b then (elt aq).calm.bind fun y aT => (c8 l y aT).bind fun _ cg => c0 j tests elt src l xs cg else c0 j tests elt src l xs aq else .bad
noncomputable def bI (j : Nat) (mi : St → zZ V) (tests : St → zZ Bool) (elt : St → zZ V) : St → zZ V := fun σ => (mi σ).bind fun v ae => match bY v ae.heap with
 | some (xs, src) => if ae.loc.length = j then (c0 j tests elt src ae.heap.length xs { loc := ae.loc ++ [none], heap := ae.heap ++ [.list []] }).bind fun _ aq => .ok (.ref ae.heap.length) (fb j aq) else .bad
 | none => .bad
theorem lH (r : zX prog w ac C ρ σ s) {l : Nat} {a : Addr} {y : V} {y' : Value} {A : Around} {Q : Value → Shared → Prop} {E : Value → Shared → Prop} (hl : ρ[l]? = some a) (hy : VR ρ y y') (hn : c8 l y σ ≠ .bad)
  (k : ∀ σ' s', c8 l y σ = .ok () σ' → Step prog w ac C ρ σ s ρ σ' s' → Q .none s') : wpAny (model prog w) A (call (.builtin "list.append") [.ref a, y']) Q E s := by
 unfold c8 at hn k
 split at hn
 ·rename_i ys q
  split at hn
  ·rename_i hsz
   rw [q] at k
   simp only [hsz, if_true] at k
   obtain ⟨ob, h1, vs, n, rfl, hv⟩ := r.hp.obj _ _ _ q hl
   refine wpAny_list_append_plain (items := vs.toArray) ⟨n, h1⟩ (fun h' ⟨n', h2⟩ hs => k _ _ rfl (r.upd (t := s.toks) hl hs h2 ⟨vs ++ [y'], n', by simp, hv.append (.one hy)⟩)) (by simp [hv.length]; exact hsz)
  ·exact absurd rfl hn
 ·exact absurd rfl hn
end
structure y3 (C C' : Cx) (scope : Scope) (j : Nat) (new : Addr → Prop) (s : Shared) (h' : Heap) (cenv : Env) : Prop where
 env : C'.env = { cenv with scope := relabel scope C.env }
 loc : cenv.locals = C'.env.locals
 inner : rP C C' j new
 fresh : ∀ a, new a → s.heap.objs.size ≤ a
 kp : ∀ b o, s.heap.get? b = some o → h'.get? b = some o
 ns : ∃ m, h'.Ns C'.env.locals m ∧ ∀ p ∈ C'.vars, m p.1 = none
 cel : ∀ p ∈ C'.cells, p ∉ C.cells → p.2.2 ≠ C'.env.locals ∧ h'.IsCell p.2.2 none
noncomputable abbrev fv (ifs : List Expr) (env : Env) : Sem Bool := forIn ifs true fun c r => if r = true then do let ok ← isTrue c env (eval c env); pure (ForInStep.yield ok) else pure (ForInStep.yield r)
section
variable {prog : Program} {w : World} {ac : Heap} {C C' : Cx} {mg mb : Str → Option Value} {α β γ : Type} {ρ ct aw aK : List Addr} {σ cr ae aq : St} {s bg az aS : Shared} {j : Nat} {new : Addr → Prop}
inductive CompI (prog : Program) (w : World) (ac : Heap) (C C' : Cx) (aw : List Addr) (ae : St) (az : Shared) (P : List V → Heap → Prop) (I D : Addr) (j : Nat) (f : List V → St → zZ Unit) (z : zZ Unit) (k : Nat) (s' : Shared) : Prop
 | mk (ρ' : List Addr) (σ' : St) (ys : List V) (st : Step prog w ac C aw ae az ρ' (fb j σ') s') (r : zX prog w ac C' ρ' σ' s') (hP : P ys s'.heap) (hI : I ∉ ρ') (mo : List Addr) (emo : ρ' = (aw ++ [D]) ++ mo) (hk : k = ys.length) (hf : f ys σ' = z)
theorem lE (ok : C.Ok) (hh : C.A.handled = none) {x : Str} {px pos p' : Pos} {scope : Scope} {iter elt : Expr} {ifs : List Expr} {cl : List (Str × Addr)} {mi : St → zZ V} {tests : St → zZ Bool} {me : St → zZ V} {Shape : Cx → Prop} {use : Option (Value → Sem Unit)}
  {Q : Value → Shared → Prop} {o : zZ γ} {g : V → St → zZ γ}
  (hs : ∀ x, foldedSetIterable iter C.env x = pure x) (hclos : closureFor scope C.env = pure cl) (hkind : scope.kind = .function) (hnames : ∀ y ∈ scope.names, y.2 = .local → scope.names.lookup y.1 = some .local)
  (hi : bi prog w ac C mi (eval iter C.env))
  (prep : (∀ i ∈ C.idx, i < j) → ∀ (s : Shared) (Q : Env → Shared → Prop) (E : Value → Shared → Prop), (∀ p ∈ C.cells, p.2.2 < s.heap.objs.size) → (∀ cenv h' C' new, y3 C C' scope j new s h' cenv → Shape C' → Q cenv { s with heap := h' }) →
   wpAny (model prog w) C.A (newFunctionEnv scope C.env.globals cl [] C.env.qual none .none (some C.env)) Q E s)
  (body : ∀ C', Shape C' → C'.A = C.A → zW prog w ac C' gM tests (fv ifs C'.env) ∧ bi prog w ac C' me (eval elt C'.env) ∧ j5 prog w ac C' (ao j) (.Name x px))
  (r : zX prog w ac C ρ σ s) (ho : o = (bI j mi tests me σ).bind g) (hn : o ≠ .bad)
  (post : ∀ v aq aK aS a L, bI j mi tests me σ = .ok v aq → o = g v aq → VR aK v a → Step prog w ac C ρ σ s aK aq aS → s.heap.get? L = none → L ∉ aK → ac.get? L = none → (∃ m, aS.heap.Ns L m) →
   compPost (model prog w) C.A (z7 prog w ac C ρ σ s o) use Q a L (.ok .next) aS) :
  wpAny (model prog w) C.A (comprehension (.ListComp elt [⟨.Name x px, iter, ifs, 0⟩] scope pos) scope C.env p' (newList []) false (eval iter C.env) use) Q (z7 prog w ac C ρ σ s o) s := by
 refine wpAny_comprehension_free rfl hs hclos hkind hnames ?_
 have ho' : o = (mi σ).bind fun v ae => zZ.bind (match bY v ae.heap with
  | some (xs, src) => if ae.loc.length = j then (c0 j tests me src ae.heap.length xs { loc := ae.loc ++ [none], heap := ae.heap ++ [.list []] }).bind fun _ aq => .ok (.ref ae.heap.length) (fb j aq) else .bad
  | none => .bad) g := by
  rw [ho]; unfold bI
  cases mi σ <;> rfl
 refine (hi.at r).next ho' hn fun v ae aw az v' em vv au e => ?_
 have hcm : bI j mi tests me σ = (match bY v ae.heap with
  | some (xs, src) => if ae.loc.length = j then (c0 j tests me src ae.heap.length xs { loc := ae.loc ++ [none], heap := ae.heap ++ [.list []] }).bind fun _ aq => .ok (.ref ae.heap.length) (fb j aq) else .bad
  | none => .bad) := by unfold bI; rw [em]; rfl
 cases q : bY v ae.heap with
 | none => rw [q] at e; exact absurd e hn
 | some p =>
  obtain ⟨xs, src⟩ := p
  rw [q] at e hcm
  dsimp only at e hcm
  by_cases hj : ae.loc.length = j
  ·rw [if_pos hj] at e hcm
   refine rF hh au.rel.hp vv q fun ob P a hsrc hW hP => ?_
   generalize hI : az.heap.objs.size = I at *
   have hI1 : az.heap.get? I = none := hI ▸ Heap.get?_none_of_le (Nat.le_refl _)
   have hIb : ac.get? I = none := hI ▸ au.rel.hp.base.fresh
   have hIρ : I ∉ aw := hI ▸ au.rel.hp.fresh
   have st2 := au.rel.grow ob az.toks
   refine wpAny_newList ?_ (by simp)
   have st3 := st2.rel.alloc (o := .list []) (ob := { cls := .type "list", data := .seq ([] : List Value).toArray }) (t := az.toks) rfl ⟨[], 0, rfl, .nil⟩
   have hDI : I ≠ (az.heap.push ob).objs.size := by rw [Heap.size_push, hI]; exact Nat.ne_of_lt (Nat.lt_succ_self _)
   generalize hD : (az.heap.push ob).objs.size = D at *
   have st3' := st2.trans st3
   have hlt : ∀ i ∈ C.idx, i < j := fun i hi => hj ▸ au.rel.locs i hi
   refine prep hlt _ _ _ (fun p hp => by
    obtain ⟨oo, hoo⟩ := Option.ne_none_iff_exists'.mp (bo st3'.rel p.2.2 (.inr (.inr ⟨p, hp, rfl⟩)))
    exact Heap.lt_size hoo) fun cenv h' C' new P' sh => ?_
   have inner := P'.inner
   have oldn : ∀ a, new a → az.heap.get? a = none := fun a ha => by
    have := P'.fresh a ha
    refine Heap.get?_none_of_le (Nat.le_trans ?_ this)
    simp only [Heap.size_push]
    lia
   have hne3 : ∀ a, new a → ({ az with heap := (az.heap.push ob).push { cls := .type "list", data := .seq ([] : List Value).toArray } } : Shared).heap.get? a = none := fun a ha => Heap.get?_none_of_le (P'.fresh a ha)
   have st4 : Step prog w ac C aw ae az (aw ++ [D]) { ae with heap := ae.heap ++ [.list []] } { az with heap := h' } := st3'.trans (st3'.rel.keep (s' := { az with heap := h' }) P'.kp ⟨rfl, rfl, rfl⟩)
   have nρ : ∀ a, new a → a ∉ aw ++ [D] := fun a ha hm => by
    obtain ⟨l, hl, el⟩ := List.mem_iff_getElem.mp hm
    have := bo st3'.rel a (.inl hm)
    exact this (hne3 a ha)
   have nb : ∀ a, new a → ac.get? a = none := fun a ha => by
    cases qq : ac.get? a with
    | none => rfl
    | some oo => have := au.rel.hp.base a oo qq; rw [oldn a ha] at this; cases this
   have rel' : zX prog w ac C' (aw ++ [D]) { loc := ae.loc ++ [none], heap := ae.heap ++ [.list []] } { az with heap := h' } :=
    zX.enter (σ := { ae with heap := ae.heap ++ [.list []] }) inner st4.rel hj P'.ns (nb _ inner.loc) (nρ _ inner.loc) (fun p hp hw => have hw' := ((inner.cells p hp).resolve_left hw).2; ⟨nb _ hw', nρ _ hw', P'.cel p hp hw⟩)
     (fun p hp hw => bo au.rel p.2.2 (.inr (.inr ⟨p, hp, rfl⟩)) (oldn _ hw))
     fun en he L hL hw => by
      obtain ⟨_, L', oL, _, _, hf, _, h0, _⟩ := au.rel.frs en he
      rw [hL] at hf; cases hf
      rw [oldn _ hw] at h0; cases h0
   have htr : fb j { loc := ae.loc ++ [none], heap := ae.heap ++ [.list []] } = { ae with heap := ae.heap ++ [.list []] } := by
    unfold fb; simp [← hj]
   obtain ⟨b1, b2, b3⟩ := body C' sh inner.A
   have hlab : (aw ++ [D])[ae.heap.length]? = some D := by rw [← au.rel.hp.len]; simp
   have hP0 : P xs h' := by
    obtain ⟨oI, vI, hoI, _⟩ := (hW C.A hh).live _ _ hP
    refine (hW C.A hh).frame _ _ _ hP ?_
    rw [hoI]
    exact P'.kp _ _ (Heap.get?_push_of_some _ hoI)
   have hI4 : I ∉ aw ++ [D] := fun hm => by
    rcases List.mem_append.mp hm with h | h
    ·exact hIρ h
    ·simp at h; exact hDI h
   have hno : c0 j tests me src ae.heap.length xs { loc := ae.loc ++ [none], heap := ae.heap ++ [.list []] } ≠ .bad := fun qq => hn (by rw [e, qq]; rfl)
   have loop : codeAny (model prog w) C'.A (.compLoop (.ListComp elt [⟨.Name x px, iter, ifs, 0⟩] scope pos) 0 (.ref I) (.ref D) C'.env)
     (compPost (model prog w) C.A (z7 prog w ac C ρ σ s o) use Q (.ref D) cenv.locals) { az with heap := h' } := by
    have W := hW C'.A (by rw [inner.A]; exact hh)
    refine codeAny_compLoop_tests (CompI prog w ac C C' aw ae az P I D j (c0 j tests me src ae.heap.length) (c0 j tests me src ae.heap.length xs { loc := ae.loc ++ [none], heap := ae.heap ++ [.list []] })) ?_ xs.length
     ⟨_, _, xs, htr.symm ▸ st4, rel', hP0, hI4, [], by simp, rfl, rfl⟩
    rintro k s' ⟨ρ', σ', ys, st', r', hP', hI', mo, emo, hk, hf⟩
    obtain ⟨oI, vI, hoI, hdI⟩ := W.live _ _ hP'
    have ext : ∃ more, ρ' = aw ++ more := let ⟨m, e, _⟩ := st'.ext; ⟨m, e⟩
    have hlab' : ρ'[ae.heap.length]? = some D := by rw [emo]; exact cq hlab
    cases ys with
    | nil =>
     obtain ⟨hst, hf⟩ := fq hf hno
     refine W.done s' ρ' σ'.heap _ _ hP' r'.hp (hsrc.ext ext (eT hst)) hI' fun h2 tk hx => ?_
     have st5 := st'.but hI1 hI' hIb hoI hdI hx tk
     have r5 := r'.but hI' hIb hoI hdI hx tk
     rw [← hf] at e hcm
     have hL : cenv.locals ∉ ρ' := P'.loc ▸ r'.lnew.2
     refine post (.ref ae.heap.length) (fb j σ') ρ' _ _ _ hcm e ⟨D, hlab', rfl⟩ (au.trans st5) ?_ hL (P'.loc ▸ r'.lnew.1) ?_
     ·cases qq : s.heap.get? cenv.locals with
      | none => rfl
      | some oo => exact absurd (oldn _ (P'.loc ▸ inner.loc)) (au.live (by rw [qq]; simp))
     ·obtain ⟨m, hm, _⟩ := r5.ns
      exact ⟨m, P'.loc ▸ hm⟩
    | cons y ys =>
     obtain ⟨hst, hf⟩ := fq hf hno
     refine W.item y ys s' ρ' σ'.heap _ _ hP' r'.hp (hsrc.ext ext (eT hst)) hI' fun v2 h2 tk hv hP1 hx => ?_
     have st5 := st'.but hI1 hI' hIb hoI hdI hx tk
     have r5 := r'.but hI' hIb hoI hdI hx tk
     obtain ⟨oI1, vI1, hoI1, hdI1⟩ := W.live _ _ hP1
     rw [ao, zZ.bind_ok] at hf
     refine wpAny_mono (b3 ρ' σ' _ y v2 r5 hv (by unfold ao; simp)) (fun _ s6 hp6 => ?_) fun _ _ hx => hx.elim
     obtain ⟨ρ6, _, st6⟩ := hp6
     obtain ⟨k1, k2⟩ := st6.same r5 hI' hoI1 hdI1
     have stC6 := Step.leave ok inner au.rel hj oldn st5 st6
     refine (b1.at st6.rel).calmF hf hno fun b σ7 ρ7 s7 b' vb st7 hf => ?_
     obtain ⟨k3, k4⟩ := st7.same st6.rel k2 (k1.trans hoI1) hdI1
     have hoI7 := k3.trans (k1.trans hoI1)
     have stC7 := Step.leave ok inner au.rel hj oldn stC6 st7
     obtain ⟨mo7, emo7⟩ : ∃ more, ρ7 = (aw ++ [D]) ++ more := by
      obtain ⟨m6, e6, _⟩ := st6.ext
      obtain ⟨m7, e7', _⟩ := st7.ext
      exact ⟨mo ++ (m6 ++ m7), by rw [e7', e6, emo]; simp only [List.append_assoc]⟩
     have hP7 : P ys s7.heap := W.frame _ _ _ (W.frame _ _ _ hP1 k1) k3
     have hlt7 : ys.length < k := hk ▸ Nat.lt_succ_self _
     cases vb
     cases b with
     | false => exact ⟨_, hlt7, ρ7, σ7, ys, stC7, st7.rel, hP7, k4, mo7, emo7, rfl, hf⟩
     | true =>
      refine (b2.at st7.rel).calmF hf hno fun y8 σ8 ρ8 s8 y8' vy st8 hf => ?_
      obtain ⟨k5, k6⟩ := st8.same st7.rel k4 hoI7 hdI1
      have stC8 := Step.leave ok inner au.rel hj oldn stC7 st8
      obtain ⟨m8, em8, _⟩ := st8.ext
      have hlab8 : ρ8[ae.heap.length]? = some D := by rw [em8, emo7]; exact cq (cq hlab)
      refine lH st8.rel hlab8 vy (fun qq => hno (hf.symm.trans (by rw [qq]; rfl))) fun σ9 s9 e9 st9 => ?_
      rw [e9, zZ.bind_ok] at hf
      obtain ⟨k7, k8⟩ := st9.same st8.rel k6 (k5.trans hoI7) hdI1
      exact ⟨_, hlt7, ρ8, σ9, ys, Step.leave ok inner au.rel hj oldn stC8 st9, st9.rel, W.frame _ _ _ (W.frame _ _ _ hP7 k5) k7, k8, mo7 ++ m8, by rw [em8, emo7]; simp only [List.append_assoc], rfl, hf⟩
   rw [P'.env, inner.A] at loop
   exact codeAny_compStart_list loop ((hW C.A hh).self _ _ _ _ hP0 loop)
  ·rw [if_neg hj] at e; exact absurd e hn
end
structure eS (C : Cx) (scope : Scope) (vars : List (Str × Nat)) (own : List (Str × Nat)) (fs : List (Str × Nat × Addr)) (C' : Cx) : Prop where
 ok : C'.Ok
 vars : C'.vars = vars
 cells : ∃ L, C'.cells = own.map (fun p => (p.1, p.2, L)) ++ fs
 k : C'.k = C.k
 kind : ∀ y q, scope.names.lookup y = some q → q ≠ .free → C'.env.kindOf y = some q
theorem dJ (f : Str → NameKind → NameKind) (x : Str) : ∀ names : List (Str × NameKind), (names.map fun p => (p.1, f p.1 p.2)).lookup x = (names.lookup x).map (f x)
 | [] => rfl
 | p :: r => by
  rw [List.map_cons, List.lookup_cons, List.lookup_cons, dJ f x r]
  by_cases e : x = p.1
  ·subst e; simp
  ·rw [show (x == p.1) = false from beq_eq_false_iff_ne.mpr e]
noncomputable def fz (env : Env) (x : Str) (q : NameKind) : NameKind := if (q == NameKind.free && env.scope.kind == .function && env.kindOf x == some .cell) then .cell else q
theorem ik (env : Env) (names : List (Str × NameKind)) : (names.map fun (n, k) => if (k == NameKind.free && env.scope.kind == .function && env.kindOf n == some .cell) then (n, NameKind.cell) else (n, k)) = names.map fun p => (p.1, fz env p.1 p.2) :=
 List.map_congr_left fun p _ => by
  unfold fz
  by_cases c : (p.2 == NameKind.free && env.scope.kind == .function && env.kindOf p.1 == some .cell) = true
  ·exact (if_pos c).trans (congrArg (Prod.mk p.1) (if_pos c).symm)
  ·exact (if_neg c).trans (congrArg (Prod.mk p.1) (if_neg c).symm)
theorem ce {env : Env} {names : List (Str × NameKind)} {x : Str} {q : NameKind} (hq : q ≠ .free) (h : names.lookup x = some q) :
  (names.map fun (n, k) => if (k == NameKind.free && env.scope.kind == .function && env.kindOf n == some .cell) then (n, NameKind.cell) else (n, k)).lookup x = some q := by
 rw [ik, dJ, h]
 have : (q == NameKind.free) = false := beq_eq_false_iff_ne.mpr hq
 show some (fz env x q) = _
 unfold fz
 rw [this]; rfl
theorem dq {env : Env} {names : List (Str × NameKind)} {x : Str} (h : names.lookup x = some .free) :
  (names.map fun (n, k) => if (k == NameKind.free && env.scope.kind == .function && env.kindOf n == some .cell) then (n, NameKind.cell) else (n, k)).lookup x = some .cell ∨
  (names.map fun (n, k) => if (k == NameKind.free && env.scope.kind == .function && env.kindOf n == some .cell) then (n, NameKind.cell) else (n, k)).lookup x = some .free := by
 rw [ik, dJ, h]
 show some (fz env x .free) = _ ∨ some (fz env x .free) = _
 unfold fz
 split
 ·exact .inl rfl
 ·exact .inr rfl
section
variable {prog : Program} {w : World} {ac : Heap} {C C' : Cx} {mg mb : Str → Option Value} {α β γ : Type} {ρ ct aw aK : List Addr} {σ cr ae aq : St} {s bg az aS : Shared} {j : Nat} {new : Addr → Prop}
theorem eQ {env : Env} (f : Str × NameKind → List (Str × Addr) → Sem (ForInStep (List (Str × Addr)))) (hf : ∀ n k cs, f (n, k) cs = if k == .free then (do let c ← cellOf env n; pure (.yield ((n, c) :: cs))) else pure (.yield cs)) :
  ∀ (names : List (Str × NameKind)) (fs : List (Str × Nat × Addr)) (acc : List (Str × Addr)), (∀ p ∈ fs, env.cells.lookup p.1 = some p.2.2) → (names.filter (·.2 == .free)).map (·.1) = fs.map (·.1) →
   forIn names acc f = (pure ((fs.map fun p => (p.1, p.2.2)).reverse ++ acc) : Sem (List (Str × Addr)))
 | [], fs, acc, _, h => by
  have : fs = [] := by simpa using h.symm
  subst this; rfl
 | (n, k) :: r, fs, acc, hl, h => by
  rw [List.forIn_cons, hf]
  cases hk : k == NameKind.free with
  | false =>
   rw [List.filter_cons] at h
   simp only [hk, Bool.false_eq_true, if_false] at h ⊢
   have := eQ f hf r fs acc hl h
   simpa using this
  | true =>
   rw [List.filter_cons] at h
   simp only [hk, if_true] at h ⊢
   cases fs with
   | nil => simp at h
   | cons p fs =>
    simp only [List.map_cons, List.cons.injEq] at h
    obtain ⟨h1, h2⟩ := h
    have e : cellOf env n = pure p.2.2 := by unfold cellOf; rw [h1, hl p List.mem_cons_self]
    have := eQ f hf r fs ((n, p.2.2) :: acc) (fun q hq => hl q (List.mem_cons_of_mem _ hq)) h2
    rw [e]
    simp only [pure_bind]
    rw [this, h1]
    simp
theorem gz (ok : C.Ok) {scope : Scope} {fs : List (Str × Nat × Addr)} (hfs : ∀ p ∈ fs, p ∈ C.cells) (hfree : (scope.names.filter (·.2 == .free)).map (·.1) = fs.map (·.1)) :
  closureFor scope C.env = pure (fs.map fun p => (p.1, p.2.2)).reverse := by
 unfold closureFor
 have := eQ (env := C.env) (fun x cs => match x with | (n, k) => if k == .free then (do let c ← cellOf C.env n; pure (.yield ((n, c) :: cs))) else pure (.yield cs)) (fun n k cs => rfl) scope.names fs [] (fun p hp => (ok.cel p (hfs p hp)).2) hfree
 simp only [List.append_nil] at this
 simp only [bind_pure]
 exact this
theorem jg {fs : List (Str × Nat × Addr)} (hn : (fs.map (·.1)).Nodup) {p : Str × Nat × Addr} (hp : p ∈ fs) : ((fs.map fun p => (p.1, p.2.2)).reverse).lookup p.1 = some p.2.2 := by
 have : ∀ {l : List (Str × Addr)} {x : Str} {v : Addr}, (l.map (·.1)).Nodup → (x, v) ∈ l → l.lookup x = some v := by
  intro l
  induction l with
  | nil => intro x v _ h; cases h
  | cons q l ih =>
   intro x v h hm
   obtain ⟨y, u⟩ := q
   rw [List.map_cons, List.nodup_cons] at h
   rcases List.mem_cons.mp hm with e | hm'
   ·cases e; simp
   ·have hne : (x == y) = false := by
     rw [beq_eq_false_iff_ne]; intro q; subst q
     exact h.1 (List.mem_map.mpr ⟨(x, v), hm', rfl⟩)
    rw [List.lookup_cons, hne]
    exact ih h.2 hm'
 refine this ?_ (List.mem_reverse.mpr (List.mem_map.mpr ⟨p, hp, rfl⟩))
 rw [List.map_reverse, List.map_map]
 exact List.pairwise_reverse.mpr (hn.imp fun h => Ne.symm h)
theorem jb (ok : C.Ok) {scope : Scope} {x : Str} {fs : List (Str × Nat × Addr)} (hfs : ∀ p ∈ fs, p ∈ C.cells) (hfl : ∀ p ∈ fs, scope.names.lookup p.1 = some .free) (hfn : (fs.map (·.1)).Nodup)
  (hkind : scope.kind = .function) (hc : ∀ y ∈ scope.names, y.2 ≠ .cell) (hx : scope.names.lookup x = some .local) (hlt : ∀ i ∈ C.idx, i < j) (s : Shared) (Q : Env → Shared → Prop) (E : Value → Shared → Prop) (_ : ∀ p ∈ C.cells, p.2.2 < s.heap.objs.size)
  (h : ∀ cenv h' C' new, y3 C C' scope j new s h' cenv → eS C scope [(x, j)] [] fs C' → Q cenv { s with heap := h' }) :
  wpAny (model prog w) C.A (newFunctionEnv scope C.env.globals (fs.map fun p => (p.1, p.2.2)).reverse [] C.env.qual none .none (some C.env)) Q E s := by
 refine wpAny_newFunctionEnv hc (by intro y hy; cases hy) (fun h' hn hs => ?_) hkind
 let C' : Cx := { A := C.A, env := compEnvC scope (fs.map fun p => (p.1, p.2.2)).reverse s.heap.objs.size C.env, fenv := C.fenv, outer := C.outer, vars := [(x, j)], cells := fs, k := C.k }
 have kp : ∀ b o, s.heap.get? b = some o → h'.get? b = some o := fun b o e => hs.extBut b o (Nat.ne_of_lt (Heap.lt_size e)) (Heap.get?_push_of_some _ e)
 refine h _ h' C' (· = s.heap.objs.size) ⟨rfl, rfl, ⟨rfl, rfl, rfl, rfl, fun p hp => by simp [C'] at hp; subst hp; rfl, fun p hp => .inl (hfs p hp)⟩, fun a e => Nat.le_of_eq e.symm, kp, ⟨_, hn, fun p hp => rfl⟩, fun p hp e => ?_⟩ ⟨?_, rfl, ⟨0, rfl⟩, rfl, fun y q hq hne => ce hne hq⟩
 ·exact absurd (hfs p hp) e
 ·exact {
   fr := ok.fr
   kind := hkind
   glob := ok.glob
   bltn := ok.bltn
   frame := ok.frame
   loc := fun p hp => by simp [C'] at hp; subst hp; exact ce (by intro q; cases q) hx
   cel := fun p hp => ⟨dq (hfl p hp), jg hfn hp⟩
   depth := ok.depth
   units := ok.units
   uni := fun p hp q hq => by simp [C'] at hp hq; subst hp hq; simp
   unc := fun p hp q hq => ok.unc p (hfs p hp) q (hfs q hq)
   dis := fun p hp q hq => by
    simp [C'] at hp; subst hp
    have := hlt q.2.1 (by unfold Cx.idx; exact List.mem_append_right _ (List.mem_map.mpr ⟨q, hfs q hq, rfl⟩))
    show j ≠ q.2.1
    lia }
theorem qF (ok : C.Ok) {scope : Scope} {x : Str} {fs : List (Str × Nat × Addr)} (hfs : ∀ p ∈ fs, p ∈ C.cells) (hfl : ∀ p ∈ fs, scope.names.lookup p.1 = some .free) (hfn : (fs.map (·.1)).Nodup)
  (hkind : scope.kind = .function) (hc1 : ∀ n cl, cellsFrom n scope.names cl = (x, n) :: cl) (hc2 : ∀ h, pushCells h scope.names = h.push { cls := .type "cell", data := .cell none }) (hx : scope.names.lookup x = some .cell) (hlt : ∀ i ∈ C.idx, i < j) (s : Shared) (Q : Env → Shared → Prop) (E : Value → Shared → Prop) (hal : ∀ p ∈ C.cells, p.2.2 < s.heap.objs.size)
  (h : ∀ cenv h' C' new, y3 C C' scope j new s h' cenv → eS C scope [] [(x, j)] fs C' → Q cenv { s with heap := h' }) :
  wpAny (model prog w) C.A (newFunctionEnv scope C.env.globals (fs.map fun p => (p.1, p.2.2)).reverse [] C.env.qual none .none (some C.env)) Q E s := by
 simp only [newFunctionEnv, Option.isSome_some, if_true]
 refine wpAny_bind (wpAny_alloc ?_)
 refine wpAny_bind (wpAny_layCells _ (fun name kind cells => by cases kind == NameKind.cell <;> simp) _ _ _ _ ?_)
 rw [hc1, hc2]
 refine wpAny_bind (wpAny_pure (wpAny_pure ?_))
 have hsz : ({ s with heap := s.heap.push { cls := .type "dict", data := .dict #[] } } : Shared).heap.objs.size = s.heap.objs.size + 1 := Heap.size_push ..
 let C' : Cx := { A := C.A, env := compEnvC scope ((x, s.heap.objs.size + 1) :: (fs.map fun p => (p.1, p.2.2)).reverse) s.heap.objs.size C.env, fenv := C.fenv, outer := C.outer, vars := [], cells := (x, j, s.heap.objs.size + 1) :: fs, k := C.k }
 have kp : ∀ b o, s.heap.get? b = some o → ((s.heap.push { cls := .type "dict", data := .dict #[] }).push { cls := .type "cell", data := .cell none }).get? b = some o := fun b o e => Heap.get?_push_of_some _ (Heap.get?_push_of_some _ e)
 refine h _ _ C' (fun a => s.heap.objs.size ≤ a) ⟨?_, rfl, ⟨rfl, rfl, rfl, Nat.le_refl _, fun p hp => by simp [C'] at hp, fun p hp => ?_⟩, fun a e => e, kp, ⟨_, (Heap.Ns.new s.heap (.type "dict")).keeps fun _ _ e => Heap.get?_push_of_some _ e, fun p hp => by simp [C'] at hp⟩, fun p hp e => ?_⟩ ⟨?_, rfl, ⟨s.heap.objs.size + 1, rfl⟩, rfl, fun y q hq hne => ce hne hq⟩
 ·rw [hsz]; rfl
 ·rcases List.mem_cons.mp hp with rfl | hp
  ·exact .inr ⟨rfl, Nat.le_succ _⟩
  ·exact .inl (hfs p hp)
 ·rcases List.mem_cons.mp hp with rfl | hp
  ·refine ⟨Nat.succ_ne_self _, { cls := .type "cell", data := .cell none }, ?_, rfl⟩
   have := Heap.get?_push_size (s.heap.push { cls := .type "dict", data := .dict #[] }) (o := { cls := .type "cell", data := .cell none }) rfl
   rw [Heap.size_push] at this
   exact this
  ·exact absurd (hfs p hp) e
 ·have ltc : ∀ p ∈ fs, p.2.1 < j := fun p hp => hlt p.2.1 (by unfold Cx.idx; exact List.mem_append_right _ (List.mem_map.mpr ⟨p, hfs p hp, rfl⟩))
  have lta : ∀ p ∈ fs, p.2.2 < s.heap.objs.size := fun p hp => hal p (hfs p hp)
  exact {
   fr := ok.fr
   kind := hkind
   glob := ok.glob
   bltn := ok.bltn
   frame := ok.frame
   loc := fun p hp => by simp [C'] at hp
   cel := fun p hp => by
    rcases List.mem_cons.mp hp with rfl | hp
    ·exact ⟨.inl (ce (by intro q; cases q) hx), by simp [C', compEnvC]⟩
    ·refine ⟨dq (hfl p hp), ?_⟩
     have hne : (p.1 == x) = false := by
      rw [beq_eq_false_iff_ne]
      intro e
      have := hfl p hp
      rw [e, hx] at this; cases this
     show List.lookup p.1 ((x, _) :: _) = _
     rw [List.lookup_cons, hne]
     exact jg hfn hp
   depth := ok.depth
   units := ok.units
   uni := fun p hp => by simp [C'] at hp
   unc := fun p hp q hq => by
    rcases List.mem_cons.mp hp with rfl | hp <;> rcases List.mem_cons.mp hq with rfl | hq
    ·simp
    ·have := ltc q hq; have := lta q hq
     show (s.heap.objs.size + 1 = q.2.2) ↔ (j = q.2.1)
     constructor
     ·intro e; exact absurd (lta q hq) (by rw [← e]; exact Nat.not_lt.mpr (Nat.le_succ _))
     ·intro e; have := ltc q hq; lia
    ·have := ltc p hp; have := lta p hp
     show (p.2.2 = s.heap.objs.size + 1) ↔ (p.2.1 = j)
     constructor
     ·intro e; exact absurd (lta p hp) (by rw [e]; exact Nat.not_lt.mpr (Nat.le_succ _))
     ·intro e; have := ltc p hp; lia
    ·exact ok.unc p (hfs p hp) q (hfs q hq)
   dis := fun p hp => by simp [C'] at hp }
theorem bU : zW prog w ac C gM (aa true) (fv [] C.env) := fun _ _ _ r _ => wpAny_tests_nil (zx rfl (.refl r))
theorem cy {t : St → zZ Bool} {c : Expr} (h : pK prog w ac C t c) : zW prog w ac C gM t (fv [c] C.env) := fun ρ σ s r hn => wpAny_tests_one (h ρ σ s r hn)
noncomputable abbrev oB (prog : Program) (w : World) (ac : Heap) (C : Cx) (Shape : Cx → Prop) (j : Nat) (x : Str) (px : Pos) (ifs : List Expr) (elt : Expr) (tests : St → zZ Bool) (me : St → zZ V) : Prop := ∀ C', Shape C' → C'.A = C.A → zW prog w ac C' gM tests (fv ifs C'.env) ∧ bi prog w ac C' me (eval elt C'.env) ∧ j5 prog w ac C' (ao j) (.Name x px)
noncomputable abbrev oA (prog : Program) (w : World) (C : Cx) (Shape : Cx → Prop) (j : Nat) (scope : Scope) (cl : List (Str × Addr)) : Prop := (∀ i ∈ C.idx, i < j) → ∀ (s : Shared) (Q : Env → Shared → Prop) (E : Value → Shared → Prop), (∀ p ∈ C.cells, p.2.2 < s.heap.objs.size) → (∀ cenv h' C' new, y3 C C' scope j new s h' cenv → Shape C' → Q cenv { s with heap := h' }) → wpAny (model prog w) C.A (newFunctionEnv scope C.env.globals cl [] C.env.qual none .none (some C.env)) Q E s
theorem sq (ok : C.Ok) (hh : C.A.handled = none) {x : Str} {px pos : Pos} {scope : Scope} {iter elt : Expr} {ifs : List Expr} {cl : List (Str × Addr)} {mi : St → zZ V} {tests : St → zZ Bool} {me : St → zZ V} {Shape : Cx → Prop}
  (hs : ∀ x, foldedSetIterable iter C.env x = pure x) (hclos : closureFor scope C.env = pure cl) (hkind : scope.kind = .function) (hnames : ∀ y ∈ scope.names, y.2 = .local → scope.names.lookup y.1 = some .local)
  (hi : bi prog w ac C mi (eval iter C.env)) (prep : oA prog w C Shape j scope cl) (body : oB prog w ac C Shape j x px ifs elt tests me) :
  bi prog w ac C (bI j mi tests me) (eval (.ListComp elt [⟨.Name x px, iter, ifs, 0⟩] scope pos) C.env) := by
 intro ρ σ s r hn
 rw [eval_ListComp]
 refine lE (g := fun v σ => .ok v σ) ok hh hs hclos hkind hnames hi prep body r (by cases bI j mi tests me σ <;> rfl) hn fun v aq aK aS a L e _ hv st hL1 hL2 hL3 ⟨m, hm⟩ => ?_
 refine ⟨m, hm, fun h' hs' => ?_⟩
 rw [e]
 exact zx hv (st.butNew r hL1 hL2 hL3 hs'.extBut aS.toks)
theorem fj (ok : C.Ok) (hh : C.A.handled = none) {x y : Str} {i : Nat} {px py pos spos : Pos} {scope : Scope} {iter elt : Expr} {ifs : List Expr} {cl : List (Str × Addr)} {mi : St → zZ V} {tests : St → zZ Bool} {me : St → zZ V} {Shape : Cx → Prop}
  (hy : (y, i) ∈ C.vars) (hsw : swapsWith (.ListComp elt [⟨.Name x px, iter, ifs, 0⟩] scope pos) (some (.Name y py)) spos.line C.env = pure true)
  (hs : ∀ x, foldedSetIterable iter C.env x = pure x) (hclos : closureFor scope C.env = pure cl) (hkind : scope.kind = .function) (hnames : ∀ y ∈ scope.names, y.2 = .local → scope.names.lookup y.1 = some .local)
  (hi : bi prog w ac C mi (eval iter C.env)) (prep : oA prog w C Shape j scope cl) (body : oB prog w ac C Shape j x px ifs elt tests me) :
  gN prog w ac C (an (bI j mi tests me) (ao i)) (.Assign [.Name y py] (.ListComp elt [⟨.Name x px, iter, ifs, 0⟩] scope pos) spos) := by
 intro ρ σ s r hn
 rw [exec_Assign_Name_used _ _ _ _ hsw]
 refine wpAny_bind (wpAny_standAt (wpAny_bind ?_))
 show wpAny _ C.A (do let _ ← comprehension (.ListComp elt [⟨.Name x px, iter, ifs, 0⟩] scope pos) scope C.env _ (newList []) false (eval iter C.env) (some (assign (.Name y py) C.env))) _ _ s
 refine wpAny_bind (wpAny_mono (lE (o := an (bI j mi tests me) (ao i) σ) (g := fun v ae => (ao i v ae).bind fun _ aq => .ok .next aq) (Q := fun _ s' => z3 prog w ac C FR ρ σ s (an (bI j mi tests me) (ao i) σ) .next s') ok hh hs hclos hkind hnames hi prep body r rfl hn fun v aq aK aS a L e e2 hv st hL1 hL2 hL3 ⟨m, hm⟩ => ?_) (fun _ s' hq => wpAny_pure (wpAny_pure hq)) fun _ _ e => e)
 rw [e2] at hn ⊢
 show wpAny _ _ (assign (.Name y py) C.env a) _ _ _
 refine At.then st (fL ok hy aK aq aS v a st.rel hv) rfl hn fun _ aT bZ bF _ _ _ b8 st' e => ?_
 rw [e] at hn ⊢
 obtain ⟨o, es, ep, ho, hrest⟩ := id hm
 have hno : ¬ zY C aK L := by
  rintro (h | h | ⟨p, hp, h⟩)
  ·exact hL2 h
  ·subst h; exact bo r _ (.inr (.inl rfl)) hL1
  ·subst h; exact bo r _ (.inr (.inr ⟨p, hp, rfl⟩)) hL1
 have hL3' : L ∉ bZ := fun hm' => by
  obtain ⟨more, e1, n1⟩ := b8.ext
  rw [e1, List.mem_append] at hm'
  rcases hm' with q | q
  ·exact hL2 q
  ·rw [n1 _ q] at ho; cases ho
 refine ⟨m, d7 hm fun o ho => b8.pres L o ho hno, fun h' hs' => ?_⟩
 exact zx rfl (st'.butNew r hL1 hL3' hL3 hs'.extBut bF.toks)
end
theorem oh {kindOf : Str → Option NameKind} : ∀ (binds : List (Str × Value)) (m : Str → Option Value), (∀ x ∈ binds, kindOf x.1 = some .local) → ∀ y, bindL kindOf binds m y = (binds.reverse.lookup y).or (m y)
 | [], m, _, y => by simp [bindL]
 | (n, v) :: r, m, h, y => by
  rw [bindL, if_pos (h (n, v) List.mem_cons_self), oh r _ (fun x hx => h x (List.mem_cons_of_mem _ hx)) y, List.reverse_cons, List.lookup_append]
  cases r.reverse.lookup y with
  | some z => simp
  | none =>
   simp only [Option.none_or, List.lookup_cons, List.lookup_nil]
   by_cases e : y = n
   ·subst e; simp
   ·have : (y == n) = false := by simpa using e
    rw [if_neg e, this]; simp
theorem oi {kindOf : Str → Option NameKind} : ∀ (binds : List (Str × Value)) (m : Str → Option Value), (∀ x ∈ binds, kindOf x.1 = some .local) → bindC kindOf binds m = m
 | [], m, _ => rfl
 | (n, v) :: r, m, h => by rw [bindC, if_pos (h (n, v) List.mem_cons_self)]; exact oi r m fun x hx => h x (List.mem_cons_of_mem _ hx)
section
variable {prog : Program} {w : World} {ac : Heap} {mg mb : Str → Option Value}
theorem i6 (T : yN ac mg mb) {fa : Addr} {fd : FuncData} {body : List Stmt} {params others cells : List Str} {mk : List Value → Args} {bnd : List V → List O → Option (List V × List O)} {m : St → zZ F} {k : Nat} (F : wU ac fa fd body)
  (hbind : oC prog w ac fd params mk bnd) (hnd : (params ++ others).Nodup) (hloc : ∀ x ∈ params ++ others, fd.scope.names.lookup x = some .local) (hcell : ∀ x ∈ cells, fd.scope.names.lookup x = some .cell ∧ ∀ n, ((cellsFrom n fd.scope.names []).lookup x).isSome = true) (hcn : cells.Nodup) (hcx : ∀ x ∈ cells, x ∉ params)
  (hb : ∀ C : Cx, C.Ok → C.env.scope = fd.scope → C.vars = (params ++ others).zipIdx → (∃ f : Str → Addr, C.cells = (cells.zipIdx (params ++ others).length).map fun p => (p.1, p.2, f p.1)) → C.A.handled = none → C.k = k → fY prog w ac C m body) :
  dy prog w ac (k + 1) (.ref fa) mk (dh ((params ++ others).length + cells.length) bnd m) := by
 intro A outer ρ H s vs xs hfr hq hd hu frs frm r ha hn
 obtain ⟨fo, hfo, hfd⟩ := F.obj
 unfold dh at hn ⊢
 cases hbn : bnd vs H with
 | none => rw [hbn] at hn; exact absurd rfl hn
 | some p =>
  obtain ⟨ps, b7⟩ := p
  rw [hbn] at hn
  dsimp only at hn ⊢
  refine codeAny_call_function (by lia) (r.base _ _ hfo) hfd F.co F.gen F.body (F.cd.keeps r.base) ?_
  refine wpAny_mono (hbind _ ρ H s vs xs ps b7 r ha hbn) (fun binds az ⟨aw, ys, hbs, hyl, hps, au⟩ => ?_) fun _ _ x => x.elim
  subst hbs
  have hpl : ps.length = params.length := by rw [← hyl, hps.length]
  rw [F.clo]
  refine wpAny_newFunctionEnv_cells F.kind (fun x hx => .inl (hloc _ (List.mem_append_left _ (List.of_mem_zip hx).1))) fun env henv aS X => ?_
  have hbl : ∀ x ∈ params.zip ys, env.kindOf x.1 = some .local := fun x hx => by rw [henv]; exact hloc _ (List.mem_append_left _ (List.of_mem_zip hx).1)
  obtain ⟨bG, tk, hs₂, kp⟩ := X.done
  subst hs₂
  have hns := X.toInCall.ns
  have hcl := X.cell
  have hap := X.apart
  have hab := X.above
  clear X
  rw [oi _ _ hbl] at hcl
  have hns : bG.Ns env.locals (fun x => (params.zip ys).reverse.lookup x) := by
   have e : bindL env.kindOf (params.zip ys) (fun _ => none) = fun x => (params.zip ys).reverse.lookup x := by
    funext y
    rw [oh _ _ hbl y]; simp
   rw [← e]; exact hns
  refine ⟨T.nolimit.keeps fun b o e => kp b o (au.rel.base b o e), ?_⟩
  have hloc0 : env.locals = az.heap.objs.size := by rw [henv]; rfl
  generalize hL : az.heap.objs.size = L at *
  show codeAny _ _ (.func body env) _ _
  let f : Str → Addr := fun x => (env.cells.lookup x).getD 0
  let C : Cx := { A := A.deeper env, env := env, fenv := env, outer := outer, vars := (params ++ others).zipIdx, cells := (cells.zipIdx (params ++ others).length).map fun p => (p.1, p.2, f p.1), k := k }
  have hcells : env.cells = cellsFrom (L + 1) fd.scope.names [] := by rw [henv]; rfl
  have cmem : ∀ p ∈ C.cells, p.1 ∈ cells ∧ cells[p.2.1 - (params ++ others).length]? = some p.1 ∧ (params ++ others).length ≤ p.2.1 ∧ p.2.1 < (params ++ others).length + cells.length ∧ p.2.2 = f p.1 ∧ env.cells.lookup p.1 = some (f p.1) := fun p hp => by
   obtain ⟨q, hq, rfl⟩ := List.mem_map.mp hp
   obtain ⟨q1, q2⟩ := q
   have h1 := List.mk_mem_zipIdx_iff_le_and_getElem?_sub.mp hq
   have h2 : q1 ∈ cells := List.mem_of_getElem? h1.2
   refine ⟨h2, h1.2, h1.1, ?_, rfl, ?_⟩
   ·have := (List.getElem?_eq_some_iff.mp h1.2).1
    dsimp only; lia
   ·have := (hcell q1 h2).2 (L + 1)
    rw [← hcells] at this
    obtain ⟨c, hc⟩ := Option.isSome_iff_exists.mp this
    dsimp only [f]
    rw [hc]; rfl
  have cabove : ∀ p ∈ C.cells, L < p.2.2 := fun p hp => by
   obtain ⟨_, _, _, _, h5, h6⟩ := cmem p hp
   rw [h5, ← hloc0]; exact hab _ _ (mem_of_lookup h6)
  have cfresh : ∀ p ∈ C.cells, az.heap.get? p.2.2 = none := fun p hp => Heap.get?_none_of_le (by rw [hL]; exact Nat.le_of_lt (cabove p hp))
  have vmem : ∀ p ∈ C.vars, (params ++ others)[p.2]? = some p.1 := fun p hp => by
   have := List.mem_zipIdx_iff_getElem?.mp hp
   exact this
  have ok : C.Ok := {
   fr := by show A.frames.map (env :: ·) = _; rw [hfr]; rfl
   kind := by show env.scope.kind = _; rw [henv]; exact F.kind
   glob := by show env.globals = _; rw [henv]; exact F.glob
   bltn := by show env.builtins = _; rw [henv]; exact F.bl
   frame := rfl
   loc := fun p hp => by show env.kindOf p.1 = _; rw [henv]; exact hloc _ (List.mem_of_getElem? (vmem p hp))
   cel := fun p hp => by
    obtain ⟨h1, _, _, _, h5, h6⟩ := cmem p hp
    refine ⟨.inl ?_, by rw [h5]; exact h6⟩
    show env.kindOf p.1 = _
    rw [henv]; exact (hcell _ h1).1
   depth := by show A.depth + 1 + k < _; lia
   units := by show A.units + 3 + 8 * k + 100 < _; lia
   uni := fun p hp q hq' => by
    have h1 := vmem p hp
    have h2 := vmem q hq'
    constructor
    ·intro e
     rw [e] at h1
     obtain ⟨a1, b1⟩ := List.getElem?_eq_some_iff.mp h1
     obtain ⟨a2, b2⟩ := List.getElem?_eq_some_iff.mp h2
     have hp' := List.pairwise_iff_getElem.mp hnd
     rcases Nat.lt_trichotomy p.2 q.2 with g | g | g
     ·exact absurd (b1.trans b2.symm) (hp' _ _ a1 a2 g)
     ·exact g
     ·exact absurd (b2.trans b1.symm) (hp' _ _ a2 a1 g)
    ·intro e
     rw [e, h2] at h1
     exact (Option.some.inj h1).symm
   unc := fun p hp q hq' => by
    obtain ⟨_, a2, a3, _, a5, a6⟩ := cmem p hp
    obtain ⟨_, b2, b3, _, b5, b6⟩ := cmem q hq'
    have hpn := List.pairwise_iff_getElem.mp hcn
    constructor
    ·intro e
     have hn' := name_of_addr hap (mem_of_lookup a6) (by rw [← a5, e, b5]; exact mem_of_lookup b6)
     rw [hn'] at a2
     obtain ⟨i1, j1⟩ := List.getElem?_eq_some_iff.mp a2
     obtain ⟨i2, j2⟩ := List.getElem?_eq_some_iff.mp b2
     rcases Nat.lt_trichotomy (p.2.1 - (params ++ others).length) (q.2.1 - (params ++ others).length) with g | g | g
     ·exact absurd (j1.trans j2.symm) (hpn _ _ i1 i2 g)
     ·lia
     ·exact absurd (j2.trans j1.symm) (hpn _ _ i2 i1 g)
    ·intro e
     rw [e, b2] at a2
     rw [a5, b5, Option.some.inj a2]
   dis := fun p hp q hq' => by
    obtain ⟨_, _, b3, _, _, _⟩ := cmem q hq'
    have := (List.getElem?_eq_some_iff.mp (vmem p hp)).1
    lia }
  obtain ⟨more, e1, n1⟩ := au.ext
  have olive : ∀ L' ∈ bD outer, L' ∉ aw ∧ ∃ o es n, az.heap.get? L' = some o ∧ o.data = .dict es n := fun L' hL' => by
   obtain ⟨_, o, es, n, ho, hdd⟩ := frs.mem hL'
   obtain ⟨o', ho', hs⟩ := au.pres L' o ho (frm L' hL')
   refine ⟨fun hm => ?_, o', es, n, ho', ?_⟩
   ·rw [e1, List.mem_append] at hm
    rcases hm with h | h
    ·exact frm L' hL' h
    ·rw [n1 _ h] at ho; cases ho
   ·rcases hs with rfl | ⟨_, sl, rfl⟩ <;> exact hdd
  have rel : zX prog w ac C aw ⟨dI ((params ++ others).length + cells.length) ps, b7⟩ { az with heap := bG, toks := tk } := {
   hp := au.rel.keep fun a o e _ => kp a o e
   ns := ⟨_, hns, fun p hp => (pX hnd hyl hps (vmem p hp)).l⟩
   lnew := by
    show ac.get? env.locals = none ∧ env.locals ∉ aw
    rw [hloc0]
    subst hL
    exact ⟨au.rel.base.fresh, au.rel.fresh⟩
   cel := fun p hp => by
    obtain ⟨h1, h2, h3, h4, h5, h6⟩ := cmem p hp
    refine ⟨?_, fun hm => ?_, ?_, none, by rw [h5]; exact hcl _ _ h6, ?_⟩
    ·cases qq : ac.get? p.2.2 with
     | none => rfl
     | some oo => have := au.rel.base _ _ qq; rw [cfresh p hp] at this; cases this
    ·obtain ⟨l, hl, el⟩ := List.mem_iff_getElem.mp hm
     obtain ⟨ob, g1, _⟩ := au.rel.obj l _ _ (List.getElem?_eq_getElem (au.rel.len ▸ hl)) (by rw [List.getElem?_eq_getElem hl, el])
     rw [cfresh p hp] at g1; cases g1
    ·show p.2.2 ≠ env.locals
     rw [hloc0]; exact Nat.ne_of_gt (cabove p hp)
    ·show zT aw ((dI ((params ++ others).length + cells.length) ps)[p.2.1]?).join none
     rw [kX, List.getElem?_eq_none (by rw [hpl]; simp only [List.length_append] at h3; lia)]
     trivial
   frs := fun e he => by
    rcases List.mem_cons.mp he with hee | he
    ·have hee : e = env := hee
     rw [hee]
     obtain ⟨o, es, ep, ho, hdd, _⟩ := hns
     refine ⟨?_, L, o, es, ep, by show env.frame = _; rw [henv]; rfl, by subst hL; exact au.rel.base.fresh, by rw [← hloc0]; exact ho, hdd⟩
     show env.scope.kind ≠ .module
     rw [henv]; show fd.scope.kind ≠ .module
     rw [F.kind]; intro q; cases q
    ·obtain ⟨hk, L', o, es, n, hf, hb', ho, hdd⟩ := frs e he
     obtain ⟨_, o', es', n', ho', hdd'⟩ := olive L' (List.mem_filterMap.mpr ⟨e, he, hf⟩)
     exact ⟨hk, L', o', es', n', hf, hb', kp _ _ ho', hdd'⟩
   frn := fun e he L' hL' => by
    rcases List.mem_cons.mp he with hee | he
    ·have hee : e = env := hee
     rw [hee] at hL'
     have hL' : env.frame = some L' := hL'
     rw [henv] at hL'
     cases hL'
     exact ⟨by rw [← hL]; exact au.rel.fresh, fun p hp => Nat.ne_of_gt (cabove p hp)⟩
    ·obtain ⟨hh1, oo, _, _, hh2, _⟩ := olive L' (List.mem_filterMap.mpr ⟨e, he, hL'⟩)
     exact ⟨hh1, fun p hp q => by rw [← q, cfresh p hp] at hh2; cases hh2⟩
   locs := fun i hi => by
    have : i < (params ++ others).length + cells.length := by
     rcases List.mem_append.mp hi with h | h
     ·obtain ⟨p, hp, rfl⟩ := List.mem_map.mp h
      have := (List.getElem?_eq_some_iff.mp (vmem p hp)).1
      lia
     ·obtain ⟨p, hp, rfl⟩ := List.mem_map.mp h
      exact (cmem p hp).2.2.2.1
    show i < (dI ((params ++ others).length + cells.length) ps).length
    simp only [dI, List.length_append, List.length_map, List.length_replicate] at this ⊢
    lia }
  have down : ∀ {ρ' : List Addr} {σ' : St} {s' : Shared}, Step prog w ac C aw ⟨dI ((params ++ others).length + cells.length) ps, b7⟩ { az with heap := bG, toks := tk } ρ' σ' s' → cE prog w ac ρ H s ρ' σ'.heap s' := by
   intro ρ' σ' s' st
   obtain ⟨m2, e2, n2⟩ := st.ext
   refine au.trans ⟨st.rel.hp, ⟨m2, e2, fun x hx => ?_⟩, fun x o hx hn' => ?_, st.rest⟩
   ·cases q : az.heap.get? x with
    | none => rfl
    | some o => rw [← kp x o q]; exact n2 x hx
   ·refine st.pres x o (kp x o hx) ?_
    rintro (h | h | ⟨p, hp, _⟩)
    ·exact hn' h
    ·have h : x = env.locals := h
     rw [hloc0] at h
     subst h
     have := Heap.lt_size hx
     rw [hL] at this
     exact Nat.lt_irrefl _ this
    ·rename_i h
     rw [← h, cfresh p hp] at hx; cases hx
  have hbody := hb C ok (by show env.scope = _; rw [henv]; rfl) rfl ⟨f, rfl⟩ hq rfl aw _ _ rel
  refine codeAny_func ?_
  cases hm : m ⟨dI ((params ++ others).length + cells.length) ps, b7⟩ with
  | ok f τ =>
   rw [hm] at hn hbody
   refine wpAny_mono (hbody (by simp)) (fun f' s' h => ?_) fun _ _ h => h.elim
   obtain ⟨ρ', vf, st⟩ := h
   cases f with
   | next => cases vf; exact ⟨_, ρ', rfl, rfl, down st⟩
   | ret v => obtain ⟨x, rfl, hv⟩ := vf; exact ⟨x, ρ', rfl, hv, down st⟩
   | brk => exact absurd rfl hn
   | cont => exact absurd rfl hn
  | exc c as τ =>
   rw [hm] at hn hbody
   refine wpAny_mono (hbody (by simp)) (fun _ _ h => h.elim) fun e s' h => ?_
   obtain ⟨ρ', fl, st⟩ := h
   have sh := down st
   refine mH (ac := ac) (own := zY C ρ') ok.fr (L := L) (by show env.frame = _; rw [henv]; rfl) st.rel.frs fl (bo st.rel) (fun a h => ?_) (fun a h => st.live h) fun h' k1 k2 fl' k3 => ?_
   ·obtain ⟨o, ho⟩ := Option.ne_none_iff_exists'.mp h
    rw [kp _ _ (au.rel.base _ _ ho)]; simp
   obtain ⟨ea, Ta, rfl, o1, o2, o3, o4, k3⟩ := k3
   have liv : ∀ a, s.heap.get? a ≠ none → bG.get? a ≠ none := fun a h => by
    obtain ⟨o, ho⟩ := Option.ne_none_iff_exists'.mp h
    by_cases hm' : a ∈ ρ
    ·have : a ∈ aw := e1 ▸ List.mem_append_left _ hm'
     exact bo rel a (.inl this)
    ·obtain ⟨o', ho', _⟩ := au.pres a o ho hm'
     rw [kp _ _ ho']; simp
   refine ⟨_, ρ', rfl, (fl'.down fun a ha => .inl ha).before liv, ?_, sh.ext, fun x o hx hn' => ?_, sh.rest⟩
   ·refine st.rel.hp.keep fun a o ho hor => k2 a o ho (hor.elim (fun h => .inr h) fun h => .inl (.inl h)) fun hm' => ?_
    obtain ⟨e', he', hf'⟩ := List.mem_filterMap.mp hm'
    obtain ⟨_, L', o', es, n, hf'', hb', _, _⟩ := st.rel.frs e' he'
    rw [hf'] at hf''; cases hf''
    rcases hor with h | h
    ·exact h hb'
    ·exact (st.rel.frn e' he' a hf').1 h
   ·obtain ⟨o', ho', hs⟩ := sh.pres x o hx hn'
    have hl := liv x (by rw [hx]; simp)
    obtain ⟨o'', ho'', hs'⟩ := k3 x o' ho' (by rintro rfl; exact hl o3) (by rintro rfl; exact hl o4)
    exact ⟨o'', ho'', hs.trans hs'⟩
  | bad => rw [hm] at hn; exact absurd rfl hn
theorem nD (T : yN ac mg mb) {fa : Addr} {fd : FuncData} {body : List Stmt} {params others : List Str} {mk : List Value → Args} {bnd : List V → List O → Option (List V × List O)} {m : St → zZ F} {k : Nat} (F : wU ac fa fd body)
  (hbind : oC prog w ac fd params mk bnd) (hnd : (params ++ others).Nodup) (hloc : ∀ x ∈ params ++ others, fd.scope.names.lookup x = some .local)
  (hb : ∀ C : Cx, C.Ok → C.env.scope = fd.scope → C.vars = (params ++ others).zipIdx → C.cells = [] → C.A.handled = none → C.k = k → fY prog w ac C m body) :
  dy prog w ac (k + 1) (.ref fa) mk (dh (params ++ others).length bnd m) :=
 i6 (cells := []) T F hbind hnd hloc (fun x h => nomatch h) .nil (fun x h => nomatch h) fun C ok hsc hv ⟨_, hc⟩ hh hk => hb C ok hsc hv hc hh hk
end
noncomputable def fP : List V → Option (List Int)
 | [] => some []
 | v :: vs => (zO v).bind fun i => (fP vs).map (i :: ·)
section
variable {prog : Program} {w : World} {ac : Heap} {C : Cx} {mg mb : Str → Option Value} {ρ : List Addr} {σ : St} {s : Shared}
theorem iC : ∀ {vs : List V} {xs : List Value} {ns : List Int}, bL ρ vs xs → fP vs = some ns → IntsAre xs ns
 | [], _, _, h, e => by cases h; cases e; exact .nil
 | v :: vs, _, ns, ⟨x, r, e, hv, hr⟩, h => by
  subst e
  obtain ⟨i, hi, h⟩ := Option.bind_eq_some_iff.mp h
  obtain ⟨ns', h', rfl⟩ := Option.map_eq_some_iff.mp h
  cases bR uM hi
  obtain ⟨t, rfl⟩ := hv
  exact .cons i t (iC hr h')
noncomputable def iU (vs : List V) (σ : St) : zZ V := g1 vs fun v => cond (bH v σ.heap) (gS v fun x => if (x.length : Int) < 2 ^ 63 then .ok (.int x.length) σ else .bad) (cond (aO v σ.heap) (gl v σ.heap fun _ xs => if (xs.length : Int) < 2 ^ 63 then .ok (.int xs.length) σ else .bad) (gt v σ.heap fun _ xs => if (xs.length : Int) < 2 ^ 63 then .ok (.int xs.length) σ else .bad))
theorem dH : cR prog w ac C (.builtin "len") av iU := fun ρ σ s vs xs r ha => by
 refine dw (t := fun xs => call (.builtin "len") xs) ha fun v x hv => bw (dB (t := fun x => call (.builtin "len") [x]) hv fun y t => a8 fun h _ => len_str (by lia) (zx ⟨_, rfl⟩ (r.toks _)))
  (bw (fD (t := fun x => call (.builtin "len") [x]) r.hp hv fun l a ys vs n _ _ h1 hv => a8 fun h _ => ?_) (t6 (t := fun x => call (.builtin "len") [x]) r.hp hv fun l a ys vs n _ _ h1 hv => a8 fun h _ => ?_)) <;> rw [← hv.length] at h ⊢
 ·exact call_len_list (items := vs.toArray) ⟨_, h1, rfl, n, rfl⟩ h (zx ⟨s.toks + 1, rfl⟩ (r.toks _))
 ·exact len_tuple (items := vs.toArray) ⟨_, h1, rfl, n, rfl⟩ h (zx ⟨s.toks + 1, rfl⟩ (r.toks _))
noncomputable def ek (vs : List V) (σ : St) : zZ V := gc vs fun a as => gI a fun a => cond as.isEmpty (g0 as (.ok (.ref σ.heap.length) { σ with heap := σ.heap ++ [.range 0 a 1] })) (g2 as fun b c => gI b fun b => gI c fun c => if c ≠ 0 ∧ Builtin.divisionGoesByPylong (b - a) c = false then .ok (.ref σ.heap.length) { σ with heap := σ.heap ++ [.range a b c] } else .bad)
theorem cT : cR prog w ac C (.type "range") av ek := fun ρ σ s vs xs r ha =>
 rH (t := fun xs => call (.type "range") xs) ha fun v vs x xs hv ha => fg (t := fun x => call (.type "range") (x :: xs)) hv fun i t =>
  bw (jY (t := fun xs => call (.type "range") (.int i t :: xs)) ha fun _ => call_range_1 (zx (ρ' := ρ ++ [s.heap.objs.size]) ⟨_, bv r.hp _, rfl⟩ (r.alloc rfl ⟨_, _, _, rfl⟩)))
   (yB (t := fun xs => call (.type "range") (.int i t :: xs)) ha fun v u x y hv hu => fg (t := fun x => call (.type "range") [.int i t, x, y]) hv fun j t' => fg (t := fun y => call (.type "range") [.int i t, .int j t', y]) hu fun k t'' => a8 fun h _ =>
    call_range_3 h.1 (zx (ρ' := ρ ++ [s.heap.objs.size]) ⟨_, bv r.hp _, rfl⟩ (r.alloc rfl ⟨_, _, _, rfl⟩)) (.inl h.2))
noncomputable def zc (vs : List V) (σ : St) : zZ V := g1 vs fun v => gI v fun i => if 0 ≤ i ∧ i ≤ 0x10FFFF then .ok (.str ⟨#[i.toNat]⟩) σ else .bad
theorem u7 : cR prog w ac C (.builtin "chr") av zc := fun ρ σ s vs xs r ha =>
 dw (t := fun xs => call (.builtin "chr") xs) ha fun v x hv => fg (t := fun x => call (.builtin "chr") [x]) hv fun i t => a8 fun h _ =>
  P.chr_of_int (by rw [Bool.or_eq_false_iff]; exact ⟨decide_eq_false (Int.not_lt.mpr h.1), decide_eq_false (Int.not_lt.mpr h.2)⟩) (zx ⟨_, rfl⟩ (r.toks _))
noncomputable def xZ (vs : List V) (σ : St) : zZ V := g1 vs fun v => gS v fun x => gO x.cps[0]? fun c => if x = ⟨#[c]⟩ then .ok (.int c) σ else .bad
theorem p8 : cR prog w ac C (.builtin "ord") av xZ := fun ρ σ s vs xs r ha =>
 dw (t := fun xs => call (.builtin "ord") xs) ha fun v x hv => dB (t := fun x => call (.builtin "ord") [x]) hv fun y t => bA fun c _ => a8 fun h _ => by
  subst h; exact P.ord_of_char (zx ⟨_, rfl⟩ (r.toks _))
noncomputable def iL (vs : List V) (σ : St) : zZ V := g1 vs fun v => gl v σ.heap fun _ xs => gO (fP xs) fun ns => if ns.all (fun n => decide (0 ≤ n ∧ n < 256)) ∧ xs.length ≤ sizeLine then .ok (.bytes (byteArr ns)) σ else .bad
theorem eJ (hh : C.A.handled = none) : cR prog w ac C (.type "bytes") av iL := fun ρ σ s vs xs r ha =>
 dw (t := fun xs => call (.type "bytes") xs) ha fun v x hv => fD (t := fun x => call (.type "bytes") [x]) r.hp hv fun l a ys vs n _ _ h1 hv => bA fun ns hi => a8 fun h _ =>
  call_bytes_ints (vs := vs) ⟨_, h1, rfl, n, rfl⟩ (iC hv hi) (fun n hn => of_decide_eq_true (List.all_eq_true.mp h.1 n hn)) (by rw [hv.length]; exact h.2) hh fun h' t k hk => zx ⟨t, rfl⟩ (r.keep hk ⟨rfl, rfl, rfl⟩)
noncomputable def za (vs : List V) (σ : St) : zZ V := g1 vs fun v => gS v fun x => gO (PySem.intText? x) fun n => if x.length ≤ 640 then .ok (.int n) σ else .bad
theorem u5 : cR prog w ac C (.type "int") av za := fun ρ σ s vs xs r ha =>
 dw (t := fun xs => call (.type "int") xs) ha fun v x hv => dB (t := fun x => call (.type "int") [x]) hv fun y t => bA fun n q => a8 fun h _ =>
  KIN.call_text q h (zx ⟨_, rfl⟩ (r.toks _))
end
section
variable {prog : Program} {w : World} {ac : Heap} {C : Cx} {mg mb : Str → Option Value} {ρ : List Addr} {σ : St} {s : Shared}
noncomputable def nj (vs : List V) (σ : St) : zZ V := g1 vs fun v => gl v σ.heap fun _ xs => if xs.length ≤ sizeLine then .ok (.ref σ.heap.length) { σ with heap := σ.heap ++ [.tup xs] } else .bad
theorem pZ : cR prog w ac C (.type "tuple") av nj := fun ρ σ s vs xs r ha =>
 dw (t := fun xs => call (.type "tuple") xs) ha fun v x hv => fD (t := fun x => call (.type "tuple") [x]) r.hp hv fun l a ys vs n _ _ h1 hv => a8 fun h _ =>
  call_tuple_list (items := vs.toArray) ⟨_, h1, rfl, n, rfl⟩ (fun h' hk =>
   have st := r.keep (s' := { s with heap := h' }) hk ⟨rfl, rfl, rfl⟩
   zx (ρ' := ρ ++ [h'.objs.size]) ⟨_, bv st.rel.hp _, rfl⟩ (st.trans (st.rel.alloc (t := s.toks) rfl ⟨vs, 0, rfl, hv.mono⟩))) (show vs.length ≤ sizeLine from hv.length ▸ h)
noncomputable def rZ (vs : List V) (σ : St) : zZ V := g1 vs fun v => cond (asY v).isSome (gY v fun _ => .ok (.type "bytes") σ) (cond (asB v).isSome (gB v fun _ => .ok (.type "bool") σ) (gS v fun _ => .ok (.type "str") σ))
theorem jy : cR prog w ac C (.type "type") av rZ := fun ρ σ s vs xs r ha =>
 dw (t := fun xs => call (.type "type") xs) ha fun v x hv => bw (wJ (t := fun x => call (.type "type") [x]) hv fun _ t _ => call_type_of (typeIs_bytes s _ t) (by decide) (zx rfl (.refl r)))
  (bw (at_gB (t := fun x => call (.type "type") [x]) hv fun _ _ => call_type_of (PySem.typeIs_bool s _) (by decide) (zx rfl (.refl r))) (dB (t := fun x => call (.type "type") [x]) hv fun _ t _ => call_type_of (typeIs_str s _ t) (by decide) (zx rfl (.refl r))))
noncomputable def isiF (vs : List V) (σ : St) : zZ V := g2 vs fun a b => gS a fun _ => gT b fun n => if n = "str" then .ok (.bool true) σ else .bad
theorem u4 : cR prog w ac C (.builtin "isinstance") av isiF := fun ρ σ s vs xs r ha =>
 yB (t := fun xs => call (.builtin "isinstance") xs) ha fun v u x y hv hu => dB (t := fun x => call (.builtin "isinstance") [x, y]) hv fun a t => wK (t := fun y => call (.builtin "isinstance") [.str a t, y]) hu fun n => a8 fun h _ => by
  subst h; exact IsiPair.str_str (zx rfl (.refl r))
noncomputable def nt (vs : List V) (σ : St) : zZ V := g1 vs fun v => gI v fun i => if i.natAbs.log2 < 1920 then .ok (.str (PySem.Str.ofString (toString i))) σ else .bad
theorem gg : cR prog w ac C (.type "str") av nt := fun ρ σ s vs xs r ha =>
 dw (t := fun xs => call (.type "str") xs) ha fun v x hv => fg (t := fun x => call (.type "str") [x]) hv fun i t => a8 fun h _ => P.str_of_int h (zx ⟨_, rfl⟩ (r.toks _))
noncomputable def wB (vs : List V) (σ : St) : zZ V := g1 vs fun v => gl v σ.heap fun _ xs => if (xs.length : Int) < 2 ^ 63 then .ok (.bool (!xs.isEmpty)) σ else .bad
noncomputable def tB (vs : List V) (σ : St) : zZ V := gc vs fun v as => cond as.isEmpty (g0 as (gl v σ.heap fun _ xs => gO (fP xs) fun is => gO is.head? fun n => .ok (.int (is.tail.foldl (fun a b => if b > a then b else a) n)) σ)) (g1 as fun u => gI v fun a => gI u fun b => .ok (.int (if b > a then b else a)) σ)
noncomputable def sumF (vs : List V) (σ : St) : zZ V := g1 vs fun v => gl v σ.heap fun _ xs => gO (fP xs) fun ns => if ns.all (fun n => decide (0 ≤ n ∧ n < 2 ^ 40)) ∧ ns.length ≤ 1000 then .ok (.int ns.sum) σ else .bad
theorem jm {xs : List Value} {ns : List Int} (h : IntsAre xs ns) : ∃ ps : List (Int × Tok), xs.toArray = intItems ps.toArray ∧ ps.map (·.1) = ns := by
 induction h with
 | nil => exact ⟨[], by simp [intItems], rfl⟩
 | cons n t h ih =>
  obtain ⟨ps, e1, e2⟩ := ih
  refine ⟨(n, t) :: ps, ?_, congrArg (n :: ·) e2⟩
  unfold intItems at e1 ⊢
  simp at e1 ⊢
  exact e1
theorem iw {ps : List (Int × Tok)} {i : Nat} : numAt ps.toArray i = ((ps.map (·.1))[i]?).getD 0 := by
 unfold numAt; simp
theorem ip {f : Nat → Int} {ns : List Int} (h : ∀ i, i < ns.length → f i = (ns[i]?).getD 0) : ∀ k, k ≤ ns.length → preSum f k = (ns.take k).sum
 | 0, _ => by simp [preSum]
 | k + 1, hk => by
  rw [preSum, ip h k (by lia), List.take_add_one, List.sum_append, h k (by lia)]
  rw [List.getElem?_eq_getElem (by lia)]
  simp
theorem kg : ∀ (ns : List Int), (∀ n ∈ ns, 0 ≤ n ∧ n < 2 ^ 40) → 0 ≤ ns.sum ∧ ns.sum ≤ ns.length * 2 ^ 40
 | [], _ => by simp
 | n :: ns, h => by
  have h1 := h n List.mem_cons_self
  have h2 := kg ns fun m hm => h m (List.mem_cons_of_mem _ hm)
  rw [List.sum_cons, List.length_cons]
  push_cast
  lia
theorem xf {n S : Int} {k : Nat} (h : 0 ≤ n ∧ n < 2 ^ 40) (g : 0 ≤ S ∧ S ≤ k * 2 ^ 40) (hk : k ≤ 1000) : InLong n ∧ InLong S := by
 constructor <;> constructor <;> lia
theorem uZ (hh : C.A.handled = none) : cR prog w ac C (.builtin "sum") av sumF := fun ρ σ s vs xs r ha =>
 dw (t := fun xs => call (.builtin "sum") xs) ha fun v x hv => fD (t := fun x => call (.builtin "sum") [x]) r.hp hv fun l a ys vs n _ _ h1 hv => bA fun ns hi => a8 fun h _ => by
  obtain ⟨ps, e1, rfl⟩ := jm (iC hv hi)
  have hall : ∀ n ∈ ps.map (·.1), 0 ≤ n ∧ n < 2 ^ 40 := fun n hn => of_decide_eq_true (List.all_eq_true.mp h.1 n hn)
  have hlen : ps.toArray.size = (ps.map (·.1)).length := by simp
  have hps : ∀ k, k ≤ (ps.map (·.1)).length → preSum (numAt ps.toArray) k = ((ps.map (·.1)).take k).sum := ip fun i _ => iw
  refine sum_intList (xs := ps.toArray) hh ⟨_, h1, rfl, n, by rw [← e1]⟩ (fun j hj => ?_) fun h' tk t' hk => zx ⟨t', ?_⟩ (r.keep hk ⟨rfl, rfl, rfl⟩)
  ·rw [hlen] at hj
   rw [iw, List.getElem?_eq_getElem hj, hps (j + 1) hj]
   exact xf (hall _ (List.getElem_mem hj)) (kg _ fun m hm => hall m (List.mem_of_mem_take hm)) (Nat.le_trans (by rw [List.length_take]; exact Nat.min_le_right ..) h.2)
  ·rw [hlen, hps _ (Nat.le_refl _), List.take_length]
theorem gJ {f : Nat → Int} : ∀ (ns : List Int) (n : Int), (∀ i, i < (n :: ns).length → f i = ((n :: ns)[i]?).getD 0) → ∀ k, k ≤ ns.length →
  f (argBest (fun i j => decide (f i > f j)) k) = (ns.take k).foldl (fun a b => if b > a then b else a) n
 | ns, n, h, 0, _ => by rw [argBest]; simpa using h 0 (by simp)
 | ns, n, h, k + 1, hk => by
  have ih := gJ ns n h k (by lia)
  have e : f (k + 1) = (ns[k]?).getD 0 := by simpa using h (k + 1) (by simp; lia)
  rw [argBest, List.take_add_one, List.foldl_append]
  rw [List.getElem?_eq_getElem (by lia)] at e ⊢
  simp only [Option.getD_some] at e
  simp only [Option.toList_some, List.foldl_cons, List.foldl_nil]
  rw [← ih]
  by_cases hc : f (k + 1) > f (argBest (fun i j => decide (f i > f j)) k)
  ·rw [if_pos (decide_eq_true hc), e, if_pos (by rw [← e]; exact hc)]
  ·rw [if_neg (by simpa using hc), if_neg (by rw [← e]; exact hc)]
theorem qb (hh : C.A.handled = none) : cR prog w ac C (.builtin "max") av tB := fun ρ σ s vs xs r ha =>
 rH (t := fun xs => call (.builtin "max") xs) ha fun v vs x xs hv ha => bw (jY (t := fun xs => call (.builtin "max") (x :: xs)) ha (fD (t := fun x => call (.builtin "max") [x]) r.hp hv fun l a ys vs n _ _ h1 hv => bA fun ns hi => bA fun m hm _ => by
   obtain ⟨ps, e1, rfl⟩ := jm (iC hv hi)
   cases ps with
   | nil => cases hm
   | cons p ps =>
    cases hm
    refine max_intList (xs := (p :: ps).toArray) hh ⟨_, h1, rfl, n, by rw [← e1]⟩ (Nat.succ_pos _) fun v h' tk hv' hk => zx ?_ (r.keep hk ⟨rfl, rfl, rfl⟩)
    obtain ⟨t, rfl⟩ := intItems_at hv'
    have := gJ (f := numAt (p :: ps).toArray) (ps.map (·.1)) p.1 (fun i _ => iw) (ps.map (·.1)).length (Nat.le_refl _)
    rw [List.take_length, List.length_map] at this
    exact ⟨t, congrArg (Value.int · t) this⟩))
  (dw (t := fun xs => call (.builtin "max") (x :: xs)) ha fun u y hu => fg (t := fun x => call (.builtin "max") [x, y]) hv fun a t => fg (t := fun y => call (.builtin "max") [.int a t, y]) hu fun b t' _ => by
   refine max_two_ints hh fun h' tk hk => zx ?_ (r.keep hk ⟨rfl, rfl, rfl⟩)
   by_cases hc : b > a
   ·rw [if_pos hc, if_pos hc]; exact ⟨t', rfl⟩
   ·rw [if_neg hc, if_neg hc]; exact ⟨t, rfl⟩)
end
section
variable {prog : Program} {w : World} {ac : Heap} {C : Cx} {mg mb : Str → Option Value} {ρ : List Addr} {σ : St} {s : Shared}
theorem ij {H : List O} {v : V} {v' : Value} (r : eh prog w ac ρ H s) (hv : VR ρ v v') (hc : aO v H = true) : s.TypeIs v' "list" ∧ ∀ a, v' = .ref a → ∃ ob, s.heap.get? a = some ob ∧ ob.dict = none := by
 obtain ⟨l, o, e, q, i, ho⟩ := q9 zN hc; clear hc
 subst e
 cases bR jt ho
 obtain ⟨a, ha, rfl⟩ := hv
 obtain ⟨ob, h1, vs, n, rfl, _⟩ := r.obj _ _ _ q ha
 exact ⟨⟨_, h1, rfl⟩, fun b e => by cases e; exact ⟨_, h1, rfl⟩⟩
theorem kN {H : List O} {v : V} {v' : Value} (r : eh prog w ac ρ H s) (hv : VR ρ v v') (hc : bP v H = true) : s.TypeIs v' "dict" ∧ ∀ a, v' = .ref a → ∃ ob, s.heap.get? a = some ob ∧ ob.dict = none := by
 obtain ⟨l, o, e, q, i, ho⟩ := q9 zQ hc; clear hc
 subst e
 cases bR rI ho
 obtain ⟨a, ha, rfl⟩ := hv
 obtain ⟨ob, h1, kvs, ⟨es', ep', i1, i2, i3⟩, hp, _⟩ := r.obj _ _ _ q ha
 exact ⟨⟨_, h1, i1.1⟩, fun b e => by cases e; exact ⟨_, h1, i1.2.1⟩⟩
theorem sw {H : List O} {v : V} {v' : Value} (r : eh prog w ac ρ H s) (hv : VR ρ v v') (hc : eu v H = true) : s.TypeIs v' "set" ∧ ∀ a, v' = .ref a → ∃ ob, s.heap.get? a = some ob ∧ ob.dict = none := by
 obtain ⟨l, o, e, q, i, ho⟩ := q9 zP hc; clear hc
 subst e
 cases bR uO ho
 obtain ⟨a, ha, rfl⟩ := hv
 obtain ⟨ob, h1, es, ep, t, i1, _⟩ := r.obj _ _ _ q ha
 exact ⟨⟨_, h1, i1.1⟩, fun b e => by cases e; exact ⟨_, h1, i1.2.1⟩⟩
theorem fM {H : List O} {v : V} {v' : Value} (hv : VR ρ v v') (hc : bH v H = true) : s.TypeIs v' "str" ∧ ∀ a, v' = .ref a → ∃ ob, s.heap.get? a = some ob ∧ ob.dict = none := by
 obtain ⟨x, hx⟩ := Option.isSome_iff_exists.mp hc
 cases bR lI hx
 obtain ⟨t, rfl⟩ := hv
 exact ⟨typeIs_str s _ t, fun b e => by cases e⟩
noncomputable def bk (v : V) (vs : List V) (σ : St) : zZ V := gO (zM v) fun l => g1 vs fun y => (c8 l y σ).bind fun _ σ' => .ok .none σ'
theorem bb : ex prog w ac C "list" "append" "list.append" aO bk where
 pa := F.plainAttrs_list
 slot := F.slot_list_append
 ty := F.type_list_append
 self := fun ρ H s v v' r hv hc => ij r hv hc
 call := fun ρ σ s v v' vs xs r hv ha => bA fun l h => dw (t := fun xs => call (.builtin "list.append") (v' :: xs)) ha fun y x hx hn => by
  cases bR iN h
  obtain ⟨a, hl, rfl⟩ := hv
  refine lH r hl hx (fun q => hn (by rw [q]; rfl)) fun σ' s' e st => ?_
  rw [e]
  exact zx rfl st
noncomputable def oU (v : V) (vs : List V) (σ : St) : zZ V := g0 vs (gl v σ.heap fun l xs => gO xs.getLast? fun y => if xs.length ≤ sizeLine then .ok y { σ with heap := σ.heap.set l (.list xs.dropLast) } else .bad)
theorem bL.dropLast : ∀ {vs : List V} {xs : List Value}, bL ρ vs xs → bL ρ vs.dropLast xs.dropLast
 | vs, xs, h => by
  rw [List.dropLast_eq_take, List.dropLast_eq_take, h.length]; exact h.take _
theorem nO : ex prog w ac C "list" "pop" "list.pop" aO oU where
 pa := F.plainAttrs_list
 slot := F.slot_list_pop
 ty := F.type_list_pop
 self := fun ρ H s v v' r hv hc => ij r hv hc
 call := fun ρ σ s v v' vs xs r hv ha => jY (t := fun xs => call (.builtin "list.pop") (v' :: xs)) ha (fD (t := fun x => call (.builtin "list.pop") [x]) r.hp hv fun l a ys vs n hl q h1 hv => bA fun y hy => a8 fun hsz _ => by
  rw [List.getLast?_eq_getElem?, ← hv.length] at hy
  obtain ⟨y', hy', vy⟩ := hv.get hy
  exact call_meets F.slot_list_pop ⟨_, h1, rfl⟩ F.entry_list_pop (F.args_list_pop_1 _) (PySem.MeetsSeq.list_pop_last a vs.toArray n y' ((List.getElem?_toArray ..).trans hy') (show vs.length ≤ sizeLine from hv.length ▸ hsz)) ⟨h1,
   zx vy (r.upd (t := s.toks) hl (Heap.SameBut.update ..) (Heap.get?_update_self _ h1 rfl) ⟨vs.dropLast, _, by simp [Obj.mapSeq]; rfl, hv.dropLast⟩)⟩)
noncomputable def n8 (v : V) (vs : List V) (σ : St) : zZ V := g0 vs (gl v σ.heap fun l xs => if xs.length ≤ sizeLine then .ok .none { σ with heap := σ.heap.set l (.list []) } else .bad)
theorem o7 : ex prog w ac C "list" "clear" "list.clear" aO n8 where
 pa := F.plainAttrs_list
 slot := F.slot_list_clear
 ty := F.type_list_clear
 self := fun ρ H s v v' r hv hc => ij r hv hc
 call := fun ρ σ s v v' vs xs r hv ha => jY (t := fun xs => call (.builtin "list.clear") (v' :: xs)) ha (fD (t := fun x => call (.builtin "list.clear") [x]) r.hp hv fun l a ys vs n hl q h1 hv => a8 fun hsz _ =>
  call_meets F.slot_list_clear ⟨_, h1, rfl⟩ F.entry_list_clear (F.args_list_clear_1 _) (AutoSeq1.list_clear_list_0 a vs.toArray n (show vs.length ≤ sizeLine from hv.length ▸ hsz)) ⟨h1,
   zx rfl (r.upd (t := s.toks) hl (Heap.SameBut.update ..) (Heap.get?_update_self _ h1 rfl) ⟨[], _, rfl, .nil⟩)⟩)
noncomputable def lw (v : V) (vs : List V) (σ : St) : zZ V := gS v fun x => gc vs fun a as => gS a fun y => cond as.isEmpty (g0 as (.ok (.int (Txt.find x y)) σ)) (g1 as fun b => gI b fun i => .ok (.int (Txt.find3 x y i)) σ)
theorem k9 : ex prog w ac C "str" "find" "str.find" bH lw where
 pa := F.plainAttrs_str
 slot := F.slot_str_find
 ty := F.type_str_find
 self := fun ρ H s v v' r hv hc => fM hv hc
 call := fun ρ σ s v v' vs xs r hv ha => dB (t := fun x => call (.builtin "str.find") (x :: xs)) hv fun x t => rH (t := fun xs => call (.builtin "str.find") (.str x t :: xs)) ha fun v vs u us hv ha => dB (t := fun u => call (.builtin "str.find") (.str x t :: u :: us)) hv fun y t' =>
  bw (jY (t := fun us => call (.builtin "str.find") (.str x t :: .str y t' :: us)) ha fun _ => SC.find (zx ⟨_, rfl⟩ (r.toks _)))
   (dw (t := fun us => call (.builtin "str.find") (.str x t :: .str y t' :: us)) ha fun v u hv => fg (t := fun u => call (.builtin "str.find") [.str x t, .str y t', u]) hv fun i k _ => SC.find3 (zx ⟨_, rfl⟩ (r.toks _)))
noncomputable def nV (v : V) (vs : List V) (σ : St) : zZ V := g0 vs (gS v fun x => .ok (.bool (Txt.isascii x)) σ)
theorem kZ : ex prog w ac C "str" "isascii" "str.isascii" bH nV where
 pa := F.plainAttrs_str
 slot := F.slot_str_isascii
 ty := F.type_str_isascii
 self := fun ρ H s v v' r hv hc => fM hv hc
 call := fun ρ σ s v v' vs xs r hv ha => jY (t := fun xs => call (.builtin "str.isascii") (v' :: xs)) ha (dB (t := fun x => call (.builtin "str.isascii") [x]) hv fun x t _ => SC.isascii (zx rfl (.refl r)))
noncomputable def hX (v : V) (vs : List V) (σ : St) : zZ V := g0 vs (gd v σ.heap fun l _ _ => .ok (.ref σ.heap.length) { σ with heap := σ.heap ++ [.dvals l] })
theorem my : ex prog w ac C "dict" "values" "dict.values" bP hX where
 pa := F.plainAttrs_dict
 slot := F.slot_dict_values
 ty := F.type_dict_values
 self := fun ρ H s v v' r hv hc => kN r hv hc
 call := fun ρ σ s v v' vs xs r hv ha => jY (t := fun xs => call (.builtin "dict.values") (v' :: xs)) ha (rG (t := fun x => call (.builtin "dict.values") [x]) hv fun l a es ep hl q _ => by
  obtain ⟨kvs, hd, hp⟩ := dK r.hp q hl
  exact call_meetsIn F.slot_dict_values hd.dictOf.typeIs F.entry_dict_values (F.args_dict_values_1 _) (meets_dict_values (intKind prog w) a (beq_eq_false_iff_ne.mpr (r.hp.sys _ _ _ _ q hl))) ⟨⟨kvs, hd.dictOf⟩,
   zx (ρ' := ρ ++ [s.heap.objs.size]) ⟨_, bv r.hp _, rfl⟩ (r.alloc (t := s.toks) rfl ⟨a, cq hl, rfl⟩)⟩)
noncomputable def gy (v : V) (vs : List V) (σ : St) : zZ V := g1 vs fun k => gI k fun k => gd v σ.heap fun _ es _ => .ok ((es.lookup k).getD .none) σ
theorem nP : ex prog w ac C "dict" "get" "dict.get" bP gy where
 pa := F.plainAttrs_dict
 slot := F.slot_dict_get
 ty := F.type_dict_get
 self := fun ρ H s v v' r hv hc => kN r hv hc
 call := fun ρ σ s v v' vs xs r hv ha => dw (t := fun xs => call (.builtin "dict.get") (v' :: xs)) ha fun k x hk => fg (t := fun x => call (.builtin "dict.get") [v', x]) hk fun k u => rG (t := fun x => call (.builtin "dict.get") [x, .int k u]) hv fun l a es ep hl q _ => by
  obtain ⟨kvs, hd, hp⟩ := dK r.hp q hl
  refine call_meetsIn F.slot_dict_get hd.dictOf.typeIs F.entry_dict_get (F.args_dict_get_2 _ _) (meets_dict_get (intKind prog w) a (intKind_is _ _ k u) (beq_eq_false_iff_ne.mpr (r.hp.sys _ _ _ _ q hl))) ⟨_, hd.dictOf.mapOf, ?_⟩
  have hvk := pairs_at hp k
  revert hvk
  cases es.lookup k with
  | none => intro hvk; rw [hvk]; exact zx rfl (r.toks _)
  | some v => intro ⟨y, hy, hvy⟩; rw [hy]; exact zx hvy (r.toks _)
end
noncomputable def lz (kvs : List (Int × Value)) (k : Int) (ep : Nat) : Nat := if kvs.any (fun kv => kv.1 = k) then ep else ep + 1
section
variable {prog : Program} {w : World} {A : Around} {E : Value → Shared → Prop} {s : Shared}
structure zU (prog : Program) (w : World) (h : Heap) (d : Addr) (kvs : List (Int × Value)) (ep : Nat) (o : Obj) (es : List DictEntry) : Prop where
 lies : h.get? d = some o
 cls : o.ExactDict
 dat : o.data = .dict es.toArray ep
 keys : KeysOf (intKind prog w) es.toArray
 prs : Pairs (intKind prog w) es kvs
 nod : (kvs.map (·.1)).Nodup
variable {h : Heap} {d : Addr} {kvs : List (Int × Value)} {ep i : Nat} {o : Obj} {es : List DictEntry} {k : Int} {t : Tok} {v : Value}
theorem tab_of (hm : h.DictAt (intKind prog w) d kvs ep) : ∃ o es, zU prog w h d kvs ep o es :=
 match hm with
 | ⟨o, es, a, b, c, e, f, g⟩ => ⟨o, es.toList, a, b, c, e, f, g⟩
theorem zU.size (T : zU prog w h d kvs ep o es) (hsz : kvs.length ≤ sizeLine) : es.toArray.size ≤ sizeLine := by
 rw [List.size_toArray, T.prs.length]; exact hsz
theorem zU.there (T : zU prog w h d kvs ep o es) (k : Int) : (es.toArray.findIdx? fun e => (intKind prog w).is k e.key) = kvs.findIdx? fun kv => decide (kv.1 = k) :=
 (List.findIdx?_toArray ..).trans (T.prs.findIdx k)
theorem zU.old (T : zU prog w h d kvs ep o es) (q : (kvs.findIdx? fun kv => decide (kv.1 = k)) = some i) (v : Value) : (h.update d (Obj.mapDict (·.modify i fun e => { e with val := v }))).DictAt (intKind prog w) d (stored kvs k v) (lz kvs k ep) := by
 have y := any_of_findIdx_some q
 unfold stored lz
 rw [if_pos y, if_pos y]
 refine ⟨Obj.mapDict _ o, es.toArray.modify i _, Heap.get?_update_self _ T.lies (Obj.isFreed_of_dict (Obj.data_mapDict T.dat _)), T.cls.mapDict _, Obj.data_mapDict T.dat _, T.keys.modify _ _, ?_, (keys_map_store kvs k v).symm ▸ T.nod⟩
 rw [List.modify_toArray]
 exact T.prs.modify T.nod ((T.prs.findIdx k).trans q) v
theorem zU.new (T : zU prog w h d kvs ep o es) (q : (kvs.findIdx? fun kv => decide (kv.1 = k)) = none) (t : Tok) (v : Value) : (h.update d (Obj.mapDictKeys (·.push ⟨(intKind prog w).hash k, .int k t, v⟩))).DictAt (intKind prog w) d (stored kvs k v) (lz kvs k ep) := by
 have off := not_mem_of_findIdx_none q
 have y : ¬ (kvs.any fun kv => decide (kv.1 = k)) = true := fun y => by
  obtain ⟨p, hp, e⟩ := List.any_eq_true.mp y
  exact off (of_decide_eq_true e ▸ List.mem_map_of_mem hp)
 unfold stored lz
 rw [if_neg y, if_neg y]
 refine ⟨Obj.mapDictKeys _ o, es.toArray.push _, Heap.get?_update_self _ T.lies (Obj.isFreed_of_dict (Obj.data_mapDictKeys T.dat _)), T.cls.mapDictKeys _, Obj.data_mapDictKeys T.dat _, T.keys.push (intKind_is prog w k t) _, ?_, ?_⟩
 ·rw [List.push_toArray]
  exact T.prs.append (intKind_is prog w k t) _ v
 ·rw [List.map_append, List.nodup_append]
  exact ⟨T.nod, List.pairwise_singleton .., fun x hx z hz e => off ((e.trans (List.mem_singleton.mp hz : z = k)) ▸ hx)⟩
theorem oM {Q : Unit → Shared → Prop} (hm : s.heap.DictAt (intKind prog w) d kvs ep)
  (hQ : ∀ h', h'.DictAt (intKind prog w) d (stored kvs k v) (lz kvs k ep) → Heap.SameBut d s.heap h' → Q () { s with heap := h', toks := s.toks + 1 }) (hsz : kvs.length ≤ sizeLine) :
  wpAny (model prog w) A (setItem (.ref d) (.int k t) v) Q E s := by
 have ty := hm.dictOf.typeIs
 obtain ⟨o, es, T⟩ := tab_of hm
 have put : ∀ {A : Around} {Q : Unit → Shared → Prop} {E : Value → Shared → Prop}, (∀ h', h'.DictAt (intKind prog w) d (stored kvs k v) (lz kvs k ep) → Heap.SameBut d s.heap h' → Q () { s with heap := h', toks := s.toks + 1 }) → wpAny (model prog w) A (dictSet d (.int k t) v) Q E s := fun {A Q E} hQ => by
  unfold dictSet dictSetHashed
  refine wpAny_holding (wpAny_bind ((intKind prog w).pyHash (intKind_is prog w k t) (wpAny_holding (wpAny_bind (wpAny_dictFind_of (s := { s with toks := s.toks + 1 }) (intKind_is prog w k t) T.lies T.dat T.keys ?_)))))
  have th := T.there k
  generalize es.toArray.findIdx? (fun e => (intKind prog w).is k e.key) = r at th ⊢
  rcases r with _ | i
  ·refine wpAny_bind (wpAny_rule ?_)
   exact wpAny_updateDictKeys (s := { s with toks := s.toks + 1 }) T.lies T.dat (hQ _ (T.new th.symm t v) (Heap.SameBut.update ..)) (T.size hsz)
  ·refine wpAny_bind (wpAny_rule ?_)
   exact wpAny_bind (wpAny_updateDict (s := { s with toks := s.toks + 1 }) T.lies T.dat (wpAny_point (hQ _ (T.old th.symm v) (Heap.SameBut.update ..))))
 unfold setItem
 refine wpAny_holding (wpAny_bind (wpAny_sequenceKey ty (by decide) (wpAny_bind (wpAny_callSpecial?_slot (name := PySem.Str.ofString "__setitem__") ty slot_dict_setitem (wpAny_call_entry slot_dict_setitem ty entry_dict_setitem (wpAny_bind (m := Builtin.Dict.notOrdered _ _) (wpAny_notOrdered_dict ty (wpAny_bind (m := dictSet _ _ _) (put fun h' a b => ?_)))) (args_dict_setitem _ _ _))))))
 exact wpAny_pure ⟨.none, rfl, wpAny_pure (hQ h' a b)⟩
end
section
variable {prog : Program} {w : World} {A : Around} {E : Value → Shared → Prop} {s : Shared}
variable {h : Heap} {d : Addr} {kvs : List (Int × Value)} {ep i : Nat} {o : Obj} {es : List DictEntry} {k : Int} {t : Tok}
theorem zU.gone (T : zU prog w h d kvs ep o es) (q : (kvs.findIdx? fun kv => decide (kv.1 = k)) = some i) : (h.update d (Obj.mapDictKeys (·.eraseIdxIfInBounds i))).DictAt (intKind prog w) d (without kvs k) (ep + 1) := by
 refine ⟨Obj.mapDictKeys _ o, es.toArray.eraseIdxIfInBounds i, Heap.get?_update_self _ T.lies (Obj.isFreed_of_dict (Obj.data_mapDictKeys T.dat _)), T.cls.mapDictKeys _, Obj.data_mapDictKeys T.dat _, T.keys.erase _, ?_, nodup_without T.nod k⟩
 rw [show (es.toArray.eraseIdxIfInBounds i).toList = es.eraseIdx i by simp]
 exact T.prs.erase T.nod ((T.prs.findIdx k).trans q)
theorem ln (hv : (valueAt kvs k).isSome = true) : ∃ i, (kvs.findIdx? fun kv => decide (kv.1 = k)) = some i := by
 refine Option.isSome_iff_exists.mp ?_
 rw [List.findIdx?_isSome, ← List.isSome_find?]
 unfold valueAt at hv
 rwa [Option.isSome_map] at hv
theorem delItem_at {Q : Unit → Shared → Prop} (hm : s.heap.DictAt (intKind prog w) d kvs ep) (hthere : (valueAt kvs k).isSome = true)
  (hQ : ∀ h', h'.DictAt (intKind prog w) d (without kvs k) (ep + 1) → Heap.SameBut d s.heap h' → Q () { s with heap := h', toks := s.toks + 1 }) (hsz : kvs.length ≤ sizeLine) :
  wpAny (model prog w) A (delItem (.ref d) (.int k t)) Q E s := by
 have ty := hm.dictOf.typeIs
 obtain ⟨o, es, T⟩ := tab_of hm
 obtain ⟨i, q⟩ := ln hthere
 obtain ⟨e, he, -⟩ := T.prs.at ((T.prs.findIdx k).trans q)
 unfold delItem
 refine wpAny_holding (wpAny_bind (wpAny_sequenceKey ty (by decide) (wpAny_bind (wpAny_callSpecial?_slot (name := PySem.Str.ofString "__delitem__") ty F.slot_dict_delitem (wpAny_call_entry F.slot_dict_delitem ty F.entry_dict_delitem ?_ (F.args_dict_delitem_2 _ _))))))
 unfold Builtin.«dict.__delitem__» Builtin.Dict.dictSlotArgs
 refine wpAny_bind (wpAny_bind (wpAny_notOrdered_dict ty (wpAny_pure (a := (Value.ref d, Value.int k t)) (wpAny_bind (m := Builtin.Dict.takeOut _ _) ?_))))
 unfold Builtin.Dict.takeOut
 refine wpAny_holding (wpAny_bind ((intKind prog w).pyHash (intKind_is prog w k t) (wpAny_bind (wpAny_dictFind_of (s := { s with toks := s.toks + 1 }) (intKind_is prog w k t) T.lies T.dat T.keys ?_))))
 rw [(T.there k).trans q]
 refine wpAny_bind (wpAny_dictEntries (s := { s with toks := s.toks + 1 }) T.lies T.dat ?_)
 rw [List.getElem?_toArray, he]
 exact wpAny_bind (wpAny_updateDictKeys (s := { s with toks := s.toks + 1 }) T.lies T.dat (wpAny_pure (wpAny_bind (wpAny_letGo (wpAny_pure ⟨.none, rfl, wpAny_pure (hQ _ (T.gone q) (Heap.SameBut.update ..))⟩)))) (T.size hsz))
end
noncomputable def ly (es : List (Int × V)) (k : Int) (v : V) : List (Int × V) := if es.any (fun p => p.1 = k) then es.map (fun p => if p.1 = k then (p.1, v) else p) else es ++ [(k, v)]
noncomputable def rq (es : List (Int × V)) (k : Int) : List (Int × V) := es.filter fun p => decide (p.1 ≠ k)
section
variable {prog : Program} {w : World} {ac : Heap} {C : Cx} {mg mb : Str → Option Value} {ρ : List Addr} {σ : St} {s : Shared}
theorem iv (f : Int → Bool) : ∀ {es : List (Int × V)} {kvs : List (Int × Value)}, cF ρ es kvs → kvs.any (fun p => f p.1) = es.any fun p => f p.1
 | [], _, h => by cases h; rfl
 | (k, v) :: es, _, ⟨x, r, e, h, q⟩ => by subst e; simp [iv f q]
theorem iq {k : Int} {v : V} {v' : Value} (hv : VR ρ v v') : ∀ {es : List (Int × V)} {kvs : List (Int × Value)}, cF ρ es kvs → cF ρ (es.map fun p => if p.1 = k then (p.1, v) else p) (kvs.map fun p => if p.1 = k then (p.1, v') else p)
 | [], _, h => by cases h; exact rfl
 | (k0, v0) :: es, _, ⟨x, r, e, h, q⟩ => by
  subst e
  by_cases hk : k0 = k
  ·simp only [List.map_cons, hk, if_true]; exact ⟨_, _, rfl, hv, iq hv q⟩
  ·simp only [List.map_cons, hk, if_false]; exact ⟨_, _, rfl, h, iq hv q⟩
theorem jd {k : Int} {v : V} {v' : Value} (hv : VR ρ v v') : ∀ {es : List (Int × V)} {kvs : List (Int × Value)}, cF ρ es kvs → cF ρ (es ++ [(k, v)]) (kvs ++ [(k, v')])
 | [], _, h => by cases h; exact ⟨_, _, rfl, hv, rfl⟩
 | (k0, v0) :: es, _, ⟨x, r, e, h, q⟩ => by subst e; exact ⟨_, _, rfl, h, jd hv q⟩
theorem qI {k : Int} {v : V} {v' : Value} (hv : VR ρ v v') {es : List (Int × V)} {kvs : List (Int × Value)} (h : cF ρ es kvs) : cF ρ (ly es k v) (stored kvs k v') := by
 unfold ly stored
 rw [iv (fun i => decide (i = k)) h]
 split
 ·exact iq hv h
 ·exact jd hv h
theorem iu {k : Int} : ∀ {es : List (Int × V)} {kvs : List (Int × Value)}, cF ρ es kvs → cF ρ (rq es k) (without kvs k)
 | [], _, h => by cases h; exact rfl
 | (k0, v0) :: es, _, ⟨x, r, e, h, q⟩ => by
  subst e
  unfold rq without
  rw [List.filter_cons, List.filter_cons]
  by_cases hk : decide (k0 ≠ k) = true
  ·rw [if_pos hk, if_pos hk]; exact ⟨_, _, rfl, h, iu q⟩
  ·rw [if_neg hk, if_neg hk]; exact iu q
theorem nL {h : Heap} {d : Addr} {kvs : List (Int × Value)} {ep : Nat} {es : List (Int × V)} (hm : h.DictAt (intKind prog w) d kvs ep) (hp : cF ρ es kvs) : ∃ ob, h.get? d = some ob ∧ z4 prog w ρ (.dict es ep) ob := by
 obtain ⟨o, es', ho, hc, hd, r⟩ := hm
 exact ⟨o, ho, kvs, ⟨es', ep, hc, hd, r⟩, hp, es', hd⟩
noncomputable def wZ (o i v : V) (σ : St) : zZ Unit := gI i fun k => cond (aO o σ.heap) (gl o σ.heap fun l xs => if 0 ≤ k ∧ k < xs.length ∧ k < 2 ^ 63 then .ok () { σ with heap := σ.heap.set l (.list (xs.set k.toNat v)) } else .bad) (gd o σ.heap fun l es ep => if es.length ≤ sizeLine then .ok () { σ with heap := σ.heap.set l (.dict (ly es k v) (if es.any (fun p => p.1 = k) then ep else ep + 1)) } else .bad)
theorem qu {l : Nat} {xs : List V} {k : Int} {v : V} {σ : St} (h : σ.heap[l]? = some (.list xs)) : wZ (.ref l) (.int k) v σ = if 0 ≤ k ∧ k < xs.length ∧ k < 2 ^ 63 then .ok () { σ with heap := σ.heap.set l (.list (xs.set k.toNat v)) } else .bad := by
 show cond (zC zN _ _) _ _ = _
 rw [dQ h]; exact iF (k := fun l o => gO (zN o) fun xs => if 0 ≤ k ∧ k < xs.length ∧ k < 2 ^ 63 then .ok () { σ with heap := σ.heap.set l (.list (xs.set k.toNat v)) } else .bad) h
theorem kL {l : Nat} {es : List (Int × V)} {ep : Nat} {k : Int} {v : V} {σ : St} (h : σ.heap[l]? = some (.dict es ep)) : wZ (.ref l) (.int k) v σ = if es.length ≤ sizeLine then .ok () { σ with heap := σ.heap.set l (.dict (ly es k v) (if es.any (fun p => p.1 = k) then ep else ep + 1)) } else .bad := by
 show cond (zC zN _ _) _ _ = _
 rw [dQ h]; exact iF (k := fun l o => gO (zQ o) fun p => if p.1.length ≤ sizeLine then .ok () { σ with heap := σ.heap.set l (.dict (ly p.1 k v) (if p.1.any (fun p => p.1 = k) then p.2 else p.2 + 1)) } else .bad) h
theorem wF {o i v : V} {o' i' v' : Value} (r : zX prog w ac C ρ σ s) (ho : VR ρ o o') (hi : VR ρ i i') (hv : VR ρ v v') : At prog w ac C fZ ρ σ s (wZ o i v σ) (setItem o' i' v') :=
 fg (t := fun i' => setItem o' i' v') hi fun k t => bw
  (fD (t := fun o' => setItem o' (.int k t) v') r.hp ho fun l a xs vs n hl q h1 hvs => a8 fun h _ => by
   refine ki_setAt h1 h.1 h.2.2 (show k < (vs.length : Int) from hvs.length ▸ h.2.1) ?_
   exact zx trivial (r.upd (t := s.toks) hl (Heap.SameBut.update ..) (Heap.get?_update_self _ h1 rfl) ⟨vs.set k.toNat v', _, by simp [Obj.mapSeq]; rfl, hvs.set hv⟩))
  (rG (t := fun o' => setItem o' (.int k t) v') ho fun l a es ep hl q => a8 fun hsz _ => by
   obtain ⟨kvs, hd, hp⟩ := dK r.hp q hl
   refine oM hd (fun h' hm hs => ?_) (by rw [pairs_len hp]; exact hsz)
   have e : lz kvs k ep = (if es.any (fun p => p.1 = k) then ep else ep + 1) := by
    unfold lz; rw [iv (fun i => decide (i = k)) hp]
   rw [e] at hm
   obtain ⟨ob, h1, h2⟩ := nL hm (qI (k := k) hv hp)
   exact zx trivial (r.upd hl hs h1 h2 fun _ _ _ => r.hp.sys _ _ _ _ q hl))
end
section
variable {prog : Program} {w : World} {ac : Heap} {C : Cx} {mg mb : Str → Option Value} {ρ : List Addr} {σ : St} {s : Shared}
noncomputable def pR (mo mi : St → zZ V) (v : V) (σ : St) : zZ Unit := (mo σ).bind fun o ae => (mi ae).bind fun i aq => wZ o i v aq
theorem jB {mo mi : St → zZ V} {o i : Expr} {pos : Pos} (ho : bi prog w ac C mo (eval o C.env)) (hi : bi prog w ac C mi (eval i C.env)) : j5 prog w ac C (pR mo mi) (.Subscript o i pos) := by
 intro ρ σ s a a' r ha hn
 rw [assign_Subscript]
 refine wpAny_bind (wpAny_holding ((ho.at r).next rfl hn fun b ae aw az b' _ vb au e => ?_))
 rw [e] at hn ⊢
 refine wpAny_bind (wpAny_holding ((hi.at au.rel).then au rfl hn fun c aq aK aS c' _ vc aJ st e => ?_))
 rw [e] at hn ⊢
 refine wpAny_bind (wpAny_standAt (wpAny_bind (wpAny_holding (wpAny_mono ((wF st.rel (aJ.vr vb) vc (aJ.vr (au.vr ha))).trans st hn) (fun _ s' h => wpAny_release h) fun _ _ h => h))))
noncomputable def yZ (o i : V) (σ : St) : zZ Unit := match o, i with
 | .ref l, .int k => match σ.heap[l]? with
  | some (.dict es ep) => if es.length ≤ sizeLine ∧ (es.lookup k).isSome then .ok () { σ with heap := σ.heap.set l (.dict (rq es k) (ep + 1)) } else .bad
  | _ => .bad
 | _, _ => .bad
theorem wL {o i : V} {o' i' : Value} (r : zX prog w ac C ρ σ s) (ho : VR ρ o o') (hi : VR ρ i i') : At prog w ac C fZ ρ σ s (yZ o i σ) (delItem o' i') := by
 intro hn
 unfold yZ at hn ⊢
 split at hn
 ·rename_i l k
  obtain ⟨a, hl, rfl⟩ := ho
  obtain ⟨t, rfl⟩ := hi
  split at hn
  ·rename_i es ep q
   obtain ⟨kvs, hd, hp⟩ := dK r.hp q hl
   split at hn
   ·rename_i h; rw [if_pos h]
    have hvk := pairs_at hp k
    have hth : (valueAt kvs k).isSome = true := by
     cases hg : es.lookup k with
     | none => rw [hg] at h; exact absurd h.2 (by simp)
     | some v => rw [hg] at hvk; obtain ⟨y, hy, _⟩ := hvk; rw [hy]; rfl
    refine delItem_at hd hth (fun h' hm hs => ?_) (by rw [pairs_len hp]; exact h.1)
    obtain ⟨ob, h1, h2⟩ := nL hm (iu (k := k) hp)
    exact zx trivial (r.upd hl hs h1 h2 fun _ _ _ => r.hp.sys _ _ _ _ q hl)
   ·exact absurd rfl hn
  ·exact absurd rfl hn
 ·exact absurd rfl hn
noncomputable def wy (mo mi : St → zZ V) : St → zZ F := fun σ => (mo σ).bind fun o ae => (mi ae).bind fun i aq => (yZ o i aq).bind fun _ aT => .ok .next aT
theorem u6 {mo mi : St → zZ V} {o i : Expr} {p pos : Pos} (ho : bi prog w ac C mo (eval o C.env)) (hi : bi prog w ac C mi (eval i C.env)) : gN prog w ac C (wy mo mi) (.Delete [.Subscript o i p] pos) := by
 intro ρ σ s r hn
 refine wpAny_Delete (wpAny_deleteEach_cons (wpAny_delete_Subscript ((ho.at r).next rfl hn fun b ae aw az b' _ vb au e => ?_)))
 rw [e] at hn ⊢
 refine (hi.at au.rel).then au rfl hn fun c aq aK aS c' _ vc aJ st e => ?_
 rw [e] at hn ⊢
 refine At.then st (wL st.rel (aJ.vr vb) vc) rfl hn fun _ aT bZ bF _ _ _ b8 st' e => ?_
 rw [e] at hn ⊢
 exact wpAny_deleteEach_nil (zx rfl st')
end
section
variable {prog : Program} {w : World} {ac : Heap} {C : Cx} {mg mb : Str → Option Value} {ρ : List Addr} {σ : St} {s : Shared}
theorem qJ {h : Heap} {a : Addr} {xs : List Int} : ObR prog w ρ (.set xs) h a ↔ h.SetOf (intKind prog w) a (fun k => xs.contains k) xs.length := by
 constructor
 ·rintro ⟨ob, h1, es, ep, t, r⟩
  exact ⟨ob, es, ep, t, h1, r⟩
 ·rintro ⟨ob, es, ep, t, h1, r⟩
  exact ⟨ob, h1, es, ep, t, r⟩
noncomputable def yU (vs : List V) (σ : St) : zZ V := g0 vs (.ok (.ref σ.heap.length) { σ with heap := σ.heap ++ [.set []] })
theorem u0 : cR prog w ac C (.type "set") av yU := fun ρ σ s vs xs r ha => jY (t := fun xs => call (.type "set") xs) ha fun _ =>
 call_set_0 fun led => zx (ρ' := ρ ++ [s.heap.objs.size]) ⟨_, bv r.hp _, rfl⟩ (r.alloc (t := s.toks) rfl
  ⟨#[], 0, .fresh 0 0 led, ⟨rfl, rfl, rfl⟩, rfl, fun e he => (nomatch he), fun k => by simp, by decide, by rfl, rfl⟩)
noncomputable def yK (v : V) (vs : List V) (σ : St) : zZ V := g1 vs fun k => gI k fun k => ge v σ.heap fun l xs => if xs.length + 1 < scanBound then .ok .none { σ with heap := σ.heap.set l (.set (if xs.contains k then xs else xs ++ [k])) } else .bad
theorem wN (ys : List Int) (k k' : Int) : (ys.contains k' || decide (k' = k)) = (if ys.contains k then ys else ys ++ [k]).contains k' := by
 by_cases hc : ys.contains k = true
 ·rw [if_pos hc]
  by_cases hk : k' = k
  ·subst hk; rw [hc]; rfl
  ·rw [decide_eq_false hk, Bool.or_false]
 ·rw [if_neg hc, List.contains_append]
  congr 1
  by_cases hk : k' = k
  ·subst hk; simp
  ·simp [hk]
theorem wM (ys : List Int) (k : Int) : (if ys.contains k = true then ys.length else ys.length + 1) = (if ys.contains k then ys else ys ++ [k]).length := by
 by_cases hc : ys.contains k = true
 ·rw [if_pos hc, if_pos hc]
 ·rw [if_neg hc, if_neg hc, List.length_append]; rfl
theorem tA : ex prog w ac C "set" "add" "set.add" eu yK where
 pa := F.plainAttrs_set
 slot := F.slot_set_add
 ty := F.type_set_add
 self := fun ρ H s v v' r hv hc => sw r hv hc
 call := fun ρ σ s v v' vs xs r hv ha => dw (t := fun xs => call (.builtin "set.add") (v' :: xs)) ha fun k x hk => fg (t := fun x => call (.builtin "set.add") [v', x]) hk fun k u => yA (t := fun x => call (.builtin "set.add") [x, .int k u]) hv fun l a ys hl q => a8 fun hsz _ => by
  refine call_set_add (intKind_is prog w k u) rfl (qJ.mp (r.hp.obj _ _ _ q hl)) hsz fun h' hs hS' => ?_
  rw [funext (wN ys k), wM] at hS'
  obtain ⟨ob, g1, g2⟩ := (qJ (ρ := ρ)).mpr hS'
  exact zx rfl (r.upd hl hs g1 g2)
end
section
open Builtin Builtin.ObjectAttr Builtin.Getset_descriptor
noncomputable def okV : V → Bool
 | .blt _ => false
 | _ => true
theorem lu {ρ : List Addr} {v : V} {x : Value} (h : VR ρ v x) (e : okV v = true) : handedIn x = true := by
 cases v <;> first | (cases h; rfl) | (obtain ⟨t, rfl⟩ := h; rfl) | (obtain ⟨a, _, rfl⟩ := h; rfl) | cases e
noncomputable def lN (fs : List (Str × V)) (x : Str) (v : V) : List (Str × V) := match fs with
 | [] => [(x, v)]
 | (y, u) :: r => if y = x then (y, v) :: r else (y, u) :: lN r x v
noncomputable def nY (fs : List (Str × V)) (x : Str) : Option V := match fs with
 | [] => none
 | (y, u) :: r => if y = x then some u else nY r x
section
variable {prog : Program} {w : World} {ac : Heap} {Cx0 : Cx} {mg mb : Str → Option Value} {ρ : List Addr} {σ : St} {s : Shared}
theorem eY {x : Str} : ∀ {fs : List (Str × V)} {es : List DictEntry}, dz ρ fs es → ∃ r, getL x es = some r ∧ zS ρ (nY fs x) r
 | [], _, h => by cases h; exact ⟨none, rfl, rfl⟩
 | (y, u) :: fs, _, ⟨e, r, rfl, ⟨t, hk⟩, hv, q⟩ => by
  obtain ⟨r', h1, h2⟩ := eY (x := x) q
  unfold getL at h1 ⊢
  have hs : e.key.isStr x = (y == x) := by rw [hk]; rfl
  have hr : e.refKey = false := by unfold DictEntry.refKey; rw [hk]
  rw [List.find?_cons, List.any_cons, hs, hr]
  by_cases hxy : y = x
  ·subst hxy
   simp only [beq_self_eq_true, nY, if_true]
   exact ⟨_, rfl, _, rfl, hv⟩
  ·have : (y == x) = false := by simpa using hxy
   simp only [this, nY, if_neg hxy, Bool.false_or]
   exact ⟨r', h1, h2⟩
theorem gx {x : Str} {hsh : Int} {tk : Tok} {v : V} {v' : Value} (hv : VR ρ v v') : ∀ {fs : List (Str × V)} {es : List DictEntry}, dz ρ fs es → dz ρ (lN fs x v) (putL x hsh (.str x tk) v' es)
 | [], _, h => by cases h; exact ⟨_, _, rfl, ⟨tk, rfl⟩, hv, rfl⟩
 | (y, u) :: fs, _, ⟨e, r, rfl, ⟨t, hk⟩, hu, q⟩ => by
  have hs : e.key.isStr x = (y == x) := by rw [hk]; rfl
  unfold putL lN
  rw [hs]
  by_cases hxy : y = x
  ·subst hxy
   simp only [beq_self_eq_true, if_true]
   exact ⟨_, _, rfl, ⟨t, hk⟩, hv, q⟩
  ·have : (y == x) = false := by simpa using hxy
   simp only [this, if_neg hxy, Bool.false_eq_true, if_false]
   exact ⟨_, _, rfl, ⟨t, hk⟩, hu, gx hv q⟩
theorem jq : ∀ {fs : List (Str × V)} {es : List DictEntry}, dz ρ fs es → es.length = fs.length
 | [], _, h => by cases h; rfl
 | (y, u) :: fs, _, ⟨e, r, rfl, _, _, q⟩ => by simp [jq q]
theorem nX {x : Str} {v : V} : ∀ (fs : List (Str × V)), (lN fs x v).length ≤ fs.length + 1
 | [] => by simp [lN]
 | (y, u) :: fs => by
  unfold lN
  split
  ·simp
  ·have := nX (x := x) (v := v) fs; simp; lia
theorem gG : ∀ {fs : List (Str × V)} {es : List DictEntry}, dz ρ fs es → es.any (·.refKey) = false
 | [], _, h => by cases h; rfl
 | _ :: _, _, ⟨e, r, rfl, ⟨t, hk⟩, _, q⟩ => by
  rw [List.any_cons, gG q, Bool.or_false]
  unfold DictEntry.refKey
  rw [hk]
theorem gs {H : List O} (r : eh prog w ac ρ H s) {l c d : Nat} {sl : List (Option V)} {fs : List (Str × V)} {a : Addr} (h1 : H[l]? = some (.inst c d sl)) (h2 : H[d]? = some (.idict fs)) (ha : ρ[l]? = some a) :
  ∃ dx sx es n, ρ[d]? = some dx ∧ dF ρ sl sx ∧ dz ρ fs es ∧ s.heap.get? a = some { cls := .ref c, dict := some dx, data := .plain, slots := List.toArray sx } ∧ s.heap.get? dx = some (dictOf es n) ∧
   InstAt s.heap a { cls := .ref c, dict := some dx, data := .plain, slots := List.toArray sx } c (some (dictOf es n)) := by
 obtain ⟨ob, g1, dx, sx, g2, rfl, g3⟩ := r.obj _ _ _ h1 ha
 obtain ⟨ob', g4, es, n, rfl, g5⟩ := r.obj _ _ _ h2 g2
 exact ⟨dx, sx, es, n, g2, g3, g5, g1, g4, ⟨g1, rfl, rfl, g4⟩⟩
noncomputable def asN (o : O) : Option (Nat × Nat × List (Option V)) := match o with | .inst c d sl => some (c, d, sl) | _ => none
noncomputable def asF (o : O) : Option (List (Str × V)) := match o with | .idict fs => some fs | _ => none
theorem uL (o : O) : asN o = none ∨ (asN o).map (fun p => .inst p.1 p.2.1 p.2.2) = some o := by cases o <;> first | exact .inl rfl | exact .inr rfl
theorem uN (o : O) : asF o = none ∨ (asF o).map .idict = some o := by cases o <;> first | exact .inl rfl | exact .inr rfl
noncomputable def gi {β : Type} (v : V) (H : List O) (k : Nat → Nat → Nat → List (Option V) → List (Str × V) → zZ β) : zZ β := gh v H fun l o => gO (asN o) fun p => gO H[p.2.1]? fun o => gO (asF o) fun fs => k l p.1 p.2.1 p.2.2 fs
theorem tT {β : Type} {l c d : Nat} {sl : List (Option V)} {fs : List (Str × V)} {H : List O} {k : Nat → Nat → Nat → List (Option V) → List (Str × V) → zZ β} (h1 : H[l]? = some (.inst c d sl)) (h2 : H[d]? = some (.idict fs)) : gi (.ref l) H k = k l c d sl fs := by
 refine (iF h1).trans ?_
 show gO H[d]? _ = _
 rw [h2]; rfl
theorem t7 {α β : Type} {R : List Addr → β → α → Prop} {H : List O} {v : V} {x : Value} {t : Value → Sem α} {k : Nat → Nat → Nat → List (Option V) → List (Str × V) → zZ β} (hv : VR ρ v x)
  (q : ∀ l a c d sl fs, ρ[l]? = some a → H[l]? = some (.inst c d sl) → H[d]? = some (.idict fs) → At prog w ac Cx0 R ρ σ s (k l c d sl fs) (t (.ref a))) : At prog w ac Cx0 R ρ σ s (gi v H k) (t x) :=
 lG hv fun l a _ ha h1 => bA fun p hp => bA fun _ h2 => bA fun fs hf => q l a p.1 p.2.1 p.2.2 fs ha (bR uL hp ▸ h1) (bR uN hf ▸ h2)
noncomputable def getD (c : Nat) (x : Str) (v : V) (σ : St) : zZ V := gi v σ.heap fun _ c' _ _ fs => gO (nY fs x) fun y => if c' = c ∧ okV y = true then .ok y σ else .bad
structure pH (K : Frag) (c : Nat) (x : Str) : Prop where
 g : plainGet K c x = true
 d : hasDictIn K c = true
 n : findIn K (.ref c) x = some none
theorem at_getD {K : Frag} (X : K.In ac) {c : Nat} {x : Str} (G : pH K c x) {v : V} {v' : Value} {expr : Bool} (r : zX prog w ac Cx0 ρ σ s) (hv : VR ρ v v') : At prog w ac Cx0 VR ρ σ s (getD c x v σ) (getAttr v' x expr) := t7 (t := fun v' => getAttr v' x expr) hv fun l a c' d sl fs ha q1 q2 => bA fun y q3 => a8 fun h _ => by
 obtain ⟨rfl, hok⟩ := h
 obtain ⟨dx, sx, es, n, g1, g2, g3, g4, g5, I⟩ := gs r.hp q1 q2 ha
 obtain ⟨o, h1, h2⟩ := eY (x := x) g3
 rw [q3] at h2
 obtain ⟨y', rfl, hy⟩ := h2
 exact get_value (X.keeps r.hp.base) I (plainGet_of G.g).1 (findObj_own G.d G.n rfl h1) (lu hy hok) (zx hy (r.toks _))
noncomputable def slotAt (sl : List (Option V)) (i : Nat) : Option V := (sl[i]?).join
noncomputable def eM (c i : Nat) (v : V) (σ : St) : zZ V := gi v σ.heap fun _ c' _ sl _ => gO (slotAt sl i) fun y => if c' = c ∧ okV y = true then .ok y σ else .bad
structure rQ (K : Frag) (c : Nat) (x : Str) (p : Addr) (i : Nat) : Prop where
 g : plainGet K c x = true
 d : isClsIn K c = true
 a : findIn K (.ref c) x = some (some (.ref p))
 n : specialIn K (.ref p) "__get__" = some (some (.builtin "member_descriptor.__get__"))
 t : takesIn K (.ref p) = some true
 i : slotIn K p c = some i
theorem ku : ∀ {sl : List (Option V)} {sx : List (Option Value)}, dF ρ sl sx → ∀ i, zS ρ (slotAt sl i) ((sx[i]?).join)
 | [], _, h, i => by cases h; exact rfl
 | u :: sl, _, ⟨x, r, rfl, h, q⟩, 0 => by simpa [slotAt] using h
 | u :: sl, _, ⟨x, r, rfl, h, q⟩, i + 1 => by have := ku q i; simpa [slotAt] using this
theorem kr : ∀ {sl : List (Option V)} {sx : List (Option Value)}, dF ρ sl sx → sx.length = sl.length
 | [], _, h => by cases h; rfl
 | u :: sl, _, ⟨x, r, rfl, h, q⟩ => by simp [kr q]
theorem ko {v : Option V} {v' : Option Value} (hv : zS ρ v v') : ∀ {sl : List (Option V)} {sx : List (Option Value)}, dF ρ sl sx → ∀ i, dF ρ (sl.set i v) (sx.set i v')
 | [], _, h, i => by cases h; exact rfl
 | u :: sl, _, ⟨x, r, rfl, h, q⟩, 0 => ⟨_, _, rfl, hv, q⟩
 | u :: sl, _, ⟨x, r, rfl, h, q⟩, i + 1 => ⟨_, _, rfl, h, ko hv q i⟩
theorem kx : ∀ {sl tl : List (Option V)} {sx tx : List (Option Value)}, dF ρ sl sx → dF ρ tl tx → dF ρ (sl ++ tl) (sx ++ tx)
 | [], _, _, _, h, g => by cases h; exact g
 | u :: sl, _, _, _, ⟨x, r, rfl, h, q⟩, g => ⟨_, _, rfl, h, kx q g⟩
theorem kq : ∀ n : Nat, dF ρ (List.replicate n none) (List.replicate n none)
 | 0 => rfl
 | n + 1 => ⟨_, _, rfl, rfl, kq n⟩
theorem wI {K : Frag} (X : K.In ac) {c i : Nat} {x : Str} {p : Addr} (G : rQ K c x p i) {v : V} {v' : Value} {expr : Bool} (r : zX prog w ac Cx0 ρ σ s) (hv : VR ρ v v') : At prog w ac Cx0 VR ρ σ s (eM c i v σ) (getAttr v' x expr) := t7 (t := fun v' => getAttr v' x expr) hv fun l a c' d sl fs ha q1 q2 => bA fun y q3 => a8 fun h _ => by
 obtain ⟨rfl, hok⟩ := h
 obtain ⟨dx, sx, es, n, g1, g2, g3, g4, g5, I⟩ := gs r.hp q1 q2 ha
 have h2 := ku g2 i
 rw [q3] at h2
 obtain ⟨y', e', hy⟩ := h2
 have X' := X.keeps r.hp.base
 exact get_bind X' I (plainGet_of G.g).1 (findObj_data G.d G.a G.n G.t) (plainGet_of G.g).2 (wpAny_call (slot_get (s := { s with toks := s.toks + 1 }) X' I G.i (by simpa using e') (handed_on (lu hy hok) (zx hy (r.toks _)))))
noncomputable def iR (c : Nat) (x : Str) (v u : V) (σ : St) : zZ Unit := gi v σ.heap fun _ c' d _ fs => if c' = c ∧ fs.length ≤ 900 then .ok () { σ with heap := σ.heap.set d (.idict (lN fs x u)) } else .bad
structure pG (K : Frag) (c : Nat) (x : Str) : Prop where
 s : findIn K (.ref c) "__setattr__" = some (some (.builtin "object.__setattr__"))
 p : plainOver K c = true
 t : takerIn K c x = some none
 d : hasDictIn K c = true
theorem wG {K : Frag} (X : K.In ac) {c : Nat} {x : Str} (G : pG K c x) {v u : V} {v' u' : Value} (r : zX prog w ac Cx0 ρ σ s) (hv : VR ρ v v') (hu : VR ρ u u') : At prog w ac Cx0 fZ ρ σ s (iR c x v u σ) (setAttr v' x u') := t7 (t := fun v' => setAttr v' x u') hv fun l a c' d sl fs ha q1 q2 => a8 fun h _ => by
 obtain ⟨rfl, hsz⟩ := h
 obtain ⟨dx, sx, es, n, g1, g2, g3, g4, g5, I⟩ := gs r.hp q1 q2 ha
 have X' := X.keeps r.hp.base
 refine set_plain X' I G.s (osa_open (s := { s with toks := s.toks + 1 }) X' I G.p G.t fun b => ?_)
 obtain ⟨cd, hc, hd'⟩ := any_some G.d
 have hes : (putL x (PyData.keyHash w.params x) (.str x (s.toks + 1)) u' es).length ≤ 1000 := by
  have := jq (gx (x := x) (hsh := PyData.keyHash w.params x) (tk := s.toks + 1) hu g3)
  have := nX (x := x) (v := u) fs
  lia
 have e' := putName_dict x (PyData.keyHash w.params x) (.str x (s.toks + 1)) u' es n
 have D' : (s.heap.update dx (Obj.putName x (PyData.keyHash w.params x) (.str x (s.toks + 1)) u')).get? dx = some (dictOf (putL x (PyData.keyHash w.params x) (.str x (s.toks + 1)) u' es) (putN x es n)) := by
  rw [← e']; exact Heap.get?_update_self _ g5 (by rw [e']; rfl)
 refine wpAny_bind (wpAny_pure (wpAny_bind (wpAny_bind (wpAny_loadPart (s := { s with toks := s.toks + 1 }) g4 (wpAny_bind (looks_clsIn X' hc _ _ _ _ (fun _ _ e => e) ?_))))))
 rw [hd']
 refine wpAny_pure (a := some dx) (wpAny_bind (wpAny_pure (wpAny_bind ?_)))
 unfold nsSet
 refine wpAny_bind (wpAny_bind (wpAny_askSetting (wpAny_pure (wpAny_bind (wpAny_mkText (wpAny_bind (wpAny_loadPart (s := { s with toks := s.toks + 1 + 1 }) g5 ?_)))))))
 dsimp only
 have c : (!es.toArray.any (·.key.isStr x) && es.toArray.any (·.refKey)) = false := by
  rw [show es.toArray.any (·.refKey) = false from Array.any_toList.symm.trans (gG g3), Bool.and_false]
 rw [aRefKeyMayBeTheName_at, c]
 refine wpAny_updatePart g5 ?_
 refine wpAny_bind (wpAny_lookBehind (s := { s with heap := s.heap.update dx (Obj.putName x (PyData.keyHash w.params x) (.str x (s.toks + 1)) u'), toks := s.toks + 1 + 1 }) D' (pastItsLine_dict (by rw [List.size_toArray, sizeLine_eq]; lia)) ?_)
 exact wpAny_pure (zx trivial (r.upd g1 (Heap.SameBut.update ..) D' ⟨_, _, rfl, gx hu g3⟩))
noncomputable def oH (sl : List (Option V)) (i : Nat) (v : V) : List (Option V) := (sl ++ List.replicate (i + 1 - sl.length) none).set i (some v)
noncomputable def fE (c i : Nat) (v u : V) (σ : St) : zZ Unit := gi v σ.heap fun l c' d sl _ => if c' = c then .ok () { σ with heap := σ.heap.set l (.inst c' d (oH sl i u)) } else .bad
structure rO (K : Frag) (c : Nat) (x : Str) (p : Addr) (i : Nat) : Prop where
 s : findIn K (.ref c) "__setattr__" = some (some (.builtin "object.__setattr__"))
 po : plainOver K c = true
 t : takerIn K c x = some (some (.ref p))
 ty : typeIn K (.ref p) = some (.type "member_descriptor")
 z : i < 1000
 i : slotIn K p c = some i
structure ow (prog : Program) (w : World) (h : Heap) (x C p : Addr) (names : List Str) (owner : Value) (b : Int) : Prop where
 cls : Looks (model prog w) h (typeOf (.ref x)) (.ref C)
 sub : Looks (model prog w) h (isSubtype (.ref C) owner) true
 names : Looks (model prog w) h (Slots.slotNamesOf (.ref C)) names
 name : ∃ n t, Looks (model prog w) h (field (.ref p) 0) (.str n t)
 own : Looks (model prog w) h (field (.ref p) 1) owner
 fn : Looks (model prog w) h (field (.ref p) 3) (.builtin "proto.slot#set")
 place : ∃ t, Looks (model prog w) h (field (.ref p) 4) (.int b t)
 me : Looks (model prog w) h (descrItself (.ref p)) [.ref p]
theorem tK {A : Around} {h : Heap} {x C p : Addr} {ox : Obj} {names : List Str} {owner v : Value} {b : Int} {g : Array GenState} {dr : Drawn} {t : Nat} {os : OsState} {Q : Fin → Shared → Prop} {E : Value → Shared → Prop} (D : ow prog w h x C p names owner b) (ho : h.get? x = some ox)
  (hb : b.toNat < names.length) (hi : names.length - 1 - b.toNat < 1000) (hQ : Q (.done (.ret .none)) ⟨h.update x fun o => { o with slots := (o.slots ++ Array.replicate (names.length - 1 - b.toNat + 1 - o.slots.size) none).setIfInBounds (names.length - 1 - b.toNat) (some v) }, g, dr, t, os⟩) :
  wpAny (model prog w) A (Builtin.«proto.slot#set» ⟨[.ref x, v, .ref p], []⟩) Q E ⟨h, g, dr, t, os⟩ := by
 obtain ⟨D1, -, D2, ⟨_, _, D0⟩, -, -, ⟨_, D3⟩, -⟩ := D
 unfold Builtin.«proto.slot#set» Slots.target
 repeat lk
 rw [if_neg (Nat.not_le.mpr hb)]
 refine wpAny_pure (wpAny_bind (show wpAny _ _ (setSlotAt _ _ _) _ _ _ from ?_))
 unfold setSlotAt
 dsimp only
 rw [if_neg (show ¬ names.length - 1 - b.toNat ≥ sizeLine from Nat.not_le.mpr (Nat.lt_of_lt_of_le hi (by decide)))]
 exact wpAny_updatePart ho (wpAny_pure hQ)
theorem sf {A : Around} {K : Frag} {x C p : Addr} {ox : Obj} {od : Option Obj} {v : Value} {i : Nat} {R : Result → Shared → Prop} (X : K.In s.heap) (I : InstAt s.heap x ox C od) (hp : slotIn K p C = some i) (hi : i < 1000)
  (h : R (.ok (.ret .none)) { s with heap := s.heap.update x fun o => { o with slots := (o.slots ++ Array.replicate (i + 1 - o.slots.size) none).setIfInBounds i (some v) } }) :
  codeAny (model prog w) A (.call (.builtin "member_descriptor.__set__") ⟨[.ref p, .ref x, v], []⟩) R s := by
 have ⟨n, tn, owner, b, tb, _, _, cd, hat, hc, hm, hb, hn⟩ := slot_of X hp
 subst hn
 have F : ∀ k u, (#[Value.str n tn, owner, .builtin "proto.slot", .builtin "proto.slot#set", .int b tb] : Array Value)[k]? = some u → Looks (model prog w) s.heap (field (.ref p) k) u := fun k u e => looks_field hat k e
 have D : ow prog w s.heap x C p cd.slotNames owner b := ⟨I.type, looks_mroIn X hm, (looks_clsIn X hc).andThen .now, ⟨n, tn, F 0 _ rfl⟩, F 1 _ rfl, F 3 _ rfl, ⟨tb, F 4 _ rfl⟩, ((Looks.ld (part := none) hat).andThen .now).andThen (Looks.of_pure (by kernel_rfl))⟩
 have hx := I.at_
 cases s
 refine codeAny_call_builtin KF.slot_mset.plain KF.entry_mset (KF.slot_mset.check _ _ _ _ _ _ _ _ ⟨_, hat, rfl⟩ (KF.args_mset _ _ _) ?_)
 obtain ⟨_, _, _, ⟨_, _, _⟩, _, _, ⟨_, _⟩, _⟩ := id D
 unfold Builtin.«member_descriptor.__set__» descrSet descrStoreThrough descrCheckInstance descrNameAndClass isInstance
 repeat lk
 exact ⟨Code.quiet_builtin _ (by decide +kernel), codeAny_builtin KF.entry_slotset (tK D hx (Nat.not_le.mp hb) hi h)⟩
theorem wE {K : Frag} (X : K.In ac) {c i : Nat} {x : Str} {p : Addr} (G : rO K c x p i) {v u : V} {v' u' : Value} (r : zX prog w ac Cx0 ρ σ s) (hv : VR ρ v v') (hu : VR ρ u u') : At prog w ac Cx0 fZ ρ σ s (fE c i v u σ) (setAttr v' x u') := t7 (t := fun v' => setAttr v' x u') hv fun l a c' d sl fs ha q1 q2 => a8 fun h _ => by
 subst h
 obtain ⟨dx, sx, es, n, g1, g2, g3, g4, g5, I⟩ := gs r.hp q1 q2 ha
 have X' := X.keeps r.hp.base
 refine set_plain X' I G.s (osa_descr (s := { s with toks := s.toks + 1 }) KF.slot_mset X' I G.po G.t G.ty (sf (s := { s with toks := s.toks + 1 }) X' I G.i G.z ?_))
 refine zx trivial (r.upd ha (Heap.SameBut.update ..) (Heap.get?_update_self _ g4 rfl) ⟨dx, (sx ++ List.replicate (i + 1 - sx.length) none).set i (some u'), g1, ?_, ?_⟩)
 ·have e : ({ cls := Value.ref c', dict := some dx, data := .plain, slots := sx.toArray } : Obj).slots = sx.toArray := rfl
  have e2 : (sx.toArray ++ Array.replicate (i + 1 - sx.toArray.size) (none : Option Value)).setIfInBounds i (some u') = ((sx ++ List.replicate (i + 1 - sx.length) none).set i (some u')).toArray := by
   rw [show Array.replicate (i + 1 - sx.toArray.size) (none : Option Value) = (List.replicate (i + 1 - sx.length) none).toArray by simp]
   simp only [List.append_toArray, List.setIfInBounds_toArray]
  rw [e2]
 ·unfold oH
  rw [kr g2]
  exact ko (v := some u) (v' := some u') ⟨u', rfl, hu⟩ (kx g2 (kq _)) i
end
end
section
variable {prog : Program} {w : World} {ac : Heap} {C : Cx} {mg mb : Str → Option Value} {ρ : List Addr} {σ : St} {s : Shared}
noncomputable abbrev lL (prog : Program) (w : World) (ac : Heap) (C : Cx) (x : Str) (g : V → St → zZ V) : Prop := t9 prog w ac C VR g (fun v => getAttr v x true)
noncomputable abbrev oy (prog : Program) (w : World) (ac : Heap) (C : Cx) (x : Str) (f : V → V → St → zZ Unit) : Prop := yO prog w ac C fZ f (fun v u => setAttr v x u)
theorem bt {K : Frag} (X : K.In ac) {c : Nat} {x : Str} (G : pH K c x) : lL prog w ac C x (getD c x) := fun _ _ _ _ _ r h => at_getD X G r h
theorem df {K : Frag} (X : K.In ac) {c i : Nat} {x : Str} {p : Addr} (G : rQ K c x p i) : lL prog w ac C x (eM c i) := fun _ _ _ _ _ r h => wI X G r h
theorem dY {K : Frag} (X : K.In ac) {c : Nat} {x : Str} (G : pG K c x) : oy prog w ac C x (iR c x) := fun _ _ _ _ _ _ _ r h g => wG X G r h g
theorem dX {K : Frag} (X : K.In ac) {c i : Nat} {x : Str} {p : Addr} (G : rO K c x p i) : oy prog w ac C x (fE c i) := fun _ _ _ _ _ _ _ r h g => wE X G r h g
noncomputable def ba (g : V → St → zZ V) (mo : St → zZ V) : St → zZ V := fun σ => (mo σ).bind g
theorem bd {x : Str} {g : V → St → zZ V} {mo : St → zZ V} {o : Expr} {pos : Pos} (hg : lL prog w ac C x g) (ho : bi prog w ac C mo (eval o C.env))
  (he : eval (.Attribute o x pos) C.env = (do
   let ov ← eval o C.env
   standAt pos.atName
   let r ← holding [ov] (getAttr ov x true)
   letTemporaryGo o ov r
   pure r)) : bi prog w ac C (ba g mo) (eval (.Attribute o x pos) C.env) := by
 refine zW.gen fun ρ σ s z r e hb => ?_
 refine Attribute_any_ ((ho.at r).next e hb fun a ae aw az a' _ va au e => ?_) he
 subst e
 exact (hg aw ae az a a' au.rel va).trans au hb
noncomputable def cD (f : V → V → St → zZ Unit) (mo : St → zZ V) (v : V) (σ : St) : zZ Unit := (mo σ).bind fun o ae => f o v ae
theorem ci {x : Str} {f : V → V → St → zZ Unit} {mo : St → zZ V} {o : Expr} {pos : Pos} (hf : oy prog w ac C x f) (ho : bi prog w ac C mo (eval o C.env)) : j5 prog w ac C (cD f mo) (.Attribute o x pos) := by
 intro ρ σ s a a' r ha hn
 rw [assign_Attribute]
 refine wpAny_bind (wpAny_holding ((ho.at r).next rfl hn fun b ae aw az b' _ vb au e => ?_))
 rw [e] at hn ⊢
 refine wpAny_bind (wpAny_standAt (wpAny_bind (wpAny_holding (wpAny_mono ((hf aw ae az b b' a a' au.rel vb (au.vr ha)).trans au hn) (fun _ s' h => wpAny_release h) fun _ _ h => h))))
noncomputable def pv (op : Operator) (g : V → St → zZ V) (f : V → V → St → zZ Unit) (mo m : St → zZ V) : St → zZ F := fun σ => (mo σ).bind fun o ae => (g o ae).bind fun a aq => (m aq).bind fun b aT => (opI op a b aT).bind fun c cg => (f o c cg).bind fun _ fF => .ok .next fF
theorem gU {op : Operator} {x : Str} {g : V → St → zZ V} {f : V → V → St → zZ Unit} {mo m : St → zZ V} {o v : Expr} {tpos pos : Pos} (hg : lL prog w ac C x g) (hf : oy prog w ac C x f) (ho : bi prog w ac C mo (eval o C.env)) (hv : bi prog w ac C m (eval v C.env)) :
  gN prog w ac C (pv op g f mo m) (.AugAssign (.Attribute o x tpos) op v pos) := by
 refine zW.gen fun ρ σ s z r e hb => ?_
 refine wpAny_AugAssign_AttributeAny ((ho.at r).next e hb fun a ae aw az a' _ va au e => ?_)
 refine At.then au (hg aw ae az a a' au.rel va) e hb fun b aq aK aS b' _ vb aJ st e => ?_
 refine (hv.at st.rel).then st e hb fun c aT bZ bF c' _ vc b8 st' e => ?_
 refine At.then st' (p9 op bZ aT bF b b' c c' st'.rel (b8.vr vb) vc) e hb fun d cg iX ke d' _ vd iY st'' e => ?_
 refine At.then st'' (hf iX cg ke a a' d d' st''.rel (iY.vr (b8.vr (aJ.vr va))) vd) e hb fun _ fF ud s₅ _ _ _ pS st3 e => ?_
 subst e
 exact zx rfl st3
noncomputable def km (v : V) (σ : St) : zZ (List V) := gh v σ.heap fun _ o => gO ((zN o).or (zK o)) fun xs => if xs.length ≤ sizeLine then .ok xs σ else .bad
inductive StarB (v : V) (σ : St) : Prop
 | mk (l : Nat) (o : O) (xs : List V) (hv : v = .ref l) (ho : σ.heap[l]? = some o) (h : zN o = some xs ∨ zK o = some xs) (hs : xs.length ≤ sizeLine) (e : km v σ = .ok xs σ)
theorem kl {v : V} {σ : St} (h : km v σ ≠ .bad) : StarB v σ := by
 obtain ⟨l, hl, h⟩ := jo h
 obtain ⟨o, ho, h⟩ := jo h
 obtain ⟨xs, hx, h⟩ := jo h
 obtain ⟨hs, h⟩ := fq rfl h
 cases bR iN hl
 refine ⟨l, o, xs, rfl, ho, (Option.or_eq_some_iff.mp hx).imp_right And.right, hs, ?_⟩
 exact (iF ho).trans (by rw [hx]; exact if_pos hs)
theorem nu {v : V} {σ : St} (h : km v σ ≠ .bad) : ∃ vs, km v σ = .ok vs σ := match kl h with | ⟨_, _, xs, _, _, _, _, e⟩ => ⟨xs, e⟩
theorem rD (r : zX prog w ac C ρ σ s) {v : V} {v' : Value} {vs : List V} {σ' : St} {Q : List Value → Shared → Prop} {E : Value → Shared → Prop} (hv : VR ρ v v') (he : km v σ = .ok vs σ') (k : ∀ xs s', bL ρ vs xs → Step prog w ac C ρ σ s ρ σ' s' → Q xs s') :
  StarOf (model prog w) C.A E v' Q s := by
 obtain ⟨l, o, xs, rfl, ho, h, hs, e⟩ := kl (v := v) (σ := σ) (by rw [he]; intro q; cases q)
 rw [e] at he; cases he
 obtain ⟨a, ha, rfl⟩ := hv
 unfold StarOf notIterableAtAll
 rcases h with h | h
 ·cases bR jt h
  obtain ⟨ob, h1, ws, n, rfl, hw⟩ := r.hp.obj _ _ _ ho ha
  exact wpAny_bind (wpAny_specialOf (T := "list") ⟨_, h1, rfl⟩ PySem.F.slot_list_iter.lookup (wpAny_pure ⟨rfl, wpAny_collect_seq a (.inl rfl) h1 rfl rfl (fun h' hk => k ws _ hw (r.keep hk ⟨rfl, rfl, rfl⟩)) (show ws.length ≤ sizeLine from hw.length ▸ hs)⟩))
 ·cases bR oq h
  obtain ⟨ob, h1, ws, n, rfl, hw⟩ := r.hp.obj _ _ _ ho ha
  exact wpAny_bind (wpAny_specialOf (T := "tuple") ⟨_, h1, rfl⟩ PySem.F.slot_tuple_iter.lookup (wpAny_pure ⟨rfl, wpAny_collect_seq a (.inr rfl) h1 rfl rfl (fun h' hk => k ws _ hw (r.keep hk ⟨rfl, rfl, rfl⟩)) (show ws.length ≤ sizeLine from hw.length ▸ hs)⟩))
noncomputable def fT (m : St → zZ V) (ms : St → zZ (List V)) : St → zZ (List V) := fun σ => (m σ).bind fun v ae => (km v ae).bind fun us aq => (ms aq).bind fun vs aT => .ok (us ++ vs) aT
theorem jC {m : St → zZ V} {ms : St → zZ (List V)} {pos p : Pos} {e : Expr} {rest : List Expr} (h : bi prog w ac C m (eval e C.env)) (hr : bK prog w ac C ms pos rest)
  (he : starEach (.Starred e p :: rest) C.env = (true, eval e C.env) :: starEach rest C.env) : bK prog w ac C (fT m ms) pos (.Starred e p :: rest) := by
 refine zW.gen fun ρ σ s z r e hb => ?_
 refine items_star ((h.at r).next e hb fun a ae aw az a' _ va au e => ?_) he
 obtain ⟨us, hus⟩ := nu (v := a) (σ := ae) fun q => hb (e.trans (by rw [q]; rfl))
 refine rD au.rel va hus fun xs aS hx aJ => ?_
 rw [hus, zZ.bind_ok] at e
 have st := au.trans aJ
 refine (hr.at st.rel).then st e hb fun b aT bZ bF b' _ vb b8 st' e => ?_
 subst e
 exact zx ((b8.all hx).append vb) st'
noncomputable def ArgsR (mk : List Value → Args) : List Addr → List V → Args → Prop := fun ρ vs a => ∃ xs, bL ρ vs xs ∧ a = mk xs
noncomputable abbrev gC (prog : Program) (w : World) (ac : Heap) (C : Cx) (mk : List Value → Args) (ms : St → zZ (List V)) (f : Value) (args : List (Bool × Sem Value)) (kws : List (Option Str × Sem Value)) : Prop := zW prog w ac C (ArgsR mk) ms (evalArgs f true args kws)
theorem uh {ms : St → zZ (List V)} {f : Value} {pos : Pos} {args : List Expr} (ha : bK prog w ac C ms pos args) (hp : (backTo pos (starEach args C.env)).any (·.1) = false) : gC prog w ac C av ms f (backTo pos (starEach args C.env)) [] := by
 intro ρ σ s r hb
 refine cw hp (wpAny_mono (ha.at r hb) (fun vs s' h => ?_) fun _ _ h => h)
 cases hm : ms σ with
 | ok us σ' => rw [hm] at h; obtain ⟨ρ', hr, st⟩ := h; exact zx ⟨vs, hr, rfl⟩ st
 | exc => rw [hm] at h; exact h.elim
 | bad => rw [hm] at h; exact h.elim
theorem lY {ms : St → zZ (List V)} {f : Value} {pos : Pos} {e : Expr} {rest : List Expr} (ha : bK prog w ac C ms pos (e :: rest)) (he : starEach (e :: rest) C.env = (false, eval e C.env) :: starEach rest C.env) :
  gC prog w ac C av ms f (backTo pos (starEach (e :: rest) C.env)) [] := by
 intro ρ σ s r hb
 have ha' := ha.at r hb
 rw [he] at ha' ⊢
 refine evalArgs_plain (wpAny_mono ha' (fun vs s' h => ?_) fun _ _ h => h)
 cases hm : ms σ with
 | ok us σ' => rw [hm] at h; obtain ⟨ρ', hr, st⟩ := h; exact zx ⟨vs, hr, rfl⟩ st
 | exc => rw [hm] at h; exact h.elim
 | bad => rw [hm] at h; exact h.elim
noncomputable def lg (m : St → zZ V) : St → zZ (List V) := fun σ => (m σ).bind km
theorem lZ {m : St → zZ V} {f : Value} {pos p : Pos} {e : Expr} (h : bi prog w ac C m (eval e C.env)) (he : starEach [.Starred e p] C.env = [(true, eval e C.env)]) : gC prog w ac C av (lg m) f (backTo pos (starEach [.Starred e p] C.env)) [] := by
 refine zW.gen fun ρ σ s z r e hb => ?_
 rw [he]
 refine ks_lone ((h.at r).next e hb fun a ae aw az a' _ va au e => ?_)
 subst e
 obtain ⟨us, hus⟩ := nu (v := a) (σ := ae) hb
 refine rD au.rel va hus fun xs aS hx aJ => ?_
 rw [hus]
 exact zx ⟨xs, hx, rfl⟩ (au.trans aJ)
noncomputable abbrev ji (n : Str) : List Value → Args
 | [a, b] => ⟨[a], [(n, b)]⟩
 | xs => ⟨xs, []⟩
noncomputable def yW (ma mb : St → zZ V) : St → zZ (List V) := fun σ => (ma σ).bind fun a ae => (mb ae).bind fun b aq => .ok [a, b] aq
theorem qf {ma mb : St → zZ V} {f : Value} {pos kp : Pos} {e v : Expr} {n : Str} (ha : bi prog w ac C ma (eval e C.env)) (hv : bi prog w ac C mb (eval v C.env))
  (he : starEach [e] C.env = [(false, eval e C.env)]) (hk : keywordEach [⟨some n, v, kp⟩] C.env = [(some n, eval v C.env)]) :
  gC prog w ac C (ji n) (yW ma mb) f (backTo pos (starEach [e] C.env)) (backToKw pos (keywordEach [⟨some n, v, kp⟩] C.env)) := by
 refine zW.gen fun ρ σ s z r e hb => ?_
 rw [he, hk]
 refine evalArgs_kwB rfl (spliced_cons ((ha.at r).next e hb fun a ae aw az a' _ va au e => spliced_nil ?_))
 show wpAny _ _ (evalAll [(do let v ← eval v C.env; standAt pos; pure v)]) _ _ _
 refine evalAll_cons (wpAny_bind ((hv.at au.rel).then au e hb fun b aq aK aS b' _ vb aJ st e => wpAny_bind (wpAny_standAt (wpAny_pure (evalAll_nil ?_)))))
 subst e
 exact (zx ⟨[a', b'], .cons (aJ.vr va) (.one vb), rfl⟩ st)
noncomputable def jv (args : List (Bool × Sem Value)) (kws : List (Option Str × Sem Value)) : Prop := (args.any (·.1) || kws.any (·.1.isNone)) = false ∨ (args.any (·.1) = true ∧ kws = [])
theorem iM {f : Value} {first : List Value} {pos : Pos} {args : List (Bool × Sem Value)} {kws : List (Option Str × Sem Value)} {Q : Value → Shared → Prop} {E : Value → Shared → Prop} (hc : jv args kws) (hk : Keeps ac (model prog w) f)
  (h : wpAny (model prog w) C.A (evalArgs f true args kws) (fun a az => ac.StaysIn az.heap ∧ wpAny (model prog w) C.A (call f (first ++ a.pos) a.kw) Q E az) E s) : wpAny (model prog w) C.A (callWith pos f first args kws) Q E s := by
 rcases hc with hc | ⟨hc, rfl⟩
 ·exact callWith_of (P := ac.StaysIn) hc (fun h k => hk h k) h
 ·exact ks_call (P := ac.StaysIn) hc (fun h k => hk h k) h
theorem ql {v : V} {f : Value} {mk : List Value → Args} {ma : St → zZ (List V)} {g : List V → St → zZ V} {x : Str} {np pos : Pos} {args : List Expr} {kws : List Keyword} (hk : Keeps ac (model prog w) f) (hn : bi prog w ac C (aa v) (eval (.Name x np) C.env)) (hv : ∀ ρ x, VR ρ v x → x = f)
  (ha : gC prog w ac C mk ma f (backTo pos (starEach args C.env)) (backToKw pos (keywordEach kws C.env))) (hg : cR prog w ac C f mk g) (hp : jv (backTo pos (starEach args C.env)) (backToKw pos (keywordEach kws C.env))) : bi prog w ac C (aC ma g) (eval (.Call (.Name x np) args kws pos) C.env) := by
 refine zW.gen fun ρ σ s z r e hb => ?_
 refine wpAny_Call_ofName (At.next (f := fun _ ae => aC ma g ae) (hn.at r) e hb fun a ae aw az a' mR va au e => ?_)
 cases mR
 have := hv _ _ va
 subst this
 refine iM hp hk ((ha.at au.rel).then au e hb fun b aq aK aS b' _ vb aJ st e => ⟨st.rel.hp.base, ?_⟩)
 subst e
 obtain ⟨xs, hx, rfl⟩ := vb
 exact (hg aK aq aS b xs st.rel hx).trans st hb
structure ft (K : Frag) (c : Nat) (x : Str) (fa : Addr) : Prop where
 g : plainGet K c x = true
 f : findIn K (.ref c) x = some (some (.ref fa))
 t : isFn K (.ref fa) = true
noncomputable def bO (c : Nat) (x : Str) (v : V) (H : List O) : Bool := (zM v).any fun l => H[l]?.any fun o => (asN o).any fun p => H[p.2.1]?.any fun o => (asF o).any fun fs => decide (p.1 = c) && (nY fs x).isNone
inductive IsIn (c : Nat) (x : Str) (v : V) (H : List O) : Prop
 | mk (l d : Nat) (sl : List (Option V)) (fs : List (Str × V)) (hv : v = .ref l) (h1 : H[l]? = some (.inst c d sl)) (h2 : H[d]? = some (.idict fs)) (h3 : nY fs x = none)
theorem jl {c : Nat} {x : Str} {v : V} {H : List O} (hc : bO c x v H = true) : IsIn c x v H := by
 obtain ⟨l, hl, hc⟩ := Option.any_eq_true .. |>.mp hc
 obtain ⟨o1, q1, hc⟩ := Option.any_eq_true .. |>.mp hc
 obtain ⟨⟨c', d, sl⟩, hN, hc⟩ := Option.any_eq_true .. |>.mp hc
 obtain ⟨o2, q2, hc⟩ := Option.any_eq_true .. |>.mp hc
 obtain ⟨fs, hF, hc⟩ := Option.any_eq_true .. |>.mp hc
 obtain ⟨hcc, hsh⟩ := Bool.and_eq_true_iff.mp hc
 exact ⟨l, d, sl, fs, bR iN hl, of_decide_eq_true hcc ▸ bR uL hN ▸ q1, bR uN hF ▸ q2, Option.isNone_iff_eq_none.mp hsh⟩
noncomputable def cU (chk : V → List O → Bool) (g : List V → St → zZ V) (mo : St → zZ V) (ma : St → zZ (List V)) : St → zZ V := fun σ => (mo σ).bind fun v ae => if chk v ae.heap then (ma ae).bind fun vs aq => g (v :: vs) aq else .bad
theorem si {K : Frag} (X : K.In ac) {c : Nat} {name : Str} {fa : Addr} (Mi : ft K c name fa) (hk : Keeps ac (model prog w) (.ref fa)) {g : List V → St → zZ V} {mo : St → zZ V} {ma : St → zZ (List V)} {o : Expr} {apos pos : Pos} {args : List Expr} {pl : Sem Bool}
  (ho : bi prog w ac C mo (eval o C.env)) (ha : gC prog w ac C av ma (.ref fa) (backTo pos (starEach args C.env)) (backToKw pos (keywordEach [] C.env))) (hg : cR prog w ac C (.ref fa) av g) (hp : jv (backTo pos (starEach args C.env)) (backToKw pos (keywordEach [] C.env)))
  (he : eval (.Call (.Attribute o name apos) args [] pos) C.env = (do
   let ov ← eval o C.env
   standAt apos.atName
   let (f, first) ← holding [ov] (getMethod ov name pl)
   callWith pos f first (backTo pos (starEach args C.env)) (backToKw pos (keywordEach [] C.env)))) :
  bi prog w ac C (cU (bO c name) g mo ma) (eval (.Call (.Attribute o name apos) args [] pos) C.env) := by
 refine zW.gen fun ρ σ s z r e hb => ?_
 refine methodCall_KW ((ho.at r).next e hb fun v ae aw az v' _e vv au e => ?_) he
 clear _e
 obtain ⟨hc, e'⟩ := fq e.symm hb
 clear e
 obtain ⟨l, d, sl, fs, rfl, q1, q2, hsh⟩ := jl hc
 obtain ⟨a, hx, rfl⟩ := vv
 obtain ⟨dx, sx, es, n, g1, g2, g3, g4, g5, I⟩ := gs au.rel.hp q1 q2 hx
 obtain ⟨o', h1, h2⟩ := eY (x := name) g3
 rw [hsh] at h2
 cases h2
 refine method_fn (X.keeps au.rel.hp.base) I (plainGet_of Mi.g).1 (plainGet_of Mi.g).2 Mi.f (beq_iff_eq.mp Mi.t) (by show (lookIn name (dictOf es n)).map _ = _; rw [lookIn_dict, h1]; rfl) ?_
 refine iM hp hk ((ha.at au.rel).then au e'.symm hb fun b aq aK aS b' _ vb aJ st e => ⟨st.rel.hp.base, ?_⟩)
 subst e
 obtain ⟨xs, hxs, rfl⟩ := vb
 have vv' : VR aK (.ref l) (.ref a) := aJ.vr (v := .ref l) ⟨a, hx, rfl⟩
 exact (hg aK aq aS (.ref l :: b) (.ref a :: xs) st.rel (.cons vv' hxs)).trans st hb
end
section
variable {prog : Program} {w : World} {ac : Heap} {C : Cx} {mg mb : Str → Option Value} {ρ : List Addr} {σ : St} {s : Shared}
theorem cE.alloc {H : List O} (r : eh prog w ac ρ H s) {o : O} {ob : Obj} {t : Nat} (hf : ob.isFreed = false) (ho : z4 prog w (ρ ++ [s.heap.objs.size]) o ob) :
  cE prog w ac ρ H s (ρ ++ [s.heap.objs.size]) (H ++ [o]) { s with heap := s.heap.push ob, toks := t } :=
 ⟨r.alloc hf ho, ⟨[s.heap.objs.size], rfl, fun a ha => by simp at ha; subst ha; exact Heap.get?_none_of_le (Nat.le_refl _)⟩, fun a o e _ => ⟨o, Heap.get?_push_of_some _ e, .refl o⟩, ⟨rfl, rfl, rfl⟩⟩
theorem cE.live {ρ' : List Addr} {H H' : List O} {s' : Shared} (st : cE prog w ac ρ H s ρ' H' s') {a : Addr} (h : s.heap.get? a ≠ none) : s'.heap.get? a ≠ none := by
 obtain ⟨o, ho⟩ := Option.ne_none_iff_exists'.mp h
 by_cases hw : a ∈ ρ
 ·obtain ⟨m, e, _⟩ := st.ext
  have hm : a ∈ ρ' := e ▸ List.mem_append_left _ hw
  obtain ⟨l, hl, el⟩ := List.mem_iff_getElem.mp hm
  have e' : ρ'[l]? = some a := by rw [List.getElem?_eq_getElem hl, el]
  have hl2 : l < H'.length := st.rel.len ▸ hl
  obtain ⟨ob, h1, _⟩ := st.rel.obj l _ _ (List.getElem?_eq_getElem hl2) e'
  rw [h1]; simp
 ·obtain ⟨o', ho', _⟩ := st.pres a o ho hw
  rw [ho']; simp
noncomputable def gq (c : Nat) (mi : cX) : cX := fun vs H => match mi (.ref (H.length + 1) :: vs) (H ++ [.idict [], .inst c H.length []]) with
 | .ok .none τ => .ok (.ref (H.length + 1)) τ
 | .exc c as τ => .exc c as τ
 | _ => .bad
structure ni (K : Frag) (c : Nat) (fI : Addr) : Prop where
 m : makesIn K c = true
 i : findIn K (.ref c) "__init__" = some (some (.ref fI))
 f : typeIn K (.ref fI) = some (.type "function")
theorem kK {K : Frag} (X : K.In ac) {c : Nat} {fI : Addr} (G : ni K c fI) {k : Nat} {mi : cX} (hi : dy prog w ac k (.ref fI) av mi) : dy prog w ac (k + 1) (.ref c) av (gq c mi) := by
 intro A outer ρ H s vs xs hfr hq hd hu frs frm r ha hn
 have X' := X.keeps r.base
 have s1 := cE.alloc r (o := .idict []) (ob := emptyDict) (t := s.toks) rfl ⟨[], 0, rfl, rfl⟩
 have hl1 : (ρ ++ [s.heap.objs.size])[H.length]? = some s.heap.objs.size := bv r _
 have s2 := s1.rel
 have s3 := cE.alloc s2 (o := .inst c H.length []) (ob := instObj c s.heap.objs.size) (t := s.toks) rfl ⟨s.heap.objs.size, [], cq hl1, rfl, rfl⟩
 have st := s1.trans s3
 have hsz : ({ s with heap := s.heap.push emptyDict, toks := s.toks } : Shared).heap.objs.size = s.heap.objs.size + 1 := Heap.size_push ..
 have hlab : (ρ ++ [s.heap.objs.size] ++ [({ s with heap := s.heap.push emptyDict, toks := s.toks } : Shared).heap.objs.size])[H.length + 1]? = some (s.heap.objs.size + 1) := by
  have := bv s2 (({ s with heap := s.heap.push emptyDict, toks := s.toks } : Shared).heap.objs.size)
  rw [hsz] at this ⊢
  simpa using this
 have eH : H ++ [O.idict []] ++ [O.inst c H.length []] = H ++ [.idict [], .inst c H.length []] := by simp
 rw [eH] at st
 have vself : VR (ρ ++ [s.heap.objs.size] ++ [({ s with heap := s.heap.push emptyDict, toks := s.toks } : Shared).heap.objs.size]) (.ref (H.length + 1)) (.ref (s.heap.objs.size + 1)) := ⟨_, hlab, rfl⟩
 have hn' : mi (.ref (H.length + 1) :: vs) (H ++ [.idict [], .inst c H.length []]) ≠ .bad := fun q => hn (by unfold gq; rw [q])
 have frs' : z6 ac ((s.heap.push emptyDict).push (instObj c s.heap.objs.size)) outer := dt frs fun e he L hL o ho => ⟨o, Heap.get?_push_of_some _ (Heap.get?_push_of_some _ ho), .refl o⟩
 have frm' : ∀ L ∈ bD outer, L ∉ ρ ++ [s.heap.objs.size] ++ [({ s with heap := s.heap.push emptyDict, toks := s.toks } : Shared).heap.objs.size] := fun L hL hm => by
  obtain ⟨_, o, _, _, ho, _⟩ := frs.mem hL
  have hlt := Heap.lt_size ho
  rw [hsz] at hm
  simp only [List.append_assoc, List.mem_append, List.mem_cons, List.not_mem_nil, or_false] at hm
  rcases hm with h | h | h
  ·exact frm L hL h
  ·rw [h] at hlt; exact Nat.lt_irrefl _ hlt
  ·rw [h] at hlt; exact Nat.lt_irrefl _ (Nat.lt_of_succ_lt hlt)
 have body := hi (A.under (.builtin "type.__call__" ⟨.ref c :: xs, []⟩)) outer _ _ _ (.ref (H.length + 1) :: vs) (.ref (s.heap.objs.size + 1) :: xs) (by show A.frames = _; exact hfr) (by show A.handled = _; exact hq)
  (by rw [depth_under_kw]; lia) (by rw [units_under_make]; lia) frs' frm' st.rel (.cons vself (st.all ha)) hn'
 obtain ⟨hh, g, d, t, os⟩ := s
 refine make_core (makes_of X' G.m) (looks_findIn X' G.i) (fun self => bind_fn X' self G.f) (.inl rfl) (codeAny_mono body fun res s' hp => ?_)
 unfold gq at hn ⊢
 cases q : mi (.ref (H.length + 1) :: vs) (H ++ [.idict [], .inst c H.length []]) with
 | ok v τ =>
  rw [q] at hp hn
  obtain ⟨x, ρ', rfl, hv, st'⟩ := hp
  cases v <;> first | exact absurd rfl hn | skip
  cases hv
  obtain ⟨more, e, _⟩ := st'.ext
  have : VR ρ' (.ref (H.length + 1)) (.ref (hh.objs.size + 1)) := by rw [e]; exact vself.mono
  exact ⟨rfl, _, ρ', rfl, this, st.trans st'⟩
 | exc c as τ =>
  rw [q] at hp
  obtain ⟨e, ρ', rfl, hf, st'⟩ := hp
  exact ⟨_, ρ', rfl, hf.before fun a h => st.live h, st.trans st'⟩
 | bad => rw [q] at hp; exact hp.elim
end
section
variable {prog : Program} {w : World} {ac : Heap} {C : Cx} {mg mb : Str → Option Value} {ρ aw aK : List Addr} {σ ae aq : St} {s az aS : Shared}
theorem ro (st : Step prog w ac C ρ σ s aw ae az) {h' : Heap} {e : Addr} {cls : Value} {c : V} {as : List V} {vs : List Value} (hm : Heap.MadeExcOf az.heap h' e cls vs) (hc : VR aw c cls) (ha : bL aw as vs) :
  cG s.heap (zY C aw) aw c as (.ref e) h' := by
 obtain ⟨t, h1, h2, h3⟩ := hm.there
 have nw : ∀ {x : Addr}, az.heap.get? x = none → s.heap.get? x = none ∧ ¬ zY C aw x := fun {x} hx =>
  ⟨by
   cases q : s.heap.get? x with
   | none => rfl
   | some o => exact absurd hx (st.live (by rw [q]; simp)), fun ho => bo st.rel _ ho hx⟩
 exact ⟨e, _, _, t, vs, _, rfl, (nw hm.new).1, (nw hm.new).2, h1, hc, rfl, rfl, (nw h2).1, (nw h2).2, h3, ha, .inl rfl⟩
noncomputable def cJ (c : V) (ma : St → zZ (List V)) : St → zZ F := fun σ => (ma σ).bind fun vs ae => if vs.length ≤ sizeLine then .exc c vs ae else .bad
theorem p6 {x : Str} {c : Addr} {bm : List Value} {newId B initId : String} (O : OwnCls x c bm newId mg ac) (FB : ExcBaseFacts B newId initId bm) (hh : C.A.handled = none) {ma : St → zZ (List V)} {np cpos pos : Pos} {args : List Expr}
  (hn : bi prog w ac C (aa (.top c)) (eval (.Name x np) C.env)) (ha : bK prog w ac C ma cpos args) (hp : (backTo cpos (starEach args C.env)).any (·.1) = false) :
  gN prog w ac C (cJ (.top c) ma) (.Raise (some (.Call (.Name x np) args [] cpos)) none pos) := by
 intro ρ σ s r hb
 obtain ⟨tl, N, nm, q, bs, hdct, sn, sub, ab, col, dd, k0, k1, k2, k3, k5, mN, hC, hN, hni, T⟩ := O.obj
 refine wpAny_Raise_call_subT (C := c) (nm := nm) (q := q) (N := N) (bs := bs) (bm := tl) (hdct := hdct) (sn := sn) (sub := sub) (ab := ab) (col := col) (dd := dd) (k0 := k0) (k1 := k1) (k2 := k2) (k3 := k3) (k5 := k5)
  FB (mN := mN) (T.hasType FB.hasBase) hh hp hni (At.next (f := fun _ ae => cJ (.top c) ma ae) (hn.at r) rfl hb fun a ae aw az a' mR va au e => ?_)
 cases mR
 cases va
 rw [e] at hb ⊢
 refine ⟨rfl, cw hp ((ha.at au.rel).then au rfl hb fun b aq aK aS b' _ vb aJ st e => ?_)⟩
 rw [e] at hb ⊢
 split at hb
 ·rename_i hsz
  rw [if_pos hsz]
  have kb := st.rel.hp.base
  refine ⟨rfl, by rw [vb.length]; exact hsz, kb _ _ hC, hN.keeps kb, T.keeps kb, fun h' e hm => ?_⟩
  have st3 := st.rel.keep (s' := { aS with heap := h' }) hm.keeps ⟨rfl, rfl, rfl⟩
  exact ⟨aK, ro st hm rfl vb, st.trans st3⟩
 ·exact absurd rfl hb
theorem rK {a : Addr} (st : Step prog w ac C ρ σ s aw ae az) (ha : s.heap.get? a ≠ none) (hn : ¬ zY C ρ a) : ¬ zY C aw a := by
 rintro (h | h)
 ·obtain ⟨m, e, n⟩ := st.ext
  rw [e, List.mem_append] at h
  rcases h with h | h
  ·exact hn (.inl h)
  ·exact ha (n _ h)
 ·exact hn (.inr h)
theorem iS.fields {o o' : Obj} (h : iS o o') {vs : Array Value} (hd : o.data = .fields vs) : o' = o := by
 rcases h with h | ⟨⟨es, n, q⟩, _⟩
 ·exact h
 ·rw [hd] at q; cases q
theorem iS.seq {o o' : Obj} (h : iS o o') {vs : Array Value} {n : Nat} (hd : o.data = .seq vs n) : o' = o := by
 rcases h with h | ⟨⟨es, n, q⟩, _⟩
 ·exact h
 ·rw [hd] at q; cases q
theorem iS.plain {o o' : Obj} (h : iS o o') (hd : wR o) : o' = o := by
 rcases hd with ⟨vs, q⟩ | ⟨vs, n, q⟩
 ·exact h.fields q
 ·exact h.seq q
theorem cG.on {bG : Heap} {c : V} {as : List V} {e : Value} (f : cG bG (zY C aw) aw c as e az.heap) (st : Step prog w ac C aw ae az aK aq aS) : cG bG (zY C aK) aK c as e aS.heap :=
 f.map (fun _ h => st.vr h) (fun _ h => st.all h) fun a o h1 h2 h3 h4 => by
  obtain ⟨o', g1, g2⟩ := st.pres a o h3 h2
  exact ⟨h1, rK st (by rw [h3]; simp) h2, g2.plain h4 ▸ g1⟩
theorem kS (ok : C.Ok) {e : Value} : noteFrame e C.env = noteFrame e C.fenv := by
 unfold noteFrame PySem.frameOf
 rw [ok.frame]
theorem wH (ok : C.Ok) (r : zX prog w ac C ρ σ s) {L : Addr} (hL : C.fenv.frame = some L) (st : Step prog w ac C ρ σ s aw ae az) {c : V} {as : List V} {e : Value} (fl : cG s.heap (zY C aw) aw c as e az.heap) {Q : Unit → Shared → Prop} {E : Value → Shared → Prop}
  (k : ∀ h', Step prog w ac C ρ σ s aw ae { az with heap := h' } → cG s.heap (zY C aw) aw c as e h' → Q () { az with heap := h' }) :
  wpAny (model prog w) C.A (noteFrame e C.env) (fun _ s' => wpAny (model prog w) C.A (setFlight e none) Q E s') E az := by
 rw [kS ok]
 refine jh ok.fr hL st.rel.frs fl (bo st.rel) (fun a h => ?_) (fun a h => st.live h) fun h' k1 k2 fl' k3 => ?_
 ·obtain ⟨o, ho⟩ := Option.ne_none_iff_exists'.mp h
  rw [r.hp.base _ _ ho]; simp
 refine k h' ?_ fl'
 obtain ⟨ea, Ta, rfl, o1, o2, o3, o4, k3⟩ := k3
 have nb : ∀ {x}, s.heap.get? x = none → ac.get? x = none := fun {x} hx => by
  cases q : ac.get? x with
  | none => rfl
  | some o => rw [r.hp.base _ _ q] at hx; cases hx
 have isN : ∀ {x : Addr}, zY C aw x → x ≠ ea ∧ x ≠ Ta := fun hx => ⟨by rintro rfl; exact o1 hx, by rintro rfl; exact o2 hx⟩
 refine ⟨⟨st.rel.hp.keep fun a o ho hor => k2 a o ho (hor.elim (fun h => .inr h) fun h => .inl (.inl h)) fun hm' => ?_, ?_, st.rel.lnew, fun p hp => ?_, dt st.rel.frs fun e he L hL o ho => ?_, st.rel.frn, st.rel.locs⟩, st.ext, fun x o hx hn' => ?_, st.loc, st.rest⟩
 ·obtain ⟨e', he', hf'⟩ := List.mem_filterMap.mp hm'
  obtain ⟨_, L', o', es, n, hf'', hb', _, _⟩ := st.rel.frs e' he'
  rw [hf'] at hf''; cases hf''
  rcases hor with h | h
  ·exact h hb'
  ·exact (st.rel.frn e' he' a hf').1 h
 ·obtain ⟨m, hm, hv⟩ := st.rel.ns
  exact ⟨m, d7 hm fun o ho => k1 _ o ho (.inl (.inr (.inl rfl))), hv⟩
 ·obtain ⟨g1, g2, g3, v, ⟨o, ho, hd⟩, g5⟩ := st.rel.cel p hp
  obtain ⟨o', ho', hs⟩ := k1 _ o ho (.inl (.inr (.inr ⟨p, hp, rfl⟩)))
  refine ⟨g1, g2, g3, v, ⟨o', ho', ?_⟩, g5⟩
  rcases hs with rfl | ⟨_, sl, rfl⟩ <;> exact hd
 ·obtain ⟨_, L', o', es, n, hf', _, ho', hd'⟩ := st.rel.frs e he
  rw [hL] at hf'; cases hf'
  rw [ho] at ho'; cases ho'
  refine k1 L o ho (.inr (.inr ⟨?_, fun vs q => by rw [hd'] at q; cases q⟩))
  obtain ⟨a, oe, vs, t, xs, n', ea', _, _, hoe, _, hd, _⟩ := fl
  intro q
  rw [ea'] at q
  cases q
  rw [ho] at hoe; cases hoe
  rw [hd] at hd'; cases hd'
 ·obtain ⟨o', ho', hs⟩ := st.pres x o hx hn'
  obtain ⟨o'', ho'', hs'⟩ := k3 x o' ho' (by rintro rfl; rw [o3] at hx; cases hx) (by rintro rfl; rw [o4] at hx; cases hx)
  exact ⟨o'', ho'', hs.trans hs'⟩
theorem rE {A : Around} (r : zX prog w ac C ρ σ s) (st : Step prog w ac C ρ σ s aw ae az) {c : V} {as : List V} {e : Value} (fl : cG s.heap (zY C aw) aw c as e az.heap) {Q : Unit → Shared → Prop} {E : Value → Shared → Prop}
  (k : ∀ h', Step prog w ac C ρ σ s aw ae { az with heap := h' } → cG s.heap (zY C aw) aw c as e h' → Q () { az with heap := h' }) :
  wpAny (model prog w) A (setFlight e none) Q E az := by
 obtain ⟨a, oe, vs, t, xs, n, rfl, ha, hao, hoe, hc, hd, h0, ht, hto, htt, has, hv1⟩ := id fl
 have nb : ∀ {x}, s.heap.get? x = none → ac.get? x = none := fun {x} hx => by
  cases q : ac.get? x with
  | none => rfl
  | some o => rw [r.hp.base _ _ q] at hx; cases hx
 unfold setFlight
 rcases hv1 with h | ⟨T, oT, ts, h1, h2, h3, h4, h5, h6, h7⟩
 ·refine wpAny_bind (wpAny_field hoe hd h ?_)
  rw [if_neg (by decide)]
  exact wpAny_pure (k az.heap st fl)
 ·refine wpAny_bind (wpAny_field hoe hd h1 ?_)
  rw [if_pos (by simp)]
  refine wpAny_setField h5 h6 (Array.getElem?_eq_some_iff.mp h7).1 ?_
  have oth : ∀ b, b ≠ T → (az.heap.update T (Obj.mapFields (·.setIfInBounds 3 Value.none))).get? b = az.heap.get? b := fun b hb => Heap.get?_update_other _ _ (Ne.symm hb)
  have hTs := (Array.getElem?_eq_some_iff.mp h7).1
  refine k _ (st.butNew r h3 (fun hm => h4 (.inl hm)) (nb h3) (fun b o hb ho => (oth b hb).trans ho) az.toks) ?_
  refine ⟨a, oe, vs, t, xs, n, rfl, ha, hao, (oth a (Ne.symm h2)).trans hoe, hc, hd, h0, ht, hto, (oth t ?_).trans htt, has, .inr ⟨T, _, _, h1, h2, h3, h4, Heap.get?_update_self _ h5 (Obj.isFreed_of_fields (Obj.data_mapFields h6 _)), Obj.data_mapFields h6 _, by simp [hTs]⟩⟩
  rintro rfl; rw [htt] at h5; cases h5; cases h6
theorem Step.adopt (r : zX prog w ac C ρ σ s) (st : Step prog w ac C ρ σ s aw ae az) {c : V} {as : List V} {a : Addr} (fl : cG s.heap (zY C aw) aw c as (.ref a) az.heap) :
  ∃ t, Step prog w ac C ρ σ s (aw ++ [t, a]) { ae with heap := ae.heap ++ [.tup as, .exc c ae.heap.length] } az ∧ (aw ++ [t, a])[ae.heap.length + 1]? = some a := by
 obtain ⟨a', oe, vs, t, xs, n, e', ha, hao, hoe, hc, hd, h0, ht, hto, htt, has, hv1⟩ := fl
 cases e'
 have nb : ∀ {x}, s.heap.get? x = none → ac.get? x = none := fun {x} hx => by
  cases q : ac.get? x with
  | none => rfl
  | some o => rw [r.hp.base _ _ q] at hx; cases hx
 have hta : t ≠ a := by rintro rfl; rw [htt] at hoe; cases hoe; cases hd
 have hl := st.rel.hp.len
 have lab0 : (aw ++ [t, a])[ae.heap.length]? = some t := by rw [List.getElem?_append_right (by lia), ← hl]; simp
 have lab1 : (aw ++ [t, a])[ae.heap.length + 1]? = some a := by rw [List.getElem?_append_right (by lia), ← hl]; simp
 refine ⟨t, ⟨⟨⟨st.rel.hp.base, by simp [hl], fun l o x h e => ?_, ?_, fun x hx => ?_, fun l es ep x h e => ?_, st.rel.hp.main⟩, ?_, ⟨st.rel.lnew.1, fun hm => ?_⟩, fun p hp => ?_, st.rel.frs, fun e he L hL => ⟨fun hm => ?_, (st.rel.frn e he L hL).2⟩, st.rel.locs⟩, ?_, st.pres, st.loc, st.rest⟩, lab1⟩
 ·by_cases hlt : l < aw.length
  ·rw [List.getElem?_append_left hlt] at e
   rw [List.getElem?_append_left (by lia)] at h
   obtain ⟨ob, g1, g2⟩ := st.rel.hp.obj l o x h e
   exact ⟨ob, g1, g2.mono⟩
  ·rw [List.getElem?_append_right (by lia)] at h
   have : l = ae.heap.length ∨ l = ae.heap.length + 1 := by
    have := (List.getElem?_eq_some_iff.mp e).1
    simp at this; lia
   rcases this with rfl | rfl
   ·simp at h; subst h
    rw [lab0] at e; cases e
    exact ⟨_, htt, xs, n, rfl, has.mono⟩
   ·simp at h; subst h
    rw [lab1] at e; cases e
    exact ⟨_, hoe, t, vs, hc.mono, lab0, hd, h0⟩
 ·refine List.nodup_append.mpr ⟨st.rel.hp.nodup, by simp [hta], fun x hx y hy => ?_⟩
  simp at hy
  rcases hy with rfl | rfl
  ·rintro rfl; exact hto (.inl hx)
  ·rintro rfl; exact hao (.inl hx)
 ·rcases List.mem_append.mp hx with h | h
  ·exact st.rel.hp.new x h
  ·simp at h
   rcases h with rfl | rfl
   ·exact nb ht
   ·exact nb ha
 ·by_cases hlt : l < aw.length
  ·rw [List.getElem?_append_left hlt] at e
   rw [List.getElem?_append_left (by lia)] at h
   exact st.rel.hp.sys l es ep x h e
  ·rw [List.getElem?_append_right (by lia)] at h
   have : l = ae.heap.length ∨ l = ae.heap.length + 1 := by
    have := (List.getElem?_eq_some_iff.mp e).1
    simp at this; lia
   rcases this with rfl | rfl <;> simp at h
 ·obtain ⟨m, hm, hv⟩ := st.rel.ns
  exact ⟨m, hm, fun p hp => (hv p hp).mono⟩
 ·rcases List.mem_append.mp hm with h | h
  ·exact st.rel.lnew.2 h
  ·simp at h
   rcases h with h | h
   ·exact hto (.inr (.inl h.symm))
   ·exact hao (.inr (.inl h.symm))
 ·obtain ⟨g1, g2, g3, v, g4, g5⟩ := st.rel.cel p hp
  refine ⟨g1, fun hm => ?_, g3, v, g4, g5.mono⟩
  rcases List.mem_append.mp hm with h | h
  ·exact g2 h
  ·simp at h
   rcases h with h | h
   ·exact hto (.inr (.inr ⟨p, hp, h⟩))
   ·exact hao (.inr (.inr ⟨p, hp, h⟩))
 ·obtain ⟨_, L', o', es, k, hf', _, ho', hd'⟩ := st.rel.frs e he
  rw [hL] at hf'; cases hf'
  rcases List.mem_append.mp hm with h | h
  ·exact (st.rel.frn e he L hL).1 h
  ·simp at h
   rcases h with rfl | rfl
   ·rw [ho'] at htt; cases htt; cases hd'
   ·rw [ho'] at hoe; cases hoe; rw [hd'] at hd; cases hd
 ·obtain ⟨m, e1, n1⟩ := st.ext
  refine ⟨m ++ [t, a], by rw [e1, List.append_assoc], fun x hx => ?_⟩
  rcases List.mem_append.mp hx with h | h
  ·exact n1 x h
  ·simp at h
   rcases h with rfl | rfl
   ·exact ht
   ·exact ha
end
noncomputable def Cx.marked (C : Cx) (e : Addr) : Cx := { C with A := C.A.mark (some (.ref e)) }
section
variable {prog : Program} {w : World} {ac : Heap} {C : Cx} {mg mb : Str → Option Value} {ρ aw aK : List Addr} {σ ae aq : St} {s az aS : Shared} {e : Addr}
theorem Cx.Ok.marked (ok : C.Ok) (e : Addr) : (C.marked e).Ok := ⟨ok.fr, ok.kind, ok.glob, ok.bltn, ok.frame, ok.loc, ok.cel, ok.depth, ok.units, ok.uni, ok.unc, ok.dis⟩
theorem zX.marked (r : zX prog w ac C ρ σ s) (e : Addr) : zX prog w ac (C.marked e) ρ σ s := ⟨r.hp, r.ns, r.lnew, r.cel, r.frs, r.frn, r.locs⟩
theorem zX.unmarked (r : zX prog w ac (C.marked e) ρ σ s) : zX prog w ac C ρ σ s := ⟨r.hp, r.ns, r.lnew, r.cel, r.frs, r.frn, r.locs⟩
theorem Step.unmarked (st : Step prog w ac (C.marked e) ρ σ s aw ae az) : Step prog w ac C ρ σ s aw ae az := ⟨st.rel.unmarked, st.ext, st.pres, st.loc, st.rest⟩
noncomputable abbrev z5 := V → List V → St → zZ F
noncomputable def uQ (prog : Program) (w : World) (ac : Heap) (C : Cx) (hd : z5) (hs : List ExceptHandler) : Prop := ∀ ρ σ s aw ae az c as e, zX prog w ac C ρ σ s → Step prog w ac C ρ σ s aw ae az → cG s.heap (zY C aw) aw c as e az.heap → hd c as ae ≠ .bad → wpAny (model prog w) C.A (handleBy e C.env hs) (z3 prog w ac C FR ρ σ s (hd c as ae)) (z7 prog w ac C ρ σ s (hd c as ae)) az
noncomputable def lT (m : St → zZ F) (hd : z5) : St → zZ F := fun σ => match m σ with
 | .exc c as σ' => hd c as σ'
 | o => o
theorem jz (ok : C.Ok) {m : St → zZ F} {hd : z5} {body : List Stmt} {bG : ExceptHandler} {hs : List ExceptHandler} {pos : Pos} (hb : fY prog w ac C m body) (hh : uQ prog w ac C hd (bG :: hs)) :
  gN prog w ac C (lT m hd) (.Try body (bG :: hs) [] [] pos) := by
 intro ρ σ s r hn
 obtain ⟨_, L, _, _, _, hL, _⟩ := r.frs C.fenv (.head _)
 unfold lT at hn ⊢
 refine wpAny_Try_except (wpAny_mono (hb.at r fun q => hn (by rw [q])) (fun f az h => ?_) fun e az h => ?_)
 ·cases q : m σ with
  | ok f' ae =>
   rw [q] at h
   obtain ⟨aw, vf, st⟩ := h
   cases f' with
   | next => cases vf; exact wpAny_execs_nil (zx rfl st)
   | brk => cases vf; exact zx rfl st
   | cont => cases vf; exact zx rfl st
   | ret v => obtain ⟨x, rfl, hv⟩ := vf; exact zx ⟨x, rfl, hv⟩ st
  | exc => rw [q] at h; exact h.elim
  | bad => rw [q] at h; exact h.elim
 ·cases q : m σ with
  | exc c as ae =>
   rw [q] at h hn
   obtain ⟨aw, fl, st⟩ := h
   exact wH ok r hL st fl fun h' st' fl' => hh ρ σ s aw ae { az with heap := h' } c as e r st' fl' hn
  | ok => rw [q] at h; exact h.elim
  | bad => rw [q] at h; exact h.elim
noncomputable def ng (K : Frag) (cv : Value) (tbl : List (V × Bool)) : Prop := ∀ p ∈ tbl, ∃ x, (∀ ρ y, VR ρ p.1 y → y = x) ∧ exmOne K x cv = some p.2
noncomputable def gm (tbl : List (V × Bool)) (yes no : z5) : z5 := fun c as σ => match tbl.lookup c with
 | some true => yes c as σ
 | some false => no c as σ
 | none => .bad
noncomputable def kU (m : St → zZ F) : z5 := fun _ _ σ => (m σ).calm
noncomputable def asH (i : Nat) (m : St → zZ F) : z5 := fun c as σ => (m { loc := σ.loc.set i (some (.ref (σ.heap.length + 1))), heap := σ.heap ++ [.tup as, .exc c σ.heap.length] }).calm.bind fun f aq => .ok f { aq with loc := aq.loc.set i none }
noncomputable def uI : z5 := fun _ _ _ => .bad
theorem gV {hs : List ExceptHandler} : uQ prog w ac C uI hs := fun _ _ _ _ _ _ _ _ _ _ _ _ hb => absurd rfl hb
noncomputable def wQ (prog : Program) (w : World) (ac : Heap) (C : Cx) (hd : z5) (name : Option Str) (cQ : Stmt) (suite : List Stmt) (pos : Pos) : Prop :=
 ∀ ρ σ s aw ae az c as e, zX prog w ac C ρ σ s → Step prog w ac C ρ σ s aw ae az → cG s.heap (zY C aw) aw c as (.ref e) az.heap → hd c as ae ≠ .bad →
  codeAny (model prog w) (C.A.mark (some (.ref e))) (.handlers (.ref e) [.ExceptHandler none name (cQ :: suite) pos] C.env) (fun r aS => match r with
   | .ok f => (match name with
    | none => z3 prog w ac C FR ρ σ s (hd c as ae) f aS
    | some n => wpAny (model prog w) C.A (do bindName C.env n .none; unbindBehindTheSuite C.env n pos) (fun _ bF => z3 prog w ac C FR ρ σ s (hd c as ae) f bF) (z7 prog w ac C ρ σ s (hd c as ae)) aS)
   | .error x => cameBackBy (model prog w) C.A C.env (z7 prog w ac C ρ σ s (hd c as ae)) x aS) az
theorem kJ (ok : C.Ok) {K : Frag} (X : K.In ac) {cv : Value} {cl : V} {tbl : List (V × Bool)} (P : ng K cv tbl) {yes no : z5} {t : Expr} {name : Option Str} {cQ : Stmt} {suite : List Stmt} {pos : Pos} {rest : List ExceptHandler}
  (ht : ∀ C' : Cx, C'.Ok → C'.env = C.env → bi prog w ac C' (aa cl) (eval t C'.env)) (hv : ∀ ρ x, VR ρ cl x → x = cv)
  (hy : wQ prog w ac C yes name cQ suite pos) (hno : uQ prog w ac C no rest) : uQ prog w ac C (gm tbl yes no) (.ExceptHandler (some t) name (cQ :: suite) pos :: rest) := by
 intro ρ σ s aw ae az c as e r st fl hn
 obtain ⟨a, oe, vs, t', xs, n, rfl, ha, hao, hoe, hc, hd, h0, ht', hto, htt, has, hv1⟩ := id fl
 refine wpAny_handleBy_cons (codeAny_handlers_test ?_) (by intro q; cases q)
 have hev := ht (C.marked a) (ok.marked a) rfl
 refine At.calm (C := C.marked a) (o := aa cl ae) (hev.at (st.rel.marked a)) (by unfold aa; simp) fun b aq aK aS cv' jS vb aJ => ?_
 cases jS
 cases hv _ _ vb
 have aJ := aJ.unmarked
 have stt := st.trans aJ
 have fl2 := fl.on aJ
 obtain ⟨a', oe', vs', t2, xs', n', e', _, _, hoe', hc', hd', _⟩ := id fl2
 cases e'
 unfold gm at hn ⊢
 cases q : tbl.lookup c with
 | none => rw [q] at hn; exact absurd rfl hn
 | some b =>
  rw [q] at hn
  obtain ⟨x, hx1, hx2⟩ : ∃ x, (∀ ρ y, VR ρ c y → y = x) ∧ exmOne K x cv = some b := by
   obtain ⟨p, hp, e1, e2⟩ : ∃ p ∈ tbl, p.1 = c ∧ p.2 = b := by
    clear P hn fl fl2 hc hc'
    induction tbl with
    | nil => cases q
    | cons p l ih =>
     rw [show p = (p.1, p.2) from rfl, List.lookup_cons] at q
     cases hcp : c == p.1 with
     | true => rw [hcp] at q; cases q; exact ⟨p, .head _, (beq_iff_eq.mp hcp).symm, rfl⟩
     | false => rw [hcp] at q; obtain ⟨p', h1, h2⟩ := ih q; exact ⟨p', .tail _ h1, h2⟩
   have := P p hp
   rw [e1, e2] at this
   exact this
  have hcls := hx1 _ _ hc'
  have LT : Looks (model prog w) aS.heap (typeOf (.ref a)) x := by
   rw [← hcls]
   exact (Looks.ld (part := none) hoe').andThen .now
  refine (exm_one (X.keeps stt.rel.hp.base) LT hx2).here ?_
  cases b with
  | true => exact hy ρ σ s aK _ aS c as a r stt fl2 hn
  | false => exact hno ρ σ s aK _ aS c as (.ref a) r stt fl2 hn
theorem qr (ok : C.Ok) {m : St → zZ F} {cQ : Stmt} {suite : List Stmt} {pos : Pos} (hm : ∀ C' : Cx, C'.Ok → C'.env = C.env → C'.vars = C.vars → C'.cells = C.cells → C'.k = C.k → fY prog w ac C' m (cQ :: suite)) : wQ prog w ac C (kU m) none cQ suite pos := by
 intro ρ σ s aw ae az c as e r st fl hn
 refine codeAny_handlers_suite (rE r st fl fun h' st' fl' => ?_)
 unfold kU at hn ⊢
 refine At.calm (C := C.marked e) ((hm (C.marked e) (ok.marked e) rfl rfl rfl rfl).at (st'.rel.marked e)) hn fun f aq aK aS f' jS vf aJ => ?_
 rw [jS]
 exact zx vf (st'.trans aJ.unmarked)
theorem vG (ok : C.Ok) {m : St → zZ F} {n : Str} {i : Nat} (hx : (n, i) ∈ C.vars) {cQ : Stmt} {suite : List Stmt} {pos : Pos} (hm : ∀ C' : Cx, C'.Ok → C'.env = C.env → C'.vars = C.vars → C'.cells = C.cells → C'.k = C.k → fY prog w ac C' m (cQ :: suite)) : wQ prog w ac C (asH i m) (some n) cQ suite pos := by
 intro ρ σ s aw ae az c as e r st fl hn
 refine codeAny_handlers_suite_as (rE r st fl fun h' st' fl' => ?_)
 obtain ⟨t, st2, lab⟩ := st'.adopt r fl'
 have okm := ok.marked e
 have hx' : (n, i) ∈ (C.marked e).vars := hx
 have ha : VR (aw ++ [t, e]) (.ref (ae.heap.length + 1)) (.ref e) := ⟨e, lab, rfl⟩
 refine At.calm (C := C.marked e) (o := ao i (.ref (ae.heap.length + 1)) { ae with heap := ae.heap ++ [.tup as, .exc c ae.heap.length] }) (dW okm hx' _ _ _ _ _ (st2.rel.marked e) ha) (by unfold ao; simp) fun _ aT bZ bF _ e₃ _ b8 => ?_
 cases e₃
 unfold asH at hn ⊢
 have stt := st2.trans b8.unmarked
 refine At.calm (C := C.marked e) ((hm (C.marked e) okm rfl rfl rfl rfl).at (stt.rel.marked e)) (fun q => hn (by rw [q]; rfl)) fun f cg iX ke f' e₄ vf iY => ?_
 rw [e₄, zZ.bind_ok]
 have st5 := stt.trans iY.unmarked
 obtain ⟨mm, hmm, hv⟩ := st5.rel.ns
 refine wpAny_nameGoes_keeps (ok.loc _ hx) hmm (by rw [ok.kind]; rfl) fun h'' v hn' hs => ?_
 have hi : i ∈ C.idx := by unfold Cx.idx; exact List.mem_append_left _ (List.mem_map.mpr ⟨_, hx, rfl⟩)
 have hil := st5.rel.locs i hi
 have setn : ∀ j, ((cg.loc.set i none)[j]?).join = if i = j then none else (cg.loc[j]?).join := fun j => by
  rw [List.getElem?_set]
  by_cases e : i = j
  ·subst e; simp [hil]
  ·simp [e]
 have ot : ∀ {b : Addr}, b ≠ C.env.locals → h''.get? b = ke.heap.get? b := fun hb => hs.2 _ hb
 have r5 := st5.rel
 have st6 : Step prog w ac C iX cg ke iX { cg with loc := cg.loc.set i none } { ke with heap := h'', toks := ke.toks + 1 } := by
  refine ⟨⟨⟨fun b o e => (ot (by rintro rfl; rw [r5.lnew.1] at e; cases e)).trans (r5.hp.base b o e), r5.hp.len, fun l o a h e => ?_, r5.hp.nodup, r5.hp.new, r5.hp.sys, r5.hp.main⟩, ⟨_, hn', fun p hp => ?_⟩, r5.lnew, fun p hp => ?_, ?_, r5.frn, fun j hj => by simpa using r5.locs j hj⟩,
   ⟨[], by simp, by simp⟩, fun b o e hb => ⟨o, (ot fun q => hb (.inr (.inl q))).trans e, .refl o⟩, fun j hj => ?_, ⟨rfl, rfl, rfl⟩⟩
  ·obtain ⟨ob, h1, h2⟩ := r5.hp.obj l o a h e
   exact ⟨ob, (ot (by rintro rfl; exact r5.lnew.2 (List.mem_of_getElem? e))).trans h1, h2⟩
  ·have := hv p hp
   have hu := ok.uni (n, i) hx p hp
   dsimp only at hu ⊢
   rw [setn]
   by_cases e : i = p.2
   ·rw [if_pos e]; trivial
   ·rw [if_neg e, if_neg fun q => e (hu.mp q.symm)]
    exact this
  ·obtain ⟨g1, g2, g3, v0, ⟨o, ho, hd⟩, g5⟩ := r5.cel p hp
   refine ⟨g1, g2, g3, v0, ⟨o, (ot g3).trans ho, hd⟩, ?_⟩
   dsimp only
   rw [setn, if_neg (ok.dis (n, i) hx p hp)]
   exact g5
  ·intro e he
   obtain ⟨hk, L, o, es, n', hf, hb, ho, hd⟩ := r5.frs e he
   by_cases hL : L = C.env.locals
   ·subst hL
    obtain ⟨o', es', ep', ho', hd', _⟩ := hn'
    exact ⟨hk, _, o', es', ep', hf, hb, ho', hd'⟩
   ·exact ⟨hk, L, o, es, n', hf, hb, (ot hL).trans ho, hd⟩
  ·dsimp only
   rw [List.getElem?_set_ne]
   rintro rfl; exact hj hi
 have st7 := st5.trans st6
 cases f with
 | next => cases vf; exact zx rfl st7
 | brk => cases vf; exact zx rfl st7
 | cont => cases vf; exact zx rfl st7
 | ret v => obtain ⟨x, rfl, hv'⟩ := vf; exact zx ⟨x, rfl, hv'⟩ st7
end
section
variable {prog : Program} {w : World} {ac : Heap} {C : Cx} {mg mb : Str → Option Value} {ρ ct aw aK : List Addr} {σ cr ae aq : St} {s bg az aS : Shared}
noncomputable def zd : List (V → St → zZ Unit) → List V → St → zZ Unit
 | [], [], σ => .ok () σ
 | t :: ts, x :: xs, σ => (t x σ).bind fun _ ae => zd ts xs ae
 | _, _, _ => .bad
noncomputable def nf (prog : Program) (w : World) (ac : Heap) (C : Cx) : List (V → St → zZ Unit) → List (Value → Sem Unit) → Prop
 | [], [] => True
 | f :: fs, t :: ts => t9 prog w ac C fZ f t ∧ nf prog w ac C fs ts
 | _, _ => False
theorem uJ : ∀ {fs : List (V → St → zZ Unit)} {ts : List (Value → Sem Unit)} {vs : List V} {xs : List Value} {ρ : List Addr} {σ : St} {s : Shared}, nf prog w ac C fs ts → zX prog w ac C ρ σ s → bL ρ vs xs → At prog w ac C fZ ρ σ s (zd fs vs σ) (assignInOrder ts xs)
 | [], [], [], _, ρ, σ, s, _, r, ha, _ => by cases ha; exact wpAny_pure (zx trivial (.refl r))
 | [], [], _ :: _, _, _, _, _, _, _, _, hn => absurd rfl hn
 | _ :: _, _ :: _, [], _, _, _, _, _, _, _, hn => absurd rfl hn
 | f :: fs, t :: ts, v :: vs, _, ρ, σ, s, ⟨h1, h2⟩, r, ⟨x, xs, e, hv, hr⟩, hn => by
  subst e
  show wpAny _ _ (holding xs (t x) >>= _) _ _ s
  refine wpAny_bind (wpAny_holding (At.next (h1 ρ σ s v x r hv) rfl hn fun _ ae aw az _ _ _ au e => ?_))
  rw [e] at hn ⊢
  exact (uJ h2 au.rel (au.all hr)).trans au hn
 | [], _ :: _, _, _, _, _, _, h, _, _, _ => h.elim
 | _ :: _, [], _, _, _, _, _, h, _, _, _ => h.elim
theorem nf.len : ∀ {fs : List (V → St → zZ Unit)} {ts : List (Value → Sem Unit)}, nf prog w ac C fs ts → fs.length = ts.length
 | [], [], _ => rfl
 | _ :: _, _ :: _, ⟨_, h⟩ => by simp [nf.len h]
 | [], _ :: _, h => h.elim
 | _ :: _, [], h => h.elim
noncomputable def pI (fs : List (V → St → zZ Unit)) (v : V) (σ : St) : zZ Unit := gt v σ.heap fun _ xs => if xs.length = fs.length then zd fs xs σ else .bad
theorem uY (hh : C.A.handled = none) {fs : List (V → St → zZ Unit)} {elts : List Expr} {k : Nat} {pos : Pos} (hs : (assignEach elts C.env).findIdx? (·.1) = none) (ht : nf prog w ac C fs ((assignEach elts C.env).map (·.2))) : j5 prog w ac C (pI fs) (.Tuple elts k pos) := fun ρ σ s v v' r hv => t6 (t := fun v' => assign (.Tuple elts k pos) C.env v') r.hp hv fun l a xs vs n hl q h1 hvs => a8 fun hlen hn => by
 have il : IsTup s.heap a vs.toArray := ⟨_, h1, rfl, n, rfl⟩
 rw [assign_Tuple]
 refine wpAny_bind (wpAny_standAt ?_)
 unfold PySem.unpack
 rw [hs]
 have e : (assignEach elts C.env).length = vs.toArray.size := by
  have := ht.len
  simp only [List.length_map] at this
  simp [hvs.length, hlen, this]
 rw [e]
 refine wpAny_bind (wpAny_holding (unpackItems_tuple hh il fun h' hx => ?_))
 have st1 : Step prog w ac C ρ σ s ρ σ { s with heap := h' } := r.keep (fun b o e => hx b o (Nat.ne_of_lt (Heap.lt_size e)) e) ⟨rfl, rfl, rfl⟩
 exact (uJ ht st1.rel hvs).trans st1 hn
theorem Step.butN {N : Addr → Prop} (st : Step prog w ac C ct cr bg aw ae az) (ez : zX prog w ac C ct cr bg) {h' : Heap} (hN : ∀ I, N I → bg.heap.get? I = none ∧ I ∉ aw) (e : ∀ b o, ¬ N b → az.heap.get? b = some o → h'.get? b = some o) (tk : Nat) :
  Step prog w ac C ct cr bg aw ae { az with heap := h', toks := tk } := by
 have alive : ∀ {a : Addr}, bg.heap.get? a ≠ none → ¬ N a := fun h q => h (hN _ q).1
 refine ⟨⟨⟨fun b o' q => e b o' (alive (by rw [ez.hp.base b o' q]; simp)) (st.rel.hp.base b o' q), st.rel.hp.len, fun l o' a h1 h2 => ?_, st.rel.hp.nodup, st.rel.hp.new, st.rel.hp.sys, st.rel.hp.main⟩, ?_, st.rel.lnew, fun p hp => ?_, fun en he => ?_, st.rel.frn, st.rel.locs⟩,
  st.ext, fun a o' h1 h2 => ?_, st.loc, st.rest⟩
 ·obtain ⟨ob, h3, h4⟩ := st.rel.hp.obj l o' a h1 h2
  exact ⟨ob, e a ob (fun q => (hN _ q).2 (List.mem_of_getElem? h2)) h3, h4⟩
 ·obtain ⟨m, ⟨o', es, ep, h3, h4, h5⟩, hv⟩ := st.rel.ns
  exact ⟨m, ⟨o', es, ep, e _ _ (alive (bo ez _ (.inr (.inl rfl)))) h3, h4, h5⟩, hv⟩
 ·obtain ⟨g1, g2, g3, v, ⟨o', h3, h4⟩, g5⟩ := st.rel.cel p hp
  exact ⟨g1, g2, g3, v, ⟨o', e _ _ (alive (bo ez _ (.inr (.inr ⟨p, hp, rfl⟩)))) h3, h4⟩, g5⟩
 ·obtain ⟨hk, L, o', es, n, hf, hb', h3, h4⟩ := st.rel.frs en he
  obtain ⟨_, L0, o0, _, _, hf0, _, h0, _⟩ := ez.frs en he
  rw [hf] at hf0; cases hf0
  exact ⟨hk, L, o', es, n, hf, hb', e _ _ (alive (by rw [h0]; simp)) h3, h4⟩
 ·obtain ⟨o'', h3, h4⟩ := st.pres a o' h1 h2
  exact ⟨o'', e a o'' (alive (by rw [h1]; simp)) h3, h4⟩
noncomputable def dD (tk tx : V → St → zZ Unit) (body els : St → zZ F) (src : Option (Nat × O)) : Nat → List V → St → zZ F
 | _, [], σ => if dM src σ.heap then (els σ).calm else .bad
 | i, x :: xs, σ => if dM src σ.heap then (tk (.int i) σ).calm.bind fun _ ae => (tx x ae).calm.bind fun _ aq => (body aq).calm.bind fun f aT => match f with
   | .next | .cont => dD tk tx body els src (i + 1) xs aT
   | .brk => .ok .next aT
   | .ret v => .ok (.ret v) aT else .bad
noncomputable def rj (mi : St → zZ V) (tk tx : V → St → zZ Unit) (body els : St → zZ F) : St → zZ F := fun σ => (mi σ).bind fun v ae => gl v ae.heap fun l xs => dD tk tx body els (some (l, .list xs)) 0 xs ae
theorem pA {A : Around} (hh : A.handled = none) {elts : List Expr} {kk : Nat} {tp : Pos} {env : Env} {t1 t2 : Value → Sem Unit} {a : Addr} {x y : Value} {s : Shared} {Q : Unit → Shared → Prop} {E : Value → Shared → Prop} (hte : assignEach elts env = [(false, t1), (false, t2)]) (htup : IsTup s.heap a #[x, y])
  (k : ∀ h4, (∀ b o, b ≠ s.heap.objs.size → s.heap.get? b = some o → h4.get? b = some o) → wpAny (model prog w) A (t1 x) (fun _ s1 => wpAny (model prog w) A (t2 y) (fun _ s2 => Q () s2) E s1) E { s with heap := h4 }) : wpAny (model prog w) A (assign (.Tuple elts kk tp) env (.ref a)) Q E s := by
 rw [assign_Tuple]
 refine wpAny_bind (wpAny_standAt ?_)
 unfold PySem.unpack
 rw [hte, show List.findIdx? (fun x => x.1) ([(false, t1), (false, t2)] : List (Bool × (Value → Sem Unit))) = none from rfl, show ([(false, t1), (false, t2)] : List (Bool × (Value → Sem Unit))).length = (#[x, y] : Array Value).size from rfl]
 refine wpAny_bind (wpAny_holding (unpackItems_tuple hh htup fun h4 hx4 => ?_))
 show wpAny _ _ (holding [y] (t1 x) >>= fun _ => (holding [] (t2 y) >>= fun _ => pure ())) _ _ _
 exact wpAny_bind (wpAny_holding (wpAny_mono (k h4 hx4) (fun _ s1 h => wpAny_bind (wpAny_holding (wpAny_mono h (fun _ s2 h => wpAny_pure h) fun _ _ h => h))) fun _ _ h => h))
inductive EnI (prog : Program) (w : World) (ac : Heap) (C : Cx) (ρ : List Addr) (σ : St) (bg : Shared) (e it a : Addr) (ys : List V) (N : Nat → List V → St → zZ F) (v : zZ F) (k : Nat) (s' : Shared) : Prop
 | mk (ρ' : List Addr) (σ' : St) (i : Nat) (old : Value) (xs : List V) (st : Step prog w ac C ρ σ bg ρ' σ' s') (hE : IsEnum s'.heap e it (i : Int) old) (hI : s'.heap.IsListIter it a i) (hd : ys.drop i = xs) (he : e ∉ ρ') (hi : it ∉ ρ') (hk : k = xs.length) (hf : N i xs σ' = v)
theorem t8 (ok : C.Ok) (hh : C.A.handled = none) {tk tx : V → St → zZ Unit} {body els : St → zZ F} {elts : List Expr} {kk : Nat} {tp : Pos} {b z : List Stmt} {t1 t2 : Value → Sem Unit} (hte : assignEach elts C.env = [(false, t1), (false, t2)]) (h1t : t9 prog w ac C fZ tk t1) (h2t : t9 prog w ac C fZ tx t2)
  (hb : fY prog w ac C body b) (he : fY prog w ac C els z)
  {e it a : Addr} {l : Nat} {ys : List V} {ρ : List Addr} {σ : St} {bg s : Shared} (ez : zX prog w ac C ρ σ bg) (st : Step prog w ac C ρ σ bg ρ σ s) (hE : IsEnum s.heap e it 0 .none) (hI : s.heap.IsListIter it a 0) (hsrc : j0 (some (l, .list ys)) a ρ σ.heap)
  (hei : e ≠ it) (heρ : e ∉ ρ) (hiρ : it ∉ ρ) (he0 : bg.heap.get? e = none) (hi0 : bg.heap.get? it = none) {v : zZ F} (hf : dD tk tx body els (some (l, .list ys)) 0 ys σ = v) (hn : v ≠ .bad) :
  codeAny (model prog w) C.A (.forLoop (.Tuple elts kk tp) (.ref e) b z C.env) (fun r s' => ∃ f, r = .ok f ∧ z3 prog w ac C FR ρ σ bg v f s') s := by
 refine codeAny_forLoop_any (I := EnI prog w ac C ρ σ bg e it a ys (dD tk tx body els (some (l, .list ys))) v)
  (fun k s' ⟨ρ', σ', i, old, xs, st', hE', hI', hd, heρ', hiρ', hk, hf⟩ => ?_) ys.length ⟨ρ, σ, 0, .none, ys, st, hE, hI, rfl, heρ, hiρ, rfl, hf⟩
 have ext : ∃ more, ρ' = ρ ++ more := let ⟨m, e, _⟩ := st'.ext; ⟨m, e⟩
 have hNN : ∀ I, (I = e ∨ I = it) → bg.heap.get? I = none ∧ I ∉ ρ' := fun I h => h.elim (fun h => h ▸ ⟨he0, heρ'⟩) fun h => h ▸ ⟨hi0, hiρ'⟩
 cases xs with
 | nil =>
  obtain ⟨hs, hf⟩ := fq hf hn
  obtain ⟨g1, g2⟩ := (hsrc.ext ext (eT hs)) l (.list ys) rfl
  obtain ⟨ob, g3, vs, n, rfl, hv⟩ := st'.rel.hp.obj _ _ _ g1 g2
  refine wpAny_pyNext_enum_end hh hE' hI' ⟨_, g3, rfl, n, rfl⟩ (by have := eZ hd; simp [hv.length]; exact this) fun h' hx => ?_
  have st1 := st'.butN (N := fun I => I = e ∨ I = it) ez hNN (h' := h') (fun b o hb ho => hx b o (fun q => hb (.inr q)) ho) s'.toks
  exact (he.at st1.rel).calm (fun q => hn (hf.symm.trans q)) fun f aq aK aS f' jS vf aJ => ⟨_, rfl, (jS.symm.trans hf) ▸ zx vf (st1.trans aJ)⟩
 | cons y xs =>
  obtain ⟨hs, hf⟩ := fq hf hn
  obtain ⟨g1, g2⟩ := (hsrc.ext ext (eT hs)) l (.list ys) rfl
  obtain ⟨ob, g3, vs, n, rfl, hv⟩ := st'.rel.hp.obj _ _ _ g1 g2
  obtain ⟨d1, d2, d3⟩ := dS hd
  obtain ⟨v', hv1, hv2⟩ := hv.get d1
  refine wpAny_pyNext_enum_item hE' hI' ⟨_, g3, rfl, n, rfl⟩ (x := v') (by simpa using hv1) hei fun h2 heo hit2 htup hsz hk2 => ?_
  have sta := st'.butN (N := fun I => I = e ∨ I = it) ez hNN (h' := h2) (fun b o hb ho => hk2 b o (fun q => hb (.inl q)) (fun q => hb (.inr q)) ho) (s'.toks + 1)
  refine wpAny_letOwnedTupleGo_enum heo fun h3 hE3 hs3 => ?_
  have stb := sta.butN (N := fun I => I = e ∨ I = it) ez hNN (h' := h3) (fun b o hb ho => (hs3.2 b (fun q => hb (.inl q))).trans ho) (s'.toks + 1)
  refine pA hh hte (x := .int i s'.toks) (y := v') ⟨_, (hs3.2 _ (Nat.ne_of_gt (Heap.lt_size hE'))).trans htup, rfl, _, rfl⟩ fun h4 hx4 => ?_
  have old4 : ∀ b o, h3.get? b = some o → h4.get? b = some o := fun b o e => hx4 b o (Nat.ne_of_lt (Heap.lt_size e)) e
  have stc := stb.trans (stb.rel.keep (s' := { s' with heap := h4, toks := s'.toks + 1 }) old4 ⟨rfl, rfl, rfl⟩)
  have hE4 := old4 _ _ hE3
  have hI4 : h4.IsListIter it a (i + 1) := (hit2.at fun o ho => (hs3.2 it (Ne.symm hei)).trans ho).at fun o ho => old4 it o ho
  have vk : VR ρ' (.int i) (.int i s'.toks) := ⟨_, rfl⟩
  refine At.calmF (h1t ρ' σ' _ _ _ stc.rel vk) hf hn fun _ ae aw az _ _ au hf => ?_
  refine At.calmF (h2t aw ae _ _ _ au.rel (au.vr hv2)) hf hn fun _ aq aK aS _ _ aJ hf => ?_
  refine (hb.at aJ.rel).calmF hf hn fun f aT bZ bF f' vf b8 hf => ?_
  have s123 := (au.trans aJ).trans b8
  have stt := stc.trans s123
  have nx : dD tk tx body els (some (l, .list ys)) (i + 1) xs aT = v → ∃ k', k' < k ∧ EnI prog w ac C ρ σ bg e it a ys (dD tk tx body els (some (l, .list ys))) v k' bF := fun hf => by
   obtain ⟨oi4, hoi4, hci4, hdi4⟩ := id hI4
   obtain ⟨k1, k2⟩ := s123.same stc.rel heρ' hE4 rfl
   obtain ⟨k3, k4⟩ := s123.same stc.rel hiρ' hoi4 hdi4
   exact ⟨_, hk ▸ Nat.lt_succ_self _, bZ, aT, i + 1, v', xs, stt, k1.trans hE4, hI4.at fun o ho => k3.trans ho, d2, k2, k4, rfl, hf⟩
  cases f with
  | next => cases vf; exact nx hf
  | cont => cases vf; exact nx hf
  | brk => cases vf; exact ⟨_, rfl, hf ▸ zx rfl stt⟩
  | ret v => exact match vf with | ⟨x, e, hv'⟩ => e ▸ ⟨_, rfl, hf ▸ zx ⟨x, rfl, hv'⟩ stt⟩
theorem qe (ok : C.Ok) (hh : C.A.handled = none) {mi : St → zZ V} {tk tx : V → St → zZ Unit} {body els : St → zZ F} {elts : List Expr} {kk : Nat} {tp np cpos pos : Pos} {x : Str} {arg : Expr} {b z : List Stmt} {t1 t2 : Value → Sem Unit} (hte : assignEach elts C.env = [(false, t1), (false, t2)]) (h1t : t9 prog w ac C fZ tk t1) (h2t : t9 prog w ac C fZ tx t2)
  (hn0 : bi prog w ac C (aa (.type "enumerate")) (eval (.Name x np) C.env)) (ha : bi prog w ac C mi (eval arg C.env)) (hse : starEach [arg] C.env = [(false, eval arg C.env)])
  (hb : fY prog w ac C body b) (he : fY prog w ac C els z) (hs : ∀ x', foldedSetIterable (.Call (.Name x np) [arg] [] cpos) C.env x' = pure x') :
  gN prog w ac C (rj mi tk tx body els) (.For (.Tuple elts kk tp) (.Call (.Name x np) [arg] [] cpos) b z pos) := by
 intro ρ σ s r hn
 refine wpAny_For (wpAny_Call_ofName (At.next (f := fun _ ae => rj mi tk tx body els ae) (hn0.at r) rfl hn fun a ae aw az a' mR va au e => ?_)) hs
 cases mR
 cases va
 rw [e] at hn ⊢
 rw [hse]
 refine PySem.callWith_type rfl (Calls.evalArgs_plain (spliced_cons ((ha.at au.rel).then au rfl hn fun v aq aK aS v' _ vv aJ st e => spliced_nil ?_)))
 rw [e] at hn ⊢
 obtain ⟨l, ys, rfl, q⟩ := ym hn
 obtain ⟨a, hl, rfl⟩ := vv
 have eg : gl (.ref l) aq.heap (fun l xs => dD tk tx body els (some (l, .list xs)) 0 xs aq) = dD tk tx body els (some (l, .list ys)) 0 ys aq := iF (k := fun l o => gO (zN o) fun xs => dD tk tx body els (some (l, .list xs)) 0 xs aq) q
 rw [eg] at hn ⊢
 obtain ⟨ob, h1, vs, n, rfl, hv⟩ := st.rel.hp.obj _ _ _ q hl
 have il : aS.heap.IsList a vs.toArray := ⟨_, h1, rfl, n, rfl⟩
 refine call_enumerate_list il fun h' hE hI hsz hk => ?_
 have st3 : Step prog w ac C aK aq aS aK aq { aS with heap := h' } := st.rel.keep hk ⟨rfl, rfl, rfl⟩
 refine wpAny_pyIter_enum hE ?_
 have z1 : aS.heap.get? (aS.heap.objs.size + 1) = none := Heap.get?_none_of_le (Nat.le_succ _)
 have z0 : aS.heap.get? aS.heap.objs.size = none := Heap.get?_none_of_le (Nat.le_refl _)
 have nρ : ∀ {x}, aS.heap.get? x = none → x ∉ aK := fun hx hm => bo st.rel _ (.inl hm) hx
 refine codeAny_mono (t8 ok hh hte h1t h2t hb he st.rel st3 hE hI (fun l' o' e' => by cases e'; exact ⟨q, hl⟩) (Nat.succ_ne_self _) (nρ z1) (nρ z0) z1 z0 rfl hn) fun r s' ⟨f, e, h⟩ => ?_
 subst e
 exact z3.trans st h
end
section
variable {prog : Program} {w : World} {ac : Heap} {C : Cx} {mg mb : Str → Option Value} {ρ ct aw aK : List Addr} {σ cr ae aq : St} {s bg az aS : Shared}
theorem fA (a : Addr) (items : Array Value) (n : Nat) (hz : (items.size : Int) < 2 ^ 63) :
  Meets (Builtin.«bool.__new__» ⟨[.type "bool", .ref a], []⟩) (fun _ R s => s.heap.get? a = some { cls := .type "list", data := .seq items n } ∧ ∀ k, R (.ok (.ret (.bool (!items.isEmpty)))) { s with toks := k }) :=
 Meets.of_wp fun prog w A R s hs => by
  obtain ⟨ho, hs⟩ := hs
  obtain ⟨hp, g, d, tk, os⟩ := s
  have f1 := PySem.F.conv_sub_bool
  have il : Heap.IsList hp a items := ⟨_, ho, rfl, n, rfl⟩
  repeat (any_goals (first | assumption | (with_reducible refine wpAny_truthy_list (s := ⟨hp, g, d, tk, os⟩) il hz ?_) | wp_step))
  all_goals first | exact ⟨_, rfl, hs _⟩ | exact hs _ | skip
theorem ss : cR prog w ac C (.type "bool") av wB := fun ρ σ s vs xs r ha =>
 dw (t := fun xs => call (.type "bool") xs) ha fun v x hv => fD (t := fun x => call (.type "bool") [x]) r.hp hv fun l a ys vs n _ _ h1 hv => a8 fun h _ => by
  refine call_bool_1 (fA a vs.toArray n (show (vs.length : Int) < 2 ^ 63 from hv.length ▸ h)) ⟨h1, fun k => ?_⟩
  show wants (fun obj az => az.TypeIs obj "bool" ∧ _) _ _ _
  exact ⟨rfl, zx (congrArg Value.bool (eL hv)) (r.toks _)⟩
noncomputable def mJ (vs : List V) (σ : St) : zZ V := g1 vs fun v => gl v σ.heap fun l _ => .ok (.ref σ.heap.length) { σ with heap := σ.heap ++ [.liter l 0] }
theorem sk : cR prog w ac C (.builtin "iter") av mJ := fun ρ σ s vs xs r ha =>
 dw (t := fun xs => call (.builtin "iter") xs) ha fun v x hv => fD (t := fun x => call (.builtin "iter") [x]) r.hp hv fun l a ys vs n hx _ h1 _ _ => by
  have il : s.heap.IsList a vs.toArray := ⟨_, h1, rfl, n, rfl⟩
  refine Calls.call_function_entry (by decide +kernel) (by decide +kernel) kdk_entry_iter (kdk_args_iter _) ?_
  unfold Builtin.«iter»
  refine wpAny_bind (m := someArgs "iter" 1 2 _) (wpAny_of_eq (a := [Value.ref a]) (by first | rfl | kernel_rfl!) ?_)
  show wpAny _ _ (pyIter (.ref a) >>= _) _ _ _
  refine wpAny_bind (wpAny_pyIter_list il (wpAny_pure ⟨_, rfl, ?_⟩))
  exact zx (ρ' := ρ ++ [s.heap.objs.size]) ⟨_, bv r.hp _, rfl⟩ (r.alloc (t := s.toks) rfl ⟨a, cq hx, rfl⟩)
noncomputable def sortI (ns : List Int) : List Int := ns.mergeSort (· ≤ ·)
noncomputable def gb (vs : List V) (σ : St) : zZ V := g1 vs fun v => gt v σ.heap fun _ xs => gO (fP xs) fun ns => if ns.length < 64 then .ok (.ref σ.heap.length) { σ with heap := σ.heap ++ [.list ((sortI ns).map .int)] } else .bad
theorem kn {ns ns' : List Int} (hp : ns'.Perm ns) (hs : ns'.Pairwise (· ≤ ·)) : ns' = sortI ns := by
 have h1 : (sortI ns).Perm ns := List.mergeSort_perm ns _
 have h2 : (sortI ns).Pairwise (· ≤ ·) := by
  have := List.pairwise_mergeSort (le := fun a b : Int => decide (a ≤ b)) (by intro a b c; simp; lia) (by intro a b; simp; lia) ns
  refine this.imp ?_
  intro a b h; simpa using h
 exact (hp.trans h1.symm).eq_of_pairwise (fun a b _ _ h1 h2 => Int.le_antisymm h1 h2) hs h2
theorem mK {ρ : List Addr} : ∀ {xs : List Value} {ns : List Int}, IntsAre xs ns → bL ρ (ns.map .int) xs
 | _, _, .nil => .nil
 | _, _, .cons n t h => .cons ⟨t, rfl⟩ (mK h)
theorem oJ : cR prog w ac C (.builtin "sorted") av gb := fun ρ σ s vs xs r ha =>
 dw (t := fun xs => call (.builtin "sorted") xs) ha fun v x hv => t6 (t := fun x => call (.builtin "sorted") [x]) r.hp hv fun l a ys vs n _ _ h1 hv => bA fun ns hi => a8 fun h64 _ => by
  have hI := iC hv hi
  have hl : vs.length = ns.length := IntsAre.length hI
  refine Calls.call_function_entry kind_sorted plain_sorted entry_sorted (args_sorted1 _) ?_
  unfold Builtin.«sorted»
  refine wpAny_bind (m := checkCount "sorted" 1 1 _) (wpAny_pure ?_)
  refine wpAny_bind (wpAny_collect_seq a (.inr rfl) h1 rfl rfl (fun h' hk => ?_) (by simp [hl]; exact Nat.le_trans (Nat.le_of_lt h64) (by decide)))
  refine wpAny_bind (wpAny_newList ?_ (by simp [hl]; exact Nat.le_trans (Nat.le_of_lt h64) (by decide)))
  have st0 : Step prog w ac C ρ σ s ρ σ { s with heap := h' } := r.keep hk ⟨rfl, rfl, rfl⟩
  have st1 := st0.rel.alloc (o := .list (ns.map .int)) (ob := seqObj "list" vs.toArray 0) (t := s.toks) rfl ⟨vs, 0, rfl, mK hI⟩
  have hoL : (h'.push (seqObj "list" vs.toArray 0)).get? h'.objs.size = some (seqObj "list" vs.toArray 0) := Heap.get?_push_size _ rfl
  refine wpAny_bind (wpAny_holding (wpAny_call_entry slot_list_sort ⟨_, hoL, rfl⟩ entry_list_sort (list_sort_tree (s := { s with heap := h'.push (seqObj "list" vs.toArray 0) }) (a := h'.objs.size) (vs := vs) hoL hI (by lia) fun out ns' a1 a2 a3 => ⟨_, rfl, ?_⟩) (args_list_sort _)))
  refine wpAny_pure ⟨_, rfl, ?_⟩
  have e := kn a2 a3
  have hlab : (ρ ++ [h'.objs.size])[σ.heap.length]? = some h'.objs.size := bv st0.rel.hp _
  have hlt : h'.objs.size < (h'.push (seqObj "list" vs.toArray 0)).objs.size := Heap.lt_size hoL
  have r1 := st1.rel
  have s2 := r1.upd (l := σ.heap.length) (o := .list []) (h' := (h'.push (seqObj "list" vs.toArray 0)).update h'.objs.size (Obj.mapSeq fun _ => #[])) (t := s.toks) hlab (Heap.SameBut.update ..) (Heap.get?_update_self _ hoL rfl) ⟨[], _, rfl, .nil⟩
  have s3 := s2.rel.grow (seqObj "tuple" vs.toArray 0) s.toks
  have s4 := s3.rel.grow (seqObj "list" #[] 0) s.toks
  obtain ⟨ob5, g5, vs5, n5, rfl, hv5⟩ := s4.rel.hp.obj σ.heap.length (.list []) _ (by simp) hlab
  have s5 := s4.rel.upd (l := σ.heap.length) (o := .list ((sortI ns).map .int)) (h' := sortedHeap (h'.push (seqObj "list" vs.toArray 0)) h'.objs.size vs out) (t := s.toks) hlab (Heap.SameBut.update ..) (Heap.get?_update_self _ g5 rfl) ⟨out.toList, _, by simp [Obj.mapSeq]; rfl, by rw [← e]; exact mK a1⟩
  have stt := st0.trans ((st1.trans s2).trans (s3.trans (s4.trans s5)))
  have hset : (((σ.heap ++ [O.list (ns.map V.int)]).set σ.heap.length (.list [])).set σ.heap.length (.list ((sortI ns).map .int))) = σ.heap ++ [.list ((sortI ns).map .int)] := by
   rw [List.set_append_right _ _ (Nat.le_refl _)]; simp
  dsimp only at stt
  rw [hset] at stt
  exact zx ⟨_, hlab, rfl⟩ stt
theorem nr {ρ : List Addr} : ∀ (l : List (Str × Tok)), bL ρ ((l.map (·.1)).map .str) (strValues l)
 | [] => .nil
 | p :: l => .cons ⟨p.2, rfl⟩ (nr l)
noncomputable def ia (v : V) (vs : List V) (σ : St) : zZ V := gS v fun x => g1 vs fun a => gS a fun y => if y.length ≠ 0 ∧ x.length ≤ 1000 then .ok (.ref σ.heap.length) { σ with heap := σ.heap ++ [.list ((Txt.split x y).map .str)] } else .bad
theorem gn : ex prog w ac C "str" "split" "str.split" bH ia where
 pa := F.plainAttrs_str
 slot := F.slot_str_split
 ty := F.type_str_split
 self := fun ρ H s v v' r hv hc => fM hv hc
 call := fun ρ σ s v v' vs xs r hv ha => dB (t := fun x => call (.builtin "str.split") (x :: xs)) hv fun x t => dw (t := fun xs => call (.builtin "str.split") (.str x t :: xs)) ha fun v z hz => dB (t := fun z => call (.builtin "str.split") [.str x t, z]) hz fun y u => a8 fun h _ => by
  have hy : (y.length == 0) = false := by simpa using h.1
  have hsz : x.length ≤ sizeLine := Nat.le_trans h.2 (by decide)
  have fin : ∀ (l : List (Str × Tok)) (k : Nat), l.map (·.1) = Txt.split x y → z3 prog w ac C VR ρ σ s (.ok (.ref σ.heap.length) { σ with heap := σ.heap ++ [.list ((Txt.split x y).map .str)] }) (.ref s.heap.objs.size) { s with toks := k, heap := s.heap.push { cls := .type "list", data := .seq (strValues l).toArray } } := fun l k e =>
   zx (ρ' := ρ ++ [s.heap.objs.size]) ⟨_, bv r.hp _, rfl⟩ (r.alloc (t := k) rfl ⟨strValues l, 0, rfl, e ▸ nr l⟩)
  cases h1 : (decide (x.length < y.length) || decide (Builtin.Str.strKind x < Builtin.Str.strKind y))
  ·cases hf : (Builtin.Str.occurrences x y 0 x.length (x.length + 1)).isEmpty
   ·have hl := StrLaws.occ_length_le x y 0 x.length (x.length + 1)
    have hp : (Builtin.Str.partsBetween x (Builtin.Str.occurrences x y 0 x.length (x.length + 1)) y.length).length ≤ sizeLine := by
     unfold Builtin.Str.partsBetween
     simp only [List.length_map, List.length_zip, List.length_cons, List.length_append, List.length_nil]
     have : (1003 : Nat) ≤ sizeLine := by decide
     lia
    refine call_meets F.slot_str_split (typeIs_str _ _ _) F.entry_str_split (F.args_str_split_2 _ _) (meets_str_split_sep x y t u h1 hy hf hsz hp) ?_
    show wants _ _ _ { s with toks := _, heap := s.heap.push { cls := .type "list", data := .seq (strsFrom s.toks (Builtin.Str.partsBetween x (Builtin.Str.occurrences x y 0 x.length (x.length + 1)) y.length)).toArray } }
    rw [strsFrom_eq]
    exact fin (numbered s.toks _) _ ((numbered_texts _ _).trans ((if_neg (ne_true_of_eq_false h1)).trans (if_neg (ne_true_of_eq_false hf))).symm)
   ·exact call_meets F.slot_str_split (typeIs_str _ _ _) F.entry_str_split (F.args_str_split_2 _ _) (meets_str_split_not_found x y t u h1 hy hf)
     (fin [(x, t)] s.toks ((if_neg (ne_true_of_eq_false h1)).trans (if_pos hf)).symm)
  ·exact call_meets F.slot_str_split (typeIs_str _ _ _) F.entry_str_split (F.args_str_split_2 _ _) (meets_str_split_cannot_occur x y t u h1)
    (fin [(x, t)] s.toks (if_pos h1).symm)
noncomputable def pT : List V → Option (List Str)
 | [] => some []
 | v :: vs => (zL v).bind fun x => (pT vs).map (x :: ·)
theorem pU : ∀ {vs : List V} {xs : List Value} {ns : List Str}, bL ρ vs xs → pT vs = some ns → StrsAre xs ns
 | [], _, _, h, e => by cases h; cases e; exact .nil
 | v :: vs, _, ns, ⟨x, r, e, hv, hr⟩, h => by
  subst e
  obtain ⟨i, hi, h⟩ := Option.bind_eq_some_iff.mp h
  obtain ⟨ns', h', rfl⟩ := Option.map_eq_some_iff.mp h
  cases bR lI hi
  obtain ⟨t, rfl⟩ := hv
  exact .cons i t (pU hr h')
noncomputable def tL (v : V) (vs : List V) (σ : St) : zZ V := gS v fun x => g1 vs fun a => gl a σ.heap fun _ xs => gO (pT xs) fun ys => if (ys.map (·.length)).sum + ys.length * x.length ≤ 16777216 then .ok (.str (Txt.join x ys)) σ else .bad
theorem kY : ex prog w ac C "str" "join" "str.join" bH tL where
 pa := F.plainAttrs_str
 slot := F.slot_str_join
 ty := F.type_str_join
 self := fun ρ H s v v' r hv hc => fM hv hc
 call := fun ρ σ s v v' vs xs r hv ha => dB (t := fun x => call (.builtin "str.join") (x :: xs)) hv fun x t => dw (t := fun xs => call (.builtin "str.join") (.str x t :: xs)) ha fun v z hz => fD (t := fun z => call (.builtin "str.join") [.str x t, z]) r.hp hz fun l a ys vs n _ _ h1 hv => bA fun ts hi => a8 fun h _ =>
  join_list (items := vs.toArray) ⟨_, h1, rfl, n, rfl⟩ (pU hv hi) h fun t' k => zx ⟨_, rfl⟩ (r.toks _)
noncomputable def mW : St → zZ V := fun σ => .ok (.ref σ.heap.length) { σ with heap := σ.heap ++ [.dict [] 0] }
theorem kE {pos : Pos} : bi prog w ac C mW (eval (.Dict [] [] pos) C.env) := by
 intro ρ σ s r hn
 refine wpAny_Dict_empty (zx (ρ' := ρ ++ [s.heap.objs.size]) ⟨_, bv r.hp _, rfl⟩ (r.alloc (t := s.toks) rfl ⟨[], ⟨#[], 0, ⟨rfl, rfl, rfl⟩, rfl, ?_, ?_, ?_⟩, rfl, #[], rfl⟩))
 ·intro e he; simp at he
 ·exact .nil
 ·simp
theorem qd {m : St → zZ V} {v : Expr} {pos : Pos} (h : bi prog w ac C m (eval v C.env)) : bi prog w ac C m (eval (.JoinedStr [v] pos) C.env) := fun ρ σ s r hn => JoinedStr_one (h ρ σ s r hn)
end
theorem tI : typeLookup (.type "list_iterator") "__getattribute__" = pure (some (.builtin "object.__getattribute__")) := by rw [typeLookup_type, builtinLookup_eq_fast]; kernel_rfl
theorem gf : Slot "list_iterator" "__getattribute__" "object.__getattribute__" :=
 .of (owner := "object") (n := "__getattribute__") (by rw [typeLookup_type, builtinLookup_eq_fast]; kernel_rfl) (by decide +kernel) (by decide +kernel) (by decide +kernel)
  (by first | exact .inl (by decide +kernel) | exact .inr (by decide +kernel)) (by rw [isSubtype_type]; kernel_rfl)
theorem pt (x : Value) : bindSpecial (.builtin "object.__getattribute__") x = pure (.builtin "object.__getattribute__", [x]) := by first | exact gf.bind x | kernel_rfl
theorem fh : typeOf (.builtin "list_iterator.__next__") = pure (.type "wrapper_descriptor") := by kernel_rfl
theorem fx : Slot "wrapper_descriptor" "__get__" "wrapper_descriptor.__get__" :=
 .of (owner := "wrapper_descriptor") (n := "__get__") (by rw [typeLookup_type, builtinLookup_eq_fast]; kernel_rfl) (by decide +kernel) (by decide +kernel) (by decide +kernel)
  (by first | exact .inl (by decide +kernel) | exact .inr (by decide +kernel)) (by rw [isSubtype_type]; kernel_rfl)
theorem rX : typeLookup (.type "wrapper_descriptor") "__set__" = pure none := by rw [typeLookup_type, builtinLookup_eq_fast]; kernel_rfl
theorem rY : typeLookup (.type "wrapper_descriptor") "__delete__" = pure none := by rw [typeLookup_type, builtinLookup_eq_fast]; kernel_rfl
theorem lA : entryFor table "wrapper_descriptor.__get__" = some Builtin.«wrapper_descriptor.__get__» := entryFor_of_fast (by kernel_rfl)
theorem na (a b c : Value) : argsOk "wrapper_descriptor.__get__" ⟨[a, b, c], []⟩ := by unfold argsOk; kernel_rfl
theorem li : typeLookup (.type "list_iterator") "__getattr__" = pure none := by rw [typeLookup_type, builtinLookup_eq_fast]; kernel_rfl
theorem jV (a : Value) : checkBoundCall "list_iterator.__next__" ⟨[a], []⟩ = pure () := by first | kernel_rfl | rfl
theorem jJ : (".".intercalate ("list_iterator.__next__".cutAt '.').dropLast) = "list_iterator" := by decide +kernel
theorem ga : isSubtype (.type "list_iterator") (.type (".".intercalate ("list_iterator.__next__".cutAt '.').dropLast)) = pure true := by
 rw [jJ, isSubtype_type]; kernel_rfl
section
variable {prog : Program} {w : World} {A : Around} {E : Value → Shared → Prop} {h : Heap} {g : Array GenState} {d : Drawn} {t : Nat} {os : OsState} {a : Addr} {vs : Array Value}
theorem li_ga {tk : Tok} {Q : Fin → Shared → Prop} (hx : h.get? a = some { cls := .type "list_iterator", data := .fields vs })
  (hq : Q (.done (.ret (.ref h.objs.size))) ⟨h.push { cls := .type "method-wrapper", data := .fields #[.builtin "list_iterator.__next__", .ref a] }, g, d, t, os⟩) :
  wpAny (model prog w) A (Builtin.«object.__getattribute__» ⟨[.ref a, .str "__next__" tk], []⟩) Q E ⟨h, g, d, t, os⟩ := by
 have hT : (⟨h, g, d, t, os⟩ : Shared).TypeIs (.ref a) "list_iterator" := ⟨_, hx, rfl⟩
 have hT5 : (⟨h, g, d, t, os⟩ : Shared).TypeIs (.builtin "list_iterator.__next__") "wrapper_descriptor" := fh
 have f4 := slot_listiter_next.lookup
 have f5 := fh
 have f6 := fx.lookup
 have f7 := rX
 have f8 := rY
 repeat (any_goals (first | assumption | wp_step))
 refine codeAny_call_builtin fx.plain lA (fx.check _ _ _ _ _ _ _ _ hT5 (na _ _ _) ?_)
 have f9 := ga
 repeat (any_goals (first | assumption | wp_step))
theorem wk {Q : Value → Shared → Prop} (hx : h.get? a = some { cls := .type "list_iterator", data := .fields vs })
  (hq : Q (.ref h.objs.size) ⟨h.push { cls := .type "method-wrapper", data := .fields #[.builtin "list_iterator.__next__", .ref a] }, g, d, t + 1, os⟩) :
  wpAny (model prog w) A (getAttr (.ref a) "__next__" true) Q E ⟨h, g, d, t, os⟩ := by
 have hT : ∀ tk', (⟨h, g, d, tk', os⟩ : Shared).TypeIs (.ref a) "list_iterator" := fun _ => ⟨_, hx, rfl⟩
 have f1 := tI
 have f3 := pt (.ref a)
 have f5 := li
 unfold getAttr getAttrBy
 repeat (any_goals (first | assumption | exact hT _ | wp_step))
 refine codeAny_call_builtin gf.plain F.entry_object_getattribute (gf.check _ _ _ _ _ _ _ _ (show (⟨h, g, d, t + 1, os⟩ : Shared).TypeIs (.ref a) "list_iterator" from ⟨_, hx, rfl⟩) (F.args_object_getattribute_2 _ _) (li_ga hx ?_))
 repeat (any_goals (first | assumption | wp_step))
theorem wA {mw : Addr} {Q : Value → Shared → Prop} (hm : h.get? mw = some { cls := .type "method-wrapper", data := .fields #[.builtin "list_iterator.__next__", .ref a] })
  (hq : ∀ A', A'.handled = A.handled → wpAny (model prog w) A' (Builtin.«list_iterator.__next__» ⟨[.ref a], []⟩) (fun fin s' => ∃ v, fin = .done (.ret v) ∧ Q v s') (fun e s' => E e s') ⟨h, g, d, t, os⟩) :
  wpAny (model prog w) A (call (.ref mw) []) Q E ⟨h, g, d, t, os⟩ := by
 refine wpAny_call (codeAny_of_tree ?_)
 show wpAny _ _ (callAny (.ref mw) _) _ _ _
 unfold callAny
 dsimp only
 refine wpAny_bind (wpAny_load hm ?_)
 dsimp only
 rw [if_pos (by decide)]
 show wpAny _ _ (if (Value.type "method-wrapper" != Value.type "method") = true then _ else _) _ _ _
 rw [if_pos (by decide), jV]
 refine wpAny_bind (wpAny_pure ?_)
 refine wpAny_pure ⟨Code.quiet_builtin _ (by decide +kernel), codeAny_builtin entry_listiter_next ?_⟩
 refine wpAny_mono (hq _ rfl) (fun fin s' z => ?_) fun _ _ z => z
 obtain ⟨v, rfl, z⟩ := z
 exact z
theorem qR {l : Addr} {i : Nat} {x : Value} {items : Array Value} {Q : Value → Shared → Prop}
  (hx : h.get? a = some { cls := .type "list_iterator", data := .fields #[.ref l, .int i 0] }) (hl : h.IsList l items) (hi : items[i]? = some x)
  (hq : Q x ⟨h.update a (Obj.mapFields (·.setIfInBounds 1 (rawInt ((i : Int) + 1)))), g, d, t, os⟩) :
  wpAny (model prog w) A (Builtin.«list_iterator.__next__» ⟨[.ref a], []⟩) (fun fin s' => ∃ v, fin = .done (.ret v) ∧ Q v s') E ⟨h, g, d, t, os⟩ := by
 obtain ⟨ol, hol, _, nl, hdl⟩ := hl
 show wpAny _ _ (field (.ref a) 0 >>= _) _ _ _
 refine wpAny_bind (wpAny_field hx rfl (x := .ref l) rfl ?_)
 show wpAny _ _ (if (Value.ref l == Value.none) = true then _ else _) _ _ _
 rw [if_neg (show ¬ ((Value.ref l == Value.none) = true) from Bool.false_ne_true)]
 show wpAny _ _ (field (.ref a) 1 >>= _) _ _ _
 refine wpAny_bind (wpAny_field hx rfl (x := .int i 0) rfl ?_)
 show wpAny _ _ (seqItems? (.ref l) >>= _) _ _ _
 refine wpAny_bind (wpAny_seqItems hol hdl ?_)
 simp only [Int.toNat_natCast, hi]
 exact wpAny_bind (wpAny_setField hx rfl (by simp) (wpAny_pure ⟨_, rfl, hq⟩))
theorem tu {h : Heap} {Q : Value → Shared → Prop} (k : Q (.ref (h.push { cls := .type "tuple", data := .seq #[] }).objs.size) ⟨(h.push { cls := .type "tuple", data := .seq #[] }).push { cls := .type "StopIteration", data := .fields (#[.ref h.objs.size, .none, .none, .none, .bool false, .none] ++ ownMembersOf (.type "StopIteration") []) }, g, d, t, os⟩) :
  wpAny (model prog w) A (newExc (.type "StopIteration") []) Q E ⟨h, g, d, t, os⟩ :=
 wpAny_bind (m := newTuple []) (wpAny_newObj_type (wpAny_bind (m := firstArgMember _ _) (wpAny_of_eq (a := .none) rfl (wpAny_newObj_type k (by size_fits)))) (by size_fits))
theorem tq {l : Addr} {i : Nat} {items : Array Value} {Q : PySem.Fin → Shared → Prop} (hh : A.handled = none)
  (hx : h.get? a = some { cls := .type "list_iterator", data := .fields #[.ref l, .int i 0] }) (hl : h.IsList l items) (hi : items[i]? = none)
  (hq : ∀ vs e t' h', h'.get? e = some { cls := .type "StopIteration", data := .fields vs } → vs[0]? = some (.ref t') → vs[1]? = some .none → h'.get? t' = some { cls := .type "tuple", data := .seq #[] } → h.get? e = none → h.get? t' = none →
   Heap.ExtBut a h h' → h'.get? a = some (Obj.mapFields (·.setIfInBounds 0 Value.none) { cls := .type "list_iterator", data := .fields #[.ref l, .int i 0] }) → E (.ref e) ⟨h', g, d, t, os⟩) :
  wpAny (model prog w) A (Builtin.«list_iterator.__next__» ⟨[.ref a], []⟩) Q E ⟨h, g, d, t, os⟩ := by
 obtain ⟨ol, hol, _, nl, hdl⟩ := hl
 show wpAny _ _ (field (.ref a) 0 >>= _) _ _ _
 refine wpAny_bind (wpAny_field hx rfl (x := .ref l) rfl ?_)
 show wpAny _ _ (if (Value.ref l == Value.none) = true then _ else _) _ _ _
 rw [if_neg (show ¬ ((Value.ref l == Value.none) = true) from Bool.false_ne_true)]
 show wpAny _ _ (field (.ref a) 1 >>= _) _ _ _
 refine wpAny_bind (wpAny_field hx rfl (x := .int i 0) rfl ?_)
 show wpAny _ _ (seqItems? (.ref l) >>= _) _ _ _
 refine wpAny_bind (wpAny_seqItems hol hdl ?_)
 simp only [Int.toNat_natCast, hi]
 have sz : (h.update a (Obj.mapFields fun x => x.setIfInBounds 0 Value.none)).objs.size = h.objs.size := Heap.size_update ..
 have out : ∀ b, h.objs.size ≤ b → h.get? b = none := fun b q => Heap.get?_none_of_le q
 refine wpAny_bind (wpAny_rule (wpAny_bind (wpAny_setField hx rfl (by simp) (wpAny_bind (m := newExc _ _) (tu (wpAny_raiseNew_none hh ?_))))))
 refine hq _ _ (h.update a (Obj.mapFields fun x => x.setIfInBounds 0 Value.none)).objs.size _ (Heap.get?_push_size _ rfl) (Array.getElem?_append_left (by simp)) (Array.getElem?_append_left (by simp)) (Heap.get?_push_of_some _ (Heap.get?_push_size _ rfl)) (out _ ?_) (out _ (Nat.le_of_eq sz.symm)) (((Heap.SameBut.update ..).extBut.push _).push _) (Heap.get?_push_of_some _ (Heap.get?_push_of_some _ (Heap.get?_update_self _ hx rfl)))
 ·rw [Heap.size_push, sz]; exact Nat.le_succ _
end
section
variable {prog : Program} {w : World} {ac : Heap} {C : Cx} {mg mb : Str → Option Value} {ρ ct aw aK : List Addr} {σ cr ae aq : St} {s bg az aS : Shared}
noncomputable def asW (o : O) : Option (Nat × Nat) := match o with | .liter l i => some (l, i) | _ => none
noncomputable def asM (o : O) : Option Nat := match o with | .mnext l => some l | _ => none
theorem uK (o : O) : asW o = none ∨ (asW o).map (fun p => .liter p.1 p.2) = some o := by cases o <;> first | exact .inl rfl | exact .inr rfl
theorem yI (o : O) : asM o = none ∨ (asM o).map .mnext = some o := by cases o <;> first | exact .inl rfl | exact .inr rfl
noncomputable def oZ (v : V) (σ : St) : zZ V := gh v σ.heap fun l o => gO (asW o) fun _ => .ok (.ref σ.heap.length) { σ with heap := σ.heap ++ [.mnext l] }
theorem qa : lL prog w ac C "__next__" oZ := fun ρ σ s v v' r hv => lG (t := fun v' => getAttr v' "__next__" true) hv fun l a o ha q => bA fun p hp _ => by
 cases bR uK hp
 obtain ⟨ob, h1, b, hb, rfl⟩ := r.hp.obj _ _ _ q ha
 obtain ⟨hh, g, d, t, os⟩ := s
 have st := r.alloc (o := .mnext l) (ob := { cls := .type "method-wrapper", data := .fields #[.builtin "list_iterator.__next__", .ref a] }) (t := t + 1) rfl ⟨a, cq ha, rfl⟩
 exact wk h1 (zx (ρ' := ρ ++ [hh.objs.size]) ⟨_, bv r.hp _, rfl⟩ st)
noncomputable def pO (l l0 i : Nat) (xs : List V) (σ : St) : zZ V := match xs[i]? with
 | some y => .ok y { σ with heap := σ.heap.set l (.liter l0 (i + 1)) }
 | none => .exc (.type "StopIteration") [] { σ with heap := σ.heap.set l .dead }
noncomputable def rz (v : V) (σ : St) : zZ V := gh v σ.heap fun _ o => gO (asM o) fun l => gO σ.heap[l]? fun o => gO (asW o) fun p => gO σ.heap[p.1]? fun o => gO (zN o) fun xs => pO l p.1 p.2 xs σ
theorem qh (hh : C.A.handled = none) {mf : St → zZ V} {f : Expr} {pos : Pos} (hf : bi prog w ac C mf (eval f C.env))
  (he : eval (.Call f [] [] pos) C.env = (do callWith pos (← eval f C.env) [] [] [])) : bi prog w ac C (fun σ => (mf σ).bind rz) (eval (.Call f [] [] pos) C.env) := by
 intro ρ σ s r hn
 rw [he]
 refine wpAny_bind ((hf.at r).next rfl hn fun v ae aw az v' _ hv st e => ?_)
 rw [e] at hn ⊢
 refine At.trans st (lG (t := fun v' => callWith pos v' [] [] []) hv fun m am o hm q => bA fun l hl => bA fun o2 q2 => bA fun ⟨l0, i⟩ hp2 => bA fun o3 q3 => bA fun xs hx3 _ => ?_) hn
 clear hn e
 cases bR yI hl; cases bR uK hp2; cases bR jt hx3
 obtain ⟨ob, h1, a, ha, rfl⟩ := st.rel.hp.obj _ _ _ q hm
 refine callWith_of (P := fun h => h.get? am = some { cls := .type "method-wrapper", data := .fields #[.builtin "list_iterator.__next__", .ref a] }) rfl (fun h hP => ⟨.machine, .inr (.inl rfl), (Looks.ld (part := none) hP).andThen (Looks.of_pure (by rfl))⟩) (cw rfl (spliced_nil ⟨h1, ?_⟩))
 obtain ⟨ob2, h2, b, hb, rfl⟩ := st.rel.hp.obj _ _ _ q2 ha
 obtain ⟨ob3, h3, vs, n, rfl, hvs⟩ := st.rel.hp.obj _ _ _ q3 hb
 have st := Step.refl st.rel
 obtain ⟨hp, g, d, t, os⟩ := az
 have il : hp.IsList b vs.toArray := ⟨_, h3, rfl, n, rfl⟩
 refine wA (a := a) h1 fun A' hA => ?_
 cases q4 : xs[i]? with
 | some y =>
  rw [pO, q4]
  obtain ⟨y', hy1, hy2⟩ := hvs.get q4
  refine qR h2 il (by simpa using hy1) ?_
  refine zx hy2 (st.rel.upd (t := t) ha (Heap.SameBut.update ..) (Heap.get?_update_self _ h2 rfl) ⟨b, hb, ?_⟩)
  simp [Obj.mapFields, rawInt]
 | none =>
  rw [pO, q4]
  have hnone : vs.toArray[i]? = none := by
   have := List.getElem?_eq_none_iff.mp q4
   simp [hvs.length]; lia
  refine tq (hA.trans hh) h2 il hnone fun ws e t' h' k1 k2 k3 k4 k5 k6 k7 k8 => ?_
  have sb : Heap.ExtBut a hp h' := k7
  have st1 := st.rel.upd (t := t) (o := .dead) (h' := hp.update a (Obj.mapFields (·.setIfInBounds 0 Value.none))) ha (Heap.SameBut.update ..) (Heap.get?_update_self _ h2 rfl) ⟨_, rfl⟩
  have keep : ∀ c o, (hp.update a (Obj.mapFields (·.setIfInBounds 0 Value.none))).get? c = some o → h'.get? c = some o := fun c o hc => by
   by_cases hca : c = a
   ·subst hca
    rw [Heap.get?_update_self _ h2 rfl] at hc
    cases hc
    exact k8
   ·rw [Heap.get?_update_other _ _ (Ne.symm hca)] at hc
    exact sb c o hca hc
  have st2 := st1.trans (st1.rel.keep (s' := ⟨h', g, d, t, os⟩) keep ⟨rfl, rfl, rfl⟩)
  have nw : ∀ {x : Addr}, hp.get? x = none → hp.get? x = none ∧ ¬ zY C aw x := fun {x} hx =>
   ⟨hx, fun ho => bo st.rel _ ho hx⟩
  exact ⟨aw, ⟨e, _, ws, t', [], 0, rfl, (nw k5).1, (nw k5).2, k1, rfl, rfl, k2, (nw k6).1, (nw k6).2, k4, .nil, .inl k3⟩, st2⟩
end
section
open Builtin Builtin.Str Builtin._codecs
structure ju (K : Frag) (c : Addr) : Prop where
 f : findIn K (.ref c) "__str__" = some (some (.builtin "BaseException.__str__"))
 s : subIn K (.ref c) (.type "BaseException") = some true
theorem lS : typeOf (.builtin "BaseException.__str__") = pure (.type "wrapper_descriptor") := by kernel_rfl
theorem rB (v : Value) : bindSpecial (.builtin "BaseException.__str__") v = pure (.builtin "BaseException.__str__", [v]) := by
 unfold bindSpecial; rw [lS]; rfl
theorem oV : plainId "BaseException.__str__" = true := by decide +kernel
theorem q6 : builtinKind "BaseException.__str__" = some .slot := by decide +kernel
theorem oG : splitId "BaseException.__str__" = some ("BaseException", "__str__") := by decide +kernel
section
variable {prog : Program} {w : World} {A : Around} {E : Value → Shared → Prop} {s : Shared} {K : Frag} {c e t0 : Addr} {oe : Obj} {vs : Array Value} {m : Str} {tk : Tok}
theorem pr {Q : PySem.Fin → Shared → Prop} (he : s.heap.get? e = some oe) (hd : oe.data = .fields vs) (h0 : vs[0]? = some (.ref t0)) (ht : s.heap.TupAt t0 [.str m tk]) (hq : Q (.done (.ret (.str m tk))) s) :
  wpAny (model prog w) A (Builtin.«BaseException.__str__» ⟨[.ref e], []⟩) Q E s := by
 obtain ⟨ot, k, hto, _, htd⟩ := ht
 unfold Builtin.«BaseException.__str__» Builtin.BaseException.bexcArgs
 repeat (first | with_reducible refine wpAny_field he hd h0 ?_ | with_reducible refine wpAny_seqItems hto htd ?_ | wp_step)
 exact hq
theorem pp {M : Model} {Q : Unit → Shared → Prop} (LT : Looks M s.heap (typeOf (.ref e)) (.ref c)) (L2 : Looks M s.heap (isSubtype (.ref c) (.type "BaseException")) true) (hq : Q () s) :
  wpAny M A (checkBuiltinCall "BaseException.__str__" ⟨[.ref e], []⟩) Q E s := by
 have ha := F.args_bexc_str (.ref e)
 unfold argsOk at ha
 unfold checkBuiltinCall
 simp only [q6, oG]
 refine wpAny_bind (wpAny_bind (LT.here (L2.here ?_)))
 rw [if_neg (show ¬ ((!true) = true) from Bool.false_ne_true)]
 generalize Manifest.signature? "BaseException.__str__" = o at ha ⊢
 cases o with
 | none => exact wpAny_pure hq
 | some sig => dsimp only at ha ⊢; rw [ha]; exact wpAny_pure hq
theorem pV (X : K.In s.heap) (G : ju K c) (hu : A.units < cLine) {Q : Value → Shared → Prop} (he : s.heap.get? e = some oe) (hc : oe.cls = .ref c) (hd : oe.data = .fields vs) (h0 : vs[0]? = some (.ref t0)) (ht : s.heap.TupAt t0 [.str m tk]) (hq : Q (.str m tk) s) :
  wpAny (model prog w) A (Builtin.Str.strOf (.ref e)) Q E s := by
 have LT : Looks (model prog w) s.heap (typeOf (.ref e)) (.ref c) := by
  rw [← hc]; exact (Looks.ld (part := none) he).andThen .now
 have L1 := looks_findIn (M := model prog w) X G.f
 have L2 := looks_subIn (M := model prog w) X G.s
 unfold Builtin.Str.strOf
 rw [if_neg (show ¬ (isExactStr (Value.ref e) = true) from Bool.false_ne_true)]
 refine wpAny_bind (wpAny_cRoomFor hu (wpAny_bind ?_))
 unfold callSpecial?
 refine wpAny_bind ((LT.andThen L1).here ?_)
 refine wpAny_holding (wpAny_bind (wpAny_of_eq (rB _) (wpAny_bind (wpAny_call (codeAny_call_builtin oV F.entry_bexc_str (pp LT L2 (wpAny_mono (pr (Q := fun fin s' => fin = .done (.ret (.str m tk)) ∧ Q (.str m tk) s') he hd h0 ht ⟨rfl, hq⟩) (fun fin s' z => ?_) fun _ _ z => z)))))))
 obtain ⟨rfl, z⟩ := z
 refine wpAny_pure ?_
 exact wpAny_bind (wpAny_of_eq (a := some m) rfl (wpAny_pure z))
theorem lF (X : K.In s.heap) (G : ju K c) (hu : A.units + 2 < cLine) {Q : Value → Shared → Prop} (he : s.heap.get? e = some oe) (hc : oe.cls = .ref c) (hd : oe.data = .fields vs) (h0 : vs[0]? = some (.ref t0)) (ht : s.heap.TupAt t0 [.str m tk]) (hq : Q (.str m tk) s) :
  wpAny (model prog w) A (call (.type "str") [.ref e]) Q E s :=
 callType_new F.called_str (by decide) (F.typeCall_str_1 _) (F.newCall_str_1 _) (fun obj => F.args_object_init_2 obj _) F.entry_str_new
  (meets_str_new (S := fun A' R s' => A'.units + 1 < cLine ∧ K.In s'.heap ∧ s'.heap.get? e = some oe ∧ s'.heap.TupAt t0 [.str m tk] ∧ R (.ok (.ret (.str m tk))) s')
   fun _ _ A' _ _ hq => pV (A := A'.in1) hq.2.1 G hq.1 hq.2.2.1 hc hd h0 hq.2.2.2.1 hq.2.2.2.2)
  ⟨(show A.units + 1 + 1 < cLine from hu), X, he, ht, typeIs_str _ _ _, hq⟩
end
section
variable {prog : Program} {w : World} {ac : Heap} {C : Cx} {mg mb : Str → Option Value} {ρ : List Addr} {σ : St} {s : Shared}
theorem yC {α β : Type} {R : List Addr → β → α → Prop} {u : Sem α} {vs : List V} {xs : List Value} {k : V → zZ β} (ha : bL ρ vs xs) (q : ∀ v x, xs = [x] → VR ρ v x → At prog w ac C R ρ σ s (k v) u) : At prog w ac C R ρ σ s (g1 vs k) u := by
 cases vs with
 | nil => exact fun h => absurd rfl h
 | cons v vs =>
  obtain ⟨x, xs, rfl, hv, ha⟩ := ha
  cases vs with
  | nil => cases ha; exact q v x rfl hv
  | cons => exact fun h => absurd rfl h
noncomputable def asX (o : O) : Option (Nat × Nat) := match o with | .exc (.top c) t => some (c, t) | _ => none
theorem yG (o : O) : asX o = none ∨ (asX o).map (fun p => .exc (.top p.1) p.2) = some o := by
 cases o with
 | exc c t => cases c <;> first | exact .inl rfl | exact .inr rfl
 | _ => exact .inl rfl
noncomputable def yS (cs : List Nat) (vs : List V) (σ : St) : zZ V := g1 vs fun v => cond (zM v).isSome (gh v σ.heap fun _ o => gO (asX o) fun p => gO σ.heap[p.2]? fun o => gO (zK o) fun ys => g1 ys fun y => gS y fun x => if p.1 ∈ cs then .ok (.str x) σ else .bad) (nt [v] σ)
theorem nA {K : Frag} (X : K.In ac) {cs : List Nat} (G : ∀ c ∈ cs, ju K c) (ok : C.Ok) : cR prog w ac C (.type "str") av (yS cs) := fun ρ σ s vs xs r ha =>
 dw (t := fun xs => call (.type "str") xs) ha fun v x hv => bw (lG (t := fun x => call (.type "str") [x]) hv fun l a o hx q => bA fun p hp => bA fun o2 q2 => bA fun ys hy => by
   cases bR yG hp; cases bR oq hy
   obtain ⟨ob, h1, b, ws, hc, hb, hd, h0⟩ := r.hp.obj _ _ _ q hx
   obtain ⟨ob2, h2, us, n, rfl, hu⟩ := r.hp.obj _ _ _ q2 hb
   refine yC hu fun y z e hz => bA fun y hy => a8 fun hcs _ => ?_
   cases bR lI hy
   obtain ⟨tk, rfl⟩ := hz
   subst e
   have hun := ok.units
   exact lF (X.keeps r.hp.base) (G _ hcs) (by lia) h1 hc hd h0 ⟨_, n, h2, rfl, rfl⟩ (zx ⟨tk, rfl⟩ (.refl r)))
  (gg ρ σ s [v] [x] r (.one hv))
end
theorem pn (x : PySem.Str) (t u : Tok) : «str.encode» ⟨[.str x t, .str "ascii" u], []⟩ = (do ret (← encodeRoad "str.encode" (.str x t) x "ascii" none)) := by first | rfl | kernel_rfl
theorem oO (id : String) (self : Value) (x : PySem.Str) (errors : Option PySem.Str) : encodeRoad id self x "ascii" errors = (do mkBytes (← encodeNarrow id asciiCodec errors self x)) := by
 first | rfl | (unfold encodeRoad; rfl) | (unfold encodeRoad; simp only []; rfl) | decide
theorem iG : ∀ (l : List Nat) (acc : Array UInt8), l.foldl (fun acc y => acc ++ (asciiCodec.bytesOf y).toArray) acc = acc ++ (l.map (·.toUInt8)).toArray
 | [], acc => by simp
 | c :: l, acc => by
  rw [List.foldl_cons, iG l]
  show (acc ++ [c.toUInt8].toArray) ++ _ = _
  simp
theorem tF {β γ : Type} {l : List Nat} {i s1 : β} {f : Nat → β → Sem (ForInStep β)} {k : β → Sem γ} {r : Sem γ} (hl : l ≠ []) (h0 : ∀ a, f a i = pure (.yield s1)) (h1 : ∀ a, f a s1 = pure (.done s1)) (hr : k s1 = r) : (forIn l i f >>= k) = r := by
 match l, hl with
 | a :: l, _ =>
  rw [List.forIn_cons, h0, pure_bind]
  dsimp only
  match l with
  | [] => rw [List.forIn_nil, pure_bind, hr]
  | b :: l =>
   rw [List.forIn_cons, h1, pure_bind]
   dsimp only
   rw [pure_bind, hr]
theorem qV {β γ : Type} {l : List Nat} {i : β} {f : Nat → β → Sem (ForInStep β)} {k : β → Sem γ} {r : Sem γ} (hl : l = []) (hr : k i = r) : (forIn l i f >>= k) = r := by
 subst hl
 rw [List.forIn_nil, pure_bind, hr]
noncomputable abbrev yQ := Nat × Array UInt8 × Faults
theorem rt (self : Value) (x : PySem.Str) : ∃ (U : yQ → Sem (ForInStep yQ)) (B : Nat → yQ → Sem (ForInStep yQ)), encodeNarrow "str.encode" asciiCodec none self x =
  (forIn [:x.length] (0, #[], {}) (fun _ r => if r.2.1.size > sizeLine then U r else match x.cps[r.1]? with
   | some c => if (!asciiCodec.bad c) = true then pure (.yield (r.1 + (Array.findIdx? asciiCodec.bad (x.cps.extract r.1)).getD (x.cps.extract r.1).size,
     ((x.cps.extract r.1).extract 0 ((Array.findIdx? asciiCodec.bad (x.cps.extract r.1)).getD (x.cps.extract r.1).size)).foldl (fun acc y => acc ++ (asciiCodec.bytesOf y).toArray) r.2.1, r.2.2)) else B c r
   | none => pure (.done (r.1, r.2.1, r.2.2))) >>= fun r => pure r.2.1) := by
 apply Exists.intro
 apply Exists.intro
 refine congrArg (· >>= fun r : yQ => (pure r.2.1 : Sem (Array UInt8))) (congrArg (forIn _ _) (funext fun a => funext fun r => ?_))
 refine ite_congr rfl (fun _ => rfl) (fun _ => ?_)
 cases x.cps[r.1]? with
 | none => rfl
 | some c => exact ite_congr rfl (fun _ => rfl) (fun _ => rfl)
theorem kW (self : Value) (x : PySem.Str) (h : x.cps.all (· < 128) = true) (hsz : x.length ≤ sizeLine) : encodeNarrow "str.encode" asciiCodec none self x = pure (x.cps.map (·.toUInt8)) := by
 have hbad : ∀ c ∈ x.cps, asciiCodec.bad c = false := fun c hc => by
  have := Array.all_eq_true.mp h
  obtain ⟨i, hi, rfl⟩ := Array.mem_iff_getElem.mp hc
  have := this i hi
  show decide (_ ≥ 128) = false
  simpa using this
 obtain ⟨U, B, e⟩ := rt self x
 rw [e, Std.Legacy.Range.forIn_eq_forIn_range']
 clear e
 by_cases hz : x.cps.size = 0
 ·have e : x.cps = #[] := Array.eq_empty_of_size_eq_zero hz
  obtain ⟨c⟩ := x
  subst e
  exact qV rfl (by simp)
 ·have hfind : Array.findIdx? asciiCodec.bad x.cps = none := Array.findIdx?_eq_none_iff.mpr hbad
  have hx0 : x.cps[0]? = some x.cps[0] := Array.getElem?_eq_getElem (by lia)
  have hb0 := hbad x.cps[0] (Array.getElem_mem _)
  refine tF (s1 := (x.cps.size, x.cps.map (·.toUInt8), {})) ?_ (fun a => ?_) (fun a => ?_) rfl
  ·intro q
   have := congrArg List.length q
   simp [Std.Legacy.Range.size] at this
   exact hz this
  ·dsimp only
   rw [if_neg (by simp), hx0]
   dsimp only
   rw [hb0]
   simp only [Bool.not_false, if_true, Array.extract_size, hfind, Option.getD_none, Nat.zero_add]
   congr 4
   rw [← Array.foldl_toList, iG]
   obtain ⟨l⟩ := x
   simp
   obtain ⟨l⟩ := l
   simp
  ·dsimp only
   rw [if_neg (by simp; exact hsz), Array.getElem?_eq_none (Nat.le_refl _)]
theorem lv (x : PySem.Str) (t u : Tok) (h : x.cps.all (· < 128) = true) (hsz : x.length ≤ sizeLine) :
  «str.encode» ⟨[.str x t, .str "ascii" u], []⟩ = (do ret (← mkBytes (x.cps.map (·.toUInt8)))) := by
 rw [pn, oO, kW _ _ h hsz]
 rfl
section
variable {prog : Program} {w : World} {ac : Heap} {C : Cx} {mg mb : Str → Option Value} {ρ : List Addr} {σ : St} {s : Shared}
noncomputable def mV (v : V) (vs : List V) (σ : St) : zZ V := gS v fun x => g1 vs fun a => gS a fun y => if y = PySem.Str.ofString "ascii" ∧ x.cps.all (· < 128) = true ∧ x.length ≤ sizeLine then .ok (.bytes (x.cps.map (·.toUInt8))) σ else .bad
theorem iA : ex prog w ac C "str" "encode" "str.encode" bH mV where
 pa := F.plainAttrs_str
 slot := F.slot_str_encode
 ty := F.type_str_encode
 self := fun ρ H s v v' r hv hc => fM hv hc
 call := fun ρ σ s v v' vs xs r hv ha => dB (t := fun x => call (.builtin "str.encode") (x :: xs)) hv fun x t => dw (t := fun xs => call (.builtin "str.encode") (.str x t :: xs)) ha fun v z hz => dB (t := fun z => call (.builtin "str.encode") [.str x t, z]) hz fun y u => a8 fun h _ => by
  obtain ⟨rfl, h2, h3⟩ := h
  refine wpAny_call_entry F.slot_str_encode (typeIs_str _ _ _) F.entry_str_encode ?_ (F.args_str_encode_2 _ _)
  rw [lv x t u h2 h3]
  refine wpAny_bind ?_
  exact wpAny_mkBytes (wpAny_pure ⟨_, rfl, zx ⟨_, rfl⟩ (r.toks _)⟩) (by rw [Array.size_map]; exact h3)
end
theorem pq : typeLookup (.type "bytes") "__len__" = pure (some (.builtin "bytes.__len__")) := by rw [typeLookup_type, builtinLookup_eq_fast]; kernel_rfl
section
variable {prog : Program} {w : World} {A : Around} {E : Value → Shared → Prop} {s : Shared}
inductive lM (x : Array UInt8) (S : Addr) (h h' : Heap) : Prop
 | mk (acc : Array Value) (c : Nat) (keep : ∀ b o, b ≠ S → h.get? b = some o → h'.get? b = some o) (here : h'.get? S = some { cls := .type "list", data := .seq acc c }) (its : ItemsOf (fun i v => ∃ c u, x[i]? = some c ∧ v = .int (c.toNat : Int) u) acc x.size)
theorem lM.behind {x : Array UInt8} {S : Addr} {h ac h' : Heap} (F : lM x S ac h') (k : ∀ b o, b ≠ S → h.get? b = some o → ac.get? b = some o) : lM x S h h' :=
 match F with
 | .mk acc c p q r => .mk acc c (fun b o n e => p b o n (k b o n e)) q r
section
variable {x : Array UInt8} {t : Tok} {S : Addr} {res : Value} {c₀ : Nat} {R : Result → Shared → Prop}
theorem ph {Q : Bool → Shared → Prop} (k : Q false s) : wpAny (model prog w) A (Builtin.List.listLengthHint (.bytes x t)) Q E s := by
 unfold Builtin.List.listLengthHint
 refine wpAny_bind (wpAny_specialOf (T := "bytes") (v := .bytes x t) rfl pq ?_)
 wp_delta
 exact wpAny_bind (wpAny_isInstance (T := "bytes") (b := true) rfl (by rw [isSubtype_type]; kernel_rfl) (wpAny_bind (m := typeOf _) (wpAny_typeOf (T := "bytes") (v := .bytes x t) rfl (wpAny_pure k))))
theorem pj (hh : A.handled = none) (hS : s.heap.get? S = some { cls := .type "list", data := .seq #[] c₀ }) (hn : x.size ≤ sizeLine)
  (k : ∀ h' tk, lM x S s.heap h' → R (.ok (.ret res)) { s with heap := h', toks := tk }) :
  wpAny (model prog w) A.in1 (Builtin.List.listExtendWith (.ref S) (.bytes x t) res)
   (fun fin s' => match fin with
    | .done f => R (.ok f) s'
    | .again c' => c'.quiet = true ∧ codeAny (model prog w) A c' R s') (fun e s' => R (.error e) s') s := by
 have lt := Heap.lt_size hS
 have W := (KBw.walks (A := A.in1) (prog := prog) (w := w) hh s.heap.objs.size x t).toS
 unfold Builtin.List.listExtendWith
 refine wpAny_bind (wpAny_typeOf (T := "bytes") rfl ?_)
 rw [if_neg (show ¬ ((Builtin.List.listSameRef (.ref S) (.bytes x t) || Value.type "bytes" == Value.type "list" || Value.type "bytes" == Value.type "tuple") = true) from by rw [show Builtin.List.listSameRef (.ref S) (.bytes x t) = false from rfl]; decide)]
 refine wpAny_bind (KBw.pyIter_bytes (wpAny_bind (wpAny_holding (ph ?_))))
 rw [if_neg (by decide)]
 refine wpAny_pure ⟨plainId_quiet F.plain_extend_loop _, codeAny_extend_loopS W hn S (fun q => Nat.ne_of_lt lt (List.mem_singleton.mp q)) res x.size 0 _ _ _ rfl (Nat.zero_le _) ⟨_, Heap.get?_push_size _ rfl, rfl, rfl⟩ (Heap.get?_push_of_some _ hS) (ItemsOf.nil _) ?_⟩
 intro s' acc c m here its
 rw [Moved.eq_with m]
 refine k _ _ (.mk acc c (fun b o ne q => m.heap b o (fun hb => ?_) (Heap.get?_push_of_some _ q)) here its)
 exact (List.mem_cons.mp hb).elim ne fun hb => Nat.ne_of_lt (Heap.lt_size q) (List.mem_singleton.mp hb)
theorem iK {Q : Value → Shared → Prop} (hh : A.handled = none) (hn : x.size ≤ sizeLine) (k : ∀ h' tk, lM x s.heap.objs.size s.heap h' → Q (.ref s.heap.objs.size) { s with heap := h', toks := tk }) : wpAny (model prog w) A (call (.type "list") [.bytes x t]) Q E s := by
 refine callType_codes (Q₁ := fun v az => v = .ref s.heap.objs.size ∧ az = { s with heap := s.heap.push { cls := .type "list", data := .seq #[] } }) F.called_list (F.typeCall_list_1 _) F.entry_list_init (code_list_new _ ⟨rfl, rfl⟩) ?_
 rintro _ _ ⟨rfl, rfl⟩
 have at0 : (s.heap.push { cls := .type "list", data := .seq #[] }).get? s.heap.objs.size = some { cls := .type "list", data := .seq #[] } := Heap.get?_push_size _ rfl
 refine ⟨⟨_, at0, rfl⟩, F.args_list_init_2 _ _, wpAny_bind (m := Builtin.List.listItems _) ?_⟩
 unfold Builtin.List.listItems
 refine wpAny_bind (wpAny_seqItems at0 rfl (wpAny_pure (wpAny_bind (m := updateSeq _ _) (wpAny_updateSeq at0 rfl (wpAny_bind (m := letGo _ _) (wpAny_letGo ?_))))))
 have at1 := Heap.get?_update_self (Obj.mapSeq fun _ => (#[] : Array Value)) at0 rfl
 refine pj (A := A.in1) (S := s.heap.objs.size) (t := t) (R := wants (fun r aS => r = Value.none ∧ Q (Value.ref s.heap.objs.size) aS) E) hh at1 hn ?_
 refine fun h' tk F => ⟨rfl, k h' tk (F.behind fun b o ne q => ?_)⟩
 exact (Heap.get?_update_other _ _ (Ne.symm ne)).trans (Heap.get?_push_of_some _ q)
end
end
section
variable {prog : Program} {w : World} {ac : Heap} {C : Cx} {mg mb : Str → Option Value} {ρ : List Addr} {σ : St} {s : Shared}
theorem iO {ρ : List Addr} : ∀ {vs : List V} {xs : List Value}, xs.length = vs.length → (∀ (i : Nat) (v : V) (x : Value), vs[i]? = some v → xs[i]? = some x → VR ρ v x) → bL ρ vs xs
 | [], [], _, _ => .nil
 | [], _ :: _, h, _ => by simp at h
 | _ :: _, [], h, _ => by simp at h
 | v :: vs, x :: xs, h, k => .cons (k 0 v x rfl rfl) (iO (by simpa using h) fun i v' x' h1 h2 => k (i + 1) v' x' (by simpa using h1) (by simpa using h2))
noncomputable def qW (vs : List V) (σ : St) : zZ V := g1 vs fun v => gY v fun b => if b.size ≤ sizeLine then .ok (.ref σ.heap.length) { σ with heap := σ.heap ++ [.list (b.toList.map fun c => .int c.toNat)] } else .bad
theorem Step.own (r : zX prog w ac C ρ σ s) {h' : Heap} {tk : Nat} (hk : ∀ b o, s.heap.get? b = some o → h'.get? b = some o) {a : Addr} {o : O} {ob : Obj} (ha : s.heap.get? a = none) (hs : a ≠ sysModules) (ho : h'.get? a = some ob) (hr : z4 prog w (ρ ++ [a]) o ob) :
  Step prog w ac C ρ σ s (ρ ++ [a]) { σ with heap := σ.heap ++ [o] } { s with heap := h', toks := tk } := by
 have st := r.keep (s' := { s with heap := h', toks := tk }) hk ⟨rfl, rfl, rfl⟩
 have hna : a ∉ ρ := fun hm => bo r _ (.inl hm) ha
 have r1 := st.rel
 have hl := r1.hp.len
 refine ⟨⟨⟨r1.hp.base, by simp [hl], fun l o' x h e => ?_, ?_, fun x hx => ?_, fun l es ep x h e => ?_, r1.hp.main⟩, ?_, ⟨r1.lnew.1, fun hm => ?_⟩, fun p hp => ?_, r1.frs, fun e he L hL => ⟨fun hm => ?_, (r1.frn e he L hL).2⟩, r1.locs⟩, ⟨[a], rfl, fun x hx => by simp at hx; subst hx; exact ha⟩, st.pres, st.loc, st.rest⟩
 ·by_cases hlt : l < ρ.length
  ·rw [List.getElem?_append_left hlt] at e
   rw [List.getElem?_append_left (by lia)] at h
   obtain ⟨ob', g1, g2⟩ := r1.hp.obj l o' x h e
   exact ⟨ob', g1, g2.mono⟩
  ·have : l = ρ.length := by
    have := (List.getElem?_eq_some_iff.mp e).1
    simp at this; lia
   subst this
   rw [List.getElem?_append_right (Nat.le_refl _)] at e
   rw [hl, List.getElem?_append_right (Nat.le_refl _)] at h
   simp at e h
   subst e h
   exact ⟨ob, ho, hr⟩
 ·exact List.nodup_append.mpr ⟨r1.hp.nodup, by simp, fun x hx y hy => by simp at hy; subst hy; intro e; subst e; exact hna hx⟩
 ·rcases List.mem_append.mp hx with h | h
  ·exact r1.hp.new x h
  ·simp at h; subst h
   cases q : ac.get? x with
   | none => rfl
   | some o => rw [r.hp.base _ _ q] at ha; cases ha
 ·by_cases hlt : l < ρ.length
  ·rw [List.getElem?_append_left hlt] at e
   rw [List.getElem?_append_left (by lia)] at h
   exact r1.hp.sys l es ep x h e
  ·have : l = ρ.length := by
    have := (List.getElem?_eq_some_iff.mp e).1
    simp at this; lia
   subst this
   rw [List.getElem?_append_right (Nat.le_refl _)] at e
   simp at e
   subst e
   exact hs
 ·obtain ⟨m, hm, hv⟩ := r1.ns
  exact ⟨m, hm, fun p hp => (hv p hp).mono⟩
 ·rcases List.mem_append.mp hm with h | h
  ·exact r1.lnew.2 h
  ·simp at h
   exact bo r _ (.inr (.inl rfl)) (h ▸ ha)
 ·obtain ⟨g1, g2, g3, v, g4, g5⟩ := r1.cel p hp
  refine ⟨g1, fun hm => ?_, g3, v, g4, g5.mono⟩
  rcases List.mem_append.mp hm with h | h
  ·exact g2 h
  ·simp at h
   exact bo r _ (.inr (.inr ⟨p, hp, rfl⟩)) (h ▸ ha)
 ·obtain ⟨_, L', o', es, k, hf', _, ho', hd'⟩ := r.frs e he
  rw [hL] at hf'; cases hf'
  rcases List.mem_append.mp hm with h | h
  ·exact (r1.frn e he L hL).1 h
  ·simp at h; subst h; rw [ha] at ho'; cases ho'
theorem qc (hh : C.A.handled = none) : cR prog w ac C (.type "list") av qW := fun ρ σ s vs xs r ha =>
 dw (t := fun xs => call (.type "list") xs) ha fun v x hv => wJ (t := fun x => call (.type "list") [x]) hv fun b t => a8 fun h _ => by
  refine iK hh h fun h' tk ⟨acc, c, keep, hg, hi⟩ => ?_
  have hnone : s.heap.get? s.heap.objs.size = none := Heap.get?_none_of_le (Nat.le_refl _)
  refine zx (ρ' := ρ ++ [s.heap.objs.size]) ⟨_, bv r.hp _, rfl⟩ (Step.own r (fun b o q => keep b o (Nat.ne_of_lt (Heap.lt_size q)) q) hnone r.hp.notSys hg ⟨acc.toList, c, by simp, ?_⟩)
  refine iO (by simp [hi.1]) fun i v x h1 h2 => ?_
  obtain ⟨cc, u, e1, rfl⟩ := hi.2 i x (by simpa using h2)
  rw [List.getElem?_map] at h1
  have : b.toList[i]? = some cc := by simpa using e1
  rw [this] at h1; cases h1
  exact ⟨u, rfl⟩
noncomputable def nJ (i : Nat) (q a b : PySem.Str) : St → zZ V := fun σ => gO (σ.loc[i]?).join fun v => gS v fun x => if x.length ≤ 1000 ∧ q.length ≤ 1000 ∧ b.length ≤ 1000 ∧ (q.length + (Txt.replace x a b).length ≤ sizeLine) ∧ (a == b) = false then .ok (.str (q ++ Txt.replace x a b)) σ else .bad
theorem p7 (ok : C.Ok) {x : PySem.Str} {i : Nat} {q a b : PySem.Str} {k1 k2 k3 : Nat} {p1 p2 p3 np apos pos pos' : Pos} (hx : (x, i) ∈ C.vars) (hd : (x == ("__debug__" : PySem.Str)) = false)
  (hse : starEach [.Constant (.str a) k2 p2, .Constant (.str b) k3 p3] C.env = [(false, eval (.Constant (.str a) k2 p2) C.env), (false, eval (.Constant (.str b) k3 p3) C.env)])
  (hbase : attributeBase (.Name x np) "replace" C.env (eval (.Name x np) C.env) = eval (.Name x np) C.env)
  (hfew : ((backTo pos (starEach [.Constant (.str a) k2 p2, .Constant (.str b) k3 p3] C.env)).all (fun x => !x.1) && (backToKw pos (keywordEach [] C.env)).all (fun x => x.1.isSome) && decide ([Expr.Constant (.str a) k2 p2, Expr.Constant (.str b) k3 p3].length + ([] : List Keyword).length + (if ([] : List Keyword).isEmpty then 0 else 1) < 30)) = true)
  (hline : (apos.endLine == pos.line) = true) :
  bi prog w ac C (nJ i q a b) (eval (.BinOp (.Constant (.str q) k1 p1) .Add (.Call (.Attribute (.Name x np) "replace" apos) [.Constant (.str a) k2 p2, .Constant (.str b) k3 p3] [] pos) pos') C.env) := by
 refine fun ρ σ s r => bA fun v hy => ?_
 obtain ⟨m, hm, hv⟩ := r.ns
 have hvx := hv (x, i) hx
 rw [show (σ.loc[(x, i).2]?).join = some v from hy] at hvx
 obtain ⟨_, e, hvx⟩ := hvx
 refine bA fun y hy => a8 fun ⟨c1, c2, c3, c4, c5⟩ _ => ?_
 cases bR lI hy
 obtain ⟨t, rfl⟩ := hvx
 refine wpAny_BinOp ?_
 show wpAny _ _ (constValue C.env (.str q)) _ _ s
 refine wpAny_mkText ?_
 refine wpAny_Call_method_lateS hbase hfew hline (wpAny_Name (wpAny_loadName_local ok.kind (ok.loc _ hx) (s := { s with toks := s.toks + 1 }) hm e ?_) hd)
 refine ⟨"str", "str.replace", F.plainAttrs_str, F.slot_str_replace, F.type_str_replace, typeIs_str _ _ _, fun b e => (by cases e), ?_⟩
 rw [hse]
 refine callWith_builtin rfl (cw rfl (spliced_cons ?_))
 show wpAny _ _ (constValue C.env (.str a)) _ _ _
 refine wpAny_mkText (spliced_cons ?_)
 show wpAny _ _ (constValue C.env (.str b)) _ _ _
 refine wpAny_mkText (spliced_nil ?_)
 have hb : y.length + (y.length + 1) * b.length ≤ 16777216 := by
  have : (y.length + 1) * b.length ≤ 1001 * 1000 := Nat.mul_le_mul (by lia) c3
  lia
 refine SC.replace (by simp) (by simp) (by simp) c5 hb fun t' k => ?_
 refine PyProof.Rows.add_str (fun t'' k' => zx ⟨_, rfl⟩ (r.toks _)) ?_
 exact c4
end
end
noncomputable def ew (n : Nat) (dv : List V) : List V → List O → Option (List V × List O) := fun vs H => if vs.length = n then some (vs ++ dv, H) else none
noncomputable def wC (n : Nat) : List V → List O → Option (List V × List O) := fun vs H => if n ≤ vs.length ∧ vs.length ≤ 1000 then some (vs.take n ++ [.ref H.length], H ++ [.tup (vs.drop n)]) else none
section
variable {prog : Program} {w : World} {ac : Heap} {fd : FuncData} {params : List Str} {mk : List Value → Args}
theorem bind_ok {n : Nat} {dv : List V} {dx : List Value} (hd : ∀ ρ, bL ρ dv dx) (hl : params.length = n + dx.length)
  (hB : ∀ (s : Shared) xs, ac.StaysIn s.heap → xs.length = n → BindsTo s fd (mk xs) (params.zip (xs ++ dx))) : oC prog w ac fd params mk (ew n dv) := by
 intro A ρ H s vs xs ps b7 r ha hb
 unfold ew at hb
 split at hb
 ·rename_i h
  cases hb
  refine hB s xs r.base (by rw [ha.length, h]) _ _ _ _ ⟨ρ, xs ++ dx, rfl, ?_, ha.append (hd ρ), .refl r⟩
  rw [List.length_append, ha.length, h, hl]
 ·cases hb
theorem rA {n : Nat} (hl : params.length = n + 1) (hB : ∀ xs rest : List Value, xs.length = n → bindArgs fd ⟨xs ++ rest, []⟩ = (do let t ← newTuple rest; pure (params.zip (xs ++ [t])))) : oC prog w ac fd params av (wC n) := by
 intro A ρ H s vs xs ps b7 r ha hb
 unfold wC at hb
 split at hb
 ·rename_i h
  cases hb
  have e : xs = xs.take n ++ xs.drop n := (List.take_append_drop n xs).symm
  have ht : (xs.take n).length = n := by rw [List.length_take, ha.length]; lia
  show wpAny _ _ (bindArgs fd ⟨xs, []⟩) _ _ _
  rw [e, hB _ _ ht]
  refine wpAny_bind (wpAny_newTuple (wpAny_pure ?_) (by rw [List.length_drop, ha.length]; exact Nat.le_trans (Nat.sub_le _ _) (Nat.le_trans h.2 (by decide))))
  have st := cE.alloc r (o := .tup (vs.drop n)) (ob := { cls := .type "tuple", data := .seq (xs.drop n).toArray }) (t := s.toks) rfl ⟨xs.drop n, 0, rfl, (ha.drop n).mono⟩
  refine ⟨ρ ++ [s.heap.objs.size], _, rfl, ?_, (ha.take n).mono.append (.one ⟨_, bv r _, rfl⟩), st⟩
  rw [List.length_append, ht, hl]; rfl
 ·cases hb
theorem iJ {α : Type} {l : List α} {n : Nat} (h : l.length = n + 1) : ∃ a r, l = a :: r ∧ r.length = n := by
 cases l with
 | nil => cases h
 | cons a r => exact ⟨a, r, rfl, Nat.succ.inj h⟩
theorem cA {α : Type} {xs : List α} (h : xs.length = 1) : ∃ a, xs = [a] := by
 obtain ⟨a, r, rfl, k⟩ := iJ h
 exact ⟨a, congrArg _ (List.eq_nil_of_length_eq_zero k)⟩
theorem eF {α : Type} {xs : List α} (h : xs.length = 2) : ∃ a b, xs = [a, b] := by
 obtain ⟨a, r, rfl, k⟩ := iJ h
 obtain ⟨b, rfl⟩ := cA k
 exact ⟨a, b, rfl⟩
end
structure Ctx (C : Cx) (names : List (Str × NameKind)) (vars : List (Str × Nat)) (cells : List (Str × Nat × Addr)) (k : Nat) : Prop where
 ok : C.Ok
 kind : ∀ y q, names.lookup y = some q → q ≠ .free → C.env.kindOf y = some q
 vars : C.vars = vars
 cells : C.cells = cells
 k : C.k = k
structure bB (K : Frag) (ac : Heap) (mg mb : Str → Option Value) : Prop where
 X : K.In ac
 T : yN ac mg mb
 R : ∃ p loose, TopRead p loose mg mb ac
section
variable {prog : Program} {w : World} {ac : Heap} {C : Cx} {mg mb : Str → Option Value} {K : Frag} {names : List (Str × NameKind)} {vars : List (Str × Nat)} {cells : List (Str × Nat × Addr)} {k : Nat}
theorem ak (G : Ctx C names vars cells k) {x : Str} {i : Nat} {pos : Pos} (h : vars.lookup x = some i) (hd : (x == ("__debug__" : Str)) = false) : bi prog w ac C (ai i) (eval (.Name x pos) C.env) :=
 u3 G.ok (by rw [G.vars]; exact mem_of_lookup_some h) hd
theorem eq (G : Ctx C names vars cells k) {x : Str} {i : Nat} {a : Addr} {pos : Pos} (h : cells.lookup x = some (i, a)) (hd : (x == ("__debug__" : Str)) = false) (hq : (x == ("__classdict__" : Str)) = false) : bi prog w ac C (ai i) (eval (.Name x pos) C.env) :=
 sr (a := a) G.ok (by rw [G.cells]; exact mem_of_lookup_some h) hd hq
noncomputable def vOf : Value → V
 | .none => .none
 | .bool b => .bool b
 | .int i _ => .int i
 | .str x _ => .str x
 | .bytes b _ => .bytes b
 | .type n => .type n
 | .builtin n => .blt n
 | .ref a => .top a
 | _ => .none
noncomputable def y7 : Value → Bool
 | .none | .bool _ | .int .. | .str .. | .bytes .. | .type _ | .builtin _ | .ref _ => true
 | _ => false
theorem ue {ρ : List Addr} {v : Value} (h : y7 v = true) : VR ρ (vOf v) v := by
 cases v <;> first | exact ⟨_, rfl⟩ | rfl | cases h
theorem eo (G : Ctx C names vars cells k) (T : bB K ac mg mb) {x : Str} {pos : Pos} {v : V} {v' : Value} (hk : names.lookup x = some .globalImplicit) (hg : nsIn K mainGlobals x = some (some v')) (ho : y7 v' = true) (hv : vOf v' = v) (hd : (x == ("__debug__" : Str)) = false) :
  bi prog w ac C (aa v) (eval (.Name x pos) C.env) :=
 nB G.ok T.T (G.kind _ _ hk (by intro q; cases q)) (mg_of T.X T.T.g hg) (fun ρ => hv ▸ ue ho) hd
theorem dA (G : Ctx C names vars cells k) (T : bB K ac mg mb) {x : Str} {pos : Pos} {v : V} {v' : Value} (hk : names.lookup x = some .globalImplicit) (hg : nsIn K mainGlobals x = some none) (hb : bootBuiltins x = some v') (ho : y7 v' = true) (hv : vOf v' = v) (hn : (x == ("__name__" : Str)) = false) (hd : (x == ("__debug__" : Str)) = false) :
  bi prog w ac C (aa v) (eval (.Name x pos) C.env) :=
 nC G.ok T.T (G.kind _ _ hk (by intro q; cases q)) (ns_none_of T.X T.T.g hg) (by intro q; subst q; cases hn) hb (fun ρ => hv ▸ ue ho) hd
theorem ax (G : Ctx C names vars cells k) {x : Str} {i : Nat} {pos : Pos} (h : vars.lookup x = some i) : j5 prog w ac C (ao i) (.Name x pos) := fL G.ok (by rw [G.vars]; exact mem_of_lookup_some h)
theorem io (G : Ctx C names vars cells k) {x : Str} {i : Nat} {a : Addr} {pos : Pos} (h : cells.lookup x = some (i, a)) (hk : names.lookup x = some .cell) : j5 prog w ac C (ao i) (.Name x pos) :=
 kI (c := a) G.ok (by rw [G.cells]; exact mem_of_lookup_some h) (G.kind _ _ hk (by intro q; cases q))
theorem xU (G : Ctx C names vars cells k) {op : Operator} {x : Str} {i : Nat} {m : St → zZ V} {v : Expr} {p pos : Pos} (h : vars.lookup x = some i) (hv : bi prog w ac C m (eval v C.env)) : gN prog w ac C (xa op i m) (.AugAssign (.Name x p) op v pos) :=
 u8 G.ok (by rw [G.vars]; exact mem_of_lookup_some h) hv
theorem fN (X : K.In ac) {M : Model} {f : Value} (h : keepIn K f = true) : Keeps ac M f := fun h' hk => keeps_K h h' (X.keeps hk)
theorem aF (ok : C.Ok) : interactive C.env = false := by
 unfold interactive
 rw [ok.kind]; rfl
theorem jR (X : K.In ac) {fa : Addr} {oc : Value} {od : Option Addr} {fd : FuncData} {osl : Array (Option Value)} {body : List Stmt} (h : K.lookup fa = some ⟨oc, od, .func fd, osl⟩) (hc : codeIn K fd.code fd.qualname = true) (hb : fd.body = .stmts body) (h1 : fd.closure = []) (h2 : fd.globals = mainGlobals)
  (h3 : fd.builtins = builtinsNs) (h4 : fd.scope.isCoroutine = false) (h5 : fd.scope.isGenerator = false) (h6 : fd.scope.kind = .function) : wU ac fa fd body :=
 ⟨⟨_, X _ _ h, rfl⟩, codeRec_of X hc, hb, h1, h2, h3, h4, h5, h6⟩
end
section
variable {prog : Program} {w : World} {ac : Heap} {C : Cx} {mg mb : Str → Option Value} {K : Frag} {names : List (Str × NameKind)} {vars : List (Str × Nat)} {cells : List (Str × Nat × Addr)} {k : Nat}
theorem uF (G : Ctx C names vars cells k) (hh : C.A.handled = none) {kf : Nat} {f : Value} {mk : List Value → Args} {m : cX} (hf : dy prog w ac kf f mk m) (hkf : Nat.ble kf k = true) : cR prog w ac C f mk (bJ m) :=
 qk G.ok hh (by rw [G.k]; exact Nat.le_of_ble_eq_true hkf) hf
theorem sY {kf fa : Nat} {m : cX} (x : Str) (hf : dy prog w ac kf (.ref fa) av m) (G : Ctx C names vars cells k) (T : bB K ac mg mb) (hh : C.A.handled = none) {ma : St → zZ (List V)} {np pos : Pos} {args : List Expr}
  (hkf : Nat.ble kf k = true) (hn : names.lookup x = some .globalImplicit) (hg : nsIn K mainGlobals x = some (some (.ref fa))) (hd : (x == ("__debug__" : Str)) = false) (hk : keepIn K (.ref fa) = true)
  (ha : bK prog w ac C ma pos args) (hp : (backTo pos (starEach args C.env)).any (·.1) = false) : bi prog w ac C (aC ma (bJ m)) (eval (.Call (.Name x np) args [] pos) C.env) :=
 fJ (fN T.X hk) (eo G T hn hg rfl rfl hd) (fun _ _ h => h) ha (uF G hh hf hkf) hp
theorem d5 {id : String} {g : List V → St → zZ V} (x : Str) (hf : cR prog w ac C (.builtin id) av g) (G : Ctx C names vars cells k) (T : bB K ac mg mb) {ma : St → zZ (List V)} {np pos : Pos} {args : List Expr}
  (hn : names.lookup x = some .globalImplicit) (hg : nsIn K mainGlobals x = some none) (hb : bootBuiltins x = some (.builtin id)) (hnn : (x == ("__name__" : Str)) = false) (hd : (x == ("__debug__" : Str)) = false)
  (ha : bK prog w ac C ma pos args) (hp : (backTo pos (starEach args C.env)).any (·.1) = false) : bi prog w ac C (aC ma g) (eval (.Call (.Name x np) args [] pos) C.env) :=
 fJ (v := .blt id) q7 (dA G T hn hg hb rfl rfl hnn hd) (fun _ _ h => h) ha hf hp
theorem cH {id : String} {g : List V → St → zZ V} (x : Str) (hf : cR prog w ac C (.type id) av g) (G : Ctx C names vars cells k) (T : bB K ac mg mb) {ma : St → zZ (List V)} {np pos : Pos} {args : List Expr}
  (hn : names.lookup x = some .globalImplicit) (hg : nsIn K mainGlobals x = some none) (hb : bootBuiltins x = some (.type id)) (hnn : (x == ("__name__" : Str)) = false) (hd : (x == ("__debug__" : Str)) = false)
  (ha : bK prog w ac C ma pos args) (hp : (backTo pos (starEach args C.env)).any (·.1) = false) : bi prog w ac C (aC ma g) (eval (.Call (.Name x np) args [] pos) C.env) :=
 fJ (v := .type id) pg (dA G T hn hg hb rfl rfl hnn hd) (fun _ _ h => h) ha hf hp
theorem i9 {kf fa c : Nat} {m : cX} (name : Str) (hf : dy prog w ac kf (.ref fa) av m) (Mi : ft K c name fa) (G : Ctx C names vars cells k) (T : bB K ac mg mb) (hh : C.A.handled = none) {mo : St → zZ V} {ma : St → zZ (List V)} {o : Expr} {apos pos : Pos} {args : List Expr} {pl : Sem Bool}
  (hkf : Nat.ble kf k = true) (hk : keepIn K (.ref fa) = true) (ho : bi prog w ac C mo (eval o C.env)) (ha : gC prog w ac C av ma (.ref fa) (backTo pos (starEach args C.env)) (backToKw pos (keywordEach [] C.env))) (hp : jv (backTo pos (starEach args C.env)) (backToKw pos (keywordEach [] C.env)))
  (he : eval (.Call (.Attribute o name apos) args [] pos) C.env = (do
   let ov ← eval o C.env
   standAt apos.atName
   let (f, first) ← holding [ov] (getMethod ov name pl)
   callWith pos f first (backTo pos (starEach args C.env)) (backToKw pos (keywordEach [] C.env)))) :
  bi prog w ac C (cU (bO c name) (bJ m) mo ma) (eval (.Call (.Attribute o name apos) args [] pos) C.env) :=
 si T.X Mi (fN T.X hk) ho ha (uF G hh hf hkf) hp he
theorem fy {x : Str} {c : Addr} {bm : List Value} {newId B initId : String} (G : Ctx C names vars cells k) (T : bB K ac mg mb) (hh : C.A.handled = none) (O : OwnCls x c bm newId mg ac) (FB : ExcBaseFacts B newId initId bm) {ma : St → zZ (List V)} {np cpos pos : Pos} {args : List Expr}
  (hn : names.lookup x = some .globalImplicit) (hg : nsIn K mainGlobals x = some (some (.ref c))) (hd : (x == ("__debug__" : Str)) = false) (ha : bK prog w ac C ma cpos args) (hp : (backTo cpos (starEach args C.env)).any (·.1) = false) :
  gN prog w ac C (cJ (.top c) ma) (.Raise (some (.Call (.Name x np) args [] cpos)) none pos) :=
 p6 O FB hh (eo G T hn hg rfl rfl hd) ha hp
theorem md (T : bB K ac mg mb) {x : Str} {c : Addr} {bmB : List Value} {newId : String} (e : nsIn K mainGlobals x = some (some (.ref c))) (q : excIn K c bmB newId = true) : OwnCls x c bmB newId mg ac := by
 obtain ⟨p, l, R⟩ := T.R
 exact own_of_in T.X R e q
noncomputable def jf : List Str → Bool
 | [] => true
 | x :: xs => !xs.contains x && jf xs
theorem gX : ∀ {l : List Str}, jf l = true → l.Nodup
 | [], _ => .nil
 | x :: xs, h => by
  unfold jf at h
  rw [Bool.and_eq_true] at h
  refine List.nodup_cons.mpr ⟨?_, gX h.2⟩
  have := h.1
  intro hm
  rw [List.contains_iff_mem.mpr hm] at this
  cases this
theorem fk (fs : List (Str × Nat × Addr)) (G : Ctx C names vars cells k) (hh : C.A.handled = none) {x : Str} {px pos : Pos} {scope : Scope} {iter elt : Expr} {ifs : List Expr} {mi : St → zZ V} {tests : St → zZ Bool} {me : St → zZ V} {j : Nat}
  (hkind : scope.kind = .function) (hnl : (scope.names.all fun y => y.2 != .local || scope.names.lookup y.1 == some .local) = true) (hfree : (scope.names.filter (·.2 == .free)).map (·.1) = fs.map (·.1)) (hfs : (fs.map fun p => cells.lookup p.1) = fs.map fun p => some p.2)
  (hs : ∀ x, foldedSetIterable iter C.env x = pure x) (hi : bi prog w ac C mi (eval iter C.env))
  (hfl : (fs.all fun p => scope.names.lookup p.1 == some .free) = true) (hfn : jf (fs.map (·.1)) = true) (hnc : (scope.names.all fun y => y.2 != .cell) = true) (hx : scope.names.lookup x = some .local)
  (body : ∀ C', Ctx C' scope.names [(x, j)] fs k → C'.A.handled = none → zW prog w ac C' gM tests (fv ifs C'.env) ∧ bi prog w ac C' me (eval elt C'.env)) :
  bi prog w ac C (bI j mi tests me) (eval (.ListComp elt [⟨.Name x px, iter, ifs, 0⟩] scope pos) C.env) := by
 have hfs' : ∀ p ∈ fs, p ∈ C.cells := fun p hp => by
  have := List.map_inj_left.mp hfs p hp
  rw [G.cells]
  exact mem_of_lookup_some (b := p.2) this
 have hfl' : ∀ p ∈ fs, scope.names.lookup p.1 = some .free := fun p hp => by
  have := List.all_eq_true.mp hfl p hp
  simpa using this
 refine sq (Shape := eS C scope [(x, j)] [] fs) G.ok hh hs (gz G.ok hfs' hfree) hkind (fun y hy hl => ?_) hi (fun hlt s Q E hal h => jb G.ok hfs' hfl' (gX hfn) hkind (fun y hy => ?_) hx hlt s Q E hal h) fun C' sh hA => ?_
 ·have := List.all_eq_true.mp hnl y hy
  simpa [hl] using this
 ·have := List.all_eq_true.mp hnc y hy
  simpa using this
 ·obtain ⟨ok', v', ⟨L, c'⟩, k', kd⟩ := sh
  have G' : Ctx C' scope.names [(x, j)] fs k := ⟨ok', kd, v', by rw [c']; rfl, k'.trans G.k⟩
  exact ⟨(body C' G' (hA ▸ hh)).1, (body C' G' (hA ▸ hh)).2, fL ok' (by rw [v']; exact .head _)⟩
theorem kQ (fs : List (Str × Nat × Addr)) (G : Ctx C names vars cells k) (hh : C.A.handled = none) {x y : Str} {i : Nat} {px py pos spos : Pos} {scope : Scope} {iter elt : Expr} {ifs : List Expr} {mi : St → zZ V} {tests : St → zZ Bool} {me : St → zZ V} {j : Nat}
  (hy : vars.lookup y = some i) (hyk : names.lookup y = some .local) (hsw : ∀ env : Env, env.scope.kind = .function → env.kindOf y = some .local → swapsWith (.ListComp elt [⟨.Name x px, iter, ifs, 0⟩] scope pos) (some (.Name y py)) spos.line env = pure true)
  (hkind : scope.kind = .function) (hnl : (scope.names.all fun y => y.2 != .local || scope.names.lookup y.1 == some .local) = true) (hfree : (scope.names.filter (·.2 == .free)).map (·.1) = fs.map (·.1)) (hfs : (fs.map fun p => cells.lookup p.1) = fs.map fun p => some p.2)
  (hs : ∀ x, foldedSetIterable iter C.env x = pure x) (hi : bi prog w ac C mi (eval iter C.env))
  (hfl : (fs.all fun p => scope.names.lookup p.1 == some .free) = true) (hfn : jf (fs.map (·.1)) = true) (hnc : (scope.names.all fun y => y.2 != .cell) = true) (hx : scope.names.lookup x = some .local)
  (body : ∀ C', Ctx C' scope.names [(x, j)] fs k → C'.A.handled = none → zW prog w ac C' gM tests (fv ifs C'.env) ∧ bi prog w ac C' me (eval elt C'.env)) :
  gN prog w ac C (an (bI j mi tests me) (ao i)) (.Assign [.Name y py] (.ListComp elt [⟨.Name x px, iter, ifs, 0⟩] scope pos) spos) := by
 have hfs' : ∀ p ∈ fs, p ∈ C.cells := fun p hp => by
  have := List.map_inj_left.mp hfs p hp
  rw [G.cells]
  exact mem_of_lookup_some (b := p.2) this
 have hfl' : ∀ p ∈ fs, scope.names.lookup p.1 = some .free := fun p hp => by
  have := List.all_eq_true.mp hfl p hp
  simpa using this
 refine fj (Shape := eS C scope [(x, j)] [] fs) G.ok hh (by rw [G.vars]; exact mem_of_lookup_some hy) (hsw _ G.ok.kind (G.kind _ _ hyk (by intro q; cases q))) hs (gz G.ok hfs' hfree) hkind (fun y hy hl => ?_) hi (fun hlt s Q E hal h => jb G.ok hfs' hfl' (gX hfn) hkind (fun y hy => ?_) hx hlt s Q E hal h) fun C' sh hA => ?_
 ·have := List.all_eq_true.mp hnl y hy
  simpa [hl] using this
 ·have := List.all_eq_true.mp hnc y hy
  simpa using this
 ·obtain ⟨ok', v', ⟨L, c'⟩, k', kd⟩ := sh
  have G' : Ctx C' scope.names [(x, j)] fs k := ⟨ok', kd, v', by rw [c']; rfl, k'.trans G.k⟩
  exact ⟨(body C' G' (hA ▸ hh)).1, (body C' G' (hA ▸ hh)).2, fL ok' (by rw [v']; exact .head _)⟩
theorem jI (fs : List (Str × Nat × Addr)) (G : Ctx C names vars cells k) (hh : C.A.handled = none) {x y : Str} {i : Nat} {px py pos spos : Pos} {scope : Scope} {iter elt : Expr} {ifs : List Expr} {mi : St → zZ V} {tests : St → zZ Bool} {me : St → zZ V} {j : Nat}
  (hy : vars.lookup y = some i) (hyk : names.lookup y = some .local) (hsw : ∀ env : Env, env.scope.kind = .function → env.kindOf y = some .local → swapsWith (.ListComp elt [⟨.Name x px, iter, ifs, 0⟩] scope pos) (some (.Name y py)) spos.line env = pure true)
  (hkind : scope.kind = .function) (hnl : (scope.names.all fun y => y.2 != .local || scope.names.lookup y.1 == some .local) = true) (hfree : (scope.names.filter (·.2 == .free)).map (·.1) = fs.map (·.1)) (hfs : (fs.map fun p => cells.lookup p.1) = fs.map fun p => some p.2)
  (hs : ∀ x, foldedSetIterable iter C.env x = pure x) (hi : bi prog w ac C mi (eval iter C.env))
  (hfl : (fs.all fun p => scope.names.lookup p.1 == some .free) = true) (hfn : jf (fs.map (·.1)) = true) (hc1 : ∀ n cl, cellsFrom n scope.names cl = (x, n) :: cl) (hc2 : ∀ h, pushCells h scope.names = h.push { cls := .type "cell", data := .cell none }) (hx : scope.names.lookup x = some .cell)
  (body : ∀ C' L, Ctx C' scope.names [] ((x, j, L) :: fs) k → C'.A.handled = none → zW prog w ac C' gM tests (fv ifs C'.env) ∧ bi prog w ac C' me (eval elt C'.env)) :
  gN prog w ac C (an (bI j mi tests me) (ao i)) (.Assign [.Name y py] (.ListComp elt [⟨.Name x px, iter, ifs, 0⟩] scope pos) spos) := by
 have hfs' : ∀ p ∈ fs, p ∈ C.cells := fun p hp => by
  have := List.map_inj_left.mp hfs p hp
  rw [G.cells]
  exact mem_of_lookup_some (b := p.2) this
 have hfl' : ∀ p ∈ fs, scope.names.lookup p.1 = some .free := fun p hp => by
  have := List.all_eq_true.mp hfl p hp
  simpa using this
 refine fj (Shape := eS C scope [] [(x, j)] fs) G.ok hh (by rw [G.vars]; exact mem_of_lookup_some hy) (hsw _ G.ok.kind (G.kind _ _ hyk (by intro q; cases q))) hs (gz G.ok hfs' hfree) hkind (fun y hy hl => ?_) hi (fun hlt s Q E hal h => qF G.ok hfs' hfl' (gX hfn) hkind hc1 hc2 hx hlt s Q E hal h) fun C' sh hA => ?_
 ·have := List.all_eq_true.mp hnl y hy
  simpa [hl] using this
 ·obtain ⟨ok', v', ⟨L, c'⟩, k', kd⟩ := sh
  have G' : Ctx C' scope.names [] ((x, j, L) :: fs) k := ⟨ok', kd, v', by rw [c']; rfl, k'.trans G.k⟩
  exact ⟨(body C' L G' (hA ▸ hh)).1, (body C' L G' (hA ▸ hh)).2, kI ok' (c := L) (by rw [c']; exact .head _) (kd _ _ hx (by intro q; cases q))⟩
theorem nq {x y : Str} {px py pos spos : Pos} {scope : Scope} {iter elt : Expr} {ifs : List Expr} (h1 : (py.line == pos.line) = true) (h2 : (!(scope.names.any fun (n, k) => n == y && (k == .local || k == .cell))) = true) :
  ∀ env : Env, env.scope.kind = .function → env.kindOf y = some .local → swapsWith (.ListComp elt [⟨.Name x px, iter, ifs, 0⟩] scope pos) (some (.Name y py)) spos.line env = pure true := by
 intro env hk hy
 have hb : (env.blockKind == .function) = true := by
  unfold Env.blockKind
  first | (rw [hk]; rfl) | simp [hk]
 show (pure (env.blockKind == .function && env.kindOf y == some .local && py.line == pos.line && !(scope.names.any fun (n, k) => n == y && (k == .local || k == .cell))) : Sem Bool) = pure true
 rw [hb, hy, h1, h2]
 rfl
end
section
variable {prog : Program} {w : World} {ac : Heap} {mg mb : Str → Option Value} {K : Frag}
theorem hZ {C : Cx} {scope : Scope} {k : Nat} (ok : C.Ok) (hsc : C.env.scope = scope) {vars : List (Str × Nat)} (hv : C.vars = vars) {cells : List (Str × Nat × Addr)} (hc : C.cells = cells) (hk : C.k = k) : Ctx C scope.names vars cells k :=
 ⟨ok, fun y q h _ => by unfold Env.kindOf; rw [hsc]; exact h, hv, hc, hk⟩
theorem b0 (T : bB K ac mg mb) (fa : Nat) {oc : Value} {od : Option Addr} {fd : FuncData} {osl : Array (Option Value)} {body : List Stmt} (params others : List Str) (n : Nat) (dv : List V) (dx : List Value) (mk : List Value → Args) (k : Nat) {m : St → zZ F} {N : Nat} {names : List (Str × NameKind)}
  (h : K.lookup fa = some ⟨oc, od, .func fd, osl⟩) (hc : codeIn K fd.code fd.qualname = true) (hb : fd.body = .stmts body) (h1 : fd.closure = []) (h2 : fd.globals = mainGlobals)
  (h3 : fd.builtins = builtinsNs) (h4 : fd.scope.isCoroutine = false) (h5 : fd.scope.isGenerator = false) (h6 : fd.scope.kind = .function) (h7 : fd.scope.names = names)
  (hd : ∀ ρ, bL ρ dv dx) (hl : params.length = n + dx.length) (hB : ∀ (s : Shared) xs, ac.StaysIn s.heap → xs.length = n → BindsTo s fd (mk xs) (params.zip (xs ++ dx)))
  (hnd : (params ++ others).Nodup) (hloc : ((params ++ others).all fun x => names.lookup x == some .local) = true) (hcell : (names.all fun y => y.2 != .cell) = true) (hN : (params ++ others).length = N)
  (body' : ∀ C : Cx, Ctx C names (params ++ others).zipIdx [] k → C.A.handled = none → fY prog w ac C m body) :
  dy prog w ac (k + 1) (.ref fa) mk (dh N (ew n dv) m) := by
 subst h7
 subst hN
 refine nD T.T (jR T.X h hc hb h1 h2 h3 h4 h5 h6) (bind_ok hd hl hB) hnd (fun x hx => ?_) fun C ok hsc hv hc' hh hk => body' C (hZ ok hsc hv hc' hk) hh
 have := List.all_eq_true.mp hloc x hx
 simpa using this
theorem qT (T : bB K ac mg mb) (fa : Nat) {oc : Value} {od : Option Addr} {fd : FuncData} {osl : Array (Option Value)} {body : List Stmt} (params others : List Str) (n : Nat) (k : Nat) {m : St → zZ F} {N : Nat} {names : List (Str × NameKind)}
  (h : K.lookup fa = some ⟨oc, od, .func fd, osl⟩) (hc : codeIn K fd.code fd.qualname = true) (hb : fd.body = .stmts body) (h1 : fd.closure = []) (h2 : fd.globals = mainGlobals)
  (h3 : fd.builtins = builtinsNs) (h4 : fd.scope.isCoroutine = false) (h5 : fd.scope.isGenerator = false) (h6 : fd.scope.kind = .function) (h7 : fd.scope.names = names)
  (hl : params.length = n + 1) (hB : ∀ xs rest : List Value, xs.length = n → bindArgs fd ⟨xs ++ rest, []⟩ = (do let t ← newTuple rest; pure (params.zip (xs ++ [t]))))
  (hnd : (params ++ others).Nodup) (hloc : ((params ++ others).all fun x => names.lookup x == some .local) = true) (hcell : (names.all fun y => y.2 != .cell) = true) (hN : (params ++ others).length = N)
  (body' : ∀ C : Cx, Ctx C names (params ++ others).zipIdx [] k → C.A.handled = none → fY prog w ac C m body) :
  dy prog w ac (k + 1) (.ref fa) av (dh N (wC n) m) := by
 subst h7
 subst hN
 refine nD T.T (jR T.X h hc hb h1 h2 h3 h4 h5 h6) (rA hl hB) hnd (fun x hx => ?_) fun C ok hsc hv hc' hh hk => body' C (hZ ok hsc hv hc' hk) hh
 have := List.all_eq_true.mp hloc x hx
 simpa using this
theorem nN (T : bB K ac mg mb) (fa : Nat) {oc : Value} {od : Option Addr} {fd : FuncData} {osl : Array (Option Value)} {body : List Stmt} (params others cells : List Str) (n : Nat) (k : Nat) {m : St → zZ F} {N : Nat} {names : List (Str × NameKind)}
  (h : K.lookup fa = some ⟨oc, od, .func fd, osl⟩) (hc : codeIn K fd.code fd.qualname = true) (hb : fd.body = .stmts body) (h1 : fd.closure = []) (h2 : fd.globals = mainGlobals)
  (h3 : fd.builtins = builtinsNs) (h4 : fd.scope.isCoroutine = false) (h5 : fd.scope.isGenerator = false) (h6 : fd.scope.kind = .function) (h7 : fd.scope.names = names)
  (hl : params.length = n) (hB : ∀ (s : Shared) xs, ac.StaysIn s.heap → xs.length = n → BindsTo s fd ⟨xs, []⟩ (params.zip xs))
  (hnd : (params ++ others).Nodup) (hloc : ((params ++ others).all fun x => names.lookup x == some .local) = true) (hcell : (cells.all fun y => names.lookup y == some .cell) = true) (hcn : cells.Nodup) (hcx : (cells.all fun y => !params.contains y) = true) (hN : (params ++ others).length + cells.length = N) (cl : (Str → Addr) → List (Str × Nat × Addr)) (hcl : ∀ f, ((cells.zipIdx (params ++ others).length).map fun p => (p.1, p.2, f p.1)) = cl f)
  (body' : ∀ (C : Cx) (f : Str → Addr), Ctx C names (params ++ others).zipIdx (cl f) k → C.A.handled = none → fY prog w ac C m body) :
  dy prog w ac (k + 1) (.ref fa) av (dh N (ew n []) m) := by
 subst h7
 subst hN
 refine i6 (cells := cells) T.T (jR T.X h hc hb h1 h2 h3 h4 h5 h6) (bind_ok (dx := []) (fun ρ => .nil) (by simpa using hl) fun s xs hs hx => by simpa using hB s xs hs hx) hnd (fun x hx => ?_) (fun x hx => ?_) hcn (fun x hx => ?_) fun C ok hsc hv ⟨f, hc'⟩ hh hk => body' C f (hZ ok hsc hv (hc'.trans (hcl f)) hk) hh
 ·have := List.all_eq_true.mp hloc x hx
  simpa using this
 ·have := List.all_eq_true.mp hcell x hx
  have h' : fd.scope.names.lookup x = some .cell := by simpa using this
  exact ⟨h', fun n => cellsFrom_some _ _ _ (.inl h')⟩
 ·have := List.all_eq_true.mp hcx x hx
  simpa using this
end
section
variable {prog : Program} {w : World} {ac : Heap} {C : Cx} {mg mb : Str → Option Value} {K : Frag}
theorem ru {ms : St → zZ (List V)} {f : Value} {pos : Pos} {args : List Expr} (ha : bK prog w ac C ms pos args) (hp : (backTo pos (starEach args C.env)).any (·.1) = false) : gC prog w ac C av ms f (backTo pos (starEach args C.env)) (backToKw pos (keywordEach [] C.env)) := uh ha hp
theorem yq {ms : St → zZ (List V)} {f : Value} {pos p : Pos} {e e' : Expr} (ha : bK prog w ac C ms pos [e, .Starred e' p]) (he : starEach [e, .Starred e' p] C.env = (false, eval e C.env) :: starEach [.Starred e' p] C.env) :
  gC prog w ac C av ms f (backTo pos (starEach [e, .Starred e' p] C.env)) (backToKw pos (keywordEach [] C.env)) := lY ha he
theorem yr {m : St → zZ V} {f : Value} {pos p : Pos} {e : Expr} (h : bi prog w ac C m (eval e C.env)) (he : starEach [.Starred e p] C.env = [(true, eval e C.env)]) : gC prog w ac C av (lg m) f (backTo pos (starEach [.Starred e p] C.env)) (backToKw pos (keywordEach [] C.env)) := lZ h he
theorem tV {f : Value} {pos : Pos} : gC prog w ac C av (aa []) f (backTo pos (starEach [] C.env)) (backToKw pos (keywordEach [] C.env)) := uh ag rfl
noncomputable def pF (prog : Program) (w : World) (ac : Heap) (C : Cx) : List (V → St → zZ Unit) → List Expr → Prop
 | [], [] => True
 | f :: fs, t :: ts => j5 prog w ac C f t ∧ pF prog w ac C fs ts
 | _, _ => False
theorem nn : pF prog w ac C [] [] := trivial
theorem cx {f : V → St → zZ Unit} {fs : List (V → St → zZ Unit)} {t : Expr} {ts : List Expr} (h : j5 prog w ac C f t) (hs : pF prog w ac C fs ts) : pF prog w ac C (f :: fs) (t :: ts) := ⟨h, hs⟩
theorem xe : ∀ {fs : List (V → St → zZ Unit)} {elts : List Expr}, pF prog w ac C fs elts → nf prog w ac C fs (elts.map fun t => assign t C.env)
 | [], [], _ => trivial
 | _ :: _, _ :: _, ⟨h, hs⟩ => ⟨h, xe hs⟩
 | [], _ :: _, h => h.elim
 | _ :: _, [], h => h.elim
theorem sX (hh : C.A.handled = none) {fs : List (V → St → zZ Unit)} {elts : List Expr} {kk : Nat} {pos : Pos} (he : assignEach elts C.env = elts.map fun t => (false, assign t C.env)) (ht : pF prog w ac C fs elts) : j5 prog w ac C (pI fs) (.Tuple elts kk pos) := by
 refine uY hh ?_ ?_
 ·rw [he, List.findIdx?_eq_none_iff]
  intro x hx
  obtain ⟨t, _, rfl⟩ := List.mem_map.mp hx
  rfl
 ·rw [he, List.map_map]
  exact xe ht
theorem xS {mo : St → zZ V} {o : Expr} {pos : Pos} (ho : bi prog w ac C mo (eval o C.env)) (he : eval (.Attribute o "__next__" pos) C.env = (do
   let ov ← eval o C.env
   standAt pos.atName
   let r ← holding [ov] (getAttr ov "__next__" true)
   letTemporaryGo o ov r
   pure r)) : bi prog w ac C (ba oZ mo) (eval (.Attribute o "__next__" pos) C.env) := bd qa ho he
theorem vQ (hh : C.A.handled = none) {mf : St → zZ V} {o i : Expr} {sp pos : Pos} (hf : bi prog w ac C mf (eval (.Subscript o i sp) C.env)) : bi prog w ac C (fun σ => (mf σ).bind rz) (eval (.Call (.Subscript o i sp) [] [] pos) C.env) := qh hh hf rfl
end
section
variable {prog : Program} {w : World} {ac : Heap} {C : Cx}
theorem cf {a b : Option Expr} {pos : Pos} : gN prog w ac C dU (.Raise a b pos) := ig
theorem jX {a : Expr} {b : Option Expr} {pos : Pos} {rest : List Stmt} : fY prog w ac C dU (.Assert a b pos :: rest) := ig
theorem rC {np pos p : Pos} {as : List Expr} {ks : List Keyword} : gN prog w ac C dU (.Expr (.Call (.Name "_wall" np) as ks p) pos) := ig
theorem wD {e : List Expr} {k : Nat} {p ap cp pos : Pos} {o : Expr} {as : List Expr} {ks : List Keyword} {b z : List Stmt} : gN prog w ac C dU (.For (.Tuple e k p) (.Call (.Attribute o "items" ap) as ks cp) b z pos) := ig
theorem b_isi {np p1 pos pos' : Pos} {a : Expr} {y z : List Stmt} {rest : List Stmt} {x : Str} (h : (x == ("bytes_types" : Str)) = true) : fY prog w ac C dU (.If (.Call (.Name "isinstance" np) [a, .Name x p1] [] pos) y z pos' :: rest) := ig
end
section
variable {prog : Program} {w : World} {ac : Heap} {C C' : Cx} {names : List (Str × NameKind)} {vars : List (Str × Nat)} {cells : List (Str × Nat × Addr)} {k : Nat}
theorem Ctx.again (G : Ctx C names vars cells k) (ok : C'.Ok) (e : C'.env = C.env) (v : C'.vars = C.vars) (c : C'.cells = C.cells) (hk : C'.k = C.k) : Ctx C' names vars cells k :=
 ⟨ok, fun y q h1 h2 => by rw [e]; exact G.kind y q h1 h2, v.trans G.vars, c.trans G.cells, hk.trans G.k⟩
theorem yy (G : Ctx C names vars cells k) {x : Str} {i : Nat} (h : vars.lookup x = some i) : (x, i) ∈ C.vars := by rw [G.vars]; exact mem_of_lookup_some h
end
section
variable {prog : Program} {w : World} {ac : Heap} {mg mb : Str → Option Value} {K : Frag} {C C' : Cx} {names : List (Str × NameKind)} {vars : List (Str × Nat)} {cells : List (Str × Nat × Addr)} {k : Nat}
theorem qE (G : Ctx C names vars cells k) {m : St → zZ F} {cQ : Stmt} {suite : List Stmt} {pos : Pos} (hm : ∀ C' : Cx, Ctx C' names vars cells k → fY prog w ac C' m (cQ :: suite)) : wQ prog w ac C (kU m) none cQ suite pos :=
 qr G.ok fun C' ok e v c hk => hm C' (G.again ok e v c hk)
theorem xT (G : Ctx C names vars cells k) {m : St → zZ F} {n : Str} {i : Nat} {cQ : Stmt} {suite : List Stmt} {pos : Pos} (hx : vars.lookup n = some i) (hm : ∀ C' : Cx, Ctx C' names vars cells k → fY prog w ac C' m (cQ :: suite)) : wQ prog w ac C (asH i m) (some n) cQ suite pos :=
 vG G.ok (yy G hx) fun C' ok e v c hk => hm C' (G.again ok e v c hk)
theorem qD (x : Str) (c : Nat) {tbl : List (V × Bool)} (P : ng K (.ref c) tbl) (G : Ctx C names vars cells k) (T : bB K ac mg mb) {yes no : z5} {np : Pos} {name : Option Str} {cQ : Stmt} {suite : List Stmt} {pos : Pos} {rest : List ExceptHandler}
  (hn : names.lookup x = some .globalImplicit) (hd : (x == ("__debug__" : Str)) = false) (hg : nsIn K mainGlobals x = some (some (.ref c)))
  (hy : wQ prog w ac C yes name cQ suite pos) (hno : uQ prog w ac C no rest) : uQ prog w ac C (gm tbl yes no) (.ExceptHandler (some (.Name x np)) name (cQ :: suite) pos :: rest) :=
 kJ (cl := .top c) G.ok T.X P (fun _ ok e => nB ok T.T (by rw [e]; exact G.kind _ _ hn (by intro q; cases q)) (mg_of T.X T.T.g hg) (fun ρ => rfl) hd) (fun _ _ h => h) hy hno
theorem vP (x : Str) (t : String) {tbl : List (V × Bool)} (P : ng K (.type t) tbl) (G : Ctx C names vars cells k) (T : bB K ac mg mb) {yes no : z5} {np : Pos} {name : Option Str} {cQ : Stmt} {suite : List Stmt} {pos : Pos} {rest : List ExceptHandler}
  (hn : names.lookup x = some .globalImplicit) (hd : (x == ("__debug__" : Str)) = false) (hnn : (x == ("__name__" : Str)) = false) (hg : nsIn K mainGlobals x = some none) (hb : bootBuiltins x = some (.type t))
  (hy : wQ prog w ac C yes name cQ suite pos) (hno : uQ prog w ac C no rest) : uQ prog w ac C (gm tbl yes no) (.ExceptHandler (some (.Name x np)) name (cQ :: suite) pos :: rest) :=
 kJ (cl := .type t) G.ok T.X P (fun _ ok e => nC ok T.T (by rw [e]; exact G.kind _ _ hn (by intro q; cases q)) (ns_none_of T.X T.T.g hg) (by intro q; subst q; cases hnn) hb (fun ρ => rfl) hd) (fun _ _ h => h) hy hno
theorem vO (G : Ctx C names vars cells k) {x : Str} {i : Nat} {q a b : Str} {k1 k2 k3 : Nat} {p1 p2 p3 np apos pos pos' : Pos} (hx : vars.lookup x = some i) (hd : (x == ("__debug__" : Str)) = false)
  (hse : starEach [.Constant (.str a) k2 p2, .Constant (.str b) k3 p3] C.env = [(false, eval (.Constant (.str a) k2 p2) C.env), (false, eval (.Constant (.str b) k3 p3) C.env)])
  (hbase : attributeBase (.Name x np) "replace" C.env (eval (.Name x np) C.env) = eval (.Name x np) C.env)
  (hfew : ((backTo pos (starEach [.Constant (.str a) k2 p2, .Constant (.str b) k3 p3] C.env)).all (fun x => !x.1) && (backToKw pos (keywordEach [] C.env)).all (fun x => x.1.isSome) && decide ([Expr.Constant (.str a) k2 p2, Expr.Constant (.str b) k3 p3].length + ([] : List Keyword).length + (if ([] : List Keyword).isEmpty then 0 else 1) < 30)) = true)
  (hline : (apos.endLine == pos.line) = true) :
  bi prog w ac C (nJ i q a b) (eval (.BinOp (.Constant (.str q) k1 p1) .Add (.Call (.Attribute (.Name x np) "replace" apos) [.Constant (.str a) k2 p2, .Constant (.str b) k3 p3] [] pos) pos') C.env) :=
 p7 G.ok (yy G hx) hd hse hbase hfew hline
end
section
variable {prog : Program} {w : World} {ac : Heap} {C : Cx} {mg mb : Str → Option Value} {K : Frag} {ρ : List Addr} {σ : St} {s : Shared} {names : List (Str × NameKind)} {vars : List (Str × Nat)} {cells : List (Str × Nat × Addr)} {k : Nat}
structure ub (K : Frag) (c : Nat) (x : Str) (fa : Addr) : Prop where
 i : ft K c x fa
 h : hasDictIn K c = true
 g : specialIn K (.ref fa) "__get__" = some (some (.builtin "function.__get__"))
 t : takesIn K (.ref fa) = some false
 c : copiedNames.contains x = false
 n : fnIn K fa = true
theorem mY (ok : C.Ok) (hq : C.A.handled = none) {k : Nat} {fa q : Addr} {self : Value} {m : cX} (hk : k ≤ C.k) (h : dy prog w ac k (.ref fa) av m) (r : zX prog w ac C ρ σ s) (ho : s.heap.get? q = some (methodObj (.ref fa) self)) {v : V} {vs : List V} {xs : List Value} (ha : bL ρ (v :: vs) (self :: xs)) :
  At prog w ac C VR ρ σ s (bJ m (v :: vs) σ) (call (.ref q) xs []) := by
 intro hn
 have hm : m (v :: vs) σ.heap ≠ .bad := fun q => hn (by unfold bJ; rw [q])
 have hd := ok.depth
 have hu := ok.units
 have frm : ∀ L ∈ bD (C.fenv :: C.outer), L ∉ ρ := fun L hL => by
  obtain ⟨e, he, hf⟩ := List.mem_filterMap.mp hL
  exact (r.frn e he L hf).1
 refine wpAny_call (method_call ho (codeAny_mono (h C.A _ ρ σ.heap s _ _ ok.fr hq (by lia) (by lia) r.frs frm r.hp ha hm) fun res s' hp => ?_))
 unfold bJ at hn ⊢
 cases q : m (v :: vs) σ.heap with
 | ok v τ =>
  rw [q] at hp
  obtain ⟨x, ρ', rfl, hv, st⟩ := hp
  exact zx hv (st.up r)
 | exc c as τ =>
  rw [q] at hp
  obtain ⟨e, ρ', rfl, hf, st⟩ := hp
  exact ⟨ρ', hf.up (st.up r).rel, st.up r⟩
 | bad => rw [q] at hp; exact hp.elim
theorem p5 {K : Frag} (ok : C.Ok) (hq : C.A.handled = none) (X : K.In ac) {c : Nat} {name : Str} {fa : Addr} (Mi : ub K c name fa) {kf : Nat} {m : cX} (hkf : kf ≤ C.k) (hf : dy prog w ac kf (.ref fa) av m) {mo : St → zZ V} {ma : St → zZ (List V)} {o : Expr} {apos pos : Pos} {args : List Expr}
  (ho : bi prog w ac C mo (eval o C.env)) (ha : ∀ q, gC prog w ac C av ma (.ref q) (backTo pos (starEach args C.env)) (backToKw pos (keywordEach [] C.env))) (hp : jv (backTo pos (starEach args C.env)) (backToKw pos (keywordEach [] C.env)))
  (he : eval (.Call (.Attribute o name apos) args [] pos) C.env = (do
   let ov ← eval o C.env
   standAt apos.atName
   let (f, first) ← holding [ov] (do pure (← getAttr ov name true, []))
   callWith pos f first (backTo pos (starEach args C.env)) (backToKw pos (keywordEach [] C.env)))) :
  bi prog w ac C (cU (bO c name) (bJ m) mo ma) (eval (.Call (.Attribute o name apos) args [] pos) C.env) := by
 refine zW.gen fun ρ σ s z r e hb => ?_
 rw [he]
 refine wpAny_bind ((ho.at r).next e hb fun v ae aw az v' _e vv au e => ?_)
 refine wpAny_bind (wpAny_standAt (wpAny_bind (wpAny_holding (wpAny_bind ?_))))
 clear _e
 obtain ⟨hc, e'⟩ := fq e.symm hb
 clear e
 obtain ⟨l, d, sl, fs, rfl, q1, q2, hsh⟩ := jl hc
 obtain ⟨a, hx, rfl⟩ := vv
 obtain ⟨dx, sx, es, n, g1, g2, g3, g4, g5, I⟩ := gs au.rel.hp q1 q2 hx
 obtain ⟨o', h1, h2⟩ := eY (x := name) g3
 rw [hsh] at h2
 cases h2
 have XK := X.keeps au.rel.hp.base
 have st2 := au.rel.grow (methodObj (.ref fa) (.ref a)) (az.toks + 1)
 refine get_bind XK I (plainGet_of Mi.i.g).1 (findObj_fn Mi.h Mi.i.f Mi.g Mi.t Mi.c (by show lookIn name (dictOf es n) = _; rw [lookIn_dict, h1])) (plainGet_of Mi.i.g).2
  (wpAny_call (fn_get (s := { az with toks := az.toks + 1 }) XK (beq_iff_eq.mp Mi.i.t) (handed_on rfl (wpAny_pure ?_))))
 have hq0 : (az.heap.push (methodObj (.ref fa) (.ref a))).get? az.heap.objs.size = some (methodObj (.ref fa) (.ref a)) := Heap.get?_push_size _ rfl
 have hk : ∀ h, (ac.StaysIn h ∧ h.get? az.heap.objs.size = some (methodObj (.ref fa) (.ref a))) → ∃ k, (k = Keeper.frame ∨ k = Keeper.machine ∨ k = Keeper.boundFrame) ∧ Looks (model prog w) h (keeperOf (.ref az.heap.objs.size)) k :=
  fun h hh => keeps_M Mi.n h ⟨hh.2, X.keeps hh.1⟩
 have main : wpAny (model prog w) C.A (evalArgs (.ref az.heap.objs.size) true (backTo pos (starEach args C.env)) (backToKw pos (keywordEach [] C.env)))
   (fun y bF => (ac.StaysIn bF.heap ∧ bF.heap.get? az.heap.objs.size = some (methodObj (.ref fa) (.ref a))) ∧ wpAny (model prog w) C.A (call (.ref az.heap.objs.size) ([] ++ y.pos) y.kw) (z3 prog w ac C VR ρ σ s z) (z7 prog w ac C ρ σ s z) bF)
   (z7 prog w ac C ρ σ s z) { az with heap := az.heap.push (methodObj (.ref fa) (.ref a)), toks := az.toks + 1 } := by
  refine ((ha az.heap.objs.size).at st2.rel).then (au.trans st2) e'.symm hb fun b aq aK aS b' _ vb aJ st e => ?_
  have keepq : aS.heap.get? az.heap.objs.size = some (methodObj (.ref fa) (.ref a)) := by
   obtain ⟨o2, e2, sm⟩ := aJ.pres _ _ hq0 (ix st2.rel au.rel.hp.fresh hq0 (.inl ⟨_, rfl⟩))
   rcases sm with rfl | ⟨⟨es, n, hd⟩, _⟩
   ·exact e2
   ·cases hd
  refine ⟨⟨st.rel.hp.base, keepq⟩, ?_⟩
  subst e
  obtain ⟨xs, hxs, rfl⟩ := vb
  have vv' : VR aK (.ref l) (.ref a) := (st2.trans aJ).vr (v := .ref l) ⟨a, hx, rfl⟩
  exact (mY ok hq hkf hf st.rel keepq (.cons vv' hxs)).trans st hb
 rcases hp with hp | ⟨hp, hp2⟩
 ·exact callWith_of hp hk main
 ·rw [hp2] at main ⊢
  exact ks_call hp hk main
noncomputable def rN (prog : Program) (w : World) (ac : Heap) (C : Cx) (ms : St → zZ (List V)) (args : List (Bool × Sem Value)) (kws : List (Option Str × Sem Value)) : Prop := ∀ q, gC prog w ac C av ms (.ref q) args kws
theorem xV {ms : St → zZ (List V)} {pos p : Pos} {e e' : Expr} (ha : bK prog w ac C ms pos [e, .Starred e' p]) (he : starEach [e, .Starred e' p] C.env = (false, eval e C.env) :: starEach [.Starred e' p] C.env) :
  rN prog w ac C ms (backTo pos (starEach [e, .Starred e' p] C.env)) (backToKw pos (keywordEach [] C.env)) := fun _ => yq ha he
theorem xW {m : St → zZ V} {pos p : Pos} {e : Expr} (h : bi prog w ac C m (eval e C.env)) (he : starEach [.Starred e p] C.env = [(true, eval e C.env)]) : rN prog w ac C (lg m) (backTo pos (starEach [.Starred e p] C.env)) (backToKw pos (keywordEach [] C.env)) := fun _ => yr h he
theorem qC {kf fa c : Nat} {m : cX} (name : Str) (hf : dy prog w ac kf (.ref fa) av m) (Mi : ub K c name fa) (G : Ctx C names vars cells k) (T : bB K ac mg mb) (hh : C.A.handled = none) {mo : St → zZ V} {ma : St → zZ (List V)} {o : Expr} {apos pos : Pos} {args : List Expr}
  (hkf : Nat.ble kf k = true) (ho : bi prog w ac C mo (eval o C.env)) (ha : rN prog w ac C ma (backTo pos (starEach args C.env)) (backToKw pos (keywordEach [] C.env))) (hp : jv (backTo pos (starEach args C.env)) (backToKw pos (keywordEach [] C.env)))
  (he : eval (.Call (.Attribute o name apos) args [] pos) C.env = (do
   let ov ← eval o C.env
   standAt apos.atName
   let (f, first) ← holding [ov] (do pure (← getAttr ov name true, []))
   callWith pos f first (backTo pos (starEach args C.env)) (backToKw pos (keywordEach [] C.env)))) :
  bi prog w ac C (cU (bO c name) (bJ m) mo ma) (eval (.Call (.Attribute o name apos) args [] pos) C.env) :=
 p5 G.ok hh T.X Mi (by rw [G.k]; exact Nat.le_of_ble_eq_true hkf) hf ho ha hp he
end
section
variable {C : Cx} {names : List (Str × NameKind)} {vars : List (Str × Nat)} {cells : List (Str × Nat × Addr)} {k : Nat}
theorem qP (G : Ctx C names vars cells k) {y : Str} {py pos : Pos} {scope : Scope} {gens : List Comprehension} {elt : Expr} {line : Nat} (h : names.lookup y = some .cell) : swapsWithSole [.Name y py] (.ListComp elt gens scope pos) line C.env = pure false := by
 have hy : C.env.kindOf y = some .cell := G.kind _ _ h (by intro q; cases q)
 show (pure (C.env.blockKind == .function && C.env.kindOf y == some .local && py.line == pos.line && !(scope.names.any fun (n, k) => n == y && (k == .local || k == .cell))) : Sem Bool) = pure false
 rw [hy]
 cases (C.env.blockKind == ScopeKind.function) <;> rfl
end
noncomputable def pJ : V → Bool
 | .ref _ => false
 | _ => true
theorem lR {v : V} {x : Value} (h : pJ v = true) {ρ ρ' : List Addr} (e : VR ρ v x) : VR ρ' v x := by
 cases v <;> first | exact e | cases h
noncomputable def zr (f : Nat → Nat) : V → V
 | .ref l => .ref (f l)
 | v => v
noncomputable def oR (p : Nat → Bool) : V → Bool
 | .ref l => p l
 | _ => true
noncomputable def qB (f : Nat → Nat) : O → O
 | .list xs => .list (xs.map (zr f))
 | .tup xs => .tup (xs.map (zr f))
 | o => o
noncomputable def eB (p : Nat → Bool) : O → Bool
 | .list xs => xs.all (oR p)
 | .tup xs => xs.all (oR p)
 | _ => false
theorem xd {ρ ρ2 : List Addr} {f : Nat → Nat} {p : Nat → Bool} (hf : ∀ l, p l = true → ∃ a, ρ[l]? = some a ∧ ρ2[f l]? = some a) {v : V} {x : Value} (h : oR p v = true) (e : VR ρ v x) : VR ρ2 (zr f v) x := by
 cases v <;> first | exact e | skip
 rename_i l
 obtain ⟨a, h1, rfl⟩ := e
 obtain ⟨b, g1, g2⟩ := hf l h
 rw [h1] at g1; cases g1
 exact ⟨a, g2, rfl⟩
theorem nc {ρ ρ2 : List Addr} {f : Nat → Nat} {p : Nat → Bool} (hf : ∀ l, p l = true → ∃ a, ρ[l]? = some a ∧ ρ2[f l]? = some a) : ∀ {vs : List V} {xs : List Value}, vs.all (oR p) = true → bL ρ vs xs → bL ρ2 (vs.map (zr f)) xs
 | [], _, _, e => e
 | v :: vs, _, h, ⟨x, xs, e, h1, h2⟩ => by
  simp only [List.all_cons, Bool.and_eq_true] at h
  exact ⟨x, xs, e, xd hf h.1 h1, nc hf h.2 h2⟩
theorem qK {prog : Program} {w : World} {ρ ρ2 : List Addr} {f : Nat → Nat} {p : Nat → Bool} (hf : ∀ l, p l = true → ∃ a, ρ[l]? = some a ∧ ρ2[f l]? = some a) {o : O} {ob : Obj} (h : eB p o = true) (e : z4 prog w ρ o ob) : z4 prog w ρ2 (qB f o) ob := by
 cases o <;> first | cases h | skip
 ·obtain ⟨vs, n, e, a⟩ := e; exact ⟨vs, n, e, nc hf h a⟩
 ·obtain ⟨vs, n, e, a⟩ := e; exact ⟨vs, n, e, nc hf h a⟩
theorem mh {f : Nat → Nat} {p : Nat → Bool} {o : O} (h : eB p o = true) : ∀ es ep, qB f o ≠ .dict es ep := by
 cases o <;> first | cases h | (intro _ _ q; cases q)
section
variable {prog : Program} {w : World} {ac : Heap} {C : Cx} {ρ ρ0 ρ' : List Addr} {σ : St} {H H0 H' : List O} {s s' : Shared}
theorem cE.regive (r : eh prog w ac ρ H s) (st : cE prog w ac ρ0 H0 s ρ' H' s') (hsub : ∀ a ∈ ρ0, a ∈ ρ)
  (hold : ∀ (l : Nat) (o : O) (a : Addr), H[l]? = some o → ρ[l]? = some a → ∃ ob, s'.heap.get? a = some ob ∧ z4 prog w ρ o ob)
  (ks : List Nat) (f : Nat → Nat) (p : Nat → Bool) (hk : ∀ k ∈ ks, ρ0.length ≤ k) (hnd : ks.Nodup) (hlt : ∀ k ∈ ks, k < H'.length) (hg : ∀ k ∈ ks, ∀ o : O, H'[k]? = some o → eB p o = true)
  (hf : ∀ l, p l = true → ∃ a, ρ'[l]? = some a ∧ (ρ ++ ks.map fun k => ρ'.getD k 0)[f l]? = some a) :
  cE prog w ac ρ H s (ρ ++ ks.map fun k => ρ'.getD k 0) (H ++ ks.map fun k => qB f (H'.getD k .dead)) s' := by
 have hlen := st.rel.len
 have hget : ∀ k ∈ ks, ρ'[k]? = some (ρ'.getD k 0) := fun k hk => by
  have : k < ρ'.length := by rw [hlen]; exact hlt k hk
  rw [List.getElem?_eq_getElem this, List.getD_eq_getElem?_getD, List.getElem?_eq_getElem this]; rfl
 have hdead : ∀ k ∈ ks, s.heap.get? (ρ'.getD k 0) = none := fun k hk' => by
  obtain ⟨more, e, hm⟩ := st.ext
  have h1 := hget k hk'
  rw [e] at h1
  rw [List.getElem?_append_right (hk k hk')] at h1
  rw [← e] at h1
  exact hm _ (List.mem_of_getElem? h1)
 have hlive : ∀ a ∈ ρ, s.heap.get? a ≠ none := fun a ha => by
  obtain ⟨l, hl, e⟩ := List.mem_iff_getElem.mp ha
  have e' : ρ[l]? = some a := by rw [List.getElem?_eq_getElem hl, e]
  have hl2 : l < H.length := r.len ▸ hl
  obtain ⟨ob, h1, _⟩ := r.obj l _ _ (List.getElem?_eq_getElem hl2) e'
  rw [h1]; simp
 refine ⟨⟨st.rel.base, by simp [r.len], fun l o a h e => ?_, ?_, fun a ha => ?_, fun l es ep a h e => ?_, r.main⟩, ⟨_, rfl, fun a ha => ?_⟩, fun a o h hn => st.pres a o h fun q => hn (hsub a q), st.rest⟩
 ·by_cases hl : l < ρ.length
  ·rw [List.getElem?_append_left hl] at e
   rw [List.getElem?_append_left (r.len ▸ hl)] at h
   obtain ⟨ob, g1, g2⟩ := hold l o a h e
   exact ⟨ob, g1, g2.mono⟩
  ·rw [List.getElem?_append_right (by lia)] at e
   rw [List.getElem?_append_right (by rw [← r.len]; lia), ← r.len] at h
   rw [List.getElem?_map] at e h
   cases q : ks[l - ρ.length]? with
   | none => rw [q] at e; cases e
   | some k =>
    rw [q] at e h
    simp only [Option.map_some, Option.some.injEq] at e h
    subst e h
    have hkm := List.mem_of_getElem? q
    have hH : H'[k]? = some (H'.getD k .dead) := by
     rw [List.getElem?_eq_getElem (hlt k hkm), List.getD_eq_getElem?_getD, List.getElem?_eq_getElem (hlt k hkm)]; rfl
    obtain ⟨ob, g1, g2⟩ := st.rel.obj k _ _ hH (hget k hkm)
    exact ⟨ob, g1, qK hf (hg k hkm _ hH) g2⟩
 ·refine List.nodup_append.mpr ⟨r.nodup, ?_, fun a ha b hb => ?_⟩
  ·refine List.pairwise_iff_getElem.mpr fun i j hi hj hij => ?_
   simp only [List.getElem_map]
   intro q
   have hi' : i < ks.length := by simpa using hi
   have hj' : j < ks.length := by simpa using hj
   have := iy st.rel.nodup (hget _ (List.getElem_mem hi')) (q ▸ hget _ (List.getElem_mem hj'))
   exact absurd this (List.pairwise_iff_getElem.mp hnd i j hi' hj' hij)
  ·obtain ⟨k, hk', rfl⟩ := List.mem_map.mp hb
   rintro rfl
   exact hlive _ ha (hdead k hk')
 ·rcases List.mem_append.mp ha with h | h
  ·exact r.new a h
  ·obtain ⟨k, hk', rfl⟩ := List.mem_map.mp h
   exact st.rel.new _ (List.mem_of_getElem? (hget k hk'))
 ·by_cases hl : l < ρ.length
  ·rw [List.getElem?_append_left hl] at e
   rw [List.getElem?_append_left (r.len ▸ hl)] at h
   exact r.sys l es ep a h e
  ·rw [List.getElem?_append_right (by rw [← r.len]; lia), ← r.len, List.getElem?_map] at h
   cases q : ks[l - ρ.length]? with
   | none => rw [q] at h; cases h
   | some k =>
    rw [q] at h
    have hkm := List.mem_of_getElem? q
    have hH : H'[k]? = some (H'.getD k .dead) := by
     rw [List.getElem?_eq_getElem (hlt k hkm), List.getD_eq_getElem?_getD, List.getElem?_eq_getElem (hlt k hkm)]; rfl
    simp only [Option.map_some, Option.some.injEq] at h
    exact absurd h (mh (hg k hkm _ hH) _ _)
 ·obtain ⟨k, hk', rfl⟩ := List.mem_map.mp ha
  exact hdead k hk'
end
noncomputable def oY (_ : Nat) : Bool := false
noncomputable def gw (o : O) : Bool := eB oY o
noncomputable def noDict : O → Bool
 | .dict .. => false
 | .idict .. => false
 | _ => true
noncomputable def refsOf (vs : List V) : List Nat := vs.filterMap fun v => match v with
 | .ref l => some l
 | _ => none
noncomputable def zm (vs : List V) (H : List O) : Option (List V × List O) := match refsOf vs with
 | [] => some (vs, [])
 | [l] => match H[l]? with
  | some o => if gw o then some (vs.map (zr fun _ => 0), [o]) else none
  | none => none
 | _ => none
noncomputable def bQ (m : cX) (vs : List V) (σ : St) : zZ V := match zm vs σ.heap with
 | none => .bad
 | some (vs0, H0) => if σ.heap.all noDict = true then (match m vs0 H0 with
  | .ok v τ => if τ.heap.take H0.length = H0 then (match v with
    | .ref r => match τ.heap[r]? with
     | some o => if H0.length ≤ r ∧ gw o = true then .ok (.ref σ.heap.length) { σ with heap := σ.heap ++ [o] } else .bad
     | none => .bad
    | v => .ok v σ) else .bad
  | .exc c as τ => if (pJ c = true ∧ as.all pJ = true) ∧ τ.heap.take H0.length = H0 then .exc c as σ else .bad
  | .bad => .bad) else .bad
theorem jH {f : Nat → Nat} : ∀ {vs : List V}, vs.all (oR oY) = true → vs.map (zr f) = vs
 | [], _ => rfl
 | v :: vs, h => by
  simp only [List.all_cons, Bool.and_eq_true] at h
  simp only [List.map_cons, jH h.2]
  cases v <;> first | rfl | cases h.1
theorem kO {f : Nat → Nat} {o : O} (h : gw o = true) : qB f o = o := by
 cases o <;> first | rfl | skip
 ·exact congrArg O.list (jH h)
 ·exact congrArg O.tup (jH h)
theorem ou {ρ ρ' : List Addr} : ∀ {vs : List V} {xs : List Value}, refsOf vs = [] → bL ρ vs xs → bL ρ' vs xs
 | [], _, _, e => e
 | v :: vs, _, h, ⟨x, xs, e, h1, h2⟩ => by
  cases v <;> first | exact ⟨x, xs, e, h1, ou h h2⟩ | cases h
theorem lK {ρ ρ' : List Addr} : ∀ {vs : List V} {xs : List Value}, vs.all pJ = true → bL ρ vs xs → bL ρ' vs xs
 | [], _, _, e => e
 | v :: vs, _, h, ⟨x, xs, e, h1, h2⟩ => by
  simp only [List.all_cons, Bool.and_eq_true] at h
  exact ⟨x, xs, e, lR h.1 h1, lK h.2 h2⟩
theorem rJ {ρ : List Addr} {l : Nat} {a : Addr} (hl : ρ[l]? = some a) : ∀ {vs : List V} {xs : List Value}, (∀ k ∈ refsOf vs, k = l) → bL ρ vs xs → bL [a] (vs.map (zr fun _ => 0)) xs
 | [], _, _, e => e
 | v :: vs, _, h, ⟨x, xs, e, h1, h2⟩ => by
  have ht : ∀ k ∈ refsOf vs, k = l := fun k hk => h k (by
   unfold refsOf at hk ⊢
   rw [List.filterMap_cons]
   split
   ·exact hk
   ·exact List.mem_cons_of_mem _ hk)
  refine ⟨x, xs, e, ?_, rJ hl ht h2⟩
  cases v <;> first | exact h1 | skip
  rename_i k
  have : k = l := h k (by unfold refsOf; rw [List.filterMap_cons]; exact List.mem_cons_self)
  subst this
  obtain ⟨b, g1, rfl⟩ := h1
  rw [hl] at g1; cases g1
  exact ⟨a, rfl, rfl⟩
section
variable {prog : Program} {w : World} {ac : Heap} {C : Cx} {ρ ρ0 ρ' : List Addr} {σ : St} {H H0 H' : List O} {s s' : Shared}
theorem qL {ρ ρ2 : List Addr} {o : O} {ob : Obj} (h : gw o = true) (e : z4 prog w ρ o ob) : z4 prog w ρ2 o ob := by
 have := qK (f := id) (p := oY) (ρ2 := ρ2) (fun l q => by cases q) h e
 rwa [kO h] at this
theorem mj {o : O} {ob : Obj} (h : noDict o = true) (e : z4 prog w ρ o ob) : ∀ es n, ob.data ≠ .dict es n := by
 intro es n q
 cases o <;> first | cases h | skip
 ·obtain ⟨vs, n, rfl, _⟩ := e; cases q
 ·obtain ⟨vs, n, rfl, _⟩ := e; cases q
 ·obtain ⟨a, _, rfl⟩ := e; cases q
 ·obtain ⟨t, u, v, rfl⟩ := e; cases q
 ·obtain ⟨es', ep, t, _, hd, _⟩ := e; rw [hd] at q; cases q
 ·obtain ⟨dx, sx, _, rfl, _⟩ := e; cases q
 ·obtain ⟨a, _, rfl⟩ := e; cases q
 ·obtain ⟨a, _, rfl⟩ := e; cases q
 ·obtain ⟨a, vs, _, _, hd, _⟩ := e; rw [hd] at q; cases q
 ·obtain ⟨vs, hd⟩ := e; rw [hd] at q; cases q
theorem xc (r : eh prog w ac ρ H s) {vs vs0 : List V} {xs : List Value} (ha : bL ρ vs xs) (hz : zm vs H = some (vs0, H0)) :
  ∃ ρ0, eh prog w ac ρ0 H0 s ∧ bL ρ0 vs0 xs ∧ (∀ a ∈ ρ0, a ∈ ρ) ∧ ∀ (l : Nat) (o : O) (a : Addr), H[l]? = some o → ρ[l]? = some a → a ∈ ρ0 → ∃ i : Nat, ρ0[i]? = some a ∧ H0[i]? = some o ∧ gw o = true := by
 unfold zm at hz
 split at hz
 ·rename_i q
  cases hz
  exact ⟨[], ⟨r.base, rfl, fun l o a h => by simp at h, List.nodup_nil, fun a h => by simp at h, fun l es ep a h => by simp at h, r.main⟩, ou q ha, fun a h => by simp at h, fun l o a _ _ h => by simp at h⟩
 ·rename_i l q
  split at hz
  ·rename_i o ho
   split at hz
   ·rename_i hf
    cases hz
    obtain ⟨a, ob, h1, h2, h3, h4⟩ := r.at ho
    refine ⟨[a], ⟨r.base, rfl, fun l' o' a' h e => ?_, by simp, fun b hb => ?_, fun l' es ep b h e => ?_, r.main⟩, rJ h1 (fun k hk => by rw [q] at hk; simpa using hk) ha, fun b hb => ?_, fun l' o' b g1 g2 g3 => ?_⟩
    ·have hl0 : l' = 0 := by
      have := (List.getElem?_eq_some_iff.mp h).1
      simp at this; lia
     subst hl0
     simp at h e
     subst h e
     exact ⟨ob, h3, qL hf h4⟩
    ·simp at hb; subst hb; exact r.new _ h2
    ·have hl0 : l' = 0 := by
      have := (List.getElem?_eq_some_iff.mp h).1
      simp at this; lia
     subst hl0
     simp at h
     subst h
     cases hf
    ·simp at hb; subst hb; exact h2
    ·simp at g3
     subst g3
     have := iy r.nodup g2 h1
     subst this
     rw [ho] at g1; cases g1
     exact ⟨0, rfl, rfl, hf⟩
   ·cases hz
  ·cases hz
 ·cases hz
theorem rh (r : eh prog w ac ρ H s) (st : cE prog w ac ρ0 H0 s ρ' H' s') (hd : H.all noDict = true) (ht : H'.take H0.length = H0)
  (hz : ∀ (l : Nat) (o : O) (a : Addr), H[l]? = some o → ρ[l]? = some a → a ∈ ρ0 → ∃ i : Nat, ρ0[i]? = some a ∧ H0[i]? = some o ∧ gw o = true) :
  ∀ (l : Nat) (o : O) (a : Addr), H[l]? = some o → ρ[l]? = some a → ∃ ob, s'.heap.get? a = some ob ∧ z4 prog w ρ o ob := by
 intro l o a h e
 by_cases hm : a ∈ ρ0
 ·obtain ⟨i, g1, g2, g3⟩ := hz l o a h e hm
  have hi : H'[i]? = some o := by
   have hlt := (List.getElem?_eq_some_iff.mp g2).1
   rw [← ht] at g2
   rwa [List.getElem?_take_of_lt hlt] at g2
  obtain ⟨more, e2, _⟩ := st.ext
  obtain ⟨ob, k1, k2⟩ := st.rel.obj i o a hi (by rw [e2]; exact cq g1)
  exact ⟨ob, k1, qL g3 k2⟩
 ·obtain ⟨ob, g1, g2⟩ := r.obj l o a h e
  obtain ⟨ob', k1, k2⟩ := st.pres a ob g1 hm
  have hn := List.all_eq_true.mp hd o (List.mem_of_getElem? h)
  rcases k2 with rfl | ⟨⟨es, n, q⟩, _⟩
  ·exact ⟨_, k1, g2⟩
  ·exact absurd q (mj hn g2 es n)
theorem kF (ok : C.Ok) (hq : C.A.handled = none) {k : Nat} {f : Value} {mk : List Value → Args} {m : cX} (hk : k ≤ C.k) (h : dy prog w ac k f mk m) : cR prog w ac C f mk (bQ m) := by
 intro ρ σ s vs xs r ha hn
 unfold bQ at hn ⊢
 cases hz : zm vs σ.heap with
 | none => rw [hz] at hn; exact absurd rfl hn
 | some q =>
  obtain ⟨vs0, H0⟩ := q
  rw [hz] at hn
  dsimp only at hn ⊢
  by_cases hdict : σ.heap.all noDict = true
  ·rw [if_pos hdict] at hn
   simp only [if_pos hdict]
   obtain ⟨ρ0, r0, ha0, hsub, hz'⟩ := xc r.hp ha hz
   have hm : m vs0 H0 ≠ .bad := fun q => hn (by rw [q])
   have hd := ok.depth
   have hu := ok.units
   have frm : ∀ L ∈ bD (C.fenv :: C.outer), L ∉ ρ0 := fun L hL q => by
    obtain ⟨e, he, hf⟩ := List.mem_filterMap.mp hL
    exact (r.frn e he L hf).1 (hsub L q)
   refine wpAny_call (codeAny_mono (h C.A _ ρ0 H0 s vs0 xs ok.fr hq (by lia) (by lia) r.frs frm r0 ha0 hm) fun res s' hp => ?_)
   cases q : m vs0 H0 with
   | bad => rw [q] at hp; exact hp.elim
   | ok v τ =>
    rw [q] at hp hn
    dsimp only at hn ⊢
    obtain ⟨x, ρ', rfl, hv, st⟩ := hp
    by_cases ht : τ.heap.take H0.length = H0
    ·rw [if_pos ht] at hn
     simp only [if_pos ht]
     have hold := rh r.hp st hdict ht hz'
     have sc : ∀ {v : V}, pJ v = true → VR ρ' v x → z3 prog w ac C VR ρ σ s (.ok v σ) x s' := fun {v} hs hv => by
      have st2 := cE.regive r.hp st hsub hold [] id oY (by simp) (by simp) (by simp) (by simp) (by intro l q; cases q)
      simp only [List.map_nil, List.append_nil] at st2
      exact zx (lR hs hv) (st2.up r)
     cases v <;> first | exact sc rfl hv | skip
     rename_i rr
     dsimp only at hn ⊢
     cases ho : τ.heap[rr]? with
     | none => rw [ho] at hn; exact absurd rfl hn
     | some o =>
      rw [ho] at hn
      dsimp only at hn ⊢
      by_cases hc : H0.length ≤ rr ∧ gw o = true
      ·simp only [if_pos hc]
       have hlt := (List.getElem?_eq_some_iff.mp ho).1
       have st2 := cE.regive r.hp st hsub hold [rr] id oY (by simp [r0.len, hc.1]) (by simp) (by simp [hlt]) (by
        intro k hk o' ho'
        simp at hk; subst hk
        rw [ho] at ho'; cases ho'
        exact hc.2) (by intro l q; cases q)
       obtain ⟨b, g1, rfl⟩ := hv
       have hr' : τ.heap.getD rr .dead = o := by rw [List.getD_eq_getElem?_getD, ho]; rfl
       have hr2 : ρ'.getD rr 0 = b := by rw [List.getD_eq_getElem?_getD, g1]; rfl
       simp only [List.map_cons, List.map_nil, hr', hr2, kO hc.2] at st2
       refine zx (ρ' := ρ ++ [b]) ⟨b, ?_, rfl⟩ (st2.up r)
       rw [← r.hp.len, List.getElem?_append_right (Nat.le_refl _)]; simp
      ·simp only [if_neg hc] at hn
       exact absurd rfl hn
    ·rw [if_neg ht] at hn
     exact absurd rfl hn
   | exc c as τ =>
    rw [q] at hp hn
    dsimp only at hn ⊢
    obtain ⟨e, ρ', rfl, hf, st⟩ := hp
    by_cases hc : (pJ c = true ∧ as.all pJ = true) ∧ τ.heap.take H0.length = H0
    ·simp only [if_pos hc]
     have hold := rh r.hp st hdict hc.2 hz'
     have st2 := cE.regive r.hp st hsub hold [] id oY (by simp) (by simp) (by simp) (by simp) (by intro l q; cases q)
     simp only [List.map_nil, List.append_nil] at st2
     have st3 := st2.up r
     refine ⟨ρ, ?_, st3⟩
     exact hf.map (fun _ h => lR hc.1.1 h) (fun _ h => lK hc.1.2 h) fun y _ h1 _ h3 _ => ⟨h1, fun q => bo r y q h1, h3⟩
    ·rw [if_neg hc] at hn
     exact absurd rfl hn
  ·rw [if_neg hdict] at hn
   exact absurd rfl hn
end
noncomputable def m0 (n : Nat) (l : Nat) : Bool := decide (l < n)
noncomputable def wn (n : Nat) (H : List O) (l : Nat) : List Nat := match H[l]? with
 | some (.list xs) => (refsOf xs).filter fun k => decide (n ≤ k)
 | some (.tup xs) => (refsOf xs).filter fun k => decide (n ≤ k)
 | _ => []
noncomputable def deepOf (n : Nat) (H : List O) (r : Nat) : List Nat := (wn n H r).flatMap (wn n H) ++ wn n H r ++ [r]
noncomputable def jP (n : Nat) (ks : List Nat) (l : Nat) : Bool := decide (l < n) || ks.contains l
noncomputable def er (n : Nat) (ks : List Nat) (l : Nat) : Nat := if l < n then l else n + ks.idxOf l
noncomputable def mX (m : cX) (vs : List V) (σ : St) : zZ V := match m vs σ.heap with
 | .ok (.ref r) τ => if (σ.heap.all (eB (m0 σ.heap.length)) = true ∧ τ.heap.take σ.heap.length = σ.heap) ∧ (deepOf σ.heap.length τ.heap r).Nodup ∧
   (deepOf σ.heap.length τ.heap r).all (fun k => decide (σ.heap.length ≤ k ∧ k < τ.heap.length) && eB (jP σ.heap.length (deepOf σ.heap.length τ.heap r)) (τ.heap.getD k .dead)) = true then
   .ok (.ref (er σ.heap.length (deepOf σ.heap.length τ.heap r) r)) { σ with heap := σ.heap ++ (deepOf σ.heap.length τ.heap r).map fun k => qB (er σ.heap.length (deepOf σ.heap.length τ.heap r)) (τ.heap.getD k .dead) } else .bad
 | _ => .bad
section
variable {prog : Program} {w : World} {ac : Heap} {C : Cx} {ρ ρ0 ρ' : List Addr} {σ : St} {H H0 H' : List O} {s s' : Shared}
theorem tU {ρ more : List Addr} {l : Nat} (h : l < ρ.length) : ∃ a, (ρ ++ more)[l]? = some a ∧ ρ[l]? = some a := by
 rw [List.getElem?_append_left h]
 exact ⟨ρ[l], List.getElem?_eq_getElem h, List.getElem?_eq_getElem h⟩
theorem vM {o : O} : qB id o = o := by
 have h : ∀ xs : List V, xs.map (zr id) = xs := fun xs => by
  induction xs with
  | nil => rfl
  | cons v vs ih => simp only [List.map_cons, ih]; cases v <;> rfl
 cases o <;> first | rfl | (simp only [qB, h])
theorem qg (ok : C.Ok) (hq : C.A.handled = none) {k : Nat} {f : Value} {mk : List Value → Args} {m : cX} (hk : k ≤ C.k) (h : dy prog w ac k f mk m) : cR prog w ac C f mk (mX m) := by
 intro ρ σ s vs xs r ha hn
 unfold mX at hn ⊢
 have hm : m vs σ.heap ≠ .bad := fun q => hn (by rw [q])
 have hd := ok.depth
 have hu := ok.units
 have frm : ∀ L ∈ bD (C.fenv :: C.outer), L ∉ ρ := fun L hL => by
  obtain ⟨e, he, hf⟩ := List.mem_filterMap.mp hL
  exact (r.frn e he L hf).1
 refine wpAny_call (codeAny_mono (h C.A _ ρ σ.heap s vs xs ok.fr hq (by lia) (by lia) r.frs frm r.hp ha hm) fun res s' hp => ?_)
 cases q : m vs σ.heap with
 | bad => exact absurd q hm
 | exc c as τ => rw [q] at hn; exact absurd rfl hn
 | ok v τ =>
  rw [q] at hp hn
  obtain ⟨x, ρ', rfl, hv, st⟩ := hp
  cases v with
  | ref rr =>
   dsimp only at hn ⊢
   generalize hks : deepOf σ.heap.length τ.heap rr = ks at hn ⊢
   by_cases hc : (σ.heap.all (eB (m0 σ.heap.length)) = true ∧ τ.heap.take σ.heap.length = σ.heap) ∧ ks.Nodup ∧ ks.all (fun k => decide (σ.heap.length ≤ k ∧ k < τ.heap.length) && eB (jP σ.heap.length ks) (τ.heap.getD k .dead)) = true
   ·simp only [if_pos hc]
    obtain ⟨⟨hg, ht⟩, hnd, hall⟩ := hc
    have hall' : ∀ k ∈ ks, (σ.heap.length ≤ k ∧ k < τ.heap.length) ∧ eB (jP σ.heap.length ks) (τ.heap.getD k .dead) = true := fun k hk => by
     have := List.all_eq_true.mp hall k hk
     simpa only [Bool.and_eq_true, decide_eq_true_eq] using this
    obtain ⟨more, he, hmo⟩ := st.ext
    have hlen := r.hp.len
    have hlen' := st.rel.len
    have hold : ∀ (l : Nat) (o : O) (a : Addr), σ.heap[l]? = some o → ρ[l]? = some a → ∃ ob, s'.heap.get? a = some ob ∧ z4 prog w ρ o ob := fun l o a h1 h2 => by
     have hl := (List.getElem?_eq_some_iff.mp h1).1
     have h3 : τ.heap[l]? = some o := by rw [← ht] at h1; rwa [List.getElem?_take_of_lt hl] at h1
     obtain ⟨ob, g1, g2⟩ := st.rel.obj l o a h3 (by rw [he]; exact cq h2)
     have := qK (f := id) (p := m0 σ.heap.length) (ρ2 := ρ) (fun l hl => by
      unfold m0 at hl
      rw [he]
      exact tU (by rw [hlen]; simpa using hl)) (List.all_eq_true.mp hg o (List.mem_of_getElem? h1)) g2
     rw [vM] at this
     exact ⟨ob, g1, this⟩
    have hfun : ∀ l, jP σ.heap.length ks l = true → ∃ a, ρ'[l]? = some a ∧ (ρ ++ ks.map fun k => ρ'.getD k 0)[er σ.heap.length ks l]? = some a := fun l hl => by
     unfold er
     by_cases hlt : l < σ.heap.length
     ·rw [if_pos hlt, he, List.getElem?_append_left (by lia), List.getElem?_append_left (by lia)]
      exact ⟨_, List.getElem?_eq_getElem (by lia), List.getElem?_eq_getElem (by lia)⟩
     ·rw [if_neg hlt]
      unfold jP at hl
      simp only [Bool.or_eq_true, decide_eq_true_eq, hlt, false_or, List.contains_iff_mem] at hl
      have hi : ks.idxOf l < ks.length := List.idxOf_lt_length_iff.mpr hl
      have hl2 := (hall' l hl).1.2
      rw [List.getElem?_append_right (by lia), show σ.heap.length + ks.idxOf l - ρ.length = ks.idxOf l by lia, List.getElem?_map, List.getElem?_eq_getElem hi, List.getElem_idxOf]
      refine ⟨ρ'.getD l 0, ?_, rfl⟩
      rw [List.getElem?_eq_getElem (by lia), List.getD_eq_getElem?_getD, List.getElem?_eq_getElem (by lia)]; rfl
    have hrr : rr ∈ ks := by rw [← hks]; unfold deepOf; simp
    have st2 := cE.regive r.hp st (fun a ha => ha) hold ks (er σ.heap.length ks) (jP σ.heap.length ks) (fun k hk => by rw [hlen]; exact (hall' k hk).1.1) hnd (fun k hk => (hall' k hk).1.2) (fun k hk o ho => by
     have := (hall' k hk).2
     rwa [List.getD_eq_getElem?_getD, ho] at this) hfun
    obtain ⟨b, g1, rfl⟩ := hv
    obtain ⟨b', g2, g3⟩ := hfun rr (by unfold jP; simp [hrr])
    rw [g1] at g2; cases g2
    exact zx ⟨b, g3, rfl⟩ (st2.up r)
   ·simp only [if_neg hc] at hn
    exact absurd rfl hn
  | _ => exact absurd rfl hn
end
section
variable {prog : Program} {w : World} {ac : Heap} {C : Cx} {mg mb : Str → Option Value} {K : Frag} {names : List (Str × NameKind)} {vars : List (Str × Nat)} {cells : List (Str × Nat × Addr)} {k : Nat}
theorem dc {kf fa : Nat} {m : cX} (x : Str) (hf : dy prog w ac kf (.ref fa) av m) (G : Ctx C names vars cells k) (T : bB K ac mg mb) (hh : C.A.handled = none) {ma : St → zZ (List V)} {np pos : Pos} {args : List Expr}
  (hkf : Nat.ble kf k = true) (hn : names.lookup x = some .globalImplicit) (hg : nsIn K mainGlobals x = some (some (.ref fa))) (hd : (x == ("__debug__" : Str)) = false) (hk : keepIn K (.ref fa) = true)
  (ha : bK prog w ac C ma pos args) (hp : (backTo pos (starEach args C.env)).any (·.1) = false) : bi prog w ac C (aC ma (bQ m)) (eval (.Call (.Name x np) args [] pos) C.env) :=
 fJ (fN T.X hk) (eo G T hn hg rfl rfl hd) (fun _ _ h => h) ha (kF G.ok hh (by rw [G.k]; exact Nat.le_of_ble_eq_true hkf) hf) hp
theorem xR {kf fa : Nat} {m : cX} (x : Str) (hf : dy prog w ac kf (.ref fa) av m) (G : Ctx C names vars cells k) (T : bB K ac mg mb) (hh : C.A.handled = none) {ma : St → zZ (List V)} {np pos : Pos} {args : List Expr}
  (hkf : Nat.ble kf k = true) (hn : names.lookup x = some .globalImplicit) (hg : nsIn K mainGlobals x = some (some (.ref fa))) (hd : (x == ("__debug__" : Str)) = false) (hk : keepIn K (.ref fa) = true)
  (ha : bK prog w ac C ma pos args) (hp : (backTo pos (starEach args C.env)).any (·.1) = false) : bi prog w ac C (aC ma (mX m)) (eval (.Call (.Name x np) args [] pos) C.env) :=
 fJ (fN T.X hk) (eo G T hn hg rfl rfl hd) (fun _ _ h => h) ha (qg G.ok hh (by rw [G.k]; exact Nat.le_of_ble_eq_true hkf) hf) hp
theorem nI {kf fa : Nat} {m : cX} (x n : Str) (hf : dy prog w ac kf (.ref fa) (ji n) m) (G : Ctx C names vars cells k) (T : bB K ac mg mb) (hh : C.A.handled = none) {ma mb' : St → zZ V} {np pos kp : Pos} {e v : Expr}
  (hkf : Nat.ble kf k = true) (hn : names.lookup x = some .globalImplicit) (hg : nsIn K mainGlobals x = some (some (.ref fa))) (hd : (x == ("__debug__" : Str)) = false) (hk : keepIn K (.ref fa) = true)
  (ha : bi prog w ac C ma (eval e C.env)) (hv : bi prog w ac C mb' (eval v C.env)) (he : starEach [e] C.env = [(false, eval e C.env)]) (hkw : keywordEach [⟨some n, v, kp⟩] C.env = [(some n, eval v C.env)]) :
  bi prog w ac C (aC (yW ma mb') (bQ m)) (eval (.Call (.Name x np) [e] [⟨some n, v, kp⟩] pos) C.env) :=
 ql (fN T.X hk) (eo G T hn hg rfl rfl hd) (fun _ _ h => h) (qf ha hv he hkw) (kF G.ok hh (by rw [G.k]; exact Nat.le_of_ble_eq_true hkf) hf) (.inl (by rw [he, hkw]; rfl))
end
noncomputable def nh (ac : Heap) (a : Addr) (xs : List V) : Prop := ∃ vs, ac.IsList a (List.toArray vs) ∧ ∀ ρ, bL ρ xs vs
noncomputable def kz (a : Addr) (xs : List V) (v lo hi : V) (σ : St) : zZ V := match gL lo, gL hi with
 | some l, some u => if v = .top a ∧ xs.length ≤ sizeLine then .ok (.ref σ.heap.length) { σ with heap := σ.heap ++ [.list (eA xs l u)] } else .bad
 | _, _ => .bad
noncomputable def dn (a : Addr) (xs : List V) (mo ml mu : St → zZ V) : St → zZ V := fun σ => (mo σ).bind fun v ae => (ml ae).bind fun l aq => (mu aq).bind fun u aT => kz a xs v l u aT
section
variable {prog : Program} {w : World} {ac : Heap} {C : Cx} {ρ : List Addr} {σ : St} {s : Shared}
theorem i5 {z : Addr} {xs : List V} (hL : nh ac z xs) {mo ml mu : St → zZ V} {value : Expr} {lo hi : Option Expr} {p pos : Pos} (ho : bi prog w ac C mo (eval value C.env)) (hl : xb prog w ac C ml lo) (hu : xb prog w ac C mu hi) :
  bi prog w ac C (dn z xs mo ml mu) (eval (.Subscript value (.Slice lo hi none p) pos) C.env) := by
 intro ρ σ s r hb
 refine Subscript_ ((ho.at r).next rfl hb fun a ae aw az a' _ va au e => ?_)
 rw [e] at hb ⊢
 refine wpAny_Slice ((hl.at au.rel).then au rfl hb fun b aq aK aS b' _ vb aJ st e => ?_)
 rw [e] at hb ⊢
 refine (hu.at st.rel).then st rfl hb fun c aT bZ bF c' _ vc b8 st' e => ?_
 rw [e] at hb ⊢
 refine evalPart_none_step ?_
 have va' := b8.vr (aJ.vr va)
 have vb' := b8.vr vb
 have r3 := st'.rel
 have stp : Step prog w ac C bZ aT bF bZ aT { bF with heap := bF.heap.push { cls := .type "slice", data := .fields #[b', c', .none] } } := r3.grow _ bF.toks
 unfold kz at hb ⊢
 cases hpl : gL b with
 | none => rw [hpl] at hb; exact absurd rfl hb
 | some l =>
  cases hpu : gL c with
  | none => rw [hpl, hpu] at hb; exact absurd rfl hb
  | some u =>
   rw [hpl, hpu] at hb
   dsimp only at hb ⊢
   obtain ⟨pl, pl', epl, ml'⟩ := part_of vb' hpl
   obtain ⟨pu, pu', epu, mu'⟩ := part_of vc hpu
   split at hb
   ·rename_i hc
    rw [if_pos hc]
    obtain ⟨ha, hsz⟩ := hc
    subst ha
    have e0 : a' = .ref z := va'
    subst e0
    obtain ⟨vs, ⟨ob, h1', h2', h3'⟩, hv'⟩ := hL
    have h1 := r3.hp.base _ _ h1'
    have hv := hv' bZ
    have il : bF.heap.IsList z vs.toArray := ⟨ob, h1, h2', h3'⟩
    refine tail_any (Heap.IsList.typeIs (s := { bF with heap := bF.heap.push { cls := .type "slice", data := .fields #[b', c', .none] } }) (il.push _)) slot_list_getitem.lookup (wpAny_getItem_list_slice (il.push _) (Heap.IsSliceOf.new ..) pl pu .none (by intro q; cases q) ?_ (by rw [cP hv]; exact hsz)) (ops := _) rfl
    refine zx (ρ' := bZ ++ [(bF.heap.push { cls := .type "slice", data := .fields #[b', c', .none] }).objs.size]) ⟨_, bv stp.rel.hp _, rfl⟩ (st'.trans (stp.trans (stp.rel.alloc (t := bF.toks) rfl ⟨_, 0, rfl, ?_⟩)))
    have := (nK hv (sliceRange (sliceBounds l u none xs.length).1 (sliceBounds l u none xs.length).2.1 (sliceBounds l u none xs.length).2.2)).mono (more := [(bF.heap.push { cls := .type "slice", data := .fields #[b', c', .none] }).objs.size])
    unfold eA
    simpa [cP hv, hv.length] using this
   ·exact absurd rfl hb
end
noncomputable abbrev KK (w : World) : Frag := kH w.params
noncomputable def B64 : Array UInt8 := #[65, 66, 67, 68, 69, 70, 71, 72, 73, 74, 75, 76, 77, 78, 79, 80, 81, 82, 83, 84, 85, 86, 87, 88, 89, 90, 97, 98, 99, 100, 101, 102, 103, 104, 105, 106, 107, 108, 109, 110, 111, 112, 113, 114, 115, 116, 117, 118, 119, 120, 121, 122, 48, 49, 50, 51, 52, 53, 54, 55, 56, 57, 43, 47]
theorem jn (w : World) : pH (KK w) 269 "_node2info" := ⟨by rfl, by rfl, by rfl⟩
theorem fR (w : World) : pH (KK w) 269 "_ready_nodes" := ⟨by rfl, by rfl, by rfl⟩
theorem uD (w : World) : pH (KK w) 269 "_npassedout" := ⟨by rfl, by rfl, by rfl⟩
theorem uE (w : World) : pH (KK w) 269 "_nfinished" := ⟨by rfl, by rfl, by rfl⟩
theorem xk (w : World) : pG (KK w) 269 "_node2info" := ⟨by rfl, by rfl, by rfl, by rfl⟩
theorem uk (w : World) : pG (KK w) 269 "_ready_nodes" := ⟨by rfl, by rfl, by rfl, by rfl⟩
theorem ul (w : World) : pG (KK w) 269 "_npassedout" := ⟨by rfl, by rfl, by rfl, by rfl⟩
theorem um (w : World) : pG (KK w) 269 "_nfinished" := ⟨by rfl, by rfl, by rfl, by rfl⟩
theorem wr (w : World) : rQ (KK w) 172 "node" 173 0 := ⟨by rfl, by rfl, by rfl, by rfl, by rfl, by rfl⟩
theorem iE (w : World) : rQ (KK w) 172 "npredecessors" 174 1 := ⟨by rfl, by rfl, by rfl, by rfl, by rfl, by rfl⟩
theorem mL (w : World) : rQ (KK w) 172 "successors" 175 2 := ⟨by rfl, by rfl, by rfl, by rfl, by rfl, by rfl⟩
theorem uX (w : World) : rO (KK w) 172 "node" 173 0 := ⟨by rfl, by rfl, by rfl, by rfl, by decide, by rfl⟩
theorem h9 (w : World) : rO (KK w) 172 "npredecessors" 174 1 := ⟨by rfl, by rfl, by rfl, by rfl, by decide, by rfl⟩
theorem uW (w : World) : rO (KK w) 172 "successors" 175 2 := ⟨by rfl, by rfl, by rfl, by rfl, by decide, by rfl⟩
theorem uv (w : World) : ft (KK w) 269 "_get_nodeinfo" 212 := ⟨by rfl, by rfl, by rfl⟩
theorem ye (w : World) : ft (KK w) 269 "add" 219 := ⟨by rfl, by rfl, by rfl⟩
theorem yd (w : World) : ft (KK w) 269 "prepare" 224 := ⟨by rfl, by rfl, by rfl⟩
theorem yc (w : World) : ft (KK w) 269 "get_ready" 231 := ⟨by rfl, by rfl, by rfl⟩
theorem yb (w : World) : ft (KK w) 269 "is_active" 238 := ⟨by rfl, by rfl, by rfl⟩
theorem ya (w : World) : ft (KK w) 269 "done" 252 := ⟨by rfl, by rfl, by rfl⟩
theorem x9 (w : World) : ft (KK w) 269 "_find_cycle" 259 := ⟨by rfl, by rfl, by rfl⟩
theorem x7 (w : World) : ni (KK w) 172 168 := ⟨by rfl, by rfl, by rfl⟩
theorem x6 (w : World) : ni (KK w) 269 205 := ⟨by rfl, by rfl, by rfl⟩
section
variable {w : World} {ac : Heap} {mg mb : Str → Option Value}
theorem x2 (T : bB (KK w) ac mg mb) : OwnCls "error_reply" 44 [.type "Exception", .type "BaseException", .type "object"] "Exception.__new__" mg ac := md T (by rfl) (by kernel_rfl)
theorem tm (T : bB (KK w) ac mg mb) : OwnCls "error_proto" 56 [.type "Exception", .type "BaseException", .type "object"] "Exception.__new__" mg ac := md T (by rfl) (by kernel_rfl)
theorem x3 (T : bB (KK w) ac mg mb) : OwnCls "CycleError" 187 [.type "ValueError", .type "Exception", .type "BaseException", .type "object"] "ValueError.__new__" mg ac := md T (by rfl) (by kernel_rfl)
theorem si_44 (w : World) : ju (KK w) 44 := ⟨by rfl, by rfl⟩
theorem si_56 (w : World) : ju (KK w) 56 := ⟨by rfl, by rfl⟩
theorem vS (w : World) : ng (KK w) (.type "StopIteration") [(.type "StopIteration", true)] := by
 intro p hp
 simp only [List.mem_cons, List.not_mem_nil, or_false] at hp
 subst hp
 exact ⟨.type "StopIteration", fun _ _ h => h, by kernel_rfl⟩
theorem xY (w : World) : ng (KK w) (.ref 187) [(.top 187, true)] := by
 intro p hp
 simp only [List.mem_cons, List.not_mem_nil, or_false] at hp
 subst hp
 exact ⟨.ref 187, fun _ _ h => h, by kernel_rfl⟩
theorem pk_44 (w : World) : ng (KK w) (.ref 44) [(.top 44, true), (.top 56, false)] := by
 intro p hp
 simp only [List.mem_cons, List.not_mem_nil, or_false] at hp
 rcases hp with rfl | rfl
 ·exact ⟨.ref 44, fun _ _ h => h, by kernel_rfl⟩
 ·exact ⟨.ref 56, fun _ _ h => h, by kernel_rfl⟩
theorem pk_56 (w : World) : ng (KK w) (.ref 56) [(.top 56, true)] := by
 intro p hp
 simp only [List.mem_cons, List.not_mem_nil, or_false] at hp
 subst hp
 exact ⟨.ref 56, fun _ _ h => h, by kernel_rfl⟩
theorem uj (w : World) : ∀ c ∈ [44, 56], ju (KK w) c := by
 intro c hc
 simp only [List.mem_cons, List.not_mem_nil, or_false] at hc
 rcases hc with rfl | rfl
 ·exact si_44 w
 ·exact si_56 w
end
theorem yg (w : World) : ub (KK w) 269 "add" 219 := ⟨ye w, by rfl, by rfl, by rfl, by decide +kernel, by rfl⟩
theorem yf (w : World) : ub (KK w) 269 "done" 252 := ⟨ya w, by rfl, by rfl, by rfl, by decide +kernel, by rfl⟩
section
variable {prog : Program} {w : World} {ac : Heap} {mg mb : Str → Option Value}
noncomputable def we : cX := dh 1 (ew 1 []) (aM (zE (n9 CmpOp.LtE CmpOp.LtE (aa (V.int 65)) (ai 0) (aa (V.int 90))) (dg (aR Operator.Sub (ai 0) (aa (V.int 65)))) (aa F.next)) (aM (zE (n9 CmpOp.LtE CmpOp.LtE (aa (V.int 97)) (ai 0) (aa (V.int 122))) (dg (aR Operator.Sub (ai 0) (aa (V.int 71)))) (aa F.next)) (aM (zE (n9 CmpOp.LtE CmpOp.LtE (aa (V.int 48)) (ai 0) (aa (V.int 57))) (dg (aR Operator.Add (ai 0) (aa (V.int 4)))) (aa F.next)) (aM (zE (aB (aW CmpOp.Eq (ai 0) (aa (V.int 43)))) (dg (aa (V.int 62))) (aa F.next)) (aM (zE (aB (aW CmpOp.Eq (ai 0) (aa (V.int 47)))) (dg (aa (V.int 63))) (aa F.next)) (dg (aa (V.int 64))))))))
theorem vD (T : bB (KK w) ac mg mb) : dy prog w ac 1 (.ref 121) av we := by
 unfold we
 apply b0 (N := 1) T 121 ["c"] [] 1 [] [] av 0
 case h => rfl
 case hd => exact fun ρ => .nil
 case hB =>
  intro s xs _ hl
  obtain ⟨a, rfl⟩ := cA hl
  exact BindsTo.of_eq rfl
 all_goals try first | rfl | decide | (intros; rfl)
 intro C G hh
 exact (ah (aQ (gj (Ctx.ok G) (af rfl) (ak G rfl rfl) (af rfl) rfl) (ar (aZ (aA (ak G rfl rfl) (af rfl)))) aD) (ah (aQ (gj (Ctx.ok G) (af rfl) (ak G rfl rfl) (af rfl) rfl) (ar (aZ (aA (ak G rfl rfl) (af rfl)))) aD) (ah (aQ (gj (Ctx.ok G) (af rfl) (ak G rfl rfl) (af rfl) rfl) (ar (aZ (aA (ak G rfl rfl) (af rfl)))) aD) (ah (aQ (ay (Ctx.ok G) (ak G rfl rfl) (af rfl) rfl) (ar (aZ (af rfl))) aD) (ah (aQ (ay (Ctx.ok G) (ak G rfl rfl) (af rfl) rfl) (ar (aZ (af rfl))) aD) (ar (aZ (af rfl))))))))
noncomputable def wg : cX :=
 dh 2 (ew 1 [])
  (aM (an (aC (aj (ai 0) (aa [])) rZ) (ao 1))
   (aM
    (zE
     (aB
      (aW CmpOp.Is (ai 1)
       (aa (V.type "str"))))
     (aM (zE (uu (aB (a7 bH nV (ai 0) (aa [])))) dU (aa F.next))
      (dg (a7 bH mV (ai 0) (aj (aa (V.str "ascii")) (aa [])))))
     (aa F.next))
    (aM
     (zE
      (aB
       (aW CmpOp.Is (ai 1)
        (aa (V.type "bytes"))))
      (dg (ai 0)) (aa F.next))
     (aM
      (zE
       (aB
        (aW CmpOp.Is (ai 1)
         (aa (V.type "bytearray"))))
       (dg (aC (aj (ai 0) (aa [])) iL)) (aa F.next))
      dU))))
theorem vF (T : bB (KK w) ac mg mb) : dy prog w ac 1 (.ref 100) av wg := by
 unfold wg
 apply b0 (N := 2) T 100 ["data"] ["t"] 1 [] [] av 0
 case h => rfl
 case hd => exact fun ρ => .nil
 case hB =>
  intro s xs _ hl
  obtain ⟨a, rfl⟩ := cA hl
  exact BindsTo.of_eq rfl
 all_goals try first | rfl | decide | (intros; rfl)
 intro C G hh
 exact (ah (al (cH "type" jy G T rfl rfl rfl rfl rfl (ad (ak G rfl rfl) ag rfl) rfl) (ax G rfl) rfl rfl rfl) (ah (aQ (ay (Ctx.ok G) (ak G rfl rfl) (dA G T rfl rfl rfl rfl rfl rfl rfl) rfl) (ah (aQ (lW (cb (aU kZ (ak G rfl rfl) ag rfl rfl rfl rfl) rfl)) (ar cf) aD) (ar (aZ (aU iA (ak G rfl rfl) (ad (af rfl) ag rfl) rfl rfl rfl rfl)))) aD) (ah (aQ (ay (Ctx.ok G) (ak G rfl rfl) (dA G T rfl rfl rfl rfl rfl rfl rfl) rfl) (ar (aZ (ak G rfl rfl))) aD) (ah (aQ (ay (Ctx.ok G) (ak G rfl rfl) (dA G T rfl rfl rfl rfl rfl rfl rfl) rfl) (ar (aZ (cH "bytes" (eJ hh) G T rfl rfl rfl rfl rfl (ad (ak G rfl rfl) ag rfl) rfl))) aD) (ar rC)))))
noncomputable def wf : cX :=
 dh 2 (ew 1 [])
  (aM (an (aC (aj (ai 0) (aa [])) rZ) (ao 1))
   (aM
    (zE
     (aB
      (aW CmpOp.Is (ai 1)
       (aa (V.type "bytes"))))
     (dg (ai 0)) (aa F.next))
    (aM
     (zE
      (aB
       (aW CmpOp.Is (ai 1)
        (aa (V.type "bytearray"))))
      (dg (aC (aj (ai 0) (aa [])) iL)) (aa F.next))
     dU)))
theorem vE (T : bB (KK w) ac mg mb) : dy prog w ac 1 (.ref 107) av wf := by
 unfold wf
 apply b0 (N := 2) T 107 ["data"] ["t"] 1 [] [] av 0
 case h => rfl
 case hd => exact fun ρ => .nil
 case hB =>
  intro s xs _ hl
  obtain ⟨a, rfl⟩ := cA hl
  exact BindsTo.of_eq rfl
 all_goals try first | rfl | decide | (intros; rfl)
 intro C G hh
 exact (ah (al (cH "type" jy G T rfl rfl rfl rfl rfl (ad (ak G rfl rfl) ag rfl) rfl) (ax G rfl) rfl rfl rfl) (ah (aQ (ay (Ctx.ok G) (ak G rfl rfl) (dA G T rfl rfl rfl rfl rfl rfl rfl) rfl) (ar (aZ (ak G rfl rfl))) aD) (ah (aQ (ay (Ctx.ok G) (ak G rfl rfl) (dA G T rfl rfl rfl rfl rfl rfl rfl) rfl) (ar (aZ (cH "bytes" (eJ hh) G T rfl rfl rfl rfl rfl (ad (ak G rfl rfl) ag rfl) rfl))) aD) (ar rC))))
noncomputable def tE : cX := dh 2 (ew 1 []) (aM (an (aC (aj (ai 0) (aa [])) rZ) (ao 1)) (aM (zE (zu (aB (aW CmpOp.Is (ai 0) (aa V.none))) (zu (aB (aW CmpOp.Is (ai 1) (aa (V.type "bool")))) (zu (aB (aW CmpOp.Is (ai 1) (aa (V.type "int")))) (zu (aB (aW CmpOp.Is (ai 1) (aa (V.type "float")))) (zu (aB (aW CmpOp.Is (ai 1) (aa (V.type "complex")))) (zu (aB (aW CmpOp.Is (ai 1) (aa (V.type "str")))) (zu (aB (aW CmpOp.Is (ai 1) (aa (V.type "bytes")))) (zu (aB (aW CmpOp.Is (ai 1) (aa (V.type "bytearray")))) (zu (aB (aW CmpOp.Is (ai 1) (aa (V.type "list")))) (zu (aB (aW CmpOp.Is (ai 1) (aa (V.type "tuple")))) (zu (aB (aW CmpOp.Is (ai 1) (aa (V.type "dict")))) (zu (aB (aW CmpOp.Is (ai 1) (aa (V.type "set")))) (zu (aB (aW CmpOp.Is (ai 1) (aa (V.type "frozenset")))) (zu (aB (aW CmpOp.Is (ai 1) (aa (V.type "range")))) (aa false))))))))))))))) (dg (zE (aB (ai 0)) (aa (V.bool true)) (aa (V.bool false)))) (aa F.next)) dU))
theorem qo (T : bB (KK w) ac mg mb) : dy prog w ac 1 (.ref 114) av tE := by
 unfold tE
 apply b0 (N := 2) T 114 ["x"] ["t"] 1 [] [] av 0
 case h => rfl
 case hd => exact fun ρ => .nil
 case hB =>
  intro s xs _ hl
  obtain ⟨a, rfl⟩ := cA hl
  exact BindsTo.of_eq rfl
 all_goals try first | rfl | decide | (intros; rfl)
 intro C G hh
 exact (ah (al (cH "type" jy G T rfl rfl rfl rfl rfl (ad (ak G rfl rfl) ag rfl) rfl) (ax G rfl) rfl rfl rfl) (ah (aQ (cz (aV (ay (Ctx.ok G) (ak G rfl rfl) (af rfl) rfl) (aV (ay (Ctx.ok G) (ak G rfl rfl) (dA G T rfl rfl rfl rfl rfl rfl rfl) rfl) (aV (ay (Ctx.ok G) (ak G rfl rfl) (dA G T rfl rfl rfl rfl rfl rfl rfl) rfl) (aV (ay (Ctx.ok G) (ak G rfl rfl) (dA G T rfl rfl rfl rfl rfl rfl rfl) rfl) (aV (ay (Ctx.ok G) (ak G rfl rfl) (dA G T rfl rfl rfl rfl rfl rfl rfl) rfl) (aV (ay (Ctx.ok G) (ak G rfl rfl) (dA G T rfl rfl rfl rfl rfl rfl rfl) rfl) (aV (ay (Ctx.ok G) (ak G rfl rfl) (dA G T rfl rfl rfl rfl rfl rfl rfl) rfl) (aV (ay (Ctx.ok G) (ak G rfl rfl) (dA G T rfl rfl rfl rfl rfl rfl rfl) rfl) (aV (ay (Ctx.ok G) (ak G rfl rfl) (dA G T rfl rfl rfl rfl rfl rfl rfl) rfl) (aV (ay (Ctx.ok G) (ak G rfl rfl) (dA G T rfl rfl rfl rfl rfl rfl rfl) rfl) (aV (ay (Ctx.ok G) (ak G rfl rfl) (dA G T rfl rfl rfl rfl rfl rfl rfl) rfl) (aV (ay (Ctx.ok G) (ak G rfl rfl) (dA G T rfl rfl rfl rfl rfl rfl rfl) rfl) (aV (ay (Ctx.ok G) (ak G rfl rfl) (dA G T rfl rfl rfl rfl rfl rfl rfl) rfl) (aV (ay (Ctx.ok G) (ak G rfl rfl) (dA G T rfl rfl rfl rfl rfl rfl rfl) rfl) eU))))))))))))))) (ar (aZ (eI (cb (ak G rfl rfl) rfl) (af rfl) (af rfl)))) aD) (ar rC)))
noncomputable def wd : cX :=
 dh 9 (ew 2 [])
  (aM (an (aC (aj (ai 0) (aa [])) (bQ wg)) (ao 2))
   (aM (an (aC (aj (ai 1) (aa [])) (bQ tE)) (ao 1))
    (aM (an (bu (aa [])) (ao 3))
     (aM (an (aa (V.int 0)) (ao 4))
      (aM (an (aa (V.int 0)) (ao 5))
       (aM (an (aa (V.int 0)) (ao 6))
        (aM (an (aa (V.int 0)) (ao 7))
         (aM
          (hO (ai 2) (ao 8)
           (aM
            (zE (aB (aW CmpOp.Eq (ai 8) (aa (V.int 61))))
             (aM (an (aR Operator.Add (ai 6) (aa (V.int 1))) (ao 6))
              (aM
               (zE
                (gA (aB (aW CmpOp.GtE (ai 4) (aa (V.int 2))))
                 (gA
                  (aB
                   (aW CmpOp.LtE (aR Operator.Add (ai 4) (ai 6)) (aa (V.int 4))))
                  (aa true)))
                (aM
                 (an (aR Operator.Add (ai 7) (aa (V.int 1))) (ao 7))
                 (aa F.cont))
                (aa F.next))
               (aM
                (zE (uu (aB (ai 1)))
                 (aM
                  (an (aR Operator.Add (ai 7) (aa (V.int 1))) (ao 7))
                  (aa F.cont))
                 (aa F.next))
                (aM (zE (aB (aW CmpOp.Eq (ai 4) (aa (V.int 1)))) (aa F.brk) (aa F.next))
                 (aM
                  (zE
                   (gA (aB (aW CmpOp.Eq (ai 4) (aa (V.int 0))))
                    (gA (aB (aW CmpOp.Eq (ai 7) (aa (V.int 0)))) (aa true)))
                   dU (aa F.next))
                  dU)))))
             (aa F.next))
            (aM
             (an (aC (aj (ai 8) (aa [])) (bQ we))
              (ao 8))
             (aM
              (zE (aB (aW CmpOp.GtE (ai 8) (aa (V.int 64))))
               (aM (zE (aB (ai 1)) dU (aa F.next))
                (aM
                 (an (aR Operator.Add (ai 7) (aa (V.int 1))) (ao 7))
                 (aa F.cont)))
               (aa F.next))
              (aM
               (zE (gA (aB (ai 6)) (gA (aB (ai 1)) (aa true)))
                (aM
                 (zE
                  (aB
                   (aW CmpOp.Eq (aR Operator.Add (ai 4) (ai 6)) (aa (V.int 4))))
                  dU (aa F.next))
                 dU)
                (aa F.next))
               (aM (an (aa (V.int 0)) (ao 6))
                (aM
                 (zE (aB (aW CmpOp.Eq (ai 4) (aa (V.int 0))))
                  (aM (an (aa (V.int 1)) (ao 4))
                   (an (ai 8) (ao 5)))
                  (zE (aB (aW CmpOp.Eq (ai 4) (aa (V.int 1))))
                   (aM (an (aa (V.int 2)) (ao 4))
                    (aM
                     (bE
                      (a7 aO bk (ai 3)
                       (aj
                        (aR Operator.BitOr (aR Operator.LShift (ai 5) (aa (V.int 2)))
                         (aR Operator.RShift (ai 8) (aa (V.int 4))))
                        (aa []))))
                     (an (aR Operator.BitAnd (ai 8) (aa (V.int 15)))
                      (ao 5))))
                   (zE (aB (aW CmpOp.Eq (ai 4) (aa (V.int 2))))
                    (aM (an (aa (V.int 3)) (ao 4))
                     (aM
                      (bE
                       (a7 aO bk (ai 3)
                        (aj
                         (aR Operator.BitOr (aR Operator.LShift (ai 5) (aa (V.int 4)))
                          (aR Operator.RShift (ai 8) (aa (V.int 2))))
                         (aa []))))
                      (an (aR Operator.BitAnd (ai 8) (aa (V.int 3)))
                       (ao 5))))
                    (aM (an (aa (V.int 0)) (ao 4))
                     (aM
                      (bE
                       (a7 aO bk (ai 3)
                        (aj
                         (aR Operator.BitOr (aR Operator.LShift (ai 5) (aa (V.int 6)))
                          (ai 8))
                         (aa []))))
                      (an (aa (V.int 0)) (ao 5)))))))
                 (an (aR Operator.Add (ai 7) (aa (V.int 1)))
                  (ao 7))))))))
           (aa F.next))
          (aM (zE (aB (aW CmpOp.Eq (ai 4) (aa (V.int 1)))) dU (aa F.next))
           (aM
            (zE
             (gA (aB (aW CmpOp.NotEq (ai 4) (aa (V.int 0))))
              (gA
               (aB (aW CmpOp.Lt (aR Operator.Add (ai 4) (ai 6)) (aa (V.int 4))))
               (aa true)))
             dU (aa F.next))
            (dg (aC (aj (ai 3) (aa [])) iL))))))))))))
theorem vC (T : bB (KK w) ac mg mb) : dy prog w ac 2 (.ref 129) (ji "strict_mode") wd := by
 unfold wd
 apply b0 (N := 9) T 129 ["data", "strict_mode"] ["ascii_data", "out", "quad_pos", "leftchar", "pads", "i", "this_ch"] 2 [] [] (ji "strict_mode") 1
 case h => rfl
 case hd => exact fun ρ => .nil
 case hB =>
  intro s xs _ hl
  obtain ⟨a, b, rfl⟩ := eF hl
  exact BindsTo.of_eq rfl
 all_goals try first | rfl | decide | (intros; rfl)
 intro C G hh
 exact (ah (al (dc "_ascii_buffer" (vF T) G T hh rfl rfl rfl rfl rfl (ad (ak G rfl rfl) ag rfl) rfl) (ax G rfl) rfl rfl rfl) (ah (al (dc "_truth" (qo T) G T hh rfl rfl rfl rfl rfl (ad (ak G rfl rfl) ag rfl) rfl) (ax G rfl) rfl rfl rfl) (ah (al (bn ag) (ax G rfl) rfl rfl rfl) (ah (al (af rfl) (ax G rfl) rfl rfl rfl) (ah (al (af rfl) (ax G rfl) rfl rfl rfl) (ah (al (af rfl) (ax G rfl) rfl rfl rfl) (ah (al (af rfl) (ax G rfl) rfl rfl rfl) (ah (dZ hh (ak G rfl rfl) (ax G rfl) (ah (aQ (ay (Ctx.ok G) (ak G rfl rfl) (af rfl) rfl) (ah (al (aA (ak G rfl rfl) (af rfl)) (ax G rfl) rfl rfl rfl) (ah (aQ (cz (bc (ay (Ctx.ok G) (ak G rfl rfl) (af rfl) rfl) (bc (ay (Ctx.ok G) (aA (ak G rfl rfl) (ak G rfl rfl)) (af rfl) rfl) cn))) (ah (al (aA (ak G rfl rfl) (af rfl)) (ax G rfl) rfl rfl rfl) (ar dC)) aD) (ah (aQ (lW (cb (ak G rfl rfl) rfl)) (ah (al (aA (ak G rfl rfl) (af rfl)) (ax G rfl) rfl rfl rfl) (ar dC)) aD) (ah (aQ (ay (Ctx.ok G) (ak G rfl rfl) (af rfl) rfl) (ar fK) aD) (ah (aQ (cz (bc (ay (Ctx.ok G) (ak G rfl rfl) (af rfl) rfl) (bc (ay (Ctx.ok G) (ak G rfl rfl) (af rfl) rfl) cn))) (ar cf) aD) (ar cf)))))) aD) (ah (al (dc "_b64_value" (vD T) G T hh rfl rfl rfl rfl rfl (ad (ak G rfl rfl) ag rfl) rfl) (ax G rfl) rfl rfl rfl) (ah (aQ (ay (Ctx.ok G) (ak G rfl rfl) (af rfl) rfl) (ah (aQ (cb (ak G rfl rfl) rfl) (ar cf) aD) (ah (al (aA (ak G rfl rfl) (af rfl)) (ax G rfl) rfl rfl rfl) (ar dC))) aD) (ah (aQ (cz (bc (cb (ak G rfl rfl) rfl) (bc (cb (ak G rfl rfl) rfl) cn))) (ah (aQ (ay (Ctx.ok G) (aA (ak G rfl rfl) (ak G rfl rfl)) (af rfl) rfl) (ar cf) aD) (ar cf)) aD) (ah (al (af rfl) (ax G rfl) rfl rfl rfl) (ah (aQ (ay (Ctx.ok G) (ak G rfl rfl) (af rfl) rfl) (ah (al (af rfl) (ax G rfl) rfl rfl rfl) (ar (al (ak G rfl rfl) (ax G rfl) rfl rfl rfl))) (ar (aQ (ay (Ctx.ok G) (ak G rfl rfl) (af rfl) rfl) (ah (al (af rfl) (ax G rfl) rfl rfl rfl) (ah (bj (aU bb (ak G rfl rfl) (ad (aA (aA (ak G rfl rfl) (af rfl)) (aA (ak G rfl rfl) (af rfl))) ag rfl) rfl rfl rfl rfl) (aF (Ctx.ok G)) rfl) (ar (al (aA (ak G rfl rfl) (af rfl)) (ax G rfl) rfl rfl rfl)))) (ar (aQ (ay (Ctx.ok G) (ak G rfl rfl) (af rfl) rfl) (ah (al (af rfl) (ax G rfl) rfl rfl rfl) (ah (bj (aU bb (ak G rfl rfl) (ad (aA (aA (ak G rfl rfl) (af rfl)) (aA (ak G rfl rfl) (af rfl))) ag rfl) rfl rfl rfl rfl) (aF (Ctx.ok G)) rfl) (ar (al (aA (ak G rfl rfl) (af rfl)) (ax G rfl) rfl rfl rfl)))) (ah (al (af rfl) (ax G rfl) rfl rfl rfl) (ah (bj (aU bb (ak G rfl rfl) (ad (aA (aA (ak G rfl rfl) (af rfl)) (ak G rfl rfl)) ag rfl) rfl rfl rfl rfl) (aF (Ctx.ok G)) rfl) (ar (al (af rfl) (ax G rfl) rfl rfl rfl))))))))) (ar (al (aA (ak G rfl rfl) (af rfl)) (ax G rfl) rfl rfl rfl)))))))) aD (fun x_ => (fun x__1 => rfl)) (fun x_ => rfl)) (ah (aQ (ay (Ctx.ok G) (ak G rfl rfl) (af rfl) rfl) (ar cf) aD) (ah (aQ (cz (bc (ay (Ctx.ok G) (ak G rfl rfl) (af rfl) rfl) (bc (ay (Ctx.ok G) (aA (ak G rfl rfl) (ak G rfl rfl)) (af rfl) rfl) cn))) (ar cf) aD) (ar (aZ (cH "bytes" (eJ hh) G T rfl rfl rfl rfl rfl (ad (ak G rfl rfl) ag rfl) rfl)))))))))))))
noncomputable def wc : cX :=
 dh 7 (ew 2 [])
  (aM (an (aC (aj (ai 0) (aa [])) (bQ wf)) (ao 2))
   (aM (an (aC (aj (ai 1) (aa [])) (bQ tE)) (ao 1))
    (aM (an (bu (aa [])) (ao 3))
     (aM (an (aa (V.int 0)) (ao 4))
      (aM (an (aa (V.int 0)) (ao 5))
       (aM
        (hO (ai 2) (ao 6)
         (aM
          (an
           (aR Operator.BitAnd
            (aR Operator.BitOr (aR Operator.LShift (ai 5) (aa (V.int 8))) (ai 6))
            (aa (V.int 65535)))
           (ao 5))
          (aM (an (aR Operator.Add (ai 4) (aa (V.int 8))) (ao 4))
           (bS (aB (aW CmpOp.GtE (ai 4) (aa (V.int 6))))
            (aM
             (bE
              (a7 aO bk (ai 3)
               (aj
                (bp br
                 (aa
                  (V.bytes B64))
                 (aR Operator.BitAnd
                  (aR Operator.RShift (ai 5) (aR Operator.Sub (ai 4) (aa (V.int 6))))
                  (aa (V.int 63))))
                (aa []))))
             (an (aR Operator.Sub (ai 4) (aa (V.int 6))) (ao 4)))
            (aa F.next) 4)))
         (aa F.next))
        (aM
         (zE (aB (aW CmpOp.Eq (ai 4) (aa (V.int 2))))
          (aM
           (bE
            (a7 aO bk (ai 3)
             (aj
              (bp br
               (aa
                (V.bytes B64))
               (aR Operator.LShift (aR Operator.BitAnd (ai 5) (aa (V.int 3))) (aa (V.int 4))))
              (aa []))))
           (aM (bE (a7 aO bk (ai 3) (aj (aa (V.int 61)) (aa []))))
            (bE (a7 aO bk (ai 3) (aj (aa (V.int 61)) (aa []))))))
          (zE (aB (aW CmpOp.Eq (ai 4) (aa (V.int 4))))
           (aM
            (bE
             (a7 aO bk (ai 3)
              (aj
               (bp br
                (aa
                 (V.bytes B64))
                (aR Operator.LShift (aR Operator.BitAnd (ai 5) (aa (V.int 15))) (aa (V.int 2))))
               (aa []))))
            (bE (a7 aO bk (ai 3) (aj (aa (V.int 61)) (aa [])))))
           (aa F.next)))
         (aM
          (zE (aB (ai 1)) (bE (a7 aO bk (ai 3) (aj (aa (V.int 10)) (aa []))))
           (aa F.next))
          (dg (aC (aj (ai 3) (aa [])) iL))))))))))
theorem vB (T : bB (KK w) ac mg mb) : dy prog w ac 2 (.ref 137) (ji "newline") wc := by
 unfold wc
 apply b0 (N := 7) T 137 ["data", "newline"] ["bin_data", "out", "leftbits", "leftchar", "b"] 2 [] [] (ji "newline") 1
 case h => rfl
 case hd => exact fun ρ => .nil
 case hB =>
  intro s xs _ hl
  obtain ⟨a, b, rfl⟩ := eF hl
  exact BindsTo.of_eq rfl
 all_goals try first | rfl | decide | (intros; rfl)
 intro C G hh
 exact (ah (al (dc "_buffer" (vE T) G T hh rfl rfl rfl rfl rfl (ad (ak G rfl rfl) ag rfl) rfl) (ax G rfl) rfl rfl rfl) (ah (al (dc "_truth" (qo T) G T hh rfl rfl rfl rfl rfl (ad (ak G rfl rfl) ag rfl) rfl) (ax G rfl) rfl rfl rfl) (ah (al (bn ag) (ax G rfl) rfl rfl rfl) (ah (al (af rfl) (ax G rfl) rfl rfl rfl) (ah (al (af rfl) (ax G rfl) rfl rfl rfl) (ah (dZ hh (ak G rfl rfl) (ax G rfl) (ah (al (aA (aA (aA (ak G rfl rfl) (af rfl)) (ak G rfl rfl)) (af rfl)) (ax G rfl) rfl rfl rfl) (ah (al (aA (ak G rfl rfl) (af rfl)) (ax G rfl) rfl rfl rfl) (ar (dN (4) (ay (Ctx.ok G) (ak G rfl rfl) (af rfl) rfl) (ah (bj (aU bb (ak G rfl rfl) (ad (a9 (eo G T rfl rfl rfl rfl rfl) (aA (aA (ak G rfl rfl) (aA (ak G rfl rfl) (af rfl))) (af rfl)) (fun x_ => (fun x__1 => (fun x__2 => rfl)))) ag rfl) rfl rfl rfl rfl) (aF (Ctx.ok G)) rfl) (ar (al (aA (ak G rfl rfl) (af rfl)) (ax G rfl) rfl rfl rfl))) aD)))) aD (fun x_ => (fun x__1 => rfl)) (fun x_ => rfl)) (ah (aQ (ay (Ctx.ok G) (ak G rfl rfl) (af rfl) rfl) (ah (bj (aU bb (ak G rfl rfl) (ad (a9 (eo G T rfl rfl rfl rfl rfl) (aA (aA (ak G rfl rfl) (af rfl)) (af rfl)) (fun x_ => (fun x__1 => (fun x__2 => rfl)))) ag rfl) rfl rfl rfl rfl) (aF (Ctx.ok G)) rfl) (ah (bj (aU bb (ak G rfl rfl) (ad (af rfl) ag rfl) rfl rfl rfl rfl) (aF (Ctx.ok G)) rfl) (ar (bj (aU bb (ak G rfl rfl) (ad (af rfl) ag rfl) rfl rfl rfl rfl) (aF (Ctx.ok G)) rfl)))) (ar (aQ (ay (Ctx.ok G) (ak G rfl rfl) (af rfl) rfl) (ah (bj (aU bb (ak G rfl rfl) (ad (a9 (eo G T rfl rfl rfl rfl rfl) (aA (aA (ak G rfl rfl) (af rfl)) (af rfl)) (fun x_ => (fun x__1 => (fun x__2 => rfl)))) ag rfl) rfl rfl rfl rfl) (aF (Ctx.ok G)) rfl) (ar (bj (aU bb (ak G rfl rfl) (ad (af rfl) ag rfl) rfl rfl rfl rfl) (aF (Ctx.ok G)) rfl))) aD))) (ah (aQ (cb (ak G rfl rfl) rfl) (ar (bj (aU bb (ak G rfl rfl) (ad (af rfl) ag rfl) rfl rfl rfl rfl) (aF (Ctx.ok G)) rfl)) aD) (ar (aZ (cH "bytes" (eJ hh) G T rfl rfl rfl rfl rfl (ad (ak G rfl rfl) ag rfl) rfl)))))))))))
noncomputable def qU : cX := dh 3 (ew 1 [V.none]) (aM (an (aC (yW (ai 0) (aa (V.bool false))) (bQ wc)) (ao 2)) (aM (zE (aB (aW CmpOp.IsNot (ai 1) (aa V.none))) dU (aa F.next)) (dg (ai 2))))
theorem vA (T : bB (KK w) ac mg mb) : dy prog w ac 3 (.ref 145) av qU := by
 unfold qU
 apply b0 (N := 3) T 145 ["s", "altchars"] ["encoded"] 1 [.none] [.none] av 2
 case h => rfl
 case hd => exact fun ρ => .one rfl
 case hB =>
  intro s xs hs hl
  obtain ⟨a, rfl⟩ := cA hl
  exact kp_binds (T.X.keeps hs) fun _ => rfl
 all_goals try first | rfl | decide | (intros; rfl)
 intro C G hh
 exact (ah (al (nI "b2a_base64" "newline" (vB T) G T hh rfl rfl rfl rfl rfl (ak G rfl rfl) (af rfl) rfl rfl) (ax G rfl) rfl rfl rfl) (ah (aQ (ay (Ctx.ok G) (ak G rfl rfl) (af rfl) rfl) jX aD) (ar (aZ (ak G rfl rfl)))))
noncomputable def yV : cX := dh 1 (ew 1 []) (aM (zE (aB (aC (aj (ai 0) (aj (aa (V.type "str")) (aa []))) isiF)) (lT (dg (a7 bH mV (ai 0) (aj (aa (V.str "ascii")) (aa [])))) uI) (aa F.next)) dU)
theorem ui (T : bB (KK w) ac mg mb) : dy prog w ac 1 (.ref 80) av yV := by
 unfold yV
 apply b0 (N := 1) T 80 ["s"] [] 1 [] [] av 0
 case h => rfl
 case hd => exact fun ρ => .nil
 case hB =>
  intro s xs _ hl
  obtain ⟨a, rfl⟩ := cA hl
  exact BindsTo.of_eq rfl
 all_goals try first | rfl | decide | (intros; rfl)
 intro C G hh
 exact (ah (aQ (cb (d5 "isinstance" u4 G T rfl rfl rfl rfl rfl (ad (ak G rfl rfl) (ad (dA G T rfl rfl rfl rfl rfl rfl rfl) ag rfl) rfl) rfl) rfl) (ar (jz (Ctx.ok G) (ar (aZ (aU iA (ak G rfl rfl) (ad (af rfl) ag rfl) rfl rfl rfl rfl))) gV)) aD) (b_isi rfl))
noncomputable def tD : cX := dh 3 (ew 1 [V.none, V.bool false]) (aM (an (aC (aj (ai 0) (aa [])) (bQ yV)) (ao 0)) (aM (zE (aB (aW CmpOp.IsNot (ai 1) (aa V.none))) (aM (an (aC (aj (ai 1) (aa [])) (bQ yV)) (ao 1)) dU) (aa F.next)) (dg (aC (yW (ai 0) (ai 2)) (bQ wd)))))
theorem vz (T : bB (KK w) ac mg mb) : dy prog w ac 3 (.ref 153) av tD := by
 unfold tD
 apply b0 (N := 3) T 153 ["s", "altchars", "validate"] [] 1 [.none, .bool false] [.none, .bool false] av 2
 case h => rfl
 case hd => exact fun ρ => .cons rfl (.one rfl)
 case hB =>
  intro s xs hs hl
  obtain ⟨a, rfl⟩ := cA hl
  exact kp_binds (T.X.keeps hs) fun _ => rfl
 all_goals try first | rfl | decide | (intros; rfl)
 intro C G hh
 exact (ah (al (dc "_bytes_from_decode_data" (ui T) G T hh rfl rfl rfl rfl rfl (ad (ak G rfl rfl) ag rfl) rfl) (ax G rfl) rfl rfl rfl) (ah (aQ (ay (Ctx.ok G) (ak G rfl rfl) (af rfl) rfl) (ah (al (dc "_bytes_from_decode_data" (ui T) G T hh rfl rfl rfl rfl rfl (ad (ak G rfl rfl) ag rfl) rfl) (ax G rfl) rfl rfl rfl) jX) aD) (ar (aZ (nI "a2b_base64" "strict_mode" (vC T) G T hh rfl rfl rfl rfl rfl (ak G rfl rfl) (ak G rfl rfl) rfl rfl)))))
noncomputable def mA : cX :=
 dh 13 (ew 2 [])
  (aM
   (an (ai 0)
    (pI [ao 2, ao 3, ao 4, ao 5, ao 6]))
   (aM
    (an
     (a7 bH tL (aa (V.str ""))
      (aj
       (bI 13
        (aC
         (aj
          (aC (aj (bI 13 (ai 5) (aa true) (aC (aj (ai 13) (aa [])) xZ)) (aa []))
           iL)
          (aa []))
         (bQ qU))
        (aa true) (aC (aj (ai 13) (aa [])) zc))
       (aa [])))
     (ao 7))
    (aM (an (nJ 5 "\"" "\"" "\"\"") (ao 8))
     (aM
      (an
       (bp br
        (bu
         (aj
          (aR Operator.Add
           (aR Operator.Add (aR Operator.Add (aa (V.str "257 ")) (ai 8))
            (aa (V.str "\" made ")))
           (ai 7))
          (aj (aR Operator.Add (aa (V.str "257 ")) (ai 8))
           (aj
            (aR Operator.Add (aR Operator.Add (aa (V.str "257 (")) (ai 5))
             (aa (V.str "\"")))
            (aj
             (aR Operator.Add (aR Operator.Add (aa (V.str "250 ")) (ai 8))
              (aa (V.str "\"")))
             (aa []))))))
        (ai 3))
       (ao 9))
      (aM
       (an (bp br (aa (V.str "|!#")) (aR Operator.Mod (ai 1) (aa (V.int 3))))
        (ao 10))
       (aM
        (an
         (bp br
          (bu
           (aj
            (aR Operator.Add
             (aR Operator.Add (aR Operator.Mult (ai 10) (aa (V.int 3)))
              (aC (aj (ai 6) (aa [])) nt))
             (ai 10))
            (aj
             (aR Operator.Add
              (aR Operator.Add (aR Operator.Mult (ai 10) (aa (V.int 3)))
               (aC (aj (ai 6) (aa [])) nt))
              (aa (V.str "-")))
             (aj
              (aR Operator.Add
               (aR Operator.Add (aR Operator.Mult (ai 10) (aa (V.int 2)))
                (aC (aj (ai 6) (aa [])) nt))
               (ai 10))
              (aa [])))))
          (aR Operator.Mod
           (aC (aj (aR Operator.Sub (ai 4) (aa (V.int 2))) (aj (aa (V.int 0)) (aa [])))
            tB)
           (aa (V.int 3))))
         (ao 11))
        (aM
         (an
          (aR Operator.Add
           (bp br
            (bu
             (aj (aa (V.str "229 at ("))
              (aj (aa (V.str "229 at "))
               (aj (aa (V.str "229 at ("))
                (aj (aa (V.str "229 at ("))
                 (aj (aa (V.str "229 at (")) (aj (aa (V.str "230 at (")) (aa []))))))))
            (ai 4))
           (ai 11))
          (ao 12))
         (dg
          (hY
           (aj (ai 9)
            (aj
             (aR Operator.Add (ai 12)
              (zE (aB (aW CmpOp.Eq (ai 4) (aa (V.int 2)))) (aa (V.str ""))
               (aa (V.str ")"))))
             (aa []))))))))))))
theorem vi (T : bB (KK w) ac mg mb) : dy prog w ac 4 (.ref 290) av mA := by
 unfold mA
 apply b0 (N := 13) T 290 ["folder", "k"] ["above", "first", "second", "name", "port", "octets", "quoted", "made", "mark", "inner", "opened"] 2 [] [] av 3
 case h => rfl
 case hd => exact fun ρ => .nil
 case hB =>
  intro s xs _ hl
  obtain ⟨a, b, rfl⟩ := eF hl
  exact BindsTo.of_eq rfl
 all_goals try first | rfl | decide | (intros; rfl)
 intro C G hh
 exact (ah (al (ak G rfl rfl) (sX hh rfl (cx (ax G rfl) (cx (ax G rfl) (cx (ax G rfl) (cx (ax G rfl) (cx (ax G rfl) nn)))))) rfl rfl rfl) (ah (al (aU kY (af rfl) (ad (fk ([]) G hh rfl rfl rfl rfl (fun x_ => rfl) (dc "b64encode" (vA T) G T hh rfl rfl rfl rfl rfl (ad (cH "bytes" (eJ hh) G T rfl rfl rfl rfl rfl (ad (fk ([]) G hh rfl rfl rfl rfl (fun x_ => rfl) (ak G rfl rfl) rfl rfl rfl rfl (fun C2 => (fun G_1 => (fun hh_1 => (And.intro bU (d5 "ord" p8 G_1 T rfl rfl rfl rfl rfl (ad (ak G_1 rfl rfl) ag rfl) rfl)))))) ag rfl) rfl) ag rfl) rfl) rfl rfl rfl rfl (fun C2 => (fun G_1 => (fun hh_1 => (And.intro bU (d5 "chr" u7 G_1 T rfl rfl rfl rfl rfl (ad (ak G_1 rfl rfl) ag rfl) rfl)))))) ag rfl) rfl rfl rfl rfl) (ax G rfl) rfl rfl rfl) (ah (al (vO G rfl rfl rfl rfl rfl rfl) (ax G rfl) rfl rfl rfl) (ah (al (a9 (bn (ad (aA (aA (aA (af rfl) (ak G rfl rfl)) (af rfl)) (ak G rfl rfl)) (ad (aA (af rfl) (ak G rfl rfl)) (ad (aA (aA (af rfl) (ak G rfl rfl)) (af rfl)) (ad (aA (aA (af rfl) (ak G rfl rfl)) (af rfl)) ag rfl) rfl) rfl) rfl)) (ak G rfl rfl) (fun x_ => (fun x__1 => (fun x__2 => rfl)))) (ax G rfl) rfl rfl rfl) (ah (al (a9 (af rfl) (aA (ak G rfl rfl) (af rfl)) (fun x_ => (fun x__1 => (fun x__2 => rfl)))) (ax G rfl) rfl rfl rfl) (ah (al (a9 (bn (ad (aA (aA (aA (ak G rfl rfl) (af rfl)) (cH "str" gg G T rfl rfl rfl rfl rfl (ad (ak G rfl rfl) ag rfl) rfl)) (ak G rfl rfl)) (ad (aA (aA (aA (ak G rfl rfl) (af rfl)) (cH "str" gg G T rfl rfl rfl rfl rfl (ad (ak G rfl rfl) ag rfl) rfl)) (af rfl)) (ad (aA (aA (aA (ak G rfl rfl) (af rfl)) (cH "str" gg G T rfl rfl rfl rfl rfl (ad (ak G rfl rfl) ag rfl) rfl)) (ak G rfl rfl)) ag rfl) rfl) rfl)) (aA (d5 "max" (qb hh) G T rfl rfl rfl rfl rfl (ad (aA (ak G rfl rfl) (af rfl)) (ad (af rfl) ag rfl) rfl) rfl) (af rfl)) (fun x_ => (fun x__1 => (fun x__2 => rfl)))) (ax G rfl) rfl rfl rfl) (ah (al (aA (a9 (bn (ad (af rfl) (ad (af rfl) (ad (af rfl) (ad (af rfl) (ad (af rfl) (ad (af rfl) ag rfl) rfl) rfl) rfl) rfl) rfl)) (ak G rfl rfl) (fun x_ => (fun x__1 => (fun x__2 => rfl)))) (ak G rfl rfl)) (ax G rfl) rfl rfl rfl) (ar (aZ (dG (ad (ak G rfl rfl) (ad (aA (ak G rfl rfl) (eI (ay (Ctx.ok G) (ak G rfl rfl) (af rfl) rfl) (af rfl) (af rfl))) ag rfl) rfl)))))))))))
noncomputable def iB : cX := dh 7 (ew 2 []) (aM (zE (aB (aW CmpOp.NotEq (cu (ai 0) (aa V.none) (aa (V.int 3))) (aa (V.str "229")))) (cJ (V.top 44) (aj (ai 0) (aa []))) (aa F.next)) (aM (an (a7 bH lw (ai 0) (aj (aa (V.str "(")) (aa []))) (ao 2)) (aM (zE (aB (aW CmpOp.Lt (ai 2) (aa (V.int 0)))) (cJ (V.top 56) (aj (ai 0) (aa []))) (aa F.next)) (aM (an (a7 bH lw (ai 0) (aj (aa (V.str ")")) (aj (aR Operator.Add (ai 2) (aa (V.int 1))) (aa [])))) (ao 3)) (aM (zE (aB (aW CmpOp.Lt (ai 3) (aa (V.int 0)))) (cJ (V.top 56) (aj (ai 0) (aa []))) (aa F.next)) (aM (zE (aB (aW CmpOp.NotEq (bp br (ai 0) (aR Operator.Add (ai 2) (aa (V.int 1)))) (bp br (ai 0) (aR Operator.Sub (ai 3) (aa (V.int 1)))))) (cJ (V.top 56) (aj (ai 0) (aa []))) (aa F.next)) (aM (an (a7 bH ia (cu (ai 0) (aR Operator.Add (ai 2) (aa (V.int 1))) (ai 3)) (aj (bp br (ai 0) (aR Operator.Add (ai 2) (aa (V.int 1)))) (aa []))) (ao 4)) (aM (zE (aB (aW CmpOp.NotEq (aC (aj (ai 4) (aa [])) iU) (aa (V.int 5)))) (cJ (V.top 56) (aj (ai 0) (aa []))) (aa F.next)) (aM (an (bp br (ai 1) (aa (V.int 0))) (ao 5)) (aM (an (aC (aj (bp br (ai 4) (aa (V.int 3))) (aa [])) za) (ao 6)) (dg (hY (aj (ai 5) (aj (ai 6) (aa [])))))))))))))))
theorem xi (T : bB (KK w) ac mg mb) : dy prog w ac 1 (.ref 65) av iB := by
 unfold iB
 apply b0 (N := 7) T 65 ["resp", "peer"] ["left", "right", "parts", "host", "port"] 2 [] [] av 0
 case h => rfl
 case hd => exact fun ρ => .nil
 case hB =>
  intro s xs _ hl
  obtain ⟨a, b, rfl⟩ := eF hl
  exact BindsTo.of_eq rfl
 all_goals try first | rfl | decide | (intros; rfl)
 intro C G hh
 exact (ah (aQ (ay (Ctx.ok G) (cS (ak G rfl rfl) dp (bN (af rfl))) (af rfl) rfl) (ar (fy G T hh (x2 T) PySem.F.excBase_Exception rfl rfl rfl (ad (ak G rfl rfl) ag rfl) rfl)) aD) (ah (al (aU k9 (ak G rfl rfl) (ad (af rfl) ag rfl) rfl rfl rfl rfl) (ax G rfl) rfl rfl rfl) (ah (aQ (ay (Ctx.ok G) (ak G rfl rfl) (af rfl) rfl) (ar (fy G T hh (tm T) PySem.F.excBase_Exception rfl rfl rfl (ad (ak G rfl rfl) ag rfl) rfl)) aD) (ah (al (aU k9 (ak G rfl rfl) (ad (af rfl) (ad (aA (ak G rfl rfl) (af rfl)) ag rfl) rfl) rfl rfl rfl rfl) (ax G rfl) rfl rfl rfl) (ah (aQ (ay (Ctx.ok G) (ak G rfl rfl) (af rfl) rfl) (ar (fy G T hh (tm T) PySem.F.excBase_Exception rfl rfl rfl (ad (ak G rfl rfl) ag rfl) rfl)) aD) (ah (aQ (ay (Ctx.ok G) (a9 (ak G rfl rfl) (aA (ak G rfl rfl) (af rfl)) (fun x_ => (fun x__1 => (fun x__2 => rfl)))) (a9 (ak G rfl rfl) (aA (ak G rfl rfl) (af rfl)) (fun x_ => (fun x__1 => (fun x__2 => rfl)))) rfl) (ar (fy G T hh (tm T) PySem.F.excBase_Exception rfl rfl rfl (ad (ak G rfl rfl) ag rfl) rfl)) aD) (ah (al (aU gn (cS (ak G rfl rfl) (bN (aA (ak G rfl rfl) (af rfl))) (bN (ak G rfl rfl))) (ad (a9 (ak G rfl rfl) (aA (ak G rfl rfl) (af rfl)) (fun x_ => (fun x__1 => (fun x__2 => rfl)))) ag rfl) rfl rfl rfl rfl) (ax G rfl) rfl rfl rfl) (ah (aQ (ay (Ctx.ok G) (d5 "len" dH G T rfl rfl rfl rfl rfl (ad (ak G rfl rfl) ag rfl) rfl) (af rfl) rfl) (ar (fy G T hh (tm T) PySem.F.excBase_Exception rfl rfl rfl (ad (ak G rfl rfl) ag rfl) rfl)) aD) (ah (al (a9 (ak G rfl rfl) (af rfl) (fun x_ => (fun x__1 => (fun x__2 => rfl)))) (ax G rfl) rfl rfl rfl) (ah (al (cH "int" u5 G T rfl rfl rfl rfl rfl (ad (a9 (ak G rfl rfl) (af rfl) (fun x_ => (fun x__1 => (fun x__2 => rfl)))) ag rfl) rfl) (ax G rfl) rfl rfl rfl) (ar (aZ (dG (ad (ak G rfl rfl) (ad (ak G rfl rfl) ag rfl) rfl))))))))))))))
noncomputable def y9 : cX := dh 5 (ew 1 []) (aM (zE (aB (aW CmpOp.NotEq (cu (ai 0) (aa V.none) (aa (V.int 3))) (aa (V.str "257")))) (cJ (V.top 44) (aj (ai 0) (aa []))) (aa F.next)) (aM (zE (aB (aW CmpOp.NotEq (cu (ai 0) (aa (V.int 3)) (aa (V.int 5))) (aa (V.str " \"")))) (dg (aa (V.str ""))) (aa F.next)) (aM (an (aa (V.str "")) (ao 1)) (aM (an (aa (V.int 5)) (ao 2)) (aM (an (aC (aj (ai 0) (aa [])) iU) (ao 3)) (aM (bS (aB (aW CmpOp.Lt (ai 2) (ai 3))) (aM (an (bp br (ai 0) (ai 2)) (ao 4)) (aM (an (aR Operator.Add (ai 2) (aa (V.int 1))) (ao 2)) (aM (zE (aB (aW CmpOp.Eq (ai 4) (aa (V.str "\"")))) (aM (zE (zu (aB (aW CmpOp.GtE (ai 2) (ai 3))) (zu (aB (aW CmpOp.NotEq (bp br (ai 0) (ai 2)) (aa (V.str "\"")))) (aa false))) (aa F.brk) (aa F.next)) (an (aR Operator.Add (ai 2) (aa (V.int 1))) (ao 2))) (aa F.next)) (an (aR Operator.Add (ai 1) (ai 4)) (ao 1))))) (aa F.next) 50) (dg (ai 1))))))))
theorem xh (T : bB (KK w) ac mg mb) : dy prog w ac 1 (.ref 72) av y9 := by
 unfold y9
 apply b0 (N := 5) T 72 ["resp"] ["dirname", "i", "n", "c"] 1 [] [] av 0
 case h => rfl
 case hd => exact fun ρ => .nil
 case hB =>
  intro s xs _ hl
  obtain ⟨a, rfl⟩ := cA hl
  exact BindsTo.of_eq rfl
 all_goals try first | rfl | decide | (intros; rfl)
 intro C G hh
 exact (ah (aQ (ay (Ctx.ok G) (cS (ak G rfl rfl) dp (bN (af rfl))) (af rfl) rfl) (ar (fy G T hh (x2 T) PySem.F.excBase_Exception rfl rfl rfl (ad (ak G rfl rfl) ag rfl) rfl)) aD) (ah (aQ (ay (Ctx.ok G) (cS (ak G rfl rfl) (bN (af rfl)) (bN (af rfl))) (af rfl) rfl) (ar (aZ (af rfl))) aD) (ah (al (af rfl) (ax G rfl) rfl rfl rfl) (ah (al (af rfl) (ax G rfl) rfl rfl rfl) (ah (al (d5 "len" dH G T rfl rfl rfl rfl rfl (ad (ak G rfl rfl) ag rfl) rfl) (ax G rfl) rfl rfl rfl) (ah (dN (50) (ay (Ctx.ok G) (ak G rfl rfl) (ak G rfl rfl) rfl) (ah (al (a9 (ak G rfl rfl) (ak G rfl rfl) (fun x_ => (fun x__1 => (fun x__2 => rfl)))) (ax G rfl) rfl rfl rfl) (ah (al (aA (ak G rfl rfl) (af rfl)) (ax G rfl) rfl rfl rfl) (ah (aQ (ay (Ctx.ok G) (ak G rfl rfl) (af rfl) rfl) (ah (aQ (cz (aV (ay (Ctx.ok G) (ak G rfl rfl) (ak G rfl rfl) rfl) (aV (ay (Ctx.ok G) (a9 (ak G rfl rfl) (ak G rfl rfl) (fun x_ => (fun x__1 => (fun x__2 => rfl)))) (af rfl) rfl) eU))) (ar fK) aD) (ar (al (aA (ak G rfl rfl) (af rfl)) (ax G rfl) rfl rfl rfl))) aD) (ar (al (aA (ak G rfl rfl) (ak G rfl rfl)) (ax G rfl) rfl rfl rfl))))) aD) (ar (aZ (ak G rfl rfl)))))))))
noncomputable def fc : cX := dh 3 (ew 2 []) (lT (dg (zE (aB (aW CmpOp.Is (ai 1) (aa V.none))) (aC (aj (ai 0) (aa [])) (bQ y9)) (aC (aj (ai 0) (aj (ai 1) (aa []))) (bQ iB)))) (gm [(V.top 44, true), (V.top 56, false)] (asH 2 (dg (hY (aj (aa (V.str "other code")) (aj (aC (aj (ai 2) (aa [])) (yS [44, 56])) (aa [])))))) (gm [(V.top 56, true)] (asH 2 (dg (hY (aj (aa (V.str "no port")) (aj (aC (aj (ai 2) (aa [])) (yS [44, 56])) (aa [])))))) uI)))
theorem qm (T : bB (KK w) ac mg mb) : dy prog w ac 2 (.ref 297) av fc := by
 unfold fc
 apply b0 (N := 3) T 297 ["reply", "peer"] ["error"] 2 [] [] av 1
 case h => rfl
 case hd => exact fun ρ => .nil
 case hB =>
  intro s xs _ hl
  obtain ⟨a, b, rfl⟩ := eF hl
  exact BindsTo.of_eq rfl
 all_goals try first | rfl | decide | (intros; rfl)
 intro C G hh
 exact (ar (jz (Ctx.ok G) (ar (aZ (eI (ay (Ctx.ok G) (ak G rfl rfl) (af rfl) rfl) (dc "parse257" (xh T) G T hh rfl rfl rfl rfl rfl (ad (ak G rfl rfl) ag rfl) rfl) (dc "parse229" (xi T) G T hh rfl rfl rfl rfl rfl (ad (ak G rfl rfl) (ad (ak G rfl rfl) ag rfl) rfl) rfl)))) (qD "error_reply" (44) (pk_44 (w)) G T rfl rfl rfl (xT G rfl (fun C2 => (fun G_1 => (ar (aZ (dG (ad (af rfl) (ad (cH "str" (nA (bB.X T) (uj (w)) (Ctx.ok G_1)) G_1 T rfl rfl rfl rfl rfl (ad (ak G_1 rfl rfl) ag rfl) rfl) ag rfl) rfl))))))) (qD "error_proto" (56) (pk_56 (w)) G T rfl rfl rfl (xT G rfl (fun C2 => (fun G_1 => (ar (aZ (dG (ad (af rfl) (ad (cH "str" (nA (bB.X T) (uj (w)) (Ctx.ok G_1)) G_1 T rfl rfl rfl rfl rfl (ad (ak G_1 rfl rfl) ag rfl) rfl) ag rfl) rfl))))))) gV))))
noncomputable def lf : cX := dh 2 (ew 2 []) (aM (an (ai 1) (cD (fE 172 0) (ai 0))) (aM (an (aa (V.int 0)) (cD (fE 172 1) (ai 0))) (an (bu (aa [])) (cD (fE 172 2) (ai 0)))))
theorem vx (T : bB (KK w) ac mg mb) : dy prog w ac 1 (.ref 168) av lf := by
 unfold lf
 apply b0 (N := 2) T 168 ["self", "node"] [] 2 [] [] av 0
 case h => rfl
 case hd => exact fun ρ => .nil
 case hB =>
  intro s xs _ hl
  obtain ⟨a, b, rfl⟩ := eF hl
  exact BindsTo.of_eq rfl
 all_goals try first | rfl | decide
 intro C G hh
 exact (ah (al (ak G rfl rfl) (ci (dX (bB.X T) (uX (w))) (ak G rfl rfl)) rfl rfl rfl) (ah (al (af rfl) (ci (dX (bB.X T) (h9 (w))) (ak G rfl rfl)) rfl rfl rfl) (ar (al (bn ag) (ci (dX (bB.X T) (uW (w))) (ak G rfl rfl)) rfl rfl rfl))))
noncomputable def mD : cX := dh 4 (ew 1 [V.none]) (aM (an mW (cD (iR 269 "_node2info") (ai 0))) (aM (an (aa V.none) (cD (iR 269 "_ready_nodes") (ai 0))) (aM (an (aa (V.int 0)) (cD (iR 269 "_npassedout") (ai 0))) (aM (an (aa (V.int 0)) (cD (iR 269 "_nfinished") (ai 0))) (zE (aB (aW CmpOp.IsNot (ai 1) (aa V.none))) dU (aa F.next))))))
theorem vw (T : bB (KK w) ac mg mb) : dy prog w ac 1 (.ref 205) av mD := by
 unfold mD
 apply b0 (N := 4) T 205 ["self", "graph"] ["node", "predecessors"] 1 [.none] [.none] av 0
 case h => rfl
 case hd => exact fun ρ => .one rfl
 case hB =>
  intro s xs hs hl
  obtain ⟨a, rfl⟩ := cA hl
  exact kp_binds (T.X.keeps hs) fun _ => rfl
 all_goals try first | rfl | decide
 intro C G hh
 exact (ah (al kE (ci (dY (bB.X T) (xk (w))) (ak G rfl rfl)) rfl rfl rfl) (ah (al (af rfl) (ci (dY (bB.X T) (uk (w))) (ak G rfl rfl)) rfl rfl rfl) (ah (al (af rfl) (ci (dY (bB.X T) (ul (w))) (ak G rfl rfl)) rfl rfl rfl) (ah (al (af rfl) (ci (dY (bB.X T) (um (w))) (ak G rfl rfl)) rfl rfl rfl) (ar (aQ (ay (Ctx.ok G) (ak G rfl rfl) (af rfl) rfl) (ar wD) aD))))))
noncomputable def lc : cX := dh 3 (ew 2 []) (aM (zE (aB (aW CmpOp.Is (fun σ => (a7 bP gy (ba (getD 269 "_node2info") (ai 0)) (aj (ai 1) (aa [])) σ).bind fun v ae => (ao 2 v ae).bind fun x aq => zZ.ok v aq) (aa V.none))) (jZ (aC (aj (ai 1) (aa [])) (bJ (gq 172 lf))) (pR (ba (getD 269 "_node2info") (ai 0)) (ai 1)) (ao 2)) (aa F.next)) (dg (ai 2)))
theorem qn (T : bB (KK w) ac mg mb) : dy prog w ac 3 (.ref 212) av lc := by
 unfold lc
 apply b0 (N := 3) T 212 ["self", "node"] ["result"] 2 [] [] av 2
 case h => rfl
 case hd => exact fun ρ => .nil
 case hB =>
  intro s xs _ hl
  obtain ⟨a, b, rfl⟩ := eF hl
  exact BindsTo.of_eq rfl
 all_goals try first | rfl | decide
 intro C G hh
 exact (ah (aQ (ay (Ctx.ok G) (kC (aU nP (bd (bt (bB.X T) (jn (w))) (ak G rfl rfl) rfl) (ad (ak G rfl rfl) ag rfl) rfl rfl rfl rfl) (ax G rfl)) (af rfl) rfl) (ar (l7 (sY "_NodeInfo" (kK (bB.X T) (x7 (w)) (vx T)) G T hh rfl rfl rfl rfl rfl (ad (ak G rfl rfl) ag rfl) rfl) (jB (bd (bt (bB.X T) (jn (w))) (ak G rfl rfl) rfl) (ak G rfl rfl)) (ax G rfl) rfl rfl)) aD) (ar (aZ (ak G rfl rfl))))
noncomputable def pe : cX := dh 6 (wC 2) (aM (zE (aB (aW CmpOp.IsNot (ba (getD 269 "_ready_nodes") (ai 0)) (aa V.none))) dU (aa F.next)) (aM (an (cU (bO 269 "_get_nodeinfo") (bJ lc) (ai 0) (aj (ai 1) (aa []))) (ao 3)) (aM (pv Operator.Add (eM 172 1) (fE 172 1) (ai 3) (aC (aj (ai 2) (aa [])) iU)) (hO (ai 2) (ao 4) (aM (an (cU (bO 269 "_get_nodeinfo") (bJ lc) (ai 0) (aj (ai 4) (aa []))) (ao 5)) (bE (a7 aO bk (ba (eM 172 2) (ai 5)) (aj (ai 1) (aa []))))) (aa F.next)))))
theorem vu (T : bB (KK w) ac mg mb) : dy prog w ac 4 (.ref 219) av pe := by
 unfold pe
 apply qT (N := 6) T 219 ["self", "node", "predecessors"] ["nodeinfo", "pred", "pred_info"] 2 3
 case h => rfl
 case hB =>
  intro xs rest hl
  obtain ⟨a, b, rfl⟩ := eF hl
  cases rest <;> rfl
 all_goals try first | rfl | decide
 intro C G hh
 exact (ah (aQ (ay (Ctx.ok G) (bd (bt (bB.X T) (fR (w))) (ak G rfl rfl) rfl) (af rfl) rfl) (ar cf) aD) (ah (al (i9 "_get_nodeinfo" (qn T) (uv (w)) G T hh rfl rfl (ak G rfl rfl) (ru (ad (ak G rfl rfl) ag rfl) rfl) (Or.inl rfl) rfl) (ax G rfl) rfl rfl rfl) (ah (gU (df (bB.X T) (iE (w))) (dX (bB.X T) (h9 (w))) (ak G rfl rfl) (d5 "len" dH G T rfl rfl rfl rfl rfl (ad (ak G rfl rfl) ag rfl) rfl)) (ar (dZ hh (ak G rfl rfl) (ax G rfl) (ah (al (i9 "_get_nodeinfo" (qn T) (uv (w)) G T hh rfl rfl (ak G rfl rfl) (ru (ad (ak G rfl rfl) ag rfl) rfl) (Or.inl rfl) rfl) (ax G rfl) rfl rfl rfl) (ar (bj (aU bb (bd (df (bB.X T) (mL (w))) (ak G rfl rfl) rfl) (ad (ak G rfl rfl) ag rfl) rfl rfl rfl rfl) (aF (Ctx.ok G)) rfl))) aD (fun x_ => (fun x__1 => rfl)) (fun x_ => rfl))))))
noncomputable def mC : cX := dh 4 (ew 1 []) (aM (zE (aB (aW CmpOp.Is (ba (getD 269 "_ready_nodes") (ai 0)) (aa V.none))) dU (aa F.next)) (aM (an (aC (aj (ba (getD 269 "_ready_nodes") (ai 0)) (aa [])) nj) (ao 1)) (aM (an (ba (getD 269 "_node2info") (ai 0)) (ao 2)) (aM (hO (ai 1) (ao 3) (an (aa (V.int (-1))) (cD (fE 172 1) (bp br (ai 2) (ai 3)))) (aa F.next)) (aM (bE (a7 aO n8 (ba (getD 269 "_ready_nodes") (ai 0)) (aa []))) (aM (pv Operator.Add (getD 269 "_npassedout") (iR 269 "_npassedout") (ai 0) (aC (aj (ai 1) (aa [])) iU)) (dg (ai 1))))))))
theorem vp (T : bB (KK w) ac mg mb) : dy prog w ac 1 (.ref 231) av mC := by
 unfold mC
 apply b0 (N := 4) T 231 ["self"] ["result", "n2i", "node"] 1 [] [] av 0
 case h => rfl
 case hd => exact fun ρ => .nil
 case hB =>
  intro s xs _ hl
  obtain ⟨a, rfl⟩ := cA hl
  exact BindsTo.of_eq rfl
 all_goals try first | rfl | decide
 intro C G hh
 exact (ah (aQ (ay (Ctx.ok G) (bd (bt (bB.X T) (fR (w))) (ak G rfl rfl) rfl) (af rfl) rfl) (ar cf) aD) (ah (al (cH "tuple" pZ G T rfl rfl rfl rfl rfl (ad (bd (bt (bB.X T) (fR (w))) (ak G rfl rfl) rfl) ag rfl) rfl) (ax G rfl) rfl rfl rfl) (ah (al (bd (bt (bB.X T) (jn (w))) (ak G rfl rfl) rfl) (ax G rfl) rfl rfl rfl) (ah (dZ hh (ak G rfl rfl) (ax G rfl) (ar (al (eo G T rfl rfl rfl rfl rfl) (ci (dX (bB.X T) (h9 (w))) (a9 (ak G rfl rfl) (ak G rfl rfl) (fun x_ => (fun x__1 => (fun x__2 => rfl))))) rfl rfl rfl)) aD (fun x_ => (fun x__1 => rfl)) (fun x_ => rfl)) (ah (bj (aU o7 (bd (bt (bB.X T) (fR (w))) (ak G rfl rfl) rfl) ag rfl rfl rfl rfl) (aF (Ctx.ok G)) rfl) (ah (gU (bt (bB.X T) (uD (w))) (dY (bB.X T) (ul (w))) (ak G rfl rfl) (d5 "len" dH G T rfl rfl rfl rfl rfl (ad (ak G rfl rfl) ag rfl) rfl)) (ar (aZ (ak G rfl rfl)))))))))
noncomputable def pd : cX := dh 1 (ew 1 []) (aM (zE (aB (aW CmpOp.Is (ba (getD 269 "_ready_nodes") (ai 0)) (aa V.none))) dU (aa F.next)) (dg (orV (aW CmpOp.Lt (ba (getD 269 "_nfinished") (ai 0)) (ba (getD 269 "_npassedout") (ai 0))) (aC (aj (ba (getD 269 "_ready_nodes") (ai 0)) (aa [])) wB))))
theorem vo (T : bB (KK w) ac mg mb) : dy prog w ac 1 (.ref 238) av pd := by
 unfold pd
 apply b0 (N := 1) T 238 ["self"] [] 1 [] [] av 0
 case h => rfl
 case hd => exact fun ρ => .nil
 case hB =>
  intro s xs _ hl
  obtain ⟨a, rfl⟩ := cA hl
  exact BindsTo.of_eq rfl
 all_goals try first | rfl | decide
 intro C G hh
 exact (ah (aQ (ay (Ctx.ok G) (bd (bt (bB.X T) (fR (w))) (ak G rfl rfl) rfl) (af rfl) rfl) (ar cf) aD) (ar (aZ (u1 (jA (Ctx.ok G) (bd (bt (bB.X T) (uE (w))) (ak G rfl rfl) rfl) (bd (bt (bB.X T) (uD (w))) (ak G rfl rfl) rfl) rfl) (cH "bool" ss G T rfl rfl rfl rfl rfl (ad (bd (bt (bB.X T) (fR (w))) (ak G rfl rfl) rfl) ag rfl) rfl)))))
noncomputable def mB : cX := dh 8 (wC 1) (aM (zE (aB (aW CmpOp.Is (ba (getD 269 "_ready_nodes") (ai 0)) (aa V.none))) dU (aa F.next)) (aM (an (ba (getD 269 "_node2info") (ai 0)) (ao 2)) (hO (ai 1) (ao 3) (aM (zE (aB (aW CmpOp.Is (fun σ => (a7 bP gy (ai 2) (aj (ai 3) (aa [])) σ).bind fun v ae => (ao 4 v ae).bind fun x aq => zZ.ok v aq) (aa V.none))) dU (aa F.next)) (aM (an (ba (eM 172 1) (ai 4)) (ao 5)) (aM (zE (aB (aW CmpOp.NotEq (ai 5) (aa (V.int (-1))))) (zE (aB (aW CmpOp.GtE (ai 5) (aa (V.int 0)))) dU (zE (aB (aW CmpOp.Eq (ai 5) (aa (V.int (-2))))) dU dU)) (aa F.next)) (aM (an (aa (V.int (-2))) (cD (fE 172 1) (ai 4))) (aM (hO (ba (eM 172 2) (ai 4)) (ao 6) (aM (an (bp br (ai 2) (ai 6)) (ao 7)) (aM (pv Operator.Sub (eM 172 1) (fE 172 1) (ai 7) (aa (V.int 1))) (zE (aB (aW CmpOp.Eq (ba (eM 172 1) (ai 7)) (aa (V.int 0)))) (bE (a7 aO bk (ba (getD 269 "_ready_nodes") (ai 0)) (aj (ai 6) (aa [])))) (aa F.next)))) (aa F.next)) (pv Operator.Add (getD 269 "_nfinished") (iR 269 "_nfinished") (ai 0) (aa (V.int 1)))))))) (aa F.next))))
theorem vn (T : bB (KK w) ac mg mb) : dy prog w ac 1 (.ref 252) av mB := by
 unfold mB
 apply qT (N := 8) T 252 ["self", "nodes"] ["n2i", "node", "nodeinfo", "stat", "successor", "successor_info"] 1 0
 case h => rfl
 case hB =>
  intro xs rest hl
  obtain ⟨a, rfl⟩ := cA hl
  cases rest <;> rfl
 all_goals try first | rfl | decide
 intro C G hh
 exact (ah (aQ (ay (Ctx.ok G) (bd (bt (bB.X T) (fR (w))) (ak G rfl rfl) rfl) (af rfl) rfl) (ar cf) aD) (ah (al (bd (bt (bB.X T) (jn (w))) (ak G rfl rfl) rfl) (ax G rfl) rfl rfl rfl) (ar (dZ hh (ak G rfl rfl) (ax G rfl) (ah (aQ (ay (Ctx.ok G) (kC (aU nP (ak G rfl rfl) (ad (ak G rfl rfl) ag rfl) rfl rfl rfl rfl) (ax G rfl)) (af rfl) rfl) (ar cf) aD) (ah (al (bd (df (bB.X T) (iE (w))) (ak G rfl rfl) rfl) (ax G rfl) rfl rfl rfl) (ah (aQ (ay (Ctx.ok G) (ak G rfl rfl) (eo G T rfl rfl rfl rfl rfl) rfl) (ar (aQ (ay (Ctx.ok G) (ak G rfl rfl) (af rfl) rfl) (ar cf) (ar (aQ (ay (Ctx.ok G) (ak G rfl rfl) (eo G T rfl rfl rfl rfl rfl) rfl) (ar cf) jX)))) aD) (ah (al (eo G T rfl rfl rfl rfl rfl) (ci (dX (bB.X T) (h9 (w))) (ak G rfl rfl)) rfl rfl rfl) (ah (dZ hh (bd (df (bB.X T) (mL (w))) (ak G rfl rfl) rfl) (ax G rfl) (ah (al (a9 (ak G rfl rfl) (ak G rfl rfl) (fun x_ => (fun x__1 => (fun x__2 => rfl)))) (ax G rfl) rfl rfl rfl) (ah (gU (df (bB.X T) (iE (w))) (dX (bB.X T) (h9 (w))) (ak G rfl rfl) (af rfl)) (ar (aQ (ay (Ctx.ok G) (bd (df (bB.X T) (iE (w))) (ak G rfl rfl) rfl) (af rfl) rfl) (ar (bj (aU bb (bd (bt (bB.X T) (fR (w))) (ak G rfl rfl) rfl) (ad (ak G rfl rfl) ag rfl) rfl rfl rfl rfl) (aF (Ctx.ok G)) rfl)) aD)))) aD (fun x_ => (fun x__1 => rfl)) (fun x_ => rfl)) (ar (gU (bt (bB.X T) (uE (w))) (dY (bB.X T) (um (w))) (ak G rfl rfl) (af rfl)))))))) aD (fun x_ => (fun x__1 => rfl)) (fun x_ => rfl)))))
noncomputable def iT : cX := dh 7 (ew 1 []) (aM (an (ba (getD 269 "_node2info") (ai 0)) (ao 1)) (aM (an (bu (aa [])) (ao 2)) (aM (an (bu (aa [])) (ao 3)) (aM (an (aC (aa []) yU) (ao 4)) (aM (an mW (ao 5)) (aM (hO (ai 1) (ao 6) (aM (zE (aB (aW CmpOp.In (ai 6) (ai 4))) (aa F.cont) (aa F.next)) (bS (aB (aa (V.bool true))) (aM (zE (aB (aW CmpOp.In (ai 6) (ai 4))) (zE (aB (aW CmpOp.In (ai 6) (ai 5))) (dg (aR Operator.Add (cu (ai 2) (bp br (ai 5) (ai 6)) (aa V.none)) (bu (aj (ai 6) (aa []))))) (aa F.next)) (aM (bE (a7 eu yK (ai 4) (aj (ai 6) (aa [])))) (aM (bE (a7 aO bk (ai 3) (aj (ba oZ (aC (aj (ba (eM 172 2) (bp br (ai 1) (ai 6))) (aa [])) mJ)) (aa [])))) (aM (an (aC (aj (ai 2) (aa [])) iU) (pR (ai 5) (ai 6))) (bE (a7 aO bk (ai 2) (aj (ai 6) (aa [])))))))) (bS (aB (ai 2)) (lT (aM (an (fun σ => (bp br (ai 3) (fun σ => (aa (V.int 1) σ).bind tv) σ).bind rz) (ao 6)) (aa F.brk)) (gm [(V.type "StopIteration", true)] (kU (aM (wy (ai 5) (a7 aO oU (ai 2) (aa []))) (bE (a7 aO oU (ai 3) (aa []))))) uI)) (aa F.brk) 20)) (aa F.next) 20)) (aa F.next)) (dg (aa V.none))))))))
theorem vm (T : bB (KK w) ac mg mb) : dy prog w ac 1 (.ref 259) av iT := by
 unfold iT
 apply b0 (N := 7) T 259 ["self"] ["n2i", "stack", "itstack", "seen", "node2stacki", "node"] 1 [] [] av 0
 case h => rfl
 case hd => exact fun ρ => .nil
 case hB =>
  intro s xs _ hl
  obtain ⟨a, rfl⟩ := cA hl
  exact BindsTo.of_eq rfl
 all_goals try first | rfl | decide | (intros; rfl)
 intro C G hh
 exact (ah (al (bd (bt (bB.X T) (jn (w))) (ak G rfl rfl) rfl) (ax G rfl) rfl rfl rfl) (ah (al (bn ag) (ax G rfl) rfl rfl rfl) (ah (al (bn ag) (ax G rfl) rfl rfl rfl) (ah (al (cH "set" u0 G T rfl rfl rfl rfl rfl ag rfl) (ax G rfl) rfl rfl rfl) (ah (al kE (ax G rfl) rfl rfl rfl) (ah (dZ hh (ak G rfl rfl) (ax G rfl) (ah (aQ (ay (Ctx.ok G) (ak G rfl rfl) (ak G rfl rfl) rfl) (ar dC) aD) (ar (dN (20) (cb (af rfl) rfl) (ah (aQ (ay (Ctx.ok G) (ak G rfl rfl) (ak G rfl rfl) rfl) (ar (aQ (ay (Ctx.ok G) (ak G rfl rfl) (ak G rfl rfl) rfl) (ar (aZ (aA (cS (ak G rfl rfl) (bN (a9 (ak G rfl rfl) (ak G rfl rfl) (fun x_ => (fun x__1 => (fun x__2 => rfl))))) dp) (bn (ad (ak G rfl rfl) ag rfl))))) aD)) (ah (bj (aU tA (ak G rfl rfl) (ad (ak G rfl rfl) ag rfl) rfl rfl rfl rfl) (aF (Ctx.ok G)) rfl) (ah (bj (aU bb (ak G rfl rfl) (ad (xS (d5 "iter" sk G T rfl rfl rfl rfl rfl (ad (bd (df (bB.X T) (mL (w))) (a9 (ak G rfl rfl) (ak G rfl rfl) (fun x_ => (fun x__1 => (fun x__2 => rfl)))) rfl) ag rfl) rfl) rfl) ag rfl) rfl rfl rfl rfl) (aF (Ctx.ok G)) rfl) (ah (al (d5 "len" dH G T rfl rfl rfl rfl rfl (ad (ak G rfl rfl) ag rfl) rfl) (jB (ak G rfl rfl) (ak G rfl rfl)) rfl rfl rfl) (ar (bj (aU bb (ak G rfl rfl) (ad (ak G rfl rfl) ag rfl) rfl rfl rfl rfl) (aF (Ctx.ok G)) rfl)))))) (ar (dN (20) (cb (ak G rfl rfl) rfl) (ar (jz (Ctx.ok G) (ah (al (vQ hh (a9 (ak G rfl rfl) (lX (af rfl)) (fun x_ => (fun x__1 => (fun x__2 => rfl))))) (ax G rfl) rfl rfl rfl) (ar fK)) (vP "StopIteration" ("StopIteration") (vS (w)) G T rfl rfl rfl rfl rfl (qE G (fun C2 => (fun G_1 => (ah (u6 (ak G_1 rfl rfl) (aU nO (ak G_1 rfl rfl) ag rfl rfl rfl rfl)) (ar (bj (aU nO (ak G_1 rfl rfl) ag rfl rfl rfl rfl) (aF (Ctx.ok G_1)) rfl)))))) gV))) (ar fK)))) aD))) aD (fun x_ => (fun x__1 => rfl)) (fun x_ => rfl)) (ar (aZ (af rfl)))))))))
noncomputable def lb : cX := dh 2 (ew 1 []) (aM (zE (aB (aW CmpOp.IsNot (ba (getD 269 "_ready_nodes") (ai 0)) (aa V.none))) dU (aa F.next)) (aM (an (bI 2 (a7 bP hX (ba (getD 269 "_node2info") (ai 0)) (aa [])) (aB (aW CmpOp.Eq (ba (eM 172 1) (ai 2)) (aa (V.int 0)))) (ba (eM 172 0) (ai 2))) (cD (iR 269 "_ready_nodes") (ai 0))) (aM (an (cU (bO 269 "_find_cycle") (bJ iT) (ai 0) (aa [])) (ao 1)) (zE (aB (ai 1)) (cJ (V.top 187) (aj (aa (V.str "nodes are in a cycle")) (aj (ai 1) (aa [])))) (aa F.next)))))
theorem vq (T : bB (KK w) ac mg mb) : dy prog w ac 2 (.ref 224) av lb := by
 unfold lb
 apply b0 (N := 2) T 224 ["self"] ["cycle"] 1 [] [] av 1
 case h => rfl
 case hd => exact fun ρ => .nil
 case hB =>
  intro s xs _ hl
  obtain ⟨a, rfl⟩ := cA hl
  exact BindsTo.of_eq rfl
 all_goals try first | rfl | decide | (intros; rfl)
 intro C G hh
 exact (ah (aQ (ay (Ctx.ok G) (bd (bt (bB.X T) (fR (w))) (ak G rfl rfl) rfl) (af rfl) rfl) (ar cf) aD) (ah (al (fk ([]) G hh rfl rfl rfl rfl (fun x_ => rfl) (aU my (bd (bt (bB.X T) (jn (w))) (ak G rfl rfl) rfl) ag rfl rfl rfl rfl) rfl rfl rfl rfl (fun C2 => (fun G_1 => (fun hh_1 => (And.intro (cy (ay (Ctx.ok G_1) (bd (df (bB.X T) (iE (w))) (ak G_1 rfl rfl) rfl) (af rfl) rfl)) (bd (df (bB.X T) (wr (w))) (ak G_1 rfl rfl) rfl)))))) (ci (dY (bB.X T) (uk (w))) (ak G rfl rfl)) rfl rfl rfl) (ah (al (i9 "_find_cycle" (vm T) (x9 (w)) G T hh rfl rfl (ak G rfl rfl) tV (Or.inl rfl) rfl) (ax G rfl) rfl rfl rfl) (ar (aQ (cb (ak G rfl rfl) rfl) (ar (fy G T hh (x3 T) PySem.F.excBase_ValueError rfl rfl rfl (ad (qd (af rfl)) (ad (ak G rfl rfl) ag rfl) rfl) rfl)) aD)))))
noncomputable def o9 : cX := dh 6 (ew 1 []) (aM (an (aC (aa []) (bJ (gq 269 mD))) (ao 1)) (aM (hO (aC (aj (aa (V.int 6)) (aa [])) ek) (ao 2) (bE (cU (bO 269 "add") (bJ pe) (ai 1) (aj (ai 2) (fT (bI 6 (bu (aj (bp br (bp br (ai 0) (ai 2)) (aa (V.int 0))) (aa []))) (aB (aW CmpOp.IsNot (ai 6) (aa V.none))) (ai 6)) (aa []))))) (aa F.next)) (aM (an (aa (V.bool false)) (ao 3)) (aM (lT (bE (cU (bO 269 "prepare") (bJ lb) (ai 1) (aa []))) (gm [(V.top 187, true)] (kU (an (aa (V.bool true)) (ao 3))) uI)) (aM (an (bu (aa [])) (ao 4)) (aM (bS (aB (cU (bO 269 "is_active") (bJ pd) (ai 1) (aa []))) (aM (an (cU (bO 269 "get_ready") (bJ mC) (ai 1) (aa [])) (ao 5)) (aM (bE (a7 aO bk (ai 4) (aj (aC (aj (ai 5) (aa [])) gb) (aa [])))) (bE (cU (bO 269 "done") (bJ mB) (ai 1) (lg (ai 5)))))) (aa F.next) 20) (dg (hY (aj (ai 3) (aj (ai 4) (aa [])))))))))))
theorem vj (T : bB (KK w) ac mg mb) : dy prog w ac 5 (.ref 285) av o9 := by
 unfold o9
 apply b0 (N := 6) T 285 ["folders"] ["sorter", "k", "ring", "rounds", "ready"] 1 [] [] av 4
 case h => rfl
 case hd => exact fun ρ => .nil
 case hB =>
  intro s xs _ hl
  obtain ⟨a, rfl⟩ := cA hl
  exact BindsTo.of_eq rfl
 all_goals try first | rfl | decide | (intros; rfl)
 intro C G hh
 exact (ah (al (sY "TopologicalSorter" (kK (bB.X T) (x6 (w)) (vw T)) G T hh rfl rfl rfl rfl rfl ag rfl) (ax G rfl) rfl rfl rfl) (ah (dZ hh (cH "range" cT G T rfl rfl rfl rfl rfl (ad (af rfl) ag rfl) rfl) (ax G rfl) (ar (bj (qC "add" (vu T) (yg (w)) G T hh rfl (ak G rfl rfl) (xV (ad (ak G rfl rfl) (jC (fk ([]) G hh rfl rfl rfl rfl (fun x_ => rfl) (bn (ad (a9 (a9 (ak G rfl rfl) (ak G rfl rfl) (fun x_ => (fun x__1 => (fun x__2 => rfl)))) (af rfl) (fun x_ => (fun x__1 => (fun x__2 => rfl)))) ag rfl)) rfl rfl rfl rfl (fun C2 => (fun G_1 => (fun hh_1 => (And.intro (cy (ay (Ctx.ok G_1) (ak G_1 rfl rfl) (af rfl) rfl)) (ak G_1 rfl rfl)))))) ag rfl) rfl) rfl) (Or.inr (And.intro rfl rfl)) rfl) (aF (Ctx.ok G)) rfl)) aD (fun x_ => (fun x__1 => rfl)) (fun x_ => rfl)) (ah (al (af rfl) (ax G rfl) rfl rfl rfl) (ah (jz (Ctx.ok G) (ar (bj (i9 "prepare" (vq T) (yd (w)) G T hh rfl rfl (ak G rfl rfl) tV (Or.inl rfl) rfl) (aF (Ctx.ok G)) rfl)) (qD "CycleError" (187) (xY (w)) G T rfl rfl rfl (qE G (fun C2 => (fun G_1 => (ar (al (af rfl) (ax G_1 rfl) rfl rfl rfl))))) gV)) (ah (al (bn ag) (ax G rfl) rfl rfl rfl) (ah (dN (20) (cb (i9 "is_active" (vo T) (yb (w)) G T hh rfl rfl (ak G rfl rfl) tV (Or.inl rfl) rfl) rfl) (ah (al (i9 "get_ready" (vp T) (yc (w)) G T hh rfl rfl (ak G rfl rfl) tV (Or.inl rfl) rfl) (ax G rfl) rfl rfl rfl) (ah (bj (aU bb (ak G rfl rfl) (ad (d5 "sorted" oJ G T rfl rfl rfl rfl rfl (ad (ak G rfl rfl) ag rfl) rfl) ag rfl) rfl rfl rfl rfl) (aF (Ctx.ok G)) rfl) (ar (bj (qC "done" (vn T) (yf (w)) G T hh rfl (ak G rfl rfl) (xW (ak G rfl rfl) rfl) (Or.inr (And.intro rfl rfl)) rfl) (aF (Ctx.ok G)) rfl)))) aD) (ar (aZ (dG (ad (ak G rfl rfl) (ad (ak G rfl rfl) ag rfl) rfl))))))))))
noncomputable def pb (z : Addr) (zs : List V) : cX := dh 6 (ew 1 []) (aM (an (bu (aj (aa (V.str "a")) (aj (aa (V.str "\"")) (aj (aa (V.str " b")) (aj (aa (V.str "\"\"")) (aj (aa (V.str "ä")) (aj (aa (V.str "/")) (aa [])))))))) (ao 1)) (aM (an (bu (aa [])) (ao 2)) (aM (rj (aR Operator.Add (dn z zs (ai 0) (aa V.none) (aa (V.int 6))) (cu (bu (aj (aa (V.int 4374)) (aj (aa (V.int 6104)) (aj (aa (V.int 3486)) (aj (aa (V.int 1878)) (aj (aa (V.int 272)) (aj (aa (V.int 11036)) (aa [])))))))) (aC (aj (dn z zs (ai 0) (aa V.none) (aa (V.int 6))) (aa [])) iU) (aa V.none))) (ao 3) (ao 4) (aM (an (zE (gA (aB (aW CmpOp.Lt (aR Operator.Mod (ai 4) (aa (V.int 7))) (aa (V.int 6)))) (gA (zu (aB (aW CmpOp.NotEq (aR Operator.Mod (ai 4) (aa (V.int 7))) (ai 3))) (zu (aB (aW CmpOp.Eq (aR Operator.Mod (aR Operator.FloorDiv (ai 4) (aa (V.int 7))) (aa (V.int 2))) (aa (V.int 1)))) (aa false))) (aa true))) (aR Operator.Mod (ai 4) (aa (V.int 7))) (aa V.none)) (ao 5)) (bE (a7 aO bk (ai 2) (aj (hY (aj (ai 5) (aj (aR Operator.Mod (aR Operator.FloorDiv (ai 4) (aa (V.int 14))) (aa (V.int 4))) (aj (aR Operator.Mod (aR Operator.FloorDiv (ai 4) (aa (V.int 56))) (aa (V.int 6))) (aj (aR Operator.Add (bp br (ai 1) (aR Operator.Mod (aR Operator.FloorDiv (ai 4) (aa (V.int 336))) (aa (V.int 6)))) (bp br (ai 1) (aR Operator.Mod (aR Operator.FloorDiv (ai 4) (aa (V.int 2016))) (aa (V.int 6))))) (aj (aR Operator.Add (aa (V.int 1024)) (aR Operator.Mod (aR Operator.FloorDiv (ai 4) (aa (V.int 336))) (aa (V.int 60000)))) (aa []))))))) (aa []))))) (aa F.next)) (dg (ai 2)))))
theorem vl (T : bB (KK w) ac mg mb) {z : Addr} {zs : List V} (hL : nh ac z zs) : dy prog w ac 1 (.ref 280) av (pb z zs) := by
 unfold pb
 apply b0 (N := 6) T 280 ["script"] ["pieces", "folders", "k", "x", "above"] 1 [] [] av 0
 case h => rfl
 case hd => exact fun ρ => .nil
 case hB =>
  intro s xs _ hl
  obtain ⟨a, rfl⟩ := cA hl
  exact BindsTo.of_eq rfl
 all_goals try first | rfl | decide | (intros; rfl)
 intro C G hh
 exact (ah (al (bn (ad (af rfl) (ad (af rfl) (ad (af rfl) (ad (af rfl) (ad (af rfl) (ad (af rfl) ag rfl) rfl) rfl) rfl) rfl) rfl)) (ax G rfl) rfl rfl rfl) (ah (al (bn ag) (ax G rfl) rfl rfl rfl) (ah (qe (Ctx.ok G) hh rfl (ax G rfl) (ax G rfl) (dA G T rfl rfl rfl rfl rfl rfl rfl) (aA (i5 hL (ak G rfl rfl) dp (bN (af rfl))) (cS (bn (ad (af rfl) (ad (af rfl) (ad (af rfl) (ad (af rfl) (ad (af rfl) (ad (af rfl) ag rfl) rfl) rfl) rfl) rfl) rfl)) (bN (d5 "len" dH G T rfl rfl rfl rfl rfl (ad (i5 hL (ak G rfl rfl) dp (bN (af rfl))) ag rfl) rfl)) dp)) rfl (ah (al (eI (cz (bc (ay (Ctx.ok G) (aA (ak G rfl rfl) (af rfl)) (af rfl) rfl) (bc (cz (aV (ay (Ctx.ok G) (aA (ak G rfl rfl) (af rfl)) (ak G rfl rfl) rfl) (aV (ay (Ctx.ok G) (aA (aA (ak G rfl rfl) (af rfl)) (af rfl)) (af rfl) rfl) eU))) cn))) (aA (ak G rfl rfl) (af rfl)) (af rfl)) (ax G rfl) rfl rfl rfl) (ar (bj (aU bb (ak G rfl rfl) (ad (dG (ad (ak G rfl rfl) (ad (aA (aA (ak G rfl rfl) (af rfl)) (af rfl)) (ad (aA (aA (ak G rfl rfl) (af rfl)) (af rfl)) (ad (aA (a9 (ak G rfl rfl) (aA (aA (ak G rfl rfl) (af rfl)) (af rfl)) (fun x_ => (fun x__1 => (fun x__2 => rfl)))) (a9 (ak G rfl rfl) (aA (aA (ak G rfl rfl) (af rfl)) (af rfl)) (fun x_ => (fun x__1 => (fun x__2 => rfl))))) (ad (aA (af rfl) (aA (aA (ak G rfl rfl) (af rfl)) (af rfl))) ag rfl) rfl) rfl) rfl) rfl)) ag rfl) rfl rfl rfl rfl) (aF (Ctx.ok G)) rfl))) aD (fun x_ => rfl)) (ar (aZ (ak G rfl rfl))))))
noncomputable def mz : cX := dh 3 (ew 2 []) (aM (an (aa (V.int 0)) (ao 2)) (aM (bS (gA (aB (aW CmpOp.IsNot (bp br (bp br (ai 0) (ai 1)) (aa (V.int 0))) (aa V.none))) (gA (aB (aW CmpOp.Lt (ai 2) (aa (V.int 7)))) (aa true))) (aM (an (bp br (bp br (ai 0) (ai 1)) (aa (V.int 0))) (ao 1)) (xa Operator.Add 2 (aa (V.int 1)))) (aa F.next) 10) (dg (ai 2))))
theorem ve (T : bB (KK w) ac mg mb) : dy prog w ac 1 (.ref 314) av mz := by
 unfold mz
 apply b0 (N := 3) T 314 ["folders", "k"] ["depth"] 2 [] [] av 0
 case h => rfl
 case hd => exact fun ρ => .nil
 case hB =>
  intro s xs _ hl
  obtain ⟨a, b, rfl⟩ := eF hl
  exact BindsTo.of_eq rfl
 all_goals try first | rfl | decide | (intros; rfl)
 intro C G hh
 exact (ah (al (af rfl) (ax G rfl) rfl rfl rfl) (ah (dN (10) (cz (bc (ay (Ctx.ok G) (a9 (a9 (ak G rfl rfl) (ak G rfl rfl) (fun x_ => (fun x__1 => (fun x__2 => rfl)))) (af rfl) (fun x_ => (fun x__1 => (fun x__2 => rfl)))) (af rfl) rfl) (bc (ay (Ctx.ok G) (ak G rfl rfl) (af rfl) rfl) cn))) (ah (al (a9 (a9 (ak G rfl rfl) (ak G rfl rfl) (fun x_ => (fun x__1 => (fun x__2 => rfl)))) (af rfl) (fun x_ => (fun x__1 => (fun x__2 => rfl)))) (ax G rfl) rfl rfl rfl) (ar (xU G rfl (af rfl)))) aD) (ar (aZ (ak G rfl rfl)))))
noncomputable def tC : cX := dh 7 (ew 1 []) (aM (an (aa (V.str "ABCDEFGHIJKLMNOPQRSTUVWXYZabcdefghijklmnopqrstuvwxyz0123456789+/")) (ao 4)) (aM (an (aa (V.str "")) (ao 1)) (aM (hO (aC (aj (aa (V.int 0)) (aj (aC (aj (ai 0) (aa [])) iU) (aj (aa (V.int 3)) (aa [])))) ek) (ao 2) (aM (an (cu (ai 0) (ai 2) (aR Operator.Add (ai 2) (aa (V.int 3)))) (ao 5)) (aM (an (aC (aj (bI 7 (aC (aj (aC (aj (ai 5) (aa [])) iU) (aa [])) ek) (aa true) (aR Operator.Mult (bp br (ai 5) (ai 7)) (aR Operator.Pow (aa (V.int 256)) (aR Operator.Sub (aa (V.int 2)) (ai 7))))) (aa [])) sumF) (ao 6)) (aM (an (a7 bH tL (aa (V.str "")) (aj (bI 7 (aC (aj (aa (V.int 4)) (aa [])) ek) (aa true) (bp br (ai 4) (aR Operator.Mod (aR Operator.FloorDiv (ai 6) (aR Operator.Pow (aa (V.int 64)) (aR Operator.Sub (aa (V.int 3)) (ai 7)))) (aa (V.int 64))))) (aa []))) (ao 3)) (xa Operator.Add 1 (aR Operator.Add (cu (ai 3) (aa V.none) (aR Operator.Add (aC (aj (ai 5) (aa [])) iU) (aa (V.int 1)))) (aR Operator.Mult (aa (V.str "=")) (aR Operator.Sub (aa (V.int 3)) (aC (aj (ai 5) (aa [])) iU)))))))) (aa F.next)) (dg (ai 1)))))
theorem vh (T : bB (KK w) ac mg mb) : dy prog w ac 1 (.ref 302) av tC := by
 unfold tC
 apply nN (N := 7) (cl := (fun f => [("signs", 4, f "signs"), ("three", 5, f "three"), ("whole", 6, f "whole")])) T 302 ["octets"] ["text", "k", "four"] ["signs", "three", "whole"] 1 0
 case h => rfl
 case hB =>
  intro s xs _ hl
  obtain ⟨a, rfl⟩ := cA hl
  exact BindsTo.of_eq rfl
 all_goals try first | rfl | decide | (intros; rfl)
 intro C f G hh
 exact (ah (al (af rfl) (io G rfl rfl) rfl rfl rfl) (ah (al (af rfl) (ax G rfl) rfl rfl rfl) (ah (dZ hh (cH "range" cT G T rfl rfl rfl rfl rfl (ad (af rfl) (ad (d5 "len" dH G T rfl rfl rfl rfl rfl (ad (ak G rfl rfl) ag rfl) rfl) (ad (af rfl) ag rfl) rfl) rfl) rfl) (ax G rfl) (ah (al (cS (ak G rfl rfl) (bN (ak G rfl rfl)) (bN (aA (ak G rfl rfl) (af rfl)))) (io G rfl rfl) rfl rfl rfl) (ah (al (d5 "sum" (uZ hh) G T rfl rfl rfl rfl rfl (ad (fk ([(PySem.Str.ofString "three", 5, f "three")]) G hh rfl rfl rfl rfl (fun x_ => rfl) (cH "range" cT G T rfl rfl rfl rfl rfl (ad (d5 "len" dH G T rfl rfl rfl rfl rfl (ad (eq G rfl rfl rfl) ag rfl) rfl) ag rfl) rfl) rfl rfl rfl rfl (fun C2 => (fun G_1 => (fun hh_1 => (And.intro bU (aA (a9 (eq G_1 rfl rfl rfl) (ak G_1 rfl rfl) (fun x_ => (fun x__1 => (fun x__2 => rfl)))) (aA (af rfl) (aA (af rfl) (ak G_1 rfl rfl))))))))) ag rfl) rfl) (io G rfl rfl) rfl rfl rfl) (ah (al (aU kY (af rfl) (ad (fk ([(PySem.Str.ofString "signs", 4, f "signs"), (PySem.Str.ofString "whole", 6, f "whole")]) G hh rfl rfl rfl rfl (fun x_ => rfl) (cH "range" cT G T rfl rfl rfl rfl rfl (ad (af rfl) ag rfl) rfl) rfl rfl rfl rfl (fun C2 => (fun G_1 => (fun hh_1 => (And.intro bU (a9 (eq G_1 rfl rfl rfl) (aA (aA (eq G_1 rfl rfl rfl) (aA (af rfl) (aA (af rfl) (ak G_1 rfl rfl)))) (af rfl)) (fun x_ => (fun x__1 => (fun x__2 => rfl))))))))) ag rfl) rfl rfl rfl rfl) (ax G rfl) rfl rfl rfl) (ar (xU G rfl (aA (cS (ak G rfl rfl) dp (bN (aA (d5 "len" dH G T rfl rfl rfl rfl rfl (ad (eq G rfl rfl rfl) ag rfl) rfl) (af rfl)))) (aA (af rfl) (aA (af rfl) (d5 "len" dH G T rfl rfl rfl rfl rfl (ad (eq G rfl rfl rfl) ag rfl) rfl))))))))) aD (fun x_ => (fun x__1 => rfl)) (fun x_ => rfl)) (ar (aZ (ak G rfl rfl))))))
noncomputable def jM : cX := dh 11 (ew 2 []) (aM (an (ai 0) (pI [ao 2, ao 3, ao 4, ao 5, ao 6])) (aM (an (aC (aj (ai 0) (aj (ai 1) (aa []))) (bQ mA)) (pI [ao 7, ao 8])) (aM (an (bI 11 (ai 5) (aa true) (aC (aj (ai 11) (aa [])) xZ)) (ao 9)) (aM (zE (gA (aB (aW CmpOp.Eq (ai 3) (aa (V.int 0)))) (gA (aB (aW CmpOp.NotEq (bu (aj (bp br (a7 bH ia (ai 7) (aj (aa (V.str " ")) (aa []))) fun σ => (aa (V.int 1) σ).bind tv) (aj (aC (aj (aC (aj (bp br (a7 bH ia (ai 7) (aj (aa (V.str " ")) (aa []))) fun σ => (aa (V.int 1) σ).bind tv) (aa [])) (bQ tD)) (aa [])) qW) (aa [])))) (bu (aj (aC (aj (ai 9) (aa [])) (bQ tC)) (aj (ai 9) (aa [])))))) (aa true))) (dg (aa (V.bool false))) (aa F.next)) (aM (an (bu (aj (bp br (bu (aj (ai 5) (aj (ai 5) (aj (aa (V.str "")) (aj (hY (aj (aa (V.str "other code")) (aj (ai 7) (aa [])))) (aa [])))))) (ai 3)) (aj (hY (aj (aR Operator.Add (aa (V.str "10.0.0.")) (aC (aj (ai 1) (aa [])) nt)) (aj (ai 6) (aa [])))) (aa [])))) (ao 10)) (aM (zE (aB (aW CmpOp.Gt (ai 4) (aa (V.int 0)))) (an (hY (aj (zE (aB (aW CmpOp.Eq (ai 4) (aa (V.int 5)))) (aa (V.str "other code")) (aa (V.str "no port"))) (aj (ai 8) (aa [])))) (pR (ai 10) (aa (V.int 1)))) (aa F.next)) (dg (aW CmpOp.Eq (bu (aj (aC (aj (ai 7) (aj (aa V.none) (aa []))) (bQ fc)) (aj (aC (aj (ai 8) (aj (hY (aj (aR Operator.Add (aa (V.str "10.0.0.")) (aC (aj (ai 1) (aa [])) nt)) (aj (aa (V.int 21)) (aa [])))) (aa []))) (bQ fc)) (aa [])))) (ai 10)))))))))
theorem vg (T : bB (KK w) ac mg mb) : dy prog w ac 5 (.ref 307) av jM := by
 unfold jM
 apply b0 (N := 11) T 307 ["folder", "k"] ["above", "first", "second", "name", "port", "made", "opened", "octets", "told"] 2 [] [] av 4
 case h => rfl
 case hd => exact fun ρ => .nil
 case hB =>
  intro s xs _ hl
  obtain ⟨a, b, rfl⟩ := eF hl
  exact BindsTo.of_eq rfl
 all_goals try first | rfl | decide | (intros; rfl)
 intro C G hh
 exact (ah (al (ak G rfl rfl) (sX hh rfl (cx (ax G rfl) (cx (ax G rfl) (cx (ax G rfl) (cx (ax G rfl) (cx (ax G rfl) nn)))))) rfl rfl rfl) (ah (al (dc "_law_replies" (vi T) G T hh rfl rfl rfl rfl rfl (ad (ak G rfl rfl) (ad (ak G rfl rfl) ag rfl) rfl) rfl) (sX hh rfl (cx (ax G rfl) (cx (ax G rfl) nn))) rfl rfl rfl) (ah (kQ ([]) G hh rfl rfl (nq rfl rfl) rfl rfl rfl rfl (fun x_ => rfl) (ak G rfl rfl) rfl rfl rfl rfl (fun C2 => (fun G_1 => (fun hh_1 => (And.intro bU (d5 "ord" p8 G_1 T rfl rfl rfl rfl rfl (ad (ak G_1 rfl rfl) ag rfl) rfl)))))) (ah (aQ (cz (bc (ay (Ctx.ok G) (ak G rfl rfl) (af rfl) rfl) (bc (ay (Ctx.ok G) (bn (ad (a9 (aU gn (ak G rfl rfl) (ad (af rfl) ag rfl) rfl rfl rfl rfl) (lX (af rfl)) (fun x_ => (fun x__1 => (fun x__2 => rfl)))) (ad (cH "list" (qc hh) G T rfl rfl rfl rfl rfl (ad (dc "b64decode" (vz T) G T hh rfl rfl rfl rfl rfl (ad (a9 (aU gn (ak G rfl rfl) (ad (af rfl) ag rfl) rfl rfl rfl rfl) (lX (af rfl)) (fun x_ => (fun x__1 => (fun x__2 => rfl)))) ag rfl) rfl) ag rfl) rfl) ag rfl) rfl)) (bn (ad (dc "_law_bits" (vh T) G T hh rfl rfl rfl rfl rfl (ad (ak G rfl rfl) ag rfl) rfl) (ad (ak G rfl rfl) ag rfl) rfl)) rfl) cn))) (ar (aZ (af rfl))) aD) (ah (al (bn (ad (a9 (bn (ad (ak G rfl rfl) (ad (ak G rfl rfl) (ad (af rfl) (ad (dG (ad (af rfl) (ad (ak G rfl rfl) ag rfl) rfl)) ag rfl) rfl) rfl) rfl)) (ak G rfl rfl) (fun x_ => (fun x__1 => (fun x__2 => rfl)))) (ad (dG (ad (aA (af rfl) (cH "str" gg G T rfl rfl rfl rfl rfl (ad (ak G rfl rfl) ag rfl) rfl)) (ad (ak G rfl rfl) ag rfl) rfl)) ag rfl) rfl)) (ax G rfl) rfl rfl rfl) (ah (aQ (ay (Ctx.ok G) (ak G rfl rfl) (af rfl) rfl) (ar (al (dG (ad (eI (ay (Ctx.ok G) (ak G rfl rfl) (af rfl) rfl) (af rfl) (af rfl)) (ad (ak G rfl rfl) ag rfl) rfl)) (jB (ak G rfl rfl) (af rfl)) rfl rfl rfl)) aD) (ar (aZ (jA (Ctx.ok G) (bn (ad (dc "_law_asked" (qm T) G T hh rfl rfl rfl rfl rfl (ad (ak G rfl rfl) (ad (af rfl) ag rfl) rfl) rfl) (ad (dc "_law_asked" (qm T) G T hh rfl rfl rfl rfl rfl (ad (ak G rfl rfl) (ad (dG (ad (aA (af rfl) (cH "str" gg G T rfl rfl rfl rfl rfl (ad (ak G rfl rfl) ag rfl) rfl)) (ad (af rfl) ag rfl) rfl)) ag rfl) rfl) rfl) ag rfl) rfl)) (ak G rfl rfl) rfl)))))))))
noncomputable def wb (z : Addr) (zs : List V) : cX := dh 6 (ew 1 []) (aM (an (aC (aj (ai 0) (aa [])) (bJ (pb z zs))) (ao 4)) (aM (an (aC (aj (ai 4) (aa [])) (mX o9)) (pI [ao 1, ao 2])) (aM (an (bI 6 (aC (aj (aa (V.int 6)) (aa [])) ek) (aa true) (aC (aj (ai 4) (aj (ai 6) (aa []))) (bJ mz))) (ao 5)) (aM (an (bI 6 (aC (aj (aa (V.int 6)) (aa [])) ek) (aa true) (bI 7 (aC (aj (aa (V.int 6)) (aa [])) ek) (aB (aW CmpOp.Eq (bp br (ai 5) (ai 7)) (ai 6))) (ai 7))) (ao 3)) (aM (zE (zu (aB (aW CmpOp.NotEq (ai 1) (aW CmpOp.Eq (aC (aj (ai 5) (aa [])) tB) (aa (V.int 7))))) (zu (aB (aW CmpOp.NotEq (ai 2) (bI 6 (ai 3) (aB (aW CmpOp.NotEq (ai 6) (bu (aa [])))) (ai 6)))) (aa false))) (dg (aa (V.bool false))) (aa F.next)) (dg (aW CmpOp.Eq (bI 6 (aC (aj (aa (V.int 6)) (aa [])) ek) (uu (aB (aC (aj (bp br (ai 4) (ai 6)) (aj (ai 6) (aa []))) (bQ jM)))) (ai 6)) (bu (aa [])))))))))
theorem u9 (T : bB (KK w) ac mg mb) {z : Addr} {zs : List V} (hL : nh ac z zs) : dy prog w ac 6 (.ref 319) av (wb z zs) := by
 unfold wb
 apply nN (N := 6) (cl := (fun f => [("folders", 4, f "folders"), ("depths", 5, f "depths")])) T 319 ["script"] ["ring", "rounds", "told"] ["folders", "depths"] 1 5
 case h => rfl
 case hB =>
  intro s xs _ hl
  obtain ⟨a, rfl⟩ := cA hl
  exact BindsTo.of_eq rfl
 all_goals try first | rfl | decide | (intros; rfl)
 intro C f G hh
 exact (ah (al (sY "_law_folders" (vl T hL) G T hh rfl rfl rfl rfl rfl (ad (ak G rfl rfl) ag rfl) rfl) (io G rfl rfl) rfl rfl rfl) (ah (al (xR "_law_rounds" (vj T) G T hh rfl rfl rfl rfl rfl (ad (eq G rfl rfl rfl) ag rfl) rfl) (sX hh rfl (cx (ax G rfl) (cx (ax G rfl) nn))) rfl rfl rfl) (ah (al (fk ([(PySem.Str.ofString "folders", 4, f "folders")]) G hh rfl rfl rfl rfl (fun x_ => rfl) (cH "range" cT G T rfl rfl rfl rfl rfl (ad (af rfl) ag rfl) rfl) rfl rfl rfl rfl (fun C2 => (fun G_1 => (fun hh_1 => (And.intro bU (sY "_law_depth" (ve T) G_1 T hh_1 rfl rfl rfl rfl rfl (ad (eq G_1 rfl rfl rfl) (ad (ak G_1 rfl rfl) ag rfl) rfl) rfl)))))) (io G rfl rfl) (qP G rfl) rfl rfl) (ah (jI ([(PySem.Str.ofString "depths", 5, f "depths")]) G hh rfl rfl (nq rfl rfl) rfl rfl rfl rfl (fun x_ => rfl) (cH "range" cT G T rfl rfl rfl rfl rfl (ad (af rfl) ag rfl) rfl) rfl rfl (fun x_ => (fun x__1 => rfl)) (fun x_ => rfl) rfl (fun C2 => (fun L => (fun G_1 => (fun hh_1 => (And.intro bU (fk ([(PySem.Str.ofString "depth", 6, L), (PySem.Str.ofString "depths", 5, f "depths")]) G_1 hh_1 rfl rfl rfl rfl (fun x_ => rfl) (cH "range" cT G_1 T rfl rfl rfl rfl rfl (ad (af rfl) ag rfl) rfl) rfl rfl rfl rfl (fun C2_1 => (fun G_2 => (fun hh_2 => (And.intro (cy (ay (Ctx.ok G_2) (a9 (eq G_2 rfl rfl rfl) (ak G_2 rfl rfl) (fun x_ => (fun x__1 => (fun x__2 => rfl)))) (eq G_2 rfl rfl rfl) rfl)) (ak G_2 rfl rfl)))))))))))) (ah (aQ (cz (aV (ay (Ctx.ok G) (ak G rfl rfl) (jA (Ctx.ok G) (d5 "max" (qb hh) G T rfl rfl rfl rfl rfl (ad (eq G rfl rfl rfl) ag rfl) rfl) (af rfl) rfl) rfl) (aV (ay (Ctx.ok G) (ak G rfl rfl) (fk ([]) G hh rfl rfl rfl rfl (fun x_ => rfl) (ak G rfl rfl) rfl rfl rfl rfl (fun C2 => (fun G_1 => (fun hh_1 => (And.intro (cy (ay (Ctx.ok G_1) (ak G_1 rfl rfl) (bn ag) rfl)) (ak G_1 rfl rfl)))))) rfl) eU))) (ar (aZ (af rfl))) aD) (ar (aZ (jA (Ctx.ok G) (fk ([(PySem.Str.ofString "folders", 4, f "folders")]) G hh rfl rfl rfl rfl (fun x_ => rfl) (cH "range" cT G T rfl rfl rfl rfl rfl (ad (af rfl) ag rfl) rfl) rfl rfl rfl rfl (fun C2 => (fun G_1 => (fun hh_1 => (And.intro (cy (lW (cb (dc "_law_holds" (vg T) G_1 T hh_1 rfl rfl rfl rfl rfl (ad (a9 (eq G_1 rfl rfl rfl) (ak G_1 rfl rfl) (fun x_ => (fun x__1 => (fun x__2 => rfl)))) (ad (ak G_1 rfl rfl) ag rfl) rfl) rfl) rfl))) (ak G_1 rfl rfl)))))) (bn ag) rfl))))))))
end
section
open Builtin Builtin.Str
section
variable {β γ : Type}
@[simp] theorem gc_k (a : V) (as : List V) (k : V → List V → zZ β) : gc (a :: as) k = k a as := rfl
@[simp] theorem yY (k : zZ β) : g0 [] k = k := rfl
@[simp] theorem w8 (a : V) (k : V → zZ β) : g1 [a] k = k a := rfl
@[simp] theorem g2_k (a b : V) (k : V → V → zZ β) : g2 [a, b] k = k a b := rfl
@[simp] theorem zb (x : γ) (k : γ → zZ β) : gO (some x) k = k x := rfl
@[simp] theorem gI_k (i : Int) (k : Int → zZ β) : gI (.int i) k = k i := rfl
@[simp] theorem gS_k (i : Str) (k : Str → zZ β) : gS (.str i) k = k i := rfl
@[simp] theorem gB_k (i : Bool) (k : Bool → zZ β) : gB (.bool i) k = k i := rfl
@[simp] theorem gY_k (i : Array UInt8) (k : Array UInt8 → zZ β) : gY (.bytes i) k = k i := rfl
@[simp] theorem gT_k (i : String) (k : String → zZ β) : gT (.type i) k = k i := rfl
@[simp] theorem gh_k (l : Nat) (H : List O) (k : Nat → O → zZ β) : gh (.ref l) H k = gO H[l]? (k l) := rfl
@[simp] theorem gl_k (l : Nat) (H : List O) (k : Nat → List V → zZ β) : gl (.ref l) H k = gO H[l]? fun o => gO (zN o) (k l) := rfl
@[simp] theorem gt_k (l : Nat) (H : List O) (k : Nat → List V → zZ β) : gt (.ref l) H k = gO H[l]? fun o => gO (zK o) (k l) := rfl
@[simp] theorem gd_k (l : Nat) (H : List O) (k : Nat → List (Int × V) → Nat → zZ β) : gd (.ref l) H k = gO H[l]? fun o => gO (zQ o) fun p => k l p.1 p.2 := rfl
@[simp] theorem ge_k (l : Nat) (H : List O) (k : Nat → List Int → zZ β) : ge (.ref l) H k = gO H[l]? fun o => gO (zP o) (k l) := rfl
theorem iV {l : Nat} {xs : List V} {H : List O} {k : Nat → List V → zZ β} (h : H[l]? = some (.list xs)) : gl (.ref l) H k = k l xs := by rw [gl_k, h]; rfl
theorem wq {l : Nat} {xs : List V} {H : List O} {k : Nat → List V → zZ β} (h : H[l]? = some (.tup xs)) : gt (.ref l) H k = k l xs := by rw [gt_k, h]; rfl
theorem wt {l ep : Nat} {es : List (Int × V)} {H : List O} {k : Nat → List (Int × V) → Nat → zZ β} (h : H[l]? = some (.dict es ep)) : gd (.ref l) H k = k l es ep := by rw [gd_k, h]; rfl
theorem yn {l : Nat} {xs : List Int} {H : List O} {k : Nat → List Int → zZ β} (h : H[l]? = some (.set xs)) : ge (.ref l) H k = k l xs := by rw [ge_k, h]; rfl
theorem yi {l : Nat} {xs : List V} {H : List O} (h : H[l]? = some (.list xs)) : aO (.ref l) H = true := (dQ h).trans rfl
theorem yj {l ep : Nat} {es : List (Int × V)} {H : List O} (h : H[l]? = some (.dict es ep)) : bP (.ref l) H = true := (dQ h).trans rfl
theorem uy {l : Nat} {xs : List Int} {H : List O} (h : H[l]? = some (.set xs)) : eu (.ref l) H = true := (dQ h).trans rfl
theorem tN {l ep : Nat} {es : List (Int × V)} {H : List O} (h : H[l]? = some (.dict es ep)) : eu (.ref l) H = false := (dQ h).trans rfl
theorem wo {l : Nat} {xs : List V} {H : List O} (h : H[l]? = some (.tup xs)) : aO (.ref l) H = false := (dQ h).trans rfl
theorem mP {o : Option γ} {x : γ} {k : γ → zZ β} (h : o = some x) : gO o k = k x := by subst h; rfl
@[simp] theorem asL_k (xs : List V) : zN (.list xs) = some xs := rfl
@[simp] theorem asU_k (xs : List V) : zK (.tup xs) = some xs := rfl
@[simp] theorem asD_k (es : List (Int × V)) (n : Nat) : zQ (.dict es n) = some (es, n) := rfl
@[simp] theorem asE_k (xs : List Int) : zP (.set xs) = some xs := rfl
@[simp] theorem asX_k (c n : Nat) : asX (.exc (.top c) n) = some (c, n) := rfl
@[simp] theorem asN_k (c d : Nat) (sl : List (Option V)) : asN (.inst c d sl) = some (c, d, sl) := rfl
@[simp] theorem asF_k (fs : List (Str × V)) : asF (.idict fs) = some fs := rfl
@[simp] theorem asW_k (l i : Nat) : asW (.liter l i) = some (l, i) := rfl
@[simp] theorem asM_k (l : Nat) : asM (.mnext l) = some l := rfl
@[simp] theorem iiB_k (f : Int → Int → zZ V) (a b : Int) : zD f (.int a) (.int b) = f a b := rfl
@[simp] theorem isO_k {X : Type} (f : O → Option X) (l : Nat) (H : List O) : zC f (.ref l) H = H[l]?.any fun o => (f o).isSome := rfl
@[simp] theorem isListV_k (l : Nat) (H : List O) : aO (.ref l) H = H[l]?.any fun o => (zN o).isSome := rfl
@[simp] theorem isDictV_k (l : Nat) (H : List O) : bP (.ref l) H = H[l]?.any fun o => (zQ o).isSome := rfl
@[simp] theorem isSetV_k (l : Nat) (H : List O) : eu (.ref l) H = H[l]?.any fun o => (zP o).isSome := rfl
@[simp] theorem asS_k (x : Str) : zL (.str x) = some x := rfl
@[simp] theorem asI_k (x : Int) : zO (.int x) = some x := rfl
@[simp] theorem asR_k (x : Nat) : zM (.ref x) = some x := rfl
end
section
variable {c d l i : Nat} {sl : List (Option V)} {fs : List (Str × V)} {x : Str} {y u : V} {σ : St} {xs : List V}
theorem jQ (h : σ.heap[l]? = some (.inst c d sl)) (h2 : σ.heap[d]? = some (.idict fs)) (h3 : nY fs x = some y) (ho : okV y = true) : getD c x (.ref l) σ = .ok y σ := (tT h h2).trans ((mP h3).trans (if_pos ⟨rfl, ho⟩))
theorem mO (h : σ.heap[l]? = some (.inst c d sl)) (h2 : σ.heap[d]? = some (.idict fs)) (h3 : slotAt sl i = some y) (ho : okV y = true) : eM c i (.ref l) σ = .ok y σ := (tT h h2).trans ((mP h3).trans (if_pos ⟨rfl, ho⟩))
theorem jG (h : σ.heap[l]? = some (.inst c d sl)) (h2 : σ.heap[d]? = some (.idict fs)) (h3 : fs.length ≤ 900) : iR c x (.ref l) u σ = .ok () { σ with heap := σ.heap.set d (.idict (lN fs x u)) } := (tT h h2).trans (if_pos ⟨rfl, h3⟩)
theorem jE (h : σ.heap[l]? = some (.inst c d sl)) (h2 : σ.heap[d]? = some (.idict fs)) : fE c i (.ref l) u σ = .ok () { σ with heap := σ.heap.set l (.inst c d (oH sl i u)) } := (tT h h2).trans (if_pos rfl)
theorem rb {H : List O} (h : H[l]? = some (.inst c d sl)) (h2 : H[d]? = some (.idict fs)) (h3 : (nY fs x).isNone = true) : bO c x (.ref l) H = true := by
 show H[l]?.any _ = true
 rw [h]; show H[d]?.any _ = true
 rw [h2]; show (decide (c = c) && _) = true
 rw [h3, decide_eq_true rfl]; rfl
theorem qX (h : σ.heap[l]? = some (.tup xs)) : iU [.ref l] σ = if (xs.length : Int) < 2 ^ 63 then .ok (.int xs.length) σ else .bad := by
 show cond (aO _ _) _ (gt _ _ _) = _
 rw [wo h]; exact wq h
theorem r7 (h : σ.heap[l]? = some (.list xs)) : bT (.ref l) σ = if xs.length ≤ sizeLine then .ok (!xs.isEmpty) σ else .bad := by
 unfold bT; dsimp only; rw [h]
theorem nv {o : O} (h : σ.heap[l]? = some o) (h2 : (zN o).or (zK o) = some xs) : km (.ref l) σ = if xs.length ≤ sizeLine then .ok xs σ else .bad := (iF h).trans (mP h2)
end
theorem lj {m : Nat} : (1000 ≤ m → m < 10000 → (Nat.toDigits 10 m).length = 4) ∧ (10000 ≤ m → m < 100000 → (Nat.toDigits 10 m).length = 5) := by
 have step : ∀ m, 10 ≤ m → (Nat.toDigits 10 m).length = (Nat.toDigits 10 (m / 10)).length + 1 := fun m h => by
  have hm : m % 10 < 10 := Nat.mod_lt m (by decide)
  have t : Nat.toDigits 10 (m / 10) ++ Nat.toDigits 10 (m % 10) = Nat.toDigits 10 (10 * (m / 10) + m % 10) := Nat.toDigits_append_toDigits (by decide) (by lia) hm
  rw [Nat.div_add_mod] at t
  rw [← t, List.length_append, Nat.toDigits_of_lt_base hm]; rfl
 have one : ∀ m, m < 10 → (Nat.toDigits 10 m).length = 1 := fun m h => by rw [Nat.toDigits_of_lt_base h]; rfl
 refine ⟨fun h1 h2 => ?_, fun h1 h2 => ?_⟩
 ·rw [step m (by lia), step (m / 10) (by lia), step (m / 10 / 10) (by lia), one _ (by lia)]
 ·rw [step m (by lia), step (m / 10) (by lia), step (m / 10 / 10) (by lia), step (m / 10 / 10 / 10) (by lia), one _ (by lia)]
theorem qG {p : Int} (h1 : 1024 ≤ p) (h2 : p < 61024) : ∃ ds : List Nat, PySem.Str.ofString (toString p) = ⟨ds.toArray⟩ ∧ (∀ c ∈ ds, 48 ≤ c ∧ c ≤ 57) ∧ (ds.length = 4 ∨ ds.length = 5) ∧ PySem.intText? ⟨ds.toArray⟩ = some p := by
 have hr := KIN.num_reads (n := p) (by lia) (by lia)
 obtain ⟨m, rfl⟩ := Int.eq_ofNat_of_zero_le (show 0 ≤ p by lia)
 have hs := KIN.signs_num m
 refine ⟨(Nat.toDigits 10 m).map Char.toNat, ?_, fun c hc => ?_, ?_, ?_⟩
 ·rw [← hs]
 ·obtain ⟨ch, hch, e⟩ := List.mem_map.mp hc
  have r := digit_range (Nat.isDigit_of_mem_toDigits (by decide) (by decide) hch)
  rw [← e]
  exact r
 ·rw [List.length_map]
  have := lj (m := m)
  by_cases h : m < 10000
  ·exact .inl (this.1 (by lia) h)
  ·exact .inr (this.2 (by lia) (by lia))
 ·rw [← hs]; exact hr
theorem pW {p : Int} (h1 : 1024 ≤ p) (h2 : p < 61024) (σ : St) : nt [.int p] σ = .ok (.str (PySem.Str.ofString (toString p))) σ := by
 show (if p.natAbs.log2 < 1920 then _ else _) = _
 rw [if_pos ?_]
 have : p.natAbs < 2 ^ 16 := by lia
 have h3 : p.natAbs.log2 < 16 := by
  rw [Nat.log2_lt (by lia)]; exact this
 lia
theorem pQ {x : PySem.Str} {c i : Nat} : subAt x ⟨#[c]⟩ i = decide (x.cps[i]? = some c) := by
 unfold subAt
 show (x.cps.extract i (i + 1) == #[c]) = _
 by_cases h : x.cps[i]? = some c
 ·obtain ⟨hi, e⟩ := Array.getElem?_eq_some_iff.mp h
  simp only [h, decide_true, beq_iff_eq]
  refine Array.ext (by simp; lia) fun j h1 h2 => ?_
  have : j = 0 := by simp at h2; lia
  subst this
  simp [e]
 ·simp only [h, decide_false, beq_eq_false_iff_ne]
  intro q
  apply h
  have hs : (x.cps.extract i (i + 1)).size = 1 := by rw [q]; rfl
  simp at hs
  rw [Array.getElem?_eq_getElem (by lia)]
  have : (x.cps.extract i (i + 1))[0]? = some c := by rw [q]; rfl
  rw [Array.getElem?_eq_getElem (by rw [Array.size_extract]; lia)] at this
  simpa using this
theorem jK {x x' : PySem.Str} {c : Nat} (hc : ∀ i : Nat, x.cps[i]? = some c ↔ x'.cps[i]? = some c) {lo hi lim : Nat} : occurrences x ⟨#[c]⟩ lo hi lim = occurrences x' ⟨#[c]⟩ lo hi lim := by
 have e : ∀ i, subAt x ⟨#[c]⟩ i = subAt x' ⟨#[c]⟩ i := fun i => by rw [pQ, pQ]; exact decide_eq_decide.mpr (hc i)
 unfold occurrences
 simp only [e]
theorem rp {x x' : PySem.Str} {c : Nat} (hl : x.length = x'.length) (hc : ∀ i : Nat, x.cps[i]? = some c ↔ x'.cps[i]? = some c) : Txt.find x ⟨#[c]⟩ = Txt.find x' ⟨#[c]⟩ := by
 unfold Txt.find; rw [jK hc, hl]
theorem pi {x x' : PySem.Str} {c : Nat} {i : Int} (hl : x.length = x'.length) (hc : ∀ i : Nat, x.cps[i]? = some c ↔ x'.cps[i]? = some c) : Txt.find3 x ⟨#[c]⟩ i = Txt.find3 x' ⟨#[c]⟩ i := by
 unfold Txt.find3; rw [jK hc, hl]
theorem oF {x x' : PySem.Str} {c : Nat} (h256 : c < 256) (hl : x.length = x'.length) (h1 : 1 ≤ x.length) (hc : ∀ i : Nat, x.cps[i]? = some c ↔ x'.cps[i]? = some c) :
  Txt.split x ⟨#[c]⟩ = if (occurrences x' ⟨#[c]⟩ 0 x'.length (x'.length + 1)).isEmpty = true then [x] else partsBetween x (occurrences x' ⟨#[c]⟩ 0 x'.length (x'.length + 1)) 1 := by
 unfold Txt.split
 have k1 : Builtin.Str.strKind ⟨#[c]⟩ = 1 := by simp [Builtin.Str.strKind, h256]
 have k2 : ∀ y, 1 ≤ Builtin.Str.strKind y := fun y => by unfold Builtin.Str.strKind; split <;> (try split) <;> decide
 have := k2 x
 rw [if_neg (by rw [k1]; simp only [Bool.or_eq_true, decide_eq_true_eq]; show ¬ (x.length < 1 ∨ Builtin.Str.strKind x < 1); lia), jK hc, hl]
 rfl
theorem l9 {pre ds es post : List Nat} {c : Nat} (hl : ds.length = es.length) (hd : c ∉ ds) (he : c ∉ es) (i : Nat) : (⟨(pre ++ ds ++ post).toArray⟩ : PySem.Str).cps[i]? = some c ↔ (⟨(pre ++ es ++ post).toArray⟩ : PySem.Str).cps[i]? = some c := by
 simp only [List.getElem?_toArray]
 by_cases h1 : i < pre.length
 ·rw [List.append_assoc, List.append_assoc, List.getElem?_append_left h1, List.getElem?_append_left h1]
 ·by_cases h2 : i < pre.length + ds.length
  ·rw [List.getElem?_append_left (l₁ := pre ++ ds) (by rw [List.length_append]; lia), List.getElem?_append_left (l₁ := pre ++ es) (by rw [List.length_append]; lia), List.getElem?_append_right (l₁ := pre) (by lia), List.getElem?_append_right (l₁ := pre) (by lia)]
   exact ⟨fun h => absurd (List.mem_of_getElem? h) hd, fun h => absurd (List.mem_of_getElem? h) he⟩
  ·rw [List.getElem?_append_right (l₁ := pre ++ ds) (by rw [List.length_append]; lia), List.getElem?_append_right (l₁ := pre ++ es) (by rw [List.length_append]; lia)]
   simp only [List.length_append, hl]
end
noncomputable abbrev P1 (c : Nat) : PySem.Str := ⟨#[c]⟩
theorem lh : Str.ofString "(" = P1 40 := by decide +kernel
theorem nQ : Str.ofString ")" = P1 41 := by decide +kernel
theorem i7 (a : PySem.Str) (h : PyData.strOk a = true) : SeqAt.shaped (.str a) = true := by simp [SeqAt.shaped, PyData.canLay0, PyData.depth, h]
theorem wv (a b : PySem.Str) : PyData.eqv (.str a) (.str b) = (a == b) := by first | rfl | simp [PyData.eqv]
theorem ne_str (a b : PySem.Str) (σ : St) (h : PyData.strOk a = true) (h' : PyData.strOk b = true) : j4 .NotEq (.str a) (.str b) σ = .ok (.bool (!(a == b))) σ := by
 show mZ σ ((zH σ.heap (.str a) (.str b)).map (!·)) = _
 have : zH σ.heap (.str a) (.str b) = some (a == b) := by
  unfold zH
  show (if (SeqAt.shaped (.str a) && SeqAt.shaped (.str b)) = true then some (PyData.eqv (.str a) (.str b)) else none) = _
  rw [i7 _ h, i7 _ h', wv]; rfl
 rw [this]; rfl
theorem lt_int (a b : Int) (σ : St) : j4 .Lt (.int a) (.int b) σ = .ok (.bool (decide (a < b))) σ := rfl
theorem ne_int (a b : Int) (σ : St) : j4 .NotEq (.int a) (.int b) σ = .ok (.bool (!(a == b))) σ := rfl
theorem je : PyData.strOk "229" = true := by decide +kernel
theorem ny {x y : PySem.Str} {ps : List PySem.Str} (hl : y.length = 1) (hx : x.length ≤ 1000) (hs : Txt.split x y = ps) (σ : St) : ia (.str x) [.str y] σ = .ok (.ref σ.heap.length) { σ with heap := σ.heap ++ [.list (ps.map .str)] } := by
 show (if y.length ≠ 0 ∧ x.length ≤ 1000 then _ else _) = _
 rw [if_pos ⟨by lia, hx⟩, hs]
theorem len_list {l : Nat} {xs : List V} {σ : St} (h : σ.heap[l]? = some (.list xs)) : iU [.ref l] σ = if (xs.length : Int) < 2 ^ 63 then .ok (.int xs.length) σ else .bad := by
 show cond (zC zN _ _) (gl _ _ _) _ = _
 rw [dQ h]; exact iV h
theorem nT {l : Nat} {xs : List V} {n : Int} {σ : St} (h : σ.heap[l]? = some (.list xs)) (hl : xs.length < 1000) (hn : n = xs.length) : iU [.ref l] σ = .ok (.int n) σ := by
 rw [len_list h, if_pos (by lia), hn]
theorem item_at {l k : Nat} {xs : List V} {v : V} {σ : St} (h : σ.heap[l]? = some (.list xs)) (hk : k < 1000) (hv : xs[k]? = some v) : br (.ref l) (.int (k : Int)) σ = .ok v σ := by
 rw [kh h, decide_eq_true (by lia), cond_true, if_pos (by lia), show ((k : Int).toNat) = k by lia, hv]
 rfl
theorem nk {l k : Nat} {xs : List V} {v : V} {σ : St} (h : σ.heap[l]? = some (.tup xs)) (hk : k < 1000) (hv : xs[k]? = some v) : br (.ref l) (.int (k : Int)) σ = .ok v σ := by
 have hlt := (List.getElem?_eq_some_iff.mp hv).1
 have e : seqIndex? (k : Int) xs.length = some k := by
  unfold seqIndex?
  simp
  lia
 rw [r8 h, if_pos (by lia), e, Option.bind_some, hv]
 rfl
theorem dm {x y host : PySem.Str} (h3 : ∀ σ, eG (.str x) .none (.int 3) σ = .ok (.str y) σ) (hne : (y == Str.ofString "229") = false) (hy : PyData.strOk y = true) :
  iB [.str x, .ref 0] [.tup [.str host, .int 21]] = .exc (.top 44) [.str x] ⟨[some (.str x), some (.ref 0), none, none, none, none, none], [.tup [.str host, .int 21]]⟩ := by
 simp [iB, dh, ew, dI, aM, zE, aB, aW, bp, cu, ai, aa, ne_str, je, hy, h3, hne, bT, cJ, aj, sizeLine]
theorem dk {x host : PySem.Str} (h3 : ∀ σ, eG (.str x) .none (.int 3) σ = .ok (.str "229") σ) (hf : Txt.find x (P1 40) = -1) :
  iB [.str x, .ref 0] [.tup [.str host, .int 21]] = .exc (.top 56) [.str x] ⟨[some (.str x), some (.ref 0), some (.int (-1)), none, none, none, none], [.tup [.str host, .int 21]]⟩ := by
 simp [iB, dh, ew, dI, aM, zE, aB, aW, bp, cu, ai, aa, ne_str, je, lt_int, ne_int, h3, bT, cJ, aj, sizeLine, an, a7, bH, lw, lh, hf, ao]
theorem dj {x host : PySem.Str} (h3 : ∀ σ, eG (.str x) .none (.int 3) σ = .ok (.str "229") σ) (hf : Txt.find x (P1 40) = 7) (hr : Txt.find3 x (P1 41) 8 = -1) :
  iB [.str x, .ref 0] [.tup [.str host, .int 21]] = .exc (.top 56) [.str x] ⟨[some (.str x), some (.ref 0), some (.int 7), some (.int (-1)), none, none, none], [.tup [.str host, .int 21]]⟩ := by
 simp [iB, dh, ew, dI, aM, zE, aB, aW, aR, bp, cu, ai, aa, ne_str, je, lt_int, ne_int, h3, bT, cJ, aj, sizeLine, an, a7, bH, lw, lh, nQ, hf, hr, ao, zv, wO, zD]
theorem cL {x host : PySem.Str} {r : Int} {a b : PySem.Str} (h3 : ∀ σ, eG (.str x) .none (.int 3) σ = .ok (.str "229") σ) (hf : Txt.find x (P1 40) = 7) (hr : Txt.find3 x (P1 41) 8 = r) (hr0 : 0 ≤ r)
  (ha : ∀ σ, br (.str x) (.int 8) σ = .ok (.str a) σ) (hb : ∀ σ, br (.str x) (.int (r - 1)) σ = .ok (.str b) σ) (hab : (a == b) = false) (oa : PyData.strOk a = true) (ob : PyData.strOk b = true) :
  iB [.str x, .ref 0] [.tup [.str host, .int 21]] = .exc (.top 56) [.str x] ⟨[some (.str x), some (.ref 0), some (.int 7), some (.int r), none, none, none], [.tup [.str host, .int 21]]⟩ := by
 have hn : ¬ r < 0 := by lia
 simp [iB, dh, ew, dI, aM, zE, aB, aW, aR, bp, cu, ai, aa, ne_str, je, lt_int, ne_int, h3, bT, cJ, aj, sizeLine, an, a7, bH, lw, lh, nQ, hf, hr, ao, zv, wO, zD, hn, ha, hb, hab, oa, ob]
theorem cK {x host : PySem.Str} {r : Int} {a mid : PySem.Str} {p0 p1 p2 p3 : PySem.Str} (h3 : ∀ σ, eG (.str x) .none (.int 3) σ = .ok (.str "229") σ) (hf : Txt.find x (P1 40) = 7) (hr : Txt.find3 x (P1 41) 8 = r) (hr0 : 0 ≤ r)
  (ha : ∀ σ, br (.str x) (.int 8) σ = .ok (.str a) σ) (hb : ∀ σ, br (.str x) (.int (r - 1)) σ = .ok (.str a) σ) (hm : ∀ σ, eG (.str x) (.int 8) (.int r) σ = .ok (.str mid) σ)
  (oa : PyData.strOk a = true) (hl : a.length = 1) (hml : mid.length ≤ 1000) (hs : Txt.split mid a = [p0, p1, p2, p3]) :
  iB [.str x, .ref 0] [.tup [.str host, .int 21]] = .exc (.top 56) [.str x] ⟨[some (.str x), some (.ref 0), some (.int 7), some (.int r), some (.ref 1), none, none], [.tup [.str host, .int 21], .list [.str p0, .str p1, .str p2, .str p3]]⟩ := by
 have hn : ¬ r < 0 := by lia
 have hsp := ny hl hml hs
 have hle := nT (l := 1) (xs := [V.str p0, .str p1, .str p2, .str p3]) (n := 4) (σ := ⟨[some (.str x), some (.ref 0), some (.int 7), some (.int r), some (.ref 1), none, none], [.tup [.str host, .int 21], .list [.str p0, .str p1, .str p2, .str p3]]⟩) rfl (by simp) (by simp)
 simp [iB, dh, ew, dI, aM, zE, aB, aW, aR, bp, cu, ai, aa, ne_str, je, lt_int, ne_int, h3, bT, cJ, aj, sizeLine, an, a7, bH, lw, lh, nQ, hf, hr, ao, zv, wO, zD, hn, ha, hb, oa, hm, hsp, aC, hle]
theorem dl {x host : PySem.Str} {r : Int} {a mid q : PySem.Str} {n : Int} {p0 p1 p2 p4 : PySem.Str} (h3 : ∀ σ, eG (.str x) .none (.int 3) σ = .ok (.str "229") σ) (hf : Txt.find x (P1 40) = 7) (hr : Txt.find3 x (P1 41) 8 = r) (hr0 : 0 ≤ r)
  (ha : ∀ σ, br (.str x) (.int 8) σ = .ok (.str a) σ) (hb : ∀ σ, br (.str x) (.int (r - 1)) σ = .ok (.str a) σ) (hm : ∀ σ, eG (.str x) (.int 8) (.int r) σ = .ok (.str mid) σ)
  (oa : PyData.strOk a = true) (hl : a.length = 1) (hml : mid.length ≤ 1000) (hs : Txt.split mid a = [p0, p1, p2, q, p4]) (hq : PySem.intText? q = some n) (hql : q.length ≤ 640) :
  iB [.str x, .ref 0] [.tup [.str host, .int 21]] = .ok (.ref 2) ⟨[some (.str x), some (.ref 0), some (.int 7), some (.int r), some (.ref 1), some (.str host), some (.int n)], [.tup [.str host, .int 21], .list [.str p0, .str p1, .str p2, .str q, .str p4], .tup [.str host, .int n]]⟩ := by
 have hn : ¬ r < 0 := by lia
 have hsp := ny hl hml hs
 have hle := nT (l := 1) (xs := [V.str p0, .str p1, .str p2, .str q, .str p4]) (n := 5) (σ := ⟨[some (.str x), some (.ref 0), some (.int 7), some (.int r), some (.ref 1), none, none], [.tup [.str host, .int 21], .list [.str p0, .str p1, .str p2, .str q, .str p4]]⟩) rfl (by simp) (by simp)
 have hit : br (.ref 1) (.int 3) ⟨[some (.str x), some (.ref 0), some (.int 7), some (.int r), some (.ref 1), some (.str host), none], [.tup [.str host, .int 21], .list [.str p0, .str p1, .str p2, .str q, .str p4]]⟩ = .ok (.str q) _ := item_at (l := 1) (k := 3) (xs := [V.str p0, .str p1, .str p2, .str q, .str p4]) rfl (by lia) rfl
 have hi0 : br (.ref 0) (.int 0) ⟨[some (.str x), some (.ref 0), some (.int 7), some (.int r), some (.ref 1), none, none], [.tup [.str host, .int 21], .list [.str p0, .str p1, .str p2, .str q, .str p4]]⟩ = .ok (.str host) _ := nk (l := 0) (k := 0) (xs := [V.str host, .int 21]) rfl (by lia) rfl
 simp [iB, dh, ew, dI, aM, zE, aB, aW, aR, bp, cu, ai, aa, ne_str, je, lt_int, ne_int, h3, bT, cJ, aj, sizeLine, an, a7, bH, lw, lh, nQ, hf, hr, ao, zv, wO, zD, hn, ha, hb, oa, hm, hsp, aC, hle, hit, hi0, za, hq, hql, dg, hY]
theorem eN {ds : List Nat} (h : ds.length = 4) : ∃ a b c d, ds = [a, b, c, d] := by
 obtain ⟨a, r, rfl, k⟩ := iJ h
 obtain ⟨b, r, rfl, k'⟩ := iJ k
 obtain ⟨c, d, rfl⟩ := eF k'
 exact ⟨a, b, c, d, rfl⟩
theorem fC {ds : List Nat} (h : ds.length = 5) : ∃ a b c d e, ds = [a, b, c, d, e] := by
 obtain ⟨a, r, rfl, k⟩ := iJ h
 obtain ⟨b, c, d, e, rfl⟩ := eN k
 exact ⟨a, b, c, d, e, rfl⟩
theorem aH {pre ds es post : List Nat} {c : Nat} {n : Int} (hd : c ∉ ds) (hl : ds.length = es.length) (he : c ∉ es) (h : Txt.find ⟨(pre ++ es ++ post).toArray⟩ ⟨#[c]⟩ = n) : Txt.find ⟨(pre ++ ds ++ post).toArray⟩ ⟨#[c]⟩ = n := by
 rw [← h]
 exact rp (by simp [PySem.Str.length, hl]) (l9 hl hd he)
theorem aL {pre ds es post : List Nat} {c : Nat} {i n : Int} (hd : c ∉ ds) (hl : ds.length = es.length) (he : c ∉ es) (h : Txt.find3 ⟨(pre ++ es ++ post).toArray⟩ ⟨#[c]⟩ i = n) : Txt.find3 ⟨(pre ++ ds ++ post).toArray⟩ ⟨#[c]⟩ i = n := by
 rw [← h]
 exact pi (by simp [PySem.Str.length, hl]) (l9 hl hd he)
theorem bh {pre ds es post : List Nat} {c : Nat} {ps : List PySem.Str} (h256 : c < 256) (hp : 1 ≤ (pre ++ ds ++ post).length) (hd : c ∉ ds) (hl : ds.length = es.length) (he : c ∉ es)
  (h : (if (Builtin.Str.occurrences ⟨(pre ++ es ++ post).toArray⟩ ⟨#[c]⟩ 0 (PySem.Str.length ⟨(pre ++ es ++ post).toArray⟩) (PySem.Str.length ⟨(pre ++ es ++ post).toArray⟩ + 1)).isEmpty = true then [⟨(pre ++ ds ++ post).toArray⟩] else Builtin.Str.partsBetween ⟨(pre ++ ds ++ post).toArray⟩ (Builtin.Str.occurrences ⟨(pre ++ es ++ post).toArray⟩ ⟨#[c]⟩ 0 (PySem.Str.length ⟨(pre ++ es ++ post).toArray⟩) (PySem.Str.length ⟨(pre ++ es ++ post).toArray⟩ + 1)) 1) = ps) :
  Txt.split ⟨(pre ++ ds ++ post).toArray⟩ ⟨#[c]⟩ = ps := by
 rw [← h]
 exact oF h256 (by simp [PySem.Str.length, hl]) (by simpa [PySem.Str.length] using hp) (l9 hl hd he)
section
variable {c : Nat} {ds : List Nat} {host : PySem.Str}
noncomputable abbrev peer (host : PySem.Str) : O := .tup [.str host, .int 21]
theorem tj (hc : c = 124 ∨ c = 33 ∨ c = 35) (hd : ∀ d ∈ ds, 48 ≤ d ∧ d ≤ 57) (hl : ds.length = 4 ∨ ds.length = 5) {p : Int} (hp : PySem.intText? ⟨ds.toArray⟩ = some p) : ∃ τ, iB [.str ⟨([50, 50, 57, 32, 97, 116, 32, 40, c, c, c] ++ ds ++ [c, 41]).toArray⟩, .ref 0] [peer host] = .ok (.ref 2) τ ∧ τ.heap.take 1 = [peer host] ∧ τ.heap[2]? = some (.tup [.str host, .int p]) := by
 rcases hl with hl | hl
 ·obtain ⟨a1, a2, a3, a4, rfl⟩ := eN hl
  rcases hc with rfl | rfl | rfl
  ·exact ⟨_, dl (r := 16) (a := P1 124) (mid := ⟨([124, 124, 124] ++ [a1, a2, a3, a4] ++ [124]).toArray⟩) (q := ⟨([a1, a2, a3, a4] : List Nat).toArray⟩) (p0 := ⟨#[]⟩) (p1 := ⟨#[]⟩) (p2 := ⟨#[]⟩) (p4 := ⟨#[]⟩) (fun σ => by kernel_rfl) (aH (es := [48, 48, 48, 48]) (fun q => absurd (hd _ q) (by lia)) rfl (by decide) (by decide +kernel)) (aL (es := [48, 48, 48, 48]) (fun q => absurd (hd _ q) (by lia)) rfl (by decide) (by decide +kernel)) (by decide) (fun σ => by kernel_rfl) (fun σ => by kernel_rfl) (fun σ => by kernel_rfl) (by decide +kernel) rfl (by show 8 ≤ 1000; decide) (bh (es := [48, 48, 48, 48]) (by decide) (by show 1 ≤ 8; decide) (fun q => absurd (hd _ q) (by lia)) rfl (by decide) (by kernel_rfl)) hp (by show 4 ≤ 640; decide), rfl, rfl⟩
  ·exact ⟨_, dl (r := 16) (a := P1 33) (mid := ⟨([33, 33, 33] ++ [a1, a2, a3, a4] ++ [33]).toArray⟩) (q := ⟨([a1, a2, a3, a4] : List Nat).toArray⟩) (p0 := ⟨#[]⟩) (p1 := ⟨#[]⟩) (p2 := ⟨#[]⟩) (p4 := ⟨#[]⟩) (fun σ => by kernel_rfl) (aH (es := [48, 48, 48, 48]) (fun q => absurd (hd _ q) (by lia)) rfl (by decide) (by decide +kernel)) (aL (es := [48, 48, 48, 48]) (fun q => absurd (hd _ q) (by lia)) rfl (by decide) (by decide +kernel)) (by decide) (fun σ => by kernel_rfl) (fun σ => by kernel_rfl) (fun σ => by kernel_rfl) (by decide +kernel) rfl (by show 8 ≤ 1000; decide) (bh (es := [48, 48, 48, 48]) (by decide) (by show 1 ≤ 8; decide) (fun q => absurd (hd _ q) (by lia)) rfl (by decide) (by kernel_rfl)) hp (by show 4 ≤ 640; decide), rfl, rfl⟩
  ·exact ⟨_, dl (r := 16) (a := P1 35) (mid := ⟨([35, 35, 35] ++ [a1, a2, a3, a4] ++ [35]).toArray⟩) (q := ⟨([a1, a2, a3, a4] : List Nat).toArray⟩) (p0 := ⟨#[]⟩) (p1 := ⟨#[]⟩) (p2 := ⟨#[]⟩) (p4 := ⟨#[]⟩) (fun σ => by kernel_rfl) (aH (es := [48, 48, 48, 48]) (fun q => absurd (hd _ q) (by lia)) rfl (by decide) (by decide +kernel)) (aL (es := [48, 48, 48, 48]) (fun q => absurd (hd _ q) (by lia)) rfl (by decide) (by decide +kernel)) (by decide) (fun σ => by kernel_rfl) (fun σ => by kernel_rfl) (fun σ => by kernel_rfl) (by decide +kernel) rfl (by show 8 ≤ 1000; decide) (bh (es := [48, 48, 48, 48]) (by decide) (by show 1 ≤ 8; decide) (fun q => absurd (hd _ q) (by lia)) rfl (by decide) (by kernel_rfl)) hp (by show 4 ≤ 640; decide), rfl, rfl⟩
 ·obtain ⟨a1, a2, a3, a4, a5, rfl⟩ := fC hl
  rcases hc with rfl | rfl | rfl
  ·exact ⟨_, dl (r := 17) (a := P1 124) (mid := ⟨([124, 124, 124] ++ [a1, a2, a3, a4, a5] ++ [124]).toArray⟩) (q := ⟨([a1, a2, a3, a4, a5] : List Nat).toArray⟩) (p0 := ⟨#[]⟩) (p1 := ⟨#[]⟩) (p2 := ⟨#[]⟩) (p4 := ⟨#[]⟩) (fun σ => by kernel_rfl) (aH (es := [48, 48, 48, 48, 48]) (fun q => absurd (hd _ q) (by lia)) rfl (by decide) (by decide +kernel)) (aL (es := [48, 48, 48, 48, 48]) (fun q => absurd (hd _ q) (by lia)) rfl (by decide) (by decide +kernel)) (by decide) (fun σ => by kernel_rfl) (fun σ => by kernel_rfl) (fun σ => by kernel_rfl) (by decide +kernel) rfl (by show 9 ≤ 1000; decide) (bh (es := [48, 48, 48, 48, 48]) (by decide) (by show 1 ≤ 9; decide) (fun q => absurd (hd _ q) (by lia)) rfl (by decide) (by kernel_rfl)) hp (by show 5 ≤ 640; decide), rfl, rfl⟩
  ·exact ⟨_, dl (r := 17) (a := P1 33) (mid := ⟨([33, 33, 33] ++ [a1, a2, a3, a4, a5] ++ [33]).toArray⟩) (q := ⟨([a1, a2, a3, a4, a5] : List Nat).toArray⟩) (p0 := ⟨#[]⟩) (p1 := ⟨#[]⟩) (p2 := ⟨#[]⟩) (p4 := ⟨#[]⟩) (fun σ => by kernel_rfl) (aH (es := [48, 48, 48, 48, 48]) (fun q => absurd (hd _ q) (by lia)) rfl (by decide) (by decide +kernel)) (aL (es := [48, 48, 48, 48, 48]) (fun q => absurd (hd _ q) (by lia)) rfl (by decide) (by decide +kernel)) (by decide) (fun σ => by kernel_rfl) (fun σ => by kernel_rfl) (fun σ => by kernel_rfl) (by decide +kernel) rfl (by show 9 ≤ 1000; decide) (bh (es := [48, 48, 48, 48, 48]) (by decide) (by show 1 ≤ 9; decide) (fun q => absurd (hd _ q) (by lia)) rfl (by decide) (by kernel_rfl)) hp (by show 5 ≤ 640; decide), rfl, rfl⟩
  ·exact ⟨_, dl (r := 17) (a := P1 35) (mid := ⟨([35, 35, 35] ++ [a1, a2, a3, a4, a5] ++ [35]).toArray⟩) (q := ⟨([a1, a2, a3, a4, a5] : List Nat).toArray⟩) (p0 := ⟨#[]⟩) (p1 := ⟨#[]⟩) (p2 := ⟨#[]⟩) (p4 := ⟨#[]⟩) (fun σ => by kernel_rfl) (aH (es := [48, 48, 48, 48, 48]) (fun q => absurd (hd _ q) (by lia)) rfl (by decide) (by decide +kernel)) (aL (es := [48, 48, 48, 48, 48]) (fun q => absurd (hd _ q) (by lia)) rfl (by decide) (by decide +kernel)) (by decide) (fun σ => by kernel_rfl) (fun σ => by kernel_rfl) (fun σ => by kernel_rfl) (by decide +kernel) rfl (by show 9 ≤ 1000; decide) (bh (es := [48, 48, 48, 48, 48]) (by decide) (by show 1 ≤ 9; decide) (fun q => absurd (hd _ q) (by lia)) rfl (by decide) (by kernel_rfl)) hp (by show 5 ≤ 640; decide), rfl, rfl⟩
theorem ti (hc : c = 124 ∨ c = 33 ∨ c = 35) (hd : ∀ d ∈ ds, 48 ≤ d ∧ d ≤ 57) (hl : ds.length = 4 ∨ ds.length = 5) : ∃ τ, iB [.str ⟨([50, 50, 57, 32, 97, 116, 32, c, c, c] ++ ds ++ [c, 41]).toArray⟩, .ref 0] [peer host] = .exc (.top 56) [.str ⟨([50, 50, 57, 32, 97, 116, 32, c, c, c] ++ ds ++ [c, 41]).toArray⟩] τ ∧ τ.heap.take 1 = [peer host] := by
 rcases hl with hl | hl
 ·obtain ⟨a1, a2, a3, a4, rfl⟩ := eN hl
  rcases hc with rfl | rfl | rfl
  ·exact ⟨_, dk (fun σ => by kernel_rfl) (aH (es := [48, 48, 48, 48]) (fun q => absurd (hd _ q) (by lia)) rfl (by decide) (by decide +kernel)), rfl⟩
  ·exact ⟨_, dk (fun σ => by kernel_rfl) (aH (es := [48, 48, 48, 48]) (fun q => absurd (hd _ q) (by lia)) rfl (by decide) (by decide +kernel)), rfl⟩
  ·exact ⟨_, dk (fun σ => by kernel_rfl) (aH (es := [48, 48, 48, 48]) (fun q => absurd (hd _ q) (by lia)) rfl (by decide) (by decide +kernel)), rfl⟩
 ·obtain ⟨a1, a2, a3, a4, a5, rfl⟩ := fC hl
  rcases hc with rfl | rfl | rfl
  ·exact ⟨_, dk (fun σ => by kernel_rfl) (aH (es := [48, 48, 48, 48, 48]) (fun q => absurd (hd _ q) (by lia)) rfl (by decide) (by decide +kernel)), rfl⟩
  ·exact ⟨_, dk (fun σ => by kernel_rfl) (aH (es := [48, 48, 48, 48, 48]) (fun q => absurd (hd _ q) (by lia)) rfl (by decide) (by decide +kernel)), rfl⟩
  ·exact ⟨_, dk (fun σ => by kernel_rfl) (aH (es := [48, 48, 48, 48, 48]) (fun q => absurd (hd _ q) (by lia)) rfl (by decide) (by decide +kernel)), rfl⟩
theorem tg (hc : c = 124 ∨ c = 33 ∨ c = 35) (hd : ∀ d ∈ ds, 48 ≤ d ∧ d ≤ 57) (hl : ds.length = 4 ∨ ds.length = 5) : ∃ τ, iB [.str ⟨([50, 50, 57, 32, 97, 116, 32, 40, c, c, c] ++ ds ++ [c]).toArray⟩, .ref 0] [peer host] = .exc (.top 56) [.str ⟨([50, 50, 57, 32, 97, 116, 32, 40, c, c, c] ++ ds ++ [c]).toArray⟩] τ ∧ τ.heap.take 1 = [peer host] := by
 rcases hl with hl | hl
 ·obtain ⟨a1, a2, a3, a4, rfl⟩ := eN hl
  rcases hc with rfl | rfl | rfl
  ·exact ⟨_, dj (fun σ => by kernel_rfl) (aH (es := [48, 48, 48, 48]) (fun q => absurd (hd _ q) (by lia)) rfl (by decide) (by decide +kernel)) (aL (es := [48, 48, 48, 48]) (fun q => absurd (hd _ q) (by lia)) rfl (by decide) (by decide +kernel)), rfl⟩
  ·exact ⟨_, dj (fun σ => by kernel_rfl) (aH (es := [48, 48, 48, 48]) (fun q => absurd (hd _ q) (by lia)) rfl (by decide) (by decide +kernel)) (aL (es := [48, 48, 48, 48]) (fun q => absurd (hd _ q) (by lia)) rfl (by decide) (by decide +kernel)), rfl⟩
  ·exact ⟨_, dj (fun σ => by kernel_rfl) (aH (es := [48, 48, 48, 48]) (fun q => absurd (hd _ q) (by lia)) rfl (by decide) (by decide +kernel)) (aL (es := [48, 48, 48, 48]) (fun q => absurd (hd _ q) (by lia)) rfl (by decide) (by decide +kernel)), rfl⟩
 ·obtain ⟨a1, a2, a3, a4, a5, rfl⟩ := fC hl
  rcases hc with rfl | rfl | rfl
  ·exact ⟨_, dj (fun σ => by kernel_rfl) (aH (es := [48, 48, 48, 48, 48]) (fun q => absurd (hd _ q) (by lia)) rfl (by decide) (by decide +kernel)) (aL (es := [48, 48, 48, 48, 48]) (fun q => absurd (hd _ q) (by lia)) rfl (by decide) (by decide +kernel)), rfl⟩
  ·exact ⟨_, dj (fun σ => by kernel_rfl) (aH (es := [48, 48, 48, 48, 48]) (fun q => absurd (hd _ q) (by lia)) rfl (by decide) (by decide +kernel)) (aL (es := [48, 48, 48, 48, 48]) (fun q => absurd (hd _ q) (by lia)) rfl (by decide) (by decide +kernel)), rfl⟩
  ·exact ⟨_, dj (fun σ => by kernel_rfl) (aH (es := [48, 48, 48, 48, 48]) (fun q => absurd (hd _ q) (by lia)) rfl (by decide) (by decide +kernel)) (aL (es := [48, 48, 48, 48, 48]) (fun q => absurd (hd _ q) (by lia)) rfl (by decide) (by decide +kernel)), rfl⟩
theorem tf (hc : c = 124 ∨ c = 33 ∨ c = 35) (hd : ∀ d ∈ ds, 48 ≤ d ∧ d ≤ 57) (hl : ds.length = 4 ∨ ds.length = 5) : ∃ τ, iB [.str ⟨([50, 50, 57, 32, 97, 116, 32, 40, c, c, c] ++ ds ++ [45, 41]).toArray⟩, .ref 0] [peer host] = .exc (.top 56) [.str ⟨([50, 50, 57, 32, 97, 116, 32, 40, c, c, c] ++ ds ++ [45, 41]).toArray⟩] τ ∧ τ.heap.take 1 = [peer host] := by
 rcases hl with hl | hl
 ·obtain ⟨a1, a2, a3, a4, rfl⟩ := eN hl
  rcases hc with rfl | rfl | rfl
  ·exact ⟨_, cL (r := 16) (a := P1 124) (b := P1 45) (fun σ => by kernel_rfl) (aH (es := [48, 48, 48, 48]) (fun q => absurd (hd _ q) (by lia)) rfl (by decide) (by decide +kernel)) (aL (es := [48, 48, 48, 48]) (fun q => absurd (hd _ q) (by lia)) rfl (by decide) (by decide +kernel)) (by decide) (fun σ => by kernel_rfl) (fun σ => by kernel_rfl) (by decide +kernel) (by decide +kernel) (by decide +kernel), rfl⟩
  ·exact ⟨_, cL (r := 16) (a := P1 33) (b := P1 45) (fun σ => by kernel_rfl) (aH (es := [48, 48, 48, 48]) (fun q => absurd (hd _ q) (by lia)) rfl (by decide) (by decide +kernel)) (aL (es := [48, 48, 48, 48]) (fun q => absurd (hd _ q) (by lia)) rfl (by decide) (by decide +kernel)) (by decide) (fun σ => by kernel_rfl) (fun σ => by kernel_rfl) (by decide +kernel) (by decide +kernel) (by decide +kernel), rfl⟩
  ·exact ⟨_, cL (r := 16) (a := P1 35) (b := P1 45) (fun σ => by kernel_rfl) (aH (es := [48, 48, 48, 48]) (fun q => absurd (hd _ q) (by lia)) rfl (by decide) (by decide +kernel)) (aL (es := [48, 48, 48, 48]) (fun q => absurd (hd _ q) (by lia)) rfl (by decide) (by decide +kernel)) (by decide) (fun σ => by kernel_rfl) (fun σ => by kernel_rfl) (by decide +kernel) (by decide +kernel) (by decide +kernel), rfl⟩
 ·obtain ⟨a1, a2, a3, a4, a5, rfl⟩ := fC hl
  rcases hc with rfl | rfl | rfl
  ·exact ⟨_, cL (r := 17) (a := P1 124) (b := P1 45) (fun σ => by kernel_rfl) (aH (es := [48, 48, 48, 48, 48]) (fun q => absurd (hd _ q) (by lia)) rfl (by decide) (by decide +kernel)) (aL (es := [48, 48, 48, 48, 48]) (fun q => absurd (hd _ q) (by lia)) rfl (by decide) (by decide +kernel)) (by decide) (fun σ => by kernel_rfl) (fun σ => by kernel_rfl) (by decide +kernel) (by decide +kernel) (by decide +kernel), rfl⟩
  ·exact ⟨_, cL (r := 17) (a := P1 33) (b := P1 45) (fun σ => by kernel_rfl) (aH (es := [48, 48, 48, 48, 48]) (fun q => absurd (hd _ q) (by lia)) rfl (by decide) (by decide +kernel)) (aL (es := [48, 48, 48, 48, 48]) (fun q => absurd (hd _ q) (by lia)) rfl (by decide) (by decide +kernel)) (by decide) (fun σ => by kernel_rfl) (fun σ => by kernel_rfl) (by decide +kernel) (by decide +kernel) (by decide +kernel), rfl⟩
  ·exact ⟨_, cL (r := 17) (a := P1 35) (b := P1 45) (fun σ => by kernel_rfl) (aH (es := [48, 48, 48, 48, 48]) (fun q => absurd (hd _ q) (by lia)) rfl (by decide) (by decide +kernel)) (aL (es := [48, 48, 48, 48, 48]) (fun q => absurd (hd _ q) (by lia)) rfl (by decide) (by decide +kernel)) (by decide) (fun σ => by kernel_rfl) (fun σ => by kernel_rfl) (by decide +kernel) (by decide +kernel) (by decide +kernel), rfl⟩
theorem te (hc : c = 124 ∨ c = 33 ∨ c = 35) (hd : ∀ d ∈ ds, 48 ≤ d ∧ d ≤ 57) (hl : ds.length = 4 ∨ ds.length = 5) : ∃ τ, iB [.str ⟨([50, 50, 57, 32, 97, 116, 32, 40, c, c] ++ ds ++ [c, 41]).toArray⟩, .ref 0] [peer host] = .exc (.top 56) [.str ⟨([50, 50, 57, 32, 97, 116, 32, 40, c, c] ++ ds ++ [c, 41]).toArray⟩] τ ∧ τ.heap.take 1 = [peer host] := by
 rcases hl with hl | hl
 ·obtain ⟨a1, a2, a3, a4, rfl⟩ := eN hl
  rcases hc with rfl | rfl | rfl
  ·exact ⟨_, cK (r := 15) (a := P1 124) (mid := ⟨([124, 124] ++ [a1, a2, a3, a4] ++ [124]).toArray⟩) (p0 := ⟨#[]⟩) (p1 := ⟨#[]⟩) (p2 := ⟨([a1, a2, a3, a4] : List Nat).toArray⟩) (p3 := ⟨#[]⟩) (fun σ => by kernel_rfl) (aH (es := [48, 48, 48, 48]) (fun q => absurd (hd _ q) (by lia)) rfl (by decide) (by decide +kernel)) (aL (es := [48, 48, 48, 48]) (fun q => absurd (hd _ q) (by lia)) rfl (by decide) (by decide +kernel)) (by decide) (fun σ => by kernel_rfl) (fun σ => by kernel_rfl) (fun σ => by kernel_rfl) (by decide +kernel) rfl (by show 7 ≤ 1000; decide) (bh (es := [48, 48, 48, 48]) (by decide) (by show 1 ≤ 7; decide) (fun q => absurd (hd _ q) (by lia)) rfl (by decide) (by kernel_rfl)), rfl⟩
  ·exact ⟨_, cK (r := 15) (a := P1 33) (mid := ⟨([33, 33] ++ [a1, a2, a3, a4] ++ [33]).toArray⟩) (p0 := ⟨#[]⟩) (p1 := ⟨#[]⟩) (p2 := ⟨([a1, a2, a3, a4] : List Nat).toArray⟩) (p3 := ⟨#[]⟩) (fun σ => by kernel_rfl) (aH (es := [48, 48, 48, 48]) (fun q => absurd (hd _ q) (by lia)) rfl (by decide) (by decide +kernel)) (aL (es := [48, 48, 48, 48]) (fun q => absurd (hd _ q) (by lia)) rfl (by decide) (by decide +kernel)) (by decide) (fun σ => by kernel_rfl) (fun σ => by kernel_rfl) (fun σ => by kernel_rfl) (by decide +kernel) rfl (by show 7 ≤ 1000; decide) (bh (es := [48, 48, 48, 48]) (by decide) (by show 1 ≤ 7; decide) (fun q => absurd (hd _ q) (by lia)) rfl (by decide) (by kernel_rfl)), rfl⟩
  ·exact ⟨_, cK (r := 15) (a := P1 35) (mid := ⟨([35, 35] ++ [a1, a2, a3, a4] ++ [35]).toArray⟩) (p0 := ⟨#[]⟩) (p1 := ⟨#[]⟩) (p2 := ⟨([a1, a2, a3, a4] : List Nat).toArray⟩) (p3 := ⟨#[]⟩) (fun σ => by kernel_rfl) (aH (es := [48, 48, 48, 48]) (fun q => absurd (hd _ q) (by lia)) rfl (by decide) (by decide +kernel)) (aL (es := [48, 48, 48, 48]) (fun q => absurd (hd _ q) (by lia)) rfl (by decide) (by decide +kernel)) (by decide) (fun σ => by kernel_rfl) (fun σ => by kernel_rfl) (fun σ => by kernel_rfl) (by decide +kernel) rfl (by show 7 ≤ 1000; decide) (bh (es := [48, 48, 48, 48]) (by decide) (by show 1 ≤ 7; decide) (fun q => absurd (hd _ q) (by lia)) rfl (by decide) (by kernel_rfl)), rfl⟩
 ·obtain ⟨a1, a2, a3, a4, a5, rfl⟩ := fC hl
  rcases hc with rfl | rfl | rfl
  ·exact ⟨_, cK (r := 16) (a := P1 124) (mid := ⟨([124, 124] ++ [a1, a2, a3, a4, a5] ++ [124]).toArray⟩) (p0 := ⟨#[]⟩) (p1 := ⟨#[]⟩) (p2 := ⟨([a1, a2, a3, a4, a5] : List Nat).toArray⟩) (p3 := ⟨#[]⟩) (fun σ => by kernel_rfl) (aH (es := [48, 48, 48, 48, 48]) (fun q => absurd (hd _ q) (by lia)) rfl (by decide) (by decide +kernel)) (aL (es := [48, 48, 48, 48, 48]) (fun q => absurd (hd _ q) (by lia)) rfl (by decide) (by decide +kernel)) (by decide) (fun σ => by kernel_rfl) (fun σ => by kernel_rfl) (fun σ => by kernel_rfl) (by decide +kernel) rfl (by show 8 ≤ 1000; decide) (bh (es := [48, 48, 48, 48, 48]) (by decide) (by show 1 ≤ 8; decide) (fun q => absurd (hd _ q) (by lia)) rfl (by decide) (by kernel_rfl)), rfl⟩
  ·exact ⟨_, cK (r := 16) (a := P1 33) (mid := ⟨([33, 33] ++ [a1, a2, a3, a4, a5] ++ [33]).toArray⟩) (p0 := ⟨#[]⟩) (p1 := ⟨#[]⟩) (p2 := ⟨([a1, a2, a3, a4, a5] : List Nat).toArray⟩) (p3 := ⟨#[]⟩) (fun σ => by kernel_rfl) (aH (es := [48, 48, 48, 48, 48]) (fun q => absurd (hd _ q) (by lia)) rfl (by decide) (by decide +kernel)) (aL (es := [48, 48, 48, 48, 48]) (fun q => absurd (hd _ q) (by lia)) rfl (by decide) (by decide +kernel)) (by decide) (fun σ => by kernel_rfl) (fun σ => by kernel_rfl) (fun σ => by kernel_rfl) (by decide +kernel) rfl (by show 8 ≤ 1000; decide) (bh (es := [48, 48, 48, 48, 48]) (by decide) (by show 1 ≤ 8; decide) (fun q => absurd (hd _ q) (by lia)) rfl (by decide) (by kernel_rfl)), rfl⟩
  ·exact ⟨_, cK (r := 16) (a := P1 35) (mid := ⟨([35, 35] ++ [a1, a2, a3, a4, a5] ++ [35]).toArray⟩) (p0 := ⟨#[]⟩) (p1 := ⟨#[]⟩) (p2 := ⟨([a1, a2, a3, a4, a5] : List Nat).toArray⟩) (p3 := ⟨#[]⟩) (fun σ => by kernel_rfl) (aH (es := [48, 48, 48, 48, 48]) (fun q => absurd (hd _ q) (by lia)) rfl (by decide) (by decide +kernel)) (aL (es := [48, 48, 48, 48, 48]) (fun q => absurd (hd _ q) (by lia)) rfl (by decide) (by decide +kernel)) (by decide) (fun σ => by kernel_rfl) (fun σ => by kernel_rfl) (fun σ => by kernel_rfl) (by decide +kernel) rfl (by show 8 ≤ 1000; decide) (bh (es := [48, 48, 48, 48, 48]) (by decide) (by show 1 ≤ 8; decide) (fun q => absurd (hd _ q) (by lia)) rfl (by decide) (by kernel_rfl)), rfl⟩
theorem td (hc : c = 124 ∨ c = 33 ∨ c = 35) (hd : ∀ d ∈ ds, 48 ≤ d ∧ d ≤ 57) (hl : ds.length = 4 ∨ ds.length = 5) : ∃ τ, iB [.str ⟨([50, 51, 48, 32, 97, 116, 32, 40, c, c, c] ++ ds ++ [c, 41]).toArray⟩, .ref 0] [peer host] = .exc (.top 44) [.str ⟨([50, 51, 48, 32, 97, 116, 32, 40, c, c, c] ++ ds ++ [c, 41]).toArray⟩] τ ∧ τ.heap.take 1 = [peer host] := by
 rcases hl with hl | hl
 ·obtain ⟨a1, a2, a3, a4, rfl⟩ := eN hl
  rcases hc with rfl | rfl | rfl
  ·exact ⟨_, dm (y := ⟨#[50, 51, 48]⟩) (fun σ => by kernel_rfl) (by decide +kernel) (by decide +kernel), rfl⟩
  ·exact ⟨_, dm (y := ⟨#[50, 51, 48]⟩) (fun σ => by kernel_rfl) (by decide +kernel) (by decide +kernel), rfl⟩
  ·exact ⟨_, dm (y := ⟨#[50, 51, 48]⟩) (fun σ => by kernel_rfl) (by decide +kernel) (by decide +kernel), rfl⟩
 ·obtain ⟨a1, a2, a3, a4, a5, rfl⟩ := fC hl
  rcases hc with rfl | rfl | rfl
  ·exact ⟨_, dm (y := ⟨#[50, 51, 48]⟩) (fun σ => by kernel_rfl) (by decide +kernel) (by decide +kernel), rfl⟩
  ·exact ⟨_, dm (y := ⟨#[50, 51, 48]⟩) (fun σ => by kernel_rfl) (by decide +kernel) (by decide +kernel), rfl⟩
  ·exact ⟨_, dm (y := ⟨#[50, 51, 48]⟩) (fun σ => by kernel_rfl) (by decide +kernel) (by decide +kernel), rfl⟩
end
theorem hV {m : cX} {vs vs0 : List V} {σ τ : St} {H0 : List O} {r : Nat} {o : O} (hz : zm vs σ.heap = some (vs0, H0)) (hd : σ.heap.all noDict = true) (hm : m vs0 H0 = .ok (.ref r) τ) (ht : τ.heap.take H0.length = H0) (ho : τ.heap[r]? = some o) (hr : H0.length ≤ r) (hf : gw o = true) :
  bQ m vs σ = .ok (.ref σ.heap.length) { σ with heap := σ.heap ++ [o] } := by
 unfold bQ
 simp only [hz, hd, hm, ht, ho, hr, hf, if_true, and_self]
theorem fV {m : cX} {vs vs0 : List V} {v : V} {σ τ : St} {H0 : List O} (hz : zm vs σ.heap = some (vs0, H0)) (hd : σ.heap.all noDict = true) (hm : m vs0 H0 = .ok v τ) (ht : τ.heap.take H0.length = H0) (hv : pJ v = true) :
  bQ m vs σ = .ok v σ := by
 unfold bQ
 simp only [hz, hd, hm, ht, if_true]
 cases v <;> first | rfl | cases hv
theorem rx {m : cX} {vs vs0 as : List V} {c : V} {σ τ : St} {H0 : List O} (hz : zm vs σ.heap = some (vs0, H0)) (hd : σ.heap.all noDict = true) (hm : m vs0 H0 = .exc c as τ) (ht : τ.heap.take H0.length = H0) (hc : pJ c = true) (ha : as.all pJ = true) :
  bQ m vs σ = .exc c as σ := by
 unfold bQ
 simp only [hz, hd, hm, ht, hc, ha, if_true, and_self]
theorem jk (l : Nat) (σ : St) : j4 .Is (.ref l) .none σ = .ok (.bool false) σ := rfl
theorem pD {x host : PySem.Str} {p : Int} {τ : St} (h : iB [.str x, .ref 0] [peer host] = .ok (.ref 2) τ) (h1 : τ.heap.take 1 = [peer host]) (h2 : τ.heap[2]? = some (.tup [.str host, .int p])) :
  ∃ τ', fc [.str x, .ref 0] [peer host] = .ok (.ref 1) τ' ∧ τ'.heap = [peer host, .tup [.str host, .int p]] := by
 have e := hV (vs := [.str x, .ref 0]) (vs0 := [.str x, .ref 0]) (H0 := [peer host]) (σ := ⟨[some (.str x), some (.ref 0), none], [peer host]⟩) rfl rfl h h1 h2 (by show 1 ≤ 2; decide) rfl
 refine ⟨⟨[some (.str x), some (.ref 0), none], [peer host, .tup [.str host, .int p]]⟩, ?_, rfl⟩
 simp [fc, dh, ew, dI, lT, dg, zE, aB, aW, bp, ai, aa, jk, bT, aC, aj, e]
theorem eR {x host : PySem.Str} {c : Nat} {τ : St} (hc : c = 44 ∨ c = 56) (h : iB [.str x, .ref 0] [peer host] = .exc (.top c) [.str x] τ) (h1 : τ.heap.take 1 = [peer host]) :
  ∃ τ', fc [.str x, .ref 0] [peer host] = .ok (.ref 3) τ' ∧ τ'.heap = [peer host, .tup [.str x], .exc (.top c) 1, .tup [.str (Str.ofString (if c = 44 then "other code" else "no port")), .str x]] := by
 have e := rx (vs := [.str x, .ref 0]) (vs0 := [.str x, .ref 0]) (H0 := [peer host]) (σ := ⟨[some (.str x), some (.ref 0), none], [peer host]⟩) rfl rfl h h1 rfl rfl
 refine ⟨⟨[some (.str x), some (.ref 0), none], [peer host, .tup [.str x], .exc (.top c) 1, .tup [.str (Str.ofString (if c = 44 then "other code" else "no port")), .str x]]⟩, ?_, rfl⟩
 have hb : (V.top 56 == V.top 44) = false := by decide
 rcases hc with rfl | rfl <;>
 simp [hb, fc, dh, ew, dI, lT, dg, zE, aB, aW, bp, ai, aa, jk, bT, aC, aj, e, gm, asH, hY, yS, sizeLine, zZ.calm, List.lookup]
noncomputable def oX (x : PySem.Str) : List V := x.cps.toList.map fun c => .int (Int.ofNat c)
noncomputable def yx (x : PySem.Str) : List V := x.cps.toList.map fun c => .str ⟨#[c]⟩
noncomputable def oj (x : PySem.Str) : PySem.Str := match qU [.bytes (byteArr (x.cps.toList.map fun c => Int.ofNat c))] [] with
 | .ok (.bytes b) _ => ⟨(b.toList.map (·.toNat)).toArray⟩
 | _ => ⟨#[]⟩
noncomputable def ja (x : PySem.Str) : PySem.Str := Str.ofString "\"" ++ Txt.replace x "\"" "\"\""
noncomputable abbrev A2 : St → zZ F := an
     (a7 bH tL (aa (V.str ""))
      (aj
       (bI 13
        (aC
         (aj
          (aC (aj (bI 13 (ai 5) (aa true) (aC (aj (ai 13) (aa [])) xZ)) (aa []))
           iL)
          (aa []))
         (bQ qU))
        (aa true) (aC (aj (ai 13) (aa [])) zc))
       (aa [])))
     (ao 7)
noncomputable abbrev A3 : St → zZ F := an (nJ 5 "\"" "\"" "\"\"") (ao 8)
noncomputable abbrev ev (par : V) (code kind : Int) (name : PySem.Str) (port : Int) : O := .tup [par, .int code, .int kind, .str name, .int port]
theorem add_str {x y : PySem.Str} (hx : x.length ≤ 10000) (hy : y.length ≤ 10000) (σ : St) : zv .Add (.str x) (.str y) σ = .ok (.str (x ++ y)) σ := by
 show (if x.length + y.length ≤ sizeLine then _ else _) = _
 rw [if_pos (by show x.length + y.length ≤ 16777216; lia)]
theorem pick_run {ms : St → zZ (List V)} {mi : St → zZ V} {σ ae : St} {vs : List V} {j : Nat} {v : V} (h : ms σ = .ok vs ae) (hl : vs.length ≤ 1000) (hi : mi ⟨ae.loc, ae.heap ++ [.list vs]⟩ = .ok (.int j) ⟨ae.loc, ae.heap ++ [.list vs]⟩) (hj : j < 1000) (hv : vs[j]? = some v) :
  bp br (bu ms) mi σ = .ok v ⟨ae.loc, ae.heap ++ [.list vs]⟩ := by
 unfold bp bu
 rw [h, zZ.bind_ok, if_pos (by show vs.length ≤ 16777216; lia), zZ.bind_ok, hi, zZ.bind_ok]
 exact item_at (xs := vs) (by simp) hj hv
theorem aG {a b : St → zZ F} {σ ae : St} (h : a σ = .ok .next ae) : aM a b σ = b ae := by
 unfold aM; rw [h]; rfl
theorem bx {m : St → zZ V} {i : Nat} {v : V} {σ ae : St} (h : m σ = .ok v ae) : an m (ao i) σ = .ok .next ⟨ae.loc.set i (some v), ae.heap⟩ := by
 unfold an ao; rw [h]; rfl
noncomputable abbrev A4m : St → zZ (List V) := (aj (aR Operator.Add (aR Operator.Add (aR Operator.Add (aa (V.str "257 ")) (ai 8)) (aa (V.str "\" made "))) (ai 7)) (aj (aR Operator.Add (aa (V.str "257 ")) (ai 8)) (aj (aR Operator.Add (aR Operator.Add (aa (V.str "257 (")) (ai 5)) (aa (V.str "\""))) (aj (aR Operator.Add (aR Operator.Add (aa (V.str "250 ")) (ai 8)) (aa (V.str "\""))) (aa [])))))
noncomputable def be (x : PySem.Str) : Nat → PySem.Str
 | 0 => ((Str.ofString "257 " ++ ja x) ++ Str.ofString "\" made ") ++ oj x
 | 1 => Str.ofString "257 " ++ ja x
 | 2 => (Str.ofString "257 (" ++ x) ++ Str.ofString "\""
 | _ => (Str.ofString "250 " ++ ja x) ++ Str.ofString "\""
theorem mG : (Str.ofString "257 ").length = 4 := by decide +kernel
theorem nR : (Str.ofString "\" made ").length = 7 := by decide +kernel
theorem nU : (Str.ofString "257 (").length = 5 := by decide +kernel
theorem qY : (Str.ofString "250 ").length = 4 := by decide +kernel
theorem tJ : (Str.ofString "\"").length = 1 := by decide +kernel
theorem xB {x : PySem.Str} (h1 : x.length ≤ 50) (h2 : (ja x).length ≤ 50) (h3 : (oj x).length ≤ 50) {v0 v1 v2 v4 v6 v9 v10 v11 v12 : Option V} {c : Nat} (hc : c < 4) {H : List O} :
  bp br (bu A4m) (ai 3) ⟨[v0, v1, v2, some (.int c), v4, some (.str x), v6, some (.str (oj x)), some (.str (ja x)), v9, v10, v11, v12], H⟩
   = .ok (.str (be x c)) ⟨[v0, v1, v2, some (.int c), v4, some (.str x), v6, some (.str (oj x)), some (.str (ja x)), v9, v10, v11, v12], H ++ [.list [.str (be x 0), .str (be x 1), .str (be x 2), .str (be x 3)]]⟩ := by
 refine pick_run (ae := ⟨[v0, v1, v2, some (.int c), v4, some (.str x), v6, some (.str (oj x)), some (.str (ja x)), v9, v10, v11, v12], H⟩) (j := c) ?_ (by show 4 ≤ 1000; decide) rfl (by lia) ?_
 ·have l1 : (Str.ofString "257 " ++ ja x).length ≤ 10000 := by rw [PySem.Str.length_append, mG]; lia
  have l2 : ((Str.ofString "257 " ++ ja x) ++ Str.ofString "\" made ").length ≤ 10000 := by rw [PySem.Str.length_append, PySem.Str.length_append, mG, nR]; lia
  have l3 : (Str.ofString "257 (" ++ x).length ≤ 10000 := by rw [PySem.Str.length_append, nU]; lia
  have l4 : (Str.ofString "250 " ++ ja x).length ≤ 10000 := by rw [PySem.Str.length_append, qY]; lia
  have e1 := add_str (x := Str.ofString "257 ") (y := ja x) (by rw [mG]; decide) (by lia)
  have e2 := add_str l1 (y := Str.ofString "\" made ") (by rw [nR]; decide)
  have e3 := add_str l2 (y := oj x) (by lia)
  have e4 := add_str (x := Str.ofString "257 (") (y := x) (by rw [nU]; decide) (by lia)
  have e5 := add_str l3 (y := Str.ofString "\"") (by rw [tJ]; decide)
  have e6 := add_str (x := Str.ofString "250 ") (y := ja x) (by rw [qY]; decide) (by lia)
  have e7 := add_str l4 (y := Str.ofString "\"") (by rw [tJ]; decide)
  simp [aj, aR, bp, aa, ai, e1, e2, e3, e4, e5, e6, e7, be]
 ·rcases c with _ | _ | _ | _ | c <;> first | rfl | lia
structure uR (x : PySem.Str) : Prop where
 a2 : ∀ (par : V) (code kind port k : Int), A2 ⟨[some (.ref 0), some (.int k), some par, some (.int code), some (.int kind), some (.str x), some (.int port), none, none, none, none, none, none], [ev par code kind x port]⟩
  = .ok .next ⟨[some (.ref 0), some (.int k), some par, some (.int code), some (.int kind), some (.str x), some (.int port), some (.str (oj x)), none, none, none, none, none], [ev par code kind x port, .list (oX x), .list (yx (oj x))]⟩
noncomputable def cI (k : Nat) : Nat := match k % 3 with | 0 => 124 | 1 => 33 | _ => 35
noncomputable abbrev A5 : St → zZ V := bp br (aa (V.str "|!#")) (aR Operator.Mod (ai 1) (aa (V.int 3)))
theorem xA {k : Nat} (hk : k < 6) {v0 v2 v3 v4 v5 v6 v7 v8 v9 v10 v11 v12 : Option V} {H : List O} :
  A5 ⟨[v0, some (.int k), v2, v3, v4, v5, v6, v7, v8, v9, v10, v11, v12], H⟩ = .ok (.str ⟨#[cI k]⟩) ⟨[v0, some (.int k), v2, v3, v4, v5, v6, v7, v8, v9, v10, v11, v12], H⟩ := by
 rcases k with _ | _ | _ | _ | _ | _ | k <;> first | lia | kernel_rfl
noncomputable abbrev A6m : St → zZ (List V) := (aj (aR Operator.Add (aR Operator.Add (aR Operator.Mult (ai 10) (aa (V.int 3))) (aC (aj (ai 6) (aa [])) nt)) (ai 10)) (aj (aR Operator.Add (aR Operator.Add (aR Operator.Mult (ai 10) (aa (V.int 3))) (aC (aj (ai 6) (aa [])) nt)) (aa (V.str "-"))) (aj (aR Operator.Add (aR Operator.Add (aR Operator.Mult (ai 10) (aa (V.int 2))) (aC (aj (ai 6) (aa [])) nt)) (ai 10)) (aa []))))
noncomputable abbrev A6i : St → zZ V := (aR Operator.Mod (aC (aj (aR Operator.Sub (ai 4) (aa (V.int 2))) (aj (aa (V.int 0)) (aa []))) tB) (aa (V.int 3)))
noncomputable def wa (d : Nat) : Nat := (d - 2) % 3
noncomputable def o6 (c : Nat) (P : PySem.Str) : Nat → PySem.Str
 | 0 => (⟨#[c, c, c]⟩ ++ P) ++ ⟨#[c]⟩
 | 1 => (⟨#[c, c, c]⟩ ++ P) ++ Str.ofString "-"
 | _ => (⟨#[c, c]⟩ ++ P) ++ ⟨#[c]⟩
theorem qS {c : Nat} (hc : c = 124 ∨ c = 33 ∨ c = 35) (σ : St) : zv .Mult (.str ⟨#[c]⟩) (.int 3) σ = .ok (.str ⟨#[c, c, c]⟩) σ := by
 rcases hc with rfl | rfl | rfl <;> kernel_rfl
theorem vZ {c : Nat} (hc : c = 124 ∨ c = 33 ∨ c = 35) (σ : St) : zv .Mult (.str ⟨#[c]⟩) (.int 2) σ = .ok (.str ⟨#[c, c]⟩) σ := by
 rcases hc with rfl | rfl | rfl <;> kernel_rfl
theorem nS : (Str.ofString "-").length = 1 := by decide +kernel
theorem xz {c : Nat} (hc : c = 124 ∨ c = 33 ∨ c = 35) {p : Int} (hp1 : 1024 ≤ p) (hp2 : p < 61024) {P : PySem.Str} (hP : PySem.Str.ofString (toString p) = P) (hl : P.length ≤ 10) {d : Nat} (hd : d < 6) {v0 v1 v2 v3 v5 v7 v8 v9 v11 v12 : Option V} {H : List O} :
  bp br (bu A6m) A6i ⟨[v0, v1, v2, v3, some (.int d), v5, some (.int p), v7, v8, v9, some (.str ⟨#[c]⟩), v11, v12], H⟩
   = .ok (.str (o6 c P (wa d))) ⟨[v0, v1, v2, v3, some (.int d), v5, some (.int p), v7, v8, v9, some (.str ⟨#[c]⟩), v11, v12], H ++ [.list [.str (o6 c P 0), .str (o6 c P 1), .str (o6 c P 2)]]⟩ := by
 refine pick_run (ae := ⟨[v0, v1, v2, v3, some (.int d), v5, some (.int p), v7, v8, v9, some (.str ⟨#[c]⟩), v11, v12], H⟩) (j := wa d) ?_ (by show 3 ≤ 1000; decide) ?_ (by unfold wa; lia) ?_
 ·have l3 : (⟨#[c, c, c]⟩ ++ P : PySem.Str).length ≤ 10000 := by rw [PySem.Str.length_append]; show 3 + P.length ≤ _; lia
  have l2 : (⟨#[c, c]⟩ ++ P : PySem.Str).length ≤ 10000 := by rw [PySem.Str.length_append]; show 2 + P.length ≤ _; lia
  have e1 := add_str (x := ⟨#[c, c, c]⟩) (y := P) (by show 3 ≤ 10000; decide) (by lia)
  have e2 := add_str (x := ⟨#[c, c]⟩) (y := P) (by show 2 ≤ 10000; decide) (by lia)
  have e3 := add_str l3 (y := ⟨#[c]⟩) (by show 1 ≤ 10000; decide)
  have e4 := add_str l3 (y := Str.ofString "-") (by rw [nS]; decide)
  have e5 := add_str l2 (y := ⟨#[c]⟩) (by show 1 ≤ 10000; decide)
  have e6 := pW hp1 hp2
  rw [hP] at e6
  simp [aj, aR, bp, aa, ai, aC, qS hc, vZ hc, e1, e2, e3, e4, e5, e6, o6]
 ·rcases d with _ | _ | _ | _ | _ | _ | d <;> first | lia | kernel_rfl
 ·rcases d with _ | _ | _ | _ | _ | _ | d <;> first | rfl | lia
noncomputable abbrev A7m : St → zZ (List V) := (aj (aa (V.str "229 at (")) (aj (aa (V.str "229 at ")) (aj (aa (V.str "229 at (")) (aj (aa (V.str "229 at (")) (aj (aa (V.str "229 at (")) (aj (aa (V.str "230 at (")) (aa [])))))))
noncomputable def gk : Nat → PySem.Str
 | 1 => Str.ofString "229 at "
 | 5 => Str.ofString "230 at ("
 | _ => Str.ofString "229 at ("
noncomputable def uT (d : Nat) : PySem.Str := if d = 2 then Str.ofString "" else Str.ofString ")"
noncomputable abbrev xX : O := .list [.str (gk 0), .str (gk 1), .str (gk 2), .str (gk 3), .str (gk 4), .str (gk 5)]
theorem xy {d : Nat} (hd : d < 6) {y : PySem.Str} (hy : y.length ≤ 100) {v0 v1 v2 v3 v5 v6 v7 v8 v9 v10 v12 : Option V} {H : List O} :
  aR Operator.Add (bp br (bu A7m) (ai 4)) (ai 11) ⟨[v0, v1, v2, v3, some (.int d), v5, v6, v7, v8, v9, v10, some (.str y), v12], H⟩
   = .ok (.str (gk d ++ y)) ⟨[v0, v1, v2, v3, some (.int d), v5, v6, v7, v8, v9, v10, some (.str y), v12], H ++ [xX]⟩ := by
 have e := pick_run (ms := A7m) (mi := ai 4) (σ := ⟨[v0, v1, v2, v3, some (.int d), v5, v6, v7, v8, v9, v10, some (.str y), v12], H⟩) (ae := ⟨[v0, v1, v2, v3, some (.int d), v5, v6, v7, v8, v9, v10, some (.str y), v12], H⟩) (j := d) (v := .str (gk d)) rfl (by show 6 ≤ 1000; decide) rfl (by lia) (by rcases d with _ | _ | _ | _ | _ | _ | d <;> first | rfl | lia)
 have lp : (gk d).length ≤ 10000 := by rcases d with _ | _ | _ | _ | _ | _ | d <;> first | decide +kernel | lia
 show (bp br (bu A7m) (ai 4) _).bind _ = _
 rw [e, zZ.bind_ok]
 show zv .Add (.str (gk d)) (.str y) _ = _
 rw [add_str lp (by lia)]
 rfl
noncomputable abbrev A8 : St → zZ V := (hY (aj (ai 9) (aj (aR Operator.Add (ai 12) (zE (aB (aW CmpOp.Eq (ai 4) (aa (V.int 2)))) (aa (V.str "")) (aa (V.str ")")))) (aa []))))
theorem xx {d : Nat} (hd : d < 6) {y z : PySem.Str} (hy : y.length ≤ 100) {v0 v1 v2 v3 v5 v6 v7 v8 v10 v11 : Option V} {H : List O} :
  A8 ⟨[v0, v1, v2, v3, some (.int d), v5, v6, v7, v8, some (.str z), v10, v11, some (.str y)], H⟩
   = .ok (.ref H.length) ⟨[v0, v1, v2, v3, some (.int d), v5, v6, v7, v8, some (.str z), v10, v11, some (.str y)], H ++ [.tup [.str z, .str (y ++ uT d)]]⟩ := by
 have e1 := add_str (x := y) (y := Str.ofString "") (by lia) (by decide +kernel)
 have e2 := add_str (x := y) (y := Str.ofString ")") (by lia) (by decide +kernel)
 rcases d with _ | _ | _ | _ | _ | _ | d <;> first | (simp [A8, hY, aj, aR, bp, ai, aa, zE, aB, aW, j4, eqB, isB, isnB, inB, neB, zD, bT, e1, e2, uT, sizeLine]; done) | lia
structure wS (x : PySem.Str) : Prop where
 n : uR x
 a3 : ∀ (v0 v1 v2 v3 v4 v6 v7 v8 v9 v10 v11 v12 : Option V) (H : List O), A3 ⟨[v0, v1, v2, v3, v4, some (.str x), v6, v7, v8, v9, v10, v11, v12], H⟩ = .ok .next ⟨[v0, v1, v2, v3, v4, some (.str x), v6, v7, some (.str (ja x)), v9, v10, v11, v12], H⟩
 l1 : x.length ≤ 50
 l2 : (ja x).length ≤ 50
 l3 : (oj x).length ≤ 50
noncomputable def cW (c : Nat) (P : PySem.Str) (d : Nat) : PySem.Str := (gk d ++ o6 c P (wa d)) ++ uT d
theorem hM (k : Nat) : cI k = 124 ∨ cI k = 33 ∨ cI k = 35 := by
 unfold cI; split <;> simp
theorem du {n : Nat} {bnd : List V → List O → Option (List V × List O)} {body : St → zZ F} {vs ps : List V} {H b7 : List O} {L : List (Option V)} {v : V} {τ : St} (hb : bnd vs H = some (ps, b7)) (hL : dI n ps = L) (h : body ⟨L, b7⟩ = .ok (.ret v) τ) : dh n bnd body vs H = .ok v τ := by
 unfold dh; rw [hb]; subst hL; simp only [h]
theorem eK {m : St → zZ V} {v : V} {σ ae : St} (h : m σ = .ok v ae) : dg m σ = .ok (.ret v) ae := by
 unfold dg; rw [h]; rfl
theorem xF {x : PySem.Str} (N : wS x) {par : V} {c d k : Nat} (hc : c < 4) (hd : d < 6) (hk : k < 6) {p : Int} (hp1 : 1024 ≤ p) (hp2 : p < 61024) {P : PySem.Str} (hP : PySem.Str.ofString (toString p) = P) (hl : P.length ≤ 10) :
  ∃ τ, mA [.ref 0, .int k] [ev par c d x p] = .ok (.ref 6) τ ∧ τ.heap.take 1 = [ev par c d x p] ∧ τ.heap[6]? = some (.tup [.str (be x c), .str (cW (cI k) P d)]) := by
 have lm : ∀ j, (o6 (cI k) P j).length ≤ 50 := fun j => by
  unfold o6
  split <;> (simp only [PySem.Str.length_append, nS]; first | (show 3 + P.length + 1 ≤ 50; lia) | (show 2 + P.length + 1 ≤ 50; lia))
 have lp : (gk d).length ≤ 20 := by rcases d with _ | _ | _ | _ | _ | _ | d <;> first | lia | decide +kernel
 refine ⟨⟨[some (.ref 0), some (.int k), some par, some (.int c), some (.int d), some (.str x), some (.int p), some (.str (oj x)), some (.str (ja x)), some (.str (be x c)), some (.str ⟨#[cI k]⟩), some (.str (o6 (cI k) P (wa d))), some (.str (gk d ++ o6 (cI k) P (wa d)))],
  [ev par c d x p, .list (oX x), .list (yx (oj x)), .list [.str (be x 0), .str (be x 1), .str (be x 2), .str (be x 3)], .list [.str (o6 (cI k) P 0), .str (o6 (cI k) P 1), .str (o6 (cI k) P 2)], xX, .tup [.str (be x c), .str (cW (cI k) P d)]]⟩, ?_, rfl, rfl⟩
 unfold mA
 refine du (b7 := [ev par c d x p]) (L := [some (.ref 0), some (.int k), none, none, none, none, none, none, none, none, none, none, none]) rfl rfl ?_
 rw [aG (a := an (ai 0) (pI [ao 2, ao 3, ao 4, ao 5, ao 6])) (ae := ⟨[some (.ref 0), some (.int k), some par, some (.int c), some (.int d), some (.str x), some (.int p), none, none, none, none, none, none], [ev par c d x p]⟩) rfl]
 rw [aG (N.n.a2 par c d p k), aG (N.a3 ..), aG (bx (xB N.l1 N.l2 N.l3 hc))]
 simp only [List.set_cons_succ, List.set_cons_zero, List.cons_append, List.nil_append]
 rw [aG (bx (xA hk))]
 simp only [List.set_cons_succ, List.set_cons_zero, List.cons_append, List.nil_append]
 rw [aG (bx (xz (hM k) hp1 hp2 hP hl hd))]
 simp only [List.set_cons_succ, List.set_cons_zero, List.cons_append, List.nil_append]
 rw [aG (bx (xy hd (Nat.le_trans (lm _) (by decide))))]
 simp only [List.set_cons_succ, List.set_cons_zero, List.cons_append, List.nil_append]
 rw [eK (xx hd (by rw [PySem.Str.length_append]; have := lm (wa d); lia))]
 rfl
noncomputable def pc : Nat → PySem.Str
 | 0 => Str.ofString "a"
 | 1 => Str.ofString "\""
 | 2 => Str.ofString " b"
 | 3 => Str.ofString "\"\""
 | 4 => Str.ofString "ä"
 | _ => Str.ofString "/"
theorem zq {P : Nat → Prop} (h0 : P 0) (h1 : P 1) (h2 : P 2) (h3 : P 3) (h4 : P 4) (h5 : P 5) : ∀ i, i < 6 → P i := by
 intro i h
 rcases i with _ | _ | _ | _ | _ | _ | i <;> first | assumption | lia
theorem vY : ∀ i, i < 6 → ∀ j, j < 6 → uR (pc i ++ pc j) := by
 apply zq <;> apply zq <;> exact ⟨fun par code kind port k => by kernel_rfl⟩
theorem x5 : ∀ i, i < 6 → ∀ j, j < 6 → (decide ((pc i ++ pc j).length ≤ 50) && decide ((ja (pc i ++ pc j)).length ≤ 50) && decide ((oj (pc i ++ pc j)).length ≤ 50)) = true := by
 apply zq <;> apply zq <;> decide +kernel
theorem vX {x : PySem.Str} (h1 : x.length ≤ 50) (h2 : (ja x).length ≤ 50) (v0 v1 v2 v3 v4 v6 v7 v8 v9 v10 v11 v12 : Option V) (H : List O) : A3 ⟨[v0, v1, v2, v3, v4, some (.str x), v6, v7, v8, v9, v10, v11, v12], H⟩ = .ok .next ⟨[v0, v1, v2, v3, v4, some (.str x), v6, v7, some (.str (ja x)), v9, v10, v11, v12], H⟩ := by
 refine bx (i := 8) (v := .str (ja x)) (ae := ⟨[v0, v1, v2, v3, v4, some (.str x), v6, v7, v8, v9, v10, v11, v12], H⟩) ?_
 have h3 : (Txt.replace x "\"" "\"\"").length ≤ 50 := by
  unfold ja at h2; rw [PySem.Str.length_append] at h2; lia
 have lq2 : (Str.ofString "\"\"").length = 2 := by decide +kernel
 have ne : (Str.ofString "\"" == Str.ofString "\"\"") = false := by decide +kernel
 show (if x.length ≤ 1000 ∧ (Str.ofString "\"").length ≤ 1000 ∧ (Str.ofString "\"\"").length ≤ 1000 ∧ ((Str.ofString "\"").length + (Txt.replace x "\"" "\"\"").length ≤ sizeLine) ∧ (Str.ofString "\"" == Str.ofString "\"\"") = false then _ else _) = _
 rw [if_pos ⟨by lia, by rw [tJ]; decide, by rw [lq2]; decide, by rw [tJ]; show _ ≤ 16777216; lia, ne⟩]
 rfl
theorem x4 {i j : Nat} (hi : i < 6) (hj : j < 6) : wS (pc i ++ pc j) := by
 have h := x5 i hi j hj
 simp only [Bool.and_eq_true, decide_eq_true_eq] at h
 exact ⟨vY i hi j hj, fun v0 v1 v2 v3 v4 v6 v7 v8 v9 v10 v11 v12 H => vX h.1.1 h.1.2 .., h.1.1, h.1.2, h.2⟩
noncomputable def fU (x : PySem.Str) (c : Nat) : Bool := match fc [.str (be x c), .none] [] with
 | .ok v τ => (match c with
  | 0 => decide (v = .str x)
  | 1 => decide (v = .str x)
  | 2 => decide (v = .str "")
  | _ => match v with
   | .ref r => decide (τ.heap[r]? = some (.tup [.str "other code", .str (be x 3)]))
   | _ => false)
 | _ => false
theorem tz : ∀ i, i < 6 → ∀ j, j < 6 → (fU (pc i ++ pc j) 0 && fU (pc i ++ pc j) 1 && fU (pc i ++ pc j) 2 && fU (pc i ++ pc j) 3) = true := by
 apply zq <;> apply zq <;> decide +kernel
noncomputable abbrev B3 : St → zZ F := an (bI 11 (ai 5) (aa true) (aC (aj (ai 11) (aa [])) xZ)) (ao 9)
noncomputable abbrev B4 : St → zZ F := zE (gA (aB (aW CmpOp.Eq (ai 3) (aa (V.int 0)))) (gA (aB (aW CmpOp.NotEq (bu (aj (bp br (a7 bH ia (ai 7) (aj (aa (V.str " ")) (aa []))) fun σ => (aa (V.int 1) σ).bind tv) (aj (aC (aj (aC (aj (bp br (a7 bH ia (ai 7) (aj (aa (V.str " ")) (aa []))) fun σ => (aa (V.int 1) σ).bind tv) (aa [])) (bQ tD)) (aa [])) qW) (aa [])))) (bu (aj (aC (aj (ai 9) (aa [])) (bQ tC)) (aj (ai 9) (aa [])))))) (aa true))) (dg (aa (V.bool false))) (aa F.next)
theorem vW : ∀ i, i < 6 → ∀ j, j < 6 → ∀ (v0 v1 v2 v3 v4 v6 v7 v8 v9 v10 : Option V) (o1 o2 : O),
  B3 ⟨[v0, v1, v2, v3, v4, some (.str (pc i ++ pc j)), v6, v7, v8, v9, v10], [o1, o2]⟩ = .ok .next ⟨[v0, v1, v2, v3, v4, some (.str (pc i ++ pc j)), v6, v7, v8, some (.ref 2), v10], [o1, o2, .list (oX (pc i ++ pc j))]⟩ := by
 apply zq <;> apply zq <;> exact fun v0 v1 v2 v3 v4 v6 v7 v8 v9 v10 o1 o2 => by kernel_rfl
noncomputable def ut (x : PySem.Str) : O := .list ((Txt.split (be x 0) " ").map .str)
noncomputable def yh (x : PySem.Str) : List O := [ut x, ut x, .list (oX x), .list [.str (oj x), .ref 5], .list [.str (oj x), .ref 2]]
theorem xt {c : Nat} (hc : 0 < c) {v0 v1 v2 v4 v5 v6 v7 v8 v9 v10 : Option V} {H : List O} : B4 ⟨[v0, v1, v2, some (.int c), v4, v5, v6, v7, v8, v9, v10], H⟩ = .ok .next ⟨[v0, v1, v2, some (.int c), v4, v5, v6, v7, v8, v9, v10], H⟩ := by
 have : ((c : Int) == 0) = false := by simp; lia
 have h2 : ¬ (c : Int) = 0 := by lia
 have h3 : ¬ c = 0 := by lia
 simp [B4, zE, aB, aW, bp, ai, aa, j4, eqB, dataOf, zH, bT, h2, h3]
theorem vV : ∀ i, i < 6 → ∀ j, j < 6 → ∀ (par : V) (d p k : Int) (X : PySem.Str),
  B4 ⟨[some (.ref 0), some (.int k), some par, some (.int 0), some (.int d), some (.str (pc i ++ pc j)), some (.int p), some (.str (be (pc i ++ pc j) 0)), some (.str X), some (.ref 2), none], [ev par 0 d (pc i ++ pc j) p, .tup [.str (be (pc i ++ pc j) 0), .str X], .list (oX (pc i ++ pc j))]⟩
  = .ok .next ⟨[some (.ref 0), some (.int k), some par, some (.int 0), some (.int d), some (.str (pc i ++ pc j)), some (.int p), some (.str (be (pc i ++ pc j) 0)), some (.str X), some (.ref 2), none], [ev par 0 d (pc i ++ pc j) p, .tup [.str (be (pc i ++ pc j) 0), .str X], .list (oX (pc i ++ pc j))] ++ yh (pc i ++ pc j)⟩ := by
 apply zq <;> apply zq <;> exact fun par d p k X => by kernel_rfl
noncomputable def bV (k : Nat) : PySem.Str := Str.ofString "10.0.0." ++ Str.ofString (toString (k : Int))
noncomputable abbrev hostM : St → zZ V := aR Operator.Add (aa (V.str "10.0.0.")) (aC (aj (ai 1) (aa [])) nt)
theorem nG {k : Nat} (hk : k < 6) {v0 v2 v3 v4 v5 v6 v7 v8 v9 v10 : Option V} {H : List O} :
  hostM ⟨[v0, some (.int k), v2, v3, v4, v5, v6, v7, v8, v9, v10], H⟩ = .ok (.str (bV k)) ⟨[v0, some (.int k), v2, v3, v4, v5, v6, v7, v8, v9, v10], H⟩ := by
 rcases k with _ | _ | _ | _ | _ | _ | k <;> first | lia | kernel_rfl
theorem cN {ms : St → zZ (List V)} {σ ae : St} {vs : List V} (h : ms σ = .ok vs ae) (hl : vs.length ≤ 1000) : bu ms σ = .ok (.ref ae.heap.length) { ae with heap := ae.heap ++ [.list vs] } := by
 unfold bu
 rw [h, zZ.bind_ok, if_pos (by show vs.length ≤ 16777216; lia)]
theorem j9 {ms : St → zZ (List V)} {σ ae : St} {vs : List V} (h : ms σ = .ok vs ae) (hl : vs.length ≤ 1000) : hY ms σ = .ok (.ref ae.heap.length) { ae with heap := ae.heap ++ [.tup vs] } := by
 unfold hY
 rw [h, zZ.bind_ok, if_pos (by show vs.length ≤ 16777216; lia)]
theorem aX {m : St → zZ V} {ms : St → zZ (List V)} {σ ae aq : St} {v : V} {vs : List V} (h : m σ = .ok v ae) (h2 : ms ae = .ok vs aq) : aj m ms σ = .ok (v :: vs) aq := by
 unfold aj
 rw [h, zZ.bind_ok, h2]; rfl
noncomputable abbrev T5m : St → zZ (List V) := (aj (ai 5) (aj (ai 5) (aj (aa (V.str "")) (aj (hY (aj (aa (V.str "other code")) (aj (ai 7) (aa [])))) (aa [])))))
noncomputable abbrev B5 : St → zZ F := an (bu (aj (bp br (bu (aj (ai 5) (aj (ai 5) (aj (aa (V.str "")) (aj (hY (aj (aa (V.str "other code")) (aj (ai 7) (aa [])))) (aa [])))))) (ai 3)) (aj (hY (aj (aR Operator.Add (aa (V.str "10.0.0.")) (aC (aj (ai 1) (aa [])) nt)) (aj (ai 6) (aa [])))) (aa [])))) (ao 10)
noncomputable def fu (x : PySem.Str) (n : Nat) : Nat → V
 | 0 => .str x
 | 1 => .str x
 | 2 => .str ""
 | _ => .ref n
noncomputable def iD (x : PySem.Str) (c k : Nat) (p : Int) (n : Nat) : List O := [.tup [.str "other code", .str (be x c)], .list [.str x, .str x, .str "", .ref n], .tup [.str (bV k), .int p], .list [fu x n c, .ref (n + 2)]]
theorem xr {x : PySem.Str} {c k : Nat} (hc : c < 4) (hk : k < 6) {p : Int} {v0 v2 v4 v8 v9 v10 : Option V} {H : List O} :
  B5 ⟨[v0, some (.int k), v2, some (.int c), v4, some (.str x), some (.int p), some (.str (be x c)), v8, v9, v10], H⟩
   = .ok .next ⟨[v0, some (.int k), v2, some (.int c), v4, some (.str x), some (.int p), some (.str (be x c)), v8, v9, some (.ref (H.length + 3))], H ++ iD x c k p H.length⟩ := by
 have e1 := pick_run (ms := T5m) (mi := ai 3) (σ := ⟨[v0, some (.int k), v2, some (.int c), v4, some (.str x), some (.int p), some (.str (be x c)), v8, v9, v10], H⟩)
  (ae := ⟨[v0, some (.int k), v2, some (.int c), v4, some (.str x), some (.int p), some (.str (be x c)), v8, v9, v10], H ++ [.tup [.str "other code", .str (be x c)]]⟩)
  (vs := [.str x, .str x, .str "", .ref H.length]) (j := c) (v := fu x H.length c) rfl (by show 4 ≤ 1000; decide) rfl (by lia) (by rcases c with _ | _ | _ | _ | c <;> first | lia | rfl)
 have e2 := nG hk (v0 := v0) (v2 := v2) (v3 := some (.int c)) (v4 := v4) (v5 := some (.str x)) (v6 := some (.int p)) (v7 := some (.str (be x c))) (v8 := v8) (v9 := v9) (v10 := v10) (H := (H ++ [.tup [.str "other code", .str (be x c)]]) ++ [.list [.str x, .str x, .str "", .ref H.length]])
 have e3 := j9 (aX e2 (aX (m := ai 6) rfl (ms := aa []) rfl)) (by show 2 ≤ 1000; decide)
 have e4 := cN (aX e1 (aX e3 (ms := aa []) rfl)) (by show 2 ≤ 1000; decide)
 simp only [List.append_assoc, List.length_append, List.length_cons, List.length_nil, List.cons_append, List.nil_append, Nat.zero_add, Nat.reduceAdd] at e4
 have e5 := bx (i := 10) e4
 simp only [List.set_cons_succ, List.set_cons_zero] at e5
 exact e5
noncomputable def rS (d : Nat) : PySem.Str := if d = 5 then Str.ofString "other code" else Str.ofString "no port"
noncomputable abbrev E6 : St → zZ V := (hY (aj (zE (aB (aW CmpOp.Eq (ai 4) (aa (V.int 5)))) (aa (V.str "other code")) (aa (V.str "no port"))) (aj (ai 8) (aa []))))
noncomputable abbrev B6 : St → zZ F := zE (aB (aW CmpOp.Gt (ai 4) (aa (V.int 0)))) (an E6 (pR (ai 10) (aa (V.int 1)))) (aa F.next)
theorem gt_int (a b : Int) (σ : St) : j4 .Gt (.int a) (.int b) σ = .ok (.bool (decide (b < a))) σ := rfl
theorem eq_int (a b : Int) (σ : St) : j4 .Eq (.int a) (.int b) σ = .ok (.bool (a == b)) σ := rfl
theorem sO {v0 v1 v2 v3 v5 v6 v7 v8 v9 v10 : Option V} {H : List O} : B6 ⟨[v0, v1, v2, v3, some (.int (0 : Nat)), v5, v6, v7, v8, v9, v10], H⟩ = .ok .next ⟨[v0, v1, v2, v3, some (.int (0 : Nat)), v5, v6, v7, v8, v9, v10], H⟩ := rfl
theorem xj {l k : Nat} {xs : List V} {v : V} {σ : St} (h : σ.heap[l]? = some (.list xs)) (hk : k < xs.length) (hk2 : k < 1000) : wZ (.ref l) (.int (k : Int)) v σ = .ok () { σ with heap := σ.heap.set l (.list (xs.set k v)) } := by
 rw [qu h, if_pos (by lia), show ((k : Int).toNat) = k by lia]
theorem xm {d : Nat} {X : PySem.Str} {v0 v1 v2 v3 v5 v6 v7 v9 v10 : Option V} {H : List O} :
  E6 ⟨[v0, v1, v2, v3, some (.int d), v5, v6, v7, some (.str X), v9, v10], H⟩ = .ok (.ref H.length) ⟨[v0, v1, v2, v3, some (.int d), v5, v6, v7, some (.str X), v9, v10], H ++ [.tup [.str (rS d), .str X]]⟩ := by
 have e : (zE (aB (aW CmpOp.Eq (ai 4) (aa (V.int 5)))) (aa (V.str "other code")) (aa (V.str "no port"))) ⟨[v0, v1, v2, v3, some (.int d), v5, v6, v7, some (.str X), v9, v10], H⟩ = .ok (.str (rS d)) ⟨[v0, v1, v2, v3, some (.int d), v5, v6, v7, some (.str X), v9, v10], H⟩ := by
  by_cases h : d = 5
  ·subst h; rfl
  ·have h2 : ¬ (d : Int) = 5 := by lia
   simp [zE, aB, aW, bp, ai, aa, eq_int, bT, h2, rS, h]
 exact j9 (aX e (aX (m := ai 8) rfl (ms := aa []) rfl)) (by show 2 ≤ 1000; decide)
noncomputable def tR (x X : PySem.Str) (c d k : Nat) (p : Int) (n : Nat) : List O := [.tup [.str "other code", .str (be x c)], .list [.str x, .str x, .str "", .ref n], .tup [.str (bV k), .int p], .list [fu x n c, .ref (n + 4)], .tup [.str (rS d), .str X]]
theorem xq {x X : PySem.Str} {c d k : Nat} (hd : 0 < d) {p : Int} {v0 v1 v2 v3 v5 v6 v7 v9 : Option V} {H : List O} :
  B6 ⟨[v0, v1, v2, v3, some (.int d), v5, v6, v7, some (.str X), v9, some (.ref (H.length + 3))], H ++ iD x c k p H.length⟩
   = .ok .next ⟨[v0, v1, v2, v3, some (.int d), v5, v6, v7, some (.str X), v9, some (.ref (H.length + 3))], H ++ tR x X c d k p H.length⟩ := by
 have hg : decide ((0 : Int) < (d : Int)) = true := by simp; lia
 have e6 := xm (d := d) (X := X) (v0 := v0) (v1 := v1) (v2 := v2) (v3 := v3) (v5 := v5) (v6 := v6) (v7 := v7) (v9 := v9) (v10 := some (.ref (H.length + 3))) (H := H ++ iD x c k p H.length)
 have es := xj (l := H.length + 3) (k := 1) (xs := [fu x H.length c, .ref (H.length + 2)]) (v := .ref (H ++ iD x c k p H.length).length) (σ := ⟨[v0, v1, v2, v3, some (.int d), v5, v6, v7, some (.str X), v9, some (.ref (H.length + 3))], (H ++ iD x c k p H.length) ++ [.tup [.str (rS d), .str X]]⟩) (by simp [iD]) (by simp) (by lia)
 have e : (an E6 (pR (ai 10) (aa (V.int 1)))) ⟨[v0, v1, v2, v3, some (.int d), v5, v6, v7, some (.str X), v9, some (.ref (H.length + 3))], H ++ iD x c k p H.length⟩ = .ok .next ⟨[v0, v1, v2, v3, some (.int d), v5, v6, v7, some (.str X), v9, some (.ref (H.length + 3))], H ++ tR x X c d k p H.length⟩ := by
  unfold an
  rw [e6, zZ.bind_ok]
  show ((wZ (.ref (H.length + 3)) (.int ((1 : Nat) : Int)) _ _).bind _) = _
  rw [es, zZ.bind_ok]
  simp [iD, tR, List.set_append]
 show ((aB (aW CmpOp.Gt (ai 4) (aa (V.int 0))) _).bind _) = _
 have et : aB (aW CmpOp.Gt (ai 4) (aa (V.int 0))) ⟨[v0, v1, v2, v3, some (.int d), v5, v6, v7, some (.str X), v9, some (.ref (H.length + 3))], H ++ iD x c k p H.length⟩ = .ok true ⟨[v0, v1, v2, v3, some (.int d), v5, v6, v7, some (.str X), v9, some (.ref (H.length + 3))], H ++ iD x c k p H.length⟩ := by
  simp [aB, aW, bp, ai, aa, gt_int, bT, hg]
  lia
 rw [et, zZ.bind_ok]
 exact e
theorem qN {c : Nat} (hc : c = 124 ∨ c = 33 ∨ c = 35) {ds : List Nat} (hl : ds.length = 4 ∨ ds.length = 5) :
  cW c ⟨ds.toArray⟩ 0 = ⟨([50, 50, 57, 32, 97, 116, 32, 40, c, c, c] ++ ds ++ [c, 41]).toArray⟩ ∧
  cW c ⟨ds.toArray⟩ 1 = ⟨([50, 50, 57, 32, 97, 116, 32, c, c, c] ++ ds ++ [c, 41]).toArray⟩ ∧
  cW c ⟨ds.toArray⟩ 2 = ⟨([50, 50, 57, 32, 97, 116, 32, 40, c, c, c] ++ ds ++ [c]).toArray⟩ ∧
  cW c ⟨ds.toArray⟩ 3 = ⟨([50, 50, 57, 32, 97, 116, 32, 40, c, c, c] ++ ds ++ [45, 41]).toArray⟩ ∧
  cW c ⟨ds.toArray⟩ 4 = ⟨([50, 50, 57, 32, 97, 116, 32, 40, c, c] ++ ds ++ [c, 41]).toArray⟩ ∧
  cW c ⟨ds.toArray⟩ 5 = ⟨([50, 51, 48, 32, 97, 116, 32, 40, c, c, c] ++ ds ++ [c, 41]).toArray⟩ := by
 rcases hl with hl | hl
 ·obtain ⟨a1, a2, a3, a4, rfl⟩ := eN hl
  rcases hc with rfl | rfl | rfl <;> exact ⟨by kernel_rfl, by kernel_rfl, by kernel_rfl, by kernel_rfl, by kernel_rfl, by kernel_rfl⟩
 ·obtain ⟨a1, a2, a3, a4, a5, rfl⟩ := fC hl
  rcases hc with rfl | rfl | rfl <;> exact ⟨by kernel_rfl, by kernel_rfl, by kernel_rfl, by kernel_rfl, by kernel_rfl, by kernel_rfl⟩
noncomputable def lJ (d : Nat) (host X : PySem.Str) (p : Int) : O := if d = 0 then .tup [.str host, .int p] else .tup [.str (rS d), .str X]
theorem pB {c : Nat} (hc : c = 124 ∨ c = 33 ∨ c = 35) {ds : List Nat} (hd : ∀ e ∈ ds, 48 ≤ e ∧ e ≤ 57) (hl : ds.length = 4 ∨ ds.length = 5) {p : Int} (hp : PySem.intText? ⟨ds.toArray⟩ = some p) {host : PySem.Str} {d : Nat} (h6 : d < 6) :
  ∃ τ r, fc [.str (cW c ⟨ds.toArray⟩ d), .ref 0] [peer host] = .ok (.ref r) τ ∧ τ.heap.take 1 = [peer host] ∧ τ.heap[r]? = some (lJ d host (cW c ⟨ds.toArray⟩ d) p) ∧ 1 ≤ r := by
 obtain ⟨o0, o1, o2, o3, o4, o5⟩ := qN hc hl
 rcases d with _ | _ | _ | _ | _ | _ | d
 ·rw [o0]
  obtain ⟨τ, h1, h2, h3⟩ := tj (host := host) hc hd hl hp
  obtain ⟨τ', e1, e2⟩ := pD h1 h2 h3
  exact ⟨τ', 1, e1, by rw [e2]; rfl, by rw [e2]; rfl, Nat.le_refl _⟩
 ·rw [o1]
  obtain ⟨τ, h1, h2⟩ := ti (host := host) hc hd hl
  obtain ⟨τ', e1, e2⟩ := eR (.inr rfl) h1 h2
  exact ⟨τ', 3, e1, by rw [e2]; rfl, by rw [e2]; rfl, by decide⟩
 ·rw [o2]
  obtain ⟨τ, h1, h2⟩ := tg (host := host) hc hd hl
  obtain ⟨τ', e1, e2⟩ := eR (.inr rfl) h1 h2
  exact ⟨τ', 3, e1, by rw [e2]; rfl, by rw [e2]; rfl, by decide⟩
 ·rw [o3]
  obtain ⟨τ, h1, h2⟩ := tf (host := host) hc hd hl
  obtain ⟨τ', e1, e2⟩ := eR (.inr rfl) h1 h2
  exact ⟨τ', 3, e1, by rw [e2]; rfl, by rw [e2]; rfl, by decide⟩
 ·rw [o4]
  obtain ⟨τ, h1, h2⟩ := te (host := host) hc hd hl
  obtain ⟨τ', e1, e2⟩ := eR (.inr rfl) h1 h2
  exact ⟨τ', 3, e1, by rw [e2]; rfl, by rw [e2]; rfl, by decide⟩
 ·rw [o5]
  obtain ⟨τ, h1, h2⟩ := td (host := host) hc hd hl
  obtain ⟨τ', e1, e2⟩ := eR (.inl rfl) h1 h2
  exact ⟨τ', 3, e1, by rw [e2]; rfl, by rw [e2]; rfl, by decide⟩
 ·lia
noncomputable def d8 (x : PySem.Str) (c : Nat) : List O := if c < 3 then [] else [.tup [.str "other code", .str (be x c)]]
theorem pC {x : PySem.Str} {c : Nat} (hc : c < 4) (h : fU x c = true) {σ : St} (hd : σ.heap.all noDict = true) :
  bQ fc [.str (be x c), .none] σ = .ok (fu x σ.heap.length c) { σ with heap := σ.heap ++ d8 x c } := by
 unfold fU at h
 cases q : fc [.str (be x c), .none] [] with
 | bad => rw [q] at h; cases h
 | exc => rw [q] at h; cases h
 | ok v τ =>
  rw [q] at h
  have nil : σ.heap ++ [] = σ.heap := List.append_nil _
  rcases c with _ | _ | _ | _ | c
  ·have hv : v = .str x := by simpa using h
   subst hv
   rw [fV (H0 := []) rfl hd q rfl rfl]
   show _ = zZ.ok _ { σ with heap := σ.heap ++ [] }
   rw [nil]; rfl
  ·have hv : v = .str x := by simpa using h
   subst hv
   rw [fV (H0 := []) rfl hd q rfl rfl]
   show _ = zZ.ok _ { σ with heap := σ.heap ++ [] }
   rw [nil]; rfl
  ·have hv : v = .str "" := by simpa using h
   subst hv
   rw [fV (H0 := []) rfl hd q rfl rfl]
   show _ = zZ.ok _ { σ with heap := σ.heap ++ [] }
   rw [nil]; rfl
  ·dsimp only at h
   cases v with
   | ref r =>
    have hr : τ.heap[r]? = some (.tup [.str "other code", .str (be x 3)]) := by simpa using h
    exact hV (H0 := []) rfl hd q rfl hr (Nat.zero_le _) rfl
   | _ => cases h
  ·lia
theorem iI {n l : Nat} {xs : List V} {ds : List PyData} {H : List O} (h : H[l]? = some (.list xs)) (hm : xs.mapM (dataOf n H) = some ds) : dataOf (n + 1) H (.ref l) = some (.list ds) := by
 rw [n6 h, asL_k, Option.bind_some, hm]; rfl
theorem tZ {n l : Nat} {xs : List V} {ds : List PyData} {H : List O} (h : H[l]? = some (.tup xs)) (hm : xs.mapM (dataOf n H) = some ds) : dataOf (n + 1) H (.ref l) = some (.tuple ds) := by
 rw [n6 h, asU_k, Option.bind_some, hm]; rfl
theorem map2 {n : Nat} {a b : V} {da db : PyData} {H : List O} (ha : dataOf n H a = some da) (hb : dataOf n H b = some db) : [a, b].mapM (dataOf n H) = some [da, db] := by
 rw [List.mapM_cons, ha, List.mapM_cons, hb]; rfl
theorem js {n l : Nat} {a b : V} {da db : PyData} {H : List O} (h : H[l]? = some (.list [a, b])) (ha : dataOf n H a = some da) (hb : dataOf n H b = some db) : dataOf (n + 1) H (.ref l) = some (.list [da, db]) := by
 exact iI h (map2 ha hb)
theorem iH {n l : Nat} {a b : V} {da db : PyData} {H : List O} (h : H[l]? = some (.tup [a, b])) (ha : dataOf n H a = some da) (hb : dataOf n H b = some db) : dataOf (n + 1) H (.ref l) = some (.tuple [da, db]) := by
 exact tZ h (map2 ha hb)
theorem eq_data {a b : Nat} {D : PyData} {σ : St} (ha : dataOf 8 σ.heap (.ref a) = some D) (hb : dataOf 8 σ.heap (.ref b) = some D) (hs : SeqAt.shaped D = true) : j4 .Eq (.ref a) (.ref b) σ = .ok (.bool true) σ := by
 show mZ σ (zH σ.heap (.ref a) (.ref b)) = _
 unfold zH
 rw [ha, hb]
 simp only [Option.bind_some, hs, Bool.and_self, if_true, SeqAt.eqv_refl D (SeqAt.canLay_of_shaped hs)]
 rfl
noncomputable def zw (x : PySem.Str) : Bool := PyData.strOk x
theorem vU : ∀ i, i < 6 → ∀ j, j < 6 → (zw (pc i ++ pc j) && zw (be (pc i ++ pc j) 0) && zw (be (pc i ++ pc j) 1) && zw (be (pc i ++ pc j) 2) && zw (be (pc i ++ pc j) 3)) = true := by
 apply zq <;> apply zq <;> decide +kernel
theorem rg : ∀ k, k < 6 → zw (bV k) = true := by
 apply zq <;> decide +kernel
theorem uG : ∀ d, d < 6 → zw (rS d) = true := by
 apply zq <;> decide +kernel
theorem mF {l : List Nat} (h : ∀ c ∈ l, c < 0x110000) : zw ⟨l.toArray⟩ = true := by
 unfold zw PyData.strOk
 simp only [List.all_toArray, List.all_eq_true, decide_eq_true_eq]
 exact h
theorem x8 {ds : List Nat} (hd : ∀ e ∈ ds, 48 ≤ e ∧ e ≤ 57) (A B : List Nat) (hA : A.all (fun e => Nat.blt e 0x110000) = true) (hB : B.all (fun e => Nat.blt e 0x110000) = true) : zw ⟨(A ++ ds ++ B).toArray⟩ = true := by
 rw [List.all_eq_true] at hA hB
 refine mF fun e he => ?_
 rw [List.mem_append, List.mem_append] at he
 rcases he with (h | h) | h
 ·exact Nat.le_of_ble_eq_true (hA e h)
 ·exact Nat.lt_of_le_of_lt (hd e h).2 (by decide)
 ·exact Nat.le_of_ble_eq_true (hB e h)
theorem qM {c : Nat} (hc : c = 124 ∨ c = 33 ∨ c = 35) {ds : List Nat} (hd : ∀ e ∈ ds, 48 ≤ e ∧ e ≤ 57) (hl : ds.length = 4 ∨ ds.length = 5) {d : Nat} (h6 : d < 6) : zw (cW c ⟨ds.toArray⟩ d) = true := by
 obtain ⟨o0, o1, o2, o3, o4, o5⟩ := qN hc hl
 have M := x8 hd
 refine zq (P := fun d => zw (cW c ⟨ds.toArray⟩ d) = true) ?_ ?_ ?_ ?_ ?_ ?_ d h6
 ·rw [o0]; rcases hc with rfl | rfl | rfl <;> exact M _ _ rfl rfl
 ·rw [o1]; rcases hc with rfl | rfl | rfl <;> exact M _ _ rfl rfl
 ·rw [o2]; rcases hc with rfl | rfl | rfl <;> exact M _ _ rfl rfl
 ·rw [o3]; rcases hc with rfl | rfl | rfl <;> exact M _ _ rfl rfl
 ·rw [o4]; rcases hc with rfl | rfl | rfl <;> exact M _ _ rfl rfl
 ·rw [o5]; rcases hc with rfl | rfl | rfl <;> exact M _ _ rfl rfl
noncomputable abbrev AM : St → zZ V := aC (aj (ai 7) (aj (aa V.none) (aa []))) (bQ fc)
noncomputable abbrev AO : St → zZ V := (aC (aj (ai 8) (aj (hY (aj (aR Operator.Add (aa (V.str "10.0.0.")) (aC (aj (ai 1) (aa [])) nt)) (aj (aa (V.int 21)) (aa [])))) (aa []))) (bQ fc))
theorem bW {ms : St → zZ (List V)} {g : List V → St → zZ V} {σ ae : St} {vs : List V} (h : ms σ = .ok vs ae) : aC ms g σ = g vs ae := by
 unfold aC; rw [h]; rfl
theorem xw {x : PySem.Str} {c : Nat} (hc : c < 4) (h : fU x c = true) {v0 v1 v2 v3 v4 v5 v6 v8 v9 v10 : Option V} {H : List O} (hd : H.all noDict = true) :
  AM ⟨[v0, v1, v2, v3, v4, v5, v6, some (.str (be x c)), v8, v9, v10], H⟩ = .ok (fu x H.length c) ⟨[v0, v1, v2, v3, v4, v5, v6, some (.str (be x c)), v8, v9, v10], H ++ d8 x c⟩ := by
 refine (bW (ms := aj (ai 7) (aj (aa V.none) (aa []))) (vs := [.str (be x c), .none]) (ae := ⟨[v0, v1, v2, v3, v4, v5, v6, some (.str (be x c)), v8, v9, v10], H⟩) rfl).trans ?_
 exact pC hc h hd
theorem xv {X : PySem.Str} {d k : Nat} (hk : k < 6) {p : Int} {τ : St} {r : Nat} (h1 : fc [.str X, .ref 0] [peer (bV k)] = .ok (.ref r) τ) (h2 : τ.heap.take 1 = [peer (bV k)]) (h3 : τ.heap[r]? = some (lJ d (bV k) X p)) (h4 : 1 ≤ r)
  {v0 v2 v3 v4 v5 v6 v7 v9 v10 : Option V} {H : List O} (hd : H.all noDict = true) :
  AO ⟨[v0, some (.int k), v2, v3, v4, v5, v6, v7, some (.str X), v9, v10], H⟩ = .ok (.ref (H.length + 1)) ⟨[v0, some (.int k), v2, v3, v4, v5, v6, v7, some (.str X), v9, v10], H ++ [peer (bV k), lJ d (bV k) X p]⟩ := by
 have e2 := nG hk (v0 := v0) (v2 := v2) (v3 := v3) (v4 := v4) (v5 := v5) (v6 := v6) (v7 := v7) (v8 := some (.str X)) (v9 := v9) (v10 := v10) (H := H)
 have e3 := j9 (aX e2 (aX (m := aa (.int 21)) rfl (ms := aa []) rfl)) (by show 2 ≤ 1000; decide)
 have e4 : aj (ai 8) _ ⟨[v0, some (.int k), v2, v3, v4, v5, v6, v7, some (.str X), v9, v10], H⟩ = _ := aX (v := .str X) (m := ai 8) rfl (aX e3 (ms := aa []) rfl)
 refine (bW e4).trans ?_
 have hfl : gw (lJ d (bV k) X p) = true := by unfold lJ; split <;> rfl
 have hz : zm [.str X, .ref H.length] (H ++ [peer (bV k)]) = some ([.str X, .ref 0], [peer (bV k)]) := by
  have hr : refsOf [V.str X, .ref H.length] = [H.length] := rfl
  have this : (H ++ [peer (bV k)])[H.length]? = some (peer (bV k)) := by simp
  unfold zm
  rw [hr]
  simp only [this]
  rfl
 have hd2 : (H ++ [peer (bV k)]).all noDict = true := by rw [List.all_append, hd]; rfl
 have e5 := hV (σ := ⟨[v0, some (.int k), v2, v3, v4, v5, v6, v7, some (.str X), v9, v10], H ++ [peer (bV k)]⟩) (vs := [.str X, .ref H.length]) (H0 := [peer (bV k)]) hz hd2 h1 h2 h3 h4 hfl
 refine e5.trans ?_
 simp
noncomputable def yu (x : PySem.Str) : Nat → PyData
 | 0 => .str x
 | 1 => .str x
 | 2 => .str ""
 | _ => .tuple [.str "other code", .str (be x 3)]
noncomputable def w9 (d : Nat) (host X : PySem.Str) (p : Int) : PyData := if d = 0 then .tuple [.str host, .int p] else .tuple [.str (rS d), .str X]
theorem lC {x : PySem.Str} {c n : Nat} (hc : c < 4) {H : List O} (h : c = 3 → H[n]? = some (.tup [.str "other code", .str (be x 3)])) : dataOf 7 H (fu x n c) = some (yu x c) := by
 rcases c with _ | _ | _ | _ | c
 ·rfl
 ·rfl
 ·rfl
 ·exact iH (h rfl) rfl rfl
 ·lia
theorem n7 {d m : Nat} {host X : PySem.Str} {p : Int} {H : List O} (h : H[m]? = some (lJ d host X p)) : dataOf 7 H (.ref m) = some (w9 d host X p) := by
 unfold lJ at h
 unfold w9
 split at h <;> rename_i q
 ·rw [if_pos q]; exact iH h rfl rfl
 ·rw [if_neg q]; exact iH h rfl rfl
theorem oK {x host X : PySem.Str} {c d : Nat} {p : Int} (h1 : zw x = true) (h2 : zw (be x 3) = true) (h3 : zw host = true) (h4 : zw X = true) (h5 : zw (rS d) = true) : SeqAt.shaped (.list [yu x c, w9 d host X p]) = true := by
 have e1 : PyData.strOk "" = true := by decide +kernel
 have e2 : PyData.strOk "other code" = true := by decide +kernel
 unfold zw at h1 h2 h3 h4 h5
 unfold w9
 rcases c with _ | _ | _ | c <;> split <;> simp [yu, SeqAt.shaped, PyData.canLay0, PyData.canLayAll0, PyData.depth, PyData.depthAll, h1, h2, h3, h4, h5, e1, e2]
theorem un {x X : PySem.Str} {c d k : Nat} (hc : c < 4) (hk : k < 6) (ha : fU x c = true) {p : Int} {τ : St} {r : Nat} (h1 : fc [.str X, .ref 0] [peer (bV k)] = .ok (.ref r) τ) (h2 : τ.heap.take 1 = [peer (bV k)]) (h3 : τ.heap[r]? = some (lJ d (bV k) X p)) (h4 : 1 ≤ r)
  {q n m : Nat} {G : List O} (hq : G[q]? = some (.list [fu x n c, .ref m])) (hn : G[n]? = some (.tup [.str "other code", .str (be x c)])) (hm : G[m]? = some (lJ d (bV k) X p)) (hd : G.all noDict = true)
  (o1 : zw x = true) (o2 : zw (be x 3) = true) (o3 : zw (bV k) = true) (o4 : zw X = true) (o5 : zw (rS d) = true) {v0 v2 v3 v4 v5 v6 v9 : Option V} :
  ∃ E, dg (aW CmpOp.Eq (bu (aj AM (aj AO (aa [])))) (ai 10)) ⟨[v0, some (.int k), v2, v3, v4, v5, v6, some (.str (be x c)), some (.str X), v9, some (.ref q)], G⟩ = .ok (.ret (.bool true)) ⟨[v0, some (.int k), v2, v3, v4, v5, v6, some (.str (be x c)), some (.str X), v9, some (.ref q)], G ++ E⟩ := by
 have e1 := xw hc ha (v0 := v0) (v1 := some (.int k)) (v2 := v2) (v3 := v3) (v4 := v4) (v5 := v5) (v6 := v6) (v8 := some (.str X)) (v9 := v9) (v10 := some (.ref q)) hd
 have hd1 : (G ++ d8 x c).all noDict = true := by
  rw [List.all_append, hd]; unfold d8; split <;> rfl
 have e2 := xv hk h1 h2 h3 h4 (v0 := v0) (v2 := v2) (v3 := v3) (v4 := v4) (v5 := v5) (v6 := v6) (v7 := some (.str (be x c))) (v9 := v9) (v10 := some (.ref q)) hd1
 have e3 := cN (aX e1 (aX e2 (ms := aa []) rfl)) (by show 2 ≤ 1000; decide)
 refine ⟨d8 x c ++ [peer (bV k), lJ d (bV k) X p] ++ [.list [fu x G.length c, .ref ((G ++ d8 x c).length + 1)]], ?_⟩
 refine eK ?_
 have keep : ∀ {l : Nat} {o : O} (E : List O), G[l]? = some o → (G ++ E)[l]? = some o := fun E h => by
  rw [List.getElem?_append_left (List.getElem?_eq_some_iff.mp h).1]; exact h
 have hG : G ++ d8 x c ++ [peer (bV k), lJ d (bV k) X p] ++ [.list [fu x G.length c, .ref ((G ++ d8 x c).length + 1)]] = G ++ (d8 x c ++ [peer (bV k), lJ d (bV k) X p] ++ [.list [fu x G.length c, .ref ((G ++ d8 x c).length + 1)]]) := by simp only [List.append_assoc]
 have d1 : dataOf 8 (G ++ d8 x c ++ [peer (bV k), lJ d (bV k) X p] ++ [.list [fu x G.length c, .ref ((G ++ d8 x c).length + 1)]]) (.ref (G ++ d8 x c ++ [peer (bV k), lJ d (bV k) X p]).length) = some (.list [yu x c, w9 d (bV k) X p]) := by
  refine js (a := fu x G.length c) (b := .ref ((G ++ d8 x c).length + 1)) (by rw [List.getElem?_append_right (Nat.le_refl _)]; simp) (lC hc fun h => ?_) (n7 ?_)
  ·subst h; simp [d8]
  ·rw [List.append_assoc, List.getElem?_append_right (by lia)]; simp
 have d2 : dataOf 8 (G ++ d8 x c ++ [peer (bV k), lJ d (bV k) X p] ++ [.list [fu x G.length c, .ref ((G ++ d8 x c).length + 1)]]) (.ref q) = some (.list [yu x c, w9 d (bV k) X p]) := by
  rw [hG]
  exact js (keep _ hq) (lC hc fun h => keep _ (by rw [hn, h])) (n7 (keep _ hm))
 have ec := eq_data (σ := ⟨[v0, some (.int k), v2, v3, v4, v5, v6, some (.str (be x c)), some (.str X), v9, some (.ref q)], G ++ d8 x c ++ [peer (bV k), lJ d (bV k) X p] ++ [.list [fu x G.length c, .ref ((G ++ d8 x c).length + 1)]]⟩) d1 d2 (oK o1 o2 o3 o4 o5)
 unfold aW bp
 rw [e3, zZ.bind_ok]
 rw [← hG]
 exact ec
theorem yE {i j c : Nat} (hi : i < 6) (hj : j < 6) (hc : c < 4) : fU (pc i ++ pc j) c = true := by
 have h := tz i hi j hj
 simp only [Bool.and_eq_true] at h
 rcases c with _ | _ | _ | _ | c
 ·exact h.1.1.1
 ·exact h.1.1.2
 ·exact h.1.2
 ·exact h.2
 ·lia
theorem xu {x : PySem.Str} (N : wS x) {par : V} (hs : pJ par = true) {c d k : Nat} (hc : c < 4) (hd : d < 6) (hk : k < 6) {p : Int} (hp1 : 1024 ≤ p) (hp2 : p < 61024) {P : PySem.Str} (hP : PySem.Str.ofString (toString p) = P) (hl : P.length ≤ 10) :
  an (aC (aj (ai 0) (aj (ai 1) (aa []))) (bQ mA)) (pI [ao 7, ao 8]) ⟨[some (.ref 0), some (.int k), some par, some (.int c), some (.int d), some (.str x), some (.int p), none, none, none, none], [ev par c d x p]⟩
   = .ok .next ⟨[some (.ref 0), some (.int k), some par, some (.int c), some (.int d), some (.str x), some (.int p), some (.str (be x c)), some (.str (cW (cI k) P d)), none, none], [ev par c d x p, .tup [.str (be x c), .str (cW (cI k) P d)]]⟩ := by
 obtain ⟨τ0, r1, r2, r3⟩ := xF N (par := par) hc hd hk hp1 hp2 hP hl
 have hf : gw (ev par c d x p) = true := by cases par <;> first | rfl | cases hs
 have hz : zm [.ref 0, .int k] [ev par c d x p] = some ([.ref 0, .int k], [ev par c d x p]) := by
  show (if gw (ev par c d x p) then some ([V.ref 0, .int k].map (zr fun _ => 0), [ev par c d x p]) else none) = _
  rw [hf]; rfl
 have e := hV (σ := ⟨[some (.ref 0), some (.int k), some par, some (.int c), some (.int d), some (.str x), some (.int p), none, none, none, none], [ev par c d x p]⟩) (vs := [.ref 0, .int k]) hz rfl r1 r2 r3 (by show 1 ≤ 6; decide) rfl
 unfold an
 rw [bW (ms := aj (ai 0) (aj (ai 1) (aa []))) (vs := [.ref 0, .int k]) (ae := ⟨[some (.ref 0), some (.int k), some par, some (.int c), some (.int d), some (.str x), some (.int p), none, none, none, none], [ev par c d x p]⟩) rfl, e, zZ.bind_ok]
 rfl
theorem xE {i j : Nat} (hi : i < 6) (hj : j < 6) {par : V} (hs : pJ par = true) {c d k : Nat} (hc : c < 4) (hd : d < 6) (hk : k < 6) {p : Int} (hp1 : 1024 ≤ p) (hp2 : p < 61024) :
  ∃ τ, jM [.ref 0, .int k] [ev par c d (pc i ++ pc j) p] = .ok (.bool true) τ ∧ τ.heap.take 1 = [ev par c d (pc i ++ pc j) p] := by
 obtain ⟨ds, hP, hds, hlen, hint⟩ := qG hp1 hp2
 have N := x4 hi hj
 have hl10 : (⟨ds.toArray⟩ : PySem.Str).length ≤ 10 := by show ds.toArray.size ≤ 10; simp; lia
 have hask := yE hi hj hc
 have hb2 := xu N (par := par) hs hc hd hk hp1 hp2 hP hl10
 have hb3 := vW i hi j hj (some (.ref 0)) (some (.int k)) (some par) (some (.int c)) (some (.int d)) (some (.int p)) (some (.str (be (pc i ++ pc j) c))) (some (.str (cW (cI k) ⟨ds.toArray⟩ d))) none none (ev par c d (pc i ++ pc j) p) (.tup [.str (be (pc i ++ pc j) c), .str (cW (cI k) ⟨ds.toArray⟩ d)])
 have hb4 : ∃ J, J.all noDict = true ∧ B4 ⟨[some (.ref 0), some (.int k), some par, some (.int c), some (.int d), some (.str (pc i ++ pc j)), some (.int p), some (.str (be (pc i ++ pc j) c)), some (.str (cW (cI k) ⟨ds.toArray⟩ d)), some (.ref 2), none], [ev par c d (pc i ++ pc j) p, .tup [.str (be (pc i ++ pc j) c), .str (cW (cI k) ⟨ds.toArray⟩ d)], .list (oX (pc i ++ pc j))]⟩
   = .ok .next ⟨[some (.ref 0), some (.int k), some par, some (.int c), some (.int d), some (.str (pc i ++ pc j)), some (.int p), some (.str (be (pc i ++ pc j) c)), some (.str (cW (cI k) ⟨ds.toArray⟩ d)), some (.ref 2), none], [ev par c d (pc i ++ pc j) p, .tup [.str (be (pc i ++ pc j) c), .str (cW (cI k) ⟨ds.toArray⟩ d)], .list (oX (pc i ++ pc j))] ++ J⟩ := by
  by_cases h : c = 0
  ·subst h
   exact ⟨yh (pc i ++ pc j), rfl, vV i hi j hj par d p k _⟩
  ·exact ⟨[], rfl, by rw [List.append_nil]; exact xt (by lia)⟩
 obtain ⟨J, hJ, hb4⟩ := hb4
 obtain ⟨τ1, r, g1, g2, g3, g4⟩ := pB (host := bV k) (hM k) hds hlen hint hd
 have hH : ([ev par c d (pc i ++ pc j) p, .tup [.str (be (pc i ++ pc j) c), .str (cW (cI k) ⟨ds.toArray⟩ d)], .list (oX (pc i ++ pc j))] ++ J).all noDict = true := by
  rw [List.all_append, hJ]; rfl
 have hok := vU i hi j hj
 simp only [Bool.and_eq_true] at hok
 suffices h : ∃ σf, (∀ b, b = jM → True) ∧ (aM (an (ai 0) (pI [ao 2, ao 3, ao 4, ao 5, ao 6])) (aM (an (aC (aj (ai 0) (aj (ai 1) (aa []))) (bQ mA)) (pI [ao 7, ao 8])) (aM B3 (aM B4 (aM B5 (aM B6 (dg (aW CmpOp.Eq (bu (aj AM (aj AO (aa [])))) (ai 10)))))))))
   ⟨[some (.ref 0), some (.int k), none, none, none, none, none, none, none, none, none], [ev par c d (pc i ++ pc j) p]⟩ = .ok (.ret (.bool true)) σf ∧ σf.heap.take 1 = [ev par c d (pc i ++ pc j) p] by
  obtain ⟨σf, -, h1, h2⟩ := h
  exact ⟨σf, du (b7 := [ev par c d (pc i ++ pc j) p]) rfl rfl h1, h2⟩
 rw [aG (a := an (ai 0) (pI [ao 2, ao 3, ao 4, ao 5, ao 6])) (ae := ⟨[some (.ref 0), some (.int k), some par, some (.int c), some (.int d), some (.str (pc i ++ pc j)), some (.int p), none, none, none, none], [ev par c d (pc i ++ pc j) p]⟩) rfl]
 rw [aG hb2, aG hb3, aG hb4, aG (xr hc hk)]
 by_cases h0 : d = 0
 ·subst h0
  rw [aG sO]
  obtain ⟨E, hE⟩ := un (n := _) (m := _) (d := 0) hc hk hask g1 g2 g3 g4 (q := _) (G := ([ev par c (0 : Nat) (pc i ++ pc j) p, .tup [.str (be (pc i ++ pc j) c), .str (cW (cI k) ⟨ds.toArray⟩ 0)], .list (oX (pc i ++ pc j))] ++ J) ++ iD (pc i ++ pc j) c k p ([ev par c (0 : Nat) (pc i ++ pc j) p, .tup [.str (be (pc i ++ pc j) c), .str (cW (cI k) ⟨ds.toArray⟩ 0)], .list (oX (pc i ++ pc j))] ++ J).length)
   (by rw [List.getElem?_append_right (Nat.le_add_right _ 3), Nat.add_sub_cancel_left]; rfl) (by rw [List.getElem?_append_right (Nat.le_refl _), Nat.sub_self]; rfl) (by rw [List.getElem?_append_right (Nat.le_add_right _ 2), Nat.add_sub_cancel_left]; rfl) (by rw [List.all_append, hH]; rfl) hok.1.1.1.1 hok.2 (rg k hk) (qM (hM k) hds hlen hd) (uG 0 hd)
  exact ⟨_, fun _ _ => trivial, hE, rfl⟩
 ·rw [aG (xq (by lia))]
  obtain ⟨E, hE⟩ := un (n := _) (m := _) (d := d) hc hk hask g1 g2 g3 g4 (q := _) (G := ([ev par c d (pc i ++ pc j) p, .tup [.str (be (pc i ++ pc j) c), .str (cW (cI k) ⟨ds.toArray⟩ d)], .list (oX (pc i ++ pc j))] ++ J) ++ tR (pc i ++ pc j) (cW (cI k) ⟨ds.toArray⟩ d) c d k p ([ev par c d (pc i ++ pc j) p, .tup [.str (be (pc i ++ pc j) c), .str (cW (cI k) ⟨ds.toArray⟩ d)], .list (oX (pc i ++ pc j))] ++ J).length)
   (by rw [List.getElem?_append_right (Nat.le_add_right _ 3), Nat.add_sub_cancel_left]; rfl) (by rw [List.getElem?_append_right (Nat.le_refl _), Nat.sub_self]; rfl) (by rw [List.getElem?_append_right (Nat.le_add_right _ 4), Nat.add_sub_cancel_left]; unfold lJ; rw [if_neg h0]; rfl) (by rw [List.all_append, hH]; rfl) hok.1.1.1.1 hok.2 (rg k hk) (qM (hM k) hds hlen hd) (uG d hd)
  exact ⟨_, fun _ _ => trivial, hE, rfl⟩
noncomputable def fp : Option Nat → V
 | none => .none
 | some p => .int p
noncomputable def de (H : List O) (l : Nat) (par : Nat → Option Nat) : Prop := ∃ ls : List Nat, H[l]? = some (.list (ls.map .ref)) ∧ ls.length = 6 ∧ ∀ k, k < 6 → ∃ m r, ls[k]? = some m ∧ H[m]? = some (.tup (fp (par k) :: r))
theorem bq {β : Type} {f : V → V → St → zZ β} {ml mr : St → zZ V} {σ ae aq : St} {a b : V} (h : ml σ = .ok a ae) (h' : mr ae = .ok b aq) : bp f ml mr σ = f a b aq := by
 unfold bp; rw [h, zZ.bind_ok, h', zZ.bind_ok]
theorem aI {L : List (Option V)} {H : List O} {i : Nat} {v : V} (h : L[i]? = some (some v)) : ai i ⟨L, H⟩ = .ok v ⟨L, H⟩ := by
 unfold ai; simp only [h]; rfl
theorem qH {H : List O} {l : Nat} {par : Nat → Option Nat} (h : de H l par) {k : Nat} (hk : k < 6) {L : List (Option V)} {i j : Nat} (hi : L[i]? = some (some (.ref l))) (hj : L[j]? = some (some (.int k))) :
  bp br (bp br (ai i) (ai j)) (aa (V.int 0)) ⟨L, H⟩ = .ok (fp (par k)) ⟨L, H⟩ := by
 obtain ⟨ls, h1, h2, h3⟩ := h
 obtain ⟨m, r, h4, h5⟩ := h3 k hk
 have e1 : bp br (ai i) (ai j) ⟨L, H⟩ = .ok (.ref m) ⟨L, H⟩ := by
  rw [bq (aI hi) (aI hj)]
  exact item_at h1 (by lia) (by rw [List.getElem?_map, h4]; rfl)
 rw [bq e1 (mr := aa (V.int 0)) rfl]
 exact nk (k := 0) h5 (by lia) rfl
noncomputable def zJ (par : Nat → Option Nat) : Nat → Nat → Nat
 | 0, _ => 0
 | n + 1, k => match par k with
  | none => 0
  | some p => zJ par n p + 1
theorem is_none (v : V) (σ : St) : j4 .Is v .none σ = .ok (.bool (decide (v = .none))) σ := by cases v <;> rfl
theorem eX (v : V) (σ : St) : j4 .IsNot v .none σ = .ok (.bool (!decide (v = .none))) σ := by cases v <;> rfl
theorem bM {m : St → zZ V} {σ ae : St} {b : Bool} (h : m σ = .ok (.bool b) ae) : aB m σ = .ok b ae := by
 unfold aB; rw [h]; rfl
noncomputable abbrev yL : Nat → St → zZ F := bS (gA (aB (aW CmpOp.IsNot (bp br (bp br (ai 0) (ai 1)) (aa (V.int 0))) (aa V.none))) (gA (aB (aW CmpOp.Lt (ai 2) (aa (V.int 7)))) (aa true))) (aM (an (bp br (bp br (ai 0) (ai 1)) (aa (V.int 0))) (ao 1)) (xa Operator.Add 2 (aa (V.int 1)))) (aa F.next)
theorem rW {H : List O} {l : Nat} {par : Nat → Option Nat} (h : de H l par) (hp : ∀ k p, par k = some p → p < 6) : ∀ (n d k f : Nat), d + n = 7 → n < f → k < 6 →
  ∃ k', yL f ⟨[some (.ref l), some (.int k), some (.int d)], H⟩ = .ok .next ⟨[some (.ref l), some (.int k'), some (.int ((d + zJ par n k : Nat) : Int))], H⟩ := by
 intro n
 induction n with
 | zero =>
  intro d k f hd hf hk
  obtain ⟨f, rfl⟩ : ∃ g, f = g + 1 := ⟨f - 1, by lia⟩
  have e := qH h hk (L := [some (.ref l), some (.int k), some (.int d)]) (i := 0) (j := 1) rfl rfl
  have t1 : aB (aW CmpOp.IsNot (bp br (bp br (ai 0) (ai 1)) (aa (V.int 0))) (aa V.none)) ⟨[some (.ref l), some (.int k), some (.int d)], H⟩ = .ok (!decide (fp (par k) = .none)) ⟨[some (.ref l), some (.int k), some (.int d)], H⟩ := bM (by unfold aW; rw [bq e (mr := aa .none) rfl]; exact eX _ _)
  have t2 : aB (aW CmpOp.Lt (ai 2) (aa (V.int 7))) ⟨[some (.ref l), some (.int k), some (.int d)], H⟩ = .ok (decide ((d : Int) < 7)) ⟨[some (.ref l), some (.int k), some (.int d)], H⟩ := rfl
  rw [decide_eq_false (by lia)] at t2
  refine ⟨k, ?_⟩
  unfold yL bS gA zE
  rw [t1, zZ.bind_ok]
  cases hq : par k with
  | none => rfl
  | some p =>
   simp only [fp, decide_false, Bool.not_false, if_true, reduceCtorEq]
   rw [t2]; rfl
 | succ n ih =>
  intro d k f hd hf hk
  obtain ⟨f, rfl⟩ : ∃ g, f = g + 1 := ⟨f - 1, by lia⟩
  have e := qH h hk (L := [some (.ref l), some (.int k), some (.int d)]) (i := 0) (j := 1) rfl rfl
  have t1 : aB (aW CmpOp.IsNot (bp br (bp br (ai 0) (ai 1)) (aa (V.int 0))) (aa V.none)) ⟨[some (.ref l), some (.int k), some (.int d)], H⟩ = .ok (!decide (fp (par k) = .none)) ⟨[some (.ref l), some (.int k), some (.int d)], H⟩ := bM (by unfold aW; rw [bq e (mr := aa .none) rfl]; exact eX _ _)
  have t2 : aB (aW CmpOp.Lt (ai 2) (aa (V.int 7))) ⟨[some (.ref l), some (.int k), some (.int d)], H⟩ = .ok (decide ((d : Int) < 7)) ⟨[some (.ref l), some (.int k), some (.int d)], H⟩ := rfl
  rw [decide_eq_true (by lia)] at t2
  cases hq : par k with
  | none =>
   refine ⟨k, ?_⟩
   unfold yL bS gA zE
   rw [t1, zZ.bind_ok, hq]
   simp only [zJ, hq]
   rfl
  | some p =>
   obtain ⟨k', ih⟩ := ih (d + 1) p f (by lia) (by lia) (hp _ _ hq)
   refine ⟨k', ?_⟩
   have t3 : (gA (aB (aW CmpOp.IsNot (bp br (bp br (ai 0) (ai 1)) (aa (V.int 0))) (aa V.none))) (gA (aB (aW CmpOp.Lt (ai 2) (aa (V.int 7)))) (aa true))) ⟨[some (.ref l), some (.int k), some (.int d)], H⟩ = .ok true ⟨[some (.ref l), some (.int k), some (.int d)], H⟩ := by
    unfold gA zE
    rw [t1, zZ.bind_ok, hq]
    simp only [fp, decide_false, Bool.not_false, if_true, reduceCtorEq]
    rw [t2]; rfl
   have b1 : (aM (an (bp br (bp br (ai 0) (ai 1)) (aa (V.int 0))) (ao 1)) (xa Operator.Add 2 (aa (V.int 1)))) ⟨[some (.ref l), some (.int k), some (.int d)], H⟩ = .ok .next ⟨[some (.ref l), some (.int p), some (.int ((d + 1 : Nat) : Int))], H⟩ := by
    rw [aG (bx e), hq]
    rfl
   unfold yL bS
   rw [t3]
   simp only [zZ.calm, zZ.bind_ok, if_true]
   rw [b1]
   simp only [zZ.calm, zZ.bind_ok]
   unfold yL at ih
   rw [ih]
   simp only [zJ, hq]
   rw [show d + 1 + zJ par n p = d + (zJ par n p + 1) by lia]
theorem xD {H : List O} {l : Nat} {par : Nat → Option Nat} (h : de H l par) (hp : ∀ k p, par k = some p → p < 6) {k : Nat} (hk : k < 6) :
  ∃ τ, mz [.ref l, .int k] H = .ok (.int (zJ par 7 k)) τ ∧ τ.heap = H := by
 obtain ⟨k', e⟩ := rW h hp 7 0 k 10 (by lia) (by lia) hk
 refine ⟨⟨[some (.ref l), some (.int k'), some (.int ((0 + zJ par 7 k : Nat) : Int))], H⟩, ?_, rfl⟩
 refine du (b7 := H) (L := [some (.ref l), some (.int k), none]) rfl rfl ?_
 rw [aG (bx (m := aa (V.int 0)) (v := .int 0) (ae := ⟨[some (.ref l), some (.int k), none], H⟩) rfl)]
 simp only [List.set_cons_succ, List.set_cons_zero]
 refine (aG e).trans ?_
 refine eK ?_
 rw [Nat.zero_add]
 rfl
theorem i8 (xs : List V) (a : Nat) : ∀ n : Nat, ((List.range n).map (a + ·)).filterMap (xs[·]?) = (xs.drop a).take n
 | 0 => by simp
 | n + 1 => by
  rw [List.range_succ, List.map_append, List.filterMap_append, i8 xs a n, List.take_add_one]
  congr 1
  simp only [List.map_cons, List.map_nil, List.getElem?_drop]
  cases h : xs[a + n]? <;> simp [h]
theorem jc (xs : List V) (lo hi : Option Int) : eA xs lo hi = (xs.drop (lo.elim 0 (clipAt xs.length))).take (hi.elim xs.length (clipAt xs.length) - lo.elim 0 (clipAt xs.length)) := by
 unfold eA
 rw [sliceBounds_plain]
 simp only [sliceRange_one, i8]
theorem vT (xs : List V) (b : Nat) : eA xs none (some (b : Int)) = xs.take b := by
 rw [jc]
 simp only [Option.elim, clipAt_nat, List.drop_zero, Nat.sub_zero]
 rcases Nat.le_total b xs.length with h | h
 ·rw [Nat.min_eq_left h]
 ·rw [Nat.min_eq_right h, List.take_of_length_le (Nat.le_refl _), List.take_of_length_le h]
theorem pick_from (xs : List V) (a : Nat) : eA xs (some (a : Int)) none = xs.drop a := by
 rw [jc]
 simp only [Option.elim, clipAt_nat]
 rcases Nat.le_total a xs.length with h | h
 ·rw [Nat.min_eq_left h, List.take_of_length_le (by simp)]
 ·rw [Nat.min_eq_right h, List.drop_of_length_le (by simp), List.drop_of_length_le h]; simp
theorem nz {l : Nat} {xs ys : List V} {lo hi : V} {a b : Option Int} {σ : St} (h : σ.heap[l]? = some (.list xs)) (hl : xs.length ≤ 1000) (ha : gL lo = some a) (hb : gL hi = some b) (hy : eA xs a b = ys) :
  eG (.ref l) lo hi σ = .ok (.ref σ.heap.length) { σ with heap := σ.heap ++ [.list ys] } := by
 refine (mP ha).trans ((mP hb).trans ?_)
 show gl _ _ _ = _
 rw [iV h, if_pos (by show xs.length ≤ 16777216; lia), hy]
theorem ky {z : Addr} {xs ys : List V} {lo hi : V} {a b : Option Int} {σ : St} (hl : xs.length ≤ 1000) (ha : gL lo = some a) (hb : gL hi = some b) (hy : eA xs a b = ys) :
  kz z xs (.top z) lo hi σ = .ok (.ref σ.heap.length) { σ with heap := σ.heap ++ [.list ys] } := by
 unfold kz
 simp only [ha, hb]
 rw [if_pos ⟨trivial, by show xs.length ≤ 16777216; lia⟩, hy]
theorem i0 {z : Addr} {xs : List V} {mo ml mu : St → zZ V} {σ ae aq aT : St} {v l u : V} (h1 : mo σ = .ok v ae) (h2 : ml ae = .ok l aq) (h3 : mu aq = .ok u aT) : dn z xs mo ml mu σ = kz z xs v l u aT := by
 unfold dn; rw [h1, zZ.bind_ok, h2, zZ.bind_ok, h3, zZ.bind_ok]
theorem kB {mo ml mu : St → zZ V} {σ ae aq aT : St} {v l u : V} (h1 : mo σ = .ok v ae) (h2 : ml ae = .ok l aq) (h3 : mu aq = .ok u aT) : cu mo ml mu σ = eG v l u aT := by
 unfold cu; rw [h1, zZ.bind_ok, h2, zZ.bind_ok, h3, zZ.bind_ok]
theorem rM {a b : Nat} {xs ys : List V} {σ : St} (h : σ.heap[a]? = some (.list xs)) (h' : σ.heap[b]? = some (.list ys)) (hl : xs.length + ys.length ≤ 1000) :
  zv .Add (.ref a) (.ref b) σ = .ok (.ref σ.heap.length) { σ with heap := σ.heap ++ [.list (xs ++ ys)] } := by
 simp only [zv, wO, zO, bH, zL, Option.isSome_none, cond_false]
 rw [iV h, iV h']
 exact if_pos (Nat.le_trans hl (by decide))
noncomputable def jx : List Int := [4374, 6104, 3486, 1878, 272, 11036]
noncomputable def ey (s : List Int) : List Int := s.take 6 ++ jx.drop (s.take 6).length
theorem ib (s : List Int) : (ey s).length = 6 := by
 unfold ey
 have h : (s.take 6).length ≤ 6 := List.length_take_le _ _
 have h6 : jx.length = 6 := rfl
 rw [List.length_append, List.length_drop, h6]; lia
noncomputable def lx (k : Nat) (x : Int) : Option Nat := if x.fmod 7 < 6 ∧ (x.fmod 7 ≠ k ∨ (x.fdiv 7).fmod 2 = 1) then some (x.fmod 7).toNat else none
noncomputable abbrev zh (z : Addr) (zs : List V) : St → zZ V := (aR Operator.Add (dn z zs (ai 0) (aa V.none) (aa (V.int 6))) (cu (bu (aj (aa (V.int 4374)) (aj (aa (V.int 6104)) (aj (aa (V.int 3486)) (aj (aa (V.int 1878)) (aj (aa (V.int 272)) (aj (aa (V.int 11036)) (aa [])))))))) (aC (aj (dn z zs (ai 0) (aa V.none) (aa (V.int 6))) (aa [])) iU) (aa V.none)))
noncomputable def ca (s : List Int) : List V := s.map .int
theorem sJ (z : Addr) (s : List Int) (hs : s.length ≤ 63) (p f : O) (v1 v2 v3 v4 v5 : Option V) :
  ∃ a b c d, zh z (ca s) ⟨[some (.top z), v1, v2, v3, v4, v5], [p, f]⟩ = .ok (.ref 6) ⟨[some (.top z), v1, v2, v3, v4, v5], [p, f, .list a, .list b, .list c, .list d, .list (ca (ey s))]⟩ ∧ (∀ v ∈ a ++ b ++ c ++ d, ∃ i, v = .int i) := by
 refine ⟨ca (s.take 6), ca jx, ca (s.take 6), ca (jx.drop (s.take 6).length), ?_, ?_⟩
 ·have hl : (ca s).length ≤ 1000 := by unfold ca; rw [List.length_map]; lia
  have pk : eA (ca s) none (some 6) = ca (s.take 6) := by rw [show (6 : Int) = ((6 : Nat) : Int) from rfl, vT]; unfold ca; rw [List.map_take]
  have e1 : dn z (ca s) (ai 0) (aa V.none) (aa (V.int 6)) ⟨[some (.top z), v1, v2, v3, v4, v5], [p, f]⟩ = .ok (.ref 2) ⟨[some (.top z), v1, v2, v3, v4, v5], [p, f, .list (ca (s.take 6))]⟩ := by
   rw [i0 (mo := ai 0) (ml := aa .none) (mu := aa (.int 6)) (v := .top z) (l := .none) (u := .int 6) (ae := ⟨[some (.top z), v1, v2, v3, v4, v5], [p, f]⟩) rfl rfl rfl]
   exact ky hl rfl rfl pk
  have e2 : bu (aj (aa (V.int 4374))
          (aj (aa (V.int 6104))
           (aj (aa (V.int 3486))
            (aj (aa (V.int 1878)) (aj (aa (V.int 272)) (aj (aa (V.int 11036)) (aa []))))))) ⟨[some (.top z), v1, v2, v3, v4, v5], [p, f, .list (ca (s.take 6))]⟩ = .ok (.ref 3) ⟨[some (.top z), v1, v2, v3, v4, v5], [p, f, .list (ca (s.take 6)), .list (ca jx)]⟩ :=
   cN (vs := ca jx) (ae := ⟨[some (.top z), v1, v2, v3, v4, v5], [p, f, .list (ca (s.take 6))]⟩) rfl (by show 6 ≤ 1000; decide)
  have e3 : dn z (ca s) (ai 0) (aa V.none) (aa (V.int 6)) ⟨[some (.top z), v1, v2, v3, v4, v5], [p, f, .list (ca (s.take 6)), .list (ca jx)]⟩ = .ok (.ref 4) ⟨[some (.top z), v1, v2, v3, v4, v5], [p, f, .list (ca (s.take 6)), .list (ca jx), .list (ca (s.take 6))]⟩ := by
   rw [i0 (mo := ai 0) (ml := aa .none) (mu := aa (.int 6)) (v := .top z) (l := .none) (u := .int 6) (ae := ⟨[some (.top z), v1, v2, v3, v4, v5], [p, f, .list (ca (s.take 6)), .list (ca jx)]⟩) rfl rfl rfl]
   exact ky hl rfl rfl pk
  have ht : (ca (s.take 6)).length ≤ 6 := by unfold ca; rw [List.length_map]; exact List.length_take_le _ _
  have e4 : aC (aj (dn z (ca s) (ai 0) (aa V.none) (aa (V.int 6))) (aa [])) iU ⟨[some (.top z), v1, v2, v3, v4, v5], [p, f, .list (ca (s.take 6)), .list (ca jx)]⟩ = .ok (.int ((s.take 6).length : Nat)) ⟨[some (.top z), v1, v2, v3, v4, v5], [p, f, .list (ca (s.take 6)), .list (ca jx), .list (ca (s.take 6))]⟩ := by
   rw [bW (aX e3 (ms := aa []) rfl)]
   exact nT (xs := ca (s.take 6)) rfl (by lia) (by unfold ca; rw [List.length_map])
  have e5 : cu
        (bu
         (aj (aa (V.int 4374))
          (aj (aa (V.int 6104))
           (aj (aa (V.int 3486))
            (aj (aa (V.int 1878)) (aj (aa (V.int 272)) (aj (aa (V.int 11036)) (aa []))))))))
        (aC (aj (dn z (ca s) (ai 0) (aa V.none) (aa (V.int 6))) (aa [])) iU) (aa V.none) ⟨[some (.top z), v1, v2, v3, v4, v5], [p, f, .list (ca (s.take 6))]⟩ = .ok (.ref 5) ⟨[some (.top z), v1, v2, v3, v4, v5], [p, f, .list (ca (s.take 6)), .list (ca jx), .list (ca (s.take 6)), .list (ca (jx.drop (s.take 6).length))]⟩ := by
   rw [kB e2 e4 (mu := aa V.none) rfl]
   exact nz (xs := ca jx) rfl (by show 6 ≤ 1000; decide) rfl rfl (by rw [pick_from]; unfold ca; rw [List.map_drop])
  unfold zh aR
  rw [bq e1 e5]
  have hd : (ca (jx.drop (s.take 6).length)).length ≤ 6 := by unfold ca; rw [List.length_map, List.length_drop]; show 6 - _ ≤ 6; lia
  have e6 := rM (a := 2) (b := 5) (σ := ⟨[some (.top z), v1, v2, v3, v4, v5], [p, f, .list (ca (s.take 6)), .list (ca jx), .list (ca (s.take 6)), .list (ca (jx.drop (s.take 6).length))]⟩) (xs := ca (s.take 6)) (ys := ca (jx.drop (s.take 6).length)) rfl rfl (by lia)
  rw [e6]
  have : ca (s.take 6) ++ ca (jx.drop (s.take 6).length) = ca (ey s) := by unfold ca ey; rw [List.map_append]
  rw [this]
  rfl
 ·unfold ca
  intro v hv
  simp only [List.mem_append, List.mem_map] at hv
  rcases hv with ((⟨i, _, rfl⟩ | ⟨i, _, rfl⟩) | ⟨i, _, rfl⟩) | ⟨i, _, rfl⟩ <;> exact ⟨i, rfl⟩
noncomputable abbrev zg : St → zZ V := (zE (gA (aB (aW CmpOp.Lt (aR Operator.Mod (ai 4) (aa (V.int 7))) (aa (V.int 6)))) (gA (zu (aB (aW CmpOp.NotEq (aR Operator.Mod (ai 4) (aa (V.int 7))) (ai 3))) (zu (aB (aW CmpOp.Eq (aR Operator.Mod (aR Operator.FloorDiv (ai 4) (aa (V.int 7))) (aa (V.int 2))) (aa (V.int 1)))) (aa false))) (aa true))) (aR Operator.Mod (ai 4) (aa (V.int 7))) (aa V.none))
theorem gv (x : Int) {n : Int} (h : 0 < n) : 0 ≤ x.fmod n ∧ x.fmod n < n := ⟨Int.fmod_nonneg_of_pos x h, Int.fmod_lt_of_pos x h⟩
theorem sH {k : Nat} {x : Int} {v0 v1 v2 v5 : Option V} {H : List O} :
  zg ⟨[v0, v1, v2, some (.int k), some (.int x), v5], H⟩ = .ok (fp (lx k x)) ⟨[v0, v1, v2, some (.int k), some (.int x), v5], H⟩ := by
 have m7 : aR Operator.Mod (ai 4) (aa (V.int 7)) ⟨[v0, v1, v2, some (.int k), some (.int x), v5], H⟩ = .ok (.int (x.fmod 7)) ⟨[v0, v1, v2, some (.int k), some (.int x), v5], H⟩ := rfl
 have t1 : aB (aW CmpOp.Lt (aR Operator.Mod (ai 4) (aa (V.int 7))) (aa (V.int 6))) ⟨[v0, v1, v2, some (.int k), some (.int x), v5], H⟩ = .ok (decide (x.fmod 7 < 6)) ⟨[v0, v1, v2, some (.int k), some (.int x), v5], H⟩ := rfl
 have t2 : aB (aW CmpOp.NotEq (aR Operator.Mod (ai 4) (aa (V.int 7))) (ai 3)) ⟨[v0, v1, v2, some (.int k), some (.int x), v5], H⟩ = .ok (!(x.fmod 7 == (k : Int))) ⟨[v0, v1, v2, some (.int k), some (.int x), v5], H⟩ := rfl
 have t3 : aB (aW CmpOp.Eq (aR Operator.Mod (aR Operator.FloorDiv (ai 4) (aa (V.int 7))) (aa (V.int 2))) (aa (V.int 1))) ⟨[v0, v1, v2, some (.int k), some (.int x), v5], H⟩ = .ok ((x.fdiv 7).fmod 2 == 1) ⟨[v0, v1, v2, some (.int k), some (.int x), v5], H⟩ := rfl
 have h7 := gv x (n := 7) (by decide)
 unfold zg gA zu zE
 rw [t1]
 simp only [zZ.bind_ok]
 by_cases h1 : x.fmod 7 < 6
 ·rw [decide_eq_true h1]
  simp only [if_true, t2, zZ.bind_ok]
  have hv : (V.int (x.fmod 7)) = .int ((x.fmod 7).toNat : Nat) := by rw [Int.toNat_of_nonneg h7.1]
  by_cases h2 : x.fmod 7 = k
  ·rw [h2, beq_self_eq_true]
   simp only [Bool.not_true, Bool.false_eq_true, if_false, t3, zZ.bind_ok]
   by_cases h3 : (x.fdiv 7).fmod 2 = 1
   ·rw [h3, beq_self_eq_true]
    simp only [if_true, aa, zZ.bind_ok, lx]
    rw [if_pos ⟨h1, .inr h3⟩]
    show aR Operator.Mod (ai 4) (aa (V.int 7)) _ = _
    rw [m7, hv]; rfl
   ·rw [beq_eq_false_iff_ne.mpr h3]
    simp only [Bool.false_eq_true, if_false, aa, zZ.bind_ok, lx]
    rw [if_neg (by rintro ⟨_, h | h⟩ <;> contradiction)]; rfl
  ·rw [beq_eq_false_iff_ne.mpr h2]
   simp only [Bool.not_false, if_true, aa, zZ.bind_ok, lx]
   rw [if_pos ⟨h1, .inl h2⟩]
   show aR Operator.Mod (ai 4) (aa (V.int 7)) _ = _
   rw [m7, hv]; rfl
 ·rw [decide_eq_false h1]
  simp only [Bool.false_eq_true, if_false, aa, zZ.bind_ok, lx]
  rw [if_neg (fun h => h1 h.1)]; rfl
theorem cM {chk : V → List O → Bool} {f : V → List V → St → zZ V} {mo : St → zZ V} {ma : St → zZ (List V)} {σ ae aq : St} {v : V} {vs : List V} (h : mo σ = .ok v ae) (hc : chk v ae.heap = true) (ha : ma ae = .ok vs aq) : a7 chk f mo ma σ = f v vs aq := by
 unfold a7; rw [h, zZ.bind_ok, if_pos hc, ha, zZ.bind_ok]
theorem dT {l : Nat} {ys : List V} {y : V} {σ : St} (h : σ.heap[l]? = some (.list ys)) (hl : ys.length ≤ 1000) : bk (.ref l) [y] σ = .ok .none { σ with heap := σ.heap.set l (.list (ys ++ [y])) } := by
 show (c8 l y σ).bind _ = _
 unfold c8
 rw [h]
 dsimp only
 rw [if_pos (by show ys.length ≤ 16777216; lia)]; rfl
theorem cZ {m : St → zZ V} {v : V} {σ ae : St} (h : m σ = .ok v ae) : bE m σ = .ok .next ae := by
 unfold bE; rw [h]; rfl
theorem cB {l : Nat} {H : List O} {ys : List V} (h : H[l]? = some (.list ys)) : aO (.ref l) H = true := by
 exact yi h
noncomputable def zt : List V := [.str (pc 0), .str (pc 1), .str (pc 2), .str (pc 3), .str (pc 4), .str (pc 5)]
theorem uq : ∀ i, i < 6 → zt[i]? = some (.str (pc i)) := zq rfl rfl rfl rfl rfl rfl
theorem ur : ∀ i, i < 6 → (pc i).length ≤ 10000 := by apply zq <;> decide +kernel
noncomputable def oz (t : O) (k : Nat) (x : Int) : Prop := ∃ c d i j : Nat, ∃ p : Int, c < 4 ∧ d < 6 ∧ i < 6 ∧ j < 6 ∧ 1024 ≤ p ∧ p < 61024 ∧ t = ev (fp (lx k x)) c d (pc i ++ pc j) p
noncomputable abbrev T280 : St → zZ V := (hY (aj (ai 5) (aj (aR Operator.Mod (aR Operator.FloorDiv (ai 4) (aa (V.int 14))) (aa (V.int 4))) (aj (aR Operator.Mod (aR Operator.FloorDiv (ai 4) (aa (V.int 56))) (aa (V.int 6))) (aj (aR Operator.Add (bp br (ai 1) (aR Operator.Mod (aR Operator.FloorDiv (ai 4) (aa (V.int 336))) (aa (V.int 6)))) (bp br (ai 1) (aR Operator.Mod (aR Operator.FloorDiv (ai 4) (aa (V.int 2016))) (aa (V.int 6))))) (aj (aR Operator.Add (aa (V.int 1024)) (aR Operator.Mod (aR Operator.FloorDiv (ai 4) (aa (V.int 336))) (aa (V.int 60000)))) (aa [])))))))
theorem hU {z : Int} {n : Nat} (h : 0 ≤ z ∧ z < n) : ∃ c : Nat, c < n ∧ z = c := ⟨z.toNat, by lia, by lia⟩
theorem sE {k : Nat} {x : Int} {v0 v2 v3 : Option V} {H : List O} (h1 : H[0]? = some (.list zt)) :
  ∃ t, oz t k x ∧ T280 ⟨[v0, some (.ref 0), v2, v3, some (.int x), some (fp (lx k x))], H⟩ = .ok (.ref H.length) ⟨[v0, some (.ref 0), v2, v3, some (.int x), some (fp (lx k x))], H ++ [t]⟩ := by
 obtain ⟨c, hc, ec⟩ := hU (n := 4) (gv (x.fdiv 14) (n := 4) (by decide))
 obtain ⟨d, hd, ed⟩ := hU (n := 6) (gv (x.fdiv 56) (n := 6) (by decide))
 obtain ⟨i, hi, ei⟩ := hU (n := 6) (gv (x.fdiv 336) (n := 6) (by decide))
 obtain ⟨j, hj, ej⟩ := hU (n := 6) (gv (x.fdiv 2016) (n := 6) (by decide))
 have hp := gv (x.fdiv 336) (n := 60000) (by decide)
 refine ⟨ev (fp (lx k x)) c d (pc i ++ pc j) (1024 + (x.fdiv 336).fmod 60000), ⟨c, d, i, j, _, hc, hd, hi, hj, by lia, by lia, rfl⟩, ?_⟩
 let σ : St := ⟨[v0, some (.ref 0), v2, v3, some (.int x), some (fp (lx k x))], H⟩
 have e1 : aR Operator.Mod (aR Operator.FloorDiv (ai 4) (aa (V.int 14))) (aa (V.int 4)) σ = .ok (.int ((x.fdiv 14).fmod 4)) σ := rfl
 have e2 : aR Operator.Mod (aR Operator.FloorDiv (ai 4) (aa (V.int 56))) (aa (V.int 6)) σ = .ok (.int ((x.fdiv 56).fmod 6)) σ := rfl
 have e3 : aR Operator.Mod (aR Operator.FloorDiv (ai 4) (aa (V.int 336))) (aa (V.int 6)) σ = .ok (.int ((x.fdiv 336).fmod 6)) σ := rfl
 have e4 : aR Operator.Mod (aR Operator.FloorDiv (ai 4) (aa (V.int 2016))) (aa (V.int 6)) σ = .ok (.int ((x.fdiv 2016).fmod 6)) σ := rfl
 have e5 : aR Operator.Add (aa (V.int 1024)) (aR Operator.Mod (aR Operator.FloorDiv (ai 4) (aa (V.int 336))) (aa (V.int 60000))) σ = .ok (.int (1024 + (x.fdiv 336).fmod 60000)) σ := rfl
 rw [ec] at e1; rw [ed] at e2; rw [ei] at e3; rw [ej] at e4
 have p1 : bp br (ai 1) (aR Operator.Mod (aR Operator.FloorDiv (ai 4) (aa (V.int 336))) (aa (V.int 6))) σ = .ok (.str (pc i)) σ := by
  rw [bq (ml := ai 1) (a := .ref 0) (ae := σ) rfl e3]
  exact item_at h1 (by lia) (uq i hi)
 have p2 : bp br (ai 1) (aR Operator.Mod (aR Operator.FloorDiv (ai 4) (aa (V.int 2016))) (aa (V.int 6))) σ = .ok (.str (pc j)) σ := by
  rw [bq (ml := ai 1) (a := .ref 0) (ae := σ) rfl e4]
  exact item_at h1 (by lia) (uq j hj)
 have p3 : aR Operator.Add (bp br (ai 1) (aR Operator.Mod (aR Operator.FloorDiv (ai 4) (aa (V.int 336))) (aa (V.int 6)))) (bp br (ai 1) (aR Operator.Mod (aR Operator.FloorDiv (ai 4) (aa (V.int 2016))) (aa (V.int 6)))) σ = .ok (.str (pc i ++ pc j)) σ := by
  unfold aR
  rw [bq p1 p2]
  exact add_str (ur i hi) (ur j hj) σ
 exact j9 (aX (m := ai 5) (v := fp (lx k x)) (σ := σ) (ae := σ) rfl (aX e1 (aX e2 (aX p3 (aX e5 (ms := aa []) rfl))))) (by show 5 ≤ 1000; decide)
noncomputable abbrev zi : St → zZ F := (aM (an zg (ao 5)) (bE (a7 aO bk (ai 2) (aj T280 (aa [])))))
theorem sM {k : Nat} {x : Int} {v0 v5 : Option V} {H : List O} {rs : List V} (h1 : H[0]? = some (.list zt)) (h2 : H[1]? = some (.list rs)) (hl : rs.length ≤ 1000) :
  ∃ t, oz t k x ∧ zi ⟨[v0, some (.ref 0), some (.ref 1), some (.int k), some (.int x), v5], H⟩ = .ok .next ⟨[v0, some (.ref 0), some (.ref 1), some (.int k), some (.int x), some (fp (lx k x))], (H ++ [t]).set 1 (.list (rs ++ [.ref H.length]))⟩ := by
 obtain ⟨t, ht, e⟩ := sE (k := k) (x := x) (v0 := v0) (v2 := some (.ref 1)) (v3 := some (.int k)) h1
 refine ⟨t, ht, ?_⟩
 unfold zi
 rw [aG (bx (sH (k := k) (x := x) (v0 := v0) (v1 := some (.ref 0)) (v2 := some (.ref 1)) (v5 := v5) (H := H)))]
 simp only [List.set_cons_succ, List.set_cons_zero]
 refine cZ (v := .none) ?_
 rw [cM (mo := ai 2) (v := .ref 1) (ae := ⟨[v0, some (.ref 0), some (.ref 1), some (.int k), some (.int x), some (fp (lx k x))], H⟩) rfl (cB h2) (aX e (ms := aa []) rfl)]
 refine dT (σ := ⟨_, H ++ [t]⟩) ?_ hl
 show (H ++ [t])[1]? = _
 rw [List.getElem?_append_left (List.getElem?_eq_some_iff.mp h2).1, h2]
theorem wx {tk tx : V → St → zZ Unit} {body els : St → zZ F} {src : Option (Nat × O)} {i : Nat} {x : V} {xs : List V} {σ ae aq aT : St} (hs : dM src σ.heap = true) (h1 : tk (.int i) σ = .ok () ae) (h2 : tx x ae = .ok () aq) (h3 : body aq = .ok .next aT) : dD tk tx body els src i (x :: xs) σ = dD tk tx body els src (i + 1) xs aT := by
 rw [dD, if_pos hs, h1]
 simp only [zZ.calm, zZ.bind_ok]
 rw [h2]
 simp only [zZ.calm, zZ.bind_ok]
 rw [h3]
 simp only [zZ.calm, zZ.bind_ok]
theorem bC {l : Nat} {o : O} {H : List O} (h : H[l]? = some o) : dM (some (l, o)) H = true := decide_eq_true h
noncomputable def fW (ys : List Int) (rs a b c d : List V) : List O := [.list zt, .list rs, .list a, .list b, .list c, .list d, .list (ca ys)]
noncomputable def d4 (n : Nat) : List V := (List.range n).map fun i => V.ref (7 + i)
theorem oQ (n : Nat) : d4 (n + 1) = d4 n ++ [V.ref (7 + n)] := by
 unfold d4; rw [List.range_succ, List.map_append]; rfl
theorem wh {z : Addr} {ys : List Int} {a b c d : List V} (hy : ys.length = 6) : ∀ (todo pre : List Int) (ts : List O) (v3 v4 v5 : Option V), ys = pre ++ todo → ts.length = pre.length → (∀ (k : Nat) (x : Int) t, pre[k]? = some x → ts[k]? = some t → oz t k x) →
  ∃ w3 w4 w5 us, dD (ao 3) (ao 4) zi (aa F.next) (some (6, .list (ca ys))) pre.length (ca todo) ⟨[some (.top z), some (.ref 0), some (.ref 1), v3, v4, v5], fW ys (d4 pre.length) a b c d ++ ts⟩
   = .ok .next ⟨[some (.top z), some (.ref 0), some (.ref 1), w3, w4, w5], fW ys (d4 6) a b c d ++ us⟩ ∧ us.length = 6 ∧ ∀ (k : Nat) (x : Int) t, ys[k]? = some x → us[k]? = some t → oz t k x := by
 intro todo
 induction todo with
 | nil =>
  intro pre ts v3 v4 v5 h1 h2 h3
  rw [List.append_nil] at h1
  subst h1
  refine ⟨v3, v4, v5, ts, ?_, by lia, h3⟩
  rw [hy]
  show (if dM (some (6, .list (ca ys))) (fW ys (d4 6) a b c d ++ ts) = true then _ else _) = _
  rw [if_pos (bC rfl)]
  rfl
 | cons x todo ih =>
  intro pre ts v3 v4 v5 h1 h2 h3
  have hpl : pre.length ≤ 6 := by rw [h1] at hy; simp at hy; lia
  obtain ⟨t, ht, e⟩ := sM (k := pre.length) (x := x) (v0 := some (.top z)) (v5 := v5) (H := fW ys (d4 pre.length) a b c d ++ ts) (rs := d4 pre.length) rfl rfl (by unfold d4; simp; lia)
  have hn : (fW ys (d4 pre.length) a b c d ++ ts ++ [t]).set 1 (.list (d4 pre.length ++ [.ref (fW ys (d4 pre.length) a b c d ++ ts).length])) = fW ys (d4 (pre.length + 1)) a b c d ++ (ts ++ [t]) := by
   rw [oQ, List.length_append, h2, List.append_assoc]; rfl
  rw [hn] at e
  obtain ⟨w3, w4, w5, us, q1, q2, q3⟩ := ih (pre ++ [x]) (ts ++ [t]) (some (.int (pre.length : Nat))) (some (.int x)) (some (fp (lx pre.length x))) (by rw [h1, List.append_assoc]; rfl) (by simp [h2]) (by
   intro k y u hk hu
   by_cases hlt : k < pre.length
   ·rw [List.getElem?_append_left hlt] at hk
    rw [List.getElem?_append_left (by lia)] at hu
    exact h3 k y u hk hu
   ·have hk' := (List.getElem?_eq_some_iff.mp hk).1
    simp at hk'
    have : k = pre.length := by lia
    subst this
    rw [List.getElem?_append_right (Nat.le_refl _), Nat.sub_self] at hk
    rw [List.getElem?_append_right (by lia), h2, Nat.sub_self] at hu
    cases hk; cases hu; exact ht)
  refine ⟨w3, w4, w5, us, ?_, q2, q3⟩
  show dD _ _ _ _ _ _ (.int x :: ca todo) _ = _
  rw [wx (bC rfl) rfl rfl e]
  rw [List.length_append] at q1
  exact q1
noncomputable def j3 (H : List O) (l : Nat) (par : Nat → Option Nat) : Prop := ∃ ls : List Nat, H[l]? = some (.list (ls.map .ref)) ∧ ls.length = 6 ∧ ∀ k, k < 6 → ∃ m c d i j : Nat, ∃ p : Int, ls[k]? = some m ∧ c < 4 ∧ d < 6 ∧ i < 6 ∧ j < 6 ∧ 1024 ≤ p ∧ p < 61024 ∧ H[m]? = some (ev (fp (par k)) c d (pc i ++ pc j) p)
theorem j3.at {H : List O} {l : Nat} {par : Nat → Option Nat} (h : j3 H l par) : de H l par := by
 obtain ⟨ls, h1, h2, h3⟩ := h
 refine ⟨ls, h1, h2, fun k hk => ?_⟩
 obtain ⟨m, c, d, i, j, p, q1, _, _, _, _, _, _, q2⟩ := h3 k hk
 exact ⟨m, _, q1, q2⟩
noncomputable def oW (ys : List Int) (k : Nat) : Option Nat := match ys[k]? with
 | some x => lx k x
 | none => none
theorem s0 {ys : List Int} {k p : Nat} (h : oW ys k = some p) : p < 6 := by
 unfold oW lx at h
 split at h
 ·split at h
  ·rename_i x _ q
   cases h
   lia
  ·cases h
 ·cases h
theorem xH (z : Addr) (s : List Int) (hs : s.length ≤ 63) : ∃ τ, pb z (ca s) [.top z] [] = .ok (.ref 1) τ ∧ j3 τ.heap 1 (oW (ey s)) ∧ τ.heap.all (eB (m0 τ.heap.length)) = true := by
 obtain ⟨a, b, c, d, e1, hi⟩ := sJ z s hs (.list zt) (.list []) (some (.ref 0)) (some (.ref 1)) none none none
 obtain ⟨w3, w4, w5, us, q1, q2, q3⟩ := wh (z := z) (a := a) (b := b) (c := c) (d := d) (ib s) (ey s) [] [] none none none rfl rfl (fun k x t h => by simp at h)
 refine ⟨⟨[some (.top z), some (.ref 0), some (.ref 1), w3, w4, w5], fW (ey s) (d4 6) a b c d ++ us⟩, ?_, ?_, ?_⟩
 ·refine du (b7 := []) (L := [some (.top z), none, none, none, none, none]) rfl rfl ?_
  have a1 := bx (i := 1) (cN (ms := (aj (aa (V.str "a"))
      (aj (aa (V.str "\""))
       (aj (aa (V.str " b"))
        (aj (aa (V.str "\"\""))
         (aj (aa (V.str "ä")) (aj (aa (V.str "/")) (aa [])))))))) (vs := zt) (σ := ⟨[some (.top z), none, none, none, none, none], []⟩) (ae := ⟨[some (.top z), none, none, none, none, none], []⟩) rfl (by show 6 ≤ 1000; decide))
  have a2 := bx (i := 2) (cN (ms := aa []) (vs := []) (σ := ⟨[some (.top z), some (.ref 0), none, none, none, none], [.list zt]⟩) (ae := ⟨[some (.top z), some (.ref 0), none, none, none, none], [.list zt]⟩) rfl (by show 0 ≤ 1000; decide))
  refine (aG a1).trans ?_
  refine (aG a2).trans ?_
  refine (aG (ae := ⟨[some (.top z), some (.ref 0), some (.ref 1), w3, w4, w5], fW (ey s) (d4 6) a b c d ++ us⟩) ?_).trans (eK rfl)
  show (zh z (ca s) ⟨[some (.top z), some (.ref 0), some (.ref 1), none, none, none], [.list zt, .list []]⟩).bind _ = _
  rw [e1, zZ.bind_ok]
  exact q1
 ·refine ⟨(List.range 6).map (7 + ·), ?_, rfl, fun k hk => ?_⟩
  ·rfl
  ·have hk' : k < (ey s).length := by rw [ib]; exact hk
   have hk2 : k < us.length := by lia
   obtain ⟨cc, dd, i, j, p, g1, g2, g3, g4, g5, g6, g7⟩ := q3 k _ _ (List.getElem?_eq_getElem hk') (List.getElem?_eq_getElem hk2)
   refine ⟨7 + k, cc, dd, i, j, p, ?_, g1, g2, g3, g4, g5, g6, ?_⟩
   ·rw [List.getElem?_map, List.getElem?_range hk]; rfl
   ·show (fW (ey s) (d4 6) a b c d ++ us)[7 + k]? = _
    rw [List.getElem?_append_right (Nat.le_add_right 7 k)]
    show us[7 + k - 7]? = _
    rw [Nat.add_sub_cancel_left, List.getElem?_eq_getElem hk2, g7]
    unfold oW
    rw [List.getElem?_eq_getElem hk']
 ·have hint : ∀ (p : Nat → Bool) (xs : List V), (∀ v ∈ xs, ∃ i, v = .int i) → eB p (.list xs) = true := fun p xs h => by
   show xs.all (oR p) = true
   rw [List.all_eq_true]
   intro v hv
   obtain ⟨i, rfl⟩ := h v hv
   rfl
  have hv : ∀ zs : List Int, ∀ v ∈ ca zs, ∃ i, v = .int i := fun zs v hv => by
   unfold ca at hv
   obtain ⟨i, _, rfl⟩ := List.mem_map.mp hv
   exact ⟨i, rfl⟩
  have hlen : (fW (ey s) (d4 6) a b c d ++ us).length = 13 := by rw [List.length_append, q2]; rfl
  show (fW (ey s) (d4 6) a b c d ++ us).all (eB (m0 (fW (ey s) (d4 6) a b c d ++ us).length)) = true
  rw [hlen, List.all_append, Bool.and_eq_true]
  constructor
  ·unfold fW
   simp only [List.all_cons, List.all_nil, Bool.and_true, Bool.and_eq_true]
   refine ⟨rfl, rfl, hint _ _ fun v h => hi v (by simp [h]), hint _ _ fun v h => hi v (by simp [h]), hint _ _ fun v h => hi v (by simp [h]), hint _ _ fun v h => hi v (by simp [h]), hint _ _ (hv _)⟩
  ·rw [List.all_eq_true]
   intro t ht
   obtain ⟨k, hk, rfl⟩ := List.mem_iff_getElem.mp ht
   have hk' : k < (ey s).length := by rw [ib]; lia
   obtain ⟨cc, dd, i, j, p, _, _, _, _, _, _, g7⟩ := q3 k _ _ (List.getElem?_eq_getElem hk') (List.getElem?_eq_getElem hk)
   rw [g7]
   cases lx k (ey s)[k] <;> rfl
theorem b9 : ∀ {l m : List Nat}, l.Nodup → (∀ x ∈ l, x ∈ m) → l.length ≤ m.length
 | [], _, _, _ => Nat.zero_le _
 | x :: l, m, hn, hs => by
  have hx := hs x (List.mem_cons_self ..)
  have hn' := List.nodup_cons.mp hn
  have := b9 (l := l) (m := m.erase x) hn'.2 fun y hy => by
   have hne : y ≠ x := fun e => hn'.1 (e ▸ hy)
   exact (List.mem_erase_of_ne hne).mpr (hs y (List.mem_cons_of_mem _ hy))
  rw [List.length_erase_of_mem hx] at this
  have := List.length_pos_of_mem hx
  simp only [List.length_cons]
  lia
section
variable (par : Nat → Option Nat) (su : Nat → List Nat) (ord : List Nat)
noncomputable def zR : List (Nat × Nat) → Option (Nat × List (Nat × Nat))
 | [] => none
 | (x, p) :: r => match (su x)[p]? with
  | some y => some (y, (x, p + 1) :: r)
  | none => zR r
noncomputable def fX : Nat → Nat → List (Nat × Nat) → List Nat → Option (Option (List Nat))
 | 0, _, _, _ => none
 | f + 1, node, T, sn =>
  if node ∈ sn then
   if node ∈ T.map (·.1) then some none else
    match zR su T with
    | none => some (some sn)
    | some (y, T') => fX f y T' sn
  else
   match zR su ((node, 0) :: T) with
   | none => some (some (sn ++ [node]))
   | some (y, T') => fX f y T' (sn ++ [node])
noncomputable def bf : List Nat → List Nat → Option (Option (List Nat))
 | [], sn => some (some sn)
 | k :: ks, sn => if k ∈ sn then bf ks sn else match fX su 20 k [] sn with
  | none => none
  | some none => some none
  | some (some sn') => bf ks sn'
noncomputable def yP : Nat → List (Nat × Nat) → Prop
 | _, [] => True
 | c, (x, _) :: r => par c = some x ∧ yP x r
noncomputable def wT : List (Nat × Nat) → Prop
 | [] => True
 | (x, _) :: r => yP par x r
noncomputable def ua (fin : List Nat) : Option Nat → List (Nat × Nat) → Prop
 | _, [] => True
 | c, (x, p) :: r => (∀ y ∈ (su x).take p, y ∈ fin ∨ some y = c) ∧ ua fin (some x) r
noncomputable def yM : List Nat → Prop
 | [] => True
 | x :: r => (∀ y ∈ su x, y ∈ r) ∧ yM r
structure Seen (T : List (Nat × Nat)) (sn fin : List Nat) : Prop where
 nod : sn.Nodup
 sub : ∀ x ∈ sn, x ∈ ord
 tn : (T.map (·.1)).Nodup
 spl : ∀ x, x ∈ sn ↔ x ∈ fin ∨ x ∈ T.map (·.1)
 dis : ∀ x ∈ fin, x ∉ T.map (·.1)
 fn : fin.Nodup
 topo : yM su fin
noncomputable def zz (T : List (Nat × Nat)) : Nat := (T.map fun t => (su t.1).length - t.2).sum
noncomputable def rest (sn : List Nat) : Nat := ((ord.filter fun x => decide (x ∉ sn)).map fun x => (su x).length).sum
variable {par su ord}
theorem ua.mono {fin fin' : List Nat} {c c' : Option Nat} (h : ∀ x ∈ fin, x ∈ fin') (hc : ∀ y, some y = c → y ∈ fin' ∨ some y = c') : ∀ {T : List (Nat × Nat)}, ua su fin c T → ua su fin' c' T
 | [], _ => trivial
 | (x, p) :: r, ⟨h1, h2⟩ => ⟨fun y hy => (h1 y hy).elim (fun q => .inl (h y q)) (hc y), ua.mono h (fun y hy => .inr hy) h2⟩
theorem uP (hsu : ∀ x y, y ∈ su x → par y = some x ∧ y ∈ ord) : ∀ (T : List (Nat × Nat)) (sn fin : List Nat), Seen su ord T sn fin → wT par T → ua su fin none T →
  (zR su T = none ∧ ∃ fin', Seen su ord [] sn fin') ∨ (∃ y T' fin', zR su T = some (y, T') ∧ Seen su ord T' sn fin' ∧ yP par y T' ∧ ua su fin' (some y) T' ∧ y ∈ ord ∧ zz su T' + 1 ≤ zz su T) := by
 intro T
 induction T with
 | nil => exact fun sn fin h _ _ => .inl ⟨rfl, fin, h⟩
 | cons t r ih =>
  obtain ⟨x, p⟩ := t
  intro sn fin h hl hp
  cases q : (su x)[p]? with
  | some y =>
   right
   have hlt := (List.getElem?_eq_some_iff.mp q).1
   have hy : y ∈ su x := List.mem_of_getElem? q
   refine ⟨y, (x, p + 1) :: r, fin, by simp only [zR, q], ⟨h.nod, h.sub, h.tn, h.spl, h.dis, h.fn, h.topo⟩, ⟨(hsu x y hy).1, hl⟩, ⟨fun z hz => ?_, hp.2⟩, (hsu x y hy).2, ?_⟩
   ·rw [List.take_add_one, q, List.mem_append] at hz
    rcases hz with hz | hz
    ·exact .inl ((hp.1 z hz).elim id fun e => by cases e)
    ·simp at hz; subst hz; exact .inr rfl
   ·simp only [zz, List.map_cons, List.sum_cons]; lia
  | none =>
   have hge : (su x).length ≤ p := List.getElem?_eq_none_iff.mp q
   have hall : ∀ y ∈ su x, y ∈ fin := fun y hy => by
    have := hp.1 y (by rw [List.take_of_length_le hge]; exact hy)
    exact this.elim id fun e => by cases e
   have hxT : x ∉ r.map (·.1) := (List.nodup_cons.mp h.tn).1
   have hxf : x ∉ fin := fun hf => h.dis x hf (List.mem_cons_self ..)
   have h' : Seen su ord r sn (x :: fin) := ⟨h.nod, h.sub, (List.nodup_cons.mp h.tn).2, fun z => by
     rw [h.spl z, List.map_cons, List.mem_cons, List.mem_cons]
     constructor
     ·rintro (a | a | a)
      ·exact .inl (.inr a)
      ·exact .inl (.inl a)
      ·exact .inr a
     ·rintro ((a | a) | a)
      ·exact .inr (.inl a)
      ·exact .inl a
      ·exact .inr (.inr a), fun z hz => by
     rcases List.mem_cons.mp hz with rfl | hz
     ·exact hxT
     ·exact fun hr => h.dis z hz (List.mem_cons_of_mem _ hr), List.nodup_cons.mpr ⟨hxf, h.fn⟩, ⟨hall, h.topo⟩⟩
   have hl' : wT par r := by
    cases r with
    | nil => trivial
    | cons t r => exact hl.2
   have hp' : ua su (x :: fin) none r := hp.2.mono (fun z hz => List.mem_cons_of_mem _ hz) fun y e => by cases e; exact .inl (List.mem_cons_self ..)
   rcases ih sn (x :: fin) h' hl' hp' with ⟨a, b⟩ | ⟨y, T', fin', a, b, c, d, e, f⟩
   ·exact .inl ⟨by simp only [zR, q, a], b⟩
   ·refine .inr ⟨y, T', fin', by simp only [zR, q, a], b, c, d, e, ?_⟩
    have : zz su ((x, p) :: r) = ((su x).length - p) + zz su r := by simp only [zz, List.map_cons, List.sum_cons]
    lia
noncomputable def rR (par : Nat → Option Nat) (cyc : List Nat) : Prop := cyc ≠ [] ∧ ∀ y ∈ cyc, ∃ x ∈ cyc, par y = some x
theorem qz : ∀ (T : List (Nat × Nat)) (c z : Nat), yP par c T → z ∈ T.map (·.1) → ∃ cyc : List Nat, z ∈ cyc ∧ (∀ y ∈ cyc, y ∈ T.map (·.1)) ∧ (∃ x ∈ cyc, par c = some x) ∧ ∀ y ∈ cyc, y ≠ z → ∃ x ∈ cyc, par y = some x
 | [], _, _, _, h => by cases h
 | (x, p) :: r, c, z, hl, h => by
  by_cases e : x = z
  ·subst e
   exact ⟨[x], by simp, by simp, ⟨x, by simp, hl.1⟩, fun y hy hne => absurd (by simpa using hy) hne⟩
  ·have hz : z ∈ r.map (·.1) := by
    rcases List.mem_cons.mp h with h | h
    ·exact absurd h.symm e
    ·exact h
   obtain ⟨cyc, h1, h2, h3, h4⟩ := qz r x z hl.2 hz
   refine ⟨x :: cyc, List.mem_cons_of_mem _ h1, fun y hy => ?_, ⟨x, List.mem_cons_self .., hl.1⟩, fun y hy hne => ?_⟩
   ·rcases List.mem_cons.mp hy with rfl | hy
    ·exact List.mem_cons_self ..
    ·exact List.mem_cons_of_mem _ (h2 y hy)
   ·rcases List.mem_cons.mp hy with rfl | hy
    ·obtain ⟨a, ha, e⟩ := h3; exact ⟨a, List.mem_cons_of_mem _ ha, e⟩
    ·obtain ⟨a, ha, e⟩ := h4 y hy hne; exact ⟨a, List.mem_cons_of_mem _ ha, e⟩
theorem qA : ∀ {ord : List Nat} {sn : List Nat} {x : Nat}, ord.Nodup → x ∈ ord → x ∉ sn → rest su ord (sn ++ [x]) + (su x).length = rest su ord sn := by
 intro ord
 induction ord with
 | nil => intro sn x _ h; cases h
 | cons a ord ih =>
  intro sn x hn hx hs
  have hn' := List.nodup_cons.mp hn
  by_cases e : a = x
  ·subst e
   have hsame : ∀ l : List Nat, a ∉ l → (l.filter fun y => decide (y ∉ sn ++ [a])) = l.filter fun y => decide (y ∉ sn) := fun l hl => by
    apply List.filter_congr
    intro y hy
    have : y ≠ a := fun q => hl (q ▸ hy)
    simp [this]
   unfold rest
   rw [List.filter_cons, List.filter_cons, if_neg (by simp), if_pos (by simpa using hs), hsame ord hn'.1]
   simp only [List.map_cons, List.sum_cons]
   lia
  ·have hx' : x ∈ ord := by
    rcases List.mem_cons.mp hx with h | h
    ·exact absurd h.symm e
    ·exact h
   have ih' := ih hn'.2 hx' hs
   unfold rest at ih' ⊢
   rw [List.filter_cons, List.filter_cons]
   by_cases ha : a ∈ sn
   ·rw [if_neg (by simp [ha]), if_neg (by simp [ha])]; exact ih'
   ·rw [if_pos (by simp [ha, e]), if_pos (by simp [ha])]
    simp only [List.map_cons, List.sum_cons]
    lia
theorem vK (sn : List Nat) : rest su ord sn ≤ rest su ord [] := by
 unfold rest
 induction ord with
 | nil => exact Nat.le_refl _
 | cons a ord ih =>
  have e : decide (a ∉ ([] : List Nat)) = true := by simp
  simp only [List.filter_cons, e, if_true, List.map_cons, List.sum_cons]
  split
  ·simp only [List.map_cons, List.sum_cons]; lia
  ·lia
theorem uS (hsu : ∀ x y, y ∈ su x → par y = some x ∧ y ∈ ord) (ho : ord.Nodup) : ∀ (f node : Nat) (T : List (Nat × Nat)) (sn fin : List Nat), Seen su ord T sn fin → node ∈ ord → yP par node T → ua su fin (some node) T → rest su ord sn + zz su T < f →
  (fX su f node T sn = some none ∧ ∃ cyc, rR par cyc ∧ ∀ y ∈ cyc, y ∈ ord) ∨ (∃ sn' fin', fX su f node T sn = some (some sn') ∧ Seen su ord [] sn' fin' ∧ node ∈ sn' ∧ ∀ x ∈ sn, x ∈ sn') := by
 intro f
 induction f with
 | zero => intro node T sn fin _ _ _ _ h; lia
 | succ f ih =>
  intro node T sn fin h hno hl hp hm
  by_cases h1 : node ∈ sn
  ·by_cases h2 : node ∈ T.map (·.1)
   ·left
    refine ⟨by simp only [fX, h1, h2, if_true], ?_⟩
    obtain ⟨cyc, c1, c2, c3, c4⟩ := qz T node node hl h2
    refine ⟨cyc, ⟨fun e => (by rw [e] at c1; cases c1), fun y hy => ?_⟩, fun y hy => h.sub y ((h.spl y).mpr (.inr (c2 y hy)))⟩
    by_cases e : y = node
    ·subst e; exact c3
    ·exact c4 y hy e
   ·have hf : node ∈ fin := ((h.spl node).mp h1).elim id fun q => absurd q h2
    have hlB : wT par T := by
     cases T with
     | nil => trivial
     | cons t r => exact hl.2
    rcases uP hsu T sn fin h hlB (hp.mono (fun _ q => q) fun y e => by cases e; exact .inl hf) with ⟨a, fin', b⟩ | ⟨y, T', fin', a, b, c, d, e, g⟩
    ·exact .inr ⟨sn, fin', by simp only [fX, h1, h2, if_true, if_false, a], b, h1, fun _ q => q⟩
    ·have hw : fX su (f + 1) node T sn = fX su f y T' sn := by simp only [fX, h1, h2, if_true, if_false, a]
     rw [hw]
     rcases ih y T' sn fin' b e c d (by lia) with q | ⟨sn', fin'', q1, q2, q3, q4⟩
     ·exact .inl q
     ·exact .inr ⟨sn', fin'', q1, q2, q4 _ h1, q4⟩
  ·have hT : node ∉ T.map (·.1) := fun q => h1 ((h.spl node).mpr (.inr q))
   have hfi : node ∉ fin := fun q => h1 ((h.spl node).mpr (.inl q))
   have h' : Seen su ord ((node, 0) :: T) (sn ++ [node]) fin := ⟨by
     rw [List.nodup_append]; exact ⟨h.nod, by simp, fun a ha b hb => by simp at hb; subst hb; exact fun e => h1 (e ▸ ha)⟩, fun x hx => by
     rcases List.mem_append.mp hx with hx | hx
     ·exact h.sub x hx
     ·simp at hx; subst hx; exact hno, List.nodup_cons.mpr ⟨hT, h.tn⟩, fun x => by
     rw [List.mem_append, List.mem_singleton, h.spl x, List.map_cons, List.mem_cons]
     constructor
     ·rintro ((a | a) | a)
      ·exact .inl a
      ·exact .inr (.inr a)
      ·exact .inr (.inl a)
     ·rintro (a | a | a)
      ·exact .inl (.inl a)
      ·exact .inr a
      ·exact .inl (.inr a), fun x hx q => by
     rcases List.mem_cons.mp q with rfl | q
     ·exact hfi hx
     ·exact h.dis x hx q, h.fn, h.topo⟩
   have hmu : zz su ((node, 0) :: T) = (su node).length + zz su T := by simp only [zz, List.map_cons, List.sum_cons, Nat.sub_zero]
   have hrp := qA (su := su) ho hno h1
   rcases uP hsu ((node, 0) :: T) (sn ++ [node]) fin h' hl ⟨fun y hy => by simp at hy, hp⟩ with ⟨a, fin', b⟩ | ⟨y, T', fin', a, b, c, d, e, g⟩
   ·exact .inr ⟨sn ++ [node], fin', by simp only [fX, h1, if_false, a], b, by simp, fun x hx => by simp [hx]⟩
   ·have hw : fX su (f + 1) node T sn = fX su f y T' (sn ++ [node]) := by simp only [fX, h1, if_false, a]
    rw [hw]
    rcases ih y T' (sn ++ [node]) fin' b e c d (by lia) with q | ⟨sn', fin'', q1, q2, q3, q4⟩
    ·exact .inl q
    ·exact .inr ⟨sn', fin'', q1, q2, q4 _ (by simp), fun x hx => q4 _ (by simp [hx])⟩
theorem oE (hsu : ∀ x y, y ∈ su x → par y = some x ∧ y ∈ ord) (ho : ord.Nodup) (hr : rest su ord [] < 20) : ∀ (ks sn fin : List Nat), (∀ k ∈ ks, k ∈ ord) → Seen su ord [] sn fin →
  (bf su ks sn = some none ∧ ∃ cyc, rR par cyc ∧ ∀ y ∈ cyc, y ∈ ord) ∨ (∃ sn' fin', bf su ks sn = some (some sn') ∧ Seen su ord [] sn' fin' ∧ (∀ k ∈ ks, k ∈ sn') ∧ ∀ x ∈ sn, x ∈ sn') := by
 intro ks
 induction ks with
 | nil => exact fun sn fin _ h => .inr ⟨sn, fin, rfl, h, by simp, fun _ q => q⟩
 | cons k ks ih =>
  intro sn fin hk h
  by_cases h1 : k ∈ sn
  ·have hw : bf su (k :: ks) sn = bf su ks sn := by simp only [bf, h1, if_true]
   rw [hw]
   rcases ih sn fin (fun x hx => hk x (List.mem_cons_of_mem _ hx)) h with q | ⟨sn', fin', q1, q2, q3, q4⟩
   ·exact .inl q
   ·exact .inr ⟨sn', fin', q1, q2, fun x hx => by
     rcases List.mem_cons.mp hx with rfl | hx
     ·exact q4 _ h1
     ·exact q3 x hx, q4⟩
  ·have hrl := vK (su := su) (ord := ord) sn
   rcases uS hsu ho 20 k [] sn fin h (hk k (List.mem_cons_self ..)) trivial trivial (by simp only [zz, List.map_nil, List.sum_nil]; lia) with ⟨q, c⟩ | ⟨sn', fin', q1, q2, q3, q4⟩
   ·exact .inl ⟨by simp only [bf, h1, if_false, q], c⟩
   ·have hw : bf su (k :: ks) sn = bf su ks sn' := by simp only [bf, h1, if_false, q1]
    rw [hw]
    rcases ih sn' fin' (fun x hx => hk x (List.mem_cons_of_mem _ hx)) q2 with q | ⟨sn2, fin2, r1, r2, r3, r4⟩
    ·exact .inl q
    ·exact .inr ⟨sn2, fin2, r1, r2, fun x hx => by
      rcases List.mem_cons.mp hx with rfl | hx
      ·exact r4 _ q3
      ·exact r3 x hx, fun x hx => r4 _ (q4 x hx)⟩
theorem jr {cyc : List Nat} (h : rR par cyc) : ∀ n, ∀ y ∈ cyc, zJ par n y = n
 | 0, _, _ => rfl
 | n + 1, y, hy => by
  obtain ⟨x, hx, e⟩ := h.2 y hy
  simp only [zJ, e, jr h n x hx]
theorem yM.at : ∀ {fin : List Nat}, yM su fin → ∀ {i x y : Nat}, fin[i]? = some x → y ∈ su x → ∃ j, i < j ∧ fin[j]? = some y
 | [], _, i, x, y, h, _ => by simp at h
 | a :: fin, ht, 0, x, y, h, hy => by
  simp at h; subst h
  obtain ⟨j, hj⟩ := List.mem_iff_getElem?.mp (ht.1 y hy)
  exact ⟨j + 1, by lia, by simpa using hj⟩
 | a :: fin, ht, i + 1, x, y, h, hy => by
  obtain ⟨j, hj, e⟩ := ht.2.at (i := i) (by simpa using h) hy
  exact ⟨j + 1, by lia, by simpa using e⟩
theorem qQ {l : List Nat} (h : l.Nodup) {i j x : Nat} (hi : l[i]? = some x) (hj : l[j]? = some x) : i = j := by
 obtain ⟨a, ea⟩ := List.getElem?_eq_some_iff.mp hi
 obtain ⟨b, eb⟩ := List.getElem?_eq_some_iff.mp hj
 exact (List.getElem_inj h).mp (ea.trans eb.symm)
theorem tW {fin : List Nat} (hf : fin.Nodup) (ht : yM su fin) (hs : ∀ x y, par y = some x → y ∈ fin → y ∈ su x ∧ x ∈ fin) : ∀ (m n y : Nat), fin[m]? = some y → zJ par n y ≤ m := by
 intro m
 induction m using Nat.strongRecOn with
 | _ m ih =>
  intro n y hy
  cases n with
  | zero => exact Nat.zero_le _
  | succ n =>
   cases q : par y with
   | none => simp only [zJ, q]; exact Nat.zero_le _
   | some x =>
    obtain ⟨h1, h2⟩ := hs x y q (List.mem_of_getElem? hy)
    obtain ⟨i, hi⟩ := List.mem_iff_getElem?.mp h2
    obtain ⟨j, hj, e⟩ := ht.at hi h1
    have := qQ hf e hy
    subst this
    have := ih i hj n x hi
    simp only [zJ, q]
    lia
end
noncomputable def aP (l : List Nat) : List V := l.map fun (x : Nat) => V.int (x : Int)
noncomputable def eD (n : Nat) (rdy : V) (po fi : Int) : List (Str × V) := [(Str.ofString "_node2info", .ref (n + 2)), (Str.ofString "_ready_nodes", rdy), (Str.ofString "_npassedout", .int po), (Str.ofString "_nfinished", .int fi)]
noncomputable def gH (ord : List Nat) (nd : Nat → Nat) : List (Int × V) := ord.map fun (k : Nat) => ((k : Int), V.ref (nd k))
structure zV (pre : List O) (ord : List Nat) (nd sc : Nat → Nat) (np : Nat → Int) (su : Nat → List Nat) (rdy : V) (po fi : Int) (H : List O) : Prop where
 take : H.take pre.length = pre
 fl : H[pre.length]? = some (.idict (eD pre.length rdy po fi))
 so : H[pre.length + 1]? = some (.inst 269 pre.length [])
 di : ∃ ep, H[pre.length + 2]? = some (.dict (gH ord nd) ep)
 no : ∀ k ∈ ord, ∃ d fs, H[nd k]? = some (.inst 172 d [some (.int k), some (.int (np k)), some (.ref (sc k))]) ∧ H[d]? = some (.idict fs) ∧ pre.length ≤ nd k
 sx : ∀ k ∈ ord, H[sc k]? = some (.list (aP (su k))) ∧ pre.length ≤ sc k
 inj : ∀ j ∈ ord, ∀ k ∈ ord, sc j = sc k → j = k
 nod : ord.Nodup
 dfl : ∀ k, k ∉ ord → np k = 0 ∧ su k = []
theorem cC {H : List O} {l : Nat} {o : O} (h : H[l]? = some o) : l < H.length := (List.getElem?_eq_some_iff.mp h).1
theorem aY {H : List O} {l m : Nat} {o o' : O} (h : H[l]? = some o) (hne : m ≠ l) : (H.set m o')[l]? = some o := by rw [List.getElem?_set_ne hne, h]
theorem fQ {H : List O} {m : Nat} {o o' : O} (h : H[m]? = some o) : (H.set m o')[m]? = some o' := by rw [List.getElem?_set_self (cC h)]
theorem aE {H X : List O} {l : Nat} {o : O} (h : H[l]? = some o) : (H ++ X)[l]? = some o := by rw [List.getElem?_append_left (cC h), h]
theorem aN {H : List O} {l m : Nat} {a b : O} (h : H[l]? = some a) (h' : H[m]? = some b) (hab : a ≠ b) : l ≠ m := fun e => by subst e; rw [h] at h'; exact hab (by cases h'; rfl)
theorem take_set {H pre : List O} {m : Nat} {o : O} (h : H.take pre.length = pre) (hm : pre.length ≤ m) : (H.set m o).take pre.length = pre := by
 rw [List.take_set, h, List.set_eq_of_length_le hm]
theorem fH {H X pre : List O} (h : H.take pre.length = pre) : (H ++ X).take pre.length = pre := by
 have : pre.length ≤ H.length := by rw [← h, List.length_take]; lia
 rw [List.take_append_of_le_length this, h]
theorem gr {nd : Nat → Nat} : ∀ (ord : List Nat) (k : Nat), (gH ord nd).lookup (k : Int) = if k ∈ ord then some (V.ref (nd k)) else none
 | [], _ => rfl
 | a :: ord, k => by
  unfold gH
  rw [List.map_cons, List.lookup_cons]
  by_cases e : k = a
  ·subst e; simp
  ·have e1 : ((k : Int) == (a : Int)) = false := by rw [beq_eq_false_iff_ne]; lia
   simp only [e1]
   have := gr (nd := nd) ord k
   unfold gH at this
   rw [this]
   simp only [List.mem_cons, e, false_or]
section
variable {pre : List O} {ord : List Nat} {nd sc : Nat → Nat} {np : Nat → Int} {su : Nat → List Nat} {rdy : V} {po fi : Int} {H : List O}
theorem zV.n2i (S : zV pre ord nd sc np su rdy po fi H) (L : List (Option V)) : getD 269 "_node2info" (.ref (pre.length + 1)) ⟨L, H⟩ = .ok (.ref (pre.length + 2)) ⟨L, H⟩ := by
 have e : nY (eD pre.length rdy po fi) "_node2info" = some (.ref (pre.length + 2)) := by kernel_rfl
 exact jQ S.so S.fl e rfl
theorem zV.grd (S : zV pre ord nd sc np su rdy po fi H) (ho : okV rdy = true) (L : List (Option V)) : getD 269 "_ready_nodes" (.ref (pre.length + 1)) ⟨L, H⟩ = .ok rdy ⟨L, H⟩ := by
 have e : nY (eD pre.length rdy po fi) "_ready_nodes" = some rdy := by kernel_rfl
 exact jQ S.so S.fl e ho
theorem zV.gpo (S : zV pre ord nd sc np su rdy po fi H) (L : List (Option V)) : getD 269 "_npassedout" (.ref (pre.length + 1)) ⟨L, H⟩ = .ok (.int po) ⟨L, H⟩ := by
 have e : nY (eD pre.length rdy po fi) "_npassedout" = some (.int po) := by kernel_rfl
 exact jQ S.so S.fl e rfl
theorem zV.gfi (S : zV pre ord nd sc np su rdy po fi H) (L : List (Option V)) : getD 269 "_nfinished" (.ref (pre.length + 1)) ⟨L, H⟩ = .ok (.int fi) ⟨L, H⟩ := by
 have e : nY (eD pre.length rdy po fi) "_nfinished" = some (.int fi) := by kernel_rfl
 exact jQ S.so S.fl e rfl
theorem zV.srdy (S : zV pre ord nd sc np su rdy po fi H) (u : V) (L : List (Option V)) : iR 269 "_ready_nodes" (.ref (pre.length + 1)) u ⟨L, H⟩ = .ok () ⟨L, H.set pre.length (.idict (eD pre.length u po fi))⟩ := by
 have e : lN (eD pre.length rdy po fi) "_ready_nodes" u = eD pre.length u po fi := by kernel_rfl
 rw [jG S.so S.fl (by show 4 ≤ 900; decide), e]
theorem zV.spo (S : zV pre ord nd sc np su rdy po fi H) (u : Int) (L : List (Option V)) : iR 269 "_npassedout" (.ref (pre.length + 1)) (.int u) ⟨L, H⟩ = .ok () ⟨L, H.set pre.length (.idict (eD pre.length rdy u fi))⟩ := by
 have e : lN (eD pre.length rdy po fi) "_npassedout" (.int u) = eD pre.length rdy u fi := by kernel_rfl
 rw [jG S.so S.fl (by show 4 ≤ 900; decide), e]
theorem zV.sfi (S : zV pre ord nd sc np su rdy po fi H) (u : Int) (L : List (Option V)) : iR 269 "_nfinished" (.ref (pre.length + 1)) (.int u) ⟨L, H⟩ = .ok () ⟨L, H.set pre.length (.idict (eD pre.length rdy po u))⟩ := by
 have e : lN (eD pre.length rdy po fi) "_nfinished" (.int u) = eD pre.length rdy po u := by kernel_rfl
 rw [jG S.so S.fl (by show 4 ≤ 900; decide), e]
theorem zV.own (S : zV pre ord nd sc np su rdy po fi H) {x : Str} (hx : (nY (eD pre.length rdy po fi) x).isNone = true) : bO 269 x (.ref (pre.length + 1)) H = true := by
 exact rb S.so S.fl hx
theorem zV.isD (S : zV pre ord nd sc np su rdy po fi H) : bP (.ref (pre.length + 2)) H = true := by
 obtain ⟨ep, h⟩ := S.di
 exact yj h
theorem zV.dget (S : zV pre ord nd sc np su rdy po fi H) (k : Nat) (L : List (Option V)) : gy (.ref (pre.length + 2)) [.int k] ⟨L, H⟩ = .ok (if k ∈ ord then .ref (nd k) else .none) ⟨L, H⟩ := by
 obtain ⟨ep, h⟩ := S.di
 unfold gy
 rw [w8, gI_k, wt h, gr]
 split <;> rfl
theorem zV.dsub (S : zV pre ord nd sc np su rdy po fi H) {k : Nat} (hk : k ∈ ord) (L : List (Option V)) : br (.ref (pre.length + 2)) (.int k) ⟨L, H⟩ = .ok (.ref (nd k)) ⟨L, H⟩ := by
 obtain ⟨ep, h⟩ := S.di
 rw [ki h, gr, if_pos hk]; rfl
theorem zV.g0 (S : zV pre ord nd sc np su rdy po fi H) {k : Nat} (hk : k ∈ ord) (L : List (Option V)) : eM 172 0 (.ref (nd k)) ⟨L, H⟩ = .ok (.int k) ⟨L, H⟩ := by
 obtain ⟨d, fs, h1, h2, _⟩ := S.no k hk
 exact mO h1 h2 rfl rfl
theorem zV.g1 (S : zV pre ord nd sc np su rdy po fi H) {k : Nat} (hk : k ∈ ord) (L : List (Option V)) : eM 172 1 (.ref (nd k)) ⟨L, H⟩ = .ok (.int (np k)) ⟨L, H⟩ := by
 obtain ⟨d, fs, h1, h2, _⟩ := S.no k hk
 exact mO h1 h2 rfl rfl
theorem zV.g2 (S : zV pre ord nd sc np su rdy po fi H) {k : Nat} (hk : k ∈ ord) (L : List (Option V)) : eM 172 2 (.ref (nd k)) ⟨L, H⟩ = .ok (.ref (sc k)) ⟨L, H⟩ := by
 obtain ⟨d, fs, h1, h2, _⟩ := S.no k hk
 exact mO h1 h2 rfl rfl
theorem zV.ndInj (S : zV pre ord nd sc np su rdy po fi H) {j k : Nat} (hj : j ∈ ord) (hk : k ∈ ord) (e : nd j = nd k) : j = k := by
 obtain ⟨d, fs, h1, h2, _⟩ := S.no j hj
 obtain ⟨d', fs', h1', h2', _⟩ := S.no k hk
 rw [e, h1'] at h1
 simp only [Option.some.injEq, O.inst.injEq, List.cons.injEq, V.int.injEq] at h1
 lia
theorem zV.app (S : zV pre ord nd sc np su rdy po fi H) (X : List O) : zV pre ord nd sc np su rdy po fi (H ++ X) :=
 ⟨fH S.take, aE S.fl, aE S.so, S.di.elim fun ep h => ⟨ep, aE h⟩, fun k hk => by
  obtain ⟨d, fs, h1, h2, h3⟩ := S.no k hk; exact ⟨d, fs, aE h1, aE h2, h3⟩, fun k hk => ⟨aE (S.sx k hk).1, (S.sx k hk).2⟩, S.inj, S.nod, S.dfl⟩
theorem zV.setList (S : zV pre ord nd sc np su rdy po fi H) {m : Nat} {xs : List V} (h : H[m]? = some (.list xs)) (hm : pre.length ≤ m) (hs : ∀ k ∈ ord, sc k ≠ m) (o : O) : zV pre ord nd sc np su rdy po fi (H.set m o) :=
 ⟨take_set S.take hm, aY S.fl (aN h S.fl (by simp)), aY S.so (aN h S.so (by simp)), S.di.elim fun ep q => ⟨ep, aY q (aN h q (by simp))⟩, fun k hk => by
  obtain ⟨d, fs, h1, h2, h3⟩ := S.no k hk; exact ⟨d, fs, aY h1 (aN h h1 (by simp)), aY h2 (aN h h2 (by simp)), h3⟩, fun k hk => ⟨aY (S.sx k hk).1 (hs k hk).symm, (S.sx k hk).2⟩, S.inj, S.nod, S.dfl⟩
theorem zV.setFl (S : zV pre ord nd sc np su rdy po fi H) (rdy' : V) (po' fi' : Int) : zV pre ord nd sc np su rdy' po' fi' (H.set pre.length (.idict (eD pre.length rdy' po' fi'))) :=
 ⟨take_set S.take (Nat.le_refl _), fQ S.fl, aY S.so (aN S.fl S.so (by simp)), S.di.elim fun ep q => ⟨ep, aY q (aN S.fl q (by simp))⟩, fun k hk => by
  obtain ⟨d, fs, h1, h2, h3⟩ := S.no k hk
  by_cases e : d = pre.length
  ·exact ⟨d, eD pre.length rdy' po' fi', aY h1 (aN S.fl h1 (by simp)), by rw [e]; exact fQ S.fl, h3⟩
  ·exact ⟨d, fs, aY h1 (aN S.fl h1 (by simp)), aY h2 (fun q => e q.symm), h3⟩, fun k hk => ⟨aY (S.sx k hk).1 (aN S.fl (S.sx k hk).1 (by simp)), (S.sx k hk).2⟩, S.inj, S.nod, S.dfl⟩
noncomputable def upd {α : Type} (f : Nat → α) (k : Nat) (v : α) : Nat → α := fun x => if x = k then v else f x
theorem eE {α : Type} (f : Nat → α) (k : Nat) (v : α) : upd f k v k = v := if_pos rfl
theorem c9 {α : Type} (f : Nat → α) {k x : Nat} (v : α) (h : x ≠ k) : upd f k v x = f x := if_neg h
theorem zV.s1 (S : zV pre ord nd sc np su rdy po fi H) {k : Nat} (hk : k ∈ ord) (z : Int) (L : List (Option V)) : ∃ H', fE 172 1 (.ref (nd k)) (.int z) ⟨L, H⟩ = .ok () ⟨L, H'⟩ ∧ zV pre ord nd sc (upd np k z) su rdy po fi H' ∧ H'.length = H.length ∧ ∀ (l : Nat) (xs : List V), H[l]? = some (O.list xs) → H'[l]? = some (O.list xs) := by
 obtain ⟨d, fs, h1, h2, h3⟩ := S.no k hk
 refine ⟨H.set (nd k) (.inst 172 d [some (.int k), some (.int z), some (.ref (sc k))]), ?_, ?_, List.length_set, fun l xs q => aY q (aN h1 q (by simp))⟩
 ·exact jE (σ := ⟨L, H⟩) h1 h2
 ·refine ⟨take_set S.take h3, aY S.fl (aN h1 S.fl (by simp)), aY S.so (aN h1 S.so (by simp)), S.di.elim fun ep q => ⟨ep, aY q (aN h1 q (by simp))⟩, fun j hj => ?_, fun j hj => ⟨aY (S.sx j hj).1 (aN h1 (S.sx j hj).1 (by simp)), (S.sx j hj).2⟩, S.inj, S.nod, fun j hj => ?_⟩
  ·by_cases e : j = k
   ·subst e
    exact ⟨d, fs, by rw [eE]; exact fQ h1, aY h2 (aN h1 h2 (by simp)), h3⟩
   ·obtain ⟨d', fs', g1, g2, g3⟩ := S.no j hj
    exact ⟨d', fs', by rw [c9 _ _ e]; exact aY g1 (fun q => e (S.ndInj hj hk q.symm)), aY g2 (aN h1 g2 (by simp)), g3⟩
  ·have : j ≠ k := fun e => hj (e ▸ hk)
   rw [c9 _ _ this]; exact S.dfl j hj
theorem zV.addS (S : zV pre ord nd sc np su rdy po fi H) {k : Nat} (hk : k ∈ ord) (y : Nat) : zV pre ord nd sc np (upd su k (su k ++ [y])) rdy po fi (H.set (sc k) (.list (aP (su k) ++ [.int y]))) := by
 obtain ⟨h1, h3⟩ := S.sx k hk
 refine ⟨take_set S.take h3, aY S.fl (aN h1 S.fl (by simp)), aY S.so (aN h1 S.so (by simp)), S.di.elim fun ep q => ⟨ep, aY q (aN h1 q (by simp))⟩, fun j hj => ?_, fun j hj => ?_, S.inj, S.nod, fun j hj => ?_⟩
 ·obtain ⟨d', fs', g1, g2, g3⟩ := S.no j hj
  exact ⟨d', fs', aY g1 (aN h1 g1 (by simp)), aY g2 (aN h1 g2 (by simp)), g3⟩
 ·by_cases e : j = k
  ·subst e
   refine ⟨?_, h3⟩
   rw [eE, fQ h1]
   unfold aP
   rw [List.map_append]; rfl
  ·exact ⟨by rw [c9 _ _ e]; exact aY (S.sx j hj).1 (fun q => e (S.inj j hj k hk q.symm)), (S.sx j hj).2⟩
 ·have : j ≠ k := fun e => hj (e ▸ hk)
  rw [c9 _ _ this]; exact S.dfl j hj
noncomputable def mn (n k : Nat) : List O := [.idict [], .inst 172 n [some (.int k), some (.int 0), some (.ref (n + 2))], .list []]
theorem zV.new (S : zV pre ord nd sc np su rdy po fi H) {k : Nat} (hk : k ∉ ord) : ∀ ep, H[pre.length + 2]? = some (.dict (gH ord nd) ep) → zV pre (ord ++ [k]) (upd nd k (H.length + 1)) (upd sc k (H.length + 2)) np su rdy po fi ((H ++ mn H.length k).set (pre.length + 2) (O.dict (gH ord nd ++ [((k : Int), V.ref (H.length + 1))]) (ep + 1))) := by
 intro ep hd
 have h1 := aE (X := mn H.length k) hd
 have S' := S.app (mn H.length k)
 have a0 : (H ++ mn H.length k)[H.length]? = some (.idict []) := by rw [List.getElem?_append_right (Nat.le_refl _), Nat.sub_self]; rfl
 have a1 : (H ++ mn H.length k)[H.length + 1]? = some (.inst 172 H.length [some (.int k), some (.int 0), some (.ref (H.length + 2))]) := by rw [List.getElem?_append_right (Nat.le_add_right _ _), Nat.add_sub_cancel_left]; rfl
 have a2 : (H ++ mn H.length k)[H.length + 2]? = some (.list []) := by rw [List.getElem?_append_right (Nat.le_add_right _ _), Nat.add_sub_cancel_left]; rfl
 have hle : pre.length ≤ H.length := by have := cC hd; lia
 have hne : ∀ j ∈ ord, j ≠ k := fun j hj e => hk (e ▸ hj)
 refine ⟨take_set S'.take (Nat.le_add_right _ _), aY S'.fl (aN h1 S'.fl (by simp)), aY S'.so (aN h1 S'.so (by simp)), ⟨ep + 1, ?_⟩, fun j hj => ?_, fun j hj => ?_, fun i hi j hj e => ?_, ?_, fun j hj => S.dfl j fun q => hj (List.mem_append_left _ q)⟩
 ·rw [fQ h1]
  unfold gH
  rw [List.map_append]
  congr 2
  congr 1
  ·apply List.map_congr_left
   intro j hj
   rw [c9 _ _ (hne j hj)]
  ·simp only [List.map_cons, List.map_nil, eE]
 ·rcases List.mem_append.mp hj with hj | hj
  ·obtain ⟨d', fs', g1, g2, g3⟩ := S'.no j hj
   rw [c9 _ _ (hne j hj), c9 _ _ (hne j hj)]
   exact ⟨d', fs', aY g1 (aN h1 g1 (by simp)), aY g2 (aN h1 g2 (by simp)), g3⟩
  ·simp at hj; subst hj
   rw [eE, eE, (S.dfl j hk).1]
   exact ⟨H.length, [], aY a1 (aN h1 a1 (by simp)), aY a0 (aN h1 a0 (by simp)), by lia⟩
 ·rcases List.mem_append.mp hj with hj | hj
  ·rw [c9 _ _ (hne j hj)]
   exact ⟨aY (S'.sx j hj).1 (aN h1 (S'.sx j hj).1 (by simp)), (S'.sx j hj).2⟩
  ·simp at hj; subst hj
   rw [eE, (S.dfl j hk).2]
   exact ⟨aY a2 (aN h1 a2 (by simp)), by lia⟩
 ·have hk2 : ∀ j ∈ ord, sc j < H.length := fun j hj => cC (S.sx j hj).1
  rcases List.mem_append.mp hi with qi | qi <;> rcases List.mem_append.mp hj with qj | qj
  ·rw [c9 _ _ (hne i qi), c9 _ _ (hne j qj)] at e; exact S.inj i qi j qj e
  ·have e2 : j = k := by simpa using qj
   rw [c9 _ _ (hne i qi), e2, eE] at e
   have := hk2 i qi; lia
  ·have e2 : i = k := by simpa using qi
   rw [c9 _ _ (hne j qj), e2, eE] at e
   have := hk2 j qj; lia
  ·have e2 : i = k := by simpa using qi
   have e3 : j = k := by simpa using qj
   rw [e2, e3]
 ·rw [List.nodup_append]
  exact ⟨S.nod, by simp, fun a ha b hb => by simp at hb; subst hb; exact hne a ha⟩
end
theorem bX {m : St → zZ V} {f : V → St → zZ Unit} {v : V} {σ ae aq : St} (h : m σ = .ok v ae) (h' : f v ae = .ok () aq) : an m f σ = .ok .next aq := by
 unfold an; rw [h, zZ.bind_ok, h', zZ.bind_ok]
theorem bz {g : V → St → zZ V} {mo : St → zZ V} {v : V} {σ ae : St} (h : mo σ = .ok v ae) : ba g mo σ = g v ae := by
 unfold ba; rw [h, zZ.bind_ok]
theorem d9 {β : Type} {t : St → zZ Bool} {a b : St → zZ β} {c : Bool} {σ ae : St} (h : t σ = .ok c ae) : zE t a b σ = if c then a ae else b ae := by
 unfold zE; rw [h, zZ.bind_ok]
theorem gP {t : St → zZ Bool} {b e : St → zZ F} {n : Nat} {σ ae aq : St} (ht : t σ = .ok true ae) (hb : b ae = .ok .next aq) : bS t b e (n + 1) σ = bS t b e n aq := by
 rw [bS, ht]
 simp only [zZ.calm, zZ.bind_ok, if_true]
 rw [hb]
 simp only [zZ.calm, zZ.bind_ok]
theorem j8 {t : St → zZ Bool} {b e : St → zZ F} {n : Nat} {σ ae aq : St} (ht : t σ = .ok true ae) (hb : b ae = .ok .brk aq) : bS t b e (n + 1) σ = .ok .next aq := by
 rw [bS, ht]
 simp only [zZ.calm, zZ.bind_ok, if_true]
 rw [hb]
 simp only [zZ.calm, zZ.bind_ok]
theorem pL {t : St → zZ Bool} {b e : St → zZ F} {n : Nat} {σ ae aq : St} {v : V} (ht : t σ = .ok true ae) (hb : b ae = .ok (.ret v) aq) : bS t b e (n + 1) σ = .ok (.ret v) aq := by
 rw [bS, ht]
 simp only [zZ.calm, zZ.bind_ok, if_true]
 rw [hb]
 simp only [zZ.calm, zZ.bind_ok]
theorem j7 {t : St → zZ Bool} {b e : St → zZ F} {n : Nat} {σ ae aq : St} {f : F} (ht : t σ = .ok false ae) (he : e ae = .ok f aq) : bS t b e (n + 1) σ = .ok f aq := by
 rw [bS, ht]
 simp only [zZ.calm, zZ.bind_ok, if_false, Bool.false_eq_true]
 rw [he]
theorem uf {m : St → zZ F} {hd : z5} {f : F} {σ ae : St} (h : m σ = .ok f ae) : lT m hd σ = .ok f ae := by
 unfold lT; rw [h]
theorem pN {m : St → zZ F} {hd : z5} {c : V} {as : List V} {σ ae : St} (h : m σ = .exc c as ae) : lT m hd σ = hd c as ae := by
 unfold lT; rw [h]
theorem wm {l : Nat} {xs : List V} {v : V} {σ : St} (h : σ.heap[l]? = some (.list (xs ++ [v]))) : br (.ref l) (.int (-1)) σ = .ok v σ := by
 have hl : (xs ++ [v]).length = xs.length + 1 := by simp
 rw [kh h, show decide ((0 : Int) ≤ -1) = false from rfl, cond_false, if_pos ⟨by decide, by rw [hl]; lia, by decide⟩, hl, show ((-1 : Int) + ((xs.length + 1 : Nat) : Int)).toNat = xs.length by lia]
 rw [List.getElem?_append_right (Nat.le_refl _), Nat.sub_self]; rfl
theorem f0 {l : Nat} {xs : List V} {σ : St} (h : σ.heap[l]? = some (.list xs)) (hl : xs.length ≤ 1000) : bT (.ref l) σ = .ok (!xs.isEmpty) σ := by
 rw [r7 h, if_pos (by show xs.length ≤ 16777216; lia)]
theorem uo {l : Nat} {xs : List V} {v : V} {σ : St} (h : σ.heap[l]? = some (.list (xs ++ [v]))) (hl : xs.length ≤ 999) : oU (.ref l) [] σ = .ok v { σ with heap := σ.heap.set l (.list xs) } := by
 unfold oU
 rw [yY, iV h, List.getLast?_concat, List.dropLast_concat, zb]
 have hl2 : (xs ++ [v]).length = xs.length + 1 := by simp
 rw [hl2, if_pos (by show xs.length + 1 ≤ 16777216; lia)]
theorem tM {l : Nat} {H : List O} {xs : List Int} (h : H[l]? = some (.set xs)) : eu (.ref l) H = true := by
 exact uy h
noncomputable def zF (H0 : List O) (a b c d : O) (Y : List O) : List O := H0 ++ (a :: b :: c :: d :: Y)
section
variable (H0 : List O) (a b c d : O) (Y : List O)
theorem lr : (zF H0 a b c d Y)[H0.length]? = some a := by unfold zF; rw [List.getElem?_append_right (Nat.le_refl _), Nat.sub_self]; rfl
theorem rf : (zF H0 a b c d Y)[H0.length + 1]? = some b := by unfold zF; rw [List.getElem?_append_right (Nat.le_add_right _ _), Nat.add_sub_cancel_left]; rfl
theorem tQ : (zF H0 a b c d Y)[H0.length + 2]? = some c := by unfold zF; rw [List.getElem?_append_right (Nat.le_add_right _ _), Nat.add_sub_cancel_left]; rfl
theorem tP : (zF H0 a b c d Y)[H0.length + 3]? = some d := by unfold zF; rw [List.getElem?_append_right (Nat.le_add_right _ _), Nat.add_sub_cancel_left]; rfl
theorem wp (i : Nat) : (zF H0 a b c d Y)[H0.length + 4 + i]? = Y[i]? := by
 unfold zF
 rw [List.getElem?_append_right (by lia), show H0.length + 4 + i - H0.length = i + 1 + 1 + 1 + 1 by lia]
 rfl
theorem uC (o : O) : (zF H0 a b c d Y).set H0.length o = zF H0 o b c d Y := by unfold zF; rw [List.set_append_right _ _ (Nat.le_refl _), Nat.sub_self]; rfl
theorem uB (o : O) : (zF H0 a b c d Y).set (H0.length + 1) o = zF H0 a o c d Y := by unfold zF; rw [List.set_append_right _ _ (Nat.le_add_right _ _), Nat.add_sub_cancel_left]; rfl
theorem yl (o : O) : (zF H0 a b c d Y).set (H0.length + 2) o = zF H0 a b o d Y := by unfold zF; rw [List.set_append_right _ _ (Nat.le_add_right _ _), Nat.add_sub_cancel_left]; rfl
theorem uA (o : O) : (zF H0 a b c d Y).set (H0.length + 3) o = zF H0 a b c o Y := by unfold zF; rw [List.set_append_right _ _ (Nat.le_add_right _ _), Nat.add_sub_cancel_left]; rfl
theorem yk (i : Nat) (o : O) : (zF H0 a b c d Y).set (H0.length + 4 + i) o = zF H0 a b c d (Y.set i o) := by
 unfold zF
 rw [List.set_append_right _ _ (by lia), show H0.length + 4 + i - H0.length = i + 1 + 1 + 1 + 1 by lia]
 rfl
theorem re (Z : List O) : zF H0 a b c d Y ++ Z = zF H0 a b c d (Y ++ Z) := by unfold zF; rw [List.append_assoc]; rfl
theorem rd : (zF H0 a b c d Y).length = H0.length + 4 + Y.length := by unfold zF; rw [List.length_append]; simp only [List.length_cons]; lia
theorem nW : (zF H0 a b c d Y).take H0.length = H0 := by unfold zF; rw [List.take_append_of_le_length (Nat.le_refl _), List.take_length]
end
noncomputable def zo (T : List (Nat × Nat)) : List V := (T.map fun t => V.int ((t.1 : Nat) : Int)).reverse
noncomputable def zB (b : Nat) (I : List Nat) : List V := (I.map fun i => V.ref (b + 4 + (2 * i + 1))).reverse
noncomputable def zp (sn : List Nat) : List Int := sn.map fun (x : Nat) => (x : Int)
noncomputable def zG : List (Nat × Nat) → List (Int × V)
 | [] => []
 | (x, _) :: r => zG r ++ [((x : Int), V.int ((r.length : Nat) : Int))]
theorem jw (x p : Nat) (T : List (Nat × Nat)) : zo ((x, p) :: T) = zo T ++ [.int x] := by unfold zo; rw [List.map_cons, List.reverse_cons]
theorem jN (b i : Nat) (I : List Nat) : zB b (i :: I) = zB b I ++ [.ref (b + 4 + (2 * i + 1))] := by unfold zB; rw [List.map_cons, List.reverse_cons]
theorem fw (T : List (Nat × Nat)) : (zo T).length = T.length := by unfold zo; rw [List.length_reverse, List.length_map]
theorem q8 (b : Nat) (I : List Nat) : (zB b I).length = I.length := by unfold zB; rw [List.length_reverse, List.length_map]
theorem mU : ∀ T : List (Nat × Nat), (zG T).length = T.length
 | [] => rfl
 | (x, p) :: r => by simp [zG, mU r]
theorem pY (sn : List Nat) (x : Nat) : (zp sn).contains (x : Int) = decide (x ∈ sn) := by
 unfold zp
 rw [Bool.eq_iff_iff]
 simp only [List.contains_iff_mem, List.mem_map, decide_eq_true_eq]
 constructor
 ·rintro ⟨y, h, e⟩
  have : y = x := by lia
  exact this ▸ h
 ·exact fun h => ⟨x, h, rfl⟩
theorem mS : ∀ (T : List (Nat × Nat)) (z : Nat), z ∉ T.map (·.1) → (zG T).lookup (z : Int) = none
 | [], _, _ => rfl
 | (x, p) :: r, z, h => by
  have h1 : z ≠ x := fun e => h (by simp [e])
  have e1 : ((z : Int) == (x : Int)) = false := by rw [beq_eq_false_iff_ne]; lia
  rw [zG, List.lookup_append, mS r z fun q => h (by simp only [List.map_cons]; exact List.mem_cons_of_mem _ q)]
  simp only [List.lookup_cons, e1, List.lookup_nil, Option.or_none, Option.none_or]
theorem jT : ∀ (T : List (Nat × Nat)) (z : Nat), z ∈ T.map (·.1) → ∃ j : Nat, (zG T).lookup (z : Int) = some (.int j)
 | [], _, h => by cases h
 | (x, p) :: r, z, h => by
  rw [zG, List.lookup_append]
  by_cases hr : z ∈ r.map (·.1)
  ·obtain ⟨j, e⟩ := jT r z hr
   exact ⟨j, by rw [e]; rfl⟩
  ·have e : z = x := by
    rcases List.mem_cons.mp h with h | h
    ·exact h
    ·exact absurd h hr
   rw [mS r z hr, e]
   exact ⟨r.length, by simp only [List.lookup_cons, beq_self_eq_true, Option.none_or]⟩
theorem mT : ∀ (T : List (Nat × Nat)) (e : Int × V), e ∈ zG T → ∃ x : Nat, x ∈ T.map (·.1) ∧ e.1 = (x : Int)
 | [], e, h => by cases h
 | (x, p) :: r, e, h => by
  rw [zG, List.mem_append] at h
  rcases h with h | h
  ·obtain ⟨y, hy, q⟩ := mT r e h
   exact ⟨y, List.mem_cons_of_mem _ hy, q⟩
  ·simp at h; subst h; exact ⟨x, List.mem_cons_self .., rfl⟩
theorem yp (T : List (Nat × Nat)) (x p : Nat) (h : x ∉ T.map (·.1)) : rq (zG ((x, p) :: T)) (x : Int) = zG T := by
 unfold rq
 rw [zG, List.filter_append]
 have h1 : (zG T).filter (fun q => decide (q.1 ≠ (x : Int))) = zG T := by
  rw [List.filter_eq_self]
  intro e he
  obtain ⟨y, hy, q⟩ := mT T e he
  rw [decide_eq_true_eq, q]
  intro e2
  have : y = x := by lia
  exact h (this ▸ hy)
 rw [h1]
 simp
theorem yo (T : List (Nat × Nat)) (x p : Nat) (h : x ∉ T.map (·.1)) (ep : Nat) : ly (zG T) (x : Int) (.int ((T.length : Nat) : Int)) = zG ((x, p) :: T) ∧ (if (zG T).any (fun q => q.1 = (x : Int)) then ep else ep + 1) = ep + 1 := by
 have h1 : (zG T).any (fun q => decide (q.1 = (x : Int))) = false := by
  rw [List.any_eq_false]
  intro e he
  obtain ⟨y, hy, q⟩ := mT T e he
  rw [decide_eq_true_eq, q]
  intro e2
  have : y = x := by lia
  exact h (this ▸ hy)
 refine ⟨?_, by rw [h1]; rfl⟩
 unfold ly
 rw [h1]; rfl
noncomputable def j6 (sc : Nat → Nat) (b : Nat) (Y : List O) : List (Nat × Nat) → List Nat → Prop
 | [], [] => True
 | (x, p) :: T, i :: I => Y[2 * i]? = some (.liter (sc x) p) ∧ Y[2 * i + 1]? = some (.mnext (b + 4 + 2 * i)) ∧ i ∉ I ∧ j6 sc b Y T I
 | _, _ => False
theorem j6.app {sc : Nat → Nat} {b : Nat} {Y Z : List O} : ∀ {T : List (Nat × Nat)} {I : List Nat}, j6 sc b Y T I → j6 sc b (Y ++ Z) T I
 | [], [], _ => trivial
 | (x, p) :: T, i :: I, ⟨h1, h2, h3, h4⟩ => ⟨aE h1, aE h2, h3, h4.app⟩
theorem j6.set {sc : Nat → Nat} {b : Nat} {Y : List O} {j : Nat} {o : O} : ∀ {T : List (Nat × Nat)} {I : List Nat}, j6 sc b Y T I → j ∉ I → j6 sc b (Y.set (2 * j) o) T I
 | [], [], _, _ => trivial
 | (x, p) :: T, i :: I, ⟨h1, h2, h3, h4⟩, hj => by
  have : j ≠ i := fun e => hj (by simp [e])
  exact ⟨aY h1 (by lia), aY h2 (by lia), h3, h4.set fun q => hj (List.mem_cons_of_mem _ q)⟩
theorem j6.len {sc : Nat → Nat} {b : Nat} {Y : List O} : ∀ {T : List (Nat × Nat)} {I : List Nat}, j6 sc b Y T I → I.length = T.length
 | [], [], _ => rfl
 | (x, p) :: T, i :: I, ⟨_, _, _, h4⟩ => by simp [h4.len]
theorem j6.lt {sc : Nat → Nat} {b : Nat} {Y : List O} : ∀ {T : List (Nat × Nat)} {I : List Nat}, j6 sc b Y T I → ∀ i ∈ I, 2 * i < Y.length
 | [], [], _, i, h => by cases h
 | (x, p) :: T, j :: I, ⟨h1, _, _, h4⟩, i, h => by
  rcases List.mem_cons.mp h with rfl | h
  ·exact cC h1
  ·exact h4.lt i h
noncomputable def L7 (n b : Nat) (v : Option V) : List (Option V) := [some (.ref (n + 1)), some (.ref (n + 2)), some (.ref b), some (.ref (b + 1)), some (.ref (b + 2)), some (.ref (b + 3)), v]
noncomputable abbrev HP (H0 : List O) (T : List (Nat × Nat)) (I sn : List Nat) (ep : Nat) (Y : List O) : List O := zF H0 (.list (zo T)) (.list (zB H0.length I)) (.set (zp sn)) (.dict (zG T) ep) Y
noncomputable abbrev y5 : St → zZ V := fun σ => (bp br (ai 3) (fun σ => (aa (V.int 1) σ).bind tv) σ).bind rz
noncomputable abbrev ze : Nat → St → zZ F := bS (aB (ai 2)) (lT (aM (an y5 (ao 6)) (aa F.brk)) (gm [(V.type "StopIteration", true)] (kU (aM (wy (ai 5) (a7 aO oU (ai 2) (aa []))) (bE (a7 aO oU (ai 3) (aa []))))) uI)) (aa F.brk)
section
variable {pre : List O} {ord : List Nat} {nd sc : Nat → Nat} {np : Nat → Int} {su : Nat → List Nat} {rdy : V} {po fi : Int} {H0 : List O}
theorem sN (S : zV pre ord nd sc np su rdy po fi H0) {a c d : O} {xs : List V} {i x p : Nat} {Y : List O} {v : Option V} (hx : x ∈ ord) (h1 : Y[2 * i]? = some (.liter (sc x) p)) (h2 : Y[2 * i + 1]? = some (.mnext (H0.length + 4 + 2 * i))) :
  y5 ⟨L7 pre.length H0.length v, zF H0 a (.list (xs ++ [.ref (H0.length + 4 + (2 * i + 1))])) c d Y⟩ = match (su x)[p]? with
   | some y => .ok (.int y) ⟨L7 pre.length H0.length v, zF H0 a (.list (xs ++ [.ref (H0.length + 4 + (2 * i + 1))])) c d (Y.set (2 * i) (.liter (sc x) (p + 1)))⟩
   | none => .exc (.type "StopIteration") [] ⟨L7 pre.length H0.length v, zF H0 a (.list (xs ++ [.ref (H0.length + 4 + (2 * i + 1))])) c d (Y.set (2 * i) .dead)⟩ := by
 have e1 : bp br (ai 3) (fun σ => (aa (V.int 1) σ).bind tv) ⟨L7 pre.length H0.length v, zF H0 a (.list (xs ++ [.ref (H0.length + 4 + (2 * i + 1))])) c d Y⟩ = .ok (.ref (H0.length + 4 + (2 * i + 1))) ⟨L7 pre.length H0.length v, zF H0 a (.list (xs ++ [.ref (H0.length + 4 + (2 * i + 1))])) c d Y⟩ := by
  refine (bq (a := .ref (H0.length + 1)) (b := .int (-1)) (ae := ⟨L7 pre.length H0.length v, zF H0 a (.list (xs ++ [.ref (H0.length + 4 + (2 * i + 1))])) c d Y⟩) (aq := ⟨L7 pre.length H0.length v, zF H0 a (.list (xs ++ [.ref (H0.length + 4 + (2 * i + 1))])) c d Y⟩) rfl rfl).trans ?_
  exact wm (rf ..)
 show (bp br (ai 3) (fun σ => (aa (V.int 1) σ).bind tv) _).bind rz = _
 rw [e1, zZ.bind_ok]
 have g1 := (wp H0 a (.list (xs ++ [.ref (H0.length + 4 + (2 * i + 1))])) c d Y (2 * i + 1)).trans h2
 have g2 := (wp H0 a (.list (xs ++ [.ref (H0.length + 4 + (2 * i + 1))])) c d Y (2 * i)).trans h1
 have g3 : (zF H0 a (.list (xs ++ [.ref (H0.length + 4 + (2 * i + 1))])) c d Y)[sc x]? = some (.list (aP (su x))) := aE (S.sx x hx).1
 refine (iF g1).trans ((mP g2).trans ((mP g3).trans ?_))
 show pO _ _ _ _ _ = _
 unfold pO
 simp only [yk]
 cases q : (su x)[p]? with
 | some y =>
  have : (aP (su x))[p]? = some (.int y) := by unfold aP; rw [List.getElem?_map, q]; rfl
  simp only [this]
 | none =>
  have : (aP (su x))[p]? = none := by unfold aP; rw [List.getElem?_map, q]; rfl
  simp only [this]
theorem oN {T : List (Nat × Nat)} {x p i ep : Nat} {I sn : List Nat} {Y : List O} {v : Option V} (hx : x ∉ T.map (·.1)) (hl : T.length ≤ 100) (hi : I.length ≤ 100) :
  (aM (wy (ai 5) (a7 aO oU (ai 2) (aa []))) (bE (a7 aO oU (ai 3) (aa [])))) ⟨L7 pre.length H0.length v, HP H0 ((x, p) :: T) (i :: I) sn ep Y⟩ = .ok .next ⟨L7 pre.length H0.length v, HP H0 T I sn (ep + 1) Y⟩ := by
 unfold HP
 rw [jw, jN]
 have p1 : a7 aO oU (ai 2) (aa []) ⟨L7 pre.length H0.length v, zF H0 (.list (zo T ++ [.int x])) (.list (zB H0.length I ++ [.ref (H0.length + 4 + (2 * i + 1))])) (.set (zp sn)) (.dict (zG ((x, p) :: T)) ep) Y⟩ = .ok (.int x) ⟨L7 pre.length H0.length v, zF H0 (.list (zo T)) (.list (zB H0.length I ++ [.ref (H0.length + 4 + (2 * i + 1))])) (.set (zp sn)) (.dict (zG ((x, p) :: T)) ep) Y⟩ := by
  rw [cM (mo := ai 2) (ma := aa []) (v := .ref H0.length) (vs := []) (ae := ⟨L7 pre.length H0.length v, zF H0 (.list (zo T ++ [.int x])) (.list (zB H0.length I ++ [.ref (H0.length + 4 + (2 * i + 1))])) (.set (zp sn)) (.dict (zG ((x, p) :: T)) ep) Y⟩) rfl (cB (lr ..)) rfl]
  rw [uo (lr ..) (by rw [fw]; lia)]
  simp only [uC]
 have p2 : wy (ai 5) (a7 aO oU (ai 2) (aa [])) ⟨L7 pre.length H0.length v, zF H0 (.list (zo T ++ [.int x])) (.list (zB H0.length I ++ [.ref (H0.length + 4 + (2 * i + 1))])) (.set (zp sn)) (.dict (zG ((x, p) :: T)) ep) Y⟩ = .ok .next ⟨L7 pre.length H0.length v, zF H0 (.list (zo T)) (.list (zB H0.length I ++ [.ref (H0.length + 4 + (2 * i + 1))])) (.set (zp sn)) (.dict (zG T) (ep + 1)) Y⟩ := by
  unfold wy
  have e0 : ai 5 ⟨L7 pre.length H0.length v, zF H0 (.list (zo T ++ [.int x])) (.list (zB H0.length I ++ [.ref (H0.length + 4 + (2 * i + 1))])) (.set (zp sn)) (.dict (zG ((x, p) :: T)) ep) Y⟩ = .ok (.ref (H0.length + 3)) ⟨L7 pre.length H0.length v, zF H0 (.list (zo T ++ [.int x])) (.list (zB H0.length I ++ [.ref (H0.length + 4 + (2 * i + 1))])) (.set (zp sn)) (.dict (zG ((x, p) :: T)) ep) Y⟩ := rfl
  rw [e0, zZ.bind_ok, p1, zZ.bind_ok]
  have hlk : ((zG ((x, p) :: T)).lookup (x : Int)).isSome = true := by
   obtain ⟨j, e⟩ := jT ((x, p) :: T) x (List.mem_cons_self ..)
   rw [e]; rfl
  unfold yZ
  simp only [tP]
  rw [if_pos ⟨by rw [mU]; show T.length + 1 ≤ 16777216; lia, hlk⟩]
  simp only [zZ.bind_ok, uA, yp T x p hx]
 rw [aG p2]
 refine cZ (v := .ref (H0.length + 4 + (2 * i + 1))) ?_
 rw [cM (mo := ai 3) (ma := aa []) (v := .ref (H0.length + 1)) (vs := []) (ae := ⟨L7 pre.length H0.length v, zF H0 (.list (zo T)) (.list (zB H0.length I ++ [.ref (H0.length + 4 + (2 * i + 1))])) (.set (zp sn)) (.dict (zG T) (ep + 1)) Y⟩) rfl (cB (rf ..)) rfl]
 rw [uo (rf ..) (by rw [q8]; lia)]
 simp only [uB]
theorem sD (S : zV pre ord nd sc np su rdy po fi H0) {sn : List Nat} {v : Option V} : ∀ (T : List (Nat × Nat)) (I : List Nat) (Y : List O) (ep f : Nat), j6 sc H0.length Y T I → (T.map (·.1)).Nodup → (∀ x ∈ T.map (·.1), x ∈ ord) → T.length ≤ 100 → T.length < f →
  (zR su T = none → ∃ ep' Y', ze f ⟨L7 pre.length H0.length v, HP H0 T I sn ep Y⟩ = .ok .brk ⟨L7 pre.length H0.length v, HP H0 [] [] sn ep' Y'⟩ ∧ Y'.length = Y.length) ∧
  (∀ y T', zR su T = some (y, T') → ∃ I' ep' Y', ze f ⟨L7 pre.length H0.length v, HP H0 T I sn ep Y⟩ = .ok .next ⟨L7 pre.length H0.length (some (.int y)), HP H0 T' I' sn ep' Y'⟩ ∧ j6 sc H0.length Y' T' I' ∧ Y'.length = Y.length) := by
 intro T
 induction T with
 | nil =>
  intro I Y ep f h1 _ _ _ hf
  obtain ⟨f, rfl⟩ : ∃ g, f = g + 1 := ⟨f - 1, by lia⟩
  cases I with
  | cons => exact h1.elim
  | nil =>
   refine ⟨fun _ => ⟨ep, Y, ?_, rfl⟩, fun y T' h => by cases h⟩
   refine j7 (ae := ⟨L7 pre.length H0.length v, HP H0 [] [] sn ep Y⟩) ?_ rfl
   show (ai 2 _).bind bT = _
   rw [show ai 2 ⟨L7 pre.length H0.length v, HP H0 [] [] sn ep Y⟩ = .ok (.ref H0.length) ⟨L7 pre.length H0.length v, HP H0 [] [] sn ep Y⟩ from rfl, zZ.bind_ok]
   exact f0 (xs := []) (lr ..) (by decide)
 | cons t T ih =>
  obtain ⟨x, p⟩ := t
  intro I Y ep f h1 hn ho hl hf
  obtain ⟨f, rfl⟩ : ∃ g, f = g + 1 := ⟨f - 1, by lia⟩
  cases I with
  | nil => exact h1.elim
  | cons i I =>
   obtain ⟨l1, l2, l3, l4⟩ := h1
   have hn' := List.nodup_cons.mp hn
   simp only [List.length_cons] at hl hf
   have ht : aB (ai 2) ⟨L7 pre.length H0.length v, HP H0 ((x, p) :: T) (i :: I) sn ep Y⟩ = .ok true ⟨L7 pre.length H0.length v, HP H0 ((x, p) :: T) (i :: I) sn ep Y⟩ := by
    show (ai 2 _).bind bT = _
    rw [show ai 2 ⟨L7 pre.length H0.length v, HP H0 ((x, p) :: T) (i :: I) sn ep Y⟩ = .ok (.ref H0.length) ⟨L7 pre.length H0.length v, HP H0 ((x, p) :: T) (i :: I) sn ep Y⟩ from rfl, zZ.bind_ok]
    rw [f0 (xs := zo ((x, p) :: T)) (lr ..) (by rw [fw]; simp only [List.length_cons]; lia)]
    rw [jw]
    cases zo T <;> rfl
   have hc := sN S (a := .list (zo ((x, p) :: T))) (c := .set (zp sn)) (d := .dict (zG ((x, p) :: T)) ep) (xs := zB H0.length I) (v := v) (ho x (List.mem_cons_self ..)) l1 l2
   rw [← jN] at hc
   cases q : (su x)[p]? with
   | some y =>
    rw [q] at hc
    refine ⟨fun e => (by simp only [zR, q] at e; cases e), fun y' T' e => ?_⟩
    simp only [zR, q, Option.some.injEq, Prod.mk.injEq] at e
    obtain ⟨e1, e2⟩ := e
    subst e1; subst e2
    refine ⟨i :: I, ep, Y.set (2 * i) (.liter (sc x) (p + 1)), ?_, ⟨fQ l1, aY l2 (by lia), l3, l4.set l3⟩, List.length_set⟩
    refine j8 ht (uf ?_)
    rw [aG (bx hc)]
    rfl
   | none =>
    rw [q] at hc
    have hb : (lT (aM (an y5 (ao 6)) (aa F.brk))
              (gm [(V.type "StopIteration", true)]
               (kU
                (aM (wy (ai 5) (a7 aO oU (ai 2) (aa [])))
                 (bE (a7 aO oU (ai 3) (aa [])))))
               uI)) ⟨L7 pre.length H0.length v, HP H0 ((x, p) :: T) (i :: I) sn ep Y⟩ = .ok .next ⟨L7 pre.length H0.length v, HP H0 T I sn (ep + 1) (Y.set (2 * i) .dead)⟩ := by
     have hx : aM (an y5 (ao 6)) (aa F.brk) ⟨L7 pre.length H0.length v, HP H0 ((x, p) :: T) (i :: I) sn ep Y⟩ = .exc (.type "StopIteration") [] ⟨L7 pre.length H0.length v, HP H0 ((x, p) :: T) (i :: I) sn ep (Y.set (2 * i) .dead)⟩ := by
      unfold aM an
      rw [hc]; rfl
     rw [pN hx]
     have hpick : ∀ (yes no : z5) (as : List V) (σ : St), gm [(V.type "StopIteration", true)] yes no (V.type "StopIteration") as σ = yes (V.type "StopIteration") as σ := fun _ _ _ _ => rfl
     rw [hpick]
     show (aM _ _ _).calm = _
     rw [oN hn'.1 (by lia) (by rw [l4.len]; lia)]
     rfl
    obtain ⟨i1, i2⟩ := ih I (Y.set (2 * i) .dead) (ep + 1) f (l4.set l3) hn'.2 (fun z hz => ho z (List.mem_cons_of_mem _ hz)) (by lia) (by lia)
    refine ⟨fun e => ?_, fun y' T' e => ?_⟩
    ·simp only [zR, q] at e
     obtain ⟨ep', Y', a, b⟩ := i1 e
     exact ⟨ep', Y', (gP ht hb).trans a, by rw [b, List.length_set]⟩
    ·simp only [zR, q] at e
     obtain ⟨I', ep', Y', a, b, c⟩ := i2 y' T' e
     exact ⟨I', ep', Y', (gP ht hb).trans a, b, by rw [c, List.length_set]⟩
end
noncomputable abbrev R259 : St → zZ F := (dg (aR Operator.Add (cu (ai 2) (bp br (ai 5) (ai 6)) (aa V.none)) (bu (aj (ai 6) (aa [])))))
noncomputable abbrev P259 : St → zZ F := (aM (bE (a7 eu yK (ai 4) (aj (ai 6) (aa [])))) (aM (bE (a7 aO bk (ai 3) (aj (ba oZ (aC (aj (ba (eM 172 2) (bp br (ai 1) (ai 6))) (aa [])) mJ)) (aa [])))) (aM (an (aC (aj (ai 2) (aa [])) iU) (pR (ai 5) (ai 6))) (bE (a7 aO bk (ai 2) (aj (ai 6) (aa [])))))))
noncomputable abbrev yR : St → zZ F := (zE (aB (aW CmpOp.In (ai 6) (ai 4))) (zE (aB (aW CmpOp.In (ai 6) (ai 5))) R259 (aa F.next)) P259)
noncomputable abbrev pE : Nat → St → zZ F := bS (aB (aa (V.bool true))) (aM yR (ze 20)) (aa F.next)
theorem rL (su : Nat → List Nat) : ∀ (T : List (Nat × Nat)) (y : Nat) (T' : List (Nat × Nat)), zR su T = some (y, T') → (∃ Q, T.map (·.1) = Q ++ T'.map (·.1)) ∧ ∃ x, y ∈ su x
 | [], y, T', h => by cases h
 | (x, p) :: r, y, T', h => by
  unfold zR at h
  split at h
  ·rename_i z q
   cases h
   exact ⟨⟨[], rfl⟩, x, List.mem_of_getElem? q⟩
  ·obtain ⟨⟨Q, e⟩, g⟩ := rL su r y T' h
   exact ⟨⟨x :: Q, by rw [List.map_cons, e]; rfl⟩, g⟩
structure Sm (ord : List Nat) (T : List (Nat × Nat)) (sn : List Nat) : Prop where
 nod : sn.Nodup
 sub : ∀ x ∈ sn, x ∈ ord
 tn : (T.map (·.1)).Nodup
 ts : ∀ x ∈ T.map (·.1), x ∈ sn
section
variable {pre : List O} {ord : List Nat} {nd sc : Nat → Nat} {np : Nat → Int} {su : Nat → List Nat} {rdy : V} {po fi : Int} {H0 : List O}
theorem uz {H : List O} {L : List (Option V)} {k l : Nat} {sn : List Nat} {i j : Nat} (hi : L[i]? = some (some (.int k))) (hj : L[j]? = some (some (.ref l))) (h : H[l]? = some (.set (zp sn))) : aB (aW CmpOp.In (ai i) (ai j)) ⟨L, H⟩ = .ok (decide (k ∈ sn)) ⟨L, H⟩ := by
 refine bM ?_
 refine (bq (aI hi) (aI hj)).trans ?_
 show cond (eu _ _) (ge _ _ _) _ = _
 rw [uy h, cond_true, yn h, pY]
theorem in_dict {H : List O} {L : List (Option V)} {k l ep : Nat} {T : List (Nat × Nat)} {i j : Nat} (hi : L[i]? = some (some (.int k))) (hj : L[j]? = some (some (.ref l))) (h : H[l]? = some (.dict (zG T) ep)) : aB (aW CmpOp.In (ai i) (ai j)) ⟨L, H⟩ = .ok (decide (k ∈ T.map (·.1))) ⟨L, H⟩ := by
 refine bM ?_
 refine (bq (aI hi) (aI hj)).trans ?_
 show cond (eu _ _) _ (gd _ _ _) = _
 rw [tN h, cond_false, wt h]
 by_cases e : k ∈ T.map (·.1)
 ·obtain ⟨j, q⟩ := jT T k e
  rw [q, decide_eq_true e]; rfl
 ·rw [mS T k e, decide_eq_false e]; rfl
theorem sF {T : List (Nat × Nat)} {I sn : List Nat} {ep k : Nat} {Y : List O} (hk : k ∈ T.map (·.1)) (hl : T.length ≤ 100) :
  ∃ q τ xs, R259 ⟨L7 pre.length H0.length (some (.int k)), HP H0 T I sn ep Y⟩ = .ok (.ret (.ref q)) τ ∧ τ.heap.take H0.length = H0 ∧ τ.heap[q]? = some (.list xs) ∧ xs ≠ [] ∧ xs.length ≤ 500 := by
 obtain ⟨j, hj⟩ := jT T k hk
 have e1 : bp br (ai 5) (ai 6) ⟨L7 pre.length H0.length (some (.int k)), HP H0 T I sn ep Y⟩ = .ok (.int j) ⟨L7 pre.length H0.length (some (.int k)), HP H0 T I sn ep Y⟩ := by
  refine (bq (aI (v := .ref (H0.length + 3)) rfl) (aI (v := .int k) rfl)).trans ?_
  rw [ki (tP ..), hj]; rfl
 have hp : (eA (zo T) (some (j : Int)) none).length ≤ 100 := by
  rw [pick_from, List.length_drop, fw]; lia
 have e2 := kB (mo := ai 2) (mu := aa .none) (v := .ref H0.length) (u := .none) (σ := ⟨L7 pre.length H0.length (some (.int k)), HP H0 T I sn ep Y⟩) (ae := ⟨L7 pre.length H0.length (some (.int k)), HP H0 T I sn ep Y⟩) (aT := ⟨L7 pre.length H0.length (some (.int k)), HP H0 T I sn ep Y⟩) rfl e1 rfl
 rw [nz (lo := .int j) (hi := .none) (a := some (j : Int)) (b := none) (xs := zo T) (lr ..) (by rw [fw]; lia) rfl rfl rfl] at e2
 have e3 := cN (ms := aj (ai 6) (aa [])) (vs := [.int k]) (σ := ⟨L7 pre.length H0.length (some (.int k)), HP H0 T I sn ep Y ++ [.list (eA (zo T) (some (j : Int)) none)]⟩) (ae := ⟨L7 pre.length H0.length (some (.int k)), HP H0 T I sn ep Y ++ [.list (eA (zo T) (some (j : Int)) none)]⟩) rfl (by show 1 ≤ 1000; decide)
 have e4 := rM (a := (HP H0 T I sn ep Y).length) (b := (HP H0 T I sn ep Y ++ [O.list (eA (zo T) (some (j : Int)) none)]).length) (xs := eA (zo T) (some (j : Int)) none) (ys := [.int k]) (σ := ⟨L7 pre.length H0.length (some (.int k)), (HP H0 T I sn ep Y ++ [.list (eA (zo T) (some (j : Int)) none)]) ++ [.list [.int k]]⟩)
  (aE (by rw [List.getElem?_append_right (Nat.le_refl _), Nat.sub_self]; rfl)) (by show (_ ++ _)[List.length _]? = _; rw [List.getElem?_append_right (Nat.le_refl _), Nat.sub_self]; rfl) (by simp only [List.length_cons, List.length_nil]; lia)
 refine ⟨_, _, eA (zo T) (some (j : Int)) none ++ [.int k], eK ((bq (f := zv .Add) e2 e3).trans e4), ?_, ?_, ?_, ?_⟩
 ·exact fH (fH (fH (nW ..)))
 ·show (_ ++ _)[List.length _]? = _
  rw [List.getElem?_append_right (Nat.le_refl _), Nat.sub_self]; rfl
 ·simp
 ·simp only [List.length_append, List.length_cons, List.length_nil]; lia
theorem sI (S : zV pre ord nd sc np su rdy po fi H0) {T : List (Nat × Nat)} {I sn : List Nat} {ep k c : Nat} {Y : List O} (hR : j6 sc H0.length Y T I) (hc : Y.length = 2 * c) (ho : k ∈ ord) (hk : k ∉ sn) (hT : k ∉ T.map (·.1)) (hl : T.length ≤ 100) (hs : sn.length ≤ 100) :
  P259 ⟨L7 pre.length H0.length (some (.int k)), HP H0 T I sn ep Y⟩ = .ok .next ⟨L7 pre.length H0.length (some (.int k)), HP H0 ((k, 0) :: T) (c :: I) (sn ++ [k]) (ep + 1) (Y ++ [.liter (sc k) 0, .mnext (H0.length + 4 + 2 * c)])⟩ := by
 unfold HP
 have a1 : bE (a7 eu yK (ai 4) (aj (ai 6) (aa []))) ⟨L7 pre.length H0.length (some (.int k)), zF H0 (.list (zo T)) (.list (zB H0.length I)) (.set (zp sn)) (.dict (zG T) ep) Y⟩ = .ok .next ⟨L7 pre.length H0.length (some (.int k)), zF H0 (.list (zo T)) (.list (zB H0.length I)) (.set (zp (sn ++ [k]))) (.dict (zG T) ep) Y⟩ := by
  refine cZ (v := .none) ?_
  rw [cM (mo := ai 4) (ma := aj (ai 6) (aa [])) (v := .ref (H0.length + 2)) (vs := [.int k]) (ae := ⟨L7 pre.length H0.length (some (.int k)), zF H0 (.list (zo T)) (.list (zB H0.length I)) (.set (zp sn)) (.dict (zG T) ep) Y⟩) (aq := ⟨L7 pre.length H0.length (some (.int k)), zF H0 (.list (zo T)) (.list (zB H0.length I)) (.set (zp sn)) (.dict (zG T) ep) Y⟩) rfl (tM (tQ ..)) rfl]
  unfold yK
  rw [w8, gI_k, yn (tQ ..), pY, decide_eq_false hk, if_pos (by unfold zp; rw [List.length_map]; show sn.length + 1 < 4096; lia)]
  simp only [yl, Bool.false_eq_true, if_false]
  unfold zp
  rw [List.map_append]; rfl
 refine (aG a1).trans ?_
 have S1 := S.app (.list (zo T) :: .list (zB H0.length I) :: .set (zp (sn ++ [k])) :: .dict (zG T) ep :: Y)
 have b1 : aC (aj (ba (eM 172 2) (bp br (ai 1) (ai 6))) (aa [])) mJ ⟨L7 pre.length H0.length (some (.int k)), zF H0 (.list (zo T)) (.list (zB H0.length I)) (.set (zp (sn ++ [k]))) (.dict (zG T) ep) Y⟩ = .ok (.ref (H0.length + 4 + 2 * c)) ⟨L7 pre.length H0.length (some (.int k)), zF H0 (.list (zo T)) (.list (zB H0.length I)) (.set (zp (sn ++ [k]))) (.dict (zG T) ep) (Y ++ [.liter (sc k) 0])⟩ := by
  have q1 : bp br (ai 1) (ai 6) ⟨L7 pre.length H0.length (some (.int k)), zF H0 (.list (zo T)) (.list (zB H0.length I)) (.set (zp (sn ++ [k]))) (.dict (zG T) ep) Y⟩ = .ok (.ref (nd k)) ⟨L7 pre.length H0.length (some (.int k)), zF H0 (.list (zo T)) (.list (zB H0.length I)) (.set (zp (sn ++ [k]))) (.dict (zG T) ep) Y⟩ := by
   refine (bq (aI (v := .ref (pre.length + 2)) rfl) (aI (v := .int k) rfl)).trans ?_
   exact S1.dsub ho _
  have q2 := (bz (g := eM 172 2) q1).trans (S1.g2 ho _)
  rw [bW (aX q2 (ms := aa []) rfl)]
  have q3 : (zF H0 (.list (zo T)) (.list (zB H0.length I)) (.set (zp (sn ++ [k]))) (.dict (zG T) ep) Y)[sc k]? = some (.list (aP (su k))) := (S1.sx k ho).1
  have q4 : (H0 ++ (.list (zo T) :: .list (zB H0.length I) :: .set (zp (sn ++ [k])) :: .dict (zG T) ep :: Y)) = zF H0 (.list (zo T)) (.list (zB H0.length I)) (.set (zp (sn ++ [k]))) (.dict (zG T) ep) Y := rfl
  rw [q4]
  unfold mJ
  rw [w8, iV q3]
  simp only [rd, re, hc]
 have b2 : ba oZ (aC (aj (ba (eM 172 2) (bp br (ai 1) (ai 6))) (aa [])) mJ) ⟨L7 pre.length H0.length (some (.int k)), zF H0 (.list (zo T)) (.list (zB H0.length I)) (.set (zp (sn ++ [k]))) (.dict (zG T) ep) Y⟩ = .ok (.ref (H0.length + 4 + (2 * c + 1))) ⟨L7 pre.length H0.length (some (.int k)), zF H0 (.list (zo T)) (.list (zB H0.length I)) (.set (zp (sn ++ [k]))) (.dict (zG T) ep) (Y ++ [.liter (sc k) 0, .mnext (H0.length + 4 + 2 * c)])⟩ := by
  rw [bz b1]
  have q5 : (zF H0 (.list (zo T)) (.list (zB H0.length I)) (.set (zp (sn ++ [k]))) (.dict (zG T) ep) (Y ++ [.liter (sc k) 0]))[H0.length + 4 + 2 * c]? = some (.liter (sc k) 0) := by
   rw [wp, ← hc, List.getElem?_append_right (Nat.le_refl _), Nat.sub_self]; rfl
  refine (iF q5).trans ?_
  simp only [asW_k, zb, rd, re, List.length_append, List.length_cons, List.length_nil, hc, List.append_assoc]
  rfl
 have a2 : bE (a7 aO bk (ai 3) (aj (ba oZ (aC (aj (ba (eM 172 2) (bp br (ai 1) (ai 6))) (aa [])) mJ)) (aa []))) ⟨L7 pre.length H0.length (some (.int k)), zF H0 (.list (zo T)) (.list (zB H0.length I)) (.set (zp (sn ++ [k]))) (.dict (zG T) ep) Y⟩ = .ok .next ⟨L7 pre.length H0.length (some (.int k)), zF H0 (.list (zo T)) (.list (zB H0.length (c :: I))) (.set (zp (sn ++ [k]))) (.dict (zG T) ep) (Y ++ [.liter (sc k) 0, .mnext (H0.length + 4 + 2 * c)])⟩ := by
  refine cZ (v := .none) ?_
  rw [cM (mo := ai 3) (v := .ref (H0.length + 1)) (ae := ⟨L7 pre.length H0.length (some (.int k)), zF H0 (.list (zo T)) (.list (zB H0.length I)) (.set (zp (sn ++ [k]))) (.dict (zG T) ep) Y⟩) rfl (cB (rf ..)) (aX b2 (ms := aa []) rfl)]
  rw [dT (rf ..) (by rw [q8, hR.len]; lia)]
  simp only [uB, jN]
 refine (aG a2).trans ?_
 have a3 : an (aC (aj (ai 2) (aa [])) iU) (pR (ai 5) (ai 6)) ⟨L7 pre.length H0.length (some (.int k)), zF H0 (.list (zo T)) (.list (zB H0.length (c :: I))) (.set (zp (sn ++ [k]))) (.dict (zG T) ep) (Y ++ [.liter (sc k) 0, .mnext (H0.length + 4 + 2 * c)])⟩ = .ok .next ⟨L7 pre.length H0.length (some (.int k)), zF H0 (.list (zo T)) (.list (zB H0.length (c :: I))) (.set (zp (sn ++ [k]))) (.dict (zG ((k, 0) :: T)) (ep + 1)) (Y ++ [.liter (sc k) 0, .mnext (H0.length + 4 + 2 * c)])⟩ := by
  refine bX (v := .int ((T.length : Nat) : Int)) (ae := ⟨L7 pre.length H0.length (some (.int k)), zF H0 (.list (zo T)) (.list (zB H0.length (c :: I))) (.set (zp (sn ++ [k]))) (.dict (zG T) ep) (Y ++ [.liter (sc k) 0, .mnext (H0.length + 4 + 2 * c)])⟩) ?_ ?_
  ·rw [bW (ms := aj (ai 2) (aa [])) (vs := [.ref H0.length]) (ae := ⟨L7 pre.length H0.length (some (.int k)), zF H0 (.list (zo T)) (.list (zB H0.length (c :: I))) (.set (zp (sn ++ [k]))) (.dict (zG T) ep) (Y ++ [.liter (sc k) 0, .mnext (H0.length + 4 + 2 * c)])⟩) rfl]
   exact nT (xs := zo T) (lr ..) (by rw [fw]; lia) (by rw [fw])
  ·unfold pR
   rw [show ∀ H, ai 5 ⟨L7 pre.length H0.length (some (.int k)), H⟩ = .ok (.ref (H0.length + 3)) ⟨L7 pre.length H0.length (some (.int k)), H⟩ from fun _ => rfl, zZ.bind_ok, show ∀ H, ai 6 ⟨L7 pre.length H0.length (some (.int k)), H⟩ = .ok (.int k) ⟨L7 pre.length H0.length (some (.int k)), H⟩ from fun _ => rfl, zZ.bind_ok]
   obtain ⟨g1, g2⟩ := yo T k 0 hT ep
   rw [kL (tP ..), if_pos (by rw [mU]; show T.length ≤ 16777216; lia), g1, g2]
   simp only [uA]
 refine (aG a3).trans ?_
 refine cZ (v := .none) ?_
 rw [cM (mo := ai 2) (ma := aj (ai 6) (aa [])) (v := .ref H0.length) (vs := [.int k]) (ae := ⟨L7 pre.length H0.length (some (.int k)), zF H0 (.list (zo T)) (.list (zB H0.length (c :: I))) (.set (zp (sn ++ [k]))) (.dict (zG ((k, 0) :: T)) (ep + 1)) (Y ++ [.liter (sc k) 0, .mnext (H0.length + 4 + 2 * c)])⟩) (aq := ⟨L7 pre.length H0.length (some (.int k)), zF H0 (.list (zo T)) (.list (zB H0.length (c :: I))) (.set (zp (sn ++ [k]))) (.dict (zG ((k, 0) :: T)) (ep + 1)) (Y ++ [.liter (sc k) 0, .mnext (H0.length + 4 + 2 * c)])⟩) rfl (cB (lr ..)) rfl]
 rw [dT (lr ..) (by rw [fw]; lia)]
 simp only [uC, jw]
end
section
variable {pre : List O} {ord : List Nat} {nd sc : Nat → Nat} {np : Nat → Int} {su : Nat → List Nat} {rdy : V} {po fi : Int} {H0 : List O}
theorem vH {a b : St → zZ F} {v : V} {σ ae : St} (h : a σ = .ok (.ret v) ae) : aM a b σ = .ok (.ret v) ae := by
 unfold aM; rw [h]; rfl
theorem lU (σ : St) : aB (aa (V.bool true)) σ = .ok true σ := rfl
theorem qw (S : zV pre ord nd sc np su rdy po fi H0) (hsu : ∀ x y, y ∈ su x → y ∈ ord) (h6 : ord.length ≤ 6) : ∀ (f node : Nat) (T : List (Nat × Nat)) (I sn : List Nat) (ep c : Nat) (Y : List O), j6 sc H0.length Y T I → Y.length = 2 * c → Sm ord T sn → node ∈ ord →
  (fX su f node T sn = some none → ∃ q τ xs, pE f ⟨L7 pre.length H0.length (some (.int node)), HP H0 T I sn ep Y⟩ = .ok (.ret (.ref q)) τ ∧ τ.heap.take H0.length = H0 ∧ τ.heap[q]? = some (.list xs) ∧ xs ≠ [] ∧ xs.length ≤ 500) ∧
  (∀ sn', fX su f node T sn = some (some sn') → ∃ v ep' c' Y', pE f ⟨L7 pre.length H0.length (some (.int node)), HP H0 T I sn ep Y⟩ = .ok .next ⟨L7 pre.length H0.length v, HP H0 [] [] sn' ep' Y'⟩ ∧ Y'.length = 2 * c' ∧ sn'.Nodup ∧ ∀ x ∈ sn', x ∈ ord) := by
 intro f
 induction f with
 | zero => exact fun node T I sn ep c Y _ _ _ _ => ⟨fun h => (by cases h), fun sn' h => (by cases h)⟩
 | succ f ih =>
  intro node T I sn ep c Y hR hc hS ho
  have hTo : ∀ x ∈ T.map (·.1), x ∈ ord := fun x hx => hS.sub x (hS.ts x hx)
  have hTl : T.length ≤ 6 := by
   have := b9 hS.tn hTo
   rw [List.length_map] at this; lia
  have hsl : sn.length ≤ 6 := by have := b9 hS.nod hS.sub; lia
  have t1 := uz (L := L7 pre.length H0.length (some (.int node))) (H := HP H0 T I sn ep Y) (i := 6) (j := 4) (k := node) (l := H0.length + 2) (sn := sn) rfl rfl (tQ ..)
  have t2 := in_dict (L := L7 pre.length H0.length (some (.int node))) (H := HP H0 T I sn ep Y) (i := 6) (j := 5) (k := node) (l := H0.length + 3) (T := T) (ep := ep) rfl rfl (tP ..)
  have next : ∀ (T2 : List (Nat × Nat)) (I2 sn2 : List Nat) (ep2 c2 : Nat) (Y2 : List O), j6 sc H0.length Y2 T2 I2 → Y2.length = 2 * c2 → Sm ord T2 sn2 →
    yR ⟨L7 pre.length H0.length (some (.int node)), HP H0 T I sn ep Y⟩ = .ok .next ⟨L7 pre.length H0.length (some (.int node)), HP H0 T2 I2 sn2 ep2 Y2⟩ →
    (zR su T2 = none → ∃ v ep' c' Y', pE (f + 1) ⟨L7 pre.length H0.length (some (.int node)), HP H0 T I sn ep Y⟩ = .ok .next ⟨L7 pre.length H0.length v, HP H0 [] [] sn2 ep' Y'⟩ ∧ Y'.length = 2 * c') ∧
    (∀ y T', zR su T2 = some (y, T') → ∃ I' ep' Y', pE (f + 1) ⟨L7 pre.length H0.length (some (.int node)), HP H0 T I sn ep Y⟩ = pE f ⟨L7 pre.length H0.length (some (.int y)), HP H0 T' I' sn2 ep' Y'⟩ ∧ j6 sc H0.length Y' T' I' ∧ Y'.length = 2 * c2 ∧ Sm ord T' sn2 ∧ y ∈ ord) := by
   intro T2 I2 sn2 ep2 c2 Y2 hR2 hc2 hS2 hA
   have hTo2 : ∀ x ∈ T2.map (·.1), x ∈ ord := fun x hx => hS2.sub x (hS2.ts x hx)
   have hTl2 : T2.length ≤ 6 := by
    have := b9 hS2.tn hTo2
    rw [List.length_map] at this; lia
   obtain ⟨w1, w2⟩ := sD S (sn := sn2) (v := some (.int node)) T2 I2 Y2 ep2 20 hR2 hS2.tn hTo2 (by lia) (by lia)
   refine ⟨fun e => ?_, fun y T' e => ?_⟩
   ·obtain ⟨ep', Y', a, b⟩ := w1 e
    exact ⟨_, ep', c2, Y', j8 (lU _) ((aG hA).trans a), by lia⟩
   ·obtain ⟨I', ep', Y', a, b, d⟩ := w2 y T' e
    obtain ⟨⟨Q, q1⟩, x, q2⟩ := rL su T2 y T' e
    refine ⟨I', ep', Y', gP (lU _) ((aG hA).trans a), b, by lia, ⟨hS2.nod, hS2.sub, ?_, fun z hz => hS2.ts z (by rw [q1]; exact List.mem_append_right _ hz)⟩, hsu x y q2⟩
    have := hS2.tn
    rw [q1, List.nodup_append] at this
    exact this.2.1
  by_cases h1 : node ∈ sn
  ·by_cases h2 : node ∈ T.map (·.1)
   ·refine ⟨fun _ => ?_, fun sn' e => ?_⟩
    ·obtain ⟨q, τ, xs, r1, r2, r3, r4, r5⟩ := sF (pre := pre) (H0 := H0) (I := I) (sn := sn) (ep := ep) (Y := Y) h2 (by lia)
     refine ⟨q, τ, xs, pL (lU _) ?_, r2, r3, r4, r5⟩
     have hA : yR ⟨L7 pre.length H0.length (some (.int node)), HP H0 T I sn ep Y⟩ = .ok (.ret (.ref q)) τ := by
      refine (d9 t1).trans ?_
      rw [decide_eq_true h1, if_pos rfl]
      refine (d9 t2).trans ?_
      rw [decide_eq_true h2, if_pos rfl]
      exact r1
     unfold aM
     rw [hA]; rfl
    ·simp only [fX, h1, h2, if_true, Option.some.injEq, reduceCtorEq] at e
   ·have hA : yR ⟨L7 pre.length H0.length (some (.int node)), HP H0 T I sn ep Y⟩ = .ok .next ⟨L7 pre.length H0.length (some (.int node)), HP H0 T I sn ep Y⟩ := by
     refine (d9 t1).trans ?_
     rw [decide_eq_true h1, if_pos rfl]
     refine (d9 t2).trans ?_
     rw [decide_eq_false h2, if_neg (by decide)]
     rfl
    obtain ⟨n1, n2⟩ := next T I sn ep c Y hR hc hS hA
    cases ha : zR su T with
    | none =>
     have hw : fX su (f + 1) node T sn = some (some sn) := by simp only [fX, h1, h2, if_true, if_false, ha]
     rw [hw]
     refine ⟨fun e => (by cases e), fun sn' e => ?_⟩
     cases e
     obtain ⟨v, ep', c', Y', a, b⟩ := n1 ha
     exact ⟨v, ep', c', Y', a, b, hS.nod, hS.sub⟩
    | some yT =>
     obtain ⟨y, T'⟩ := yT
     have hw : fX su (f + 1) node T sn = fX su f y T' sn := by simp only [fX, h1, h2, if_true, if_false, ha]
     rw [hw]
     obtain ⟨I', ep', Y', a, b, d, e, g⟩ := n2 y T' ha
     rw [a]
     exact ih y T' I' sn ep' c Y' b d e g
  ·have hT : node ∉ T.map (·.1) := fun q => h1 (hS.ts _ q)
   have hp := sI S (ep := ep) hR hc ho h1 hT (by lia) (by lia)
   have hA : yR ⟨L7 pre.length H0.length (some (.int node)), HP H0 T I sn ep Y⟩ = .ok .next ⟨L7 pre.length H0.length (some (.int node)), HP H0 ((node, 0) :: T) (c :: I) (sn ++ [node]) (ep + 1) (Y ++ [.liter (sc node) 0, .mnext (H0.length + 4 + 2 * c)])⟩ := by
    refine (d9 t1).trans ?_
    rw [decide_eq_false h1, if_neg (by decide)]
    exact hp
   have hS2 : Sm ord ((node, 0) :: T) (sn ++ [node]) := ⟨by
    rw [List.nodup_append]; exact ⟨hS.nod, by simp, fun a ha b hb => by simp at hb; subst hb; exact fun e => h1 (e ▸ ha)⟩, fun x hx => by
    rcases List.mem_append.mp hx with hx | hx
    ·exact hS.sub x hx
    ·simp at hx; subst hx; exact ho, List.nodup_cons.mpr ⟨hT, hS.tn⟩, fun x hx => by
    rcases List.mem_cons.mp hx with rfl | hx
    ·simp
    ·exact List.mem_append_left _ (hS.ts x hx)⟩
   have hR2 : j6 sc H0.length (Y ++ [.liter (sc node) 0, .mnext (H0.length + 4 + 2 * c)]) ((node, 0) :: T) (c :: I) := by
    refine ⟨?_, ?_, fun q => ?_, hR.app⟩
    ·rw [List.getElem?_append_right (by lia), hc, Nat.sub_self]; rfl
    ·rw [List.getElem?_append_right (by lia), hc, Nat.add_sub_cancel_left]; rfl
    ·have := hR.lt c q; lia
   obtain ⟨n1, n2⟩ := next ((node, 0) :: T) (c :: I) (sn ++ [node]) (ep + 1) (c + 1) (Y ++ [.liter (sc node) 0, .mnext (H0.length + 4 + 2 * c)]) hR2 (by simp [hc]; lia) hS2 hA
   cases ha : zR su ((node, 0) :: T) with
   | none =>
    have hw : fX su (f + 1) node T sn = some (some (sn ++ [node])) := by simp only [fX, h1, if_false, ha]
    rw [hw]
    refine ⟨fun e => (by cases e), fun sn' e => ?_⟩
    cases e
    obtain ⟨v, ep', c', Y', a, b⟩ := n1 ha
    exact ⟨v, ep', c', Y', a, b, hS2.nod, hS2.sub⟩
   | some yT =>
    obtain ⟨y, T'⟩ := yT
    have hw : fX su (f + 1) node T sn = fX su f y T' (sn ++ [node]) := by simp only [fX, h1, if_false, ha]
    rw [hw]
    obtain ⟨I', ep', Y', a, b, d, e, g⟩ := n2 y T' ha
    rw [a]
    exact ih y T' I' (sn ++ [node]) ep' (c + 1) Y' b d e g
theorem ee {tgt : V → St → zZ Unit} {body els : St → zZ F} {src : Option (Nat × O)} {x : V} {xs : List V} {σ ae aq : St} (hs : dM src σ.heap = true) (h1 : tgt x σ = .ok () ae) (h2 : body ae = .ok .next aq ∨ body ae = .ok .cont aq) : gu tgt body els src (x :: xs) σ = gu tgt body els src xs aq := by
 rw [gu, if_pos hs, h1]
 simp only [zZ.calm, zZ.bind_ok]
 rcases h2 with h2 | h2 <;> rw [h2] <;> simp only [zZ.calm, zZ.bind_ok]
theorem wu {tgt : V → St → zZ Unit} {body els : St → zZ F} {src : Option (Nat × O)} {x v : V} {xs : List V} {σ ae aq : St} (hs : dM src σ.heap = true) (h1 : tgt x σ = .ok () ae) (h2 : body ae = .ok (.ret v) aq) : gu tgt body els src (x :: xs) σ = .ok (.ret v) aq := by
 rw [gu, if_pos hs, h1]
 simp only [zZ.calm, zZ.bind_ok]
 rw [h2]
 simp only [zZ.calm, zZ.bind_ok]
theorem fB {tgt : V → St → zZ Unit} {body : St → zZ F} {src : Option (Nat × O)} {σ : St} (hs : dM src σ.heap = true) : gu tgt body (aa F.next) src [] σ = .ok .next σ := by
 rw [gu, if_pos hs]; rfl
noncomputable abbrev wX : St → zZ F := (aM (zE (aB (aW CmpOp.In (ai 6) (ai 4))) (aa F.cont) (aa F.next)) (pE 20))
theorem sL (S : zV pre ord nd sc np su rdy po fi H0) (hsu : ∀ x y, y ∈ su x → y ∈ ord) (h6 : ord.length ≤ 6) {e0 : Nat} (hd : H0[pre.length + 2]? = some (.dict (gH ord nd) e0)) : ∀ (ks : List Nat) (sn : List Nat) (ep c : Nat) (Y : List O) (v : Option V), (∀ k ∈ ks, k ∈ ord) → Y.length = 2 * c → sn.Nodup → (∀ x ∈ sn, x ∈ ord) →
  (bf su ks sn = some none → ∃ q τ xs, gu (ao 6) wX (aa F.next) (some (pre.length + 2, .dict (gH ord nd) e0)) (aP ks) ⟨L7 pre.length H0.length v, HP H0 [] [] sn ep Y⟩ = .ok (.ret (.ref q)) τ ∧ τ.heap.take H0.length = H0 ∧ τ.heap[q]? = some (.list xs) ∧ xs ≠ [] ∧ xs.length ≤ 500) ∧
  (∀ sn', bf su ks sn = some (some sn') → ∃ τ, gu (ao 6) wX (aa F.next) (some (pre.length + 2, .dict (gH ord nd) e0)) (aP ks) ⟨L7 pre.length H0.length v, HP H0 [] [] sn ep Y⟩ = .ok .next τ ∧ τ.heap.take H0.length = H0) := by
 intro ks
 induction ks with
 | nil =>
  intro sn ep c Y v _ hc _ _
  exact ⟨fun h => (by cases h), fun sn' _ => ⟨_, fB (bC (aE hd)), nW ..⟩⟩
 | cons k ks ih =>
  intro sn ep c Y v hk hc hn hs
  have hst : dM (some (pre.length + 2, O.dict (gH ord nd) e0)) (⟨L7 pre.length H0.length v, HP H0 [] [] sn ep Y⟩ : St).heap = true := bC (aE hd)
  have h1 : ao 6 (.int k) ⟨L7 pre.length H0.length v, HP H0 [] [] sn ep Y⟩ = .ok () ⟨L7 pre.length H0.length (some (.int k)), HP H0 [] [] sn ep Y⟩ := rfl
  have t1 := uz (L := L7 pre.length H0.length (some (.int k))) (H := HP H0 [] [] sn ep Y) (i := 6) (j := 4) (k := k) (l := H0.length + 2) (sn := sn) rfl rfl (tQ ..)
  by_cases hks : k ∈ sn
  ·have hw : bf su (k :: ks) sn = bf su ks sn := by simp only [bf, hks, if_true]
   have hb : wX ⟨L7 pre.length H0.length (some (.int k)), HP H0 [] [] sn ep Y⟩ = .ok .cont ⟨L7 pre.length H0.length (some (.int k)), HP H0 [] [] sn ep Y⟩ := by
    have : zE (aB (aW CmpOp.In (ai 6) (ai 4))) (aa F.cont) (aa F.next) ⟨L7 pre.length H0.length (some (.int k)), HP H0 [] [] sn ep Y⟩ = .ok .cont ⟨L7 pre.length H0.length (some (.int k)), HP H0 [] [] sn ep Y⟩ := by
     refine (d9 t1).trans ?_
     rw [decide_eq_true hks, if_pos rfl]; rfl
    show aM _ _ _ = _
    unfold aM
    rw [this]; rfl
   have hf : gu (ao 6) wX (aa F.next) (some (pre.length + 2, .dict (gH ord nd) e0)) (aP (k :: ks)) ⟨L7 pre.length H0.length v, HP H0 [] [] sn ep Y⟩ = _ := ee hst h1 (.inr hb)
   rw [hw, hf]
   exact ih sn ep c Y _ (fun z hz => hk z (List.mem_cons_of_mem _ hz)) hc hn hs
  ·have hA : zE (aB (aW CmpOp.In (ai 6) (ai 4))) (aa F.cont) (aa F.next) ⟨L7 pre.length H0.length (some (.int k)), HP H0 [] [] sn ep Y⟩ = .ok .next ⟨L7 pre.length H0.length (some (.int k)), HP H0 [] [] sn ep Y⟩ := by
    refine (d9 t1).trans ?_
    rw [decide_eq_false hks, if_neg (by decide)]; rfl
   obtain ⟨w1, w2⟩ := qw S hsu h6 20 k [] [] sn ep c Y trivial hc ⟨hn, hs, List.nodup_nil, fun x h => by cases h⟩ (hk k (List.mem_cons_self ..))
   cases hq : fX su 20 k [] sn with
   | none =>
    have hw : bf su (k :: ks) sn = none := by simp only [bf, hks, if_false, hq]
    rw [hw]
    exact ⟨fun h => (by cases h), fun sn' h => (by cases h)⟩
   | some r =>
    cases r with
    | none =>
     have hw : bf su (k :: ks) sn = some none := by simp only [bf, hks, if_false, hq]
     rw [hw]
     refine ⟨fun _ => ?_, fun sn' h => (by cases h)⟩
     obtain ⟨q, τ, xs, r1, r2⟩ := w1 hq
     exact ⟨q, τ, xs, wu hst h1 ((aG hA).trans r1), r2⟩
    | some sn2 =>
     have hw : bf su (k :: ks) sn = bf su ks sn2 := by simp only [bf, hks, if_false, hq]
     obtain ⟨v2, ep', c', Y', r1, r2, r3, r4⟩ := w2 sn2 hq
     have hf : gu (ao 6) wX (aa F.next) (some (pre.length + 2, .dict (gH ord nd) e0)) (aP (k :: ks)) ⟨L7 pre.length H0.length v, HP H0 [] [] sn ep Y⟩ = _ := ee hst h1 (.inl ((aG hA).trans r1))
     rw [hw, hf]
     exact ih sn2 ep' c' Y' v2 (fun z hz => hk z (List.mem_cons_of_mem _ hz)) r2 r3 r4
theorem xI (S : zV pre ord nd sc np su rdy po fi H0) (hsu : ∀ x y, y ∈ su x → y ∈ ord) (h6 : ord.length ≤ 6) :
  (bf su ord [] = some none → ∃ q τ xs, iT [.ref (pre.length + 1)] H0 = .ok (.ref q) τ ∧ τ.heap.take H0.length = H0 ∧ τ.heap[q]? = some (.list xs) ∧ xs ≠ [] ∧ xs.length ≤ 500) ∧
  (∀ sn', bf su ord [] = some (some sn') → ∃ τ, iT [.ref (pre.length + 1)] H0 = .ok .none τ ∧ τ.heap.take H0.length = H0) := by
 obtain ⟨e0, hd⟩ := S.di
 obtain ⟨f1, f2⟩ := sL S hsu h6 hd ord [] 0 0 [] none (fun _ h => h) rfl List.nodup_nil (fun x h => by cases h)
 have go : ∀ (v : V) (f : F) (τ : St), gu (ao 6) wX (aa F.next) (some (pre.length + 2, .dict (gH ord nd) e0)) (aP ord) ⟨L7 pre.length H0.length none, HP H0 [] [] [] 0 []⟩ = .ok f τ → (f = .ret v ∨ (f = .next ∧ v = .none)) → iT [.ref (pre.length + 1)] H0 = .ok v τ := by
  intro v f τ hf hv
  have a1 : an (ba (getD 269 "_node2info") (ai 0)) (ao 1) ⟨[some (.ref (pre.length + 1)), none, none, none, none, none, none], H0⟩ = .ok .next ⟨[some (.ref (pre.length + 1)), some (.ref (pre.length + 2)), none, none, none, none, none], H0⟩ :=
   bx ((bz (aI rfl)).trans (S.n2i _))
  have a2 : an (bu (aa [])) (ao 2) ⟨[some (.ref (pre.length + 1)), some (.ref (pre.length + 2)), none, none, none, none, none], H0⟩ = .ok .next ⟨[some (.ref (pre.length + 1)), some (.ref (pre.length + 2)), some (.ref H0.length), none, none, none, none], H0 ++ [.list []]⟩ :=
   bx (cN (ms := aa []) rfl (by show 0 ≤ 1000; decide))
  have l1 : (H0 ++ [O.list []]).length = H0.length + 1 := by rw [List.length_append]; rfl
  have a3 : an (bu (aa [])) (ao 3) ⟨[some (.ref (pre.length + 1)), some (.ref (pre.length + 2)), some (.ref H0.length), none, none, none, none], H0 ++ [.list []]⟩ = .ok .next ⟨[some (.ref (pre.length + 1)), some (.ref (pre.length + 2)), some (.ref H0.length), some (.ref (H0.length + 1)), none, none, none], (H0 ++ [.list []]) ++ [.list []]⟩ := by
   rw [bx (i := 3) (cN (ms := aa []) (vs := []) (σ := ⟨[some (.ref (pre.length + 1)), some (.ref (pre.length + 2)), some (.ref H0.length), none, none, none, none], H0 ++ [O.list []]⟩) (ae := ⟨[some (.ref (pre.length + 1)), some (.ref (pre.length + 2)), some (.ref H0.length), none, none, none, none], H0 ++ [O.list []]⟩) rfl (by show 0 ≤ 1000; decide)), l1]; rfl
  have l2 : ((H0 ++ [O.list []]) ++ [O.list []]).length = H0.length + 2 := by rw [List.length_append, l1]; rfl
  have a4 : an (aC (aa []) yU) (ao 4) ⟨[some (.ref (pre.length + 1)), some (.ref (pre.length + 2)), some (.ref H0.length), some (.ref (H0.length + 1)), none, none, none], (H0 ++ [.list []]) ++ [.list []]⟩ = .ok .next ⟨[some (.ref (pre.length + 1)), some (.ref (pre.length + 2)), some (.ref H0.length), some (.ref (H0.length + 1)), some (.ref (H0.length + 2)), none, none], ((H0 ++ [.list []]) ++ [.list []]) ++ [.set []]⟩ := by
   have : aC (aa []) yU ⟨[some (.ref (pre.length + 1)), some (.ref (pre.length + 2)), some (.ref H0.length), some (.ref (H0.length + 1)), none, none, none], (H0 ++ [.list []]) ++ [.list []]⟩ = .ok (.ref ((H0 ++ [O.list []]) ++ [O.list []]).length) ⟨[some (.ref (pre.length + 1)), some (.ref (pre.length + 2)), some (.ref H0.length), some (.ref (H0.length + 1)), none, none, none], ((H0 ++ [.list []]) ++ [.list []]) ++ [.set []]⟩ := rfl
   rw [bx this, l2]; rfl
  have l3 : (((H0 ++ [O.list []]) ++ [O.list []]) ++ [O.set []]).length = H0.length + 3 := by rw [List.length_append, l2]; rfl
  have a5 : an mW (ao 5) ⟨[some (.ref (pre.length + 1)), some (.ref (pre.length + 2)), some (.ref H0.length), some (.ref (H0.length + 1)), some (.ref (H0.length + 2)), none, none], ((H0 ++ [.list []]) ++ [.list []]) ++ [.set []]⟩ = .ok .next ⟨L7 pre.length H0.length none, HP H0 [] [] [] 0 []⟩ := by
   have : mW ⟨[some (.ref (pre.length + 1)), some (.ref (pre.length + 2)), some (.ref H0.length), some (.ref (H0.length + 1)), some (.ref (H0.length + 2)), none, none], ((H0 ++ [.list []]) ++ [.list []]) ++ [.set []]⟩ = .ok (.ref (((H0 ++ [O.list []]) ++ [O.list []]) ++ [O.set []]).length) ⟨[some (.ref (pre.length + 1)), some (.ref (pre.length + 2)), some (.ref H0.length), some (.ref (H0.length + 1)), some (.ref (H0.length + 2)), none, none], (((H0 ++ [.list []]) ++ [.list []]) ++ [.set []]) ++ [.dict [] 0]⟩ := rfl
   rw [bx this, l3]
   simp only [List.append_assoc, List.cons_append, List.nil_append]
   rfl
  have a6 : hO (ai 1) (ao 6) wX (aa F.next) ⟨L7 pre.length H0.length none, HP H0 [] [] [] 0 []⟩ = .ok f τ := by
   unfold hO
   rw [show ai 1 ⟨L7 pre.length H0.length none, HP H0 [] [] [] 0 []⟩ = .ok (.ref (pre.length + 2)) ⟨L7 pre.length H0.length none, HP H0 [] [] [] 0 []⟩ from rfl, zZ.bind_ok]
   have hi : bY (.ref (pre.length + 2)) (HP H0 [] [] [] 0 []) = some (aP ord, some (pre.length + 2, .dict (gH ord nd) e0)) := by
    have := aE (X := [.list (zo []), .list (zB H0.length []), .set (zp []), .dict (zG []) 0]) hd
    have q : (HP H0 [] [] [] 0 [])[pre.length + 2]? = some (.dict (gH ord nd) e0) := this
    rw [ck q]
    unfold jj gH aP
    dsimp only
    rw [List.map_map]
    rfl
   simp only [hi]
   exact hf
  refine du (b7 := H0) (L := [some (.ref (pre.length + 1)), none, none, none, none, none, none]) rfl rfl ?_
  refine (aG a1).trans ((aG a2).trans ((aG a3).trans ((aG a4).trans ((aG a5).trans ?_))))
  rcases hv with rfl | ⟨rfl, rfl⟩
  ·exact vH a6
  ·exact (aG a6).trans rfl
 refine ⟨fun h => ?_, fun sn' h => ?_⟩
 ·obtain ⟨q, τ, xs, r1, r2⟩ := f1 h
  exact ⟨q, τ, xs, go _ _ _ r1 (.inl rfl), r2⟩
 ·obtain ⟨τ, r1, r2⟩ := f2 sn' h
  exact ⟨τ, go _ _ _ r1 (.inr ⟨rfl, rfl⟩), r2⟩
end
theorem iW (H Z : List O) (a : O) : (H ++ a :: Z)[H.length]? = some a := by rw [List.getElem?_append_right (Nat.le_refl _), Nat.sub_self]; rfl
theorem rT (H Z : List O) (a b : O) : (H ++ a :: b :: Z)[H.length + 1]? = some b := by rw [List.getElem?_append_right (Nat.le_add_right _ _), Nat.add_sub_cancel_left]; rfl
theorem at_2 (H Z : List O) (a b c : O) : (H ++ a :: b :: c :: Z)[H.length + 2]? = some c := by rw [List.getElem?_append_right (Nat.le_add_right _ _), Nat.add_sub_cancel_left]; rfl
theorem sZ (H Z : List O) (a o : O) : (H ++ a :: Z).set H.length o = H ++ o :: Z := by rw [List.set_append_right _ _ (Nat.le_refl _), Nat.sub_self]; rfl
theorem vR (H Z : List O) (a b o : O) : (H ++ a :: b :: Z).set (H.length + 1) o = H ++ a :: o :: Z := by rw [List.set_append_right _ _ (Nat.le_add_right _ _), Nat.add_sub_cancel_left]; rfl
theorem jF (H Z : List O) (fs : List (Str × V)) (sl : List (Option V)) (i : Nat) (u : V) (L : List (Option V)) : fE 172 i (.ref (H.length + 1)) u ⟨L, H ++ (.idict fs :: .inst 172 H.length sl :: Z)⟩ = .ok () ⟨L, H ++ (.idict fs :: .inst 172 H.length (oH sl i u) :: Z)⟩ := by
 exact (jE (rT ..) (iW ..)).trans (by rw [vR])
theorem gW (H Z : List O) (fs : List (Str × V)) (sl : List (Option V)) (x : Str) (u : V) (L : List (Option V)) (hl : fs.length ≤ 900) : iR 269 x (.ref (H.length + 1)) u ⟨L, H ++ (.idict fs :: .inst 269 H.length sl :: Z)⟩ = .ok () ⟨L, H ++ (.idict (lN fs x u) :: .inst 269 H.length sl :: Z)⟩ := by
 exact (jG (rT ..) (iW ..) hl).trans (by rw [sZ])
theorem xP (H : List O) (k : Nat) : ∃ L, lf [.ref (H.length + 1), .int k] (H ++ [.idict [], .inst 172 H.length []]) = .ok .none ⟨L, H ++ mn H.length k⟩ := by
 refine ⟨[some (.ref (H.length + 1)), some (.int k)], ?_⟩
 have a1 : an (ai 1) (cD (fE 172 0) (ai 0)) ⟨[some (.ref (H.length + 1)), some (.int k)], H ++ (.idict [] :: .inst 172 H.length [] :: [])⟩ = .ok .next ⟨[some (.ref (H.length + 1)), some (.int k)], H ++ (.idict [] :: .inst 172 H.length [some (.int k)] :: [])⟩ :=
  bX (v := .int k) (ae := ⟨[some (.ref (H.length + 1)), some (.int k)], H ++ (O.idict [] :: O.inst 172 H.length [] :: [])⟩) rfl (jF H [] [] [] 0 (.int k) _)
 have a2 : an (aa (V.int 0)) (cD (fE 172 1) (ai 0)) ⟨[some (.ref (H.length + 1)), some (.int k)], H ++ (.idict [] :: .inst 172 H.length [some (.int k)] :: [])⟩ = .ok .next ⟨[some (.ref (H.length + 1)), some (.int k)], H ++ (.idict [] :: .inst 172 H.length [some (.int k), some (.int 0)] :: [])⟩ :=
  bX (v := .int 0) (ae := ⟨[some (.ref (H.length + 1)), some (.int k)], H ++ (O.idict [] :: O.inst 172 H.length [some (.int k)] :: [])⟩) rfl (jF H [] [] [some (.int k)] 1 (.int 0) _)
 have a3 : an (bu (aa [])) (cD (fE 172 2) (ai 0)) ⟨[some (.ref (H.length + 1)), some (.int k)], H ++ (.idict [] :: .inst 172 H.length [some (.int k), some (.int 0)] :: [])⟩ = .ok .next ⟨[some (.ref (H.length + 1)), some (.int k)], H ++ mn H.length k⟩ := by
  have e := cN (ms := aa []) (vs := []) (σ := ⟨[some (.ref (H.length + 1)), some (.int k)], H ++ (O.idict [] :: O.inst 172 H.length [some (.int k), some (.int 0)] :: [])⟩) (ae := ⟨[some (.ref (H.length + 1)), some (.int k)], H ++ (O.idict [] :: O.inst 172 H.length [some (.int k), some (.int 0)] :: [])⟩) rfl (by show 0 ≤ 1000; decide)
  have hl : (H ++ (O.idict [] :: .inst 172 H.length [some (.int k), some (.int 0)] :: [])).length = H.length + 2 := by rw [List.length_append]; rfl
  simp only [hl, List.append_assoc, List.cons_append, List.nil_append] at e
  exact bX e (jF H [.list []] [] [some (.int k), some (.int 0)] 2 (.ref (H.length + 2)) _)
 have b : (aM (an (ai 1) (cD (fE 172 0) (ai 0))) (aM (an (aa (V.int 0)) (cD (fE 172 1) (ai 0))) (an (bu (aa [])) (cD (fE 172 2) (ai 0))))) ⟨[some (.ref (H.length + 1)), some (.int k)], H ++ (.idict [] :: .inst 172 H.length [] :: [])⟩ = .ok .next ⟨[some (.ref (H.length + 1)), some (.int k)], H ++ mn H.length k⟩ :=
  (aG a1).trans ((aG a2).trans a3)
 unfold lf dh
 show (match (aM (an (ai 1) (cD (fE 172 0) (ai 0))) (aM (an (aa (V.int 0)) (cD (fE 172 1) (ai 0))) (an (bu (aa [])) (cD (fE 172 2) (ai 0))))) ⟨[some (.ref (H.length + 1)), some (.int k)], H ++ (.idict [] :: .inst 172 H.length [] :: [])⟩ with
   | .ok (.ret v) τ => zZ.ok v τ
   | .ok .next τ => .ok .none τ
   | .ok _ _ => .bad
   | .exc c as τ => .exc c as τ
   | .bad => .bad) = _
 rw [b]
theorem fS {n : Nat} {bnd : List V → List O → Option (List V × List O)} {body : St → zZ F} {vs ps : List V} {H b7 : List O} {L : List (Option V)} {τ : St} (hb : bnd vs H = some (ps, b7)) (hL : dI n ps = L) (h : body ⟨L, b7⟩ = .ok .next τ) : dh n bnd body vs H = .ok .none τ := by
 unfold dh; rw [hb]; subst hL; simp only [h]
theorem cm {m : cX} {vs : List V} {v : V} {σ τ : St} (h : m vs σ.heap = .ok v τ) : bJ m vs σ = .ok v ⟨σ.loc, τ.heap⟩ := by
 unfold bJ; rw [h]
section
variable {pre : List O} {ord : List Nat} {nd sc : Nat → Nat} {np : Nat → Int} {su : Nat → List Nat} {rdy : V} {po fi : Int} {H : List O}
theorem xO (S : zV pre ord nd sc np su rdy po fi H) (k : Nat) (h100 : ord.length ≤ 100) : ∃ ord' nd' sc' τ, lc [.ref (pre.length + 1), .int k] H = .ok (.ref (nd' k)) τ ∧ zV pre ord' nd' sc' np su rdy po fi τ.heap ∧ k ∈ ord' ∧ (∀ x ∈ ord, x ∈ ord') ∧ (∀ x ∈ ord', x ∈ ord ∨ x = k) ∧ ∀ (l : Nat) (xs : List V), H[l]? = some (O.tup xs) → τ.heap[l]? = some (O.tup xs) := by
 obtain ⟨ep, hd⟩ := S.di
 have g0 : ba (getD 269 "_node2info") (ai 0) ⟨[some (.ref (pre.length + 1)), some (.int k), none], H⟩ = .ok (.ref (pre.length + 2)) ⟨[some (.ref (pre.length + 1)), some (.int k), none], H⟩ := (bz (aI rfl)).trans (S.n2i _)
 have g1 : a7 bP gy (ba (getD 269 "_node2info") (ai 0)) (aj (ai 1) (aa [])) ⟨[some (.ref (pre.length + 1)), some (.int k), none], H⟩ = .ok (if k ∈ ord then .ref (nd k) else .none) ⟨[some (.ref (pre.length + 1)), some (.int k), none], H⟩ :=
  (cM g0 S.isD (ma := aj (ai 1) (aa [])) (vs := [.int k]) (aq := ⟨[some (.ref (pre.length + 1)), some (.int k), none], H⟩) rfl).trans (S.dget k _)
 have g2 : aB (aW CmpOp.Is (fun σ => (a7 bP gy (ba (getD 269 "_node2info") (ai 0)) (aj (ai 1) (aa [])) σ).bind fun v ae => (ao 2 v ae).bind fun x aq => zZ.ok v aq) (aa V.none)) ⟨[some (.ref (pre.length + 1)), some (.int k), none], H⟩ = .ok (decide (k ∉ ord)) ⟨[some (.ref (pre.length + 1)), some (.int k), some (if k ∈ ord then .ref (nd k) else .none)], H⟩ := by
  refine bM ?_
  have q : (fun σ => (a7 bP gy (ba (getD 269 "_node2info") (ai 0)) (aj (ai 1) (aa [])) σ).bind fun v ae => (ao 2 v ae).bind fun x aq => zZ.ok v aq : St → zZ V) ⟨[some (.ref (pre.length + 1)), some (.int k), none], H⟩ = .ok (if k ∈ ord then .ref (nd k) else .none) ⟨[some (.ref (pre.length + 1)), some (.int k), some (if k ∈ ord then .ref (nd k) else .none)], H⟩ := by
   show (a7 bP gy _ _ _).bind _ = _
   rw [g1, zZ.bind_ok]; rfl
  refine (bq q (mr := aa V.none) rfl).trans ?_
  rw [is_none]
  by_cases e : k ∈ ord
  ·rw [if_pos e, decide_eq_false (by simp), decide_eq_false (by simpa using e)]
  ·rw [if_neg e, decide_eq_true rfl, decide_eq_true e]
 by_cases e : k ∈ ord
 ·refine ⟨ord, nd, sc, ⟨[some (.ref (pre.length + 1)), some (.int k), some (.ref (nd k))], H⟩, ?_, S, e, fun _ h => h, fun _ h => .inl h, fun _ _ h => h⟩
  refine du (b7 := H) (L := [some (.ref (pre.length + 1)), some (.int k), none]) rfl rfl ?_
  rw [decide_eq_false (by simpa using e), if_pos e] at g2
  refine (aG (ae := ⟨[some (.ref (pre.length + 1)), some (.int k), some (.ref (nd k))], H⟩) ?_).trans (eK rfl)
  refine (d9 g2).trans ?_
  rw [if_neg (by decide)]; rfl
 ·rw [decide_eq_true e, if_neg e] at g2
  obtain ⟨L, r⟩ := xP H k
  have h1 := aE (X := mn H.length k) hd
  have S' := S.app (mn H.length k)
  refine ⟨ord ++ [k], _, _, ⟨[some (.ref (pre.length + 1)), some (.int k), some (.ref (H.length + 1))], _⟩, ?_, S.new e ep hd, by simp, fun x h => List.mem_append_left _ h, fun x h => by simpa using h, fun l xs h => ?_⟩
  ·rw [eE]
   refine du (b7 := H) (L := [some (.ref (pre.length + 1)), some (.int k), none]) rfl rfl ?_
   refine (aG (ae := ⟨[some (.ref (pre.length + 1)), some (.int k), some (.ref (H.length + 1))], _⟩) ?_).trans (eK rfl)
   refine (d9 g2).trans ?_
   rw [if_pos rfl]
   have c1 : aC (aj (ai 1) (aa [])) (bJ (gq 172 lf)) ⟨[some (.ref (pre.length + 1)), some (.int k), some .none], H⟩ = .ok (.ref (H.length + 1)) ⟨[some (.ref (pre.length + 1)), some (.int k), some .none], H ++ mn H.length k⟩ := by
    rw [bW (ms := aj (ai 1) (aa [])) (vs := [.int k]) (ae := ⟨[some (.ref (pre.length + 1)), some (.int k), some .none], H⟩) rfl]
    have : gq 172 lf [.int k] H = .ok (.ref (H.length + 1)) ⟨L, H ++ mn H.length k⟩ := by
     unfold gq
     rw [r]
    exact cm (m := gq 172 lf) (vs := [.int k]) (σ := ⟨[some (.ref (pre.length + 1)), some (.int k), some .none], H⟩) this
   unfold jZ
   rw [c1, zZ.bind_ok]
   have c2 : pR (ba (getD 269 "_node2info") (ai 0)) (ai 1) (.ref (H.length + 1)) ⟨[some (.ref (pre.length + 1)), some (.int k), some .none], H ++ mn H.length k⟩ = .ok () ⟨[some (.ref (pre.length + 1)), some (.int k), some .none], (H ++ mn H.length k).set (pre.length + 2) (.dict (gH ord nd ++ [((k : Int), .ref (H.length + 1))]) (ep + 1))⟩ := by
    unfold pR
    rw [bz (aI (v := .ref (pre.length + 1)) rfl), S'.n2i, zZ.bind_ok, aI (v := .int k) rfl, zZ.bind_ok]
    have q2 : (gH ord nd).any (fun p => decide (p.1 = (k : Int))) = false := by
     rw [List.any_eq_false]
     intro p hp
     unfold gH at hp
     obtain ⟨j, hj, rfl⟩ := List.mem_map.mp hp
     rw [decide_eq_true_eq]
     intro q
     have : j = k := by lia
     exact e (this ▸ hj)
    rw [kL h1]
    unfold ly
    rw [q2]
    simp only [Bool.false_eq_true, if_false]
    rw [if_pos (by unfold gH; rw [List.length_map]; show ord.length ≤ 16777216; lia)]
   rw [c2, zZ.bind_ok]
   rfl
  ·exact aY (aE h) (aN h1 (aE h) (by simp))
end
theorem d0 {chk : V → List O → Bool} {g : List V → St → zZ V} {mo : St → zZ V} {ma : St → zZ (List V)} {v : V} {vs : List V} {σ ae aq : St} (h : mo σ = .ok v ae) (hc : chk v ae.heap = true) (ha : ma ae = .ok vs aq) : cU chk g mo ma σ = g (v :: vs) aq := by
 unfold cU; rw [h, zZ.bind_ok, if_pos hc, ha, zZ.bind_ok]
theorem om {op : Operator} {g : V → St → zZ V} {f : V → V → St → zZ Unit} {mo m : St → zZ V} {σ ae aq aT cg fF : St} {o a b c : V} (h1 : mo σ = .ok o ae) (h2 : g o ae = .ok a aq) (h3 : m aq = .ok b aT) (h4 : opI op a b aT = .ok c cg) (h5 : f o c cg = .ok () fF) : pv op g f mo m σ = .ok .next fF := by
 unfold pv; rw [h1, zZ.bind_ok, h2, zZ.bind_ok, h3, zZ.bind_ok, h4, zZ.bind_ok, h5, zZ.bind_ok]
noncomputable def cj : Option Nat → List V
 | none => []
 | some p => [.int p]
noncomputable def wY (su : Nat → List Nat) (k : Nat) : Option Nat → Nat → List Nat
 | none => su
 | some p => upd su p (su p ++ [k])
noncomputable def t5 : Option Nat → Int
 | none => 0
 | some _ => 1
section
variable {pre : List O} {ord : List Nat} {nd sc : Nat → Nat} {np : Nat → Int} {su : Nat → List Nat} {rdy : V} {po fi : Int} {H : List O}
theorem nF (S : zV pre ord nd sc np su rdy po fi H) {k i j : Nat} (h100 : ord.length ≤ 100) {L : List (Option V)} (h0 : L[0]? = some (some (.ref (pre.length + 1)))) (hi : L[i]? = some (some (.int k))) :
  ∃ ord' nd' sc' H', an (cU (bO 269 "_get_nodeinfo") (bJ lc) (ai 0) (aj (ai i) (aa []))) (ao j) ⟨L, H⟩ = .ok .next ⟨L.set j (some (.ref (nd' k))), H'⟩ ∧ zV pre ord' nd' sc' np su rdy po fi H' ∧ k ∈ ord' ∧ (∀ x ∈ ord, x ∈ ord') ∧ (∀ x ∈ ord', x ∈ ord ∨ x = k) ∧ ∀ (l : Nat) (xs : List V), H[l]? = some (O.tup xs) → H'[l]? = some (O.tup xs) := by
 obtain ⟨ord', nd', sc', τ, r1, r2⟩ := xO S k h100
 refine ⟨ord', nd', sc', τ.heap, ?_, r2⟩
 refine bx (ae := ⟨L, τ.heap⟩) ?_
 rw [d0 (v := .ref (pre.length + 1)) (vs := [.int k]) (ae := ⟨L, H⟩) (aq := ⟨L, H⟩) (aI h0) (S.own (by kernel_rfl)) (aX (aI hi) (ms := aa []) rfl)]
 exact cm (m := lc) (σ := ⟨L, H⟩) r1
noncomputable abbrev y6 : St → zZ F := (aM (an (cU (bO 269 "_get_nodeinfo") (bJ lc) (ai 0) (aj (ai 4) (aa []))) (ao 5)) (bE (a7 aO bk (ba (eM 172 2) (ai 5)) (aj (ai 1) (aa [])))))
theorem sR (S : zV pre ord nd sc np su rdy po fi H) {k p t : Nat} (h100 : ord.length ≤ 100) (hs : ∀ x, (su x).length ≤ 100) {v3 v5 : Option V} :
  ∃ ord' nd' sc' H', y6 ⟨[some (.ref (pre.length + 1)), some (.int k), some (.ref t), v3, some (.int p), v5], H⟩ = .ok .next ⟨[some (.ref (pre.length + 1)), some (.int k), some (.ref t), v3, some (.int p), some (.ref (nd' p))], H'⟩ ∧ zV pre ord' nd' sc' np (upd su p (su p ++ [k])) rdy po fi H' ∧ p ∈ ord' ∧ (∀ x ∈ ord, x ∈ ord') ∧ (∀ x ∈ ord', x ∈ ord ∨ x = p) ∧ ∀ (l : Nat) (xs : List V), H[l]? = some (O.tup xs) → H'[l]? = some (O.tup xs) := by
 obtain ⟨ord', nd', sc', H', r1, S', r3, r4, r5, r6⟩ := nF S (k := p) (i := 4) (j := 5) h100 (L := [some (.ref (pre.length + 1)), some (.int k), some (.ref t), v3, some (.int p), v5]) rfl rfl
 refine ⟨ord', nd', sc', H'.set (sc' p) (.list (aP (su p) ++ [.int k])), ?_, S'.addS r3 k, r3, r4, r5, fun l xs h => aY (r6 l xs h) (aN (S'.sx p r3).1 (r6 l xs h) (by simp))⟩
 refine (aG r1).trans ?_
 refine cZ (v := .none) ?_
 rw [cM (ma := aj (ai 1) (aa [])) (vs := [.int k]) ((bz (aI (v := .ref (nd' p)) rfl)).trans (S'.g2 r3 _)) (cB (S'.sx p r3).1) (aX (aI (v := .int k) rfl) (ms := aa []) rfl)]
 exact dT (S'.sx p r3).1 (by unfold aP; rw [List.length_map]; have := hs p; lia)
theorem xN (S : zV pre ord nd sc np su .none po fi H) (k : Nat) (o : Option Nat) (h100 : ord.length ≤ 90) (hs : ∀ x, (su x).length ≤ 100) :
  ∃ ord' nd' sc' τ, pe (.ref (pre.length + 1) :: .int k :: cj o) H = .ok .none τ ∧ zV pre ord' nd' sc' (upd np k (np k + t5 o)) (wY su k o) .none po fi τ.heap ∧ k ∈ ord' ∧ (∀ p, o = some p → p ∈ ord') ∧ (∀ x ∈ ord, x ∈ ord') ∧ (∀ x ∈ ord', x ∈ ord ∨ x = k ∨ o = some x) := by
 have S0 := S.app [.tup (cj o)]
 have hlo : (cj o).length ≤ 1 := by cases o <;> simp [cj]
 have c1 : zE (aB (aW CmpOp.IsNot (ba (getD 269 "_ready_nodes") (ai 0)) (aa V.none))) dU (aa F.next) ⟨[some (.ref (pre.length + 1)), some (.int k), some (.ref H.length), none, none, none], H ++ [.tup (cj o)]⟩ = .ok .next ⟨[some (.ref (pre.length + 1)), some (.int k), some (.ref H.length), none, none, none], H ++ [.tup (cj o)]⟩ := by
  have q := (bz (g := getD 269 "_ready_nodes") (aI (i := 0) (L := [some (.ref (pre.length + 1)), some (.int k), some (.ref H.length), none, none, none]) (H := H ++ [.tup (cj o)]) rfl)).trans (S0.grd rfl _)
  refine (d9 (bM ((bq q (mr := aa .none) rfl).trans (eX _ _)))).trans ?_
  rfl
 obtain ⟨ord1, nd1, sc1, H1, r1, S1, r3, r4, r5, r6⟩ := nF S0 (k := k) (i := 1) (j := 3) (by lia) (L := [some (.ref (pre.length + 1)), some (.int k), some (.ref H.length), none, none, none]) rfl rfl
 simp only [List.set_cons_succ, List.set_cons_zero] at r1
 have t0 : (H ++ [O.tup (cj o)])[H.length]? = some (.tup (cj o)) := iW ..
 have t1 := r6 _ _ t0
 obtain ⟨H2, s1, S2, s3, s4⟩ := S1.s1 r3 (np k + t5 o) [some (.ref (pre.length + 1)), some (.int k), some (.ref H.length), some (.ref (nd1 k)), none, none]
 have t2 : H2[H.length]? = some (.tup (cj o)) := by
  obtain ⟨d, fs, h1, h2, _⟩ := S1.no k r3
  have : fE 172 1 (.ref (nd1 k)) (.int (np k + t5 o)) ⟨[some (.ref (pre.length + 1)), some (.int k), some (.ref H.length), some (.ref (nd1 k)), none, none], H1⟩ = .ok () ⟨[some (.ref (pre.length + 1)), some (.int k), some (.ref H.length), some (.ref (nd1 k)), none, none], H1.set (nd1 k) (.inst 172 d (oH [some (.int k), some (.int (np k)), some (.ref (sc1 k))] 1 (.int (np k + t5 o))))⟩ := by
   exact jE h1 h2
  rw [this] at s1
  simp only [zZ.ok.injEq, St.mk.injEq, true_and] at s1
  rw [← s1]
  exact aY t1 (aN h1 t1 (by simp))
 have c3 : pv Operator.Add (eM 172 1) (fE 172 1) (ai 3) (aC (aj (ai 2) (aa [])) iU) ⟨[some (.ref (pre.length + 1)), some (.int k), some (.ref H.length), some (.ref (nd1 k)), none, none], H1⟩ = .ok .next ⟨[some (.ref (pre.length + 1)), some (.int k), some (.ref H.length), some (.ref (nd1 k)), none, none], H2⟩ := by
  refine om (aI (v := .ref (nd1 k)) rfl) (S1.g1 r3 _) ((bW (aX (aI (i := 2) (v := .ref H.length) rfl) (ms := aa []) rfl)).trans ?_) (b := .int (t5 o)) (c := .int (np k + t5 o)) rfl s1
  rw [qX t1, if_pos (by lia)]
  cases o <;> rfl
 have hi : bY (.ref H.length) H2 = some (cj o, some (H.length, .tup (cj o))) := by
  exact ck t2
 have ho1 : ord1.length ≤ 100 := by
  have := b9 (m := k :: ord) S1.nod fun x hx => by
   rcases r5 x hx with h | h
   ·exact List.mem_cons_of_mem _ h
   ·exact h ▸ List.mem_cons_self ..
  simp only [List.length_cons] at this; lia
 have loop : ∃ ord' nd' sc' τ, hO (ai 2) (ao 4) y6 (aa F.next) ⟨[some (.ref (pre.length + 1)), some (.int k), some (.ref H.length), some (.ref (nd1 k)), none, none], H2⟩ = .ok .next τ ∧ zV pre ord' nd' sc' (upd np k (np k + t5 o)) (wY su k o) .none po fi τ.heap ∧ (∀ p, o = some p → p ∈ ord') ∧ (∀ x ∈ ord1, x ∈ ord') ∧ (∀ x ∈ ord', x ∈ ord1 ∨ o = some x) := by
  have hf : hO (ai 2) (ao 4) y6 (aa F.next) ⟨[some (.ref (pre.length + 1)), some (.int k), some (.ref H.length), some (.ref (nd1 k)), none, none], H2⟩ = gu (ao 4) y6 (aa F.next) (some (H.length, .tup (cj o))) (cj o) ⟨[some (.ref (pre.length + 1)), some (.int k), some (.ref H.length), some (.ref (nd1 k)), none, none], H2⟩ := by
   unfold hO
   rw [show ai 2 ⟨[some (.ref (pre.length + 1)), some (.int k), some (.ref H.length), some (.ref (nd1 k)), none, none], H2⟩ = .ok (.ref H.length) ⟨[some (.ref (pre.length + 1)), some (.int k), some (.ref H.length), some (.ref (nd1 k)), none, none], H2⟩ from rfl, zZ.bind_ok]
   simp only [hi]
  rw [hf]
  cases o with
  | none => exact ⟨ord1, nd1, sc1, _, fB (bC t2), S2, fun p h => (by cases h), fun _ h => h, fun _ h => .inl h⟩
  | some p =>
   obtain ⟨ord3, nd3, sc3, H3, g1, g2, g3, g4, g5, g6⟩ := sR S2 (k := k) (p := p) (t := H.length) ho1 hs (v3 := some (.ref (nd1 k))) (v5 := none)
   refine ⟨ord3, nd3, sc3, ⟨[some (.ref (pre.length + 1)), some (.int k), some (.ref H.length), some (.ref (nd1 k)), some (.int p), some (.ref (nd3 p))], H3⟩, ?_, g2, fun q h => (by cases h; exact g3), g4, fun x hx => (g5 x hx).imp id fun h => by rw [h]⟩
   rw [show cj (some p) = [V.int p] from rfl]
   rw [ee (ae := ⟨[some (.ref (pre.length + 1)), some (.int k), some (.ref H.length), some (.ref (nd1 k)), some (.int p), none], H2⟩) (bC t2) rfl (.inl g1)]
   exact fB (bC (g6 _ _ t2))
 obtain ⟨ord', nd', sc', τ, l1, l2, l3, l4, l5⟩ := loop
 refine ⟨ord', nd', sc', τ, ?_, l2, l4 k r3, l3, fun x hx => l4 x (r4 x hx), fun x hx => ?_⟩
 ·refine fS (ps := [.ref (pre.length + 1), .int k, .ref H.length]) (b7 := H ++ [.tup (cj o)]) (L := [some (.ref (pre.length + 1)), some (.int k), some (.ref H.length), none, none, none]) ?_ rfl ?_
  ·unfold wC
   rw [if_pos ⟨by simp, by simp; lia⟩]; rfl
  ·exact (aG c1).trans ((aG r1).trans ((aG c3).trans l1))
 ·rcases l5 x hx with h | h
  ·rcases r5 x h with h | h
   ·exact .inl h
   ·exact .inr (.inl h)
  ·exact .inr (.inr h)
end
theorem sy (pre : List O) (L : List (Option V)) : aC (aa []) (bJ (gq 269 mD)) ⟨L, pre⟩ = .ok (.ref (pre.length + 1)) ⟨L, pre ++ [.idict (eD pre.length .none 0 0), .inst 269 pre.length [], .dict [] 0]⟩ := by
 have p1 : lN [] "_node2info" (.ref (pre.length + 2)) = [(Str.ofString "_node2info", .ref (pre.length + 2))] := rfl
 have p2 : lN [(Str.ofString "_node2info", .ref (pre.length + 2))] "_ready_nodes" .none = [(Str.ofString "_node2info", .ref (pre.length + 2)), (Str.ofString "_ready_nodes", .none)] := by kernel_rfl
 have p3 : lN [(Str.ofString "_node2info", .ref (pre.length + 2)), (Str.ofString "_ready_nodes", .none)] "_npassedout" (.int 0) = [(Str.ofString "_node2info", .ref (pre.length + 2)), (Str.ofString "_ready_nodes", .none), (Str.ofString "_npassedout", .int 0)] := by kernel_rfl
 have p4 : lN [(Str.ofString "_node2info", .ref (pre.length + 2)), (Str.ofString "_ready_nodes", .none), (Str.ofString "_npassedout", .int 0)] "_nfinished" (.int 0) = eD pre.length .none 0 0 := by kernel_rfl
 have hl : (pre ++ [O.idict [], .inst 269 pre.length []]).length = pre.length + 2 := by rw [List.length_append]; rfl
 have b : mD [.ref (pre.length + 1)] (pre ++ [.idict [], .inst 269 pre.length []]) = .ok .none ⟨[some (.ref (pre.length + 1)), some .none, none, none], pre ++ [.idict (eD pre.length .none 0 0), .inst 269 pre.length [], .dict [] 0]⟩ := by
  refine fS (b7 := pre ++ [.idict [], .inst 269 pre.length []]) (L := [some (.ref (pre.length + 1)), some .none, none, none]) rfl rfl ?_
  have d1 : mW ⟨[some (.ref (pre.length + 1)), some .none, none, none], pre ++ [.idict [], .inst 269 pre.length []]⟩ = .ok (.ref (pre.length + 2)) ⟨[some (.ref (pre.length + 1)), some .none, none, none], pre ++ (O.idict [] :: O.inst 269 pre.length [] :: [.dict [] 0])⟩ := by
   unfold mW
   simp only [hl, List.append_assoc, List.cons_append, List.nil_append]
  have a1 := bX (f := cD (iR 269 "_node2info") (ai 0)) d1 (gW pre [.dict [] 0] [] [] "_node2info" (.ref (pre.length + 2)) _ (by decide))
  rw [p1] at a1
  have a2 := bX (m := aa V.none) (σ := ⟨[some (.ref (pre.length + 1)), some .none, none, none], pre ++ (O.idict [(Str.ofString "_node2info", .ref (pre.length + 2))] :: O.inst 269 pre.length [] :: [.dict [] 0])⟩) (ae := ⟨[some (.ref (pre.length + 1)), some .none, none, none], pre ++ (O.idict [(Str.ofString "_node2info", .ref (pre.length + 2))] :: O.inst 269 pre.length [] :: [.dict [] 0])⟩) (f := cD (iR 269 "_ready_nodes") (ai 0)) rfl (gW pre [.dict [] 0] _ [] "_ready_nodes" .none _ (by show 1 ≤ 900; decide))
  rw [p2] at a2
  have a3 := bX (m := aa (V.int 0)) (σ := ⟨[some (.ref (pre.length + 1)), some .none, none, none], pre ++ (O.idict [(Str.ofString "_node2info", .ref (pre.length + 2)), (Str.ofString "_ready_nodes", .none)] :: O.inst 269 pre.length [] :: [.dict [] 0])⟩) (ae := ⟨[some (.ref (pre.length + 1)), some .none, none, none], pre ++ (O.idict [(Str.ofString "_node2info", .ref (pre.length + 2)), (Str.ofString "_ready_nodes", .none)] :: O.inst 269 pre.length [] :: [.dict [] 0])⟩) (f := cD (iR 269 "_npassedout") (ai 0)) rfl (gW pre [.dict [] 0] _ [] "_npassedout" (.int 0) _ (by show 2 ≤ 900; decide))
  rw [p3] at a3
  have a4 := bX (m := aa (V.int 0)) (σ := ⟨[some (.ref (pre.length + 1)), some .none, none, none], pre ++ (O.idict [(Str.ofString "_node2info", .ref (pre.length + 2)), (Str.ofString "_ready_nodes", .none), (Str.ofString "_npassedout", .int 0)] :: O.inst 269 pre.length [] :: [.dict [] 0])⟩) (ae := ⟨[some (.ref (pre.length + 1)), some .none, none, none], pre ++ (O.idict [(Str.ofString "_node2info", .ref (pre.length + 2)), (Str.ofString "_ready_nodes", .none), (Str.ofString "_npassedout", .int 0)] :: O.inst 269 pre.length [] :: [.dict [] 0])⟩) (f := cD (iR 269 "_nfinished") (ai 0)) rfl (gW pre [.dict [] 0] _ [] "_nfinished" (.int 0) _ (by show 3 ≤ 900; decide))
  rw [p4] at a4
  exact (aG a1).trans ((aG a2).trans ((aG a3).trans ((aG a4).trans rfl)))
 rw [bW (ms := aa []) (vs := []) (ae := ⟨L, pre⟩) rfl]
 have : gq 269 mD [] pre = .ok (.ref (pre.length + 1)) ⟨[some (.ref (pre.length + 1)), some .none, none, none], pre ++ [.idict (eD pre.length .none 0 0), .inst 269 pre.length [], .dict [] 0]⟩ := by
  unfold gq
  rw [b]
 exact cm (m := gq 269 mD) (vs := []) (σ := ⟨L, pre⟩) this
theorem sa (pre : List O) : zV pre [] (fun _ => 0) (fun _ => 0) (fun _ => 0) (fun _ => []) .none 0 0 (pre ++ [.idict (eD pre.length .none 0 0), .inst 269 pre.length [], .dict [] 0]) :=
 ⟨by rw [List.take_append_of_le_length (Nat.le_refl _), List.take_length], iW .., rT .., ⟨0, at_2 ..⟩, fun k h => (by cases h), fun k h => (by cases h), fun j h => (by cases h), List.nodup_nil, fun _ _ => ⟨rfl, rfl⟩⟩
noncomputable abbrev zf : St → zZ V := bI 6 (bu (aj (bp br (bp br (ai 0) (ai 2)) (aa (V.int 0))) (aa []))) (aB (aW CmpOp.IsNot (ai 6) (aa V.none))) (ai 6)
theorem sG {H : List O} {l : Nat} {par : Nat → Option Nat} (h : de H l par) {k : Nat} (hk : k < 6) (v1 v3 v4 v5 : Option V) :
  zf ⟨[some (.ref l), v1, some (.int k), v3, v4, v5], H⟩ = .ok (.ref (H.length + 1)) ⟨[some (.ref l), v1, some (.int k), v3, v4, v5], H ++ [.list [fp (par k)], .list (cj (par k))]⟩ := by
 have e1 := cN (aX (qH h hk (L := [some (.ref l), v1, some (.int k), v3, v4, v5]) (i := 0) (j := 2) rfl rfl) (ms := aa []) rfl) (by show 1 ≤ 1000; decide)
 have hl : (H ++ [O.list [fp (par k)]]).length = H.length + 1 := by rw [List.length_append]; rfl
 have hi : bY (.ref H.length) (H ++ [O.list [fp (par k)]]) = some ([fp (par k)], some (H.length, .list [fp (par k)])) := by
  exact ck (iW ..)
 have s1 : ∀ xs, dM (some (H.length, .list [fp (par k)])) (H ++ (O.list [fp (par k)] :: O.list xs :: [])) = true := fun xs => bC (iW ..)
 unfold zf bI
 rw [e1, zZ.bind_ok]
 simp only [hi, hl]
 rw [if_pos (show ([some (.ref l), v1, some (.int k), v3, v4, v5] : List (Option V)).length = 6 from rfl)]
 simp only [List.append_assoc, List.cons_append, List.nil_append]
 cases hq : par k with
 | none =>
  have s2 := s1 []
  rw [hq] at s2
  simp only [fp] at s2 ⊢
  simp only [c0, ao, zZ.bind_ok]
  rw [if_pos s2]
  have t : aB (aW CmpOp.IsNot (ai 6) (aa V.none)) ⟨[some (.ref l), v1, some (.int k), v3, v4, v5, none].set 6 (some .none), H ++ [.list [.none], .list []]⟩ = .ok false ⟨[some (.ref l), v1, some (.int k), v3, v4, v5].append [some .none], H ++ [.list [.none], .list []]⟩ := rfl
  rw [t]
  simp only [zZ.calm, zZ.bind_ok]
  rw [if_neg (by decide), if_pos s2]
  rfl
 | some p =>
  have s2 := s1 []
  have s3 := s1 [.int p]
  rw [hq] at s2 s3
  simp only [fp] at s2 s3 ⊢
  simp only [c0, ao, zZ.bind_ok]
  rw [if_pos s2]
  have t : aB (aW CmpOp.IsNot (ai 6) (aa V.none)) ⟨[some (.ref l), v1, some (.int k), v3, v4, v5, none].set 6 (some (.int p)), H ++ [.list [.int p], .list []]⟩ = .ok true ⟨[some (.ref l), v1, some (.int k), v3, v4, v5, some (.int p)], H ++ [.list [.int p], .list []]⟩ := rfl
  rw [t]
  simp only [zZ.calm, zZ.bind_ok, if_true]
  rw [show ai 6 ⟨[some (.ref l), v1, some (.int k), v3, v4, v5, some (.int p)], H ++ [.list [.int p], .list []]⟩ = .ok (.int p) ⟨[some (.ref l), v1, some (.int k), v3, v4, v5, some (.int p)], H ++ [.list [.int p], .list []]⟩ from rfl]
  simp only [zZ.calm, zZ.bind_ok]
  unfold c8
  simp only [rT, vR]
  rw [if_pos (by show 0 ≤ 16777216; decide), zZ.bind_ok]
  simp only [List.nil_append]
  rw [if_pos s3]
  rfl
noncomputable def zy (par : Nat → Option Nat) (i : Nat) : Nat → Int := fun k => if k < i ∧ (par k).isSome = true then 1 else 0
noncomputable def zn (par : Nat → Option Nat) (i : Nat) : Nat → List Nat := fun p => (List.range i).filter fun k => decide (par k = some p)
theorem to (par : Nat → Option Nat) (i : Nat) : upd (zy par i) i (zy par i i + t5 (par i)) = zy par (i + 1) := by
 funext k
 unfold upd zy
 by_cases e : k = i
 ·subst e
  simp only [if_true, Nat.lt_irrefl, false_and, if_false, Nat.lt_succ_self, true_and]
  cases par k <;> rfl
 ·have : (k < i + 1) = (k < i) := by apply propext; lia
  simp only [if_neg e, this]
theorem r9 (par : Nat → Option Nat) (i : Nat) : wY (zn par i) i (par i) = zn par (i + 1) := by
 funext x
 have h : zn par (i + 1) x = zn par i x ++ (if par i = some x then [i] else []) := by
  unfold zn
  rw [List.range_succ, List.filter_append]
  congr 1
  by_cases e : par i = some x <;> simp [e]
 rw [h]
 cases q : par i with
 | none => simp [wY]
 | some p =>
  simp only [wY, upd]
  by_cases e : x = p
  ·subst e; simp
  ·rw [if_neg e, if_neg (by simp; lia)]; simp
theorem uU (par : Nat → Option Nat) (i x : Nat) : (zn par i x).length ≤ i := by
 unfold zn
 have := List.length_filter_le (fun k => decide (par k = some x)) (List.range i)
 rw [List.length_range] at this
 exact this
theorem de.mono {pre H : List O} {l : Nat} {par : Nat → Option Nat} (h : de pre l par) (ht : H.take pre.length = pre) : de H l par := by
 have e : H = pre ++ H.drop pre.length := by
  have q := List.take_append_drop pre.length H
  rw [ht] at q
  exact q.symm
 obtain ⟨ls, h1, h2, h3⟩ := h
 rw [e]
 refine ⟨ls, aE h1, h2, fun k hk => ?_⟩
 obtain ⟨m, r, a, b⟩ := h3 k hk
 exact ⟨m, r, a, aE b⟩
noncomputable abbrev zj : St → zZ F := (bE (cU (bO 269 "add") (bJ pe) (ai 1) (aj (ai 2) (fT zf (aa [])))))
theorem uV {m : St → zZ V} {ms : St → zZ (List V)} {σ ae aq : St} {l : Nat} {us vs : List V} (h : m σ = .ok (.ref l) ae) (hu : ae.heap[l]? = some (.list us)) (hl : us.length ≤ 1000) (h2 : ms ae = .ok vs aq) : fT m ms σ = .ok (us ++ vs) aq := by
 unfold fT
 rw [h, zZ.bind_ok, nv hu rfl, if_pos (by show us.length ≤ 16777216; lia), zZ.bind_ok, h2, zZ.bind_ok]
theorem sP {pre : List O} {ord : List Nat} {nd sc : Nat → Nat} {np : Nat → Int} {su : Nat → List Nat} {po fi : Int} {H : List O} (S : zV pre ord nd sc np su .none po fi H) {l : Nat} {par : Nat → Option Nat} (h : de pre l par) {k : Nat} (hk : k < 6) (h90 : ord.length ≤ 90) (hs : ∀ x, (su x).length ≤ 100) (v3 v4 v5 : Option V) :
  ∃ ord' nd' sc' H', zj ⟨[some (.ref l), some (.ref (pre.length + 1)), some (.int k), v3, v4, v5], H⟩ = .ok .next ⟨[some (.ref l), some (.ref (pre.length + 1)), some (.int k), v3, v4, v5], H'⟩ ∧ zV pre ord' nd' sc' (upd np k (np k + t5 (par k))) (wY su k (par k)) .none po fi H' ∧ k ∈ ord' ∧ (∀ p, par k = some p → p ∈ ord') ∧ (∀ x ∈ ord, x ∈ ord') ∧ (∀ x ∈ ord', x ∈ ord ∨ x = k ∨ par k = some x) := by
 have S1 := S.app [.list [fp (par k)], .list (cj (par k))]
 obtain ⟨ord', nd', sc', τ, r1, r2⟩ := xN S1 k (par k) h90 hs
 refine ⟨ord', nd', sc', τ.heap, ?_, r2⟩
 refine cZ (v := .none) ?_
 have e1 := sG (h.mono S.take) hk (some (.ref (pre.length + 1))) v3 v4 v5
 have e2 := uV (ms := aa []) e1 (us := cj (par k)) (rT ..) (by cases par k <;> simp [cj]) rfl
 rw [List.append_nil] at e2
 rw [d0 (v := .ref (pre.length + 1)) (ae := ⟨[some (.ref l), some (.ref (pre.length + 1)), some (.int k), v3, v4, v5], H⟩) (aI rfl) (S.own (by kernel_rfl)) (aX (aI (v := .int k) rfl) e2)]
 exact cm (m := pe) (σ := ⟨[some (.ref l), some (.ref (pre.length + 1)), some (.int k), v3, v4, v5], H ++ [.list [fp (par k)], .list (cj (par k))]⟩) r1
theorem sB {pre : List O} {l : Nat} {par : Nat → Option Nat} (h : de pre l par) (hp : ∀ k p, par k = some p → p < 6) (v3 v4 v5 : Option V) : ∀ (m i : Nat) (ord : List Nat) (nd sc : Nat → Nat) (H : List O) (v2 : Option V), i + m = 6 → zV pre ord nd sc (zy par i) (zn par i) .none 0 0 H → (∀ k, k < i → k ∈ ord) → (∀ k ∈ ord, k < 6) → (∀ k p, k < i → par k = some p → p ∈ ord) →
  ∃ ord' nd' sc' H' w2, gu (ao 2) zj (aa F.next) none (aP (List.range' i m)) ⟨[some (.ref l), some (.ref (pre.length + 1)), v2, v3, v4, v5], H⟩ = .ok .next ⟨[some (.ref l), some (.ref (pre.length + 1)), w2, v3, v4, v5], H'⟩ ∧ zV pre ord' nd' sc' (zy par 6) (zn par 6) .none 0 0 H' ∧ (∀ k, k < 6 → k ∈ ord') ∧ (∀ k ∈ ord', k < 6) := by
 intro m
 induction m with
 | zero =>
  intro i ord nd sc H v2 hi S h1 h2 h3
  have : i = 6 := by lia
  subst this
  exact ⟨ord, nd, sc, H, v2, fB rfl, S, h1, h2⟩
 | succ m ih =>
  intro i ord nd sc H v2 hi S h1 h2 h3
  have hl6 : ord.length ≤ 6 := by
   have := b9 (m := List.range 6) S.nod fun x hx => List.mem_range.mpr (h2 x hx)
   rw [List.length_range] at this; exact this
  obtain ⟨ord1, nd1, sc1, H1, r1, S1, r3, r4, r5, r6⟩ := sP S h (k := i) (by lia) (by lia) (fun x => by have := uU par i x; lia) v3 v4 v5
  rw [to, r9] at S1
  obtain ⟨ord2, nd2, sc2, H2, w2, q1, q2⟩ := ih (i + 1) ord1 nd1 sc1 H1 (some (.int i)) (by lia) S1 (fun k hk => by
    by_cases e : k = i
    ·rw [e]; exact r3
    ·exact r5 k (h1 k (by lia))) (fun k hk => by
    rcases r6 k hk with q | q | q
    ·exact h2 k q
    ·lia
    ·exact hp _ _ q) (fun k p hk e => by
    by_cases e2 : k = i
    ·exact r4 p (e2 ▸ e)
    ·exact r5 p (h3 k p (by lia) e))
  refine ⟨ord2, nd2, sc2, H2, w2, ?_, q2⟩
  rw [List.range'_succ]
  show gu _ _ _ _ (.int i :: aP _) _ = _
  rw [ee (ae := ⟨[some (.ref l), some (.ref (pre.length + 1)), some (.int i), v3, v4, v5], H⟩) rfl rfl (.inl r1)]
  exact q1
noncomputable def gE (R : Nat) (H H' : List O) : Prop := ∀ l, l ≠ R → (∀ xs : List V, H[l]? = some (O.list xs) → H'[l]? = some (O.list xs)) ∧ (∀ xs : List V, H[l]? = some (O.tup xs) → H'[l]? = some (O.tup xs))
theorem qO {H T : List O} (h : T.take H.length = H) : ∃ X, T = H ++ X := ⟨T.drop H.length, by
 have q := List.take_append_drop H.length T
 rw [h] at q
 exact q.symm⟩
theorem gE.refl (R : Nat) (H : List O) : gE R H H := fun _ _ => ⟨fun _ h => h, fun _ h => h⟩
theorem gE.trans {R : Nat} {H H' H'' : List O} (a : gE R H H') (b : gE R H' H'') : gE R H H'' := fun l hl => ⟨fun xs h => (b l hl).1 xs ((a l hl).1 xs h), fun xs h => (b l hl).2 xs ((a l hl).2 xs h)⟩
theorem gE.app (R : Nat) (H X : List O) : gE R H (H ++ X) := fun _ _ => ⟨fun _ h => aE h, fun _ h => aE h⟩
theorem gE.set {H : List O} (R : Nat) (o : O) : gE R H (H.set R o) := fun _ hl => ⟨fun _ h => aY h hl.symm, fun _ h => aY h hl.symm⟩
theorem gE.fl {H : List O} {m : Nat} {fs : List (Str × V)} (h : H[m]? = some (.idict fs)) (R : Nat) (o : O) : gE R H (H.set m o) := fun _ _ => ⟨fun _ q => aY q (aN h q (by simp)), fun _ q => aY q (aN h q (by simp))⟩
theorem tX {n : Nat} {bnd : List V → List O → Option (List V × List O)} {body : St → zZ F} {vs ps as : List V} {c : V} {H b7 : List O} {L : List (Option V)} {τ : St} (hb : bnd vs H = some (ps, b7)) (hL : dI n ps = L) (h : body ⟨L, b7⟩ = .exc c as τ) : dh n bnd body vs H = .exc c as τ := by
 unfold dh; rw [hb]; subst hL; simp only [h]
section
variable {pre : List O} {ord : List Nat} {nd sc : Nat → Nat} {np : Nat → Int} {su : Nat → List Nat} {rdy : V} {po fi : Int} {H : List O}
theorem zV.s1k (S : zV pre ord nd sc np su rdy po fi H) {k : Nat} (hk : k ∈ ord) (z : Int) (L : List (Option V)) : ∃ H', fE 172 1 (.ref (nd k)) (.int z) ⟨L, H⟩ = .ok () ⟨L, H'⟩ ∧ zV pre ord nd sc (upd np k z) su rdy po fi H' ∧ ∀ R, gE R H H' := by
 obtain ⟨H', a, b, c, d⟩ := S.s1 hk z L
 refine ⟨H', a, b, ?_⟩
 obtain ⟨e, fs, h1, h2, h3⟩ := S.no k hk
 have : fE 172 1 (.ref (nd k)) (.int z) ⟨L, H⟩ = .ok () ⟨L, H.set (nd k) (.inst 172 e (oH [some (.int k), some (.int (np k)), some (.ref (sc k))] 1 (.int z)))⟩ := by
  exact jE h1 h2
 rw [this] at a
 simp only [zZ.ok.injEq, St.mk.injEq, true_and] at a
 rw [← a]
 exact fun R l _ => ⟨fun _ q => aY q (aN h1 q (by simp)), fun _ q => aY q (aN h1 q (by simp))⟩
noncomputable abbrev y0 : St → zZ Bool := aB (aW CmpOp.Eq (ba (eM 172 1) (ai 2)) (aa (V.int 0)))
theorem wz (S : zV pre ord nd sc np su rdy po fi H) {ep : Nat} (hd : H[pre.length + 2]? = some (.dict (gH ord nd) ep)) (v1 : Option V) : ∀ (ks acc : List Nat) (x : Option V), (∀ k ∈ ks, k ∈ ord) → acc.length + ks.length ≤ 100 →
  ∃ x', c0 2 y0 (ba (eM 172 0) (ai 2)) (some (pre.length + 2, .dict (gH ord nd) ep)) (H.length + 1) (ks.map fun k => V.ref (nd k)) ⟨[some (.ref (pre.length + 1)), v1, x], H ++ (O.dvals (pre.length + 2) :: O.list (aP acc) :: [])⟩
   = .ok () ⟨[some (.ref (pre.length + 1)), v1, x'], H ++ (O.dvals (pre.length + 2) :: O.list (aP (acc ++ ks.filter fun k => decide (np k = 0))) :: [])⟩ := by
 intro ks
 induction ks with
 | nil =>
  intro acc x _ _
  refine ⟨x, ?_⟩
  simp only [List.map_nil, c0, List.filter_nil, List.append_nil]
  rw [if_pos (bC (aE hd))]
 | cons k ks ih =>
  intro acc x hk hl
  have ho := hk k (List.mem_cons_self ..)
  have S' := S.app (O.dvals (pre.length + 2) :: O.list (aP acc) :: [])
  have t : y0 ⟨[some (.ref (pre.length + 1)), v1, some (.ref (nd k))], H ++ (O.dvals (pre.length + 2) :: O.list (aP acc) :: [])⟩ = .ok (decide (np k = 0)) ⟨[some (.ref (pre.length + 1)), v1, some (.ref (nd k))], H ++ (O.dvals (pre.length + 2) :: O.list (aP acc) :: [])⟩ := by
   refine bM ((bq ((bz (aI (v := .ref (nd k)) rfl)).trans (S'.g1 ho _)) (mr := aa (V.int 0)) rfl).trans ?_)
   show zZ.ok (V.bool (np k == 0)) _ = _
   by_cases e : np k = 0
   ·rw [e]; rfl
   ·rw [decide_eq_false e, beq_eq_false_iff_ne.mpr e]
  rw [List.map_cons, c0, if_pos (bC (aE hd))]
  rw [show ao 2 (V.ref (nd k)) ⟨[some (.ref (pre.length + 1)), v1, x], H ++ (O.dvals (pre.length + 2) :: O.list (aP acc) :: [])⟩ = .ok () ⟨[some (.ref (pre.length + 1)), v1, some (.ref (nd k))], H ++ (O.dvals (pre.length + 2) :: O.list (aP acc) :: [])⟩ from rfl, zZ.bind_ok, t]
  simp only [zZ.calm, zZ.bind_ok]
  by_cases e : np k = 0
  ·rw [decide_eq_true e, if_pos rfl]
   have q := (bz (g := eM 172 0) (aI (i := 2) (L := [some (.ref (pre.length + 1)), v1, some (.ref (nd k))]) (H := H ++ (O.dvals (pre.length + 2) :: O.list (aP acc) :: [])) (v := .ref (nd k)) rfl)).trans (S'.g0 ho _)
   rw [q]
   simp only [zZ.calm, zZ.bind_ok]
   unfold c8
   simp only [rT, vR]
   rw [if_pos (by unfold aP; rw [List.length_map]; show acc.length ≤ 16777216; simp only [List.length_cons] at hl; lia), zZ.bind_ok]
   have hn : aP acc ++ [V.int k] = aP (acc ++ [k]) := by unfold aP; rw [List.map_append]; rfl
   rw [hn]
   obtain ⟨x', r⟩ := ih (acc ++ [k]) (some (.ref (nd k))) (fun z hz => hk z (List.mem_cons_of_mem _ hz)) (by simp only [List.length_append, List.length_cons, List.length_nil] at hl ⊢; lia)
   refine ⟨x', r.trans ?_⟩
   rw [List.filter_cons, if_pos (decide_eq_true e), List.append_assoc]; rfl
  ·rw [decide_eq_false e, if_neg (by decide)]
   obtain ⟨x', r⟩ := ih acc (some (.ref (nd k))) (fun z hz => hk z (List.mem_cons_of_mem _ hz)) (by simp only [List.length_cons] at hl; lia)
   refine ⟨x', r.trans ?_⟩
   rw [List.filter_cons, if_neg (by simpa using e)]
theorem xM (S : zV pre ord nd sc np su .none po fi H) (hsu : ∀ x y, y ∈ su x → y ∈ ord) (h6 : ord.length ≤ 6) :
  (bf su ord [] = some none → ∃ as τ R, lb [.ref (pre.length + 1)] H = .exc (.top 187) as τ ∧ zV pre ord nd sc np su (.ref R) po fi τ.heap ∧ τ.heap[R]? = some (.list (aP (ord.filter fun k => decide (np k = 0)))) ∧ pre.length ≤ R ∧ ∀ k ∈ ord, sc k ≠ R) ∧
  (∀ sn', bf su ord [] = some (some sn') → ∃ τ R, lb [.ref (pre.length + 1)] H = .ok .none τ ∧ zV pre ord nd sc np su (.ref R) po fi τ.heap ∧ τ.heap[R]? = some (.list (aP (ord.filter fun k => decide (np k = 0)))) ∧ pre.length ≤ R ∧ ∀ k ∈ ord, sc k ≠ R) := by
 obtain ⟨ep, hd⟩ := S.di
 have hpl : pre.length ≤ H.length := by have := cC hd; lia
 have c1 : zE (aB (aW CmpOp.IsNot (ba (getD 269 "_ready_nodes") (ai 0)) (aa V.none))) dU (aa F.next) ⟨[some (.ref (pre.length + 1)), none], H⟩ = .ok .next ⟨[some (.ref (pre.length + 1)), none], H⟩ := by
  have q := (bz (g := getD 269 "_ready_nodes") (aI (i := 0) (L := [some (.ref (pre.length + 1)), none]) (H := H) rfl)).trans (S.grd rfl _)
  exact (d9 (bM ((bq q (mr := aa .none) rfl).trans (eX _ _)))).trans rfl
 have S1 := S.app (O.dvals (pre.length + 2) :: O.list (aP (ord.filter fun k => decide (np k = 0))) :: [])
 have S2 := S1.setFl (.ref (H.length + 1)) po fi
 have c2 : bI 2 (a7 bP hX (ba (getD 269 "_node2info") (ai 0)) (aa [])) y0 (ba (eM 172 0) (ai 2)) ⟨[some (.ref (pre.length + 1)), none], H⟩ = .ok (.ref (H.length + 1)) ⟨[some (.ref (pre.length + 1)), none], H ++ (O.dvals (pre.length + 2) :: O.list (aP (ord.filter fun k => decide (np k = 0))) :: [])⟩ := by
  have g0 : ba (getD 269 "_node2info") (ai 0) ⟨[some (.ref (pre.length + 1)), none], H⟩ = .ok (.ref (pre.length + 2)) ⟨[some (.ref (pre.length + 1)), none], H⟩ := (bz (aI rfl)).trans (S.n2i _)
  have g1 : a7 bP hX (ba (getD 269 "_node2info") (ai 0)) (aa []) ⟨[some (.ref (pre.length + 1)), none], H⟩ = .ok (.ref H.length) ⟨[some (.ref (pre.length + 1)), none], H ++ [.dvals (pre.length + 2)]⟩ := by
   rw [cM g0 S.isD (ma := aa []) (vs := []) (aq := ⟨[some (.ref (pre.length + 1)), none], H⟩) rfl]
   unfold hX
   rw [yY, wt hd]
  have hi : bY (.ref H.length) (H ++ [.dvals (pre.length + 2)]) = some (ord.map fun k => V.ref (nd k), some (pre.length + 2, .dict (gH ord nd) ep)) := by
   have q := aE (X := [O.dvals (pre.length + 2)]) hd
   rw [ck (iW ..)]
   unfold jj
   simp only [q, Option.bind_some, asD_k, Option.map_some]
   unfold gH
   rw [List.map_map]; rfl
  have hl : (H ++ [O.dvals (pre.length + 2)]).length = H.length + 1 := by rw [List.length_append]; rfl
  obtain ⟨x', r⟩ := wz S hd none ord [] none (fun _ h => h) (by simp only [List.length_nil]; lia)
  unfold bI
  rw [g1, zZ.bind_ok]
  simp only [hi, hl]
  rw [if_pos (show ([some (.ref (pre.length + 1)), none] : List (Option V)).length = 2 from rfl)]
  simp only [List.append_assoc, List.cons_append, List.nil_append]
  have r' : c0 2 y0 (ba (eM 172 0) (ai 2)) (some (pre.length + 2, .dict (gH ord nd) ep)) (H.length + 1) (ord.map fun k => V.ref (nd k)) ⟨[some (.ref (pre.length + 1)), none, none], H ++ (O.dvals (pre.length + 2) :: O.list [] :: [])⟩ = _ := r
  rw [r', zZ.bind_ok]
  rfl
 have c3 := bX (f := cD (iR 269 "_ready_nodes") (ai 0)) c2 (S1.srdy (.ref (H.length + 1)) _)
 have hR1 : (H ++ (O.dvals (pre.length + 2) :: O.list (aP (ord.filter fun k => decide (np k = 0))) :: []))[H.length + 1]? = some (.list (aP (ord.filter fun k => decide (np k = 0)))) := rT ..
 have hR2 := (gE.fl S1.fl (H.length + 2) (.idict (eD pre.length (.ref (H.length + 1)) po fi)) (H.length + 1) (by lia)).1 _ hR1
 have hsc : ∀ k ∈ ord, sc k ≠ H.length + 1 := fun k hk => by have := cC (S.sx k hk).1; lia
 obtain ⟨f1, f2⟩ := xI S2 hsu h6
 refine ⟨fun h => ?_, fun sn' h => ?_⟩
 ·obtain ⟨q, τ, xs, r1, r2, r3, r4, r5⟩ := f1 h
  obtain ⟨X, eτ⟩ := qO r2
  have S3 := S2.app X
  have hR3 := aE (X := X) hR2
  rw [← eτ] at S3 hR3
  have c4 : an (cU (bO 269 "_find_cycle") (bJ iT) (ai 0) (aa [])) (ao 1) ⟨[some (.ref (pre.length + 1)), none], (H ++ (O.dvals (pre.length + 2) :: O.list (aP (ord.filter fun k => decide (np k = 0))) :: [])).set pre.length (.idict (eD pre.length (.ref (H.length + 1)) po fi))⟩ = .ok .next ⟨[some (.ref (pre.length + 1)), some (.ref q)], τ.heap⟩ := by
   refine bx (i := 1) (ae := ⟨[some (.ref (pre.length + 1)), none], τ.heap⟩) ?_
   rw [d0 (v := .ref (pre.length + 1)) (vs := []) (ma := aa []) (aI rfl) (S2.own (by kernel_rfl)) rfl]
   exact cm (m := iT) r1
  have c5 : zE (aB (ai 1)) (cJ (V.top 187) (aj (aa (V.str "nodes are in a cycle")) (aj (ai 1) (aa [])))) (aa F.next) ⟨[some (.ref (pre.length + 1)), some (.ref q)], τ.heap⟩ = .exc (.top 187) [.str "nodes are in a cycle", .ref q] ⟨[some (.ref (pre.length + 1)), some (.ref q)], τ.heap⟩ := by
   have t : aB (ai 1) ⟨[some (.ref (pre.length + 1)), some (.ref q)], τ.heap⟩ = .ok true ⟨[some (.ref (pre.length + 1)), some (.ref q)], τ.heap⟩ := by
    show (ai 1 _).bind bT = _
    rw [aI (v := .ref q) rfl, zZ.bind_ok, f0 (σ := ⟨[some (.ref (pre.length + 1)), some (.ref q)], τ.heap⟩) r3 (by lia)]
    cases xs with
    | nil => exact absurd rfl r4
    | cons => rfl
   refine (d9 t).trans ?_
   rw [if_pos rfl]
   unfold cJ
   rw [show aj (aa (V.str "nodes are in a cycle")) (aj (ai 1) (aa [])) ⟨[some (.ref (pre.length + 1)), some (.ref q)], τ.heap⟩ = .ok [.str "nodes are in a cycle", .ref q] ⟨[some (.ref (pre.length + 1)), some (.ref q)], τ.heap⟩ from rfl, zZ.bind_ok]
   rw [if_pos (by show 2 ≤ 16777216; decide)]
  refine ⟨[.str "nodes are in a cycle", .ref q], ⟨[some (.ref (pre.length + 1)), some (.ref q)], τ.heap⟩, H.length + 1, ?_, S3, hR3, by lia, hsc⟩
  refine tX (b7 := H) (L := [some (.ref (pre.length + 1)), none]) rfl rfl ?_
  exact (aG c1).trans ((aG c3).trans ((aG c4).trans c5))
 ·obtain ⟨τ, r1, r2⟩ := f2 sn' h
  obtain ⟨X, eτ⟩ := qO r2
  have S3 := S2.app X
  have hR3 := aE (X := X) hR2
  rw [← eτ] at S3 hR3
  have c4 : an (cU (bO 269 "_find_cycle") (bJ iT) (ai 0) (aa [])) (ao 1) ⟨[some (.ref (pre.length + 1)), none], (H ++ (O.dvals (pre.length + 2) :: O.list (aP (ord.filter fun k => decide (np k = 0))) :: [])).set pre.length (.idict (eD pre.length (.ref (H.length + 1)) po fi))⟩ = .ok .next ⟨[some (.ref (pre.length + 1)), some .none], τ.heap⟩ := by
   refine bx (i := 1) (ae := ⟨[some (.ref (pre.length + 1)), none], τ.heap⟩) ?_
   rw [d0 (v := .ref (pre.length + 1)) (vs := []) (ma := aa []) (aI rfl) (S2.own (by kernel_rfl)) rfl]
   exact cm (m := iT) r1
  refine ⟨⟨[some (.ref (pre.length + 1)), some .none], τ.heap⟩, H.length + 1, ?_, S3, hR3, by lia, hsc⟩
  refine fS (b7 := H) (L := [some (.ref (pre.length + 1)), none]) rfl rfl ?_
  exact (aG c1).trans ((aG c3).trans ((aG c4).trans rfl))
theorem xK {R : Nat} {r : List Nat} (S : zV pre ord nd sc np su (.ref R) po po H) (hR : H[R]? = some (.list (aP r))) (hl : r.length ≤ 100) : ∃ L, pd [.ref (pre.length + 1)] H = .ok (.bool (!r.isEmpty)) ⟨L, H⟩ := by
 refine ⟨[some (.ref (pre.length + 1))], du (b7 := H) (L := [some (.ref (pre.length + 1))]) rfl rfl ?_⟩
 have q := (bz (g := getD 269 "_ready_nodes") (aI (i := 0) (L := [some (.ref (pre.length + 1))]) (H := H) rfl)).trans (S.grd rfl _)
 have c1 : zE (aB (aW CmpOp.Is (ba (getD 269 "_ready_nodes") (ai 0)) (aa V.none))) dU (aa F.next) ⟨[some (.ref (pre.length + 1))], H⟩ = .ok .next ⟨[some (.ref (pre.length + 1))], H⟩ :=
  (d9 (bM ((bq q (mr := aa .none) rfl).trans (jk _ _)))).trans rfl
 refine (aG c1).trans (eK ?_)
 have q1 := (bz (g := getD 269 "_nfinished") (aI (i := 0) (L := [some (.ref (pre.length + 1))]) (H := H) rfl)).trans (S.gfi _)
 have q2 := (bz (g := getD 269 "_npassedout") (aI (i := 0) (L := [some (.ref (pre.length + 1))]) (H := H) rfl)).trans (S.gpo _)
 have q3 : aW CmpOp.Lt (ba (getD 269 "_nfinished") (ai 0)) (ba (getD 269 "_npassedout") (ai 0)) ⟨[some (.ref (pre.length + 1))], H⟩ = .ok (.bool false) ⟨[some (.ref (pre.length + 1))], H⟩ := by
  refine (bq q1 q2).trans ?_
  rw [lt_int, decide_eq_false (by lia)]
 unfold orV
 rw [q3, zZ.bind_ok]
 rw [show bT (.bool false) ⟨[some (.ref (pre.length + 1))], H⟩ = .ok false ⟨[some (.ref (pre.length + 1))], H⟩ from rfl, zZ.bind_ok, if_neg (by decide)]
 rw [bW (aX q (ms := aa []) rfl)]
 unfold wB
 rw [w8, iV hR, if_pos (by unfold aP; rw [List.length_map]; lia)]
 unfold aP
 cases r <;> rfl
end
noncomputable def gK (np : Nat → Int) (ks : List Nat) (z : Int) : Nat → Int := fun k => if k ∈ ks then z else np k
theorem kM (np : Nat → Int) (k : Nat) (ks : List Nat) (z : Int) : gK (upd np k z) ks z = gK np (k :: ks) z := by
 funext x
 unfold gK upd
 by_cases h : x ∈ ks
 ·rw [if_pos h, if_pos (List.mem_cons_of_mem _ h)]
 ·rw [if_neg h]
  by_cases e : x = k
  ·rw [if_pos e, if_pos (by simp [e])]
  ·rw [if_neg e, if_neg (by simp [e, h])]
theorem nE (np : Nat → Int) (z : Int) : gK np [] z = np := by funext x; unfold gK; rw [if_neg (by simp)]
section
variable {pre : List O} {ord : List Nat} {nd sc : Nat → Nat} {su : Nat → List Nat}
noncomputable abbrev zl : St → zZ F := (an (aa (V.int (-1))) (cD (fE 172 1) (bp br (ai 2) (ai 3))))
theorem wi {R : Nat} {po fi : Int} {t : Nat} {ks0 : List Nat} : ∀ (ks : List Nat) (np : Nat → Int) (H : List O) (v3 : Option V), zV pre ord nd sc np su (.ref R) po fi H → (∀ k ∈ ks, k ∈ ord) → H[t]? = some (.tup (aP ks0)) → t ≠ R →
  ∃ H' w3, gu (ao 3) zl (aa F.next) (some (t, .tup (aP ks0))) (aP ks) ⟨[some (.ref (pre.length + 1)), some (.ref t), some (.ref (pre.length + 2)), v3], H⟩ = .ok .next ⟨[some (.ref (pre.length + 1)), some (.ref t), some (.ref (pre.length + 2)), w3], H'⟩ ∧ zV pre ord nd sc (gK np ks (-1)) su (.ref R) po fi H' ∧ ∀ Q, gE Q H H' := by
 intro ks
 induction ks with
 | nil =>
  intro np H v3 S hk ht htR
  exact ⟨H, v3, fB (bC ht), by rw [nE]; exact S, fun Q => .refl Q H⟩
 | cons k ks ih =>
  intro np H v3 S hk ht htR
  have ho := hk k (List.mem_cons_self ..)
  obtain ⟨H1, s1, S1, K1⟩ := S.s1k ho (-1) [some (.ref (pre.length + 1)), some (.ref t), some (.ref (pre.length + 2)), some (.int k)]
  have hb : zl ⟨[some (.ref (pre.length + 1)), some (.ref t), some (.ref (pre.length + 2)), some (.int k)], H⟩ = .ok .next ⟨[some (.ref (pre.length + 1)), some (.ref t), some (.ref (pre.length + 2)), some (.int k)], H1⟩ := by
   refine bX (v := .int (-1)) (ae := ⟨[some (.ref (pre.length + 1)), some (.ref t), some (.ref (pre.length + 2)), some (.int k)], H⟩) rfl ?_
   unfold cD
   rw [bq (aI (v := .ref (pre.length + 2)) rfl) (aI (v := .int k) rfl), S.dsub ho, zZ.bind_ok]
   exact s1
  obtain ⟨H2, w3, r, S2, K2⟩ := ih (upd np k (-1)) H1 (some (.int k)) S1 (fun z hz => hk z (List.mem_cons_of_mem _ hz)) ((K1 R t htR).2 _ ht) htR
  refine ⟨H2, w3, ?_, by rw [kM] at S2; exact S2, fun Q => (K1 Q).trans (K2 Q)⟩
  show gu _ _ _ _ (.int k :: aP ks) _ = _
  rw [ee (ae := ⟨[some (.ref (pre.length + 1)), some (.ref t), some (.ref (pre.length + 2)), some (.int k)], H⟩) (bC ht) rfl (.inl hb)]
  exact r
theorem xL {R : Nat} {po fi : Int} {r : List Nat} {np : Nat → Int} {H : List O} (S : zV pre ord nd sc np su (.ref R) po fi H) (hR : H[R]? = some (.list (aP r))) (hl : r.length ≤ 100) (hr : ∀ k ∈ r, k ∈ ord) (hn : pre.length ≤ R) (hsc : ∀ k ∈ ord, sc k ≠ R) :
  ∃ τ t, mC [.ref (pre.length + 1)] H = .ok (.ref t) τ ∧ zV pre ord nd sc (gK np r (-1)) su (.ref R) (po + r.length) fi τ.heap ∧ τ.heap[t]? = some (.tup (aP r)) ∧ τ.heap[R]? = some (.list []) ∧ gE R H τ.heap := by
 have htR : H.length ≠ R := by have := cC hR; lia
 have q := (bz (g := getD 269 "_ready_nodes") (aI (i := 0) (L := [some (.ref (pre.length + 1)), none, none, none]) (H := H) rfl)).trans (S.grd rfl _)
 have c1 : zE (aB (aW CmpOp.Is (ba (getD 269 "_ready_nodes") (ai 0)) (aa V.none))) dU (aa F.next) ⟨[some (.ref (pre.length + 1)), none, none, none], H⟩ = .ok .next ⟨[some (.ref (pre.length + 1)), none, none, none], H⟩ :=
  (d9 (bM ((bq q (mr := aa .none) rfl).trans (jk _ _)))).trans rfl
 have hnl : (aP r).length = r.length := by unfold aP; rw [List.length_map]
 have c2 : an (aC (aj (ba (getD 269 "_ready_nodes") (ai 0)) (aa [])) nj) (ao 1) ⟨[some (.ref (pre.length + 1)), none, none, none], H⟩ = .ok .next ⟨[some (.ref (pre.length + 1)), some (.ref H.length), none, none], H ++ [.tup (aP r)]⟩ := by
  refine bx (i := 1) (v := .ref H.length) (ae := ⟨[some (.ref (pre.length + 1)), none, none, none], H ++ [.tup (aP r)]⟩) ?_
  rw [bW (aX q (ms := aa []) rfl)]
  unfold nj
  rw [w8, iV hR, if_pos (by rw [hnl]; show r.length ≤ 16777216; lia)]
 have S1 := S.app [.tup (aP r)]
 have c3 : an (ba (getD 269 "_node2info") (ai 0)) (ao 2) ⟨[some (.ref (pre.length + 1)), some (.ref H.length), none, none], H ++ [.tup (aP r)]⟩ = .ok .next ⟨[some (.ref (pre.length + 1)), some (.ref H.length), some (.ref (pre.length + 2)), none], H ++ [.tup (aP r)]⟩ :=
  bx ((bz (aI rfl)).trans (S1.n2i _))
 have ht : (H ++ [O.tup (aP r)])[H.length]? = some (.tup (aP r)) := iW ..
 obtain ⟨H2, w3, l1, S2, K2⟩ := wi (t := H.length) (ks0 := r) r np (H ++ [.tup (aP r)]) none S1 hr ht htR
 have c4 : hO (ai 1) (ao 3) zl (aa F.next) ⟨[some (.ref (pre.length + 1)), some (.ref H.length), some (.ref (pre.length + 2)), none], H ++ [.tup (aP r)]⟩ = .ok .next ⟨[some (.ref (pre.length + 1)), some (.ref H.length), some (.ref (pre.length + 2)), w3], H2⟩ := by
  unfold hO
  rw [aI (v := .ref H.length) rfl, zZ.bind_ok]
  have hi : bY (.ref H.length) (H ++ [O.tup (aP r)]) = some (aP r, some (H.length, .tup (aP r))) := by
   exact ck ht
  simp only [hi]
  exact l1
 have hR2 := (K2 (R + 1) R (by lia)).1 _ (aE (X := [O.tup (aP r)]) hR)
 have ht2 := (K2 R H.length htR).2 _ ht
 have q2 := (bz (g := getD 269 "_ready_nodes") (aI (i := 0) (L := [some (.ref (pre.length + 1)), some (.ref H.length), some (.ref (pre.length + 2)), w3]) (H := H2) rfl)).trans (S2.grd rfl _)
 have c5 : bE (a7 aO n8 (ba (getD 269 "_ready_nodes") (ai 0)) (aa [])) ⟨[some (.ref (pre.length + 1)), some (.ref H.length), some (.ref (pre.length + 2)), w3], H2⟩ = .ok .next ⟨[some (.ref (pre.length + 1)), some (.ref H.length), some (.ref (pre.length + 2)), w3], H2.set R (.list [])⟩ := by
  refine cZ (v := .none) ?_
  rw [cM q2 (cB hR2) (ma := aa []) (vs := []) (aq := ⟨[some (.ref (pre.length + 1)), some (.ref H.length), some (.ref (pre.length + 2)), w3], H2⟩) rfl]
  unfold n8
  rw [yY, iV hR2, if_pos (by rw [hnl]; show r.length ≤ 16777216; lia)]
 have S3 := S2.setList hR2 hn hsc (.list [])
 have K3 : gE R H2 (H2.set R (.list [])) := .set R _
 have S4 := S3.setFl (.ref R) (po + r.length) fi
 have K4 : gE (R + 1) (H2.set R (.list [])) ((H2.set R (.list [])).set pre.length (.idict (eD pre.length (.ref R) (po + r.length) fi))) := .fl S3.fl _ _
 have K4' : gE R (H2.set R (.list [])) ((H2.set R (.list [])).set pre.length (.idict (eD pre.length (.ref R) (po + r.length) fi))) := .fl S3.fl _ _
 have c6 : pv Operator.Add (getD 269 "_npassedout") (iR 269 "_npassedout") (ai 0) (aC (aj (ai 1) (aa [])) iU) ⟨[some (.ref (pre.length + 1)), some (.ref H.length), some (.ref (pre.length + 2)), w3], H2.set R (.list [])⟩ = .ok .next ⟨[some (.ref (pre.length + 1)), some (.ref H.length), some (.ref (pre.length + 2)), w3], (H2.set R (.list [])).set pre.length (.idict (eD pre.length (.ref R) (po + r.length) fi))⟩ := by
  refine om (aI (v := .ref (pre.length + 1)) rfl) (S3.gpo _) ((bW (aX (aI (i := 1) (v := .ref H.length) rfl) (ms := aa []) rfl)).trans ?_) (b := .int (r.length : Nat)) (c := .int (po + r.length)) rfl (S3.spo _ _)
  rw [qX ((K3 H.length htR).2 _ ht2), hnl, if_pos (by lia)]
 refine ⟨⟨[some (.ref (pre.length + 1)), some (.ref H.length), some (.ref (pre.length + 2)), w3], (H2.set R (.list [])).set pre.length (.idict (eD pre.length (.ref R) (po + r.length) fi))⟩, H.length, ?_, S4, (K4' H.length htR).2 _ ((K3 H.length htR).2 _ ht2), (K4 R (by lia)).1 _ (fQ hR2), (((gE.app R H _).trans (K2 R)).trans K3).trans K4'⟩
 refine du (b7 := H) (L := [some (.ref (pre.length + 1)), none, none, none]) rfl rfl ?_
 exact (aG c1).trans ((aG c2).trans ((aG c3).trans ((aG c4).trans ((aG c5).trans ((aG c6).trans (eK rfl))))))
end
noncomputable def lB (su : Nat → List Nat) : (Nat → Int) → List Nat → Nat → Int
 | np, [] => np
 | np, k :: ks => lB su (gK (upd np k (-2)) (su k) 0) ks
section
variable {pre : List O} {ord : List Nat} {nd sc : Nat → Nat} {su : Nat → List Nat}
noncomputable abbrev y4 : St → zZ F := (aM (an (bp br (ai 2) (ai 6)) (ao 7)) (aM (pv Operator.Sub (eM 172 1) (fE 172 1) (ai 7) (aa (V.int 1))) (zE (aB (aW CmpOp.Eq (ba (eM 172 1) (ai 7)) (aa (V.int 0)))) (bE (a7 aO bk (ba (getD 269 "_ready_nodes") (ai 0)) (aj (ai 6) (aa [])))) (aa F.next))))
theorem tw (a b : List Nat) : aP (a ++ b) = aP a ++ aP b := by unfold aP; rw [List.map_append]
theorem eW (a : List Nat) : (aP a).length = a.length := by unfold aP; rw [List.length_map]
theorem sK {R : Nat} {po fi : Int} {v1 v3 v4 v5 v7 : Option V} {y : Nat} {rr : List Nat} {np : Nat → Int} {H : List O} (S : zV pre ord nd sc np su (.ref R) po fi H) (hy : y ∈ ord) (h1 : np y = 1) (hR : H[R]? = some (.list (aP rr))) (hl : rr.length ≤ 100) (hn : pre.length ≤ R) (hsc : ∀ k ∈ ord, sc k ≠ R) :
  ∃ H' w7, y4 ⟨[some (.ref (pre.length + 1)), v1, some (.ref (pre.length + 2)), v3, v4, v5, some (.int y), v7], H⟩ = .ok .next ⟨[some (.ref (pre.length + 1)), v1, some (.ref (pre.length + 2)), v3, v4, v5, some (.int y), w7], H'⟩ ∧ zV pre ord nd sc (upd np y 0) su (.ref R) po fi H' ∧ H'[R]? = some (.list (aP (rr ++ [y]))) ∧ gE R H H' := by
 obtain ⟨H1, s1, S1, K1⟩ := S.s1k hy 0 [some (.ref (pre.length + 1)), v1, some (.ref (pre.length + 2)), v3, v4, v5, some (.int y), some (.ref (nd y))]
 have hR1 := (K1 (R + 1) R (by lia)).1 _ hR
 have a1 : an (bp br (ai 2) (ai 6)) (ao 7) ⟨[some (.ref (pre.length + 1)), v1, some (.ref (pre.length + 2)), v3, v4, v5, some (.int y), v7], H⟩ = .ok .next ⟨[some (.ref (pre.length + 1)), v1, some (.ref (pre.length + 2)), v3, v4, v5, some (.int y), some (.ref (nd y))], H⟩ :=
  bx ((bq (aI (v := .ref (pre.length + 2)) rfl) (aI (v := .int y) rfl)).trans (S.dsub hy _))
 have g1 := S.g1 hy [some (.ref (pre.length + 1)), v1, some (.ref (pre.length + 2)), v3, v4, v5, some (.int y), some (.ref (nd y))]
 rw [h1] at g1
 have a2 : pv Operator.Sub (eM 172 1) (fE 172 1) (ai 7) (aa (V.int 1)) ⟨[some (.ref (pre.length + 1)), v1, some (.ref (pre.length + 2)), v3, v4, v5, some (.int y), some (.ref (nd y))], H⟩ = .ok .next ⟨[some (.ref (pre.length + 1)), v1, some (.ref (pre.length + 2)), v3, v4, v5, some (.int y), some (.ref (nd y))], H1⟩ :=
  om (aI (v := .ref (nd y)) rfl) g1 (m := aa (V.int 1)) (b := .int 1) rfl (c := .int 0) rfl s1
 have g2 := S1.g1 hy [some (.ref (pre.length + 1)), v1, some (.ref (pre.length + 2)), v3, v4, v5, some (.int y), some (.ref (nd y))]
 rw [eE] at g2
 have q := (bz (g := getD 269 "_ready_nodes") (aI (i := 0) (L := [some (.ref (pre.length + 1)), v1, some (.ref (pre.length + 2)), v3, v4, v5, some (.int y), some (.ref (nd y))]) (H := H1) rfl)).trans (S1.grd rfl _)
 have a3 : zE (aB (aW CmpOp.Eq (ba (eM 172 1) (ai 7)) (aa (V.int 0)))) (bE (a7 aO bk (ba (getD 269 "_ready_nodes") (ai 0)) (aj (ai 6) (aa [])))) (aa F.next) ⟨[some (.ref (pre.length + 1)), v1, some (.ref (pre.length + 2)), v3, v4, v5, some (.int y), some (.ref (nd y))], H1⟩ = .ok .next ⟨[some (.ref (pre.length + 1)), v1, some (.ref (pre.length + 2)), v3, v4, v5, some (.int y), some (.ref (nd y))], H1.set R (.list (aP rr ++ [.int y]))⟩ := by
  refine (d9 (c := true) (bM ((bq ((bz (aI (v := .ref (nd y)) rfl)).trans g2) (mr := aa (V.int 0)) rfl).trans rfl))).trans ?_
  rw [if_pos rfl]
  refine cZ (v := .none) ?_
  rw [cM q (cB hR1) (aX (aI (v := .int y) rfl) (ms := aa []) rfl)]
  exact dT hR1 (by rw [eW]; lia)
 have e : aP rr ++ [V.int y] = aP (rr ++ [y]) := by rw [tw]; rfl
 refine ⟨H1.set R (.list (aP rr ++ [.int y])), _, (aG a1).trans ((aG a2).trans a3), S1.setList hR1 hn hsc _, by rw [fQ hR1, e], (K1 R).trans (.set R _)⟩
theorem tG {R : Nat} {po fi : Int} {v1 v3 v4 v5 : Option V} {k : Nat} (hk : k ∈ ord) (hn : pre.length ≤ R) (hsc : ∀ k ∈ ord, sc k ≠ R) : ∀ (ys rr : List Nat) (np : Nat → Int) (H : List O) (v6 v7 : Option V), zV pre ord nd sc np su (.ref R) po fi H → (∀ y ∈ ys, y ∈ ord ∧ np y = 1) → ys.Nodup → H[R]? = some (.list (aP rr)) → rr.length + ys.length ≤ 100 →
  ∃ H' w6 w7, gu (ao 6) y4 (aa F.next) (some (sc k, .list (aP (su k)))) (aP ys) ⟨[some (.ref (pre.length + 1)), v1, some (.ref (pre.length + 2)), v3, v4, v5, v6, v7], H⟩ = .ok .next ⟨[some (.ref (pre.length + 1)), v1, some (.ref (pre.length + 2)), v3, v4, v5, w6, w7], H'⟩ ∧ zV pre ord nd sc (gK np ys 0) su (.ref R) po fi H' ∧ H'[R]? = some (.list (aP (rr ++ ys))) ∧ gE R H H' := by
 intro ys
 induction ys with
 | nil =>
  intro rr np H v6 v7 S hy hd hR hl
  exact ⟨H, v6, v7, fB (bC (S.sx k hk).1), by rw [nE]; exact S, by rw [List.append_nil]; exact hR, .refl R H⟩
 | cons y ys ih =>
  intro rr np H v6 v7 S hy hd hR hl
  have hyo := hy y (List.mem_cons_self ..)
  simp only [List.length_cons] at hl
  obtain ⟨H1, w7, r1, S1, hR1, K1⟩ := sK (v1 := v1) (v3 := v3) (v4 := v4) (v5 := v5) (v7 := v7) S hyo.1 hyo.2 hR (by lia) hn hsc
  have hd' := List.nodup_cons.mp hd
  obtain ⟨H2, w6, w7', r2, S2, hR2, K2⟩ := ih (rr ++ [y]) (upd np y 0) H1 (some (.int y)) w7 S1 (fun z hz => by
   have := hy z (List.mem_cons_of_mem _ hz)
   refine ⟨this.1, ?_⟩
   have hne : z ≠ y := fun e => hd'.1 (e ▸ hz)
   rw [c9 _ _ hne]; exact this.2) hd'.2 hR1 (by simp only [List.length_append, List.length_cons, List.length_nil]; lia)
  refine ⟨H2, w6, w7', ?_, by rw [kM] at S2; exact S2, by rw [hR2, List.append_assoc]; rfl, K1.trans K2⟩
  show gu _ _ _ _ (.int y :: aP ys) _ = _
  rw [ee (ae := ⟨[some (.ref (pre.length + 1)), v1, some (.ref (pre.length + 2)), v3, v4, v5, some (.int y), v7], H⟩) (bC (S.sx k hk).1) rfl (.inl r1)]
  exact r2
noncomputable abbrev zk : St → zZ F := (aM (zE (aB (aW CmpOp.Is (fun σ => (a7 bP gy (ai 2) (aj (ai 3) (aa [])) σ).bind fun v ae => (ao 4 v ae).bind fun x aq => zZ.ok v aq) (aa V.none))) dU (aa F.next)) (aM (an (ba (eM 172 1) (ai 4)) (ao 5)) (aM (zE (aB (aW CmpOp.NotEq (ai 5) (aa (V.int (-1))))) (zE (aB (aW CmpOp.GtE (ai 5) (aa (V.int 0)))) dU (zE (aB (aW CmpOp.Eq (ai 5) (aa (V.int (-2))))) dU dU)) (aa F.next)) (aM (an (aa (V.int (-2))) (cD (fE 172 1) (ai 4))) (aM (hO (ba (eM 172 2) (ai 4)) (ao 6) y4 (aa F.next)) (pv Operator.Add (getD 269 "_nfinished") (iR 269 "_nfinished") (ai 0) (aa (V.int 1))))))))
theorem sQ {R : Nat} {po fi : Int} {t k : Nat} {v4 v5 v6 v7 : Option V} {rr : List Nat} {np : Nat → Int} {H : List O} (S : zV pre ord nd sc np su (.ref R) po fi H) (hk : k ∈ ord) (h1 : np k = -1) (hs : ∀ y ∈ su k, y ∈ ord ∧ np y = 1) (hd : (su k).Nodup) (hR : H[R]? = some (.list (aP rr))) (hl : rr.length + (su k).length ≤ 100) (hn : pre.length ≤ R) (hsc : ∀ k ∈ ord, sc k ≠ R) :
  ∃ H' w6 w7, zk ⟨[some (.ref (pre.length + 1)), some (.ref t), some (.ref (pre.length + 2)), some (.int k), v4, v5, v6, v7], H⟩ = .ok .next ⟨[some (.ref (pre.length + 1)), some (.ref t), some (.ref (pre.length + 2)), some (.int k), some (.ref (nd k)), some (.int (-1)), w6, w7], H'⟩ ∧ zV pre ord nd sc (gK (upd np k (-2)) (su k) 0) su (.ref R) po (fi + 1) H' ∧ H'[R]? = some (.list (aP (rr ++ su k))) ∧ gE R H H' := by
 have q : (fun σ => (a7 bP gy (ai 2) (aj (ai 3) (aa [])) σ).bind fun v ae => (ao 4 v ae).bind fun x aq => zZ.ok v aq : St → zZ V) ⟨[some (.ref (pre.length + 1)), some (.ref t), some (.ref (pre.length + 2)), some (.int k), v4, v5, v6, v7], H⟩ = .ok (.ref (nd k)) ⟨[some (.ref (pre.length + 1)), some (.ref t), some (.ref (pre.length + 2)), some (.int k), some (.ref (nd k)), v5, v6, v7], H⟩ := by
  show (a7 bP gy (ai 2) (aj (ai 3) (aa [])) ⟨_, _⟩).bind _ = _
  rw [cM (aI (v := .ref (pre.length + 2)) rfl) S.isD (aX (aI (v := .int k) rfl) (ms := aa []) rfl), S.dget, if_pos hk, zZ.bind_ok]
  rfl
 have b1 : zE (aB (aW CmpOp.Is (fun σ => (a7 bP gy (ai 2) (aj (ai 3) (aa [])) σ).bind fun v ae => (ao 4 v ae).bind fun x aq => zZ.ok v aq) (aa V.none))) dU (aa F.next) ⟨[some (.ref (pre.length + 1)), some (.ref t), some (.ref (pre.length + 2)), some (.int k), v4, v5, v6, v7], H⟩ = .ok .next ⟨[some (.ref (pre.length + 1)), some (.ref t), some (.ref (pre.length + 2)), some (.int k), some (.ref (nd k)), v5, v6, v7], H⟩ :=
  (d9 (bM ((bq q (mr := aa .none) rfl).trans (jk _ _)))).trans rfl
 have g1 := S.g1 hk [some (.ref (pre.length + 1)), some (.ref t), some (.ref (pre.length + 2)), some (.int k), some (.ref (nd k)), v5, v6, v7]
 rw [h1] at g1
 have b2 : an (ba (eM 172 1) (ai 4)) (ao 5) ⟨[some (.ref (pre.length + 1)), some (.ref t), some (.ref (pre.length + 2)), some (.int k), some (.ref (nd k)), v5, v6, v7], H⟩ = .ok .next ⟨[some (.ref (pre.length + 1)), some (.ref t), some (.ref (pre.length + 2)), some (.int k), some (.ref (nd k)), some (.int (-1)), v6, v7], H⟩ :=
  bx ((bz (aI (v := .ref (nd k)) rfl)).trans g1)
 have b3 : ∀ (x : St → zZ F) , zE (aB (aW CmpOp.NotEq (ai 5) (aa (V.int (-1))))) x (aa F.next) ⟨[some (.ref (pre.length + 1)), some (.ref t), some (.ref (pre.length + 2)), some (.int k), some (.ref (nd k)), some (.int (-1)), v6, v7], H⟩ = .ok .next ⟨[some (.ref (pre.length + 1)), some (.ref t), some (.ref (pre.length + 2)), some (.int k), some (.ref (nd k)), some (.int (-1)), v6, v7], H⟩ := fun x =>
  (d9 (c := false) (bM ((bq (aI (v := .int (-1)) rfl) (mr := aa (V.int (-1))) rfl).trans rfl))).trans rfl
 obtain ⟨H1, s1, S1, K1⟩ := S.s1k hk (-2) [some (.ref (pre.length + 1)), some (.ref t), some (.ref (pre.length + 2)), some (.int k), some (.ref (nd k)), some (.int (-1)), v6, v7]
 have b4 : an (aa (V.int (-2))) (cD (fE 172 1) (ai 4)) ⟨[some (.ref (pre.length + 1)), some (.ref t), some (.ref (pre.length + 2)), some (.int k), some (.ref (nd k)), some (.int (-1)), v6, v7], H⟩ = .ok .next ⟨[some (.ref (pre.length + 1)), some (.ref t), some (.ref (pre.length + 2)), some (.int k), some (.ref (nd k)), some (.int (-1)), v6, v7], H1⟩ :=
  bX (m := aa (V.int (-2))) rfl s1
 have hR1 := (K1 (R + 1) R (by lia)).1 _ hR
 obtain ⟨H2, w6, w7, l1, S2, hR2, K2⟩ := tG (v1 := some (.ref t)) (v3 := some (.int k)) (v4 := some (.ref (nd k))) (v5 := some (.int (-1))) hk hn hsc (su k) rr (upd np k (-2)) H1 v6 v7 S1 (fun y hy => by
  refine ⟨(hs y hy).1, ?_⟩
  have hne : y ≠ k := fun e => by
   have := (hs y hy).2
   rw [e, h1] at this; lia
  rw [c9 _ _ hne]; exact (hs y hy).2) hd hR1 hl
 have b5 : hO (ba (eM 172 2) (ai 4)) (ao 6) y4 (aa F.next) ⟨[some (.ref (pre.length + 1)), some (.ref t), some (.ref (pre.length + 2)), some (.int k), some (.ref (nd k)), some (.int (-1)), v6, v7], H1⟩ = .ok .next ⟨[some (.ref (pre.length + 1)), some (.ref t), some (.ref (pre.length + 2)), some (.int k), some (.ref (nd k)), some (.int (-1)), w6, w7], H2⟩ := by
  unfold hO
  rw [bz (aI (v := .ref (nd k)) rfl), S1.g2 hk, zZ.bind_ok]
  have hi : bY (.ref (sc k)) H1 = some (aP (su k), some (sc k, .list (aP (su k)))) := by
   exact ck (S1.sx k hk).1
  simp only [hi]
  exact l1
 have S3 := S2.setFl (.ref R) po (fi + 1)
 have b6 : pv Operator.Add (getD 269 "_nfinished") (iR 269 "_nfinished") (ai 0) (aa (V.int 1)) ⟨[some (.ref (pre.length + 1)), some (.ref t), some (.ref (pre.length + 2)), some (.int k), some (.ref (nd k)), some (.int (-1)), w6, w7], H2⟩ = .ok .next ⟨[some (.ref (pre.length + 1)), some (.ref t), some (.ref (pre.length + 2)), some (.int k), some (.ref (nd k)), some (.int (-1)), w6, w7], H2.set pre.length (.idict (eD pre.length (.ref R) po (fi + 1)))⟩ :=
  om (aI (v := .ref (pre.length + 1)) rfl) (S2.gfi _) (m := aa (V.int 1)) (b := .int 1) rfl (c := .int (fi + 1)) rfl (S2.sfi _ _)
 refine ⟨_, w6, w7, (aG b1).trans ((aG b2).trans ((aG (b3 _)).trans ((aG b4).trans ((aG b5).trans b6)))), S3, (gE.fl S2.fl (R + 1) _ R (by lia)).1 _ hR2, ((K1 R).trans K2).trans (.fl S2.fl R _)⟩
theorem tH {R : Nat} {po : Int} {t : Nat} {ks0 : List Nat} (hn : pre.length ≤ R) (hsc : ∀ k ∈ ord, sc k ≠ R) (htR : t ≠ R) (hun : ∀ x x' y, y ∈ su x → y ∈ su x' → x = x') (hsd : ∀ x, (su x).Nodup) : ∀ (ks rr : List Nat) (np : Nat → Int) (fi : Int) (H : List O) (v3 v4 v5 v6 v7 : Option V), zV pre ord nd sc np su (.ref R) po fi H → (∀ k ∈ ks, k ∈ ord ∧ np k = -1) → ks.Nodup → (∀ k ∈ ks, ∀ y ∈ su k, y ∈ ord ∧ np y = 1) → H[t]? = some (.tup (aP ks0)) → H[R]? = some (.list (aP rr)) → rr.length + (ks.flatMap su).length ≤ 100 →
  ∃ H' L', gu (ao 3) zk (aa F.next) (some (t, .tup (aP ks0))) (aP ks) ⟨[some (.ref (pre.length + 1)), some (.ref t), some (.ref (pre.length + 2)), v3, v4, v5, v6, v7], H⟩ = .ok .next ⟨L', H'⟩ ∧ zV pre ord nd sc (lB su np ks) su (.ref R) po (fi + ks.length) H' ∧ H'[R]? = some (.list (aP (rr ++ ks.flatMap su))) ∧ gE R H H' := by
 intro ks
 induction ks with
 | nil =>
  intro rr np fi H v3 v4 v5 v6 v7 S hk hd hs ht hR hl
  exact ⟨H, _, fB (bC ht), by simpa [lB] using S, by simpa using hR, .refl R H⟩
 | cons k ks ih =>
  intro rr np fi H v3 v4 v5 v6 v7 S hk hd hs ht hR hl
  have hko := hk k (List.mem_cons_self ..)
  have hd' := List.nodup_cons.mp hd
  rw [List.flatMap_cons, List.length_append] at hl
  obtain ⟨H1, w6, w7, r1, S1, hR1, K1⟩ := sQ (t := t) (v4 := v4) (v5 := v5) (v6 := v6) (v7 := v7) S hko.1 hko.2 (hs k (List.mem_cons_self ..)) (hsd k) hR (by lia) hn hsc
  have ht1 := (K1 t htR).2 _ ht
  have hnp : ∀ z, z ≠ k → z ∉ su k → gK (upd np k (-2)) (su k) 0 z = np z := fun z h1 h2 => by
   unfold gK
   rw [if_neg h2, c9 _ _ h1]
  obtain ⟨H2, L', r2, S2, hR2, K2⟩ := ih (rr ++ su k) (gK (upd np k (-2)) (su k) 0) (fi + 1) H1 (some (.int k)) (some (.ref (nd k))) (some (.int (-1))) w6 w7 S1 (fun z hz => by
    have hz' := hk z (List.mem_cons_of_mem _ hz)
    refine ⟨hz'.1, ?_⟩
    rw [hnp z (fun e => hd'.1 (e ▸ hz)) (fun q => by
     have := (hs k (List.mem_cons_self ..) z q).2
     rw [hz'.2] at this; lia)]
    exact hz'.2) hd'.2 (fun z hz y hy => by
    have hy' := hs z (List.mem_cons_of_mem _ hz) y hy
    refine ⟨hy'.1, ?_⟩
    rw [hnp y (fun e => by rw [e, hko.2] at hy'; lia) (fun q => hd'.1 (hun z k y hy q ▸ hz))]
    exact hy'.2) ht1 hR1 (by rw [List.length_append]; lia)
  refine ⟨H2, L', ?_, ?_, ?_, K1.trans K2⟩
  ·show gu _ _ _ _ (.int k :: aP ks) _ = _
   rw [ee (ae := ⟨[some (.ref (pre.length + 1)), some (.ref t), some (.ref (pre.length + 2)), some (.int k), v4, v5, v6, v7], H⟩) (bC ht) rfl (.inl r1)]
   exact r2
  ·have e : fi + ((k :: ks).length : Nat) = fi + 1 + (ks.length : Nat) := by simp only [List.length_cons]; lia
   rw [e]; exact S2
  ·rw [hR2, List.flatMap_cons, List.append_assoc]
theorem xJ {R : Nat} {po fi : Int} {ks : List Nat} {np : Nat → Int} {H : List O} (S : zV pre ord nd sc np su (.ref R) po fi H) (hn : pre.length ≤ R) (hsc : ∀ k ∈ ord, sc k ≠ R) (hun : ∀ x x' y, y ∈ su x → y ∈ su x' → x = x') (hsd : ∀ x, (su x).Nodup) (hk : ∀ k ∈ ks, k ∈ ord ∧ np k = -1) (hd : ks.Nodup) (hs : ∀ k ∈ ks, ∀ y ∈ su k, y ∈ ord ∧ np y = 1) (hR : H[R]? = some (.list [])) (hl : (ks.flatMap su).length ≤ 100) (hkl : ks.length ≤ 100) :
  ∃ τ, mB (.ref (pre.length + 1) :: aP ks) H = .ok .none τ ∧ zV pre ord nd sc (lB su np ks) su (.ref R) po (fi + ks.length) τ.heap ∧ τ.heap[R]? = some (.list (aP (ks.flatMap su))) ∧ gE R H τ.heap := by
 have S1 := S.app [.tup (aP ks)]
 have hR1 := aE (X := [O.tup (aP ks)]) hR
 have htR : H.length ≠ R := by have := cC hR; lia
 obtain ⟨H2, L', l1, S2, hR2, K2⟩ := tH (t := H.length) (ks0 := ks) hn hsc htR hun hsd ks [] np fi (H ++ [.tup (aP ks)]) none none none none none S1 hk hd hs (iW ..) hR1 (by simpa using hl)
 refine ⟨⟨L', H2⟩, ?_, S2, hR2, (gE.app R H _).trans K2⟩
 have q := (bz (g := getD 269 "_ready_nodes") (aI (i := 0) (L := [some (.ref (pre.length + 1)), some (.ref H.length), none, none, none, none, none, none]) (H := H ++ [.tup (aP ks)]) rfl)).trans (S1.grd rfl _)
 have c1 : zE (aB (aW CmpOp.Is (ba (getD 269 "_ready_nodes") (ai 0)) (aa V.none))) dU (aa F.next) ⟨[some (.ref (pre.length + 1)), some (.ref H.length), none, none, none, none, none, none], H ++ [.tup (aP ks)]⟩ = .ok .next ⟨[some (.ref (pre.length + 1)), some (.ref H.length), none, none, none, none, none, none], H ++ [.tup (aP ks)]⟩ :=
  (d9 (bM ((bq q (mr := aa .none) rfl).trans (jk _ _)))).trans rfl
 have c2 : an (ba (getD 269 "_node2info") (ai 0)) (ao 2) ⟨[some (.ref (pre.length + 1)), some (.ref H.length), none, none, none, none, none, none], H ++ [.tup (aP ks)]⟩ = .ok .next ⟨[some (.ref (pre.length + 1)), some (.ref H.length), some (.ref (pre.length + 2)), none, none, none, none, none], H ++ [.tup (aP ks)]⟩ :=
  bx ((bz (aI rfl)).trans (S1.n2i _))
 have c3 : hO (ai 1) (ao 3) zk (aa F.next) ⟨[some (.ref (pre.length + 1)), some (.ref H.length), some (.ref (pre.length + 2)), none, none, none, none, none], H ++ [.tup (aP ks)]⟩ = .ok .next ⟨L', H2⟩ := by
  unfold hO
  rw [aI (v := .ref H.length) rfl, zZ.bind_ok]
  have hi : bY (.ref H.length) (H ++ [O.tup (aP ks)]) = some (aP ks, some (H.length, .tup (aP ks))) := by
   exact ck (iW ..)
  simp only [hi]
  exact l1
 refine fS (ps := [.ref (pre.length + 1), .ref H.length]) (b7 := H ++ [.tup (aP ks)]) (L := [some (.ref (pre.length + 1)), some (.ref H.length), none, none, none, none, none, none]) ?_ rfl ?_
 ·unfold wC
  rw [if_pos ⟨by simp, by simp only [List.length_cons, eW]; lia⟩]; rfl
 ·exact (aG c1).trans ((aG c2).trans c3)
end
section
variable {par : Nat → Option Nat}
theorem cY {x y : Nat} : y ∈ zn par 6 x ↔ y < 6 ∧ par y = some x := by
 unfold zn
 rw [List.mem_filter, List.mem_range, decide_eq_true_eq]
theorem kj (x : Nat) : (zn par 6 x).Nodup := List.nodup_range.filter _
theorem lV (x x' y : Nat) (h : y ∈ zn par 6 x) (h' : y ∈ zn par 6 x') : x = x' := by
 have := (cY.mp h).2.symm.trans (cY.mp h').2
 cases this; rfl
theorem n4 : ∀ (n k d : Nat), d < n → (zJ par n k = d ↔ zJ par (n + 1) k = d)
 | 0, k, d, h => by lia
 | n + 1, k, d, h => by
  cases q : par k with
  | none => simp only [zJ, q]
  | some p =>
   simp only [zJ, q]
   cases d with
   | zero => constructor <;> intro h <;> lia
   | succ d =>
    have := n4 n p d (by lia)
    simp only [zJ] at this
    lia
theorem uH : ∀ (n k : Nat), zJ par n k ≤ n
 | 0, k => Nat.le_refl _
 | n + 1, k => by
  cases q : par k with
  | none => simp only [zJ, q]; lia
  | some p => have := uH n p; simp only [zJ, q]; lia
theorem ef {k : Nat} : zJ par 7 k = 0 ↔ par k = none := by
 cases q : par k with
 | none => simp [zJ, q]
 | some p => simp [zJ, q]
theorem e8 {k p d : Nat} (h : par k = some p) (hd : d < 6) : zJ par 7 k = d + 1 ↔ zJ par 7 p = d := by
 have e : zJ par 7 k = zJ par 6 p + 1 := by
  show zJ par (6 + 1) k = _
  simp only [zJ, h]
 have := n4 (par := par) 6 p d hd
 rw [e, ← this]; lia
noncomputable def zA (par : Nat → Option Nat) (d : Nat) : List Nat := (List.range 6).filter fun k => decide (zJ par 7 k = d)
theorem gp {d k : Nat} : k ∈ zA par d ↔ k < 6 ∧ zJ par 7 k = d := by
 unfold zA
 rw [List.mem_filter, List.mem_range, decide_eq_true_eq]
theorem ux (hp : ∀ k p, par k = some p → p < 6) {d : Nat} (hd : d < 6) (h : zA par d = []) : zA par (d + 1) = [] := by
 rw [List.eq_nil_iff_forall_not_mem]
 intro k hk
 obtain ⟨h1, h2⟩ := gp.mp hk
 cases q : par k with
 | none => rw [ef.mpr q] at h2; lia
 | some p =>
  have : p ∈ zA par d := gp.mpr ⟨hp _ _ q, (e8 q hd).mp h2⟩
  rw [h] at this; cases this
theorem wl (hp : ∀ k p, par k = some p → p < 6) : zA par 6 = [] := by
 apply Classical.byContradiction
 intro h
 have h0 : ∀ d, d ≤ 6 → zA par d ≠ [] := by
  intro d hd e
  have : ∀ m, d + m ≤ 6 → zA par (d + m) = [] := by
   intro m
   induction m with
   | zero => exact fun _ => e
   | succ m ih => exact fun hm => ux (d := d + m) hp (by lia) (ih (by lia))
  exact h (by have := this (6 - d) (by lia); rwa [show d + (6 - d) = 6 by lia] at this)
 have : (List.range 7).length ≤ ((List.range 6).map (zJ par 7)).length := b9 List.nodup_range fun d hd => by
  obtain ⟨k, hk⟩ := List.exists_mem_of_ne_nil _ (h0 d (by have := List.mem_range.mp hd; lia))
  obtain ⟨h1, h2⟩ := gp.mp hk
  exact List.mem_map.mpr ⟨k, List.mem_range.mpr h1, h2⟩
 rw [List.length_range, List.length_map, List.length_range] at this
 lia
theorem se {r s : List Nat} (hr : r.Nodup) (hs : s.Pairwise (· < ·)) (h : ∀ k, k ∈ r ↔ k ∈ s) : sortI (r.map fun (k : Nat) => (k : Int)) = s.map fun (k : Nat) => (k : Int) := by
 unfold sortI
 refine List.Perm.eq_of_pairwise (le := fun a b => a ≤ b) (fun a b _ _ h1 h2 => Int.le_antisymm h1 h2) ?_ ?_ ?_
 ·have := List.pairwise_mergeSort (le := fun (a b : Int) => decide (a ≤ b)) (fun a b c h1 h2 => by simp at h1 h2 ⊢; lia) (fun a b => by simp; lia) (r.map fun (k : Nat) => (k : Int))
  exact this.imp fun h => by simpa using h
 ·rw [List.pairwise_map]
  exact hs.imp fun h => by lia
 ·refine (List.mergeSort_perm _ _).trans ?_
  have hsn : s.Nodup := hs.imp fun h => by lia
  exact ((List.perm_ext_iff_of_nodup hr hsn).mpr h).map _
theorem qZ (d : Nat) : (zA par d).Pairwise (· < ·) := List.pairwise_lt_range.filter _
theorem pP : ∀ {ord : List Nat} (z : Nat → Nat), ord.Nodup → (∀ x y, z x ≠ 0 → z y ≠ 0 → x = y) → (∀ x, z x ≤ 1) → (ord.map z).sum ≤ 1
 | [], z, _, _, _ => by simp
 | a :: ord, z, hn, h1, h2 => by
  have hn' := List.nodup_cons.mp hn
  simp only [List.map_cons, List.sum_cons]
  by_cases e : z a = 0
  ·have := pP (ord := ord) z hn'.2 h1 h2; lia
  ·have : (ord.map z).sum = 0 := by
    have : ∀ x ∈ ord, z x = 0 := fun x hx => by
     by_cases q : z x = 0
     ·exact q
     ·exact absurd (h1 a x e q ▸ hx) hn'.1
    clear hn hn' h1 h2
    induction ord with
    | nil => rfl
    | cons b ord ih => rw [List.map_cons, List.sum_cons, this b (List.mem_cons_self ..), ih fun x hx => this x (List.mem_cons_of_mem _ hx)]
   have := h2 a; lia
theorem ug {ord : List Nat} (hn : ord.Nodup) : ∀ (ks : List Nat), (ord.map fun x => (ks.filter fun k => decide (par k = some x)).length).sum ≤ ks.length
 | [] => by
  have : ∀ l : List Nat, (l.map fun x => ((([] : List Nat).filter fun k => decide (par k = some x)).length)).sum = 0 := by
   intro l; induction l with
   | nil => rfl
   | cons a l ih => rw [List.map_cons, List.sum_cons, ih]; rfl
  rw [this]; exact Nat.zero_le _
 | k :: ks => by
  have ih := ug hn ks
  have h1 := pP (ord := ord) (fun x => if par k = some x then 1 else 0) hn (fun x y hx hy => by
   have a : par k = some x := by
    apply Classical.byContradiction; intro q; simp [q] at hx
   have b : par k = some y := by
    apply Classical.byContradiction; intro q; simp [q] at hy
   rw [a] at b; cases b; rfl) (fun x => by split <;> lia)
  have h2 : (ord.map fun x => ((k :: ks).filter fun k => decide (par k = some x)).length).sum = (ord.map fun x => if par k = some x then 1 else 0).sum + (ord.map fun x => (ks.filter fun k => decide (par k = some x)).length).sum := by
   clear ih h1 hn
   induction ord with
   | nil => rfl
   | cons a ord ih =>
    simp only [List.map_cons, List.sum_cons]
    rw [ih, List.filter_cons]
    by_cases e : par k = some a
    ·rw [if_pos (decide_eq_true e), if_pos e, List.length_cons]; lia
    ·rw [if_neg (by simpa using e), if_neg e]; lia
  rw [h2, List.length_cons]; lia
theorem sS {ord : List Nat} (hn : ord.Nodup) : rest (zn par 6) ord [] < 20 := by
 have h := ug (par := par) hn (List.range 6)
 unfold rest
 have e : (ord.filter fun x => decide (x ∉ ([] : List Nat))) = ord := by
  rw [List.filter_eq_self]; intro x _; simp
 rw [e]
 rw [List.length_range] at h
 unfold zn
 lia
theorem oP (hp : ∀ k p, par k = some p → p < 6) {ord : List Nat} (ho : ord.Nodup) (h1 : ∀ k, k < 6 → k ∈ ord) (h2 : ∀ k ∈ ord, k < 6) :
  (bf (zn par 6) ord [] = some none ∧ ∃ k, k < 6 ∧ zJ par 7 k = 7) ∨ (∃ sn', bf (zn par 6) ord [] = some (some sn') ∧ ∀ k, k < 6 → zJ par 7 k ≤ 5) := by
 have hsu : ∀ x y, y ∈ zn par 6 x → par y = some x ∧ y ∈ ord := fun x y h => ⟨(cY.mp h).2, h1 y (cY.mp h).1⟩
 rcases oE hsu ho (sS ho) ord [] [] (fun _ h => h) ⟨List.nodup_nil, fun x h => (by cases h), List.nodup_nil, fun x => by simp, fun x h => (by cases h), List.nodup_nil, trivial⟩ with ⟨a, cyc, c1, c2⟩ | ⟨sn', fin', a, b, c, d⟩
 ·left
  obtain ⟨y, hy⟩ := List.exists_mem_of_ne_nil _ c1.1
  exact ⟨a, y, h2 y (c2 y hy), jr c1 7 y hy⟩
 ·right
  refine ⟨sn', a, fun k hk => ?_⟩
  have hfin : ∀ x ∈ ord, x ∈ fin' := fun x hx => by
   have := (b.spl x).mp (c x hx)
   simpa using this
  obtain ⟨m, hm⟩ := List.mem_iff_getElem?.mp (hfin k (h1 k hk))
  have hfl : fin'.length ≤ 6 := by
   have := b9 (m := List.range 6) b.fn fun x hx => List.mem_range.mpr (h2 x (b.sub x ((b.spl x).mpr (.inl hx))))
   rw [List.length_range] at this; exact this
  have := tW b.fn b.topo (fun x y q hy => ⟨cY.mpr ⟨h2 y (b.sub y ((b.spl y).mpr (.inl hy))), q⟩, hfin x (h1 x (hp _ _ q))⟩) m 7 k hm
  have := (List.getElem?_eq_some_iff.mp hm).1
  lia
theorem n0 {su : Nat → List Nat} : ∀ (ks : List Nat) (np : Nat → Int) (z : Nat), (∀ k ∈ ks, np k = -1) → ks.Nodup → (∀ k ∈ ks, ∀ y ∈ su k, np y = 1) → (∀ x x' y, y ∈ su x → y ∈ su x' → x = x') →
  lB su np ks z = if z ∈ ks then -2 else if z ∈ ks.flatMap su then 0 else np z
 | [], np, z, _, _, _, _ => by simp [lB]
 | k :: ks, np, z, h1, h2, h3, h4 => by
  have h2' := List.nodup_cons.mp h2
  have hk := h1 k (List.mem_cons_self ..)
  have hnp : ∀ z, z ≠ k → z ∉ su k → gK (upd np k (-2)) (su k) 0 z = np z := fun z h1 h2 => by
   unfold gK
   rw [if_neg h2, c9 _ _ h1]
  have q1 : ∀ x ∈ ks, x ≠ k := fun x hx e => h2'.1 (e ▸ hx)
  have q2 : ∀ x ∈ ks, x ∉ su k := fun x hx q => by
   have := h3 k (List.mem_cons_self ..) x q
   rw [h1 x (List.mem_cons_of_mem _ hx)] at this; lia
  rw [lB, n0 ks _ z (fun x hx => by rw [hnp x (q1 x hx) (q2 x hx)]; exact h1 x (List.mem_cons_of_mem _ hx)) h2'.2 (fun x hx y hy => by
   have hy1 := h3 x (List.mem_cons_of_mem _ hx) y hy
   rw [hnp y (fun e => by rw [e, hk] at hy1; lia) (fun q => q1 x hx (h4 x k y hy q))]; exact hy1) h4]
  by_cases e1 : z ∈ ks
  ·rw [if_pos e1, if_pos (List.mem_cons_of_mem _ e1)]
  ·rw [if_neg e1]
   by_cases e2 : z = k
   ·subst e2
    have : z ∉ ks.flatMap su := fun q => by
     obtain ⟨x, hx, hy⟩ := List.mem_flatMap.mp q
     have := h3 x (List.mem_cons_of_mem _ hx) z hy
     rw [hk] at this; lia
    have hz2 : z ∉ su z := fun q => by
     have := h3 z (List.mem_cons_self ..) z q
     rw [hk] at this; lia
    rw [if_neg this, if_pos (List.mem_cons_self ..)]
    unfold gK
    rw [if_neg hz2, eE]
   ·rw [if_neg (by simp [e1, e2] : ¬ z ∈ k :: ks), List.flatMap_cons]
    by_cases e3 : z ∈ ks.flatMap su
    ·rw [if_pos e3, if_pos (List.mem_append_right _ e3)]
    ·rw [if_neg e3]
     by_cases e4 : z ∈ su k
     ·rw [if_pos (List.mem_append_left _ e4)]
      unfold gK
      rw [if_pos e4]
     ·rw [if_neg (by simp only [List.mem_append]; exact fun q => q.elim e4 e3), hnp z e2 e4]
theorem jp {su : Nat → List Nat} (h1 : ∀ x, (su x).Nodup) (h2 : ∀ x x' y, y ∈ su x → y ∈ su x' → x = x') : ∀ {r : List Nat}, r.Nodup → (r.flatMap su).Nodup
 | [], _ => List.nodup_nil
 | a :: r, h => by
  have h' := List.nodup_cons.mp h
  rw [List.flatMap_cons, List.nodup_append]
  refine ⟨h1 a, jp h1 h2 h'.2, fun y hy z hz e => ?_⟩
  subst e
  obtain ⟨x, hx, q⟩ := List.mem_flatMap.mp hz
  exact h'.1 (h2 a x y hy q ▸ hx)
end
theorem jO : ∀ r : List Nat, fP (aP r) = some (r.map fun (k : Nat) => (k : Int))
 | [] => rfl
 | a :: r => by
  show (fP (aP r)).map _ = _
  rw [jO r]; rfl
theorem mM {l : List Nat} {i x : Nat} (h : l[i]? = some x) : i < l.length := (List.getElem?_eq_some_iff.mp h).1
theorem wj {m : St → zZ V} {σ ae : St} {t : Nat} {us : List V} (h : m σ = .ok (.ref t) ae) (hu : ae.heap[t]? = some (.tup us)) (hl : us.length ≤ 1000) : lg m σ = .ok us ae := by
 unfold lg
 rw [h, zZ.bind_ok, nv hu rfl, if_pos (by show us.length ≤ 16777216; lia)]
noncomputable abbrev wP : St → zZ Bool := (aB (cU (bO 269 "is_active") (bJ pd) (ai 1) (aa [])))
noncomputable abbrev wW : St → zZ F := (aM (an (cU (bO 269 "get_ready") (bJ mC) (ai 1) (aa [])) (ao 5)) (aM (bE (a7 aO bk (ai 4) (aj (aC (aj (ai 5) (aa [])) gb) (aa [])))) (bE (cU (bO 269 "done") (bJ mB) (ai 1) (lg (ai 5))))))
structure RI (pre : List O) (par : Nat → Option Nat) (ord : List Nat) (nd sc : Nat → Nat) (R Q : Nat) (d : Nat) (r : List Nat) (ls : List Nat) (np : Nat → Int) (po : Int) (H : List O) : Prop where
 S : zV pre ord nd sc np (zn par 6) (.ref R) po po H
 hnp : ∀ k ∈ ord, np k = if zJ par 7 k < d then -2 else if zJ par 7 k = d then 0 else 1
 rn : r.Nodup
 rm : ∀ k, k ∈ r ↔ k < 6 ∧ zJ par 7 k = d
 hR : H[R]? = some (.list (aP r))
 hQ : H[Q]? = some (.list (ls.map .ref))
 ll : ls.length = d
 hls : ∀ j, j < d → ∃ m, ls[j]? = some m ∧ H[m]? = some (.list (aP (zA par j))) ∧ pre.length ≤ m ∧ m ≠ R ∧ m ≠ Q
 lsn : ls.Nodup
 ne : ∀ j, j < d → zA par j ≠ []
section
variable {pre : List O} {par : Nat → Option Nat} {ord : List Nat} {nd sc : Nat → Nat} {R Q : Nat}
theorem RI.emp {d : Nat} {r ls : List Nat} {np : Nat → Int} {po : Int} {H : List O} (I : RI pre par ord nd sc R Q d r ls np po H) : r = [] ↔ zA par d = [] := by
 constructor
 ·intro e
  rw [List.eq_nil_iff_forall_not_mem]
  intro k hk
  have := (I.rm k).mpr (gp.mp hk)
  rw [e] at this; cases this
 ·intro e
  rw [List.eq_nil_iff_forall_not_mem]
  intro k hk
  have := gp.mpr ((I.rm k).mp hk)
  rw [e] at this; cases this
theorem RI.len {d : Nat} {r ls : List Nat} {np : Nat → Int} {po : Int} {H : List O} (I : RI pre par ord nd sc R Q d r ls np po H) : r.length ≤ 6 := by
 have := b9 (m := List.range 6) I.rn fun x hx => List.mem_range.mpr ((I.rm x).mp hx).1
 rw [List.length_range] at this; exact this
theorem qy (hp : ∀ k p, par k = some p → p < 6) (h1 : ∀ k, k < 6 → k ∈ ord) (h2 : ∀ k ∈ ord, k < 6) (hn : pre.length ≤ R) (hnQ : pre.length ≤ Q) (hsc : ∀ k ∈ ord, sc k ≠ R) (hsQ : ∀ k ∈ ord, sc k ≠ Q) (hQR : Q ≠ R) {d : Nat} (hd : d < 6) {r ls : List Nat} {np : Nat → Int} {po : Int} {H : List O} (I : RI pre par ord nd sc R Q d r ls np po H) (hne : r ≠ []) {v0 v2 v3 v5 : Option V} :
  ∃ H' w5 r' ls' np' po', wW ⟨[v0, some (.ref (pre.length + 1)), v2, v3, some (.ref Q), v5], H⟩ = .ok .next ⟨[v0, some (.ref (pre.length + 1)), v2, v3, some (.ref Q), w5], H'⟩ ∧ RI pre par ord nd sc R Q (d + 1) r' ls' np' po' H' := by
 have hl := I.len
 have hro : ∀ k ∈ r, k ∈ ord := fun k hk => h1 k ((I.rm k).mp hk).1
 obtain ⟨τ1, t, r1, S1, ht, hR1, K1⟩ := xL I.S I.hR (by lia) hro hn hsc
 have htR : t ≠ R := aN ht hR1 (by simp)
 have a1 : an (cU (bO 269 "get_ready") (bJ mC) (ai 1) (aa [])) (ao 5) ⟨[v0, some (.ref (pre.length + 1)), v2, v3, some (.ref Q), v5], H⟩ = .ok .next ⟨[v0, some (.ref (pre.length + 1)), v2, v3, some (.ref Q), some (.ref t)], τ1.heap⟩ := by
  refine bx (i := 5) (v := .ref t) (ae := ⟨[v0, some (.ref (pre.length + 1)), v2, v3, some (.ref Q), v5], τ1.heap⟩) ?_
  rw [d0 (v := .ref (pre.length + 1)) (vs := []) (ma := aa []) (aI rfl) (I.S.own (by kernel_rfl)) rfl]
  exact cm (m := mC) r1
 have hQ1 := (K1 Q hQR).1 _ I.hQ
 have hQ2 := aE (X := [O.list (aP (zA par d))]) hQ1
 have a2a : aC (aj (ai 5) (aa [])) gb ⟨[v0, some (.ref (pre.length + 1)), v2, v3, some (.ref Q), some (.ref t)], τ1.heap⟩ = .ok (.ref τ1.heap.length) ⟨[v0, some (.ref (pre.length + 1)), v2, v3, some (.ref Q), some (.ref t)], τ1.heap ++ [O.list (aP (zA par d))]⟩ := by
  rw [bW (aX (aI (v := .ref t) rfl) (ms := aa []) rfl)]
  have e := se I.rn (qZ (par := par) d) (fun k => (I.rm k).trans gp.symm)
  unfold gb
  rw [w8, wq ht, jO, zb, e, if_pos (by rw [List.length_map]; lia), List.map_map]
  rfl
 have a2 : bE (a7 aO bk (ai 4) (aj (aC (aj (ai 5) (aa [])) gb) (aa []))) ⟨[v0, some (.ref (pre.length + 1)), v2, v3, some (.ref Q), some (.ref t)], τ1.heap⟩ = .ok .next ⟨[v0, some (.ref (pre.length + 1)), v2, v3, some (.ref Q), some (.ref t)], (τ1.heap ++ [O.list (aP (zA par d))]).set Q (O.list (ls.map V.ref ++ [V.ref τ1.heap.length]))⟩ := by
  refine cZ (v := .none) ?_
  rw [cM (ae := ⟨[v0, some (.ref (pre.length + 1)), v2, v3, some (.ref Q), some (.ref t)], τ1.heap⟩) (aI (v := .ref Q) rfl) (cB hQ1) (aX a2a (ms := aa []) rfl)]
  exact dT hQ2 (by rw [List.length_map, I.ll]; lia)
 have S2 := (S1.app [O.list (aP (zA par d))]).setList hQ2 hnQ hsQ (O.list (ls.map V.ref ++ [V.ref τ1.heap.length]))
 have hR2 : ((τ1.heap ++ [O.list (aP (zA par d))]).set Q (O.list (ls.map V.ref ++ [V.ref τ1.heap.length])))[R]? = some (.list []) := aY (aE hR1) hQR
 have hsame : gK np r (-1) = gK np r (-1) := rfl
 have hin : ∀ k ∈ r, gK np r (-1) k = -1 := fun k hk => by unfold gK; rw [if_pos hk]
 have hout : ∀ k, k ∉ r → gK np r (-1) k = np k := fun k hk => by unfold gK; rw [if_neg hk]
 have hy : ∀ k ∈ r, ∀ y ∈ zn par 6 k, y ∈ ord ∧ gK np r (-1) y = 1 := fun k hk y hy => by
  obtain ⟨y1, y2⟩ := cY.mp hy
  have e := (e8 y2 hd).mpr ((I.rm k).mp hk).2
  refine ⟨h1 y y1, ?_⟩
  rw [hout y (fun q => by have := ((I.rm y).mp q).2; lia), I.hnp y (h1 y y1), if_neg (by lia), if_neg (by lia)]
 have hfn : (r.flatMap (zn par 6)).Nodup := jp kj lV I.rn
 have hfl : (r.flatMap (zn par 6)).length ≤ 6 := by
  have := b9 (m := List.range 6) hfn fun x hx => by
   obtain ⟨k, _, q⟩ := List.mem_flatMap.mp hx
   exact List.mem_range.mpr (cY.mp q).1
  rw [List.length_range] at this; exact this
 obtain ⟨τ4, r4, S4, hR4, K4⟩ := xJ S2 hn hsc lV kj (fun k hk => ⟨hro k hk, hin k hk⟩) I.rn hy hR2 (by lia) (by lia)
 have a3 : bE (cU (bO 269 "done") (bJ mB) (ai 1) (lg (ai 5))) ⟨[v0, some (.ref (pre.length + 1)), v2, v3, some (.ref Q), some (.ref t)], (τ1.heap ++ [O.list (aP (zA par d))]).set Q (O.list (ls.map V.ref ++ [V.ref τ1.heap.length]))⟩ = .ok .next ⟨[v0, some (.ref (pre.length + 1)), v2, v3, some (.ref Q), some (.ref t)], τ4.heap⟩ := by
  refine cZ (v := .none) ?_
  have ht2 : ((τ1.heap ++ [O.list (aP (zA par d))]).set Q (O.list (ls.map V.ref ++ [V.ref τ1.heap.length])))[t]? = some (.tup (aP r)) := aY (aE ht) (aN hQ2 (aE ht) (by simp))
  rw [d0 (v := .ref (pre.length + 1)) (aI rfl) (S2.own (by kernel_rfl)) (wj (aI (v := .ref t) rfl) ht2 (by rw [eW]; lia))]
  exact cm (m := mB) r4
 have hQl := cC hQ1
 refine ⟨τ4.heap, some (.ref t), r.flatMap (zn par 6), ls ++ [τ1.heap.length], lB (zn par 6) (gK np r (-1)) r, po + r.length, (aG a1).trans ((aG a2).trans a3), ⟨S4, ?_, hfn, ?_, hR4, ?_, ?_, ?_, ?_, ?_⟩⟩
 ·intro k hk
  rw [n0 r _ k hin I.rn (fun k hk y q => (hy k hk y q).2) lV]
  have hk0 := I.hnp k hk
  by_cases e1 : k ∈ r
  ·have := ((I.rm k).mp e1).2
   rw [if_pos e1, if_pos (by lia)]
  ·rw [if_neg e1, hout k e1, hk0]
   have e1' : zJ par 7 k ≠ d := fun q => e1 ((I.rm k).mpr ⟨h2 k hk, q⟩)
   by_cases e2 : k ∈ r.flatMap (zn par 6)
   ·obtain ⟨x, hx, q⟩ := List.mem_flatMap.mp e2
    have := (e8 (cY.mp q).2 hd).mpr ((I.rm x).mp hx).2
    rw [if_pos e2, if_neg (by lia), if_pos this]
   ·rw [if_neg e2, if_neg (by lia : ¬ zJ par 7 k = d)]
    have e3 : zJ par 7 k ≠ d + 1 := fun q => by
     cases qp : par k with
     | none => rw [ef.mpr qp] at q; lia
     | some p => exact e2 (List.mem_flatMap.mpr ⟨p, (I.rm p).mpr ⟨hp _ _ qp, (e8 qp hd).mp q⟩, cY.mpr ⟨h2 k hk, qp⟩⟩)
    by_cases e4 : zJ par 7 k < d
    ·rw [if_pos e4, if_pos (by lia)]
    ·rw [if_neg e4, if_neg (by lia), if_neg e3]
 ·intro k
  rw [List.mem_flatMap]
  constructor
  ·rintro ⟨x, hx, q⟩
   obtain ⟨q1, q2⟩ := cY.mp q
   exact ⟨q1, (e8 q2 hd).mpr ((I.rm x).mp hx).2⟩
  ·rintro ⟨q1, q2⟩
   cases qp : par k with
   | none => rw [ef.mpr qp] at q2; lia
   | some p => exact ⟨p, (I.rm p).mpr ⟨hp _ _ qp, (e8 qp hd).mp q2⟩, cY.mpr ⟨q1, qp⟩⟩
 ·rw [(K4 Q hQR).1 _ (fQ hQ2), List.map_append]; rfl
 ·rw [List.length_append, I.ll]; rfl
 ·intro j hj
  by_cases e : j < d
  ·obtain ⟨m, m1, m2, m3, m4, m5⟩ := I.hls j e
   exact ⟨m, by rw [List.getElem?_append_left (mM m1)]; exact m1, (K4 m m4).1 _ (aY (aE ((K1 m m4).1 _ m2)) m5.symm), m3, m4, m5⟩
  ·have : j = d := by lia
   subst this
   have hmQ : τ1.heap.length ≠ Q := by lia
   have hmR : τ1.heap.length ≠ R := by have := cC hR1; lia
   refine ⟨τ1.heap.length, ?_, (K4 _ hmR).1 _ (aY (iW ..) hmQ.symm), by lia, hmR, hmQ⟩
   rw [List.getElem?_append_right (by rw [I.ll]; exact Nat.le_refl _), I.ll, Nat.sub_self]; rfl
 ·rw [List.nodup_append]
  refine ⟨I.lsn, by simp, fun a ha b hb => ?_⟩
  simp at hb
  obtain ⟨j, hj⟩ := List.mem_iff_getElem?.mp ha
  obtain ⟨m, m1, m2, m3, m4, m5⟩ := I.hls j (by rw [← I.ll]; exact mM hj)
  rw [hj] at m1
  cases m1
  have := cC ((K1 a m4).1 _ m2)
  lia
 ·intro j hj
  by_cases e : j < d
  ·exact I.ne j e
  ·have : j = d := by lia
   subst this
   exact fun q => hne (I.emp.mpr q)
theorem sC (hp : ∀ k p, par k = some p → p < 6) (h1 : ∀ k, k < 6 → k ∈ ord) (h2 : ∀ k ∈ ord, k < 6) (hn : pre.length ≤ R) (hnQ : pre.length ≤ Q) (hsc : ∀ k ∈ ord, sc k ≠ R) (hsQ : ∀ k ∈ ord, sc k ≠ Q) (hQR : Q ≠ R) {v0 v2 v3 : Option V} : ∀ (m d f : Nat) (r ls : List Nat) (np : Nat → Int) (po : Int) (H : List O) (v5 : Option V), d + m = 6 → m < f → RI pre par ord nd sc R Q d r ls np po H →
  ∃ d' ls' np' po' H' w5, bS wP wW (aa F.next) f ⟨[v0, some (.ref (pre.length + 1)), v2, v3, some (.ref Q), v5], H⟩ = .ok .next ⟨[v0, some (.ref (pre.length + 1)), v2, v3, some (.ref Q), w5], H'⟩ ∧ RI pre par ord nd sc R Q d' [] ls' np' po' H' ∧ d' ≤ 6 := by
 intro m
 have test : ∀ {d : Nat} {r ls : List Nat} {np : Nat → Int} {po : Int} {H : List O} {v5 : Option V}, RI pre par ord nd sc R Q d r ls np po H → wP ⟨[v0, some (.ref (pre.length + 1)), v2, v3, some (.ref Q), v5], H⟩ = .ok (!r.isEmpty) ⟨[v0, some (.ref (pre.length + 1)), v2, v3, some (.ref Q), v5], H⟩ := by
  intro d r ls np po H v5 I
  obtain ⟨L, q⟩ := xK I.S I.hR (by have := I.len; lia)
  refine bM ?_
  rw [d0 (v := .ref (pre.length + 1)) (vs := []) (ma := aa []) (ae := ⟨[v0, some (.ref (pre.length + 1)), v2, v3, some (.ref Q), v5], H⟩) (aq := ⟨[v0, some (.ref (pre.length + 1)), v2, v3, some (.ref Q), v5], H⟩) (aI rfl) (I.S.own (by kernel_rfl)) rfl]
  exact cm (m := pd) (σ := ⟨[v0, some (.ref (pre.length + 1)), v2, v3, some (.ref Q), v5], H⟩) q
 have stop : ∀ {d f : Nat} {ls : List Nat} {np : Nat → Int} {po : Int} {H : List O} {v5 : Option V}, RI pre par ord nd sc R Q d [] ls np po H → bS wP wW (aa F.next) (f + 1) ⟨[v0, some (.ref (pre.length + 1)), v2, v3, some (.ref Q), v5], H⟩ = .ok .next ⟨[v0, some (.ref (pre.length + 1)), v2, v3, some (.ref Q), v5], H⟩ := fun I => j7 (test I) rfl
 induction m with
 | zero =>
  intro d f r ls np po H v5 hd hf I
  have : d = 6 := by lia
  subst this
  obtain ⟨f, rfl⟩ : ∃ g, f = g + 1 := ⟨f - 1, by lia⟩
  have e := I.emp.mpr (wl hp)
  subst e
  exact ⟨6, ls, np, po, H, v5, stop I, I, Nat.le_refl _⟩
 | succ m ih =>
  intro d f r ls np po H v5 hd hf I
  obtain ⟨f, rfl⟩ : ∃ g, f = g + 1 := ⟨f - 1, by lia⟩
  by_cases e : r = []
  ·subst e
   exact ⟨d, ls, np, po, H, v5, stop I, I, by lia⟩
  ·obtain ⟨H1, w5, r1, ls1, np1, po1, b1, I1⟩ := qy hp h1 h2 hn hnQ hsc hsQ hQR (by lia) I e (v0 := v0) (v2 := v2) (v3 := v3) (v5 := v5)
   obtain ⟨d', ls', np', po', H', w5', q1, q2, q3⟩ := ih (d + 1) f r1 ls1 np1 po1 H1 w5 (by lia) (by lia) I1
   refine ⟨d', ls', np', po', H', w5', ?_, q2, q3⟩
   have t := test (v5 := v5) I
   have : (!r.isEmpty) = true := by cases r with
    | nil => exact absurd rfl e
    | cons => rfl
   rw [this] at t
   exact (gP t b1).trans q1
end
structure Told (pre : List O) (par : Nat → Option Nat) (ring : Bool) (d : Nat) (H : List O) (r Q : Nat) (ls : List Nat) : Prop where
 take : H.take pre.length = pre
 res : H[r]? = some (.tup [.bool ring, .ref Q])
 rn : pre.length ≤ r
 hQ : H[Q]? = some (.list (ls.map .ref))
 Qn : pre.length ≤ Q
 ll : ls.length = d
 hls : ∀ j, j < d → ∃ m, ls[j]? = some m ∧ H[m]? = some (.list (aP (zA par j))) ∧ pre.length ≤ m ∧ m ≠ Q
 lsn : ls.Nodup
 d6 : d ≤ 6
 ne : ∀ j, j < d → zA par j ≠ []
 last : zA par d = []
 ring : (ring = true ∧ ∃ k, k < 6 ∧ zJ par 7 k = 7) ∨ (ring = false ∧ ∀ k, k < 6 → zJ par 7 k ≤ 5)
theorem vN : im 0 6 1 = aP (List.range' 0 6) := by kernel_rfl
theorem xG {pre : List O} {l : Nat} {par : Nat → Option Nat} (h : de pre l par) (hp : ∀ k p, par k = some p → p < 6) : ∃ τ ring d r Q ls, o9 [.ref l] pre = .ok (.ref r) τ ∧ Told pre par ring d τ.heap r Q ls := by
 have a1 := bx (i := 1) (sy pre [some (.ref l), none, none, none, none, none])
 simp only [List.set_cons_succ, List.set_cons_zero] at a1
 have S0 := (sa pre).app [O.range 0 6 1]
 have e0 : zy par 0 = fun _ => 0 := by
  funext k
  unfold zy
  rw [if_neg (by lia)]
 have e1 : zn par 0 = fun _ => [] := by funext k; rfl
 rw [← e0, ← e1] at S0
 obtain ⟨ord, nd, sc, H1, w2, r1, S1, h1, h2⟩ := sB h hp none none none 6 0 [] _ _ _ none rfl S0 (fun k hk => by lia) (fun k hk => by cases hk) (fun k p hk => by lia)
 have hr : aC (aj (aa (V.int 6)) (aa [])) ek ⟨[some (.ref l), some (.ref (pre.length + 1)), none, none, none, none], pre ++ [.idict (eD pre.length .none 0 0), .inst 269 pre.length [], .dict [] 0]⟩ = .ok (.ref (pre.length + 3)) ⟨[some (.ref l), some (.ref (pre.length + 1)), none, none, none, none], (pre ++ [.idict (eD pre.length .none 0 0), .inst 269 pre.length [], .dict [] 0]) ++ [.range 0 6 1]⟩ := by
  refine (bW (vs := [.int 6]) (ae := ⟨[some (.ref l), some (.ref (pre.length + 1)), none, none, none, none], pre ++ [O.idict (eD pre.length .none 0 0), O.inst 269 pre.length [], O.dict [] 0]⟩) rfl).trans ?_
  show zZ.ok _ _ = _
  simp only [List.length_append, List.length_cons, List.length_nil]
 have a2 : hO (aC (aj (aa (V.int 6)) (aa [])) ek) (ao 2) zj (aa F.next) ⟨[some (.ref l), some (.ref (pre.length + 1)), none, none, none, none], pre ++ [.idict (eD pre.length .none 0 0), .inst 269 pre.length [], .dict [] 0]⟩ = .ok .next ⟨[some (.ref l), some (.ref (pre.length + 1)), w2, none, none, none], H1⟩ := by
  unfold hO
  rw [hr, zZ.bind_ok]
  have hi : bY (.ref (pre.length + 3)) ((pre ++ [.idict (eD pre.length .none 0 0), .inst 269 pre.length [], .dict [] 0]) ++ [.range 0 6 1]) = some (aP (List.range' 0 6), none) := by
   have q : ((pre ++ [O.idict (eD pre.length .none 0 0), .inst 269 pre.length [], .dict [] 0]) ++ [O.range 0 6 1])[pre.length + 3]? = some (.range 0 6 1) := by
    rw [List.getElem?_append_right (by simp)]; simp
   have s : Builtin.Range.small 0 6 1 = true := by decide +kernel
   rw [ck q]
   unfold jj
   simp only [s, if_true, vN]
  simp only [hi]
  exact r1
 have hol : ord.length ≤ 6 := by
  have := b9 (m := List.range 6) S1.nod fun x hx => List.mem_range.mpr (h2 x hx)
  rw [List.length_range] at this; exact this
 obtain ⟨p1, p2⟩ := xM S1 (fun x y hy => h1 y (cY.mp hy).1) hol
 have a3 : an (aa (V.bool false)) (ao 3) ⟨[some (.ref l), some (.ref (pre.length + 1)), w2, none, none, none], H1⟩ = .ok .next ⟨[some (.ref l), some (.ref (pre.length + 1)), w2, some (.bool false), none, none], H1⟩ := rfl
 have prep : ∃ ring R H2, lT (bE (cU (bO 269 "prepare") (bJ lb) (ai 1) (aa []))) (gm [(V.top 187, true)] (kU (an (aa (V.bool true)) (ao 3))) uI) ⟨[some (.ref l), some (.ref (pre.length + 1)), w2, some (.bool false), none, none], H1⟩ = .ok .next ⟨[some (.ref l), some (.ref (pre.length + 1)), w2, some (.bool ring), none, none], H2⟩
   ∧ zV pre ord nd sc (zy par 6) (zn par 6) (.ref R) 0 0 H2 ∧ H2[R]? = some (.list (aP (ord.filter fun k => decide (zy par 6 k = 0)))) ∧ pre.length ≤ R ∧ (∀ k ∈ ord, sc k ≠ R) ∧ ((ring = true ∧ ∃ k, k < 6 ∧ zJ par 7 k = 7) ∨ (ring = false ∧ ∀ k, k < 6 → zJ par 7 k ≤ 5)) := by
  rcases oP hp S1.nod h1 h2 with ⟨q, k⟩ | ⟨sn', q, k⟩
  ·obtain ⟨as, τ, R, g1, g2, g3, g4, g5⟩ := p1 q
   refine ⟨true, R, τ.heap, ?_, g2, g3, g4, g5, .inl ⟨rfl, k⟩⟩
   have hx : bE (cU (bO 269 "prepare") (bJ lb) (ai 1) (aa [])) ⟨[some (.ref l), some (.ref (pre.length + 1)), w2, some (.bool false), none, none], H1⟩ = .exc (.top 187) as ⟨[some (.ref l), some (.ref (pre.length + 1)), w2, some (.bool false), none, none], τ.heap⟩ := by
    unfold bE
    rw [d0 (v := .ref (pre.length + 1)) (vs := []) (ma := aa []) (ae := ⟨[some (.ref l), some (.ref (pre.length + 1)), w2, some (.bool false), none, none], H1⟩) (aq := ⟨[some (.ref l), some (.ref (pre.length + 1)), w2, some (.bool false), none, none], H1⟩) (aI rfl) (S1.own (by kernel_rfl)) rfl]
    unfold bJ
    simp only [g1, zZ.bind_exc]
   rw [pN hx]
   rfl
  ·obtain ⟨τ, R, g1, g2, g3, g4, g5⟩ := p2 sn' q
   refine ⟨false, R, τ.heap, ?_, g2, g3, g4, g5, .inr ⟨rfl, k⟩⟩
   refine uf (cZ (v := .none) ?_)
   rw [d0 (v := .ref (pre.length + 1)) (vs := []) (ma := aa []) (ae := ⟨[some (.ref l), some (.ref (pre.length + 1)), w2, some (.bool false), none, none], H1⟩) (aq := ⟨[some (.ref l), some (.ref (pre.length + 1)), w2, some (.bool false), none, none], H1⟩) (aI rfl) (S1.own (by kernel_rfl)) rfl]
   exact cm (m := lb) (σ := ⟨[some (.ref l), some (.ref (pre.length + 1)), w2, some (.bool false), none, none], H1⟩) g1
 obtain ⟨ring, R, H2, a4, S2, hR, hn, hsc, hring⟩ := prep
 have a5 : an (bu (aa [])) (ao 4) ⟨[some (.ref l), some (.ref (pre.length + 1)), w2, some (.bool ring), none, none], H2⟩ = .ok .next ⟨[some (.ref l), some (.ref (pre.length + 1)), w2, some (.bool ring), some (.ref H2.length), none], H2 ++ [.list []]⟩ :=
  bx (cN (ms := aa []) (vs := []) (σ := ⟨[some (.ref l), some (.ref (pre.length + 1)), w2, some (.bool ring), none, none], H2⟩) rfl (by show 0 ≤ 1000; decide))
 have hnH : pre.length ≤ H2.length := by have := cC hR; lia
 have I0 : RI pre par ord nd sc R H2.length 0 (ord.filter fun k => decide (zy par 6 k = 0)) [] (zy par 6) 0 (H2 ++ [.list []]) := by
  refine ⟨S2.app _, fun k hk => ?_, S2.nod.filter _, fun k => ?_, aE hR, iW .., rfl, fun j hj => by lia, List.nodup_nil, fun j hj => by lia⟩
  ·have h6 := h2 k hk
   rw [if_neg (by lia)]
   unfold zy
   cases q : par k with
   | none => rw [if_neg (by simp), if_pos (ef.mpr q)]
   | some p => rw [if_pos ⟨h6, rfl⟩, if_neg (by rw [ef, q]; simp)]
  ·rw [List.mem_filter, decide_eq_true_eq]
   unfold zy
   constructor
   ·rintro ⟨q1, q2⟩
    refine ⟨h2 k q1, ef.mpr ?_⟩
    cases q : par k with
    | none => rfl
    | some p => rw [if_pos ⟨h2 k q1, by rw [q]; rfl⟩] at q2; lia
   ·rintro ⟨q1, q2⟩
    refine ⟨h1 k q1, ?_⟩
    rw [ef.mp q2, if_neg (by simp)]
 obtain ⟨d', ls', np', po', H', w5, a6, I, hd'⟩ := sC hp h1 h2 hn hnH hsc (fun k hk => by have := cC (S2.sx k hk).1; lia) (by have := cC hR; lia) 6 0 20 _ [] _ 0 _ none rfl (by decide) I0 (v0 := some (.ref l)) (v2 := w2) (v3 := some (.bool ring))
 have e7 := j9 (ms := aj (ai 3) (aj (ai 4) (aa []))) (vs := [.bool ring, .ref H2.length]) (σ := ⟨[some (.ref l), some (.ref (pre.length + 1)), w2, some (.bool ring), some (.ref H2.length), w5], H'⟩) (ae := ⟨[some (.ref l), some (.ref (pre.length + 1)), w2, some (.bool ring), some (.ref H2.length), w5], H'⟩) rfl (by show 2 ≤ 1000; decide)
 refine ⟨⟨[some (.ref l), some (.ref (pre.length + 1)), w2, some (.bool ring), some (.ref H2.length), w5], H' ++ [.tup [.bool ring, .ref H2.length]]⟩, ring, d', H'.length, H2.length, ls', ?_, ?_⟩
 ·refine du (b7 := pre) (L := [some (.ref l), none, none, none, none, none]) rfl rfl ?_
  exact (aG a1).trans ((aG a2).trans ((aG a3).trans ((aG a4).trans ((aG a5).trans ((aG a6).trans (eK e7))))))
 ·refine ⟨fH I.S.take, iW .., by have := cC I.hR; lia, aE I.hQ, hnH, I.ll, fun j hj => ?_, I.lsn, hd', I.ne, I.emp.mp rfl, hring⟩
  obtain ⟨m, m1, m2, m3, m4, m5⟩ := I.hls j hj
  exact ⟨m, m1, aE m2, m3, m5⟩
theorem sT (ls : List Nat) : refsOf (ls.map .ref) = ls := by
 unfold refsOf
 induction ls with
 | nil => rfl
 | cons a ls ih => rw [List.map_cons, List.filterMap_cons]; simp only [ih]
theorem vL (f : Nat → Nat) (r : List Nat) : qB f (.list (aP r)) = .list (aP r) := by
 show O.list ((aP r).map (zr f)) = _
 unfold aP
 rw [List.map_map]; rfl
theorem tS (p : Nat → Bool) (r : List Nat) : eB p (.list (aP r)) = true := by
 unfold eB aP
 rw [List.all_eq_true]
 intro v hv
 obtain ⟨k, _, rfl⟩ := List.mem_map.mp hv
 rfl
noncomputable def eV (n d : Nat) : List V := (List.range d).map fun j => V.ref (n + j)
theorem ry {pre : List O} {l : Nat} {par : Nat → Option Nat} (h : de pre l par) (hp : ∀ k p, par k = some p → p < 6) (hg : pre.all (eB (m0 pre.length)) = true) (L : List (Option V)) :
  ∃ ring d, mX o9 [.ref l] ⟨L, pre⟩ = .ok (.ref (pre.length + (d + 1))) ⟨L, pre ++ ((List.range d).map (fun j => O.list (aP (zA par j))) ++ [.list (eV pre.length d), .tup [.bool ring, .ref (pre.length + d)]])⟩ ∧ d ≤ 6 ∧ (∀ j, j < d → zA par j ≠ []) ∧ zA par d = [] ∧ ((ring = true ∧ ∃ k, k < 6 ∧ zJ par 7 k = 7) ∨ (ring = false ∧ ∀ k, k < 6 → zJ par 7 k ≤ 5)) := by
 obtain ⟨τ, ring, d, r, Q, ls, e, T⟩ := xG h hp
 refine ⟨ring, d, ?_, T.d6, T.ne, T.last, T.ring⟩
 have hk1 : wn pre.length τ.heap r = [Q] := by
  unfold wn
  simp only [T.res]
  show (List.filter _ [Q]) = _
  rw [List.filter_cons, if_pos (decide_eq_true T.Qn)]; rfl
 have hmem : ∀ m ∈ ls, pre.length ≤ m ∧ m ≠ Q ∧ m ≠ r ∧ ∃ j, j < d ∧ τ.heap[m]? = some (.list (aP (zA par j))) := fun m hm => by
  obtain ⟨j, hj⟩ := List.mem_iff_getElem?.mp hm
  have hjd : j < d := by rw [← T.ll]; exact mM hj
  obtain ⟨m', m1, m2, m3, m4⟩ := T.hls j hjd
  rw [hj] at m1; cases m1
  exact ⟨m3, m4, aN m2 T.res (by simp), j, hjd, m2⟩
 have hk2 : wn pre.length τ.heap Q = ls := by
  unfold wn
  simp only [T.hQ]
  rw [sT, List.filter_eq_self]
  exact fun m hm => decide_eq_true (hmem m hm).1
 have hD : deepOf pre.length τ.heap r = ls ++ [Q, r] := by
  unfold deepOf
  rw [hk1, List.flatMap_cons, List.flatMap_nil, List.append_nil, hk2, List.append_assoc]; rfl
 have hQr : Q ≠ r := aN T.hQ T.res (by simp)
 have hDn : (ls ++ [Q, r]).Nodup := by
  rw [List.nodup_append]
  refine ⟨T.lsn, by simp [hQr], fun a ha b hb => ?_⟩
  simp at hb
  rcases hb with rfl | rfl
  ·exact (hmem a ha).2.1
  ·exact (hmem a ha).2.2.1
 have mv : ∀ j m, (ls ++ [Q, r])[j]? = some m → pre.length ≤ m → er pre.length (ls ++ [Q, r]) m = pre.length + j := fun j m hj hm => by
  obtain ⟨hlt, he⟩ := List.getElem?_eq_some_iff.mp hj
  unfold er
  rw [if_neg (by lia), ← he, hDn.idxOf_getElem j hlt]
 have mQ : er pre.length (ls ++ [Q, r]) Q = pre.length + d := mv d Q (by rw [List.getElem?_append_right (by rw [T.ll]; exact Nat.le_refl _), T.ll, Nat.sub_self]; rfl) T.Qn
 have mr : er pre.length (ls ++ [Q, r]) r = pre.length + (d + 1) := mv (d + 1) r (by rw [List.getElem?_append_right (by rw [T.ll]; lia), T.ll, Nat.add_sub_cancel_left]; rfl) T.rn
 have gD : ∀ {m : Nat} {o : O}, τ.heap[m]? = some o → τ.heap.getD m .dead = o := fun hm => by rw [List.getD_eq_getElem?_getD, hm]; rfl
 unfold mX
 simp only [e, hD]
 rw [if_pos]
 ·rw [mr]
  congr 2
  rw [List.map_append]
  congr 1
  have l1 : ls.map (fun k => qB (er pre.length (ls ++ [Q, r])) (τ.heap.getD k .dead)) = (List.range d).map (fun j => O.list (aP (zA par j))) := by
   apply List.ext_getElem?
   intro j
   rw [List.getElem?_map, List.getElem?_map]
   by_cases hj : j < d
   ·obtain ⟨m, m1, m2, m3, m4⟩ := T.hls j hj
    rw [m1, List.getElem?_range hj]
    show some (qB _ (τ.heap.getD m .dead)) = _
    rw [gD m2, vL]; rfl
   ·rw [List.getElem?_eq_none (by rw [T.ll]; lia), List.getElem?_eq_none (by rw [List.length_range]; lia)]; rfl
  have l2 : (ls.map V.ref).map (zr (er pre.length (ls ++ [Q, r]))) = eV pre.length d := by
   apply List.ext_getElem?
   intro j
   unfold eV
   rw [List.getElem?_map, List.getElem?_map, List.getElem?_map]
   by_cases hj : j < d
   ·obtain ⟨m, m1, m2, m3, m4⟩ := T.hls j hj
    rw [m1, List.getElem?_range hj]
    have := mv j m (by rw [List.getElem?_append_left (by rw [T.ll]; exact hj), m1]) m3
    show some (V.ref (er _ _ m)) = some (V.ref _)
    rw [this]
   ·rw [List.getElem?_eq_none (by rw [T.ll]; lia), List.getElem?_eq_none (by rw [List.length_range]; lia)]; rfl
  rw [l1]
  congr 1
  simp only [List.map_cons, List.map_nil, gD T.hQ, gD T.res, qB, l2, zr, mQ]
 ·refine ⟨⟨hg, T.take⟩, hDn, ?_⟩
  rw [List.all_eq_true]
  intro k hk
  rw [Bool.and_eq_true, decide_eq_true_eq]
  have inK : ∀ m, m ∈ ls ++ [Q, r] → jP pre.length (ls ++ [Q, r]) m = true := fun m hm => by
   unfold jP
   rw [Bool.or_eq_true]
   exact .inr (by simpa using hm)
  rcases List.mem_append.mp hk with hm | hm
  ·obtain ⟨q1, _, _, j, _, q2⟩ := hmem k hm
   exact ⟨⟨q1, cC q2⟩, by rw [gD q2]; exact tS _ _⟩
  ·simp only [List.mem_cons, List.not_mem_nil, or_false] at hm
   rcases hm with rfl | rfl
   ·refine ⟨⟨T.Qn, cC T.hQ⟩, ?_⟩
    rw [gD T.hQ]
    unfold eB
    rw [List.all_eq_true]
    intro v hv
    obtain ⟨m, hm, rfl⟩ := List.mem_map.mp hv
    exact inK m (List.mem_append_left _ hm)
   ·refine ⟨⟨T.rn, cC T.res⟩, ?_⟩
    rw [gD T.res]
    unfold eB
    rw [List.all_eq_true]
    intro v hv
    simp only [List.mem_cons, List.not_mem_nil, or_false] at hv
    rcases hv with rfl | rfl
    ·rfl
    ·exact inK Q (by simp)
noncomputable def fe (l : List Nat) : PyData := .list (l.map fun (k : Nat) => PyData.int (k : Int))
noncomputable def rv (ds : List (List Nat)) : PyData := .list (ds.map fe)
theorem jW : ∀ l : List Nat, PyData.canLayAll0 (l.map fun (k : Nat) => PyData.int (k : Int)) = true
 | [] => rfl
 | a :: l => by rw [List.map_cons, PyData.canLayAll0, jW l]; rfl
theorem og : ∀ ds : List (List Nat), PyData.canLayAll0 (ds.map fe) = true
 | [] => rfl
 | a :: ds => by
  rw [List.map_cons, PyData.canLayAll0, og ds]
  unfold fe
  rw [PyData.canLay0, jW]; rfl
theorem jU : ∀ l : List Nat, PyData.depthAll (l.map fun (k : Nat) => PyData.int (k : Int)) ≤ 2
 | [] => by simp [PyData.depthAll]
 | a :: l => by have := jU l; rw [List.map_cons, PyData.depthAll]; simp [PyData.depth]; lia
theorem n3 : ∀ ds : List (List Nat), PyData.depthAll (ds.map fe) ≤ 4
 | [] => by simp [PyData.depthAll]
 | a :: ds => by
  have := n3 ds
  have h := jU a
  rw [List.map_cons, PyData.depthAll]
  unfold fe
  rw [PyData.depth]
  have : PyData.depthAll (ds.map fe) ≤ 4 := this
  unfold fe at this
  lia
theorem l8 (ds : List (List Nat)) : SeqAt.shaped (rv ds) = true := by
 unfold SeqAt.shaped rv
 rw [PyData.canLay0, og, Bool.true_and, decide_eq_true_eq, PyData.depth]
 have := n3 ds
 lia
theorem shaped_ints (l : List Nat) : SeqAt.shaped (fe l) = true := by
 unfold SeqAt.shaped fe
 rw [PyData.canLay0, jW, Bool.true_and, decide_eq_true_eq, PyData.depth]
 have := jU l
 lia
theorem eO {n m : Nat} {H : List O} {l : List Nat} (h : H[m]? = some (.list (aP l))) : dataOf (n + 2) H (.ref m) = some (fe l) := by
 have : (aP l).mapM (dataOf (n + 1) H) = some (l.map fun (k : Nat) => PyData.int (k : Int)) := by
  clear h
  induction l with
  | nil => rfl
  | cons a l ih =>
   show (V.int a :: aP l).mapM _ = _
   rw [List.mapM_cons, ih]; rfl
 exact iI h this
theorem lD {n m : Nat} {H : List O} {ls : List Nat} {ds : List (List Nat)} (h : H[m]? = some (.list (ls.map .ref))) (hl : ls.length = ds.length) (hd : ∀ (j k : Nat) (r : List Nat), ls[j]? = some k → ds[j]? = some r → H[k]? = some (.list (aP r))) : dataOf (n + 3) H (.ref m) = some (rv ds) := by
 have : ∀ (ls : List Nat) (ds : List (List Nat)), ls.length = ds.length → (∀ (j k : Nat) (r : List Nat), ls[j]? = some k → ds[j]? = some r → H[k]? = some (.list (aP r))) → (ls.map V.ref).mapM (dataOf (n + 2) H) = some (ds.map fe) := by
  intro ls
  induction ls with
  | nil => intro ds hl _; cases ds with
   | nil => rfl
   | cons => cases hl
  | cons a ls ih =>
   intro ds hl hd
   cases ds with
   | nil => cases hl
   | cons r ds =>
    rw [List.map_cons, List.mapM_cons, eO (hd 0 a r rfl rfl), ih ds (by simpa using hl) fun j k r' q1 q2 => hd (j + 1) k r' (by simpa using q1) (by simpa using q2)]
    rfl
 exact iI h (this ls ds hl hd)
theorem jD {L : List (Option V)} {j : Nat} (hL : L.length = j) (x0 y : Option V) : (L ++ [x0]).set j y = L ++ [y] := by
 subst hL
 rw [List.set_append_right _ _ (Nat.le_refl _), Nat.sub_self]; rfl
theorem dL {L : List (Option V)} {j : Nat} (hL : L.length = j) (x : Option V) (H : List O) : fb j ⟨L ++ [x], H⟩ = ⟨L, H⟩ := by
 subst hL
 unfold fb
 simp only [List.take_append_of_le_length (Nat.le_refl _), List.take_length]
theorem eP {j : Nat} {tests : St → zZ Bool} {elt : St → zZ V} {src : Option (Nat × O)} {P : List O} {L : List (Option V)} (hL : L.length = j) (p : V → Bool) (g : V → V) (hs : ∀ acc, dM src (P ++ [O.list acc]) = true) : ∀ (xs acc : List V) (x0 : Option V), (∀ x ∈ xs, ∀ acc, tests ⟨L ++ [some x], P ++ [.list acc]⟩ = .ok (p x) ⟨L ++ [some x], P ++ [.list acc]⟩) → (∀ x ∈ xs, p x = true → ∀ acc, elt ⟨L ++ [some x], P ++ [.list acc]⟩ = .ok (g x) ⟨L ++ [some x], P ++ [.list acc]⟩) → acc.length + xs.length ≤ 1000 →
  ∃ x1, c0 j tests elt src P.length xs ⟨L ++ [x0], P ++ [.list acc]⟩ = .ok () ⟨L ++ [x1], P ++ [.list (acc ++ (xs.filter p).map g)]⟩
 | [], acc, x0, _, _, _ => ⟨x0, by rw [c0, if_pos (hs acc)]; simp⟩
 | x :: xs, acc, x0, ht, he, hl => by
  simp only [List.length_cons] at hl
  have h1 := ht x (List.mem_cons_self ..) acc
  rw [c0, if_pos (hs acc)]
  unfold ao
  simp only [zZ.bind_ok, jD hL]
  rw [h1]
  simp only [zZ.calm, zZ.bind_ok]
  cases q : p x with
  | false =>
   obtain ⟨x1, r⟩ := eP hL p g hs xs acc (some x) (fun y hy => ht y (List.mem_cons_of_mem _ hy)) (fun y hy => he y (List.mem_cons_of_mem _ hy)) (by lia)
   refine ⟨x1, ?_⟩
   rw [if_neg (by decide), r, List.filter_cons, if_neg (by rw [q]; decide)]
  | true =>
   obtain ⟨x1, r⟩ := eP hL p g hs xs (acc ++ [g x]) (some x) (fun y hy => ht y (List.mem_cons_of_mem _ hy)) (fun y hy => he y (List.mem_cons_of_mem _ hy)) (by simp only [List.length_append, List.length_cons, List.length_nil]; lia)
   refine ⟨x1, ?_⟩
   rw [if_pos rfl, he x (List.mem_cons_self ..) q acc]
   simp only [zZ.calm, zZ.bind_ok]
   unfold c8
   simp only [iW, sZ]
   rw [if_pos (by show acc.length ≤ 16777216; lia), zZ.bind_ok, r, List.filter_cons, if_pos q, List.map_cons, List.append_assoc]
   rfl
theorem sW : im 0 6 1 = aP (List.range 6) := by kernel_rfl
theorem xg : Builtin.Range.small 0 6 1 = true := by decide +kernel
noncomputable abbrev R6 : St → zZ V := aC (aj (aa (V.int 6)) (aa [])) ek
theorem t4 {j : Nat} {tests : St → zZ Bool} {elt : St → zZ V} {L : List (Option V)} {H : List O} (hL : L.length = j) : bI j R6 tests elt ⟨L, H⟩ = (c0 j tests elt none (H ++ [O.range 0 6 1]).length (aP (List.range 6)) ⟨L ++ [none], (H ++ [O.range 0 6 1]) ++ [O.list []]⟩).bind fun _ aq => .ok (.ref (H ++ [O.range 0 6 1]).length) (fb j aq) := by
 have e : R6 ⟨L, H⟩ = .ok (.ref H.length) ⟨L, H ++ [.range 0 6 1]⟩ := rfl
 unfold bI
 rw [e, zZ.bind_ok]
 have hi : bY (.ref H.length) (H ++ [O.range 0 6 1]) = some (aP (List.range 6), none) := by
  rw [ck (iW ..)]
  unfold jj
  simp only [xg, if_true, sW]
 simp only [hi]
 rw [if_pos hL]
theorem iz (p : V → Bool) (q : Nat → Bool) (h : ∀ k : Nat, p (.int (k : Int)) = q k) : ∀ r : List Nat, (aP r).filter p = aP (r.filter q)
 | [] => rfl
 | a :: r => by
  show (V.int a :: aP r).filter p = _
  rw [List.filter_cons, List.filter_cons, h a, iz p q h r]
  cases q a <;> rfl
theorem jL {r : List Nat} {v : V} (h : v ∈ aP r) : ∃ k ∈ r, v = .int ((k : Nat) : Int) := by
 unfold aP at h
 obtain ⟨k, hk, rfl⟩ := List.mem_map.mp h
 exact ⟨k, hk, rfl⟩
theorem de.app {H : List O} {l : Nat} {par : Nat → Option Nat} (h : de H l par) (X : List O) : de (H ++ X) l par := by
 obtain ⟨ls, h1, h2, h3⟩ := h
 exact ⟨ls, aE h1, h2, fun k hk => by obtain ⟨m, r, a, b⟩ := h3 k hk; exact ⟨m, r, a, aE b⟩⟩
theorem j3.app {H : List O} {l : Nat} {par : Nat → Option Nat} (h : j3 H l par) (X : List O) : j3 (H ++ X) l par := by
 obtain ⟨ls, h1, h2, h3⟩ := h
 exact ⟨ls, aE h1, h2, fun k hk => by obtain ⟨m, c, d, i, j, p, a, b1, b2, b3, b4, b5, b6, b⟩ := h3 k hk; exact ⟨m, c, d, i, j, p, a, b1, b2, b3, b4, b5, b6, aE b⟩⟩
noncomputable def zI (par : Nat → Option Nat) : List Nat := (List.range 6).map (zJ par 7)
noncomputable def yX (f : Nat → Nat) : V → V
 | .int k => .int ((f k.toNat : Nat) : Int)
 | v => v
theorem nM (f : Nat → Nat) : ∀ r : List Nat, (aP r).map (yX f) = aP (r.map f)
 | [] => rfl
 | a :: r => by
  show yX f (.int a) :: (aP r).map (yX f) = _
  rw [nM f r]
  show V.int ((f ((a : Nat) : Int).toNat : Nat) : Int) :: _ = _
  rw [Int.toNat_natCast]; rfl
section
variable {par : Nat → Option Nat}
theorem xp (hp : ∀ k p, par k = some p → p < 6) {H : List O} (h : de H 1 par) {v0 v1 v2 v3 v5 : Option V} :
  bI 6 R6 (aa true) (aC (aj (ai 4) (aj (ai 6) (aa []))) (bJ mz)) ⟨[v0, v1, v2, v3, some (.ref 1), v5], H⟩ = .ok (.ref (H.length + 1)) ⟨[v0, v1, v2, v3, some (.ref 1), v5], H ++ [.range 0 6 1, .list (aP (zI par))]⟩ := by
 refine (t4 (j := 6) (L := [v0, v1, v2, v3, some (.ref 1), v5]) rfl).trans ?_
 obtain ⟨x1, r⟩ := eP (j := 6) (tests := aa true) (elt := aC (aj (ai 4) (aj (ai 6) (aa []))) (bJ mz)) (src := none) (P := H ++ [.range 0 6 1]) (L := [v0, v1, v2, v3, some (.ref 1), v5]) rfl (fun _ => true) (yX (zJ par 7)) (fun _ => rfl) (aP (List.range 6)) [] none (fun x hx acc => rfl) (fun x hx _ acc => by
  obtain ⟨k, hk, rfl⟩ := jL hx
  obtain ⟨τ, q1, q2⟩ := xD ((h.app [.range 0 6 1]).app [.list acc]) hp (List.mem_range.mp hk)
  rw [bW (ms := aj (ai 4) (aj (ai 6) (aa []))) (vs := [.ref 1, .int k]) (ae := ⟨[v0, v1, v2, v3, some (.ref 1), v5] ++ [some (.int k)], H ++ [.range 0 6 1] ++ [.list acc]⟩) rfl]
  refine (cm (m := mz) (vs := [.ref 1, .int k]) (σ := ⟨[v0, v1, v2, v3, some (.ref 1), v5] ++ [some (.int k)], H ++ [O.range 0 6 1] ++ [O.list acc]⟩) q1).trans ?_
  rw [q2]
  show _ = zZ.ok (V.int ((zJ par 7 ((k : Nat) : Int).toNat : Nat) : Int)) _
  rw [Int.toNat_natCast]) (by rw [eW, List.length_range]; decide)
 rw [r, zZ.bind_ok, dL (j := 6) (L := [v0, v1, v2, v3, some (.ref 1), v5]) rfl, show (aP (List.range 6)).filter (fun _ => true) = aP (List.range 6) from rfl, nM, List.nil_append, List.length_append, List.append_assoc]
 rfl
noncomputable abbrev uc : St → zZ V := (bI 7 R6 (aB (aW CmpOp.Eq (bp br (ai 5) (ai 7)) (ai 6))) (ai 7))
theorem xl {v0 v1 v2 v3 v4 : Option V} {e dd : Nat} {H : List O} (h : H[e]? = some (.list (aP (zI par)))) :
  uc ⟨[v0, v1, v2, v3, v4, some (.ref e), some (.int dd)], H⟩ = .ok (.ref (H.length + 1)) ⟨[v0, v1, v2, v3, v4, some (.ref e), some (.int dd)], H ++ [.range 0 6 1, .list (aP (zA par dd))]⟩ := by
 refine (t4 (j := 7) (L := [v0, v1, v2, v3, v4, some (.ref e), some (.int dd)]) rfl).trans ?_
 obtain ⟨x1, r⟩ := eP (j := 7) (tests := aB (aW CmpOp.Eq (bp br (ai 5) (ai 7)) (ai 6))) (elt := ai 7) (src := none) (P := H ++ [.range 0 6 1]) (L := [v0, v1, v2, v3, v4, some (.ref e), some (.int dd)]) rfl (fun v => match v with | .int k => decide (zJ par 7 k.toNat = dd) | _ => false) id (fun _ => rfl) (aP (List.range 6)) [] none (fun x hx acc => by
  obtain ⟨k, hk, rfl⟩ := jL hx
  have hk6 := List.mem_range.mp hk
  have q : bp br (ai 5) (ai 7) ⟨[v0, v1, v2, v3, v4, some (.ref e), some (.int dd)] ++ [some (.int k)], H ++ [.range 0 6 1] ++ [.list acc]⟩ = .ok (.int (zJ par 7 k : Nat)) ⟨[v0, v1, v2, v3, v4, some (.ref e), some (.int dd)] ++ [some (.int k)], H ++ [.range 0 6 1] ++ [.list acc]⟩ := by
   refine (bq (aI (v := .ref e) rfl) (aI (v := .int k) rfl)).trans ?_
   refine item_at (xs := aP (zI par)) (aE (aE h)) (by lia) ?_
   unfold aP zI
   rw [List.getElem?_map, List.getElem?_map, List.getElem?_range hk6]; rfl
  refine bM ((bq q (aI (v := .int dd) rfl)).trans ?_)
  rw [eq_int]
  show _ = zZ.ok (V.bool (decide (zJ par 7 ((k : Nat) : Int).toNat = dd))) _
  rw [Int.toNat_natCast]
  congr 2
  by_cases e : zJ par 7 k = dd
  ·rw [e, beq_self_eq_true, decide_eq_true rfl]
  ·rw [decide_eq_false e, beq_eq_false_iff_ne]; lia) (fun x hx _ acc => rfl) (by rw [eW, List.length_range]; decide)
 rw [r, zZ.bind_ok, dL (j := 7) (L := [v0, v1, v2, v3, v4, some (.ref e), some (.int dd)]) rfl, List.map_id, iz _ (fun k => decide (zJ par 7 k = dd)) (fun k => by simp only [Int.toNat_natCast]), List.nil_append, List.length_append, List.append_assoc]
 rfl
theorem qx {v0 v1 v2 v3 v4 : Option V} {e : Nat} {P : List O} (h : P[e]? = some (.list (aP (zI par)))) : ∀ (ks : List Nat) (ps : List (Nat × List Nat)) (Z : List O) (x0 : Option V), (∀ p ∈ ps, ∃ i, p.1 = P.length + 1 + i ∧ Z[i]? = some (.list (aP p.2))) → Z.all noDict = true → ps.length + ks.length ≤ 100 →
  ∃ (qs : List (Nat × List Nat)) (Z' : List O) (x1 : Option V), c0 6 (aa true) uc none P.length (aP ks) ⟨[v0, v1, v2, v3, v4, some (.ref e)] ++ [x0], P ++ (.list (ps.map fun p => V.ref p.1) :: Z)⟩ = .ok () ⟨[v0, v1, v2, v3, v4, some (.ref e)] ++ [x1], P ++ (.list (qs.map fun p => V.ref p.1) :: Z')⟩ ∧ (∀ p ∈ qs, ∃ i, p.1 = P.length + 1 + i ∧ Z'[i]? = some (.list (aP p.2))) ∧ Z'.all noDict = true ∧ qs.map (·.2) = ps.map (·.2) ++ ks.map (zA par)
 | [], ps, Z, x0, h1, h2, _ => ⟨ps, Z, x0, by show (if dM none (P ++ (O.list (ps.map fun p => V.ref p.1) :: Z)) = true then _ else _) = _; rw [if_pos (show dM none (P ++ (O.list (ps.map fun p => V.ref p.1) :: Z)) = true from rfl)], h1, h2, by simp⟩
 | k :: ks, ps, Z, x0, h1, h2, h3 => by
  simp only [List.length_cons] at h3
  have hlen : (P ++ (O.list (ps.map fun p => V.ref p.1) :: Z)).length = P.length + 1 + Z.length := by rw [List.length_append, List.length_cons]; lia
  have e1 := xl (par := par) (v0 := v0) (v1 := v1) (v2 := v2) (v3 := v3) (v4 := v4) (e := e) (dd := k) (H := P ++ (.list (ps.map fun p => V.ref p.1) :: Z)) (aE h)
  rw [hlen] at e1
  obtain ⟨qs, Z', x1, r, r1, r2, r3⟩ := qx h ks (ps ++ [(P.length + 1 + Z.length + 1, zA par k)]) (Z ++ [.range 0 6 1, .list (aP (zA par k))]) (some (.int k)) (fun p hp => by
   rcases List.mem_append.mp hp with hp | hp
   ·obtain ⟨i, q1, q2⟩ := h1 p hp
    exact ⟨i, q1, aE q2⟩
   ·simp at hp; subst hp
    exact ⟨Z.length + 1, by lia, rT ..⟩) (by rw [List.all_append, h2]; rfl) (by simp only [List.length_append, List.length_cons, List.length_nil]; lia)
  refine ⟨qs, Z', x1, ?_, r1, r2, ?_⟩
  ·show c0 _ _ _ _ _ (.int k :: aP ks) _ = _
   rw [c0, if_pos (show dM none (P ++ (O.list (ps.map fun p => V.ref p.1) :: Z)) = true from rfl)]
   unfold ao
   simp only [zZ.bind_ok, jD (j := 6) (L := [v0, v1, v2, v3, v4, some (.ref e)]) rfl]
   rw [show aa true ⟨[v0, v1, v2, v3, v4, some (.ref e)] ++ [some (V.int k)], P ++ (O.list (ps.map fun p => V.ref p.1) :: Z)⟩ = .ok true ⟨[v0, v1, v2, v3, v4, some (.ref e)] ++ [some (V.int k)], P ++ (O.list (ps.map fun p => V.ref p.1) :: Z)⟩ from rfl]
   simp only [zZ.calm, zZ.bind_ok, if_true]
   rw [show [v0, v1, v2, v3, v4, some (V.ref e)] ++ [some (V.int k)] = [v0, v1, v2, v3, v4, some (V.ref e), some (V.int k)] from rfl, e1]
   simp only [zZ.calm, zZ.bind_ok]
   have hat : ((P ++ (O.list (ps.map fun p => V.ref p.1) :: Z)) ++ [.range 0 6 1, .list (aP (zA par k))])[P.length]? = some (.list (ps.map fun p => V.ref p.1)) := aE (iW ..)
   unfold c8
   simp only [hat]
   rw [if_pos (by rw [List.length_map]; show ps.length ≤ 16777216; lia), zZ.bind_ok, List.append_assoc, List.cons_append, sZ]
   rw [List.map_append] at r
   exact r
  ·rw [r3, List.map_append, List.append_assoc]; rfl
theorem xo {v0 v1 v2 v3 v4 : Option V} {e : Nat} {H : List O} (h : H[e]? = some (.list (aP (zI par)))) :
  ∃ (ps : List (Nat × List Nat)) (Z : List O), bI 6 R6 (aa true) uc ⟨[v0, v1, v2, v3, v4, some (.ref e)], H⟩ = .ok (.ref (H.length + 1)) ⟨[v0, v1, v2, v3, v4, some (.ref e)], (H ++ [.range 0 6 1]) ++ (.list (ps.map fun p => V.ref p.1) :: Z)⟩ ∧ (∀ p ∈ ps, ∃ i, p.1 = (H ++ [O.range 0 6 1]).length + 1 + i ∧ Z[i]? = some (.list (aP p.2))) ∧ Z.all noDict = true ∧ ps.map (·.2) = (List.range 6).map (zA par) := by
 obtain ⟨ps, Z, x1, r, r1, r2, r3⟩ := qx (par := par) (v0 := v0) (v1 := v1) (v2 := v2) (v3 := v3) (v4 := v4) (aE (X := [O.range 0 6 1]) h) (List.range 6) [] [] none (fun p hp => by cases hp) rfl (by rw [List.length_range]; decide)
 refine ⟨ps, Z, ?_, r1, r2, r3⟩
 refine (t4 (j := 6) (L := [v0, v1, v2, v3, v4, some (.ref e)]) rfl).trans ?_
 have r' : c0 6 (aa true) uc none (H ++ [O.range 0 6 1]).length (aP (List.range 6)) ⟨[v0, v1, v2, v3, v4, some (.ref e)] ++ [none], (H ++ [.range 0 6 1]) ++ [.list []]⟩ = _ := r
 rw [r', zZ.bind_ok, dL (j := 6) (L := [v0, v1, v2, v3, v4, some (.ref e)]) rfl, List.length_append]
 rfl
end
theorem ne_data {a b : Nat} {D D' : PyData} {σ : St} (ha : dataOf 8 σ.heap (.ref a) = some D) (hb : dataOf 8 σ.heap (.ref b) = some D') (hs : SeqAt.shaped D = true) (hs' : SeqAt.shaped D' = true) : j4 .NotEq (.ref a) (.ref b) σ = .ok (.bool (!PyData.eqv D D')) σ := by
 show mZ σ ((zH σ.heap (.ref a) (.ref b)).map (!·)) = _
 unfold zH
 rw [ha, hb]
 simp only [Option.bind_some, hs, hs', Bool.and_self, if_true]
 rfl
theorem ww (r : List Nat) : PyData.eqv (fe r) (fe []) = r.isEmpty := by
 cases r <;> rfl
theorem ne_bool (a b : Bool) (σ : St) : j4 .NotEq (.bool a) (.bool b) σ = .ok (.bool (!(a == b))) σ := by
 cases a <;> cases b <;> rfl
noncomputable abbrev TC3 : St → zZ Bool := aB (aW CmpOp.NotEq (ai 6) (bu (aa [])))
section
variable {par : Nat → Option Nat}
theorem mc {L : List (Option V)} (hL : L.length = 6) {b : Nat} {H : List O} {items : List V} (hb : H[b]? = some (.list items)) : ∀ (ps : List (Nat × List Nat)) (acc : List V) (Z : List O) (x0 : Option V), (∀ p ∈ ps, H[p.1]? = some (.list (aP p.2))) → Z.all noDict = true → acc.length + ps.length ≤ 100 →
  ∃ (Z' : List O) (x1 : Option V), c0 6 TC3 (ai 6) (some (b, .list items)) H.length (ps.map fun p => V.ref p.1) ⟨L ++ [x0], H ++ (.list acc :: Z)⟩ = .ok () ⟨L ++ [x1], H ++ (.list (acc ++ (ps.filter fun p => !p.2.isEmpty).map fun p => V.ref p.1) :: Z')⟩ ∧ Z'.all noDict = true
 | [], acc, Z, x0, _, h2, _ => ⟨Z, x0, by rw [List.map_nil, c0, if_pos (bC (aE hb))]; simp, h2⟩
 | p :: ps, acc, Z, x0, h1, h2, h3 => by
  simp only [List.length_cons] at h3
  have hl6 : (L ++ [some (V.ref p.1)])[6]? = some (some (.ref p.1)) := by rw [List.getElem?_append_right (by lia), hL]; rfl
  have e1 : ai 6 ⟨L ++ [some (V.ref p.1)], H ++ (.list acc :: Z)⟩ = .ok (.ref p.1) ⟨L ++ [some (V.ref p.1)], H ++ (.list acc :: Z)⟩ := aI hl6
  have e2 := cN (ms := aa []) (vs := []) (σ := ⟨L ++ [some (V.ref p.1)], H ++ (.list acc :: Z)⟩) (ae := ⟨L ++ [some (V.ref p.1)], H ++ (.list acc :: Z)⟩) rfl (by show 0 ≤ 1000; decide)
  have d1 : dataOf 8 ((H ++ (.list acc :: Z)) ++ [.list []]) (.ref p.1) = some (fe p.2) := eO (aE (aE (h1 p (List.mem_cons_self ..))))
  have d2 : dataOf 8 ((H ++ (.list acc :: Z)) ++ [.list []]) (.ref (H ++ (.list acc :: Z)).length) = some (fe []) := eO (l := []) (iW ..)
  have t : TC3 ⟨L ++ [some (V.ref p.1)], H ++ (.list acc :: Z)⟩ = .ok (!p.2.isEmpty) ⟨L ++ [some (V.ref p.1)], H ++ (.list acc :: (Z ++ [.list []]))⟩ := by
   refine bM ((bq e1 e2).trans ?_)
   have := ne_data (σ := ⟨L ++ [some (V.ref p.1)], (H ++ (.list acc :: Z)) ++ [.list []]⟩) d1 d2 (shaped_ints _) (shaped_ints _)
   rw [ww] at this
   refine this.trans ?_
   rw [List.append_assoc, List.cons_append]
  rw [List.map_cons, c0, if_pos (bC (aE hb))]
  unfold ao
  simp only [zZ.bind_ok, jD hL]
  rw [t]
  simp only [zZ.calm, zZ.bind_ok]
  have hz : (Z ++ [O.list []]).all noDict = true := by rw [List.all_append, h2]; rfl
  cases q : p.2.isEmpty with
  | true =>
   obtain ⟨Z', x1, r, r2⟩ := mc hL hb ps acc (Z ++ [.list []]) (some (.ref p.1)) (fun z hz => h1 z (List.mem_cons_of_mem _ hz)) hz (by lia)
   refine ⟨Z', x1, ?_, r2⟩
   rw [Bool.not_true, if_neg (by decide), r, List.filter_cons, if_neg (by rw [q]; decide)]
  | false =>
   obtain ⟨Z', x1, r, r2⟩ := mc hL hb ps (acc ++ [.ref p.1]) (Z ++ [.list []]) (some (.ref p.1)) (fun z hz => h1 z (List.mem_cons_of_mem _ hz)) hz (by simp only [List.length_append, List.length_cons, List.length_nil]; lia)
   refine ⟨Z', x1, ?_, r2⟩
   rw [Bool.not_false, if_pos rfl]
   rw [show ai 6 ⟨L ++ [some (V.ref p.1)], H ++ (.list acc :: (Z ++ [.list []]))⟩ = .ok (.ref p.1) ⟨L ++ [some (V.ref p.1)], H ++ (.list acc :: (Z ++ [.list []]))⟩ from aI hl6]
   simp only [zZ.calm, zZ.bind_ok]
   unfold c8
   simp only [iW, sZ]
   rw [if_pos (by show acc.length ≤ 16777216; lia), zZ.bind_ok, r, List.filter_cons, if_pos (by rw [q]; rfl), List.map_cons, List.append_assoc]
   rfl
theorem xn {L : List (Option V)} (hL : L.length = 6) {b : Nat} (h3 : L[3]? = some (some (.ref b))) {H : List O} {ps : List (Nat × List Nat)} (hb : H[b]? = some (.list (ps.map fun p => V.ref p.1))) (hps : ∀ p ∈ ps, H[p.1]? = some (.list (aP p.2))) (hl : ps.length ≤ 100) :
  ∃ Z : List O, bI 6 (ai 3) TC3 (ai 6) ⟨L, H⟩ = .ok (.ref H.length) ⟨L, H ++ (.list ((ps.filter fun p => !p.2.isEmpty).map fun p => V.ref p.1) :: Z)⟩ ∧ Z.all noDict = true := by
 obtain ⟨Z, x1, r, r2⟩ := mc hL hb ps [] [] none hps rfl (by simpa using hl)
 refine ⟨Z, ?_, r2⟩
 unfold bI
 rw [aI h3, zZ.bind_ok]
 have hi : bY (.ref b) H = some (ps.map fun p => V.ref p.1, some (b, .list (ps.map fun p => V.ref p.1))) := by
  exact ck hb
 simp only [hi]
 rw [if_pos hL, r, zZ.bind_ok, dL hL, List.nil_append]
theorem mI (hp : ∀ k p, par k = some p → p < 6) {d : Nat} (hd : d ≤ 6) (h1 : ∀ j, j < d → zA par j ≠ []) (h2 : zA par d = []) : ((List.range 6).map (zA par)).filter (fun r => !r.isEmpty) = (List.range d).map (zA par) := by
 have h3 : ∀ m, d + m ≤ 6 → zA par (d + m) = [] := by
  intro m
  induction m with
  | zero => exact fun _ => h2
  | succ m ih => exact fun hm => ux (d := d + m) hp (by lia) (ih (by lia))
 have e : List.range 6 = List.range d ++ (List.range (6 - d)).map (d + ·) := by rw [← List.range_add, show d + (6 - d) = 6 by lia]
 rw [e, List.map_append, List.filter_append]
 have a : ((List.range d).map (zA par)).filter (fun r => !r.isEmpty) = (List.range d).map (zA par) := by
  rw [List.filter_eq_self]
  intro r hr
  obtain ⟨j, hj, rfl⟩ := List.mem_map.mp hr
  have := h1 j (List.mem_range.mp hj)
  cases q : zA par j with
  | nil => exact absurd q this
  | cons => rfl
 have b : (((List.range (6 - d)).map (d + ·)).map (zA par)).filter (fun r => !r.isEmpty) = [] := by
  rw [List.filter_eq_nil_iff]
  intro r hr
  obtain ⟨j, hj, rfl⟩ := List.mem_map.mp hr
  obtain ⟨m, hm, rfl⟩ := List.mem_map.mp hj
  have := List.mem_range.mp hm
  rw [h3 m (by lia)]; decide
 rw [a, b, List.append_nil]
theorem fold_max : ∀ (ns : List Int) (n : Int), (ns.foldl (fun a b => if b > a then b else a) n = n ∨ ns.foldl (fun a b => if b > a then b else a) n ∈ ns) ∧ n ≤ ns.foldl (fun a b => if b > a then b else a) n ∧ ∀ x ∈ ns, x ≤ ns.foldl (fun a b => if b > a then b else a) n
 | [], n => ⟨.inl rfl, Int.le_refl _, fun x h => by cases h⟩
 | a :: ns, n => by
  rw [List.foldl_cons]
  obtain ⟨h1, h2, h3⟩ := fold_max ns (if a > n then a else n)
  have q1 : n ≤ (if a > n then a else n) := by split <;> lia
  have q2 : a ≤ (if a > n then a else n) := by split <;> lia
  refine ⟨?_, by lia, fun x hx => ?_⟩
  ·rcases h1 with h | h
   ·by_cases e : a > n
    ·rw [if_pos e] at h ⊢; exact .inr (by rw [h]; exact List.mem_cons_self ..)
    ·rw [if_neg e] at h ⊢; exact .inl h
   ·exact .inr (List.mem_cons_of_mem _ h)
  ·rcases List.mem_cons.mp hx with rfl | hx
   ·lia
   ·exact h3 x hx
theorem vJ {L : List (Option V)} {e : Nat} {H : List O} (h5 : L[5]? = some (some (.ref e))) (h : H[e]? = some (.list (aP (zI par)))) {ring : Bool} (hr : (ring = true ∧ ∃ k, k < 6 ∧ zJ par 7 k = 7) ∨ (ring = false ∧ ∀ k, k < 6 → zJ par 7 k ≤ 5)) :
  aW CmpOp.Eq (aC (aj (ai 5) (aa [])) tB) (aa (V.int 7)) ⟨L, H⟩ = .ok (.bool ring) ⟨L, H⟩ := by
 have hi : fP (aP (zI par)) = some (((zJ par 7 0 : Nat) : Int) :: [((zJ par 7 1 : Nat) : Int), ((zJ par 7 2 : Nat) : Int), ((zJ par 7 3 : Nat) : Int), ((zJ par 7 4 : Nat) : Int), ((zJ par 7 5 : Nat) : Int)]) := by
  rw [jO]; rfl
 obtain ⟨m1, m2, m3⟩ := fold_max [((zJ par 7 1 : Nat) : Int), ((zJ par 7 2 : Nat) : Int), ((zJ par 7 3 : Nat) : Int), ((zJ par 7 4 : Nat) : Int), ((zJ par 7 5 : Nat) : Int)] ((zJ par 7 0 : Nat) : Int)
 have e1 : aC (aj (ai 5) (aa [])) tB ⟨L, H⟩ = .ok (.int ([((zJ par 7 1 : Nat) : Int), ((zJ par 7 2 : Nat) : Int), ((zJ par 7 3 : Nat) : Int), ((zJ par 7 4 : Nat) : Int), ((zJ par 7 5 : Nat) : Int)].foldl (fun a b => if b > a then b else a) ((zJ par 7 0 : Nat) : Int))) ⟨L, H⟩ := by
  rw [bW (aX (aI h5) (ms := aa []) rfl)]
  unfold tB
  rw [gc_k, show ([] : List V).isEmpty = true from rfl, cond_true, yY, iV h, hi]; rfl
 refine (bq e1 (mr := aa (V.int 7)) rfl).trans ?_
 rw [eq_int]
 congr 2
 generalize [((zJ par 7 1 : Nat) : Int), ((zJ par 7 2 : Nat) : Int), ((zJ par 7 3 : Nat) : Int), ((zJ par 7 4 : Nat) : Int), ((zJ par 7 5 : Nat) : Int)].foldl (fun a b => if b > a then b else a) ((zJ par 7 0 : Nat) : Int) = mx at *
 have hall : ∀ k, k < 6 → ((zJ par 7 k : Nat) : Int) ≤ mx := zq m2 (m3 _ (by simp)) (m3 _ (by simp)) (m3 _ (by simp)) (m3 _ (by simp)) (m3 _ (by simp))
 have hone : ∃ k, k < 6 ∧ mx = ((zJ par 7 k : Nat) : Int) := by
  simp only [List.mem_cons, List.not_mem_nil, or_false] at m1
  rcases m1 with h | h | h | h | h | h
  ·exact ⟨0, by lia, h⟩
  ·exact ⟨1, by lia, h⟩
  ·exact ⟨2, by lia, h⟩
  ·exact ⟨3, by lia, h⟩
  ·exact ⟨4, by lia, h⟩
  ·exact ⟨5, by lia, h⟩
 obtain ⟨k0, q0, q1⟩ := hone
 rcases hr with ⟨rfl, k, hk, e⟩ | ⟨rfl, hk⟩
 ·have := hall k hk
  have := uH (par := par) 7 k0
  rw [beq_iff_eq]; lia
 ·have := hk k0 q0
  rw [beq_eq_false_iff_ne]; lia
theorem rk (o : Option Nat) (c d : Int) (x : PySem.Str) (p : Int) : gw (ev (fp o) c d x p) = true := by cases o <;> rfl
theorem sA {L : List (Option V)} (hL : L.length = 6) (h4 : L[4]? = some (some (.ref 1))) {H : List O} (h : j3 H 1 par) (hd : H.all noDict = true) :
  bI 6 R6 (uu (aB (aC (aj (bp br (ai 4) (ai 6)) (aj (ai 6) (aa []))) (bQ jM)))) (ai 6) ⟨L, H⟩ = .ok (.ref (H.length + 1)) ⟨L, H ++ [.range 0 6 1, .list []]⟩ := by
 refine (t4 hL).trans ?_
 obtain ⟨x1, r⟩ := eP (j := 6) (tests := uu (aB (aC (aj (bp br (ai 4) (ai 6)) (aj (ai 6) (aa []))) (bQ jM)))) (elt := ai 6) (src := none) (P := H ++ [.range 0 6 1]) (L := L) hL (fun _ => false) id (fun _ => rfl) (aP (List.range 6)) [] none (fun x hx acc => by
  obtain ⟨k, hk, rfl⟩ := jL hx
  have hk6 := List.mem_range.mp hk
  obtain ⟨ls, f1, f2, f3⟩ := h
  obtain ⟨m, c, d, i, j, p, g1, g2, g3, g4, g5, g6, g7, g8⟩ := f3 k hk6
  have l6 : (L ++ [some (V.int k)])[6]? = some (some (.int k)) := by rw [List.getElem?_append_right (by lia), hL]; rfl
  have l4 : (L ++ [some (V.int k)])[4]? = some (some (.ref 1)) := by rw [List.getElem?_append_left (by lia), h4]
  have q1 : bp br (ai 4) (ai 6) ⟨L ++ [some (.int k)], H ++ [.range 0 6 1] ++ [.list acc]⟩ = .ok (.ref m) ⟨L ++ [some (.int k)], H ++ [.range 0 6 1] ++ [.list acc]⟩ := by
   refine (bq (aI l4) (aI l6)).trans ?_
   exact item_at (aE (aE f1)) (by lia) (by rw [List.getElem?_map, g1]; rfl)
  obtain ⟨τ, z1, z2⟩ := xE g4 g5 (par := fp (par k)) (by cases par k <;> rfl) g2 g3 hk6 g6 g7
  have hm : (H ++ [O.range 0 6 1] ++ [O.list acc])[m]? = some (ev (fp (par k)) c d (pc i ++ pc j) p) := aE (aE g8)
  have hz : zm [.ref m, .int k] (H ++ [O.range 0 6 1] ++ [O.list acc]) = some ([.ref 0, .int k], [ev (fp (par k)) c d (pc i ++ pc j) p]) := by
   show (match (H ++ [O.range 0 6 1] ++ [O.list acc])[m]? with
    | some o => if gw o then some ([V.ref m, .int k].map (zr fun _ => 0), [o]) else none
    | none => none) = _
   simp only [hm, rk, if_true]
   rfl
  have hnd : (H ++ [O.range 0 6 1] ++ [O.list acc]).all noDict = true := by rw [List.all_append, List.all_append, hd]; rfl
  have q2 : aC (aj (bp br (ai 4) (ai 6)) (aj (ai 6) (aa []))) (bQ jM) ⟨L ++ [some (.int k)], H ++ [.range 0 6 1] ++ [.list acc]⟩ = .ok (.bool true) ⟨L ++ [some (.int k)], H ++ [.range 0 6 1] ++ [.list acc]⟩ := by
   rw [bW (aX q1 (aX (aI l6) (ms := aa []) rfl))]
   exact fV (σ := ⟨L ++ [some (.int k)], H ++ [.range 0 6 1] ++ [.list acc]⟩) hz hnd z1 z2 rfl
  unfold uu
  rw [bM q2]
  rfl) (fun x hx q acc => by cases q) (by rw [eW, List.length_range]; decide)
 rw [r, zZ.bind_ok, dL hL, show (aP (List.range 6)).filter (fun _ => false) = [] from rfl, List.length_append, List.append_assoc]
 rfl
end
theorem ri {p : Nat → Bool} {H : List O} (h : H.all (eB p) = true) : H.all noDict = true := by
 rw [List.all_eq_true] at h ⊢
 intro o ho
 have := h o ho
 cases o <;> first | rfl | cases this
theorem or_false {t u : St → zZ Bool} {σ ae aq : St} (h : t σ = .ok false ae) (h' : u ae = .ok false aq) : zu t u σ = .ok false aq := by
 unfold zu zE
 rw [h, zZ.bind_ok, if_neg (by decide), h']
noncomputable abbrev S319 : St → zZ F := (zE (zu (aB (aW CmpOp.NotEq (ai 1) (aW CmpOp.Eq (aC (aj (ai 5) (aa [])) tB) (aa (V.int 7))))) (zu (aB (aW CmpOp.NotEq (ai 2) (bI 6 (ai 3) TC3 (ai 6)))) (aa false))) (dg (aa (V.bool false))) (aa F.next))
noncomputable abbrev Z319 : St → zZ F := (dg (aW CmpOp.Eq (bI 6 R6 (uu (aB (aC (aj (bp br (ai 4) (ai 6)) (aj (ai 6) (aa []))) (bQ jM)))) (ai 6)) (bu (aa []))))
theorem xC (z : Addr) (s : List Int) (hs : s.length ≤ 63) : ∃ τ, wb z (ca s) [.top z] [] = .ok (.bool true) τ := by
 obtain ⟨τ0, r0, hF, hgood⟩ := xH z s hs
 have hp : ∀ k p, oW (ey s) k = some p → p < 6 := fun k p h => s0 h
 generalize oW (ey s) = par at hF hp
 have a1 : an (aC (aj (ai 0) (aa [])) (bJ (pb z (ca s)))) (ao 4) ⟨[some (.top z), none, none, none, none, none], []⟩ = .ok .next ⟨[some (.top z), none, none, none, some (.ref 1), none], τ0.heap⟩ := by
  refine bx (i := 4) (v := .ref 1) (ae := ⟨[some (.top z), none, none, none, none, none], τ0.heap⟩) ?_
  rw [bW (aX (aI (v := .top z) rfl) (ms := aa []) rfl)]
  exact cm (m := pb z (ca s)) r0
 obtain ⟨ring, d, e2, d6, hne, hlast, hring⟩ := ry hF.at hp hgood [some (.top z), none, none, none, some (.ref 1), none]
 generalize hG : τ0.heap ++ ((List.range d).map (fun j => O.list (aP (zA par j))) ++ [.list (eV τ0.heap.length d), .tup [.bool ring, .ref (τ0.heap.length + d)]]) = G at e2
 have rl : ((List.range d).map (fun j => O.list (aP (zA par j)))).length = d := by rw [List.length_map, List.length_range]
 have g1 : G[τ0.heap.length + (d + 1)]? = some (.tup [.bool ring, .ref (τ0.heap.length + d)]) := by
  rw [← hG, List.getElem?_append_right (Nat.le_add_right _ _), Nat.add_sub_cancel_left, List.getElem?_append_right (by rw [rl]; lia), rl, Nat.add_sub_cancel_left]; rfl
 have g2 : G[τ0.heap.length + d]? = some (.list (eV τ0.heap.length d)) := by
  rw [← hG, List.getElem?_append_right (Nat.le_add_right _ _), Nat.add_sub_cancel_left, List.getElem?_append_right (by rw [rl]; exact Nat.le_refl _), rl, Nat.sub_self]; rfl
 have g3 : ∀ j, j < d → G[τ0.heap.length + j]? = some (.list (aP (zA par j))) := fun j hj => by
  rw [← hG, List.getElem?_append_right (Nat.le_add_right _ _), Nat.add_sub_cancel_left, List.getElem?_append_left (by rw [rl]; exact hj), List.getElem?_map, List.getElem?_range hj]; rfl
 have gF : j3 G 1 par := hG ▸ hF.app _
 have gd : G.all noDict = true := by
  rw [← hG, List.all_append, ri hgood, List.all_append, Bool.true_and, Bool.and_eq_true]
  refine ⟨?_, rfl⟩
  rw [List.all_eq_true]
  intro o ho
  obtain ⟨j, _, rfl⟩ := List.mem_map.mp ho
  rfl
 have a2 : an (aC (aj (ai 4) (aa [])) (mX o9)) (pI [ao 1, ao 2]) ⟨[some (.top z), none, none, none, some (.ref 1), none], τ0.heap⟩ = .ok .next ⟨[some (.top z), some (.bool ring), some (.ref (τ0.heap.length + d)), none, some (.ref 1), none], G⟩ := by
  refine bX ((bW (aX (aI (v := .ref 1) rfl) (ms := aa []) rfl)).trans e2) ?_
  exact (wq g1).trans rfl
 have a3 := bx (i := 5) (xp hp gF.at (v0 := some (.top z)) (v1 := some (.bool ring)) (v2 := some (.ref (τ0.heap.length + d))) (v3 := none) (v5 := none))
 simp only [List.set_cons_succ, List.set_cons_zero] at a3
 have h1 : (G ++ [.range 0 6 1, .list (aP (zI par))])[G.length + 1]? = some (.list (aP (zI par))) := rT ..
 obtain ⟨ps, Z, c2, c3, c4, c5⟩ := xo (v0 := some (.top z)) (v1 := some (.bool ring)) (v2 := some (.ref (τ0.heap.length + d))) (v3 := none) (v4 := some (.ref 1)) h1
 have a4 := bx (i := 3) c2
 simp only [List.set_cons_succ, List.set_cons_zero] at a4
 generalize hK : (G ++ [O.range 0 6 1, .list (aP (zI par))] ++ [O.range 0 6 1]) ++ (O.list (ps.map fun p => V.ref p.1) :: Z) = K at a4
 have kG : ∀ {l : Nat} {o : O}, G[l]? = some o → K[l]? = some o := fun h => by
  rw [← hK]; exact aE (aE (aE h))
 have kb : K[(G ++ [O.range 0 6 1, .list (aP (zI par))]).length + 1]? = some (.list (ps.map fun p => V.ref p.1)) := by
  rw [← hK]
  have := iW (G ++ [O.range 0 6 1, .list (aP (zI par))] ++ [O.range 0 6 1]) Z (O.list (ps.map fun p => V.ref p.1))
  rw [List.length_append (bs := [O.range 0 6 1])] at this
  exact this
 have kps : ∀ p ∈ ps, K[p.1]? = some (.list (aP p.2)) := fun p hp' => by
  obtain ⟨i, q1, q2⟩ := c3 p hp'
  rw [← hK, q1, List.getElem?_append_right (by lia), show (G ++ [O.range 0 6 1, .list (aP (zI par))] ++ [O.range 0 6 1]).length + 1 + i - (G ++ [O.range 0 6 1, .list (aP (zI par))] ++ [O.range 0 6 1]).length = i + 1 by lia]
  exact q2
 have kd : K.all noDict = true := by
  simp only [← hK, List.all_append, List.all_cons, List.all_nil, gd, c4]; rfl
 have k1 : K[G.length + 1]? = some (.list (aP (zI par))) := by
  rw [← hK]; exact aE (aE h1)
 have hpl : ps.length = 6 := by
  have := congrArg List.length c5
  rw [List.length_map, List.length_map, List.length_range] at this; exact this
 obtain ⟨Z2, b1, b2⟩ := xn (L := [some (.top z), some (.bool ring), some (.ref (τ0.heap.length + d)), some (.ref ((G ++ [O.range 0 6 1, .list (aP (zI par))]).length + 1)), some (.ref 1), some (.ref (G.length + 1))]) rfl rfl kb kps (by lia)
 have t1 : aB (aW CmpOp.NotEq (ai 1) (aW CmpOp.Eq (aC (aj (ai 5) (aa [])) tB) (aa (V.int 7)))) ⟨[some (.top z), some (.bool ring), some (.ref (τ0.heap.length + d)), some (.ref ((G ++ [O.range 0 6 1, .list (aP (zI par))]).length + 1)), some (.ref 1), some (.ref (G.length + 1))], K⟩ = .ok false ⟨[some (.top z), some (.bool ring), some (.ref (τ0.heap.length + d)), some (.ref ((G ++ [O.range 0 6 1, .list (aP (zI par))]).length + 1)), some (.ref 1), some (.ref (G.length + 1))], K⟩ := by
  refine bM ((bq (aI (v := .bool ring) rfl) (vJ rfl k1 hring)).trans ?_)
  rw [ne_bool, beq_self_eq_true]; rfl
 have hrow : (ps.filter fun p => !p.2.isEmpty).map (·.2) = (List.range d).map (zA par) := by
  have := mI hp d6 hne hlast
  rw [← c5, List.filter_map] at this
  exact this
 have D1 : dataOf 8 (K ++ (.list ((ps.filter fun p => !p.2.isEmpty).map fun p => V.ref p.1) :: Z2)) (.ref (τ0.heap.length + d)) = some (rv ((List.range d).map (zA par))) := by
  refine lD (ls := (List.range d).map (τ0.heap.length + ·)) ?_ (by rw [List.length_map, List.length_map]) (fun j k r q1 q2 => ?_)
  ·rw [aE (kG g2)]
   unfold eV
   rw [List.map_map]; rfl
  ·have hj : j < d := by
    have := (List.getElem?_eq_some_iff.mp q1).1
    rw [List.length_map, List.length_range] at this; exact this
   rw [List.getElem?_map, List.getElem?_range hj] at q1 q2
   cases q1; cases q2
   exact aE (kG (g3 j hj))
 have D2 : dataOf 8 (K ++ (.list ((ps.filter fun p => !p.2.isEmpty).map fun p => V.ref p.1) :: Z2)) (.ref K.length) = some (rv ((List.range d).map (zA par))) := by
  rw [← hrow]
  refine lD (ls := (ps.filter fun p => !p.2.isEmpty).map (·.1)) ?_ (by rw [List.length_map, List.length_map]) (fun j k r q1 q2 => ?_)
  ·rw [iW, List.map_map]; rfl
  ·rw [List.getElem?_map] at q1 q2
   cases q : (ps.filter fun p => !p.2.isEmpty)[j]? with
   | none => rw [q] at q1; cases q1
   | some p =>
    rw [q] at q1 q2
    cases q1; cases q2
    exact aE (kps p ((List.mem_filter.mp (List.mem_of_getElem? q)).1))
 have t2 : aB (aW CmpOp.NotEq (ai 2) (bI 6 (ai 3) TC3 (ai 6))) ⟨[some (.top z), some (.bool ring), some (.ref (τ0.heap.length + d)), some (.ref ((G ++ [O.range 0 6 1, .list (aP (zI par))]).length + 1)), some (.ref 1), some (.ref (G.length + 1))], K⟩ = .ok false ⟨[some (.top z), some (.bool ring), some (.ref (τ0.heap.length + d)), some (.ref ((G ++ [O.range 0 6 1, .list (aP (zI par))]).length + 1)), some (.ref 1), some (.ref (G.length + 1))], K ++ (.list ((ps.filter fun p => !p.2.isEmpty).map fun p => V.ref p.1) :: Z2)⟩ := by
  refine bM ((bq (aI (v := .ref (τ0.heap.length + d)) rfl) b1).trans ?_)
  have hsr := l8 ((List.range d).map (zA par))
  refine (ne_data D1 D2 hsr hsr).trans ?_
  rw [SeqAt.eqv_refl _ (SeqAt.canLay_of_shaped hsr)]; rfl
 have a5 : S319 ⟨[some (.top z), some (.bool ring), some (.ref (τ0.heap.length + d)), some (.ref ((G ++ [O.range 0 6 1, .list (aP (zI par))]).length + 1)), some (.ref 1), some (.ref (G.length + 1))], K⟩ = .ok .next ⟨[some (.top z), some (.bool ring), some (.ref (τ0.heap.length + d)), some (.ref ((G ++ [O.range 0 6 1, .list (aP (zI par))]).length + 1)), some (.ref 1), some (.ref (G.length + 1))], K ++ (.list ((ps.filter fun p => !p.2.isEmpty).map fun p => V.ref p.1) :: Z2)⟩ := by
  refine (d9 (or_false t1 (or_false t2 (u := aa false) rfl))).trans ?_
  rw [if_neg (by decide)]; rfl
 have hKF : j3 (K ++ (.list ((ps.filter fun p => !p.2.isEmpty).map fun p => V.ref p.1) :: Z2)) 1 par := by
  rw [← hK]
  exact (((gF.app _).app _).app _).app _
 have hKd : (K ++ (O.list ((ps.filter fun p => !p.2.isEmpty).map fun p => V.ref p.1) :: Z2)).all noDict = true := by
  simp only [List.all_append, List.all_cons, kd, b2]; rfl
 have c6 := sA (L := [some (.top z), some (.bool ring), some (.ref (τ0.heap.length + d)), some (.ref ((G ++ [O.range 0 6 1, .list (aP (zI par))]).length + 1)), some (.ref 1), some (.ref (G.length + 1))]) rfl rfl hKF hKd
 have c7 := cN (ms := aa []) (vs := []) (σ := ⟨[some (.top z), some (.bool ring), some (.ref (τ0.heap.length + d)), some (.ref ((G ++ [O.range 0 6 1, .list (aP (zI par))]).length + 1)), some (.ref 1), some (.ref (G.length + 1))], (K ++ (.list ((ps.filter fun p => !p.2.isEmpty).map fun p => V.ref p.1) :: Z2)) ++ [.range 0 6 1, .list []]⟩) (ae := ⟨[some (.top z), some (.bool ring), some (.ref (τ0.heap.length + d)), some (.ref ((G ++ [O.range 0 6 1, .list (aP (zI par))]).length + 1)), some (.ref 1), some (.ref (G.length + 1))], (K ++ (.list ((ps.filter fun p => !p.2.isEmpty).map fun p => V.ref p.1) :: Z2)) ++ [.range 0 6 1, .list []]⟩) rfl (by show 0 ≤ 1000; decide)
 have a6 : ∃ τ, Z319 ⟨[some (.top z), some (.bool ring), some (.ref (τ0.heap.length + d)), some (.ref ((G ++ [O.range 0 6 1, .list (aP (zI par))]).length + 1)), some (.ref 1), some (.ref (G.length + 1))], K ++ (.list ((ps.filter fun p => !p.2.isEmpty).map fun p => V.ref p.1) :: Z2)⟩ = .ok (.ret (.bool true)) τ := by
  refine ⟨_, eK ((bq c6 c7).trans (eq_data (D := fe []) ?_ ?_ (shaped_ints [])))⟩
  ·exact eO (l := []) (aE (rT ..))
  ·exact eO (l := []) (iW ..)
 obtain ⟨τ, a6⟩ := a6
 refine ⟨τ, du (b7 := []) (L := [some (.top z), none, none, none, none, none]) rfl rfl ?_⟩
 exact (aG a1).trans ((aG a2).trans ((aG a3).trans ((aG a4).trans ((aG a5).trans a6))))
theorem rc {vs : List Value} {ns : List Int} (h : IntsAre vs ns) (ρ : List Addr) : bL ρ (ca ns) vs := by
 induction h with
 | nil => exact .nil
 | cons n t _ ih => exact .cons ⟨t, rfl⟩ ih
theorem law_ends {prog p : Program} {loose : List Str} {w : World} {s : Shared} {mg mb : Str → Option Value} (X : (kH w.params).In s.heap) (R : TopRead p loose mg mb s.heap)
  {fa : Addr} (hmg : mg "law" = some (.ref fa)) {la : Addr} {vs : List Value} {ns : List Int} (hL : s.heap.IsList la vs.toArray) (hI : IntsAre vs ns) (hn : ns.length ≤ 63) {Q : Result → Shared → Prop}
  (hQ : ∀ s' : Shared, s.heap.StaysIn s'.heap → s'.gens = s.gens → s'.os = s.os → Q (.ok (.ret (.bool true))) s') :
  codeAny (model prog w) callerA (.call (.ref fa) ⟨[.ref la], []⟩) Q s := by
 have T : bB (KK w) s.heap mg mb := ⟨X, ⟨R.g, R.b, R.nolimit, R.builtins⟩, p, loose, R⟩
 have e : mg "law" = some (.ref 319) := mg_of X R.g (by kernel_rfl)
 have hfa : fa = 319 := by
  rw [hmg] at e
  cases e; rfl
 subst hfa
 obtain ⟨τ, hr⟩ := xC la ns hn
 have hm : ∃ o, s.heap.get? mainGlobals = some o := by
  obtain ⟨o, _, _, ho, _⟩ := R.g
  exact ⟨o, ho⟩
 have hS := u9 (prog := prog) T (z := la) (zs := ca ns) ⟨vs, hL, fun ρ => rc hI ρ⟩ callerA [] [] [] s [.top la] [.ref la] rfl rfl (by decide +kernel) (by decide +kernel) (fun e he => by cases he) (fun L h => by cases h)
  ⟨fun _ _ q => q, rfl, fun l o a h => by simp at h, List.nodup_nil, fun a h => (by cases h), fun l es ep a h => by simp at h, hm⟩ (.one rfl) (by rw [hr]; intro q; cases q)
 rw [hr] at hS
 refine codeAny_mono hS fun r s' ⟨x, ρ', h1, h2, h3⟩ => ?_
 have hx : x = .bool true := h2
 subst h1; subst hx
 exact hQ s' h3.rel.base h3.rest.1 h3.rest.2.2
end
end Mine
open PySem PySem.Spec PySem.Calls PySem.W PyProof.Rows
theorem PySem.Challenge.cw_qh0058_01_holds : PySem.Challenge.rw_qh0058_01.Holds := by
  refine Mine.head ?_
  intro w bg az mg mb G Y fa o pm cd doc dV kV ho hd hcd hD hmg hg args vals as hpre hlay hrd hwl hlo
  have KX := kIn_of Y
  refine Ground.open G ?_
  intro T B D TE TW
  clear Y D TE TW B hD hcd
  wrow_args hpre hlay hrd hwl hlo
  rename_i hn0 hn1
  rename (Heap.IsList _ _ _) => hL
  rename (IntsAre _ _) => hI
  refine enter_call ?_
  refine Mine.law_ends KX (topRead_of T) hmg hL hI (by omega) fun s' hst hgn hos => ?_
  refine ⟨.inl ⟨.bool true, .bool true, [], rfl, fun cls => rfl, .bool true, ?_, fun _ => ⟨.nil, fun a ha => nomatch ha⟩⟩, .of_keep hst, hos, .of_eq (hgn.trans hg)⟩
  exact postW_of (r := PySem.Challenge.rw_qh0058_01.row.toRowW) (X := true) (by rfl) (by first | kernel_rfl | rfl) rfl
