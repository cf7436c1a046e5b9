import PyProof.Rows.All
import Wide.All
import OpenK.AllK
import Wide.FinOn
import KE.KxPercentT
import PySem.Challenge.RW_rp0001_05
open PySem PySem.W PySem.Calls PySem.Spec PyProof.Rows
set_option linter.unusedVariables false
set_option linter.unusedSimpArgs false
set_option linter.unusedSectionVars false
set_option linter.deprecated false
set_option compiler.extract_closed false
set_option Elab.async false
set_option maxRecDepth 100000
set_option maxHeartbeats 8000000
namespace Mine
noncomputable def hd.sv (x:String) (t:Nat):Value:=.str (Str.ofString x) t
noncomputable def hd.de (P:Params) (x:String) (t:Nat) (v:Value):DictEntry:={ hash:=PyData.keyHash P (Str.ofString x),key:=.str (Str.ofString x) t,val:=v }
noncomputable def hd.fn (st:Stmt) (q:String) (m d:Value) (c:Addr):Obj:=match st with
 | .FunctionDef n args body _ _ _ sc _ _ _=>{ cls:=.type "function",data:=.func { name:=n,qualname:=Str.ofString q,params:=args,body:=.stmts body,scope:=sc,globals:=3,closure:=[],defaults:=d,kwdefaults:=.none,pyModule:=m,code:=.ref c } }
 | _=>default
noncomputable def hd.st (i:Nat):Stmt:=PySem.Challenge.pw_rp0001_05.main.body.getD i (.Pass default)
noncomputable def hd.isDef (x:Str):Stmt→Bool
 | .FunctionDef n _ _ _ _ _ _ _ _ _=>n == x
 | _=>false
noncomputable def hd.me (i:Nat) (x:String):Stmt:=match hd.st i with
 | .ClassDef _ _ _ b _ _ _ _ _ _ _=>(b.find? (hd.isDef (Str.ofString x))).getD (.Pass default)
 | s=>s
noncomputable def hd.k0 (P:Params) (r:Frag):Frag:=
 (3,{ cls:=.type "dict",data:=.dict #[hd.de P "__name__" 165 (hd.sv "law_rp0001_05" 573),hd.de P "__doc__" 166 (.none),hd.de P "__package__" 167 (.none),hd.de P "__loader__" 168 (.builtin "__main__.__loader__#opaque"),hd.de P "__spec__" 169 (.none),hd.de P "__annotations__" 170 (.ref 6),hd.de P "__builtins__" 171 (.ref 4),hd.de P "__file__" 173 (hd.sv "/claim/cut.py" 172),hd.de P "__cached__" 174 (.none),hd.de P "_wall" 193 (.ref 21),hd.de P "YaccError" 215 (.ref 31),hd.de P "_is_identifier" 221 (.ref 39),hd.de P "_IDENTIFIER" 223 (hd.sv "abcdefghijklmnopqrstuvwxyzABCDEFGHIJKLMNOPQRSTUVWXYZ0123456789_-" 222),hd.de P "_literal" 230 (.ref 46),hd.de P "Production" 323 (.ref 100),hd.de P "LRItem" 374 (.ref 135),hd.de P "rightmost_terminal" 383 (.ref 146),hd.de P "GrammarError" 399 (.ref 156),hd.de P "Grammar" 572 (.ref 283),hd.de P "_law_NAMES" 580 (.ref 294),hd.de P "_law_TOKENS" 586 (.ref 301),hd.de P "_law_SYMBOLS" 595 (.ref 302),hd.de P "_law_next" 602 (.ref 309),hd.de P "_law_row" 608 (.ref 314),hd.de P "_law_add" 614 (.ref 319),hd.de P "_law_chart" 620 (.ref 324),hd.de P "_law_joined" 633 (.ref 331),hd.de P "_law_fronts" 639 (.ref 336),hd.de P "_law_spans" 645 (.ref 341),hd.de P "_law_due" 651 (.ref 346),hd.de P "law" 657 (.ref 351)] 31 }) ::
 r
noncomputable def hd.k1 (P:Params) (r:Frag):Frag:=
 (38,{ cls:=.type "code",data:=.fields #[hd.sv "_is_identifier" 216,hd.sv "_is_identifier" 217,hd.sv "/claim/cut.py" 218,.int 7 0,.int 1 0,.int 0 0,.int 0 0,.int 3 0,.ref 35,.bool true,.int 181 0,.ref 36,.none,.none,.none,.ref 37,.int 219 0,.int 7 0,hd.sv "/claim/cut.py" 220] }) ::
 (39,hd.fn (hd.st 3) "_is_identifier" (hd.sv "ply.yacc" 194) (Value.none) 38) ::
 (45,{ cls:=.type "code",data:=.fields #[hd.sv "_literal" 224,hd.sv "_literal" 225,hd.sv "/claim/cut.py" 226,.int 10 0,.int 1 0,.int 0 0,.int 0 0,.int 3 0,.ref 40,.bool true,.int 181 0,.ref 41,.none,.ref 42,.ref 43,.ref 44,.int 228 0,.int 10 0,hd.sv "/claim/cut.py" 229] }) ::
 (46,hd.fn (hd.st 5) "_literal" (hd.sv "ply.yacc" 194) (Value.none) 45) ::
 (54,{ cls:=.type "tuple",data:=.seq #[hd.sv "right" 247,.int 0 248] }) ::
 (55,{ cls:=.type "tuple",data:=.seq #[.ref 54,.none,hd.sv "" 249,.int 0 250] }) ::
 (61,{ cls:=.type "code",data:=.fields #[hd.sv "__init__" 251,hd.sv "Production.__init__" 252,hd.sv "/claim/cut.py" 253,.int 18 0,.int 8 0,.int 0 0,.int 0 0,.int 3 0,.ref 56,.bool true,.int 181 0,.ref 57,.none,.ref 58,.ref 59,.ref 60,.int 263 0,.int 18 0,hd.sv "/claim/cut.py" 264] }) ::
 (62,hd.fn (hd.me 6 "__init__") "Production.__init__" (hd.sv "ply.yacc" 194) (Value.ref 55) 61) ::
 (82,{ cls:=.type "code",data:=.fields #[hd.sv "__len__" 280,hd.sv "Production.__len__" 281,hd.sv "/claim/cut.py" 282,.int 45 0,.int 1 0,.int 0 0,.int 0 0,.int 3 0,.ref 77,.bool true,.int 181 0,.ref 78,.none,.ref 79,.ref 80,.ref 81,.int 284 0,.int 45 0,hd.sv "/claim/cut.py" 285] }) ::
 (83,hd.fn (hd.me 6 "__len__") "Production.__len__" (hd.sv "ply.yacc" 194) (Value.none) 82) ::
 r
noncomputable def hd.k2 (P:Params) (r:Frag):Frag:=
 (99,{ cls:=.type "dict",data:=.dict #[hd.de P "__module__" 238 (hd.sv "ply.yacc" 194),hd.de P "__firstlineno__" 242 (.int 14 241),hd.de P "reduced" 244 (.int 0 243),hd.de P "lr0_added" 246 (.int 0 245),hd.de P "__init__" 265 (.ref 62),hd.de P "__str__" 272 (.ref 69),hd.de P "__repr__" 279 (.ref 76),hd.de P "__len__" 286 (.ref 83),hd.de P "__getitem__" 294 (.ref 90),hd.de P "bind" 302 (.ref 97),hd.de P "__static_attributes__" 316 (.ref 98),hd.de P "__dict__" 318 (.ref 101),hd.de P "__weakref__" 320 (.ref 102),hd.de P "__doc__" 321 (.none)] 4 }) ::
 r
noncomputable def hd.k3 (P:Params) (r:Frag):Frag:=
 (100,{ cls:=.type "type",data:=.cls { name:=Str.ofString "Production",bases:=[.type "object"],mro:=[.ref 100,.type "object"],ns:=99,qualname:=Str.ofString "Production" },slots:=#[some (.ref 47),none,some (hd.sv "Production" 231),some (hd.sv "Production" 239),some (.builtin "object.__new__"),some (.bool true)] }) ::
 (101,{ cls:=.type "getset_descriptor",data:=.fields #[hd.sv "__dict__" 317,.ref 100,.builtin "function.__dict__",.builtin "function.__dict__#set"] }) ::
 (102,{ cls:=.type "getset_descriptor",data:=.fields #[hd.sv "__weakref__" 319,.ref 100,.builtin "ExceptionGroup.__weakref__",.none] }) ::
 r
noncomputable def hd.k4 (P:Params) (r:Frag):Frag:=
 (117,{ cls:=.type "code",data:=.fields #[hd.sv "__init__" 336,hd.sv "LRItem.__init__" 337,hd.sv "/claim/cut.py" 338,.int 55 0,.int 3 0,.int 0 0,.int 0 0,.int 3 0,.ref 112,.bool true,.int 181 0,.ref 113,.none,.ref 114,.ref 115,.ref 116,.int 342 0,.int 55 0,hd.sv "/claim/cut.py" 343] }) ::
 (118,hd.fn (hd.me 7 "__init__") "LRItem.__init__" (hd.sv "ply.yacc" 194) (Value.none) 117) ::
 r
noncomputable def hd.k5 (P:Params) (r:Frag):Frag:=
 (134,{ cls:=.type "dict",data:=.dict #[hd.de P "__module__" 331 (hd.sv "ply.yacc" 194),hd.de P "__firstlineno__" 335 (.int 53 334),hd.de P "__init__" 344 (.ref 118),hd.de P "__str__" 352 (.ref 125),hd.de P "__repr__" 359 (.ref 132),hd.de P "__static_attributes__" 367 (.ref 133),hd.de P "__dict__" 369 (.ref 136),hd.de P "__weakref__" 371 (.ref 137),hd.de P "__doc__" 372 (.none)] 4 }) ::
 r
noncomputable def hd.k6 (P:Params) (r:Frag):Frag:=
 (135,{ cls:=.type "type",data:=.cls { name:=Str.ofString "LRItem",bases:=[.type "object"],mro:=[.ref 135,.type "object"],ns:=134,qualname:=Str.ofString "LRItem" },slots:=#[some (.ref 105),none,some (hd.sv "LRItem" 324),some (hd.sv "LRItem" 332),some (.builtin "object.__new__"),some (.bool true)] }) ::
 (136,{ cls:=.type "getset_descriptor",data:=.fields #[hd.sv "__dict__" 368,.ref 135,.builtin "function.__dict__",.builtin "function.__dict__#set"] }) ::
 (137,{ cls:=.type "getset_descriptor",data:=.fields #[hd.sv "__weakref__" 370,.ref 135,.builtin "ExceptionGroup.__weakref__",.none] }) ::
 r
noncomputable def hd.k7 (P:Params) (r:Frag):Frag:=
 (145,{ cls:=.type "code",data:=.fields #[hd.sv "rightmost_terminal" 375,hd.sv "rightmost_terminal" 376,hd.sv "/claim/cut.py" 377,.int 75 0,.int 2 0,.int 0 0,.int 0 0,.int 3 0,.ref 140,.bool true,.int 181 0,.ref 141,.none,.ref 142,.ref 143,.ref 144,.int 381 0,.int 75 0,hd.sv "/claim/cut.py" 382] }) ::
 (146,hd.fn (hd.st 8) "rightmost_terminal" (hd.sv "ply.yacc" 194) (Value.none) 145) ::
 (171,{ cls:=.type "code",data:=.fields #[hd.sv "__init__" 412,hd.sv "Grammar.__init__" 413,hd.sv "/claim/cut.py" 414,.int 86 0,.int 2 0,.int 0 0,.int 0 0,.int 3 0,.ref 166,.bool true,.int 181 0,.ref 167,.none,.ref 168,.ref 169,.ref 170,.int 418 0,.int 86 0,hd.sv "/claim/cut.py" 419] }) ::
 (172,hd.fn (hd.me 10 "__init__") "Grammar.__init__" (hd.sv "ply.yacc" 194) (Value.none) 171) ::
 (194,{ cls:=.type "tuple",data:=.seq #[.none,hd.sv "" 446,.int 0 447] }) ::
 (200,{ cls:=.type "code",data:=.fields #[hd.sv "add_production" 448,hd.sv "Grammar.add_production" 449,hd.sv "/claim/cut.py" 450,.int 110 0,.int 6 0,.int 0 0,.int 0 0,.int 3 0,.ref 195,.bool true,.int 181 0,.ref 196,.none,.ref 197,.ref 198,.ref 199,.int 467 0,.int 110 0,hd.sv "/claim/cut.py" 468] }) ::
 (201,hd.fn (hd.me 10 "add_production") "Grammar.add_production" (hd.sv "ply.yacc" 194) (Value.ref 194) 200) ::
 (202,{ cls:=.type "tuple",data:=.seq #[.none] }) ::
 (208,{ cls:=.type "code",data:=.fields #[hd.sv "set_start" 470,hd.sv "Grammar.set_start" 471,hd.sv "/claim/cut.py" 472,.int 168 0,.int 2 0,.int 0 0,.int 0 0,.int 3 0,.ref 203,.bool true,.int 181 0,.ref 204,.none,.ref 205,.ref 206,.ref 207,.int 475 0,.int 168 0,hd.sv "/claim/cut.py" 476] }) ::
 (209,hd.fn (hd.me 10 "set_start") "Grammar.set_start" (hd.sv "ply.yacc" 194) (Value.ref 202) 208) ::
 r
noncomputable def hd.k8 (P:Params) (r:Frag):Frag:=
 (279,{ cls:=.type "code",data:=.fields #[hd.sv "build_lritems" 543,hd.sv "Grammar.build_lritems" 544,hd.sv "/claim/cut.py" 545,.int 204 0,.int 1 0,.int 0 0,.int 0 0,.int 3 0,.ref 274,.bool true,.int 181 0,.ref 275,.none,.ref 276,.ref 277,.ref 278,.int 552 0,.int 204 0,hd.sv "/claim/cut.py" 553] }) ::
 (280,hd.fn (hd.me 10 "build_lritems") "Grammar.build_lritems" (hd.sv "ply.yacc" 194) (Value.none) 279) ::
 r
noncomputable def hd.k9 (P:Params) (r:Frag):Frag:=
 (282,{ cls:=.type "dict",data:=.dict #[hd.de P "__module__" 407 (hd.sv "ply.yacc" 194),hd.de P "__firstlineno__" 411 (.int 84 410),hd.de P "__init__" 420 (.ref 172),hd.de P "__len__" 427 (.ref 179),hd.de P "__getitem__" 435 (.ref 186),hd.de P "set_precedence" 445 (.ref 193),hd.de P "add_production" 469 (.ref 201),hd.de P "set_start" 477 (.ref 209),hd.de P "find_unreachable" 484 (.ref 216),hd.de P "infinite_cycles" 491 (.ref 223),hd.de P "undefined_symbols" 498 (.ref 230),hd.de P "unused_terminals" 505 (.ref 237),hd.de P "unused_rules" 512 (.ref 244),hd.de P "unused_precedence" 519 (.ref 251),hd.de P "_first" 527 (.ref 258),hd.de P "compute_first" 534 (.ref 265),hd.de P "compute_follow" 542 (.ref 273),hd.de P "build_lritems" 554 (.ref 280),hd.de P "__static_attributes__" 565 (.ref 281),hd.de P "__dict__" 567 (.ref 284),hd.de P "__weakref__" 569 (.ref 285),hd.de P "__doc__" 570 (.none)] 4 }) ::
 r
noncomputable def hd.k10 (P:Params) (r:Frag):Frag:=
 (283,{ cls:=.type "type",data:=.cls { name:=Str.ofString "Grammar",bases:=[.type "object"],mro:=[.ref 283,.type "object"],ns:=282,qualname:=Str.ofString "Grammar" },slots:=#[some (.ref 159),none,some (hd.sv "Grammar" 400),some (hd.sv "Grammar" 408),some (.builtin "object.__new__"),some (.bool true)] }) ::
 (284,{ cls:=.type "getset_descriptor",data:=.fields #[hd.sv "__dict__" 566,.ref 283,.builtin "function.__dict__",.builtin "function.__dict__#set"] }) ::
 (285,{ cls:=.type "getset_descriptor",data:=.fields #[hd.sv "__weakref__" 568,.ref 283,.builtin "ExceptionGroup.__weakref__",.none] }) ::
 r
noncomputable def hd.k11 (P:Params) (r:Frag):Frag:=
 (293,{ cls:=.type "code",data:=.fields #[hd.sv "_law_NAMES" 575,hd.sv "_law_NAMES" 576,hd.sv "/claim/cut.py" 577,.int 230 0,.int 0 0,.int 0 0,.int 0 0,.int 3 0,.ref 288,.bool true,.int 181 0,.ref 289,.none,.ref 290,.ref 291,.ref 292,.int 578 0,.int 230 0,hd.sv "/claim/cut.py" 579] }) ::
 (294,hd.fn (hd.st 12) "_law_NAMES" (hd.sv "law_rp0001_05" 573) (Value.none) 293) ::
 (300,{ cls:=.type "code",data:=.fields #[hd.sv "_law_TOKENS" 581,hd.sv "_law_TOKENS" 582,hd.sv "/claim/cut.py" 583,.int 232 0,.int 0 0,.int 0 0,.int 0 0,.int 3 0,.ref 295,.bool true,.int 181 0,.ref 296,.none,.ref 297,.ref 298,.ref 299,.int 584 0,.int 232 0,hd.sv "/claim/cut.py" 585] }) ::
 (301,hd.fn (hd.st 13) "_law_TOKENS" (hd.sv "law_rp0001_05" 573) (Value.none) 300) ::
 r
noncomputable def hd.k12 (P:Params) (r:Frag):Frag:=
 (302,{ cls:=.type "list",data:=.seq #[hd.sv "a" 587,hd.sv "b" 588,hd.sv "." 589,hd.sv "S" 590,hd.sv "A" 591,hd.sv "B" 592,hd.sv "error" 593,hd.sv "N" 594] }) ::
 (308,{ cls:=.type "code",data:=.fields #[hd.sv "_law_next" 596,hd.sv "_law_next" 597,hd.sv "/claim/cut.py" 598,.int 235 0,.int 1 0,.int 0 0,.int 0 0,.int 3 0,.ref 303,.bool true,.int 181 0,.ref 304,.none,.ref 305,.ref 306,.ref 307,.int 600 0,.int 235 0,hd.sv "/claim/cut.py" 601] }) ::
 r
noncomputable def hd.k13 (P:Params) (r:Frag):Frag:=
 (309,hd.fn (hd.st 15) "_law_next" (hd.sv "law_rp0001_05" 573) (Value.none) 308) ::
 (313,{ cls:=.type "code",data:=.fields #[hd.sv "_law_row" 603,hd.sv "_law_row" 604,hd.sv "/claim/cut.py" 605,.int 237 0,.int 3 0,.int 0 0,.int 0 0,.int 3 0,.ref 310,.bool true,.int 181 0,.ref 311,.none,.none,.none,.ref 312,.int 606 0,.int 237 0,hd.sv "/claim/cut.py" 607] }) ::
 (314,hd.fn (hd.st 16) "_law_row" (hd.sv "law_rp0001_05" 573) (Value.none) 313) ::
 (318,{ cls:=.type "code",data:=.fields #[hd.sv "_law_add" 609,hd.sv "_law_add" 610,hd.sv "/claim/cut.py" 611,.int 240 0,.int 2 0,.int 0 0,.int 0 0,.int 3 0,.ref 315,.bool true,.int 181 0,.ref 316,.none,.none,.none,.ref 317,.int 612 0,.int 240 0,hd.sv "/claim/cut.py" 613] }) ::
 (319,hd.fn (hd.st 17) "_law_add" (hd.sv "law_rp0001_05" 573) (Value.none) 318) ::
 (323,{ cls:=.type "code",data:=.fields #[hd.sv "_law_chart" 615,hd.sv "_law_chart" 616,hd.sv "/claim/cut.py" 617,.int 242 0,.int 2 0,.int 0 0,.int 0 0,.int 3 0,.ref 320,.bool true,.int 181 0,.ref 321,.none,.none,.none,.ref 322,.int 618 0,.int 242 0,hd.sv "/claim/cut.py" 619] }) ::
 (324,hd.fn (hd.st 18) "_law_chart" (hd.sv "law_rp0001_05" 573) (Value.none) 323) ::
 (330,{ cls:=.type "code",data:=.fields #[hd.sv "_law_joined" 621,hd.sv "_law_joined" 622,hd.sv "/claim/cut.py" 623,.int 265 0,.int 2 0,.int 0 0,.int 0 0,.int 3 0,.ref 325,.bool true,.int 181 0,.ref 326,.none,.ref 327,.ref 328,.ref 329,.int 631 0,.int 265 0,hd.sv "/claim/cut.py" 632] }) ::
 (331,hd.fn (hd.st 19) "_law_joined" (hd.sv "law_rp0001_05" 573) (Value.none) 330) ::
 (335,{ cls:=.type "code",data:=.fields #[hd.sv "_law_fronts" 634,hd.sv "_law_fronts" 635,hd.sv "/claim/cut.py" 636,.int 272 0,.int 3 0,.int 0 0,.int 0 0,.int 3 0,.ref 332,.bool true,.int 181 0,.ref 333,.none,.none,.none,.ref 334,.int 637 0,.int 272 0,hd.sv "/claim/cut.py" 638] }) ::
 (336,hd.fn (hd.st 20) "_law_fronts" (hd.sv "law_rp0001_05" 573) (Value.none) 335) ::
 (340,{ cls:=.type "code",data:=.fields #[hd.sv "_law_spans" 640,hd.sv "_law_spans" 641,hd.sv "/claim/cut.py" 642,.int 277 0,.int 2 0,.int 0 0,.int 0 0,.int 3 0,.ref 337,.bool true,.int 181 0,.ref 338,.none,.none,.none,.ref 339,.int 643 0,.int 277 0,hd.sv "/claim/cut.py" 644] }) ::
 (341,hd.fn (hd.st 21) "_law_spans" (hd.sv "law_rp0001_05" 573) (Value.none) 340) ::
 (345,{ cls:=.type "code",data:=.fields #[hd.sv "_law_due" 646,hd.sv "_law_due" 647,hd.sv "/claim/cut.py" 648,.int 290 0,.int 2 0,.int 0 0,.int 0 0,.int 3 0,.ref 342,.bool true,.int 181 0,.ref 343,.none,.none,.none,.ref 344,.int 649 0,.int 290 0,hd.sv "/claim/cut.py" 650] }) ::
 (346,hd.fn (hd.st 22) "_law_due" (hd.sv "law_rp0001_05" 573) (Value.none) 345) ::
 (350,{ cls:=.type "code",data:=.fields #[hd.sv "law" 652,hd.sv "law" 653,hd.sv "/claim/cut.py" 654,.int 305 0,.int 1 0,.int 0 0,.int 0 0,.int 3 0,.ref 347,.bool true,.int 181 0,.ref 348,.none,.none,.none,.ref 349,.int 655 0,.int 305 0,hd.sv "/claim/cut.py" 656] }) ::
 (351,hd.fn (hd.st 23) "law" (hd.sv "law_rp0001_05" 573) (Value.none) 350) ::
 r
noncomputable def hd.heap_39 (P:Params):Frag:=hd.k0 P (hd.k1 P (hd.k2 P (hd.k3 P (hd.k4 P (hd.k5 P (hd.k6 P (hd.k7 P (hd.k8 P (hd.k9 P (hd.k10 P (hd.k11 P (hd.k12 P (hd.k13 P [])))))))))))))
noncomputable def hd.view_39:Program:={ PySem.Challenge.pw_rp0001_05 with main:={ PySem.Challenge.pw_rp0001_05.main with body:=(PySem.Challenge.pw_rp0001_05.main.body.eraseIdx 11).eraseIdx 1 } }
noncomputable def hd.as:List Nat:=[3,38,39,45,46,54,55,61,62,82,83,99,100,101,102,117,118,134,135,136,137,145,146,171,172,194,200,201,202,208,209,279,280,282,283,284,285,293,294,300,301,302,308,309,313,314,318,319,323,324,330,331,335,336,340,341,345,346,350,351]
theorem hd.keys (P:Params):hd.as=(hd.heap_39 P).map (·.1):=by kernel_rfl
theorem hd.left:LeftO PySem.Challenge.pw_rp0001_05 hd.view_39 [Str.ofString "Production",Str.ofString "Grammar",Str.ofString "_law_SYMBOLS"] (fun s=>xlAt hd.view_39 [] s && recOk [] s)
 (Hook.obs (kHook hd.heap_39 hd.as hd.keys)) (Hook.val (kHook hd.heap_39 hd.as hd.keys)) 4784:=fun w=>by
 first
 | (unfold openEnds topFrom; rw[PySem.W.Fast.te14082659384304107361,PySem.W.Fast.te14364793385576792824,PySem.W.Fast.te4187177175401517315]; kernel_rfl)
 | kernel_rfl
theorem hd.said:OpenLaw.wellSaid PySem.Challenge.rw_rp0001_05=true:=by
 first
 | (rw[PySem.W.Fast.te9446332074065402090]; kernel_rfl)
 | kernel_rfl
namespace L
open Nat.Internal.Linear (ExprCnstr)
noncomputable abbrev LX:=Nat.Internal.Linear.Expr
noncomputable abbrev LC:=Lean.RArray Nat
noncomputable abbrev LF:=Nat×Nat×LX×LX
noncomputable def den (c:LC) (f:LF):Prop:=Nat.rec (f.2.2.1.denote c≤f.2.2.2.denote c) (fun _ _=>f.2.2.1.denote c=f.2.2.2.denote c) f.1
noncomputable def imp (c:LC) (P:Prop) (fs:List LF):Prop:=List.rec P (fun f _ ih=>den c f→ih) fs
noncomputable def sumL (fs:List LF):LX:=List.rec (.num 0) (fun f _ ih=>.add (.mulL f.2.1 (bif Nat.beq f.1 2 then f.2.2.2 else f.2.2.1)) ih) fs
noncomputable def sumR (fs:List LF):LX:=List.rec (.num 0) (fun f _ ih=>.add (.mulL f.2.1 (bif Nat.beq f.1 2 then f.2.2.1 else f.2.2.2)) ih) fs
noncomputable def unsat (l r:LX):Bool:=({ eq:=false,lhs:=l,rhs:=r }:ExprCnstr).toNormPoly.isUnsat
theorem imp_of {c:LC}{P:Prop}:∀(fs:List LF),((sumL fs).denote c≤(sumR fs).denote c→P)→imp c P fs
 | [],k=>k (Nat.le_refl _)
 | ⟨q,m,l,r⟩::fs,k=>fun h=>imp_of fs fun h2=>k <| by
  refine Nat.add_le_add (Nat.mul_le_mul_left m ?_) h2
  show((bif Nat.beq q 2 then r else l).denote c)≤((bif Nat.beq q 2 then l else r).denote c)
  cases q with
  | zero=>exact h
  | succ q=>cases Nat.beq (q+1) 2 with
   | true=>exact Nat.le_of_eq (Eq.symm h)
   | false=>exact Nat.le_of_eq h
theorem lin (c:LC) (fs:List LF) (m:Nat) (l r:LX) (h:unsat (.add (.mulL m (.add r (.num 1))) (sumL fs)) (.add (.mulL m l) (sumR fs))=true):imp c (l.denote c≤r.denote c) fs:=
 imp_of fs fun k=>Nat.le_of_not_lt fun g=>(ExprCnstr.eq_false_of_isUnsat c _ h)▸Nat.add_le_add (Nat.mul_le_mul_left m g) k
theorem linF (c:LC) (fs:List LF) (h:unsat (sumL fs) (sumR fs)=true):imp c False fs:=
 imp_of fs fun k=>(ExprCnstr.eq_false_of_isUnsat c _ h)▸k
theorem sA (a b:Nat):a≤a-b+b:=Nat.sub_le_iff_le_add.mp (Nat.le_refl _)
theorem sC (a b:Nat) (h:b≤a):a-b+b=a:=Nat.sub_add_cancel h
theorem dvA (a d:Nat):d*(a / d)≤a:=Nat.mul_div_le a d
theorem dvB (a d:Nat) (h:0<d):a+1≤d*(a / d)+d:=by
 have:=Nat.lt_mul_div_succ a h
 rw[Nat.mul_add,Nat.mul_one] at this
 exact this
theorem lxE {a b:Nat}{r:Prop} (h:a=b):(a<b∨a=b∧r)↔r:=⟨fun x=>x.elim (fun y=>absurd h (Nat.ne_of_lt y)) And.right,fun x=>.inr ⟨h,x⟩⟩
theorem lxN {a b:Nat}{r:Prop} (h:¬ a=b):(a<b∨a=b∧r)↔a<b:=⟨fun x=>x.elim id fun y=>absurd y.1 h,.inl⟩
noncomputable abbrev x:LX:=.var 0
noncomputable abbrev y:LX:=.var 1
noncomputable abbrev z:LX:=.var 2
noncomputable abbrev u:LX:=.var 3
noncomputable abbrev v:LX:=.var 4
noncomputable abbrev w:LX:=.var 5
noncomputable abbrev p:LX:=.var 6
noncomputable abbrev q:LX:=.var 7
noncomputable abbrev r:LX:=.var 8
noncomputable abbrev t:LX:=.var 9
noncomputable abbrev i:LX:=.num 1
noncomputable abbrev k (n:Nat):LX:=.num n
noncomputable abbrev A (a b:LX):LX:=.add a b
noncomputable abbrev s (a:LX):LX:=.add a (.num 1)
noncomputable abbrev m (n:Nat) (a:LX):LX:=.mulL n a
noncomputable abbrev M (a:LX) (n:Nat):LX:=.mulR a n
noncomputable abbrev f (l r:LX):LF:=(0,1,l,r)
noncomputable abbrev e (l r:LX):LF:=(1,1,l,r)
noncomputable abbrev E (l r:LX):LF:=(2,1,l,r)
noncomputable abbrev F (q n:Nat) (l r:LX):LF:=(q,n,l,r)
noncomputable abbrev c0:LC:=.leaf 0
noncomputable abbrev c1 (a:Nat):LC:=.leaf a
noncomputable abbrev c2 (a b:Nat):LC:=.branch 1 (.leaf a) (.leaf b)
noncomputable abbrev c3 (a b c:Nat):LC:=.branch 1 (.leaf a) (.branch 2 (.leaf b) (.leaf c))
noncomputable abbrev c4 (a b c d:Nat):LC:=.branch 2 (c2 a b) (.branch 3 (.leaf c) (.leaf d))
noncomputable abbrev c5 (a b c d e:Nat):LC:=.branch 2 (c2 a b) (.branch 3 (.leaf c) (.branch 4 (.leaf d) (.leaf e)))
noncomputable abbrev c6 (a b c d e f:Nat):LC:=.branch 3 (c3 a b c) (.branch 4 (.leaf d) (.branch 5 (.leaf e) (.leaf f)))
noncomputable abbrev c7 (a b c d e f g:Nat):LC:=.branch 3 (c3 a b c) (.branch 5 (.branch 4 (.leaf d) (.leaf e)) (.branch 6 (.leaf f) (.leaf g)))
noncomputable abbrev c8 (a b c d e f g h:Nat):LC:=.branch 4 (c4 a b c d) (.branch 6 (.branch 5 (.leaf e) (.leaf f)) (.branch 7 (.leaf g) (.leaf h)))
noncomputable abbrev c9 (a b c d e f g h i:Nat):LC:=.branch 4 (c4 a b c d) (.branch 6 (.branch 5 (.leaf e) (.leaf f)) (.branch 7 (.leaf g) (.branch 8 (.leaf h) (.leaf i))))
noncomputable abbrev c10 (a b c d e f g h i j:Nat):LC:=.branch 5 (c5 a b c d e) (.branch 7 (.branch 6 (.leaf f) (.leaf g)) (.branch 8 (.leaf h) (.branch 9 (.leaf i) (.leaf j))))
theorem iM {a:Nat} (h:a<9223372036854775808):(a:Int)<(9223372036854775808:Int):=show(a:Int)<((9223372036854775808:Nat):Int) from Int.ofNat_lt.mpr h
theorem iH {a:Nat} (h:a<4611686018427387904):(a:Int)<(4611686018427387904:Int):=show(a:Int)<((4611686018427387904:Nat):Int) from Int.ofNat_lt.mpr h
end L
section
open L
variable {a b c d g j l n o α β γ δ:Nat}{ia ib ic id ie ig ih ij ik il:Int}
theorem ω0:a<4611686018427387904→(a:Int)<(9223372036854775808:Int):=fun h=>iM (Nat.lt_trans h (by decide))
theorem ω1:b≤1000→a≤b+1→a≤16777216+1:=lin (c2 a b) [f y (k 1000),f x (s y)] 1 x (s (k 16777216)) rfl
theorem ω2:b≤999→a≤b→a≤1000:=lin (c2 a b) [f y (k 999),f x y] 1 x (k 1000) rfl
theorem ω3:a=c→c≤b→a≤b:=lin (c3 a b c) [e x z,f z y] 1 x y rfl
theorem ω4:ib+(c:Int)<ia→(0:Int)<ia-(ib+(c:Int)):=Int.sub_pos_of_lt
theorem ω5:ia+(b:Int)+(1:Int)=ia+(b+1:Int):=Int.add_assoc ia b 1
theorem ω6:ia-(ib+(c:Int))-(1:Int)=ia-(ib+(c+1:Int)):=by rw[Int.sub_sub,Int.add_assoc]
theorem ω7:¬ib+(c:Int)<ia→ia-(ib+(c:Int))≤(0:Int):=fun h=>Int.sub_nonpos_of_le (Int.not_lt.mp h)
theorem ω8:b<a→a+1-(b+1)<a+1-b:=fun h1=>lin (c4 (a+1-(b+1)) b a (a+1-b)) [e (A x (s y)) (s z),f (s z) (A u y)] 1 (s x) u rfl (sC (a+1) (b+1) (lin (c2 a b) [f (s y) x] 1 (s y) (s x) rfl h1)) (sA (a+1) b)
theorem ω9:a+(b+1)<1000→a<1000:=lin (c2 a b) [f (s (A x (s y))) (k 1000)] 1 (s x) (k 1000) rfl
theorem ω10:1≤a+1:=lin (c1 a) [] 1 i (s x) rfl
theorem ω11:a+(b+1)<1000→a+1+b<1000:=lin (c2 a b) [f (s (A x (s y))) (k 1000)] 1 (s (A (s x) y)) (k 1000) rfl
theorem ω12:a+40*(b+1)<9900→a+3+40*b<9900:=lin (c2 a b) [f (s (A x (m 40 (s y)))) (k 9900)] 1 (s (A (A x (k 3)) (m 40 y))) (k 9900) rfl
theorem ω13:a+40*(b+1)<9900→a+1+40*b<9900:=lin (c2 a b) [f (s (A x (m 40 (s y)))) (k 9900)] 1 (s (A (s x) (m 40 y))) (k 9900) rfl
theorem ω15:a≤b→a≤b+1:=lin (c2 a b) [f x y] 1 x (s y) rfl
theorem ω18:a+40*(d+1)<9900→b≤30→a+min (b+1) (c+1)<9900:=fun h1 h2=>lin (c4 a d b (min (b+1) (c+1))) [f (s (A x (m 40 (s y)))) (k 9900),f z (k 30),f u (s z)] 1 (s (A x u)) (k 9900) rfl h1 h2 (Nat.min_le_left (b+1) (c+1))
theorem ω19:a<4611686018427387904→¬(9223372036854775808:Int)≤(a:Int):=fun h=>Int.not_le.mpr (iM (Nat.lt_trans h (by decide)))
theorem ω20:ia<(4611686018427387904:Int)→ia<(9223372036854775808:Int):=fun h=>Int.lt_trans h (by decide)
theorem ω21:(0:Int)≤ia→¬ia<(0:Int):=Int.not_lt.mpr
theorem ω22:¬b≤a→a≤b:=fun h1=>lin (c2 a b) [f (s x) y] 1 x y rfl (Nat.lt_of_not_le h1)
theorem ω24:a+40*(b+1)<9900→a+1+1<9900:=lin (c2 a b) [f (s (A x (m 40 (s y)))) (k 9900)] 1 (s (s (s x))) (k 9900) rfl
theorem ω25:a+40*(b+1)<9900→a+1<9900:=lin (c2 a b) [f (s (A x (m 40 (s y)))) (k 9900)] 1 (s (s x)) (k 9900) rfl
theorem ω26:ia-(0:Int)=ia:=Int.sub_zero ia
theorem ω33:(0:Int)≤ia→ia<(4611686018427387904:Int)→-(9223372036854775808:Int)≤ia+((1:Int)-(1:Int))∧ia+((1:Int)-(1:Int))<(9223372036854775808:Int):=fun h k=>by rw[Int.sub_self,Int.add_zero]; exact⟨Int.le_trans (by decide) h,Int.lt_trans k (by decide)⟩
theorem ω34:(0:Int)≤(a:Int):=Int.natCast_nonneg a
theorem ω35:b<4611686018427387904→a<b→(a:Int)<(9223372036854775808:Int):=fun h k=>iM (Nat.lt_trans k (Nat.lt_trans h (by decide)))
theorem ω36:a≤1000→a≤1000000:=lin (c1 a) [f x (k 1000)] 1 x (k 1000000) rfl
theorem ω38:a+b<1000→a+0<1000:=lin (c2 a b) [f (s (A x y)) (k 1000)] 1 (s (A x (k 0))) (k 1000) rfl
theorem ω39:a+40*b<9900→a+40*0<9900:=lin (c2 a b) [f (s (A x (m 40 y))) (k 9900)] 1 (s (A x (m 40 (k 0)))) (k 9900) rfl
theorem ω40:-(9223372036854775808:Int)≤ia→ia<(9223372036854775808:Int)→¬(ia< -(9223372036854775808:Int)∨(9223372036854775808:Int)≤ia):=fun h k l=>l.elim (Int.not_lt.mpr h) (Int.not_le.mpr k)
theorem ω41:a<1000→(a:Int)<(9223372036854775808:Int):=fun h=>iM (Nat.lt_trans h (by decide))
theorem ω42:a≤10000→a<4611686018427387904:=lin (c1 a) [f x (k 10000)] 1 (s x) (k 4611686018427387904) rfl
theorem ω43:a≤9999→a<16777216:=lin (c1 a) [f x (k 9999)] 1 (s x) (k 16777216) rfl
theorem ω44:a≤1000→a≤10000:=lin (c1 a) [f x (k 1000)] 1 x (k 10000) rfl
theorem ω45:¬(a:Int)+(1:Int)=(0:Int):=fun h=>Nat.succ_ne_zero a (Int.ofNat.inj h)
theorem ω46:0<a+1:=lin (c1 a) [] 1 (s (k 0)) (s x) rfl
theorem ω47:b%(c+1)<c+1→b%(c+1)=a→c≤10→a≤10:=lin (c4 a b c (b%(c+1))) [f (s u) (s z),E u x,f z (k 10)] 1 x (k 10) rfl
theorem ω48:a≤10→(a:Int)<(4611686018427387904:Int):=fun h=>iH (Nat.lt_of_le_of_lt h (by decide))
theorem ω49:a≤10→a≤16777216:=lin (c1 a) [f x (k 10)] 1 x (k 16777216) rfl
theorem ω50:0≤a:=lin (c1 a) [] 1 (k 0) x rfl
theorem ω51:a<b→(0:Int)+(a:Int)<(b:Int):=fun h=>(Int.zero_add (a:Int)).symm▸Int.ofNat_lt.mpr h
theorem ω52:a≤1000→a≤10000+(b+1):=lin (c2 a b) [f x (k 1000)] 1 x (A (k 10000) (s y)) rfl
theorem ω53:¬(8:Int)=(0:Int):=by decide
theorem ω54:a%8<1000:=lin (c1 (a%8)) [f (s x) (k 8)] 1 (s x) (k 1000) rfl (Nat.mod_lt a (by decide:0<8))
theorem ω55:a<b→a<b:=lin (c2 a b) [f (s x) y] 1 (s x) y rfl
theorem ω56:¬a<b→¬(0:Int)+(a:Int)<(b:Int):=fun h k=>h (Int.ofNat_lt.mp (Int.zero_add (a:Int)▸k))
theorem ω57:a≤b→¬a<b→a=b:=fun h1 h2=>Nat.le_antisymm (h1) (lin (c2 b a) [f (s x) (s y)] 1 x y rfl (Nat.lt_of_not_le h2))
theorem ω58:d≤b+1→a≤d+c→a≤b+(c+1):=lin (c4 a b c d) [f u (s y),f x (A u z)] 1 x (A y (s z)) rfl
theorem ω59:a≤g+c→g≤b+d→a≤b+(c+1*d):=lin (c5 a b c d g) [f x (A v z),f v (A y u)] 1 x (A y (A z (m 1 u))) rfl
theorem ω61:a≤b→b≤a→a=b:=fun h1 h2=>Nat.le_antisymm (lin (c2 a b) [f x y,F 0 0 y x] 1 x y rfl h1 h2) (lin (c2 a b) [F 0 0 x y,f y x] 1 y x rfl h1 h2)
theorem ω62:a<b→b≤1000→a≤1000:=lin (c2 a b) [f (s x) y,f y (k 1000)] 1 x (k 1000) rfl
theorem ω63:b≤0+c→d≤1000→c≤1000*1000→a≤b+d→a≤2000000:=lin (c4 a b c d) [f y (A (k 0) z),f u (k 1000),f z (m 1000 (k 1000)),f x (A y u)] 1 x (k 2000000) rfl
theorem ω64:a≤2000000→a≤16777216:=lin (c1 a) [f x (k 2000000)] 1 x (k 16777216) rfl
theorem ω66:a≤b→a<b+1:=lin (c2 a b) [f x y] 1 (s x) (s y) rfl
theorem ω67:a<b+1→a≤b:=lin (c2 a b) [f (s x) (s y)] 1 x y rfl
theorem ω68:a=c∧a≤b→a≤b∧c≤b:=fun h1=>⟨h1.2,lin (c3 a c b) [E x y,f x z] 1 y z rfl h1.1 h1.2⟩
theorem ω69:a≤3→a<4:=lin (c1 a) [f x (k 3)] 1 (s x) (k 4) rfl
theorem ω70:b≤4*4→a≤b→a≤16:=lin (c2 a b) [f y (m 4 (k 4)),f x y] 1 x (k 16) rfl
theorem ω71:b≤4*4→a≤b→a≤1000:=lin (c2 a b) [f y (m 4 (k 4)),f x y] 1 x (k 1000) rfl
theorem ω73:(0:Int)≤(a+1:Int):=Int.natCast_nonneg (a+1)
theorem ω74:a≤3→(a+1:Int)<(4611686018427387904:Int):=fun h=>iH (a:=a+1) (Nat.lt_of_le_of_lt (Nat.succ_le_succ h) (by decide))
theorem ω75:a≤3→a<16777216:=lin (c1 a) [f x (k 3)] 1 (s x) (k 16777216) rfl
theorem ω76:0≤a+1:=lin (c1 a) [] 1 (k 0) (s x) rfl
theorem ω77:a<b+1→(0:Int)+(a:Int)<(b+1:Int):=fun h=>(Int.zero_add (a:Int)).symm▸Int.ofNat_lt.mpr h
theorem ω78:a<b+1→a<b+1:=lin (c2 a b) [f (s x) (s y)] 1 (s x) (s y) rfl
theorem ω79:¬a<b+1→¬(0:Int)+(a:Int)<(b+1:Int):=fun h k=>h (Int.ofNat_lt.mp (Int.zero_add (a:Int)▸k))
theorem ω80:a≤b+1→¬a<b+1→a=b+1:=fun h1 h2=>Nat.le_antisymm (h1) (lin (c2 b a) [f (s (s x)) (s y)] 1 (s x) y rfl (Nat.lt_of_not_le h2))
theorem ω81:b=a+1→a<b:=lin (c2 a b) [E y (s x)] 1 (s x) y rfl
theorem ω82:a=b+1→(1:Int)≤(a:Int):=fun h=>h▸Int.ofNat_le.mpr (Nat.succ_le_succ (Nat.zero_le b))
theorem ω84:b<c→a=b+1→c≤10→a≤16777216:=lin (c3 a b c) [f (s y) z,e x (s y),f z (k 10)] 1 x (k 16777216) rfl
theorem ω85:¬b<a→a≤b:=fun h1=>lin (c2 a b) [f (s x) (s y)] 1 x y rfl (Nat.lt_of_not_le h1)
theorem ω86:a-c=0→c=b+1→¬a<c→a=b+1:=fun h1 h2 h3=>Nat.le_antisymm (lin (c4 (a-c) c b a) [e x (k 0),e y (s z),f u (A x y)] 1 u (s z) rfl h1 h2 (sA a c)) (lin (c3 c b a) [E x (s y),f (s x) (s z)] 1 (s y) z rfl h2 (Nat.lt_of_not_le h3))
theorem ω87:b=a+1→a+1-b=0:=fun h1=>Nat.le_antisymm (lin (c3 b a (a+1-b)) [E x (s y),e (A z x) (s y)] 1 z (k 0) rfl h1 (sC (a+1) b (lin (c2 a b) [e y (s x)] 1 y (s x) rfl h1))) (lin (c3 a b (a+1-b)) [F 1 0 y (s x)] 1 (k 0) z rfl h1)
theorem ω88:c≤b→a≤c+1→a≤b+1:=lin (c3 a b c) [f z y,f x (s z)] 1 x (s y) rfl
theorem ω89:a<b→a≤b:=lin (c2 a b) [f (s x) y] 1 x y rfl
theorem ω90:a<b→c=a+1→a≤b∧c≤b:=fun h1 h2=>⟨lin (c3 a b c) [f (s x) y,F 1 0 z (s x)] 1 x y rfl h1 h2,lin (c3 a b c) [f (s x) y,e z (s x)] 1 z y rfl h1 h2⟩
theorem ω91:a+1+b+c+d=a+b+c+d+1:=Nat.le_antisymm (lin (c4 a b c d) [] 1 (A (A (A (s x) y) z) u) (s (A (A (A x y) z) u)) rfl) (lin (c4 a b c d) [] 1 (s (A (A (A x y) z) u)) (A (A (A (s x) y) z) u) rfl)
theorem ω92:a+(b+1)+c+d=a+b+c+d+1:=Nat.le_antisymm (lin (c4 a b c d) [] 1 (A (A (A x (s y)) z) u) (s (A (A (A x y) z) u)) rfl) (lin (c4 a b c d) [] 1 (s (A (A (A x y) z) u)) (A (A (A x (s y)) z) u) rfl)
theorem ω93:a+b+(c+1)+d=a+b+c+d+1:=Nat.le_antisymm (lin (c4 a b c d) [] 1 (A (A (A x y) (s z)) u) (s (A (A (A x y) z) u)) rfl) (lin (c4 a b c d) [] 1 (s (A (A (A x y) z) u)) (A (A (A x y) (s z)) u) rfl)
theorem ω94:a+b+c+(d+1)=a+b+c+d+1:=Nat.le_antisymm (lin (c4 a b c d) [] 1 (A (A (A x y) z) (s u)) (s (A (A (A x y) z) u)) rfl) (lin (c4 a b c d) [] 1 (s (A (A (A x y) z) u)) (A (A (A x y) z) (s u)) rfl)
theorem ω96:0≤4:=lin c0 [] 1 (k 0) (k 4) rfl
theorem ω98:a<4→a<4:=lin (c1 a) [f (s x) (k 4)] 1 (s x) (k 4) rfl
theorem ω99:4≤a→a≤4→a=4:=fun h1 h2=>Nat.le_antisymm (lin (c1 a) [F 0 0 (k 4) x,f x (k 4)] 1 x (k 4) rfl h1 h2) (lin (c1 a) [f (k 4) x,F 0 0 x (k 4)] 1 (k 4) x rfl h1 h2)
theorem ω100:a=b→b≤3→a<4611686018427387904:=lin (c2 a b) [e x y,f y (k 3)] 1 (s x) (k 4611686018427387904) rfl
theorem ω101:a≤3→(a:Int)<(4611686018427387904:Int):=fun h=>iH (Nat.lt_of_le_of_lt h (by decide))
theorem ω102:a≤3→a≤16777216:=lin (c1 a) [f x (k 3)] 1 x (k 16777216) rfl
theorem ω103:a<c→b=c→a<b:=lin (c3 a b c) [f (s x) z,E y z] 1 (s x) y rfl
theorem ω104:(0:Int)≤(0:Int)+(a:Int):=(Int.zero_add (a:Int)).symm▸Int.natCast_nonneg a
theorem ω105:a<b→b≤3→(0:Int)+(a:Int)<(9223372036854775808:Int):=fun h k=>(Int.zero_add (a:Int)).symm▸iM (Nat.lt_trans (Nat.lt_of_lt_of_le h k) (by decide))
theorem ω106:4=4→b<4→a≤b→4+a≤8:=lin (c2 a b) [F 1 0 (k 4) (k 4),f (s y) (k 4),f x y] 1 (A (k 4) x) (k 8) rfl
theorem ω109:a≤64→0<65-a:=fun h1=>lin (c2 a (65-a)) [f x (k 64),f (k 65) (A y x)] 1 (s (k 0)) y rfl h1 (sA 65 a)
theorem ω110:a≤1000→a≤16777216:=lin (c1 a) [f x (k 1000)] 1 x (k 16777216) rfl
theorem ω111:a<b→a<b+1:=lin (c2 a b) [f (s x) y] 1 (s x) (s y) rfl
theorem ω112:a<a+1:=lin (c1 a) [] 1 (s x) (s x) rfl
theorem ω113:a<b+1→¬a<b→a=b:=fun h1 h2=>Nat.le_antisymm (lin (c2 a b) [f (s x) (s y)] 1 x y rfl h1) (lin (c2 b a) [f (s x) (s y)] 1 x y rfl (Nat.lt_of_not_le h2))
theorem ω114:c<b+1→¬c<a→a≤b:=fun h1 h2=>lin (c3 c b a) [f (s x) (s y),f (s z) (s x)] 1 z y rfl h1 (Nat.lt_of_not_le h2)
theorem ω115:a<c→c≤b→a<b:=lin (c3 a b c) [f (s x) z,f z y] 1 (s x) y rfl
theorem ω116:a+1+(a+1+(a+1+(a+1+(a+1))))=5*(a+1):=Nat.le_antisymm (lin (c1 a) [] 1 (A (s x) (A (s x) (A (s x) (A (s x) (s x))))) (m 5 (s x)) rfl) (lin (c1 a) [] 1 (m 5 (s x)) (A (s x) (A (s x) (A (s x) (A (s x) (s x))))) rfl)
theorem ω117:a≤a+b:=lin (c2 a b) [] 1 x (A x y) rfl
theorem ω118:a<b→b≤10→a<10:=lin (c2 a b) [f (s x) y,f y (k 10)] 1 (s x) (k 10) rfl
theorem ω119:b≤5→a≤b→a<6:=lin (c2 a b) [f y (k 5),f x y] 1 (s x) (k 6) rfl
theorem ω120:b≤3→a≤b→a<4:=lin (c2 a b) [f y (k 3),f x y] 1 (s x) (k 4) rfl
theorem ω121:(a:Int)=(b:Int)→a=b:=Int.ofNat_inj.mp
theorem ω122:¬(a:Int)<(0:Int):=Int.not_lt.mpr (Int.natCast_nonneg a)
theorem ω124:a<c+1→c=b→¬a<c→a=b:=fun h1 h2 h3=>Nat.le_antisymm (lin (c3 a c b) [f (s x) (s y),e y z] 1 x z rfl h1 h2) (lin (c3 c b a) [E x y,f (s x) (s z)] 1 y z rfl h2 (Nat.lt_of_not_le h3))
theorem ω125:a=b→a≤b:=lin (c2 a b) [e x y] 1 x y rfl
theorem ω126:b=a→a-b=0:=fun h1=>Nat.le_antisymm (lin (c3 b a (a-b)) [E x y,e (A z x) y] 1 z (k 0) rfl h1 (sC a b (lin (c2 a b) [e y x] 1 y x rfl h1))) (lin (c3 a b (a-b)) [F 1 0 y x] 1 (k 0) z rfl h1)
theorem ω127:a<b→b≤10→(a:Int)<(9223372036854775808:Int):=fun h k=>iM (Nat.lt_trans (Nat.lt_of_lt_of_le h k) (by decide))
theorem ω128:c=b+1→c≤a→a≤b+1→a=b+1:=fun h1 h2 h3=>Nat.le_antisymm (lin (c3 a b c) [F 1 0 z (s y),F 0 0 z x,f x (s y)] 1 x (s y) rfl h1 h2 h3) (lin (c3 a b c) [E z (s y),f z x,F 0 0 x (s y)] 1 (s y) x rfl h1 h2 h3)
theorem ω129:a<c→c=b+1→a<b+1:=lin (c3 a b c) [f (s x) z,e z (s y)] 1 (s x) (s y) rfl
theorem ω130:b≤960→a≤b→a≤16777216:=lin (c2 a b) [f y (k 960),f x y] 1 x (k 16777216) rfl
theorem ω131:(b:Int)=(c:Int)→a<c→(a:Int)<(b:Int):=fun h k=>h▸Int.ofNat_lt.mpr k
theorem ω132:-(9223372036854775808:Int)≤(a:Int):=Int.le_trans (by decide) (Int.natCast_nonneg a)
theorem ω133:b≤3→c≤5*(b+1)→a≤c→a≤16777216:=lin (c3 a b c) [F 0 5 y (k 3),f z (m 5 (s y)),f x z] 1 x (k 16777216) rfl
theorem ω134:(b:Int)=(c:Int)→¬a<c→¬(a:Int)<(b:Int):=fun h k l=>k (Int.ofNat_lt.mp (h▸l))
theorem ω135:¬a=b→¬(a:Int)=(b:Int):=fun h k=>h (Int.ofNat_inj.mp k)
theorem ω136:a≤5→a<4611686018427387904:=lin (c1 a) [f x (k 5)] 1 (s x) (k 4611686018427387904) rfl
theorem ω137:0<a→(0:Int)<(a:Int):=Int.natCast_pos.mpr
theorem ω138:a≤5→a≤16777216:=lin (c1 a) [f x (k 5)] 1 x (k 16777216) rfl
theorem ω139:a<b→b≤5→a<5:=lin (c2 a b) [f (s x) y,f y (k 5)] 1 (s x) (k 5) rfl
theorem ω140:a≤1000→a<4611686018427387904:=lin (c1 a) [f x (k 1000)] 1 (s x) (k 4611686018427387904) rfl
theorem ω141:-(1:Int)≤(a:Int)-(1:Int):=Int.sub_le_sub_right (Int.natCast_nonneg a) 1
theorem ω142:(a:Int)-(1:Int)<(a:Int):=Int.sub_lt_self (a:Int) (by decide)
theorem ω144:ia<(b:Int)→b≤1000→ia<(9223372036854775808:Int):=fun h k=>Int.lt_trans h (iM (Nat.lt_of_le_of_lt k (by decide)))
theorem ω146:(0:Int)≤ia→-(1:Int)≤ia-(1:Int):=fun h=>Int.sub_le_sub_right h 1
theorem ω147:ia<(b:Int)→ia-(1:Int)<(b:Int):=fun h=>Int.lt_trans (Int.sub_lt_self ia (by decide)) h
theorem ω148:1≤b→a+40*b<9900→a+(0+1+1)<9900:=lin (c2 a b) [F 0 40 i y,f (s (A x (m 40 y))) (k 9900)] 1 (s (A x (s (s (k 0))))) (k 9900) rfl
theorem ω149:a≤1000→b≤1000→a+b≤16777216:=lin (c2 a b) [f x (k 1000),f y (k 1000)] 1 (A x y) (k 16777216) rfl
theorem ω150:a≤1000→b≤1000→c≤1000→a+b+c≤16777216:=lin (c3 a b c) [f x (k 1000),f y (k 1000),f z (k 1000)] 1 (A (A x y) z) (k 16777216) rfl
theorem ω151:a≤5→a*1≤5:=lin (c1 a) [f x (k 5)] 1 (M x 1) (k 5) rfl
theorem ω152:a≤5→(a-1)*1≤5:=fun h1=>lin (c2 a (a-1)) [f x (k 5),f y x] 1 (M y 1) (k 5) rfl h1 (Nat.sub_le a 1)
theorem ω154:b≤5→a≤5*b→a≤25:=lin (c2 a b) [F 0 5 y (k 5),f x (m 5 y)] 1 x (k 25) rfl
theorem ω155:b<c→c≤5→a≤b→a≤16777216:=lin (c3 a b c) [f (s y) z,f z (k 5),f x y] 1 x (k 16777216) rfl
theorem ω156:a≤5→a≤1000:=lin (c1 a) [f x (k 5)] 1 x (k 1000) rfl
theorem ω157:a≤25∧b≤5∧c≤5→a+b≤16777216:=fun h1=>lin (c2 a b) [f x (k 25),f y (k 5)] 1 (A x y) (k 16777216) rfl h1.1 h1.2.1
theorem ω158:a≤25∧c≤5∧b≤5→a+b≤1000:=fun h1=>lin (c2 a b) [f x (k 25),f y (k 5)] 1 (A x y) (k 1000) rfl h1.1 h1.2.2
theorem ω159:a+(b+1)<1000→a+b<1000:=lin (c2 a b) [f (s (A x (s y))) (k 1000)] 1 (s (A x y)) (k 1000) rfl
theorem ω160:min a b+(b-a+1)=b+1:=Nat.le_antisymm ((Nat.le_total a b).elim (fun z0=>lin (c4 (min a b) a (b-a) b) [e x y,e (A z y) u] 1 (A x (s z)) (s u) rfl (Nat.min_eq_left z0) (sC b a (z0))) (fun z0=>(Nat.le_total a b).elim (fun z1=>lin (c4 b a (min a b) (b-a)) [f x y,e z x,e (A u y) x] 1 (A z (s u)) (s x) rfl z0 (Nat.min_eq_right z0) (Nat.sub_add_cancel z1)) (fun z1=>lin (c3 (min a b) b (b-a)) [e x y,e z (k 0)] 1 (A x (s z)) (s y) rfl (Nat.min_eq_right z0) (Nat.sub_eq_zero_of_le z1)) )) ((Nat.le_total a b).elim (fun z0=>lin (c4 (min a b) a b (b-a)) [E x y,f z (A u y)] 1 (s z) (A x (s u)) rfl (Nat.min_eq_left z0) (sA b a)) (fun z0=>lin (c3 (min a b) b (b-a)) [E x y] 1 (s y) (A x (s z)) rfl (Nat.min_eq_right z0)))
theorem ω161:b≤5→a≤b→(a:Int)<(4611686018427387904:Int):=fun h k=>iH (Nat.lt_of_le_of_lt (Nat.le_trans k h) (by decide))
theorem ω162:a≤5→a<16777216:=lin (c1 a) [f x (k 5)] 1 (s x) (k 16777216) rfl
theorem ω163:a≤5→a+1<4611686018427387904:=lin (c1 a) [f x (k 5)] 1 (s (s x)) (k 4611686018427387904) rfl
theorem ω164:b≤16777216→a≤b→a≤16777216:=lin (c2 a b) [f y (k 16777216),f x y] 1 x (k 16777216) rfl
theorem ω165:0≤2:=lin c0 [] 1 (k 0) (k 2) rfl
theorem ω166:a<2→¬a=0→a=1:=fun h1 h2=>Nat.le_antisymm (lin (c1 a) [f (s x) (k 2)] 1 x i rfl h1) ((Nat.lt_or_gt_of_ne h2).elim (fun x0=>lin (c1 a) [f (s x) (k 0)] 0 i x rfl x0) (fun x0=>lin (c1 a) [f (s (k 0)) x] 1 i x rfl x0))
theorem ω167:b<2→a≤b→a≤16777216:=lin (c2 a b) [f (s y) (k 2),f x y] 1 x (k 16777216) rfl
theorem ω168:a<2→a<2:=lin (c1 a) [f (s x) (k 2)] 1 (s x) (k 2) rfl
theorem ω169:2≤a→a≤2→a=2:=fun h1 h2=>Nat.le_antisymm (lin (c1 a) [F 0 0 (k 2) x,f x (k 2)] 1 x (k 2) rfl h1 h2) (lin (c1 a) [f (k 2) x,F 0 0 x (k 2)] 1 (k 2) x rfl h1 h2)
theorem ω170:a≤2→a≤16777216:=lin (c1 a) [f x (k 2)] 1 x (k 16777216) rfl
theorem ω171:a≤c→c≤b→a≤b:=lin (c3 a b c) [f x z,f z y] 1 x y rfl
theorem ω172:a≤1000→a+1<4611686018427387904:=lin (c1 a) [f x (k 1000)] 1 (s (s x)) (k 4611686018427387904) rfl
theorem ω173:b≤1000→a≤b→a≤16777216:=lin (c2 a b) [f y (k 1000),f x y] 1 x (k 16777216) rfl
theorem ω174:b≤900→a≤b→a≤999:=lin (c2 a b) [f y (k 900),f x y] 1 x (k 999) rfl
theorem ω175:a≤a+1:=lin (c1 a) [] 1 x (s x) rfl
theorem ω176:a<b→min a b=a:=fun h1=>Nat.le_antisymm ((Nat.min_le_left a b)) ((Nat.le_total a b).elim (fun z0=>lin (c2 (min a b) a) [E x y] 1 y x rfl (Nat.min_eq_left z0)) (fun z0=>lin (c3 a b (min a b)) [f (s x) y,f y x] 0 x z rfl h1 z0))
theorem ω177:20≤b→a≤20→a≤b:=lin (c2 a b) [f (k 20) y,f x (k 20)] 1 x y rfl
theorem ω179:min a b+(b-a)=b:=Nat.le_antisymm ((Nat.le_total a b).elim (fun z0=>lin (c4 (min a b) a (b-a) b) [e x y,e (A z y) u] 1 (A x z) u rfl (Nat.min_eq_left z0) (sC b a (z0))) (fun z0=>(Nat.le_total a b).elim (fun z1=>lin (c4 b a (min a b) (b-a)) [f x y,e z x,e (A u y) x] 1 (A z u) x rfl z0 (Nat.min_eq_right z0) (Nat.sub_add_cancel z1)) (fun z1=>lin (c3 (min a b) b (b-a)) [e x y,e z (k 0)] 1 (A x z) y rfl (Nat.min_eq_right z0) (Nat.sub_eq_zero_of_le z1)) )) ((Nat.le_total a b).elim (fun z0=>lin (c4 (min a b) a b (b-a)) [E x y,f z (A u y)] 1 z (A x u) rfl (Nat.min_eq_left z0) (sA b a)) (fun z0=>lin (c3 (min a b) b (b-a)) [E x y] 1 y (A x z) rfl (Nat.min_eq_right z0)))
theorem ω180:min a b≤a:=(Nat.min_le_left a b)
theorem ω181:a+b≤a+(b+1):=lin (c2 a b) [] 1 (A x y) (A x (s y)) rfl
theorem ω182:b<c→c≤3→d≤900→a≤d+b→a≤16777216:=lin (c4 a b c d) [f (s y) z,f z (k 3),f u (k 900),f x (A u y)] 1 x (k 16777216) rfl
theorem ω183:a≤3→a<4611686018427387904:=lin (c1 a) [f x (k 3)] 1 (s x) (k 4611686018427387904) rfl
theorem ω184:a=c→¬b<c→a≤b:=fun h1 h2=>lin (c3 a c b) [e x y,f (s y) (s z)] 1 x z rfl h1 (Nat.lt_of_not_le h2)
theorem ω185:b≤3→a+b≤a+3:=lin (c2 a b) [f y (k 3)] 1 (A x y) (A x (k 3)) rfl
theorem ω186:a≤3→a≤1000:=lin (c1 a) [f x (k 3)] 1 x (k 1000) rfl
theorem ω187:a≤900→a+1<4611686018427387904:=lin (c1 a) [f x (k 900)] 1 (s (s x)) (k 4611686018427387904) rfl
theorem ω188:a+3≤a+4:=lin (c1 a) [] 1 (A x (k 3)) (A x (k 4)) rfl
theorem ω189:b≤900→a≤b+3→a≤16777216:=lin (c2 a b) [f y (k 900),f x (A y (k 3))] 1 x (k 16777216) rfl
theorem ω190:a+3<a+4:=lin (c1 a) [] 1 (s (A x (k 3))) (A x (k 4)) rfl
theorem ω191:b<c→c≤3→d≤900→a≤d+4+2*b→a≤16777216:=lin (c4 a b c d) [F 0 2 (s y) z,F 0 2 z (k 3),f u (k 900),f x (A (A u (k 4)) (m 2 y))] 1 x (k 16777216) rfl
theorem ω192:a+4+2*b<a+4+2*(b+1):=lin (c2 a b) [] 1 (s (A (A x (k 4)) (m 2 y))) (A (A x (k 4)) (m 2 (s y))) rfl
theorem ω193:a+4+2*b≤a+5+2*b:=lin (c2 a b) [] 1 (A (A x (k 4)) (m 2 y)) (A (A x (k 5)) (m 2 y)) rfl
theorem ω194:a+4+2*b<a+5+2*b:=lin (c2 a b) [] 1 (s (A (A x (k 4)) (m 2 y))) (A (A x (k 5)) (m 2 y)) rfl
theorem ω195:b<c→c≤3→d≤900→a≤d+5+2*b→a≤16777216:=lin (c4 a b c d) [F 0 2 (s y) z,F 0 2 z (k 3),f u (k 900),f x (A (A u (k 5)) (m 2 y))] 1 x (k 16777216) rfl
theorem ω196:a+5+2*b<a+4+2*(b+1):=lin (c2 a b) [] 1 (s (A (A x (k 5)) (m 2 y))) (A (A x (k 4)) (m 2 (s y))) rfl
theorem ω197:c≤3→b≤c→a+4+2*b≤a+20:=lin (c3 a b c) [F 0 2 z (k 3),F 0 2 y z] 1 (A (A x (k 4)) (m 2 y)) (A x (k 20)) rfl
theorem ω198:a≤3→a≤5:=lin (c1 a) [f x (k 3)] 1 x (k 5) rfl
theorem ω199:a≤900→a≤16777215:=lin (c1 a) [f x (k 900)] 1 x (k 16777215) rfl
theorem ω200:b=c→b≤900→a≤c→a≤16777216:=lin (c3 a b c) [E y z,f y (k 900),f x z] 1 x (k 16777216) rfl
theorem ω201:b≤900→a≤min b c→a≤16777216:=fun h1 h2=>lin (c3 b a (min b c)) [f x (k 900),f y z,f z x] 1 y (k 16777216) rfl h1 h2 (Nat.min_le_left b c)
theorem ω202:(a:Int)=(b:Int)→¬a=b→False:=fun k h=>h (Int.ofNat_inj.mp k)
theorem ω204:min a b≤a+1:=lin (c2 (min a b) a) [f x y] 1 x (s y) rfl (Nat.min_le_left a b)
theorem ω205:a<b→a+1-min a b=1:=fun h1=>Nat.le_antisymm ((Nat.le_total a b).elim (fun z0=>lin (c3 (a+1-min a b) (min a b) a) [e (A x y) (s z),E y z] 1 x i rfl (sC (a+1) (min a b) (lin (c2 (min a b) a) [f x y] 1 x (s y) rfl (Nat.min_le_left a b))) (Nat.min_eq_left z0)) (fun z0=>lin (c3 a b (a+1-min a b)) [f (s x) y,f y x] 0 z i rfl h1 z0)) (lin (c3 a (a+1-min a b) (min a b)) [f (s x) (A y z),f z x] 1 i y rfl (sA (a+1) (min a b)) (Nat.min_le_left a b))
theorem ω206:a<b→a<min (a+1) b:=fun h1=>(Nat.le_total (a+1) b).elim (fun z0=>lin (c2 (min (a+1) b) a) [E x (s y)] 1 (s y) x rfl (Nat.min_eq_left z0)) (fun z0=>lin (c3 a b (min (a+1) b)) [f (s x) y,E z y] 1 (s x) z rfl h1 (Nat.min_eq_right z0))
theorem ω207:-(1:Int)+(a+1:Int)=(a:Int):=by rw[Int.add_comm (a:Int),← Int.add_assoc]; exact Int.zero_add (a:Int)
theorem ω208:(a:Int)<(a:Int)+(1:Int):=Int.lt_add_one_of_le (Int.le_refl _)
theorem ω210:a+1<a→False:=linF (c1 a) [f (s (s x)) x] rfl
theorem ω211:1≤a→b=a→a-1<b:=fun h1 h2=>lin (c3 b a (a-1)) [E x y,e (s z) y] 1 (s z) x rfl h2 (sC a 1 (lin (c2 a b) [f i x,F 1 0 y x] 1 i x rfl h1 h2))
theorem ω212:1≤b→b<b-1+1→a≤30:=fun h1 h2=>lin (c3 b (b-1) a) [f (s x) (s y),e (s y) x] 0 z (k 30) rfl h2 (sC b 1 (lin (c3 a b (b-1)) [f i y,F 0 0 (s y) (s z)] 1 i y rfl h1 h2))
theorem ω213:a=b→a≤b-1+1:=fun h1=>lin (c3 a b (b-1)) [e x y,f y (s z)] 1 x (s z) rfl h1 (sA b 1)
theorem ω214:a-1+1<a+1→b=a→a-1+1-b=0:=fun h1 h2=>Nat.le_antisymm (lin (c4 (a-1) a b (a-1+1-b)) [f (s (s x)) (s y),E z y,e (A u z) (s x)] 1 u (k 0) rfl h1 h2 (sC (a-1+1) b (lin (c3 b a (a-1)) [e x y,E (s z) y] 1 x (s z) rfl h2 (sC a 1 (lin (c3 a b (a-1)) [f (s (s z)) (s x),F 1 0 y x] 1 i x rfl h1 h2))))) (lin (c4 a b (a-1) (a-1+1-b)) [F 0 0 (s (s z)) (s x),F 1 0 y x] 1 (k 0) u rfl h1 h2)
theorem ω215:a<b+1→a≤b+1:=lin (c2 a b) [f (s x) (s y)] 1 x (s y) rfl
theorem ω216:a+1<b+1→¬a=b-1→a+1<b:=fun h1 h2=>(Nat.lt_or_gt_of_ne h2).elim (fun x0=>lin (c3 a (b-1) b) [f (s x) y,e (s y) z] 1 (s (s x)) z rfl x0 (sC b 1 (lin (c2 a b) [f (s (s x)) (s y)] 1 i y rfl h1))) (fun x0=>lin (c3 a b (b-1)) [f (s (s x)) (s y),f (s z) x,f y (s z)] 0 (s (s x)) y rfl h1 x0 (sA b 1))
theorem ω217:a<c+1→c=b→a<b+1:=lin (c3 a b c) [f (s x) (s z),e z y] 1 (s x) (s y) rfl
theorem ω218:-(9223372036854775808:Int)≤(a:Int)+(1:Int):=Int.le_trans (by decide) (Int.natCast_nonneg (a+1))
theorem ω219:a<b→b≤3→(a:Int)+(1:Int)<(9223372036854775808:Int):=fun h k=>iM (a:=a+1) (Nat.lt_of_le_of_lt (Nat.le_trans h k) (by decide))
theorem ω220:a<b→a+1<b+1:=lin (c2 a b) [f (s x) y] 1 (s (s x)) (s y) rfl
theorem ω221:a≤20→a≤999:=lin (c1 a) [f x (k 20)] 1 x (k 999) rfl
theorem ω222:b≤3→a≤b→(a:Int)+(1:Int)<(9223372036854775808:Int):=fun h k=>iM (a:=a+1) (Nat.lt_of_le_of_lt (Nat.succ_le_succ (Nat.le_trans k h)) (by decide))
theorem ω223:¬b<a→a<b+1:=fun h1=>(Nat.lt_of_not_le h1)
theorem ω224:1≤b→a=b→0<a:=lin (c2 a b) [f i y,E x y] 1 (s (k 0)) x rfl
theorem ω225:a≤20→a≤28:=lin (c1 a) [f x (k 20)] 1 x (k 28) rfl
theorem ω226:a≤20→a≤998:=lin (c1 a) [f x (k 20)] 1 x (k 998) rfl
theorem ω227:-(9223372036854775808:Int)≤(a:Int)-(1:Int):=Int.le_trans (by decide) (Int.sub_le_sub_right (Int.natCast_nonneg a) 1)
theorem ω228:a=0→(a:Int)-(1:Int)<(9223372036854775808:Int):=fun h=>by subst h; decide
theorem ω229:1≤a→a=0→False:=linF (c1 a) [f i x,e x (k 0)] rfl
theorem ω230:¬a=0→a=a-1+1:=fun h1=>Nat.le_antisymm ((sA a 1)) ((Nat.lt_or_gt_of_ne h1).elim (fun x0=>lin (c2 a (a-1)) [f (s x) (k 0)] 0 (s y) x rfl x0) (fun x0=>lin (c2 (a-1) a) [e (s x) y] 1 (s x) y rfl (sC a 1 (lin (c1 a) [f (s (k 0)) x] 1 i x rfl x0))))
theorem ω231:-(9223372036854775808:Int)≤(a+1:Int)-(1:Int):=Int.le_trans (by decide) (Int.sub_le_sub_right (Int.natCast_nonneg (a+1)) 1)
theorem ω232:a<b→b≤3→(a+1:Int)-(1:Int)<(9223372036854775808:Int):=fun h k=>(Int.add_sub_cancel (a:Int) 1).symm▸iM (Nat.lt_trans (Nat.lt_of_lt_of_le h k) (by decide))
theorem ω233:(a+1:Int)-(1:Int)=(a:Int):=Int.add_sub_cancel (a:Int) 1
theorem ω234:¬b≤a→a<b:=fun h1=>(Nat.lt_of_not_le h1)
theorem ω235:a≤b+1→¬a≤b→a=b+1:=fun h1 h2=>Nat.le_antisymm (h1) ((Nat.lt_of_not_le h2))
theorem ω236:b=a→¬a=0→a-1<b:=fun h1 h2=>(Nat.lt_or_gt_of_ne h2).elim (fun x0=>lin (c3 a (a-1) b) [f (s x) (k 0)] 0 (s y) z rfl x0) (fun x0=>lin (c3 b a (a-1)) [E x y,e (s z) y] 1 (s z) x rfl h1 (sC a 1 (lin (c1 a) [f (s (k 0)) x] 1 i x rfl x0)))
theorem ω237:a≤a-1+1:=(sA a 1)
theorem ω238:a≤30→a≤999:=lin (c1 a) [f x (k 30)] 1 x (k 999) rfl
theorem ω239:¬a=0→1≤a:=fun h1=>(Nat.lt_or_gt_of_ne h1).elim (fun x0=>lin (c1 a) [f (s x) (k 0)] 0 i x rfl x0) (fun x0=>lin (c1 a) [f (s (k 0)) x] 1 i x rfl x0)
theorem ω240:¬a+1=0:=linF (c1 a) [e (s x) (k 0)] rfl
theorem ω241:b≤3→a≤b→a≤16777216:=lin (c2 a b) [f y (k 3),f x y] 1 x (k 16777216) rfl
theorem ω242:b≤a→a+2-(b+1)<a+2-b:=fun h1=>lin (c4 (a+2-(b+1)) b a (a+2-b)) [e (A x (s y)) (A z (k 2)),f (A z (k 2)) (A u y)] 1 (s x) u rfl (sC (a+2) (b+1) (lin (c2 a b) [f y x] 1 (s y) (A x (k 2)) rfl h1)) (sA (a+2) b)
theorem ω243:a=b+1→¬a=0:=linF (c2 a b) [E x (s y),e x (k 0)] rfl
theorem ω244:a=b→b=c+1→0<a:=lin (c3 a b c) [E x y,E y (s z)] 1 (s (k 0)) x rfl
theorem ω245:a=b+1→1≤a:=lin (c2 a b) [E x (s y)] 1 i x rfl
theorem ω246:b=c→c=d+1→a≤d→a<b:=lin (c4 a b c d) [E y z,E z (s u),f x u] 1 (s x) y rfl
theorem ω247:a<c→b=c+1→¬a=b-1:=fun h1 h2=>fun y0=>linF (c4 a c b (b-1)) [f (s x) y,E z (s y),E x u,f z (s u)] rfl h1 h2 y0 (sA b 1)
theorem ω248:a<c→b=c+1→a+1<b:=lin (c3 a b c) [f (s x) z,E y (s z)] 1 (s (s x)) y rfl
theorem ω249:b=c+1→a≤c→¬a<c→a=b-1:=fun h1 h2 h3=>Nat.le_antisymm (lin (c4 b c a (b-1)) [E x (s y),f z y,f x (s u)] 1 z u rfl h1 h2 (sA b 1)) (lin (c4 b c a (b-1)) [e x (s y),f (s y) (s z),e (s u) x] 1 u z rfl h1 (Nat.lt_of_not_le h3) (sC b 1 (lin (c2 b c) [E x (s y)] 1 i x rfl h1)))
theorem ω250:b≤900→a≤b+1→a≤999:=lin (c2 a b) [f y (k 900),f x (s y)] 1 x (k 999) rfl
theorem ω251:a<b+1→¬a=b→a<b:=fun h1 h2=>(Nat.lt_or_gt_of_ne h2).elim (fun x0=>x0 ) (fun x0=>lin (c2 a b) [f (s x) (s y),f (s y) x] 0 (s x) y rfl h1 x0)
theorem ω252:b<a→¬a=b:=linF (c2 a b) [f (s y) x,e x y] rfl
theorem ω253:¬b<a+1→a<b:=fun h1=>lin (c2 a b) [f (s (s x)) (s y)] 1 (s x) y rfl (Nat.lt_of_not_le h1)
theorem ω254:a≤a+2:=lin (c1 a) [] 1 x (A x (k 2)) rfl
theorem ω255:a<c→¬b<c+1→a+1<b:=fun h1 h2=>lin (c3 a c b) [f (s x) y,f (s (s y)) (s z)] 1 (s (s x)) z rfl h1 (Nat.lt_of_not_le h2)
theorem ω256:a<c+1→¬b<c+1→a<b:=fun h1 h2=>lin (c3 a c b) [f (s x) (s y),f (s (s y)) (s z)] 1 (s x) z rfl h1 (Nat.lt_of_not_le h2)
theorem ω258:a≤c→c≤b→a<b+1:=lin (c3 a b c) [f x z,f z y] 1 (s x) (s y) rfl
theorem ω259:a≤c→b≤a→a-b<c+1-b:=fun h1 h2=>lin (c5 a c (a-b) b (c+1-b)) [f x y,e (A z u) x,f (s y) (A v u)] 1 (s z) v rfl h1 (sC a b (lin (c3 a b c) [F 0 0 x z,f y x] 1 y x rfl h1 h2)) (sA (c+1) b)
theorem ω260:a≤b→a+(b-a)=b:=fun h1=>Nat.le_antisymm (lin (c3 (b-a) a b) [e (A x y) z] 1 (A y x) z rfl (sC b a (lin (c2 a b) [f x y] 1 x y rfl h1))) (lin (c3 b (b-a) a) [f x (A y z)] 1 x (A z y) rfl (sA b a))
theorem ω261:a≤d→b≤c→a+b≤c+d:=lin (c4 a b c d) [f x u,f y z] 1 (A x y) (A z u) rfl
theorem ω262:a≤3→b≤c*10→a+1+b≤4+10*c:=lin (c3 a b c) [f x (k 3),f y (M z 10)] 1 (A (s x) y) (A (k 4) (m 10 z)) rfl
theorem ω263:a≤4+10*c→b≤d→a+b≤4+10*c+d:=lin (c4 a b c d) [f x (A (k 4) (m 10 z)),f y u] 1 (A x y) (A (A (k 4) (m 10 z)) u) rfl
theorem ω264:(a:Int)=(b:Int)∧(c:Int)=(d:Int)∧(g:Int)=(j:Int)∧(l:Int)=(n:Int)∧True→a=b:=fun h=>Int.ofNat_inj.mp h.1
theorem ω265:(c:Int)=(d:Int)∧(a:Int)=(b:Int)∧(g:Int)=(j:Int)∧(l:Int)=(n:Int)∧True→a=b:=fun h=>Int.ofNat_inj.mp h.2.1
theorem ω266:(c:Int)=(d:Int)∧(g:Int)=(j:Int)∧(a:Int)=(b:Int)∧(l:Int)=(n:Int)∧True→a=b:=fun h=>Int.ofNat_inj.mp h.2.2.1
theorem ω267:(c:Int)=(d:Int)∧(g:Int)=(j:Int)∧(l:Int)=(n:Int)∧(a:Int)=(b:Int)∧True→a=b:=fun h=>Int.ofNat_inj.mp h.2.2.2.1
theorem ω268:a<c+1→b=c→a<b+1:=lin (c3 a b c) [f (s x) (s z),E y z] 1 (s x) (s y) rfl
theorem ω269:0≤128:=lin c0 [] 1 (k 0) (k 128) rfl
theorem ω270:a<b→b≤127→a<128:=lin (c2 a b) [f (s x) y,f y (k 127)] 1 (s x) (k 128) rfl
theorem ω271:b≤127→min a b≤127:=fun h1=>lin (c2 b (min a b)) [f x (k 127),f y x] 1 y (k 127) rfl h1 (Nat.min_le_right a b)
theorem ω272:a≤c→a<4+10*b+c:=lin (c3 a b c) [f x z] 1 (s x) (A (A (k 4) (m 10 y)) z) rfl
theorem ω273:b≤127→a≤c→c≤b→a≤1000:=lin (c3 a b c) [f y (k 127),f x z,f z y] 1 x (k 1000) rfl
theorem ω274:a≤127→a≤16777216:=lin (c1 a) [f x (k 127)] 1 x (k 16777216) rfl
theorem ω275:a≤1000→b≤127→a+b≤16777216:=lin (c2 a b) [f x (k 1000),f y (k 127)] 1 (A x y) (k 16777216) rfl
theorem ω277:a≤127→a≤16777215:=lin (c1 a) [f x (k 127)] 1 x (k 16777215) rfl
theorem ω278:b<c→c≤127→a≤b→a≤16777216:=lin (c3 a b c) [f (s y) z,f z (k 127),f x y] 1 x (k 16777216) rfl
theorem ω279:a<b→a<b+c:=lin (c3 a b c) [f (s x) y] 1 (s x) (A y z) rfl
theorem ω280:a≤b→a≤b+c:=lin (c3 a b c) [f x y] 1 x (A y z) rfl
theorem ω281:b<c→c≤a→a=b+(a-b-1+1):=fun h1 h2=>Nat.le_antisymm (lin (c4 (a-b) (a-b-1) a b) [f x (s y),f z (A x u)] 1 z (A u (s y)) rfl (sA (a-b) 1) (sA a b)) (lin (c4 (a-b-1) (a-b) b a) [e (s x) y,e (A y z) u] 1 (A z (s x)) u rfl (sC (a-b) 1 (lin (c4 b c a (a-b)) [f (s x) y,f y z,f z (A u x)] 1 i u rfl h1 h2 (sA a b))) (sC a b (lin (c3 b c a) [f (s x) y,f y z] 1 x z rfl h1 h2)))
theorem ω282:a+(b+1)=a+1+b:=Nat.le_antisymm (lin (c2 a b) [] 1 (A x (s y)) (A (s x) y) rfl) (lin (c2 a b) [] 1 (A (s x) y) (A x (s y)) rfl)
theorem ω283:1≤a→a=a-1+1:=fun h1=>Nat.le_antisymm ((sA a 1)) (lin (c2 (a-1) a) [e (s x) y] 1 (s x) y rfl (sC a 1 (lin (c1 a) [f i x] 1 i x rfl h1)))
theorem ω284:a<a→False:=linF (c1 a) [f (s x) x] rfl
theorem ω285:((a:Int)=(b:Int)↔a=b):=Int.ofNat_inj
theorem ω286:a<b∨a=b∧(c<d∨c=d∧(g<j∨g=j∧l<n))→a=b→c=d→g=j→l=n→False:=fun h1 h2 h3 h4 h5=>h1.elim (fun x0=>linF (c2 a b) [E x y,f (s x) y] rfl h2 x0) (fun x0=>x0.2.elim (fun x1=>linF (c2 c d) [E x y,f (s x) y] rfl h3 x1) (fun x1=>x1.2.elim (fun x2=>linF (c2 g j) [E x y,f (s x) y] rfl h4 x2) (fun x2=>linF (c2 l n) [E x y,f (s x) y] rfl h5 x2.2) ) )
theorem ω287:c=d→g=j→l=n→((a:Int)<(b:Int)↔c<d∨c=d∧(g<j∨g=j∧(l<n∨l=n∧a<b))):=fun h1 h2 h3=>Int.ofNat_lt.trans ((lxE h1).trans ((lxE h2).trans (lxE h3))).symm
theorem ω288:c=d→g=j→¬a=b→((a:Int)<(b:Int)↔c<d∨c=d∧(g<j∨g=j∧(a<b∨a=b∧l<n))):=fun h1 h2 h3=>Int.ofNat_lt.trans ((lxE h1).trans ((lxE h2).trans (lxN h3))).symm
theorem ω289:c=d→¬a=b→((a:Int)<(b:Int)↔c<d∨c=d∧(a<b∨a=b∧(g<j∨g=j∧l<n))):=fun h1 h3=>Int.ofNat_lt.trans ((lxE h1).trans (lxN h3)).symm
theorem ω290:¬a=b→((a:Int)<(b:Int)↔a<b∨a=b∧(c<d∨c=d∧(g<j∨g=j∧l<n))):=fun h3=>Int.ofNat_lt.trans (lxN h3).symm
theorem ω291:a≤c→a-b≤c-0:=fun h1=>lin (c4 a c (a-b) (c-0)) [f x y,f z x,f y (A u (k 0))] 1 z u rfl h1 (Nat.sub_le a b) (sA c 0)
theorem ω292:b-a≤c-max 0 c→a≤b→a=b:=fun h1 h2=>Nat.le_antisymm (lin (c6 a b c (b-a) (c-max 0 c) (max 0 c)) [F 0 0 u v,f x y] 1 x y rfl h1 h2) (lin (c6 (b-a) (c-max 0 c) a b (max 0 c) c) [f x y,E (A x z) u,e (A y v) w,E v w] 1 u z rfl h1 (sC b a (lin (c6 a b c (b-a) (c-max 0 c) (max 0 c)) [F 0 0 u v,f x y] 1 x y rfl h1 h2)) (sC c (max 0 c) (lin (c2 (max 0 c) c) [e x y] 1 x y rfl (Nat.zero_max c))) (Nat.zero_max c))
theorem ω293:b≤c→¬b≤a→a+(b-a)/2<c:=fun h1 h2=>lin (c5 b c a (b-a) ((b-a)/2)) [F 0 2 x y,f (s z) x,e (A u z) x,f (m 2 v) u] 2 (s (A z v)) y rfl h1 (Nat.lt_of_not_le h2) (sC b a (lin (c2 a b) [f (s x) y] 1 x y rfl (Nat.lt_of_not_le h2))) (dvA (b-a) 2)
theorem ω294:a≤a+(b-a)/2:=lin (c4 a b ((b-a)/2) (b-a)) [] 1 x (A x z) rfl
theorem ω295:b≤c→¬b≤a→a+(b-a)/2≤c:=fun h1 h2=>lin (c5 b c (b-a) a ((b-a)/2)) [f x y,e (A z u) x,f (m 2 v) z] 1 (A u v) y rfl h1 (sC b a (lin (c2 a b) [f (s x) y] 1 x y rfl (Nat.lt_of_not_le h2))) (dvA (b-a) 2)
theorem ω296:b-a≤c-d→a+(b-a)/2-a≤c-(d+1):=fun h1=>(Nat.le_total a b).elim (fun z0=>(Nat.le_total d c).elim (fun z1=>lin (c8 (b-a) (c-d) (a+(b-a)/2-a) a ((b-a)/2) d c (c-(d+1))) [f x y,F 1 2 (A z u) (A u v),e (A y w) p,f (m 2 v) x,f p (A q (s w))] 2 z q rfl h1 (sC (a+(b-a)/2) a (lin (c7 a b c d (b-a) (c-d) ((b-a)/2)) [F 0 0 v w] 1 x (A x p) rfl h1)) (Nat.sub_add_cancel z1) (dvA (b-a) 2) (sA c (d+1))) (fun z1=>lin (c6 (b-a) (c-d) (a+(b-a)/2-a) a ((b-a)/2) (c-(d+1))) [f x y,F 1 2 (A z u) (A u v),e y (k 0),f (m 2 v) x] 2 z w rfl h1 (sC (a+(b-a)/2) a (lin (c7 a b c d (b-a) (c-d) ((b-a)/2)) [F 0 0 v w] 1 x (A x p) rfl h1)) (Nat.sub_eq_zero_of_le z1) (dvA (b-a) 2)) ) (fun z0=>lin (c5 (a+(b-a)/2-a) a ((b-a)/2) (b-a) (c-(d+1))) [F 1 2 (A x y) (A y z),e u (k 0),f (m 2 z) u] 2 x v rfl (sC (a+(b-a)/2) a (lin (c7 a b c d (b-a) (c-d) ((b-a)/2)) [F 0 0 v w] 1 x (A x p) rfl h1)) (Nat.sub_eq_zero_of_le z0) (dvA (b-a) 2))
theorem ω297:¬b≤a→a+(b-a)/2<b:=fun h1=>lin (c4 a b (b-a) ((b-a)/2)) [f (s x) y,e (A z x) y,f (m 2 u) z] 2 (s (A x u)) y rfl (Nat.lt_of_not_le h1) (sC b a (lin (c2 a b) [f (s x) y] 1 x y rfl (Nat.lt_of_not_le h1))) (dvA (b-a) 2)
theorem ω298:a-b≤c-d→a-(b+(a-b)/2+1)≤c-(d+1):=fun h=>by rw[Nat.add_assoc,Nat.sub_add_eq a b,Nat.sub_add_eq c d 1]; exact Nat.le_trans (Nat.sub_le_sub_left (Nat.le_add_left 1 _) _) (Nat.sub_le_sub_right h 1)
theorem ω299:a<b+(c-b)/2+1→a≤b+(c-b)/2:=lin (c5 a b c ((c-b)/2) (c-b)) [f (s x) (s (A y u))] 1 x (A y u) rfl
theorem ω300:0<1:=lin c0 [] 1 (s (k 0)) i rfl
theorem ω301:a<c→max 0 c<b→a<b:=fun h1 h2=>lin (c4 a c (max 0 c) b) [f (s x) y,f (s z) u,E z y] 1 (s x) u rfl h1 h2 (Nat.zero_max c)
theorem ω302:a<c→a-b<c:=fun h1=>lin (c3 a c (a-b)) [f (s x) y,f z x] 1 (s z) y rfl h1 (Nat.sub_le a b)
theorem ω303:a<b→a+1<2*b+1:=lin (c2 a b) [f (s x) y] 1 (s (s x)) (s (m 2 y)) rfl
theorem ω304:a<2*a+1:=lin (c1 a) [] 1 (s x) (s (m 2 x)) rfl
theorem ω305:c<b→a+1-min b (a+1)≤a-c:=fun h1=>(Nat.le_total b (a+1)).elim (fun z0=>lin (c6 c b (a+1-min b (a+1)) (min b (a+1)) a (a-c)) [f (s x) y,e (A z u) (s v),E u y,f v (A w x)] 1 z w rfl h1 (sC (a+1) (min b (a+1)) ((Nat.min_le_right b (a+1)))) (Nat.min_eq_left z0) (sA a c)) (fun z0=>lin (c4 (a+1-min b (a+1)) (min b (a+1)) a (a-c)) [e (A x y) (s z),E y (s z)] 1 x u rfl (sC (a+1) (min b (a+1)) ((Nat.min_le_right b (a+1)))) (Nat.min_eq_right z0))
theorem ω306:a<c→a-b≤c:=fun h1=>lin (c3 a c (a-b)) [f (s x) y,f z x] 1 z y rfl h1 (Nat.sub_le a b)
theorem ω307:a<b→c<a+1-min b (a+1)→False:=fun h1 h2=>(Nat.le_total b (a+1)).elim (fun z0=>linF (c5 a b c (a+1-min b (a+1)) (min b (a+1))) [f (s x) y,f (s z) u,e (A u v) (s x),E v y] rfl h1 h2 (sC (a+1) (min b (a+1)) ((Nat.min_le_right b (a+1)))) (Nat.min_eq_left z0)) (fun z0=>linF (c4 c (a+1-min b (a+1)) (min b (a+1)) a) [f (s x) y,e (A y z) (s u),E z (s u)] rfl h2 (sC (a+1) (min b (a+1)) ((Nat.min_le_right b (a+1)))) (Nat.min_eq_right z0))
theorem ω308:a<b+1-min c (b+1)→a≤b-c:=fun h1=>(Nat.le_total c (b+1)).elim (fun z0=>lin (c6 a (b+1-min c (b+1)) (min c (b+1)) b c (b-c)) [f (s x) y,e (A y z) (s u),E z v,f u (A w v)] 1 x w rfl h1 (sC (b+1) (min c (b+1)) ((Nat.min_le_right c (b+1)))) (Nat.min_eq_left z0) (sA b c)) (fun z0=>lin (c5 a (b+1-min c (b+1)) (min c (b+1)) b (b-c)) [f (s x) y,e (A y z) (s u),E z (s u)] 0 x v rfl h1 (sC (b+1) (min c (b+1)) ((Nat.min_le_right c (b+1)))) (Nat.min_eq_right z0))
theorem ω309:max 0 a<c→a-b≤c:=fun h1=>lin (c4 (max 0 a) c a (a-b)) [f (s x) y,E x z,f u z] 1 u y rfl h1 (Nat.zero_max a) (Nat.sub_le a b)
theorem ω310:¬c-a≤b→a+b<c:=fun h1=>(Nat.le_total a c).elim (fun z0=>lin (c4 b (c-a) a c) [f (s x) y,e (A y z) u] 1 (s (A z x)) u rfl (Nat.lt_of_not_le h1) (Nat.sub_add_cancel z0)) (fun z0=>lin (c4 b (c-a) a c) [f (s x) y,e y (k 0)] 0 (s (A z x)) u rfl (Nat.lt_of_not_le h1) (Nat.sub_eq_zero_of_le z0))
theorem ω311:¬b-c≤a→a<b-c:=fun h1=>(Nat.lt_of_not_le h1)
theorem ω312:a+b<d→b<c→a+b<a+min c (d-a):=fun h1 h2=>(Nat.le_total c (d-a)).elim (fun z0=>lin (c4 b c (min c (d-a)) a) [f (s x) y,E z y] 1 (s (A u x)) (A u z) rfl h2 (Nat.min_eq_left z0)) (fun z0=>lin (c5 a b d (d-a) (min c (d-a))) [f (s (A x y)) z,E (A u x) z,E v u] 1 (s (A x y)) (A x v) rfl h1 (sC d a (lin (c4 a b c d) [f (s (A x y)) u,F 0 0 (s y) z] 1 x u rfl h1 h2)) (Nat.min_eq_right z0))
theorem ω313:a<c→a+min b (c-a)≤c:=fun h1=>lin (c4 (c-a) a c (min b (c-a))) [e (A x y) z,f u x] 1 (A y u) z rfl (sC c a (lin (c3 a b c) [f (s x) z] 1 x z rfl h1)) (Nat.min_le_right b (c-a))
theorem ω314:a<b+c+1→a≤b+c:=lin (c3 a b c) [f (s x) (s (A y z))] 1 x (A y z) rfl
theorem ω315:a+min b (c-a)≤d→c-a≤b→d<c→False:=fun h1 h2 h3=>(Nat.le_total b (c-a)).elim (fun z0=>linF (c6 a (min b (c-a)) d (c-a) b c) [f (A x y) z,f u v,f (s z) w,E (A u x) w,E y v] rfl h1 h2 h3 (sC c a (lin (c6 a b c d (min b (c-a)) (c-a)) [f (A x v) u,F 0 0 w y,f (s u) z] 1 x z rfl h1 h2 h3)) (Nat.min_eq_left z0)) (fun z0=>linF (c5 a (min b (c-a)) d c (c-a)) [f (A x y) z,f (s z) u,E (A v x) u,E y v] rfl h1 h3 (sC c a (lin (c6 a b c d (min b (c-a)) (c-a)) [f (A x v) u,F 0 0 w y,f (s u) z] 1 x z rfl h1 h2 h3)) (Nat.min_eq_right z0))
theorem ω316:a+min b (d-a)≤c→b<d-a→a+b≤c:=fun h1 h2=>(Nat.le_total b (d-a)).elim (fun z0=>lin (c4 a (min b (d-a)) c b) [f (A x y) z,E y u] 1 (A x u) z rfl h1 (Nat.min_eq_left z0)) (fun z0=>lin (c4 b (d-a) a c) [f (s x) y,f y x] 0 (A z x) u rfl h2 z0)
theorem ω317:a≤b→a+(b-a)≤b:=fun h1=>lin (c3 (b-a) a b) [e (A x y) z] 1 (A y x) z rfl (sC b a (lin (c2 a b) [f x y] 1 x y rfl h1))
theorem ω318:a+1<b→a<b:=lin (c2 a b) [f (s (s x)) y] 1 (s x) y rfl
theorem ω321:b<a→¬b+1=a→0<a-(b+1):=fun h1 h2=>(Nat.lt_or_gt_of_ne h2).elim (fun x0=>lin (c3 b a (a-(b+1))) [f (s (s x)) y,f y (A z (s x))] 1 (s (k 0)) z rfl x0 (sA a (b+1))) (fun x0=>lin (c3 b a (a-(b+1))) [f (s x) y,f (s y) (s x)] 0 (s (k 0)) z rfl h1 x0)
theorem ω322:b<c-(a+1)→a+1+b<c:=fun h1=>(Nat.le_total (a+1) c).elim (fun z0=>lin (c4 b (c-(a+1)) a c) [f (s x) y,e (A y (s z)) u] 1 (s (A (s z) x)) u rfl h1 (Nat.sub_add_cancel z0)) (fun z0=>lin (c4 b (c-(a+1)) a c) [f (s x) y,e y (k 0)] 0 (s (A (s z) x)) u rfl h1 (Nat.sub_eq_zero_of_le z0))
theorem ω323:d<c-(a+1)→b≤d→a+1+b<c:=fun h1 h2=>(Nat.le_total (a+1) c).elim (fun z0=>lin (c5 d (c-(a+1)) b a c) [f (s x) y,f z x,e (A y (s u)) v] 1 (s (A (s u) z)) v rfl h1 h2 (Nat.sub_add_cancel z0)) (fun z0=>lin (c5 d (c-(a+1)) a b c) [f (s x) y,e y (k 0)] 0 (s (A (s z) u)) v rfl h1 (Nat.sub_eq_zero_of_le z0))
theorem ω324:b≤c→¬b=c→a+1+b<a+1+c:=fun h1 h2=>(Nat.lt_or_gt_of_ne h2).elim (fun x0=>lin (c3 b c a) [f (s x) y] 1 (s (A (s z) x)) (A (s z) y) rfl x0) (fun x0=>lin (c3 b c a) [f x y,f (s y) x] 0 (s (A (s z) x)) (A (s z) y) rfl h1 x0)
theorem ω325:a<c→b≤c-(a+1)→a+1+b≤c:=fun h1 h2=>lin (c4 b (c-(a+1)) a c) [f x y,e (A y (s z)) u] 1 (A (s z) x) u rfl h2 (sC c (a+1) (lin (c4 a b c (c-(a+1))) [f (s x) z,F 0 0 y u] 1 (s x) z rfl h1 h2))
theorem ω326:d+1+a+b<c→a+b<c-(d+1):=fun h1=>lin (c5 d a b c (c-(d+1))) [f (s (A (A (s x) y) z)) u,f u (A v (s x))] 1 (s (A y z)) v rfl h1 (sA c (d+1))
theorem ω327:a<c→b≤c-(a+1)→¬a+1+b=c→a+1+b<c:=fun h1 h2 h3=>(Nat.lt_or_gt_of_ne h3).elim (fun x0=>x0 ) (fun x0=>lin (c4 b (c-(a+1)) c a) [f x y,f (s z) (A (s u) x),e (A y (s u)) z] 0 (s (A (s u) x)) z rfl h2 x0 (sC c (a+1) (h1)))
theorem ω328:a≤b+c+1→a≤b+1+(c+1+d):=lin (c4 a b c d) [f x (s (A y z))] 1 x (A (s y) (A (s z) u)) rfl
theorem ω329:¬0<a→a=0:=fun h1=>Nat.le_antisymm (lin (c1 a) [f (s x) (s (k 0))] 1 x (k 0) rfl (Nat.lt_of_not_le h1)) (lin (c1 a) [] 1 (k 0) x rfl)
theorem ω330:a<b→¬a+1=b→a+1<b:=fun h1 h2=>(Nat.lt_or_gt_of_ne h2).elim (fun x0=>x0 ) (fun x0=>lin (c2 a b) [f (s x) y,f (s y) (s x)] 0 (s (s x)) y rfl h1 x0)
theorem ω331:a≤b+c+1→a≤b+1+(c+1):=lin (c3 a b c) [f x (s (A y z))] 1 x (A (s y) (s z)) rfl
theorem ω332:b+1<a→0<a-b:=fun h1=>lin (c3 b a (a-b)) [f (s (s x)) y,f y (A z x)] 1 (s (k 0)) z rfl h1 (sA a b)
theorem ω333:b<c-a→a+b<c:=fun h1=>(Nat.le_total a c).elim (fun z0=>lin (c4 b (c-a) a c) [f (s x) y,e (A y z) u] 1 (s (A z x)) u rfl h1 (Nat.sub_add_cancel z0)) (fun z0=>lin (c4 b (c-a) a c) [f (s x) y,e y (k 0)] 0 (s (A z x)) u rfl h1 (Nat.sub_eq_zero_of_le z0))
theorem ω334:d<c-a→b≤d→a+b<c:=fun h1 h2=>(Nat.le_total a c).elim (fun z0=>lin (c5 d (c-a) b a c) [f (s x) y,f z x,e (A y u) v] 1 (s (A u z)) v rfl h1 h2 (Nat.sub_add_cancel z0)) (fun z0=>lin (c5 d (c-a) a b c) [f (s x) y,e y (k 0)] 0 (s (A z u)) v rfl h1 (Nat.sub_eq_zero_of_le z0))
theorem ω335:b≤c→¬b=c→a+b<a+c:=fun h1 h2=>(Nat.lt_or_gt_of_ne h2).elim (fun x0=>lin (c3 b c a) [f (s x) y] 1 (s (A z x)) (A z y) rfl x0) (fun x0=>lin (c3 b c a) [f x y,f (s y) x] 0 (s (A z x)) (A z y) rfl h1 x0)
theorem ω336:a+1<c→b≤c-a→a+b≤c:=fun h1 h2=>lin (c4 b (c-a) a c) [f x y,e (A y z) u] 1 (A z x) u rfl h2 (sC c a (lin (c4 a b c (c-a)) [f (s (s x)) z,F 0 0 y u] 1 x z rfl h1 h2))
theorem ω337:d+a+b<c→a+b<c-d:=fun h1=>lin (c5 d a b c (c-d)) [f (s (A (A x y) z)) u,f u (A v x)] 1 (s (A y z)) v rfl h1 (sA c d)
theorem ω339:a+1<c→b≤c-a→¬a+b+1=c→¬a+b=c→a+b+1<c:=fun h1 h2 h3 h4=>(Nat.lt_or_gt_of_ne h3).elim (fun x0=>x0 ) (fun x0=>(Nat.lt_or_gt_of_ne h4).elim (fun x1=>lin (c3 c a b) [f (s x) (s (A y z)),f (s (A y z)) x] 0 (s (s (A y z))) x rfl x0 x1) (fun x1=>lin (c4 b (c-a) c a) [f x y,f (s z) (A u x),e (A y u) z] 0 (s (s (A u x))) z rfl h2 x1 (sC c a (lin (c2 a c) [f (s (s x)) y] 1 x y rfl h1))) )
theorem ω340:a≤b+d→a<b+c+d+1:=lin (c4 a b c d) [f x (A y u)] 1 (s x) (s (A (A y z) u)) rfl
theorem ω341:a≤b+c→a<b+c+1:=lin (c3 a b c) [f x (A y z)] 1 (s x) (s (A y z)) rfl
theorem ω354:a≤b→b≤c→a≤min b c:=fun h1 h2=>(Nat.le_total b c).elim (fun z0=>lin (c3 a b (min b c)) [f x y,E z y] 1 x z rfl h1 (Nat.min_eq_left z0)) (fun z0=>lin (c4 a b c (min b c)) [f x y,f y z,E u z] 1 x u rfl h1 h2 (Nat.min_eq_right z0))
theorem ω355:a<b→a≤min a b:=fun h1=>(Nat.le_total a b).elim (fun z0=>lin (c2 (min a b) a) [E x y] 1 y x rfl (Nat.min_eq_left z0)) (fun z0=>lin (c3 a b (min a b)) [f (s x) y,f y x] 0 x z rfl h1 z0)
theorem ω356:2≤a→a=a-1+1:=fun h1=>Nat.le_antisymm ((sA a 1)) (lin (c2 (a-1) a) [e (s x) y] 1 (s x) y rfl (sC a 1 (lin (c1 a) [f (k 2) x] 1 i x rfl h1)))
theorem ω357:1≤a→a≤b→a-1<b:=fun h1 h2=>lin (c3 a b (a-1)) [f x y,e (s z) x] 1 (s z) y rfl h2 (sC a 1 (lin (c2 a b) [f i x,F 0 0 x y] 1 i x rfl h1 h2))
theorem ω359:2≤a+1→a-1<a:=fun h1=>lin (c2 (a-1) a) [e (s x) y] 1 (s x) y rfl (sC a 1 (lin (c1 a) [f (k 2) (s x)] 1 i x rfl h1))
theorem ω360:a<c→c<b→a<b:=lin (c3 a b c) [f (s x) z,f (s z) y] 1 (s x) y rfl
theorem ω361:c<b→d<c→a≤d→a<b:=lin (c4 a b c d) [f (s z) y,f (s u) z,f x u] 1 (s x) y rfl
theorem ω362:a≤b→¬a=b→a<b:=fun h1 h2=>(Nat.lt_or_gt_of_ne h2).elim (fun x0=>x0 ) (fun x0=>lin (c2 a b) [f x y,f (s y) x] 0 (s x) y rfl h1 x0)
theorem ω363:¬a=0→¬a=1→2≤a:=fun h1 h2=>(Nat.lt_or_gt_of_ne h1).elim (fun x0=>lin (c1 a) [f (s x) (k 0)] 0 (k 2) x rfl x0) (fun x0=>(Nat.lt_or_gt_of_ne h2).elim (fun x1=>lin (c1 a) [f (s (k 0)) x,f (s x) i] 0 (k 2) x rfl x0 x1) (fun x1=>lin (c1 a) [f (s i) x] 1 (k 2) x rfl x1) )
theorem ω364:a+b+(j+1)≤d+g+1→c≤j→a+(b-1)+c≤d+g:=fun h1 h2=>lin (c7 a b j d g c (b-1)) [f (A (A x y) (s z)) (s (A u v)),f w z,f p y] 1 (A (A x p) w) (A u v) rfl h1 h2 (Nat.sub_le b 1)
theorem ω365:a≤b→¬0<b-a→a=b:=fun h1 h2=>Nat.le_antisymm (h1) (lin (c3 (b-a) b a) [f (s x) (s (k 0)),f y (A x z)] 1 y z rfl (Nat.lt_of_not_le h2) (sA b a))
theorem ω366:2≤a+1→¬a=1→2≤a:=fun h1 h2=>(Nat.lt_or_gt_of_ne h2).elim (fun x0=>lin (c1 a) [f (k 2) (s x),f (s x) i] 0 (k 2) x rfl h1 x0) (fun x0=>lin (c1 a) [f (s i) x] 1 (k 2) x rfl x0)
theorem ω367:a+b+(c+1)≤d+g+1→a+(b-1)+c≤d+g:=fun h1=>lin (c6 a b c d g (b-1)) [f (A (A x y) (s z)) (s (A u v)),f w y] 1 (A (A x w) z) (A u v) rfl h1 (Nat.sub_le b 1)
theorem ω368:2≤a→a≤b→a-1<b:=fun h1 h2=>lin (c3 a b (a-1)) [f x y,e (s z) x] 1 (s z) y rfl h2 (sC a 1 (lin (c2 a b) [f (k 2) x,F 0 0 x y] 1 i x rfl h1 h2))
theorem ω370:1≤a→a-1<a:=fun h1=>lin (c2 (a-1) a) [e (s x) y] 1 (s x) y rfl (sC a 1 (lin (c1 a) [f i x] 1 i x rfl h1))
theorem ω371:c<d→a≤c→d≤b→a<b:=lin (c4 a b c d) [f (s z) u,f x z,f u y] 1 (s x) y rfl
theorem ω372:a+j+c≤d+g→b≤j→a+1+b+c≤d+g+1:=lin (c6 a b c d g j) [f (A (A x w) z) (A u v),f y w] 1 (A (A (s x) y) z) (s (A u v)) rfl
theorem ω373:a+b+c≤d+g→a+1+b+c≤d+g+1:=lin (c5 a b c d g) [f (A (A x y) z) (A u v)] 1 (A (A (s x) y) z) (s (A u v)) rfl
theorem ω374:0<a→a-1<a:=fun h1=>lin (c2 (a-1) a) [e (s x) y] 1 (s x) y rfl (sC a 1 (lin (c1 a) [f (s (k 0)) x] 1 i x rfl h1))
theorem ω388:a<b→¬a=b-1→a<b-1:=fun h1 h2=>(Nat.lt_or_gt_of_ne h2).elim (fun x0=>x0 ) (fun x0=>lin (c3 a b (b-1)) [f (s x) y,f (s z) x,f y (s z)] 0 (s x) z rfl h1 x0 (sA b 1))
theorem ω389:b<a→a-1<a:=fun h1=>lin (c2 (a-1) a) [e (s x) y] 1 (s x) y rfl (sC a 1 (lin (c2 a b) [f (s y) x] 1 i x rfl h1))
theorem ω390:a<b→b<c+1→c≤a→False:=linF (c3 a b c) [f (s x) y,f (s y) (s z),f z x] rfl
theorem ω392:a+d≤c→b<d→a+b<c:=lin (c4 a b c d) [f (A x u) z,f (s y) u] 1 (s (A x y)) z rfl
theorem ω393:a+d≤c→b<d→a+b-1<c:=fun h1 h2=>lin (c5 a d c b (a+b-1)) [f (A x y) z,f (s u) y,f v (A x u)] 1 (s v) z rfl h1 h2 (Nat.sub_le (a+b) 1)
theorem ω394:1≤c→c≤b→a<a+b:=lin (c3 a b c) [f i z,f z y] 1 (s x) (A x y) rfl
theorem ω395:1≤c→c≤b→¬a+b=a+b-1:=fun h1 h2=>fun y0=>linF (c3 a b (a+b-1)) [e (A x y) z,e (s z) (A x y)] rfl y0 (sC (a+b) 1 (lin (c3 c b a) [f i x,f x y] 1 i (A z y) rfl h1 h2))
theorem ω396:1≤c→a+c≤b→a<b:=lin (c3 a b c) [f i z,f (A x z) y] 1 (s x) y rfl
theorem ω397:1<b→a+d≤c→b≤d→a+b-1<c:=fun h1 h2 h3=>lin (c5 a d c b (a+b-1)) [f (A x y) z,f u y,e (s v) (A x u)] 1 (s v) z rfl h2 h3 (sC (a+b) 1 (lin (c4 a b c d) [f (s i) y,F 0 0 (A x u) z,F 0 0 y u] 1 i (A x y) rfl h1 h2 h3))
theorem ω398:1<b→a<a+b-1:=fun h1=>lin (c3 b a (a+b-1)) [f (s i) x,f (A y x) (s z)] 1 (s y) z rfl h1 (sA (a+b) 1)
theorem ω399:1<b→a+b-1<a+b:=fun h1=>lin (c3 (a+b-1) a b) [e (s x) (A y z)] 1 (s x) (A y z) rfl (sC (a+b) 1 (lin (c2 a b) [f (s i) y] 1 i (A x y) rfl h1))
theorem ω400:1≤a→¬1<a→a=1:=fun h1 h2=>Nat.le_antisymm (lin (c1 a) [f (s x) (s i)] 1 x i rfl (Nat.lt_of_not_le h2)) (h1)
theorem ω401:1≤c→a+c≤b→¬1=c→a+1<b:=fun h1 h2 h3=>(Nat.lt_or_gt_of_ne h3).elim (fun x0=>lin (c3 a c b) [f (A x y) z,f (s i) y] 1 (s (s x)) z rfl h2 x0) (fun x0=>lin (c3 c a b) [f i x,f (s x) i] 0 (s (s y)) z rfl h1 x0)
theorem ω403:1≤a→¬1=a→2≤a:=fun h1 h2=>(Nat.lt_or_gt_of_ne h2).elim (fun x0=>lin (c1 a) [f (s i) x] 1 (k 2) x rfl x0) (fun x0=>lin (c1 a) [f i x,f (s x) i] 0 (k 2) x rfl h1 x0)
theorem ω404:1<b→a<a+b:=lin (c2 a b) [f (s i) y] 1 (s x) (A x y) rfl
theorem ω405:1<b→¬a+b=a+b-1:=fun h1=>fun y0=>linF (c3 a b (a+b-1)) [e (A x y) z,e (s z) (A x y)] rfl y0 (sC (a+b) 1 (lin (c2 b a) [f (s i) x] 1 i (A y x) rfl h1))
theorem ω406:a+d≤c→b≤d→a+b≤c:=lin (c4 a b c d) [f (A x u) z,f y u] 1 (A x y) z rfl
theorem ω409:c<a+b→a≤a+(a+b)-1-c:=fun h1=>lin (c5 c a b (a+(a+b)-1) (a+(a+b)-1-c)) [f (s x) (A y z),f u (A v x),f (A y (A y z)) (s u)] 1 y v rfl h1 (sA (a+(a+b)-1) c) (sA (a+(a+b)) 1)
theorem ω410:d<c→c<a+b→a+(a+b)-1-c<a+(a+b)-1-d:=fun h1 h2=>lin (c5 d c (a+(a+b)-1-c) (a+(a+b)-1) (a+(a+b)-1-d)) [f (s x) y,e (A z y) u,f u (A v x)] 1 (s z) v rfl h1 (sC (a+(a+b)-1) c (lin (c4 c a b (a+(a+b)-1)) [f (s x) (A y z),f (A y (A y z)) (s u)] 1 x u rfl h2 (sA (a+(a+b)) 1))) (sA (a+(a+b)-1) d)
theorem ω411:d<a+b→a≤c→a+(a+b)-1-c<a+b:=fun h1 h2=>(Nat.le_total c (a+(a+b)-1)).elim (fun z0=>lin (c5 a c (a+(a+b)-1) b (a+(a+b)-1-c)) [f x y,e (s z) (A x (A x u)),e (A v y) z] 1 (s v) (A x u) rfl h2 (sC (a+(a+b)) 1 (lin (c4 a b c d) [f (s u) (A x y),F 0 0 x z] 1 i (A x (A x y)) rfl h1 h2)) (Nat.sub_add_cancel z0)) (fun z0=>lin (c4 d a b (a+(a+b)-1-c)) [f (s x) (A y z),e u (k 0)] 1 (s u) (A y z) rfl h1 (Nat.sub_eq_zero_of_le z0))
theorem ω412:2≤a→1≤a:=lin (c1 a) [f (k 2) x] 1 i x rfl
theorem ω413:2≤b→b≤a→1≤a:=lin (c2 a b) [f (k 2) y,f y x] 1 i x rfl
theorem ω414:b<a∨a+d≤b→c≤d→¬(a≤b∧b<a+c):=fun h1 h2 h=>h1.elim (fun x=>Nat.not_le_of_lt x h.1) fun x=>Nat.not_le_of_lt h.2 (Nat.le_trans (Nat.add_le_add_left h2 a) x)
theorem ω415:1≤a→max a 1=a:=Nat.max_eq_left
theorem ω416:1≤a→a≤b→max (max a 1) b=b:=fun h h2=>by rw[Nat.max_eq_left h]; exact Nat.max_eq_right h2
theorem ω417:a≤a:=lin (c1 a) [] 1 x x rfl
theorem ω418:a-0≤a-0:=lin (c2 a (a-0)) [] 1 y y rfl
theorem ω419:a<b→b≤a→False:=linF (c2 a b) [f (s x) y,f y x] rfl
theorem ω420:a+g≤d→j<g→c≤j→¬c≤b→a+(b+c)/2<d:=fun h1 h2 h3 h4=>lin (c7 a g d j c b ((b+c)/2)) [F 0 2 (A x y) z,F 0 2 (s u) y,F 0 2 v u,f (s w) v,f (m 2 p) (A w v)] 2 (s (A x p)) z rfl h1 h2 h3 (Nat.lt_of_not_le h4) (dvA (b+c) 2)
theorem ω421:¬b≤a→a≤(a+b)/2:=fun h1=>lin (c3 a b ((a+b)/2)) [f (s x) y,f (s (A x y)) (A (m 2 z) (k 2))] 2 x z rfl (Nat.lt_of_not_le h1) (dvB (a+b) 2 (by decide))
theorem ω422:b≤c→¬b≤a→(a+b)/2≤c:=fun h1 h2=>lin (c4 b c a ((a+b)/2)) [F 0 2 x y,f (s z) x,f (m 2 u) (A z x)] 2 u y rfl h1 (Nat.lt_of_not_le h2) (dvA (a+b) 2)
theorem ω423:b-a≤c-d→(a+b)/2-a≤c-(d+1):=fun h=>(Nat.lt_or_ge a b).elim (fun k=>Nat.le_trans (Nat.sub_le_sub_right (Nat.le_sub_one_of_lt (Nat.div_lt_of_lt_mul (lin (c2 a b) [f (s x) y] 1 (s (A x y)) (m 2 y) rfl k))) a) (Nat.sub_right_comm b 1 a▸Nat.sub_add_eq c d 1▸Nat.sub_le_sub_right h 1)) fun k=>Nat.sub_eq_zero_of_le (Nat.div_le_of_le_mul (lin (c2 a b) [f y x] 1 (A x y) (m 2 x) rfl k))▸Nat.zero_le _
theorem ω424:a≤a+(b+c)/2:=lin (c4 a b c ((b+c)/2)) [] 1 x (A x u) rfl
theorem ω425:(b+c)/2≤d→¬d=(b+c)/2→a+(b+c)/2<a+d:=fun h1 h2=>(Nat.lt_or_gt_of_ne h2).elim (fun x0=>lin (c3 ((b+c)/2) d a) [f x y,f (s y) x] 0 (s (A z x)) (A z y) rfl h1 x0) (fun x0=>lin (c3 ((b+c)/2) d a) [f (s x) y] 1 (s (A z x)) (A z y) rfl x0)
theorem ω426:b<c→a+b<a+c:=lin (c3 a b c) [f (s y) z] 1 (s (A x y)) (A x z) rfl
theorem ω427:d≤b→¬d≤c→¬a+b=a+(c+d)/2:=fun h1 h2=>fun y0=>linF (c5 d b c a ((c+d)/2)) [F 0 2 x y,f (s z) x,F 1 2 (A u y) (A u v),f (m 2 v) (A z x)] rfl h1 (Nat.lt_of_not_le h2) y0 (dvA (c+d) 2)
theorem ω428:¬b≤a→(a+b)/2<b:=fun h1=>lin (c3 a b ((a+b)/2)) [f (s x) y,f (m 2 z) (A x y)] 2 (s z) y rfl (Nat.lt_of_not_le h1) (dvA (a+b) 2)
theorem ω429:a-b≤c-d→a-((b+a)/2+1)≤c-(d+1):=fun h=>(Nat.le_total b a).elim (fun k=>Nat.le_trans (Nat.sub_le_sub_left (Nat.succ_le_succ ((Nat.le_div_iff_mul_le (by decide:0<2)).mpr (lin (c2 a b) [f y x] 1 (M y 2) (A y x) rfl k))) a) (Nat.sub_add_eq a b 1▸Nat.sub_add_eq c d 1▸Nat.sub_le_sub_right h 1)) fun k=>Nat.sub_eq_zero_of_le (Nat.le_succ_of_le ((Nat.le_div_iff_mul_le (by decide:0<2)).mpr (lin (c2 a b) [f x y] 1 (M x 2) (A y x) rfl k)))▸Nat.zero_le _
theorem ω430:b<(c+d)/2+1→¬b=(c+d)/2→a+b<a+(c+d)/2:=fun h1 h2=>(Nat.lt_or_gt_of_ne h2).elim (fun x0=>lin (c3 b ((c+d)/2) a) [f (s x) y] 1 (s (A z x)) (A z y) rfl x0) (fun x0=>lin (c3 b ((c+d)/2) a) [f (s x) (s y),f (s y) x] 0 (s (A z x)) (A z y) rfl h1 x0)
theorem ω431:c≤d→¬c≤b→a+(b+c)/2<a+d:=fun h1 h2=>lin (c5 c d b ((b+c)/2) a) [F 0 2 x y,f (s z) x,f (m 2 u) (A z x)] 2 (s (A v u)) (A v y) rfl h1 (Nat.lt_of_not_le h2) (dvA (b+c) 2)
theorem ω432:a+b-(a+c)≤a+b:=(Nat.sub_le (a+b) (a+c))
theorem ω434:d<a→d=b+c→¬a=b+c:=linF (c4 a b c d) [f (s u) x,E u (A y z),e x (A y z)] rfl
theorem ω435:g<c→c<a+(d+1)→g=a+b→a+b<c∧c≤a+d:=fun h1 h2 h3=>⟨lin (c5 a b c d g) [f (s v) z,F 0 0 (s z) (A x (s u)),E v (A x y)] 1 (s (A x y)) z rfl h1 h2 h3,lin (c5 a b c d g) [F 0 0 (s v) z,f (s z) (A x (s u)),F 1 0 v (A x y)] 1 z (A x u) rfl h1 h2 h3⟩
theorem ω436:d<b→d=c+a→a≤b-1-c:=fun h1 h2=>lin (c6 d b c a (b-1) (b-1-c)) [f (s x) y,E x (A z u),f v (A w z),f y (s v)] 1 u w rfl h1 h2 (sA (b-1) c) (sA b 1)
theorem ω437:d<a→a<b+(c+1)→d=b+g→a-1-b<c:=fun h1 h2 h3=>lin (c5 a b c (a-1-b) (a-1)) [f (s x) (A y (s z)),e (A u y) v,e (s v) x] 1 (s u) z rfl h2 (sC (a-1) b (lin (c5 d a b g (a-1)) [f (s x) y,E x (A z u),f y (s v)] 1 z v rfl h1 h3 (sA a 1))) (sC a 1 (lin (c2 d a) [f (s x) y] 1 i y rfl h1))
theorem ω438:c<b→c=a+d→a+(b-1-a)=b-1:=fun h1 h2=>Nat.le_antisymm (lin (c3 (b-1-a) a (b-1)) [e (A x y) z] 1 (A y x) z rfl (sC (b-1) a (lin (c5 c b a d (b-1)) [f (s x) y,E x (A z u),f y (s v)] 1 z v rfl h1 h2 (sA b 1)))) (lin (c3 (b-1) (b-1-a) a) [f x (A y z)] 1 x (A z y) rfl (sA (b-1) a))
theorem ω439:c<g→g=a+b→¬(a+b<c∧c≤a+d):=fun h k l=>Nat.lt_asymm l.1 (k▸h)
theorem ω440:a<d→d=b+c→b≤a→a-b<c:=fun h1 h2 h3=>lin (c5 a d b c (a-b)) [f (s x) y,e y (A z u),e (A v z) x] 1 (s v) u rfl h1 h2 (sC a b (lin (c4 a b c d) [F 0 0 (s x) u,F 1 0 u (A y z),f y x] 1 y x rfl h1 h2 h3))
theorem ω441:a+b<g∧g≤a+d→g<c→c<a+(d+1)→a+b<c∧c≤a+d:=fun h1 h2 h3=>⟨lin (c4 a b g c) [f (s (A x y)) z,f (s z) u] 1 (s (A x y)) u rfl h1.1 h2,lin (c3 c a d) [f (s x) (A y (s z))] 1 x (A y z) rfl h3⟩
theorem ω442:a+c<b∧b≤a+d→a≤b-1:=fun h1=>lin (c4 a c b (b-1)) [f (s (A x y)) z,f z (s u)] 1 x u rfl h1.1 (sA b 1)
theorem ω443:c+d<a∧a≤c+g→a<b→a-1<b-1:=fun h1 h2=>lin (c4 a b (a-1) (b-1)) [f (s x) y,e (s z) x,f y (s u)] 1 (s z) u rfl h2 (sC a 1 (lin (c3 c d a) [f (s (A x y)) z] 1 i z rfl h1.1)) (sA b 1)
theorem ω444:b+d<g∧g≤b+c→a<b+(c+1)→a-1<b+c:=fun h1 h2=>(Nat.le_total 1 a).elim (fun z0=>lin (c4 a b c (a-1)) [f (s x) (A y (s z)),e (s u) x] 1 (s u) (A y z) rfl h2 (Nat.sub_add_cancel z0)) (fun z0=>lin (c5 b d g c (a-1)) [f (s (A x y)) z,f z (A x u),e v (k 0)] 1 (s v) (A x u) rfl h1.1 h1.2 (Nat.sub_eq_zero_of_le z0))
theorem ω445:c+d<b∧b≤c+g→a<b→¬(c+d<a∧a≤c+g)→¬a=c+d→a<b-1:=fun h1 h2 h3 h4=>Nat.lt_of_lt_of_le (Nat.lt_of_le_of_ne (Nat.le_of_not_lt fun x=>h3 ⟨x,Nat.le_trans (Nat.le_of_lt h2) h1.2⟩) h4) (Nat.le_sub_of_add_le h1.1)
theorem ω446:d<a→a<b+(c+1)→a-1<b+c:=fun h1 h2=>lin (c4 a b c (a-1)) [f (s x) (A y (s z)),e (s u) x] 1 (s u) (A y z) rfl h2 (sC a 1 (lin (c4 a b c d) [f (s u) x,F 0 0 (s x) (A y (s z))] 1 i x rfl h1 h2))
theorem ω447:a<b+(c+1)→d≤c→¬(b+d<a∧a≤b+c)→¬a=b+d→a<b+c:=fun h1 h2 h3 h4=>Nat.lt_of_lt_of_le (Nat.lt_of_le_of_ne (Nat.le_of_not_lt fun x=>h3 ⟨x,Nat.le_of_lt_succ h1⟩) h4) (Nat.add_le_add_left h2 b)
theorem ω448:c<g→a<b∨b+g≤a→¬a=b+c-(b+c-(b+d)):=fun h1 h2=>fun y0=>h2.elim (fun x1=>(Nat.le_total (b+d) (b+c)).elim (fun z2=>linF (c6 a (b+c-(b+c-(b+d))) b (b+c-(b+d)) c d) [E x y,f (s x) z,E (A y u) (A z v),e (A u (A z w)) (A z v)] rfl y0 x1 (sC (b+c) (b+c-(b+d)) ((Nat.sub_le (b+c) (b+d)))) (Nat.sub_add_cancel z2)) (fun z2=>linF (c5 a (b+c-(b+c-(b+d))) b (b+c-(b+d)) c) [E x y,f (s x) z,E (A y u) (A z v),e u (k 0)] rfl y0 x1 (sC (b+c) (b+c-(b+d)) ((Nat.sub_le (b+c) (b+d)))) (Nat.sub_eq_zero_of_le z2)) ) (fun x1=>linF (c5 c g a (b+c-(b+c-(b+d))) b) [f (s x) y,e z u,f (A v y) z,f u (A v x)] rfl h1 y0 x1 (Nat.sub_le (b+c) (b+c-(b+d))))
theorem ω449:b<g→d<a∨a+g≤d→¬(a+b-(a+b-(a+c))<d∧d≤a+b):=fun h1 h2 h=>h2.elim (fun x=>Nat.not_le_of_lt (Nat.lt_trans h.1 x) (Nat.add_sub_add_left a b c▸Nat.le_sub_of_add_le (Nat.add_le_add_left (Nat.sub_le b c) a))) fun x=>Nat.not_le_of_lt (Nat.add_lt_add_left h1 a) (Nat.le_trans x h.2)
theorem ω450:a+b+(c+1)≤d→a+(b+1)+c≤d:=lin (c4 a b c d) [f (A (A x y) (s z)) u] 1 (A (A x (s y)) z) u rfl
theorem ω451:a+b+(d+1)≤c→a+b<c:=lin (c4 a b c d) [f (A (A x y) (s u)) z] 1 (s (A x y)) z rfl
theorem ω452:a+(b+1)=a+b+1:=Nat.le_antisymm (lin (c2 a b) [] 1 (A x (s y)) (s (A x y)) rfl) (lin (c2 a b) [] 1 (s (A x y)) (A x (s y)) rfl)
theorem ω453:a+(b+1)+c=a+b+(c+1):=Nat.le_antisymm (lin (c3 a b c) [] 1 (A (A x (s y)) z) (A (A x y) (s z)) rfl) (lin (c3 a b c) [] 1 (A (A x y) (s z)) (A (A x (s y)) z) rfl)
theorem ω454:a+b<a+b+(c+1):=lin (c3 a b c) [] 1 (s (A x y)) (A (A x y) (s z)) rfl
theorem ω455:b+c=d→a=d→a=b+c:=fun h1 h2=>Nat.le_antisymm (lin (c4 a b c d) [E (A y z) u,e x u] 1 x (A y z) rfl h1 h2) (lin (c4 a b c d) [e (A y z) u,E x u] 1 (A y z) x rfl h1 h2)
theorem ω456:a+b=c→a+b≤c:=lin (c3 a b c) [e (A x y) z] 1 (A x y) z rfl
theorem ω457:1≤c→a+c=b→a<b:=lin (c3 a b c) [f i z,e (A x z) y] 1 (s x) y rfl
theorem ω458:1≤c→a+c=b→a-1<b:=fun h1 h2=>lin (c4 c a b (a-1)) [f i x,e (A y x) z,f u y] 1 (s u) z rfl h1 h2 (Nat.sub_le a 1)
theorem ω459:min (a-1+1) a=a:=Nat.le_antisymm ((Nat.min_le_right (a-1+1) a)) ((Nat.le_total (a-1+1) a).elim (fun z0=>lin (c3 (min (a-1+1) a) (a-1) a) [E x (s y),f z (s y)] 1 z x rfl (Nat.min_eq_left z0) (sA a 1)) (fun z0=>lin (c2 (min (a-1+1) a) a) [E x y] 1 y x rfl (Nat.min_eq_right z0)))
theorem ω460:1≤a→0<a:=lin (c1 a) [f i x] 1 (s (k 0)) x rfl
theorem ω461:c+d=b→a<c→a<b:=lin (c4 a b c d) [e (A z u) y,f (s x) z] 1 (s x) y rfl
theorem ω462:c+d=b→g<c→a≤g→a<b:=lin (c5 a b c d g) [e (A z u) y,f (s v) z,f x v] 1 (s x) y rfl
theorem ω463:b<c→c≤a→¬a=b:=linF (c3 a b c) [f (s y) z,f z x,e x y] rfl
theorem ω464:b-a=0→a≤b→a=b:=fun h1 h2=>Nat.le_antisymm (lin (c3 a b (b-a)) [F 1 0 z (k 0),f x y] 1 x y rfl h1 h2) (lin (c3 (b-a) b a) [e x (k 0),f y (A x z)] 1 y z rfl h1 (sA b a))
theorem ω465:a≤b→0+a+(b-a)-1=b-1:=fun h1=>Nat.le_antisymm ((Nat.le_total 1 (0+a+(b-a))).elim (fun z0=>lin (c5 (b-a) a b (0+a+(b-a)-1) (b-1)) [e (A x y) z,e (s u) (A (A (k 0) y) x),f z (s v)] 1 u v rfl (sC b a (lin (c2 a b) [f x y] 1 x y rfl h1)) (Nat.sub_add_cancel z0) (sA b 1)) (fun z0=>lin (c2 (0+a+(b-a)-1) (b-1)) [e x (k 0)] 1 x y rfl (Nat.sub_eq_zero_of_le z0))) ((Nat.le_total 1 b).elim (fun z0=>lin (c5 (b-a) a b (b-1) (0+a+(b-a)-1)) [E (A x y) z,e (s u) z,f (A (A (k 0) y) x) (s v)] 1 u v rfl (sC b a (lin (c2 a b) [f x y] 1 x y rfl h1)) (Nat.sub_add_cancel z0) (sA (0+a+(b-a)) 1)) (fun z0=>lin (c2 (b-1) (0+a+(b-a)-1)) [e x (k 0)] 1 x y rfl (Nat.sub_eq_zero_of_le z0)))
theorem ω466:a+d=c→b<d→a+b<c:=lin (c4 a b c d) [e (A x u) z,f (s y) u] 1 (s (A x y)) z rfl
theorem ω467:a+d=c→g<d→b≤g→a+b<c:=lin (c5 a b c d g) [e (A x u) z,f (s v) u,f y v] 1 (s (A x y)) z rfl
theorem ω468:d+a+b<d+c→a+b<c:=lin (c4 a b c d) [f (s (A (A u x) y)) (A u z)] 1 (s (A x y)) z rfl
theorem ω469:1≤a→¬a+b+c=a-1:=fun h1=>fun y0=>linF (c4 a b c (a-1)) [e (A (A x y) z) u,e (s u) x] rfl y0 (sC a 1 (h1))
theorem ω470:b=a+d→min a b-c=a-c:=fun h=>congrArg (·-c) (Nat.min_eq_left (h▸Nat.le_add_right a d))
theorem ω471:b=c+d→a≤d→min a (b-c)=a:=fun h1 h2=>Nat.le_antisymm ((Nat.min_le_left a (b-c))) ((Nat.le_total a (b-c)).elim (fun z0=>lin (c2 (min a (b-c)) a) [E x y] 1 y x rfl (Nat.min_eq_left z0)) (fun z0=>lin (c6 b c d a (b-c) (min a (b-c))) [E x (A y z),f u z,E (A v y) x,E w v] 1 u w rfl h1 h2 (sC b c (lin (c4 a b c d) [E y (A z u),F 0 0 x u] 1 z y rfl h1 h2)) (Nat.min_eq_right z0)))
theorem ω472:a<b→¬a=b+c:=linF (c3 a b c) [f (s x) y,E x (A y z)] rfl
theorem ω473:b=a+g→d≤g→min a b-c+min d (b-a)=a-c+d:=fun h h2=>by subst h; rw[Nat.min_eq_left (Nat.le_add_right a g),Nat.add_sub_cancel_left,Nat.min_eq_left h2]
theorem ω474:d+g=j→c=j→b=d-a+l→a≤d→l≤g→0+a+0+b≤c:=fun h1 h2 h3 h4 h5=>lin (c8 d g j c b (d-a) l a) [e (A x y) z,E u z,e v (A w p),f p y,e (A w q) x] 1 (A (A (A (k 0) q) (k 0)) v) u rfl h1 h2 h3 h5 (sC d a (lin (c8 a b c d g j l (d-a)) [F 1 0 (A u v) w,F 1 0 z w,F 1 0 y (A q p),f x u,F 0 0 p v] 1 x u rfl h1 h2 h3 h4 h5))
theorem ω475:0+a+0=a:=Nat.le_antisymm (lin (c1 a) [] 1 (A (A (k 0) x) (k 0)) x rfl) (lin (c1 a) [] 1 x (A (A (k 0) x) (k 0)) rfl)
theorem ω476:a≤b→a+(b-a+c)=b+c:=fun h1=>Nat.le_antisymm (lin (c4 (b-a) a b c) [e (A x y) z] 1 (A y (A x u)) (A z u) rfl (sC b a (lin (c3 a b c) [f x y] 1 x y rfl h1))) (lin (c4 b (b-a) a c) [f x (A y z)] 1 (A x u) (A z (A y u)) rfl (sA b a))
theorem ω477:¬b-a=0→a+(b-a-1)<b:=fun h1=>(Nat.lt_or_gt_of_ne h1).elim (fun x0=>lin (c4 (b-a) a (b-a-1) b) [f (s x) (k 0)] 0 (s (A y z)) u rfl x0) (fun x0=>(Nat.le_total a b).elim (fun z1=>lin (c4 (b-a-1) (b-a) a b) [e (s x) y,e (A y z) u] 1 (s (A z x)) u rfl (sC (b-a) 1 (lin (c1 (b-a)) [f (s (k 0)) x] 1 i x rfl x0)) (Nat.sub_add_cancel z1)) (fun z1=>lin (c4 (b-a) a (b-a-1) b) [f (s (k 0)) x,e x (k 0)] 0 (s (A y z)) u rfl x0 (Nat.sub_eq_zero_of_le z1)) )
theorem ω478:¬b-a=0→a+(b-a-1)=b-1:=fun h1=>Nat.le_antisymm ((Nat.lt_or_gt_of_ne h1).elim (fun x0=>lin (c4 (b-a) a (b-a-1) (b-1)) [f (s x) (k 0)] 0 (A y z) u rfl x0) (fun x0=>(Nat.le_total a b).elim (fun z1=>lin (c5 (b-a-1) (b-a) (b-1) b a) [e (s x) y,E (s z) u,e (A y v) u] 1 (A v x) z rfl (sC (b-a) 1 (lin (c1 (b-a)) [f (s (k 0)) x] 1 i x rfl x0)) (sC b 1 (lin (c2 (b-a) b) [f (s (k 0)) x,f x y] 1 i y rfl x0 (Nat.sub_le b a))) (Nat.sub_add_cancel z1)) (fun z1=>lin (c4 (b-a) a (b-a-1) (b-1)) [f (s (k 0)) x,e x (k 0)] 0 (A y z) u rfl x0 (Nat.sub_eq_zero_of_le z1)) )) ((Nat.le_total 1 b).elim (fun z0=>lin (c5 (b-1) b (b-a) (b-a-1) a) [e (s x) y,f z (s u),f y (A z v)] 1 x (A v u) rfl (Nat.sub_add_cancel z0) (sA (b-a) 1) (sA b a)) (fun z0=>lin (c3 (b-1) a (b-a-1)) [e x (k 0)] 1 x (A y z) rfl (Nat.sub_eq_zero_of_le z0)))
theorem ω479:¬a=0→0<a:=fun h1=>(Nat.lt_or_gt_of_ne h1).elim (fun x0=>lin (c1 a) [f (s x) (k 0)] 0 (s (k 0)) x rfl x0) (fun x0=>x0 )
theorem ω480:a=b-c→¬b-c=0→0<a:=fun h1 h2=>(Nat.lt_or_gt_of_ne h2).elim (fun x0=>lin (c2 (b-c) a) [f (s x) (k 0)] 0 (s (k 0)) y rfl x0) (fun x0=>lin (c2 a (b-c)) [E x y,f (s (k 0)) y] 1 (s (k 0)) x rfl h1 x0)
theorem ω481:a=b→¬b=0→0<a:=fun h1 h2=>(Nat.lt_or_gt_of_ne h2).elim (fun x0=>lin (c2 b a) [f (s x) (k 0)] 0 (s (k 0)) y rfl x0) (fun x0=>lin (c2 a b) [E x y,f (s (k 0)) y] 1 (s (k 0)) x rfl h1 x0)
theorem ω482:b-1+a<b→a=0:=fun h1=>Nat.le_antisymm (lin (c3 (b-1) a b) [f (s (A x y)) z,f z (s x)] 1 y (k 0) rfl h1 (sA b 1)) (lin (c3 a b (b-1)) [F 0 0 (s (A z x)) y] 1 (k 0) x rfl h1)
theorem ω483:a=b-c→¬b-c≤d→0<a:=fun h1 h2=>lin (c3 a (b-c) d) [E x y,f (s z) y] 1 (s (k 0)) x rfl h1 (Nat.lt_of_not_le h2)
theorem ω484:a<1→a=0:=fun h1=>Nat.le_antisymm (lin (c1 a) [f (s x) i] 1 x (k 0) rfl h1) (lin (c1 a) [F 0 0 (s x) i] 1 (k 0) x rfl h1)
theorem ω485:a+1+0≤a+1∧a<2*(a+1+0)∧1≤a+1+0:=⟨lin (c1 a) [] 1 (A (s x) (k 0)) (s x) rfl,⟨lin (c1 a) [] 1 (s x) (m 2 (A (s x) (k 0))) rfl,lin (c1 a) [] 1 i (A (s x) (k 0)) rfl⟩⟩
theorem ω487:a+1<127→(a+1+1)/2<64:=fun h1=>lin (c2 a ((a+1+1)/2)) [f (s (s x)) (k 127),f (m 2 y) (s (s x))] 2 (s y) (k 64) rfl h1 (dvA (a+1+1) 2)
theorem ω488:(a+1+1)/2+max 0 ((a+1+1)%2)≤a+1+1∧a+1<2*((a+1+1)/2+max 0 ((a+1+1)%2))∧1≤(a+1+1)/2+max 0 ((a+1+1)%2):=by rw[Nat.zero_max]; exact(fun q r (h:2*q+r=a+1+1)=>(⟨lin (c3 q r a) [e (A (m 2 x) y) (s (s z))] 1 (A x y) (s (s z)) rfl h,lin (c3 q r a) [E (A (m 2 x) y) (s (s z))] 1 (s (s z)) (m 2 (A x y)) rfl h,lin (c3 q r a) [E (A (m 2 x) y) (s (s z))] 2 i (A x y) rfl h⟩:q+r≤a+1+1∧a+1<2*(q+r)∧1≤q+r)) _ _ (Nat.div_add_mod (a+1+1) 2)
theorem ω520:0=a→2≤a→False:=linF (c1 a) [E (k 0) x,f (k 2) x] rfl
theorem ω521:a<b∨a=b∧(c<d∨c=d∧(g<j∨g=j∧l<n))→b<a∨b=a∧(d<c∨d=c∧(j<g∨j=g∧n<l))→False:=fun h1 h2=>h1.elim (fun x0=>h2.elim (fun x1=>linF (c2 a b) [f (s x) y,f (s y) x] rfl x0 x1) (fun x1=>linF (c2 a b) [f (s x) y,e y x] rfl x0 x1.1) ) (fun x0=>h2.elim (fun x1=>linF (c2 a b) [e x y,f (s y) x] rfl x0.1 x1) (fun x1=>x0.2.elim (fun x2=>x1.2.elim (fun x3=>linF (c2 c d) [f (s x) y,f (s y) x] rfl x2 x3) (fun x3=>linF (c2 c d) [f (s x) y,e y x] rfl x2 x3.1) ) (fun x2=>x1.2.elim (fun x3=>linF (c2 c d) [e x y,f (s y) x] rfl x2.1 x3) (fun x3=>x2.2.elim (fun x4=>x3.2.elim (fun x5=>linF (c2 g j) [f (s x) y,f (s y) x] rfl x4 x5) (fun x5=>linF (c2 g j) [f (s x) y,e y x] rfl x4 x5.1) ) (fun x4=>x3.2.elim (fun x5=>linF (c2 g j) [e x y,f (s y) x] rfl x4.1 x5) (fun x5=>linF (c2 l n) [f (s x) y,f (s y) x] rfl x4.2 x5.2) ) ) ) ) )
theorem ω523:a=b→b≤127→a≤16777216+1:=lin (c2 a b) [e x y,f y (k 127)] 1 x (s (k 16777216)) rfl
theorem ω524:a<2→b<a→c<b→False:=linF (c3 a b c) [f (s x) (k 2),f (s y) x,f (s z) y] rfl
theorem ω525:¬a+1<a:=linF (c1 a) [f (s (s x)) x] rfl
theorem ω526:a%(b+1)<b+1→a%(b+1)≤b:=lin (c3 a b (a%(b+1))) [f (s z) (s y)] 1 z y rfl
theorem ω527:a<c→c=b→a<b:=lin (c3 a b c) [f (s x) z,e z y] 1 (s x) y rfl
theorem ω528:a-1-b%(c+1)≤a-1:=(Nat.sub_le (a-1) (b%(c+1)))
theorem ω529:b≤2→c≤2→a≤3→4+10*(0+1)+(4+10*a+(4+10*b+(4+10*c+0)))≤96+24*(0+1+1+1-3):=lin (c4 a b c (0+1+1+1-3)) [F 0 10 y (k 2),F 0 10 z (k 2),F 0 10 x (k 3)] 1 (A (A (k 4) (m 10 (s (k 0)))) (A (A (k 4) (m 10 x)) (A (A (k 4) (m 10 y)) (A (A (k 4) (m 10 z)) (k 0))))) (A (k 96) (m 24 u)) rfl
theorem ω530:a≤2→a≤3:=lin (c1 a) [f x (k 2)] 1 x (k 3) rfl
theorem ω531:a=3→2≤a∧a≤3:=fun h1=>⟨lin (c1 a) [E x (k 3)] 1 (k 2) x rfl h1,lin (c1 a) [e x (k 3)] 1 x (k 3) rfl h1⟩
theorem ω532:4+10*(0+1)+a≤96+24*(c-3)→c=3→b≤2→4+10*(0+1)+(a+(4+10*b+0))≤96+24*(c+(0+1)-3):=fun h1 h2 h3=>lin (c5 a (c-3) b c (c+(0+1)-3)) [f (A (A (k 4) (m 10 (s (k 0)))) x) (A (k 96) (m 24 y)),F 0 10 z (k 2),F 1 24 (A y (k 3)) u,F 0 24 (A u (s (k 0))) (A v (k 3))] 1 (A (A (k 4) (m 10 (s (k 0)))) (A x (A (A (k 4) (m 10 z)) (k 0)))) (A (k 96) (m 24 v)) rfl h1 h3 (sC c 3 (lin (c4 a b c (c-3)) [F 0 0 (A (A (k 4) (m 10 (s (k 0)))) x) (A (k 96) (m 24 u)),E z (k 3),F 0 0 y (k 2)] 1 (k 3) z rfl h1 h2 h3)) (sA (c+(0+1)) 3)
theorem ω533:a≤1→max (max 0 (max 0 (max 0 (max 0 0)))+1) a≤1:=fun h=>Nat.max_le.mpr ⟨by decide,h⟩
theorem ω534:min 22 a≤22:=(Nat.min_le_left 22 a)
theorem ω536:a≤63→a≤16777216:=lin (c1 a) [f x (k 63)] 1 x (k 16777216) rfl
theorem ω537:b≤22→a≤b→a≤22:=lin (c2 a b) [f y (k 22),f x y] 1 x (k 22) rfl
theorem ω538:a<b→b≤22→a<22:=lin (c2 a b) [f (s x) y,f y (k 22)] 1 (s x) (k 22) rfl
theorem ω539:a≤22→a≤10000:=lin (c1 a) [f x (k 22)] 1 x (k 10000) rfl
theorem ω540:a%4≤3:=lin (c1 (a%4)) [f (s x) (k 4)] 1 x (k 3) rfl (Nat.mod_lt a (by decide:0<4))
theorem ω541:a≤22→a-1≤22:=fun h1=>lin (c2 a (a-1)) [f x (k 22),f y x] 1 y (k 22) rfl h1 (Nat.sub_le a 1)
theorem ω542:a<4→(a:Int)≤(1000000:Int):=fun h=>Int.le_of_lt (Int.lt_trans (Int.ofNat_lt.mpr h) (by decide))
theorem ω543:b<c→a=d→d=b→c≤3→a≤16777216:=lin (c4 a b c d) [f (s y) z,e x u,e u y,f z (k 3)] 1 x (k 16777216) rfl
theorem ω544:b≤4→a≤b→a≤10:=lin (c2 a b) [f y (k 4),f x y] 1 x (k 10) rfl
theorem ω545:a=b→c≤3→b≤c→a≤3:=lin (c3 a b c) [e x y,f z (k 3),f y z] 1 x (k 3) rfl
theorem ω546:a≤22→a≤1000:=lin (c1 a) [f x (k 22)] 1 x (k 1000) rfl
theorem ω547:b≤22→a≤b-1→a≤1000:=fun h1 h2=>lin (c3 b a (b-1)) [f x (k 22),f y z,f z x] 1 y (k 1000) rfl h1 h2 (Nat.sub_le b 1)
theorem ω548:b≤22→a≤c-1→c≤b-1→a≤1000:=fun h1 h2 h3=>lin (c5 b a (c-1) c (b-1)) [f x (k 22),f y z,f u v,f z u,f v x] 1 y (k 1000) rfl h1 h2 h3 (Nat.sub_le c 1) (Nat.sub_le b 1)
theorem ω549:b≤22→a≤c-1→c≤d-1→d≤b-1→a≤22:=fun h1 h2 h3 h4=>lin (c7 b a (c-1) c (d-1) d (b-1)) [f x (k 22),f y z,f u v,f w p,f z u,f v w,f p x] 1 y (k 22) rfl h1 h2 h3 h4 (Nat.sub_le c 1) (Nat.sub_le d 1) (Nat.sub_le b 1)
theorem ω550:a=3→a≤16777215:=lin (c1 a) [e x (k 3)] 1 x (k 16777215) rfl
theorem ω551:0≤3:=lin c0 [] 1 (k 0) (k 3) rfl
theorem ω552:a<b→b=3→a<3:=lin (c2 a b) [f (s x) y,e y (k 3)] 1 (s x) (k 3) rfl
theorem ω553:a≤3→3+20*a≤900:=lin (c1 a) [F 0 20 x (k 3)] 1 (A (k 3) (m 20 x)) (k 900) rfl
theorem ω554:a=min b c→b≤3→a≤900:=fun h1 h2=>lin (c3 a (min b c) b) [e x y,f z (k 3),f y z] 1 x (k 900) rfl h1 h2 (Nat.min_le_left b c)
theorem ω555:20≤900:=lin c0 [] 1 (k 20) (k 900) rfl
theorem ω556:20≤20:=lin c0 [] 1 (k 20) (k 20) rfl
theorem ω557:a≤3→3+20*a≤63:=lin (c1 a) [F 0 20 x (k 3)] 1 (A (k 3) (m 20 x)) (k 63) rfl
theorem ω558:63≤1000:=lin c0 [] 1 (k 63) (k 1000) rfl
theorem ω559:b=3→a=b→a≤1000:=lin (c2 a b) [e y (k 3),e x y] 1 x (k 1000) rfl
theorem ω560:20≤21:=lin c0 [] 1 (k 20) (k 21) rfl
theorem ω561:21≤900:=lin c0 [] 1 (k 21) (k 900) rfl
theorem ω562:b=3→a=b→a≤900:=lin (c2 a b) [e y (k 3),e x y] 1 x (k 900) rfl
theorem ω563:a=3→64+60≤64+20*a:=lin (c1 a) [F 2 20 x (k 3)] 1 (A (k 64) (k 60)) (A (k 64) (m 20 x)) rfl
theorem ω564:3≤b∧b≤4→a+60≤64+20*b→a≤84:=fun h1 h2=>lin (c2 b a) [F 0 20 x (k 4),f (A y (k 60)) (A (k 64) (m 20 x))] 1 y (k 84) rfl h1.2 h2
theorem ω565:a≤22→a<4611686018427387904:=lin (c1 a) [f x (k 22)] 1 (s x) (k 4611686018427387904) rfl
theorem ω566:3≤a∧a≤4→a+1<4611686018427387904:=fun h1=>lin (c1 a) [f x (k 4)] 1 (s (s x)) (k 4611686018427387904) rfl h1.2
theorem ω567:a=4→(5:Int)≤(a:Int)+(1:Int):=fun h=>by subst h; decide
theorem ω568:3≤a∧a≤4→¬a=4→a=3:=fun h1 h2=>Nat.le_antisymm ((Nat.lt_or_gt_of_ne h2).elim (fun x0=>lin (c1 a) [f (s x) (k 4)] 1 x (k 3) rfl x0) (fun x0=>lin (c1 a) [f x (k 4),f (s (k 4)) x] 0 x (k 3) rfl h1.2 x0)) (h1.1)
theorem ω569:a=3→(a:Int)+(1:Int)<(5:Int):=fun h=>by subst h; decide
theorem ω570:a≤21→a≤9999:=lin (c1 a) [f x (k 21)] 1 x (k 9999) rfl
theorem ω571:a<3→a<4:=lin (c1 a) [f (s x) (k 3)] 1 (s x) (k 4) rfl
theorem ω572:a<3→(a:Int)<(9223372036854775808:Int):=fun h=>iM (Nat.lt_trans h (by decide))
theorem ω573:a≤21→a≤1000:=lin (c1 a) [f x (k 21)] 1 x (k 1000) rfl
theorem ω574:a≤b-1→a<b+1:=fun h1=>lin (c3 a (b-1) b) [f x y,f y z] 1 (s x) (s z) rfl h1 (Nat.sub_le b 1)
theorem ω575:a<b→b≤22→a≤22:=lin (c2 a b) [f (s x) y,f y (k 22)] 1 x (k 22) rfl
theorem ω576:a+60≤64+20*b→b=3→a≤900:=lin (c2 a b) [f (A x (k 60)) (A (k 64) (m 20 y)),F 1 20 y (k 3)] 1 x (k 900) rfl
theorem ω577:23≤900:=lin c0 [] 1 (k 23) (k 900) rfl
theorem ω578:20≤23:=lin c0 [] 1 (k 20) (k 23) rfl
theorem ω579:a+60≤64+20*b→a+20+60≤64+20*(b+1):=lin (c2 a b) [f (A x (k 60)) (A (k 64) (m 20 y))] 1 (A (A x (k 20)) (k 60)) (A (k 64) (m 20 (s y))) rfl
theorem ω580:3≤b∧b≤4→a=b→a≤900:=fun h1 h2=>lin (c2 b a) [f x (k 4),e y x] 1 y (k 900) rfl h1.2 h2
theorem ω581:3≤b∧b≤4→a≤96+24*(b-3)→a≤127:=fun h1 h2=>lin (c3 b a (b-3)) [F 0 24 x (k 4),f y (A (k 96) (m 24 z)),F 1 24 (A z (k 3)) x] 1 y (k 127) rfl h1.2 h2 (sC b 3 (h1.1))
theorem ω582:3≤a∧a≤4→a≤9:=fun h1=>lin (c1 a) [f x (k 4)] 1 x (k 9) rfl h1.2
theorem ωn (k:Nat):(-1+((k+1:Nat):Int)).toNat=k:=by rw[Int.natCast_add,Int.add_comm (k:Int),← Int.add_assoc]; exact(congrArg Int.toNat (Int.zero_add _)).trans (Int.toNat_natCast k)
theorem ωq:c≤30→a+40*(d+1)<9900→a+1+min b c<9900:=fun h1 h2=>lin (c4 a d c (min b c)) [f (s (A x (m 40 (s y)))) (k 9900),f z (k 30),f u z] 1 (s (A (s x) u)) (k 9900) rfl h2 h1 (Nat.min_le_right b c)
end
theorem and3 {a1 a2 a3 P:Prop} (h:a1∧a2∧a3) (k:a1→a2→a3→P):P:=k h.1 h.2.1 h.2.2
theorem and4 {a1 a2 a3 a4 P:Prop} (h:a1∧a2∧a3∧a4) (k:a1→a2→a3→a4→P):P:=k h.1 h.2.1 h.2.2.1 h.2.2.2
theorem and5 {a1 a2 a3 a4 a5 P:Prop} (h:a1∧a2∧a3∧a4∧a5) (k:a1→a2→a3→a4→a5→P):P:=k h.1 h.2.1 h.2.2.1 h.2.2.2.1 h.2.2.2.2
theorem and6 {a1 a2 a3 a4 a5 a6 P:Prop} (h:a1∧a2∧a3∧a4∧a5∧a6) (k:a1→a2→a3→a4→a5→a6→P):P:=k h.1 h.2.1 h.2.2.1 h.2.2.2.1 h.2.2.2.2.1 h.2.2.2.2.2
theorem and7 {a1 a2 a3 a4 a5 a6 a7 P:Prop} (h:a1∧a2∧a3∧a4∧a5∧a6∧a7) (k:a1→a2→a3→a4→a5→a6→a7→P):P:=k h.1 h.2.1 h.2.2.1 h.2.2.2.1 h.2.2.2.2.1 h.2.2.2.2.2.1 h.2.2.2.2.2.2
theorem and8 {a1 a2 a3 a4 a5 a6 a7 a8 P:Prop} (h:a1∧a2∧a3∧a4∧a5∧a6∧a7∧a8) (k:a1→a2→a3→a4→a5→a6→a7→a8→P):P:=k h.1 h.2.1 h.2.2.1 h.2.2.2.1 h.2.2.2.2.1 h.2.2.2.2.2.1 h.2.2.2.2.2.2.1 h.2.2.2.2.2.2.2
theorem and9 {a1 a2 a3 a4 a5 a6 a7 a8 a9 P:Prop} (h:a1∧a2∧a3∧a4∧a5∧a6∧a7∧a8∧a9) (k:a1→a2→a3→a4→a5→a6→a7→a8→a9→P):P:=k h.1 h.2.1 h.2.2.1 h.2.2.2.1 h.2.2.2.2.1 h.2.2.2.2.2.1 h.2.2.2.2.2.2.1 h.2.2.2.2.2.2.2.1 h.2.2.2.2.2.2.2.2
theorem and10 {a1 a2 a3 a4 a5 a6 a7 a8 a9 a10 P:Prop} (h:a1∧a2∧a3∧a4∧a5∧a6∧a7∧a8∧a9∧a10) (k:a1→a2→a3→a4→a5→a6→a7→a8→a9→a10→P):P:=k h.1 h.2.1 h.2.2.1 h.2.2.2.1 h.2.2.2.2.1 h.2.2.2.2.2.1 h.2.2.2.2.2.2.1 h.2.2.2.2.2.2.2.1 h.2.2.2.2.2.2.2.2.1 h.2.2.2.2.2.2.2.2.2
theorem and12 {a1 a2 a3 a4 a5 a6 a7 a8 a9 a10 a11 a12 P:Prop} (h:a1∧a2∧a3∧a4∧a5∧a6∧a7∧a8∧a9∧a10∧a11∧a12) (k:a1→a2→a3→a4→a5→a6→a7→a8→a9→a10→a11→a12→P):P:=k h.1 h.2.1 h.2.2.1 h.2.2.2.1 h.2.2.2.2.1 h.2.2.2.2.2.1 h.2.2.2.2.2.2.1 h.2.2.2.2.2.2.2.1 h.2.2.2.2.2.2.2.2.1 h.2.2.2.2.2.2.2.2.2.1 h.2.2.2.2.2.2.2.2.2.2.1 h.2.2.2.2.2.2.2.2.2.2.2
theorem and13 {a1 a2 a3 a4 a5 a6 a7 a8 a9 a10 a11 a12 a13 P:Prop} (h:a1∧a2∧a3∧a4∧a5∧a6∧a7∧a8∧a9∧a10∧a11∧a12∧a13) (k:a1→a2→a3→a4→a5→a6→a7→a8→a9→a10→a11→a12→a13→P):P:=k h.1 h.2.1 h.2.2.1 h.2.2.2.1 h.2.2.2.2.1 h.2.2.2.2.2.1 h.2.2.2.2.2.2.1 h.2.2.2.2.2.2.2.1 h.2.2.2.2.2.2.2.2.1 h.2.2.2.2.2.2.2.2.2.1 h.2.2.2.2.2.2.2.2.2.2.1 h.2.2.2.2.2.2.2.2.2.2.2.1 h.2.2.2.2.2.2.2.2.2.2.2.2
theorem and2 {a1 a2 P:Prop} (h:a1∧a2) (k:a1→a2→P):P:=k h.1 h.2
theorem ex1_2 {α:Type}{a1 a2:α→Prop}{P:Prop} (h:∃ x,a1 x∧a2 x) (k:∀ x,a1 x→a2 x→P):P:=h.elim fun x h=>k x h.1 h.2
theorem ex2_2 {α:Type}{β:Type}{a1 a2:α→β→Prop}{P:Prop} (h:∃ x y,a1 x y∧a2 x y) (k:∀ x y,a1 x y→a2 x y→P):P:=h.elim fun x h=>h.elim fun y h=>k x y h.1 h.2
theorem ex3_2 {α:Type}{β:Type}{γ:Type}{a1 a2:α→β→γ→Prop}{P:Prop} (h:∃ x y z,a1 x y z∧a2 x y z) (k:∀ x y z,a1 x y z→a2 x y z→P):P:=h.elim fun x h=>h.elim fun y h=>h.elim fun z h=>k x y z h.1 h.2
theorem ex1_3 {α:Type}{a1 a2 a3:α→Prop}{P:Prop} (h:∃ x,a1 x∧a2 x∧a3 x) (k:∀ x,a1 x→a2 x→a3 x→P):P:=h.elim fun x h=>k x h.1 h.2.1 h.2.2
theorem ex2_3 {α:Type}{β:Type}{a1 a2 a3:α→β→Prop}{P:Prop} (h:∃ x y,a1 x y∧a2 x y∧a3 x y) (k:∀ x y,a1 x y→a2 x y→a3 x y→P):P:=h.elim fun x h=>h.elim fun y h=>k x y h.1 h.2.1 h.2.2
theorem ex3_3 {α:Type}{β:Type}{γ:Type}{a1 a2 a3:α→β→γ→Prop}{P:Prop} (h:∃ x y z,a1 x y z∧a2 x y z∧a3 x y z) (k:∀ x y z,a1 x y z→a2 x y z→a3 x y z→P):P:=h.elim fun x h=>h.elim fun y h=>h.elim fun z h=>k x y z h.1 h.2.1 h.2.2
theorem ex1_4 {α:Type}{a1 a2 a3 a4:α→Prop}{P:Prop} (h:∃ x,a1 x∧a2 x∧a3 x∧a4 x) (k:∀ x,a1 x→a2 x→a3 x→a4 x→P):P:=h.elim fun x h=>k x h.1 h.2.1 h.2.2.1 h.2.2.2
theorem ex2_4 {α:Type}{β:Type}{a1 a2 a3 a4:α→β→Prop}{P:Prop} (h:∃ x y,a1 x y∧a2 x y∧a3 x y∧a4 x y) (k:∀ x y,a1 x y→a2 x y→a3 x y→a4 x y→P):P:=h.elim fun x h=>h.elim fun y h=>k x y h.1 h.2.1 h.2.2.1 h.2.2.2
theorem ex3_4 {α:Type}{β:Type}{γ:Type}{a1 a2 a3 a4:α→β→γ→Prop}{P:Prop} (h:∃ x y z,a1 x y z∧a2 x y z∧a3 x y z∧a4 x y z) (k:∀ x y z,a1 x y z→a2 x y z→a3 x y z→a4 x y z→P):P:=h.elim fun x h=>h.elim fun y h=>h.elim fun z h=>k x y z h.1 h.2.1 h.2.2.1 h.2.2.2
theorem ex1_5 {α:Type}{a1 a2 a3 a4 a5:α→Prop}{P:Prop} (h:∃ x,a1 x∧a2 x∧a3 x∧a4 x∧a5 x) (k:∀ x,a1 x→a2 x→a3 x→a4 x→a5 x→P):P:=h.elim fun x h=>k x h.1 h.2.1 h.2.2.1 h.2.2.2.1 h.2.2.2.2
theorem ex3_5 {α:Type}{β:Type}{γ:Type}{a1 a2 a3 a4 a5:α→β→γ→Prop}{P:Prop} (h:∃ x y z,a1 x y z∧a2 x y z∧a3 x y z∧a4 x y z∧a5 x y z) (k:∀ x y z,a1 x y z→a2 x y z→a3 x y z→a4 x y z→a5 x y z→P):P:=h.elim fun x h=>h.elim fun y h=>h.elim fun z h=>k x y z h.1 h.2.1 h.2.2.1 h.2.2.2.1 h.2.2.2.2
theorem ex1_6 {α:Type}{a1 a2 a3 a4 a5 a6:α→Prop}{P:Prop} (h:∃ x,a1 x∧a2 x∧a3 x∧a4 x∧a5 x∧a6 x) (k:∀ x,a1 x→a2 x→a3 x→a4 x→a5 x→a6 x→P):P:=h.elim fun x h=>k x h.1 h.2.1 h.2.2.1 h.2.2.2.1 h.2.2.2.2.1 h.2.2.2.2.2
theorem ex2_6 {α:Type}{β:Type}{a1 a2 a3 a4 a5 a6:α→β→Prop}{P:Prop} (h:∃ x y,a1 x y∧a2 x y∧a3 x y∧a4 x y∧a5 x y∧a6 x y) (k:∀ x y,a1 x y→a2 x y→a3 x y→a4 x y→a5 x y→a6 x y→P):P:=h.elim fun x h=>h.elim fun y h=>k x y h.1 h.2.1 h.2.2.1 h.2.2.2.1 h.2.2.2.2.1 h.2.2.2.2.2
theorem ex3_6 {α:Type}{β:Type}{γ:Type}{a1 a2 a3 a4 a5 a6:α→β→γ→Prop}{P:Prop} (h:∃ x y z,a1 x y z∧a2 x y z∧a3 x y z∧a4 x y z∧a5 x y z∧a6 x y z) (k:∀ x y z,a1 x y z→a2 x y z→a3 x y z→a4 x y z→a5 x y z→a6 x y z→P):P:=h.elim fun x h=>h.elim fun y h=>h.elim fun z h=>k x y z h.1 h.2.1 h.2.2.1 h.2.2.2.1 h.2.2.2.2.1 h.2.2.2.2.2
theorem ex2_8 {α:Type}{β:Type}{a1 a2 a3 a4 a5 a6 a7 a8:α→β→Prop}{P:Prop} (h:∃ x y,a1 x y∧a2 x y∧a3 x y∧a4 x y∧a5 x y∧a6 x y∧a7 x y∧a8 x y) (k:∀ x y,a1 x y→a2 x y→a3 x y→a4 x y→a5 x y→a6 x y→a7 x y→a8 x y→P):P:=h.elim fun x h=>h.elim fun y h=>k x y h.1 h.2.1 h.2.2.1 h.2.2.2.1 h.2.2.2.2.1 h.2.2.2.2.2.1 h.2.2.2.2.2.2.1 h.2.2.2.2.2.2.2
theorem ex3_8 {α:Type}{β:Type}{γ:Type}{a1 a2 a3 a4 a5 a6 a7 a8:α→β→γ→Prop}{P:Prop} (h:∃ x y z,a1 x y z∧a2 x y z∧a3 x y z∧a4 x y z∧a5 x y z∧a6 x y z∧a7 x y z∧a8 x y z) (k:∀ x y z,a1 x y z→a2 x y z→a3 x y z→a4 x y z→a5 x y z→a6 x y z→a7 x y z→a8 x y z→P):P:=h.elim fun x h=>h.elim fun y h=>h.elim fun z h=>k x y z h.1 h.2.1 h.2.2.1 h.2.2.2.1 h.2.2.2.2.1 h.2.2.2.2.2.1 h.2.2.2.2.2.2.1 h.2.2.2.2.2.2.2
theorem ex3_9 {α:Type}{β:Type}{γ:Type}{a1 a2 a3 a4 a5 a6 a7 a8 a9:α→β→γ→Prop}{P:Prop} (h:∃ x y z,a1 x y z∧a2 x y z∧a3 x y z∧a4 x y z∧a5 x y z∧a6 x y z∧a7 x y z∧a8 x y z∧a9 x y z) (k:∀ x y z,a1 x y z→a2 x y z→a3 x y z→a4 x y z→a5 x y z→a6 x y z→a7 x y z→a8 x y z→a9 x y z→P):P:=h.elim fun x h=>h.elim fun y h=>h.elim fun z h=>k x y z h.1 h.2.1 h.2.2.1 h.2.2.2.1 h.2.2.2.2.1 h.2.2.2.2.2.1 h.2.2.2.2.2.2.1 h.2.2.2.2.2.2.2.1 h.2.2.2.2.2.2.2.2
theorem ex1_1 {α:Type}{a1:α→Prop}{P:Prop} (h:∃ x,a1 x) (k:∀ x,a1 x→P):P:=h.elim k
theorem ex2_1 {α β:Type}{a1:α→β→Prop}{P:Prop} (h:∃ x y,a1 x y) (k:∀ x y,a1 x y→P):P:=h.elim fun x h=>h.elim fun y h=>k x y h
theorem ex3_1 {α β γ:Type}{a1:α→β→γ→Prop}{P:Prop} (h:∃ x y z,a1 x y z) (k:∀ x y z,a1 x y z→P):P:=h.elim fun x h=>h.elim fun y h=>h.elim fun z h=>k x y z h
inductive MV where
 | none
 | bool (b:Bool)
 | int (i:Int)
 | str (x:Str)
 | tup (l:List MV)
 | ref (a:Addr)
inductive MO where
 | list (l:List MV)
 | sdict (es:List (Str×MV))
 | tdict (es:List (List (Str ⊕ Int)×MV))
 | inst (C d:Addr)
 | idict (es:List (Str×MV))
 | cell (v:Option MV)
 | ilist (k:Nat)
noncomputable abbrev Mem:=Addr→Option MO
structure Gd where
 base:Heap
 prog:Program
 w:World
 K:Frag
 p:Program
 loose:List Str
mutual
inductive VR (μ:Mem) (h:Heap):Value→MV→Prop
 | none:VR μ h Value.none MV.none
 | bool (b:Bool):VR μ h (Value.bool b) (MV.bool b)
 | int (i:Int) (t:Tok):VR μ h (Value.int i t) (MV.int i)
 | str (x:Str) (t:Tok):VR μ h (Value.str x t) (MV.str x)
 | ref (a:Addr):VR μ h (Value.ref a) (MV.ref a)
 | tup {a:Addr}{vs:List Value}{n:Nat}{ds:List MV}:μ a=Option.none→h.get? a=some ({ cls:=.type "tuple",data:=.seq vs.toArray n }:Obj)→VRs μ h vs ds→VR μ h (Value.ref a) (MV.tup ds)
inductive VRs (μ:Mem) (h:Heap):List Value→List MV→Prop
 | nil:VRs μ h [] []
 | cons {v:Value}{vs:List Value}{d:MV}{ds:List MV}:VR μ h v d→VRs μ h vs ds→VRs μ h (v::vs) (d::ds)
end
noncomputable def KeptO (G:Gd) (b:Addr) (o:Obj) (h':Heap):Prop:=h'.get? b=some o∨(G.base.get? b=Option.none∧(∃ es ep,o.data=.dict es ep)∧∃ sl,h'.get? b=some { o with slots:=sl })
theorem KeptO.trans {G:Gd}{b:Addr}{o:Obj}{h' h'':Heap} (k:KeptO G b o h') (j:∀ o',h'.get? b=some o'→KeptO G b o' h''):KeptO G b o h'':=by
 rcases k with k | ⟨k1,k2,sl,k3⟩
 · exact j o k
 · rcases j _ k3 with j | ⟨_,_,sl',j3⟩
   · exact .inr ⟨k1,k2,sl,j⟩
   · exact .inr ⟨k1,k2,sl',j3⟩
theorem KeptO.live {G:Gd}{b:Addr}{o:Obj}{h':Heap} (k:KeptO G b o h'):∃ o',h'.get? b=some o':=by
 rcases k with k | ⟨_,_,sl,k⟩
 · exact⟨_,k⟩
 · exact⟨_,k⟩
theorem KeptO.data {G:Gd}{b:Addr}{o:Obj}{h':Heap} (k:KeptO G b o h'):∃ o',h'.get? b=some o'∧o'.data=o.data:=by
 rcases k with k | ⟨_,_,sl,k⟩
 · exact⟨_,k,rfl⟩
 · exact⟨_,k,rfl⟩
theorem KeptO.seq {G:Gd}{b:Addr}{o:Obj}{h':Heap} (k:KeptO G b o h') (hd:∀ es ep,o.data≠.dict es ep):h'.get? b=some o:=by
 rcases k with k | ⟨_,⟨es,ep,e⟩,_⟩
 · exact k
 · exact absurd e (hd es ep)
theorem KeptO.ground {G:Gd}{b:Addr}{o o₀:Obj}{h':Heap} (k:KeptO G b o h') (hb:G.base.get? b=some o₀):h'.get? b=some o:=by
 rcases k with k | ⟨e,_⟩
 · exact k
 · rw[hb] at e; cases e
theorem KeptO.ns {G:Gd}{b:Addr}{h h':Heap}{m:Str→Option Value} (n:h.Ns b m) (k:∀ o,h.get? b=some o→KeptO G b o h'):h'.Ns b m:=by
 refine ex3_3 (n) fun o es ep ho hd r=>?_
 refine ex1_2 ((k o ho).data) fun o' h1 h2=>?_
 exact⟨o',es,ep,h1,h2.trans hd,r⟩
noncomputable def Ext (G:Gd) (μ:Mem) (h:Heap) (μ':Mem) (h':Heap):Prop:=∀ b o,μ b=Option.none→h.get? b=some o→KeptO G b o h'∧μ' b=Option.none
theorem Ext.refl {G:Gd} (μ:Mem) (h:Heap):Ext G μ h μ h:=fun _ _ m e=>⟨.inl e,m⟩
theorem Ext.trans {G:Gd}{μ μ' μ'':Mem}{h h' h'':Heap} (x:Ext G μ h μ' h') (y:Ext G μ' h' μ'' h''):Ext G μ h μ'' h'':=fun b o m e=>
 let ⟨e',m'⟩:=x b o m e
 ⟨e'.trans fun o' ho=>(y b o' m' ho).1,let ⟨o',ho⟩:=e'.live; (y b o' m' ho).2⟩
noncomputable def TExt (μ:Mem) (h:Heap) (μ':Mem) (h':Heap):Prop:=∀ b o,μ b=Option.none→h.get? b=some o→(o.cls=.type "tuple"∧∃ xs k,o.data=.seq xs k)→h'.get? b=some o∧μ' b=Option.none
theorem Ext.t {G:Gd}{μ μ':Mem}{h h':Heap} (x:Ext G μ h μ' h'):TExt μ h μ' h':=fun b o m e ht=>⟨(x b o m e).1.seq (fun es ep z=>by obtain⟨_,xs,k,hs⟩:=ht; rw[hs] at z; cases z),(x b o m e).2⟩
section
variable {μ μ':Mem}{h h':Heap}
theorem VRs.ext (x:TExt μ h μ' h') {vs:List Value}{ds:List MV} (r:VRs μ h vs ds):VRs μ' h' vs ds:=
 VRs.rec (motive_1:=fun v d _=>VR μ' h' v d) (motive_2:=fun vs ds _=>VRs μ' h' vs ds) .none .bool .int .str .ref (fun m e _ r=>.tup (x _ _ m e ⟨rfl,_,_,rfl⟩).2 (x _ _ m e ⟨rfl,_,_,rfl⟩).1 r) .nil (fun _ _ a r=>.cons a r) r
theorem VR.ext (x:TExt μ h μ' h') {v:Value}{d:MV} (r:VR μ h v d):VR μ' h' v d:=
 VR.rec (motive_1:=fun v d _=>VR μ' h' v d) (motive_2:=fun vs ds _=>VRs μ' h' vs ds) .none .bool .int .str .ref (fun m e _ r=>.tup (x _ _ m e ⟨rfl,_,_,rfl⟩).2 (x _ _ m e ⟨rfl,_,_,rfl⟩).1 r) .nil (fun _ _ a r=>.cons a r) r
variable {v:Value}{d:MV}{vs ws:List Value}{ds es:List MV}
theorem VRs.length (r:VRs μ h vs ds):vs.length=ds.length:=by
 induction vs generalizing ds with
 | nil=>cases r; rfl
 | cons v vs ih=>cases r with | cons _ r=>rw[List.length_cons,List.length_cons,ih r]
theorem VRs.append (r:VRs μ h vs ds) (k:VRs μ h ws es):VRs μ h (vs++ws) (ds++es):=by
 induction vs generalizing ds with
 | nil=>cases r; exact k
 | cons v vs ih=>cases r with | cons a r=>exact .cons a (ih r)
theorem VRs.one (r:VR μ h v d):VRs μ h [v] [d]:=.cons r .nil
theorem VRs.get (r:VRs μ h vs ds) {k:Nat}{d:MV} (hk:ds[k]?=some d):∃ v,vs[k]?=some v∧VR μ h v d:=by
 induction vs generalizing ds k with
 | nil=>cases r; simp at hk
 | cons v vs ih=>
  cases r with
  | cons a r=>
   cases k with
   | zero=>simp at hk; subst hk; exact⟨v,rfl,a⟩
   | succ k=>exact ih r (by simpa using hk)
theorem VRs.get' (r:VRs μ h vs ds) {k:Nat}{v:Value} (hk:vs[k]?=some v):∃ d,ds[k]?=some d∧VR μ h v d:=by
 induction vs generalizing ds k with
 | nil=>simp at hk
 | cons w vs ih=>
  cases r with
  | cons a r=>
   cases k with
   | zero=>simp at hk; subst hk; exact⟨_,rfl,a⟩
   | succ k=>exact ih r (by simpa using hk)
theorem VRs.set (r:VRs μ h vs ds) (a:VR μ h v d) (k:Nat):VRs μ h (vs.set k v) (ds.set k d):=by
 induction vs generalizing ds k with
 | nil=>cases r; exact .nil
 | cons w vs ih=>
  cases r with
  | cons b r=>
   cases k with
   | zero=>exact .cons a r
   | succ k=>exact .cons b (ih r k)
theorem VRs.drop (r:VRs μ h vs ds) (k:Nat):VRs μ h (vs.drop k) (ds.drop k):=by
 induction k generalizing vs ds with
 | zero=>exact r
 | succ k ih=>
  cases r with
  | nil=>simpa using VRs.nil
  | cons _ r=>simpa using ih r
theorem VRs.take (r:VRs μ h vs ds) (k:Nat):VRs μ h (vs.take k) (ds.take k):=by
 induction k generalizing vs ds with
 | zero=>simpa using VRs.nil
 | succ k ih=>
  cases r with
  | nil=>simpa using VRs.nil
  | cons a r=>simpa using VRs.cons a (ih r)
end
inductive PR {κ:Type} (μ:Mem) (h:Heap):List (κ×Value)→List (κ×MV)→Prop
 | nil:PR μ h [] []
 | cons {k:κ}{v:Value}{d:MV}{vs:List (κ×Value)}{ds:List (κ×MV)}:VR μ h v d→PR μ h vs ds→PR μ h ((k,v)::vs) ((k,d)::ds)
theorem PR.ext {κ:Type}{μ μ':Mem}{h h':Heap} (x:TExt μ h μ' h') {vs:List (κ×Value)}{ds:List (κ×MV)} (r:PR μ h vs ds):PR μ' h' vs ds:=by
 induction r with
 | nil=>exact .nil
 | cons a _ ih=>exact .cons (a.ext x) ih
theorem PR.length {κ:Type}{μ:Mem}{h:Heap}{vs:List (κ×Value)}{ds:List (κ×MV)} (r:PR μ h vs ds):vs.length=ds.length:=by
 induction r with
 | nil=>rfl
 | cons _ _ ih=>simp[ih]
theorem PR.keys {κ:Type}{μ:Mem}{h:Heap}{vs:List (κ×Value)}{ds:List (κ×MV)} (r:PR μ h vs ds):vs.map (·.1)=ds.map (·.1):=by
 induction r with
 | nil=>rfl
 | cons _ _ ih=>simp[ih]
noncomputable def isMix:Str ⊕ Int→Value→Bool
 | .inl x,v=>Value.isStrOf x v
 | .inr i,v=>Value.isInt i v
noncomputable def mixKind (prog:Program) (w:World):KeyKind prog w (Str ⊕ Int) where
 is:=isMix
 hash:=fun k=>match k with | .inl x=>hashStr w x | .inr i=>hashInt i
 inj:=fun v a b ha hb=>by
  cases a with
  | inl x=>
   refine ex1_1 (Value.isStrOf_shape ha) fun t zr1=>?_
   obtain rfl:=zr1
   cases b with
   | inl y=>rw[Value.isStrOf_inj (Value.str x t) x y ha hb]
   | inr j=>simp[isMix,Value.isInt] at hb
  | inr i=>
   refine ex1_1 (Value.isInt_shape ha) fun t zr1=>?_
   obtain rfl:=zr1
   cases b with
   | inl y=>simp[isMix,Value.isStrOf] at hb
   | inr j=>rw[Value.isInt_inj (Value.int i t) i j ha hb]
 byValue:=fun k v h=>by
  cases k with
  | inl x=>obtain⟨t,rfl⟩:=Value.isStrOf_shape h; rfl
  | inr i=>obtain⟨t,rfl⟩:=Value.isInt_shape h; rfl
 pyHash:=fun {A E s k v Q} hv h=>by
  cases k with
  | inl x=>obtain⟨t,rfl⟩:=Value.isStrOf_shape hv; exact wpAny_pyHash_str h
  | inr i=>obtain⟨t,rfl⟩:=Value.isInt_shape hv; exact wpAny_pyHash_int h
 eqBool:=fun {A E s a b u v Q} hu hv h=>by
  cases a with
  | inl x=>
   refine ex1_1 (Value.isStrOf_shape hu) fun t zr1=>?_
   obtain rfl:=zr1
   cases b with
   | inl y=>
    refine ex1_1 (Value.isStrOf_shape hv) fun t' zr1=>?_
    obtain rfl:=zr1
    exact wpAny_eqBool_str (by simpa using h)
   | inr j=>
    refine ex1_1 (Value.isInt_shape hv) fun t' zr1=>?_
    obtain rfl:=zr1
    unfold eqBool
    refine wpAny_holding ?_
    rw[if_neg (show ¬ ((Value.str x t == Value.int j t')=true) by simp)]
    exact wpAny_bind (EqMixed.eq_str_int (wpAny_truthy_bool (by simpa using h)))
  | inr i=>
   refine ex1_1 (Value.isInt_shape hu) fun t zr1=>?_
   obtain rfl:=zr1
   cases b with
   | inl y=>
    refine ex1_1 (Value.isStrOf_shape hv) fun t' zr1=>?_
    obtain rfl:=zr1
    unfold eqBool
    refine wpAny_holding ?_
    rw[if_neg (show ¬ ((Value.int i t == Value.str y t')=true) by simp)]
    exact wpAny_bind (EqMixed.eq_int_str (wpAny_truthy_bool (by simpa using h)))
   | inr j=>
    refine ex1_1 (Value.isInt_shape hv) fun t' zr1=>?_
    obtain rfl:=zr1
    refine wpAny_eqBool_int ?_
    have e:(i == j)=decide (Sum.inr (α:=Str) i=Sum.inr j):=by
     by_cases hij:i=j
     · subst hij; simp
     · simp[hij]
    rw[e]; exact h
 «strs»:=fun k x t v h=>by
  cases k with
  | inl y=>
   have h':Value.isStrOf y (Value.str x t)=true:=h
   refine ex1_1 (Value.isStrOf_shape h') fun u hu=>?_
   injection hu with hx
   subst hx
   cases v <;> rfl
  | inr i=>simp[isMix,Value.isInt] at h
noncomputable def atM {κ:Type} [DecidableEq κ] (es:List (κ×MV)) (k:κ):Option MV:=(es.find? fun e=>decide (e.1=k)).map (·.2)
noncomputable def putM {κ:Type} [DecidableEq κ] (es:List (κ×MV)) (k:κ) (d:MV):List (κ×MV):=
 if (atM es k).isSome then es.map (fun e=>if e.1=k then(e.1,d) else e) else es++[(k,d)]
theorem atM_map {κ:Type} [DecidableEq κ] (es:List (κ×MV)) (k x:κ) (d:MV):atM (es.map (fun e=>if e.1=k then(e.1,d) else e)) x=if x=k then(atM es k).map (fun _=>d) else atM es x:=by
 induction es with
 | nil=>by_cases hx:x=k <;> simp[atM,hx]
 | cons e r ih=>
  unfold atM at ih ⊢
  rw[List.map_cons,List.find?_cons,List.find?_cons]
  by_cases h1:e.1=k
  · rw[if_pos h1]
    by_cases h2:x=k
    · subst h2; simp[h1]
    · have:¬ e.1=x:=fun q=>h2 (q▸h1)
      simp only[decide_eq_false this]
      rw[ih,if_neg h2,if_neg h2]
      simp[List.find?_cons,this]
  · rw[if_neg h1]
    by_cases h2:e.1=x
    · have h3:¬ x=k:=fun q=>h1 (h2.trans q)
      simp[h2,h3,List.find?_cons]
    · simp only[decide_eq_false h2]
      rw[ih]
      by_cases h3:x=k
      · simp[h3,h1,List.find?_cons]
      · simp[h3,List.find?_cons,h2]
theorem atM_append {κ:Type} [DecidableEq κ] (es:List (κ×MV)) (k x:κ) (d:MV) (h:atM es k=none):atM (es++[(k,d)]) x=if x=k then some d else atM es x:=by
 unfold atM at h ⊢
 rw[List.find?_append]
 by_cases hx:x=k
 · subst hx
   rw[if_pos rfl]
   have:es.find? (fun e=>decide (e.1=x))=none:=by
    cases q:es.find? (fun e=>decide (e.1=x)) with
    | none=>rfl
    | some _=>rw[q] at h; cases h
   rw[this]; simp
 · rw[if_neg hx]
   have:([(k,d)]:List (κ×MV)).find? (fun e=>decide (e.1=x))=none:=by simp[Ne.symm hx]
   rw[this,Option.or_none]
theorem atM_putM {κ:Type} [DecidableEq κ] (es:List (κ×MV)) (k x:κ) (d:MV):atM (putM es k d) x=if x=k then some d else atM es x:=by
 unfold putM
 split
 · rename_i h
   rw[atM_map]
   by_cases hx:x=k
   · refine ex1_1 (Option.isSome_iff_exists.mp h) fun y hy=>?_
     simp[hx,hy]
   · simp[hx]
 · rename_i h
   exact atM_append es k x d (by simpa using h)
theorem putM_length {κ:Type} [DecidableEq κ] (es:List (κ×MV)) (k:κ) (d:MV):(putM es k d).length≤es.length+1:=by
 unfold putM; split <;> simp
section
variable {κ:Type} [DecidableEq κ] {μ:Mem}{h:Heap}
theorem PR.find {vs:List (κ×Value)}{ds:List (κ×MV)} (r:PR μ h vs ds) (k:κ) :
 (valueAt vs k=none∧atM ds k=none)∨∃ v d,valueAt vs k=some v∧atM ds k=some d∧VR μ h v d:=by
 induction r with
 | nil=>exact .inl ⟨rfl,rfl⟩
 | @cons k' v d vs ds a r ih=>
  by_cases hk:k'=k
  · subst hk
    exact .inr ⟨v,d,by simp[valueAt],by simp[atM],a⟩
  · rcases ih with ⟨h1,h2⟩ | ⟨v',d',h1,h2,h3⟩
    · exact .inl ⟨by simpa[valueAt,List.find?_cons,hk] using h1,by simpa[atM,List.find?_cons,hk] using h2⟩
    · exact .inr ⟨v',d',by simpa[valueAt,List.find?_cons,hk] using h1,by simpa[atM,List.find?_cons,hk] using h2,h3⟩
theorem PR.any {vs:List (κ×Value)}{ds:List (κ×MV)} (r:PR μ h vs ds) (k:κ):vs.any (fun kv=>decide (kv.1=k))=(atM ds k).isSome:=by
 induction r with
 | nil=>rfl
 | @cons k' v d vs ds a r ih=>
  rw[List.any_cons,ih]
  by_cases hk:k'=k <;> simp[atM,List.find?_cons,hk]
theorem PR.mapPut {vs:List (κ×Value)}{ds:List (κ×MV)} (r:PR μ h vs ds) (k:κ) {v:Value}{d:MV} (a:VR μ h v d) :
 PR μ h (vs.map fun kv=>if kv.1=k then(kv.1,v) else kv) (ds.map fun e=>if e.1=k then(e.1,d) else e):=by
 induction r with
 | nil=>exact .nil
 | @cons k' v' d' vs ds a' r ih=>
  rw[List.map_cons,List.map_cons]
  by_cases hk:k'=k
  · simp only[hk,if_true]; exact .cons a ih
  · simp only[hk,if_false]; exact .cons a' ih
theorem PR.append {vs:List (κ×Value)}{ds:List (κ×MV)} (r:PR μ h vs ds) (k:κ) {v:Value}{d:MV} (a:VR μ h v d):PR μ h (vs++[(k,v)]) (ds++[(k,d)]):=by
 induction r with
 | nil=>exact .cons a .nil
 | cons a' r ih=>exact .cons a' ih
theorem PR.stored {vs:List (κ×Value)}{ds:List (κ×MV)} (r:PR μ h vs ds) (k:κ) {v:Value}{d:MV} (a:VR μ h v d):PR μ h (stored vs k v) (putM ds k d):=by
 have e:=r.any k
 unfold PySem.stored putM
 rw[e]
 split
 · exact r.mapPut k a
 · exact r.append k a
end
noncomputable def strKeyed' (es:List DictEntry):Prop:=∀ e∈es,∃ x t,e.key=.str x t
structure IR (μ:Mem) (h:Heap) (es:List DictEntry) (fs:List (Str×MV)):Prop where
 sk:strKeyed' es
 len:es.length≤fs.length
 at':∀ x,(atM fs x=none∧(es.find? fun e=>e.key.isStr x)=none)∨∃ e d,atM fs x=some d∧(es.find? fun e=>e.key.isStr x)=some e∧VR μ h e.val d
theorem IR.ext {μ μ':Mem}{h h':Heap}{es:List DictEntry}{fs:List (Str×MV)} (r:IR μ h es fs) (x:TExt μ h μ' h'):IR μ' h' es fs:=
 ⟨r.sk,r.len,fun y=>(r.at' y).imp id fun q=>q.elim fun e q=>q.elim fun d q=>⟨e,d,q.1,q.2.1,q.2.2.ext x⟩⟩
theorem strKeyed_any {es:List DictEntry} (hs:strKeyed' es):es.any (·.refKey)=false:=by
 rw[List.any_eq_false]
 intro e he
 refine ex2_1 (hs e he) fun n t q=>?_
 simp[DictEntry.refKey,q]
theorem IR.getL {μ:Mem}{h:Heap}{es:List DictEntry}{fs:List (Str×MV)} (r:IR μ h es fs) (x:Str) :
 (atM fs x=none∧getL x es=some none)∨∃ v d,atM fs x=some d∧getL x es=some (some v)∧VR μ h v d:=by
 rcases r.at' x with ⟨a,b⟩ | ⟨e,d,a,b,c⟩
 · left
   refine⟨a,?_⟩
   unfold W.getL
   rw[b,strKeyed_any r.sk]; rfl
 · right
   refine⟨e.val,d,a,?_,c⟩
   unfold W.getL
   rw[b]
theorem putL_strs {name:Str}{hsh:Int}{t:Tok}{v:Value}:∀{es:List DictEntry},strKeyed' es→strKeyed' (putL name hsh (.str name t) v es)
 | [],_=>fun e he=>by
  unfold putL at he
  rw[List.mem_singleton.mp he]; exact⟨name,t,rfl⟩
 | e::r,hs=>fun e' he=>by
  unfold putL at he
  split at he
  · rcases List.mem_cons.mp he with rfl | he
    · exact hs e (.head _)
    · exact hs e' (.tail _ he)
  · rcases List.mem_cons.mp he with rfl | he
    · exact hs e' (.head _)
    · exact putL_strs (fun e h=>hs e (.tail _ h)) e' he
theorem putL_length {name:Str}{hsh:Int}{key v:Value}:∀(es:List DictEntry),(putL name hsh key v es).length≤es.length+1
 | []=>Nat.le_refl _
 | e::r=>by
  unfold putL
  split
  · simp
  · simpa using putL_length r
theorem isStr_self (x:Str) (t:Tok):(Value.str x t).isStr x=true:=by simp[Value.isStr]
theorem isStr_two {v:Value}{x y:Str} (h1:v.isStr x=true) (h2:v.isStr y=true):x=y:=Value.isStr_inj v x y h1 h2
theorem putL_find? {name:Str}{hsh:Int}{t:Tok}{v:Value} (x:Str):∀(es:List DictEntry),
 (if x=name then ∃ e,((putL name hsh (.str name t) v es).find? fun e=>e.key.isStr x)=some e∧e.val=v
  else((putL name hsh (.str name t) v es).find? fun e=>e.key.isStr x)=es.find? fun e=>e.key.isStr x)
 | []=>by
  unfold putL
  split
  · rename_i hx; subst hx
    exact⟨⟨hsh,.str x t,v⟩,by simp[List.find?_cons,isStr_self],rfl⟩
  · rename_i hx
    have:(Value.str name t).isStr x=false:=by
     cases q:(Value.str name t).isStr x with
     | false=>rfl
     | true=>exact absurd (isStr_two q (isStr_self name t)) hx
    simp[List.find?_cons,this]
 | e::r=>by
  have ih:=putL_find? (hsh:=hsh) (t:=t) (v:=v) (name:=name) x r
  unfold putL
  by_cases hn:e.key.isStr name=true
  · rw[if_pos hn]
    split
    · rename_i hx; subst hx
      exact⟨⟨e.hash,e.key,v⟩,by simp[List.find?_cons,hn],rfl⟩
    · rename_i hx
      have:e.key.isStr x=false:=by
       cases q:e.key.isStr x with
       | false=>rfl
       | true=>exact absurd (isStr_two q hn) hx
      simp[List.find?_cons,this]
  · rw[if_neg hn]
    split
    · rename_i hx; subst hx
      rw[if_pos rfl] at ih
      refine ex1_2 (ih) fun e' h1 h2=>?_
      exact⟨e',by simpa[List.find?_cons,hn] using h1,h2⟩
    · rename_i hx
      rw[if_neg hx] at ih
      rw[List.find?_cons,List.find?_cons,ih]
theorem atM_cons {κ:Type} [DecidableEq κ] (k x:κ) (d:MV) (es:List (κ×MV)):atM ((k,d)::es) x=if x=k then some d else atM es x:=by
 unfold atM
 by_cases hx:x=k
 · subst hx; simp
 · simp[List.find?_cons,hx,Ne.symm hx]
theorem IR.put {μ:Mem}{h:Heap}{es:List DictEntry}{fs:List (Str×MV)} (r:IR μ h es fs) {name:Str}{hsh:Int}{t:Tok}{v:Value}{d:MV} (a:VR μ h v d):IR μ h (putL name hsh (.str name t) v es) ((name,d)::fs):=by
 refine⟨putL_strs r.sk,Nat.le_trans (putL_length es) (by simpa using r.len),fun x=>?_⟩
 have q:=putL_find? (hsh:=hsh) (t:=t) (v:=v) (name:=name) x es
 rw[atM_cons]
 by_cases hx:x=name
 · rw[if_pos hx] at q
   rw[if_pos hx]
   refine ex1_2 (q) fun e h1 h2=>?_
   exact .inr ⟨e,d,rfl,h1,by rw[h2]; exact a⟩
 · rw[if_neg hx] at q
   rw[if_neg hx,q]
   exact r.at' x
noncomputable abbrev Gd.knd (G:Gd):HeapKind G.prog G.w (List (Str ⊕ Int)):=tupleKind (mixKind G.prog G.w)
noncomputable abbrev Gd.skd (G:Gd):KeyKind G.prog G.w Str:=strKind G.prog G.w
noncomputable def OR (μ:Mem) (h:Heap):Option Value→Option MV→Prop
 | none,none=>True
 | some v,some d=>VR μ h v d
 | _,_=>False
theorem OR.ext {μ μ':Mem}{h h':Heap} (x:TExt μ h μ' h'):∀{v:Option Value}{d:Option MV},OR μ h v d→OR μ' h' v d
 | none,none,_=>trivial
 | some _,some _,r=>VR.ext x r
 | none,some _,r=>r.elim
 | some _,none,r=>r.elim
noncomputable def MR (G:Gd) (μ:Mem) (h:Heap) (a:Addr):MO→Prop
 | .list ds=>∃(vs:List Value) (n:Nat),h.get? a=some (listOf vs.toArray n)∧VRs μ h vs ds
 | .sdict es=>∃ kvs,h.DictOf G.skd a kvs∧PR μ h kvs es∧(a == sysModules)=false
 | .tdict es=>∃ xs,h.DictOfH G.knd a xs∧(∀ x∈xs,μ x.2.1=none)∧PR μ h (xs.map fun x=>(x.1,x.2.2)) es∧(a == sysModules)=false
 | .inst C d=>h.get? a=some (instObj C d)
 | .idict fs=>∃ es n,h.get? a=some (dictOf es n)∧IR μ h es fs
 | .cell d=>∃ v,h.IsCell a v∧OR μ h v d
 | .ilist k=>∃(vs:List Value) (n:Nat),h.get? a=some (listOf vs.toArray n)∧vs.length≤k
theorem MR.live {G:Gd}{μ:Mem}{h:Heap}{a:Addr}{mo:MO} (r:MR G μ h a mo):∃ o,h.get? a=some o:=by
 cases mo with
 | list ds=>obtain⟨_,_,e,_⟩:=r; exact⟨_,e⟩
 | sdict es=>obtain⟨_,⟨o,_,_,e,_⟩,_⟩:=r; exact⟨o,e⟩
 | tdict es=>obtain⟨_,⟨o,_,_,e,_⟩,_⟩:=r; exact⟨o,e⟩
 | inst C d=>exact⟨_,r⟩
 | idict fs=>obtain⟨_,_,e,_⟩:=r; exact⟨_,e⟩
 | cell d=>obtain⟨_,⟨o,e,_⟩,_⟩:=r; exact⟨o,e⟩
 | ilist k=>obtain⟨_,_,e,_⟩:=r; exact⟨_,e⟩
theorem tupleKey_at {prog:Program}{w:World}{K:Type} [DecidableEq K] {knd:KeyKind prog w K}{h h':Heap}{ks:List K}{a:Addr} (x:IsTupleKey knd h ks a) (e:h'.get? a=h.get? a):IsTupleKey knd h' ks a:=by
 refine ex3_2 (x) fun o items n ho r=>?_
 exact⟨o,items,n,e.trans ho,r⟩
theorem MR.at {G:Gd}{μ μ':Mem}{h h':Heap}{a:Addr}{mo:MO} (r:MR G μ h a mo) (e:h'.get? a=h.get? a) (x:TExt μ h μ' h'):MR G μ' h' a mo:=by
 cases mo with
 | list ds=>obtain⟨vs,n,q,k⟩:=r; exact⟨vs,n,e.trans q,k.ext x⟩
 | sdict es=>obtain⟨kvs,⟨o,q1,q2,q3,q4⟩,k,y⟩:=r; exact⟨kvs,⟨o,q1,q2,e.trans q3,q4⟩,k.ext x,y⟩
 | tdict es=>
  refine ex1_4 (r) fun xs zq1 hm k nsm=>?_
  obtain⟨o,q1,q2,q3,q4,q5,q6,q7,q8⟩:=zq1
  refine⟨xs,⟨o,q1,q2,e.trans q3,q4,q5,q6,fun y hy=>?_,q8⟩,fun y hy=>?_,k.ext x,nsm⟩
  · have z:=q7 y hy
    refine ex3_4 (id z) fun o' _ _ ho' hk' hc' _=>?_
    exact tupleKey_at z ((x _ _ (hm y hy) ho' ⟨hk',_,_,hc'⟩).1.trans ho'.symm)
  · refine ex3_4 (q7 y hy) fun o' _ _ ho' hk' hc' _=>?_
    exact(x _ _ (hm y hy) ho' ⟨hk',_,_,hc'⟩).2
 | inst C d=>exact e.trans r
 | idict fs=>obtain⟨es,n,q,k⟩:=r; exact⟨es,n,e.trans q,k.ext x⟩
 | cell d=>obtain⟨v,⟨o,q,q'⟩,k⟩:=r; exact⟨v,⟨o,e.trans q,q'⟩,k.ext x⟩
 | ilist k=>obtain⟨vs,n,q,l⟩:=r; exact⟨vs,n,e.trans q,l⟩
noncomputable def Sim (G:Gd) (μ:Mem) (h:Heap):Prop:=∀ a mo,μ a=some mo→MR G μ h a mo
noncomputable def upd (μ:Mem) (a:Addr) (mo:MO):Mem:=fun b=>if b=a then some mo else μ b
theorem upd_same (μ:Mem) (a:Addr) (mo:MO):upd μ a mo a=some mo:=if_pos rfl
theorem upd_ne (μ:Mem) {a b:Addr} (mo:MO) (n:b≠a):upd μ a mo b=μ b:=if_neg n
section
variable {G:Gd}{μ:Mem}{h h':Heap}{a:Addr}{mo mo₀:MO}
theorem Sim.lt (S:Sim G μ h) (e:μ a=some mo):a<h.objs.size:=let ⟨_,q⟩:=(S a mo e).live; Heap.lt_size q
theorem Sim.none_size (S:Sim G μ h):μ h.objs.size=none:=by
 cases q:μ h.objs.size with
 | none=>rfl
 | some mo=>exact absurd (S.lt q) (Nat.lt_irrefl _)
theorem ext_upd (e:μ a=some mo₀) (hs:Heap.SameBut a h h') (mo:MO):Ext G μ h (upd μ a mo) h':=fun b o m q=>by
 have n:b≠a:=fun z=>by rw[z,e] at m; cases m
 exact⟨.inl ((hs.2 b n).trans q),(upd_ne μ mo n).trans m⟩
theorem Sim.upd (S:Sim G μ h) (e:μ a=some mo₀) (hs:Heap.SameBut a h h') (r:MR G (upd μ a mo) h' a mo):Sim G (upd μ a mo) h':=fun b mb q=>by
 by_cases n:b=a
 · subst n
   rw[upd_same] at q; cases q; exact r
 · rw[upd_ne μ mo n] at q
   exact(S b mb q).at (hs.2 b n) (ext_upd (G:=G) e hs mo).t
theorem ext_push (S:Sim G μ h) (o:Obj):Ext G μ h μ (h.push o):=fun _ _ m q=>⟨.inl (Heap.get?_push_of_some _ q),m⟩
theorem Sim.push (S:Sim G μ h) (o:Obj):Sim G μ (h.push o):=fun b mb q=>by
 refine ex1_1 ((S b mb q).live) fun ob z=>?_
 exact(S b mb q).at ((Heap.get?_push_of_some o z).trans z.symm) (ext_push S o).t
theorem ext_alloc (S:Sim G μ h) (o:Obj) (mo:MO):Ext G μ h (Mine.upd μ h.objs.size mo) (h.push o):=fun b ob m q=>
 ⟨.inl (Heap.get?_push_of_some _ q),(upd_ne μ mo (Nat.ne_of_lt (Heap.lt_size q))).trans m⟩
theorem Sim.alloc (S:Sim G μ h) {o:Obj} (r:MR G (Mine.upd μ h.objs.size mo) (h.push o) h.objs.size mo):Sim G (Mine.upd μ h.objs.size mo) (h.push o):=fun b mb q=>by
 by_cases n:b=h.objs.size
 · subst n
   rw[upd_same] at q; cases q; exact r
 · rw[upd_ne μ mo n] at q
   refine ex1_1 ((S b mb q).live) fun ob z=>?_
   exact(S b mb q).at ((Heap.get?_push_of_some o z).trans z.symm) (ext_alloc S o mo).t
end
theorem Sim.keep {G:Gd}{μ:Mem}{h h':Heap} (S:Sim G μ h) (k:∀ b o,μ b≠none→h.get? b=some o→h'.get? b=some o) (x:TExt μ h μ h'):Sim G μ h':=fun b mb q=>by
 refine ex1_1 ((S b mb q).live) fun ob z=>?_
 exact(S b mb q).at ((k b ob (by rw[q]; exact fun z=>nomatch z) z).trans z.symm) x
structure Amb (G:Gd) (A:Around) (fenv:Env) (h₀:List Addr) (L:Addr) (n:Nat):Prop where
 bel:∃ outer,A.frames=some (fenv::outer)∧∀ env∈outer,env.scope.kind≠.module∧∃ b∈h₀,env.frame=some b
 frm:fenv.frame=some L
 fk:fenv.scope.kind=.function
 kin:G.K.In G.base
 top:∃ mean mg mb,Top G.p G.loose mean mg mb G.base
 hnd:1≤n→A.handled=none
 dep:A.depth+n<recursionLimit
 uns:A.units+40*n<cLine
 grd:A.guards=some []
structure Inv (G:Gd) (h₀:List Addr) (L:Addr) (μ:Mem) (h:Heap):Prop where
 fr:∃ m,Fr G.base L h m
 off:∀ a,μ a≠none→G.base.get? a=none∧a≠L
 fs:∀ b∈h₀,μ b=none∧b≠L∧G.base.get? b=none∧∃ m,h.Ns b m
 sim:Sim G μ h
structure Cx where
 scope:Scope
 cl:List (Str×Addr)
 ρ:List (Str×MV)
structure EnvOk (cx:Cx) (env:Env):Prop where
 scope:env.scope=cx.scope
 cells:env.cells=cx.cl
 globals:env.globals=mainGlobals
 builtins:env.builtins=builtinsNs
 kind:env.scope.kind=.function
noncomputable def LocOk (env:Env) (ρ:List (Str×MV)) (μ:Mem) (h:Heap):Prop:=
 ∃ m,h.Ns env.locals m∧∀ x d,ρ.lookup x=some d→∃ v,m x=some v∧VR μ h v d
structure Here (G:Gd) (n:Nat) (cx:Cx) (μ:Mem) (A:Around) (fenv:Env) (h₀:List Addr) (L:Addr) (env:Env) (h:Heap):Prop where
 amb:Amb G A fenv h₀ L n
 eok:EnvOk cx env
 inv:Inv G h₀ L μ h
 loc:LocOk env cx.ρ μ h
 cur:μ env.locals=none
section
variable {G:Gd}{n:Nat}{cx:Cx}{μ μ':Mem}{A:Around}{fenv env:Env}{h₀:List Addr}{h h':Heap}{L:Addr}
theorem Inv.curr (i:Inv G h₀ L μ h):μ L=none:=by
 cases q:μ L with
 | none=>rfl
 | some mo=>exact absurd rfl (i.off L (by rw[q]; exact fun z=>nomatch z)).2
theorem Inv.ground (i:Inv G h₀ L μ h) {b:Addr}{o:Obj} (e:G.base.get? b=some o):μ b=none:=by
 cases q:μ b with
 | none=>rfl
 | some mo=>have:=(i.off b (by rw[q]; exact fun z=>nomatch z)).1; rw[e] at this; cases this
theorem Inv.ext (i:Inv G h₀ L μ h) (x:Ext G μ h μ' h') (S:Sim G μ' h'):Inv G h₀ L μ' h':=by
 refine ex1_1 (i.fr) fun m F=>?_
 refine⟨⟨m,KeptO.ns F.ns fun o ho=>(x L o i.curr ho).1,fun b o e=>(x b o (i.ground e) (F.keep b o e)).1.ground e,F.above⟩,fun a ha=>?_,fun b hb=>?_,S⟩
 · have key:∀ o,h.get? a=some o→μ a≠none:=fun o e q=>ha (x a o q e).2
   constructor
   · cases q:G.base.get? a with
     | none=>rfl
     | some o=>
      have:=i.off a (key o (F.keep a o q))
      rw[q] at this; cases this.1
   · rintro rfl
     refine ex3_2 (F.ns) fun o _ _ ho _=>?_
     exact(i.off a (key o ho)).2 rfl
 · obtain⟨h1,h2,h3,m',h4⟩:=i.fs b hb
   refine ex3_2 (id h4) fun o _ _ ho _=>?_
   exact⟨(x b o h1 ho).2,h2,h3,m',KeptO.ns h4 fun o ho=>(x b o h1 ho).1⟩
theorem LocOk.ext {ρ:List (Str×MV)} (l:LocOk env ρ μ h) (c:μ env.locals=none) (x:Ext G μ h μ' h'):LocOk env ρ μ' h':=by
 refine ex1_2 (l) fun m hn hm=>?_
 refine⟨m,KeptO.ns hn fun o ho=>(x _ o c ho).1,fun y d e=>?_⟩
 refine ex1_2 (hm y d e) fun v hv hr=>?_
 exact⟨v,hv,hr.ext x.t⟩
theorem Here.ext (H:Here G n cx μ A fenv h₀ L env h) (x:Ext G μ h μ' h') (S:Sim G μ' h'):Here G n cx μ' A fenv h₀ L env h':=
 ⟨H.amb,H.eok,H.inv.ext x S,H.loc.ext H.cur x,H.loc.elim fun _ q=>q.1.elim fun o q=>q.elim fun _ q=>q.elim fun _ q=>(x _ o H.cur q.1).2⟩
theorem Here.kin (H:Here G n cx μ A fenv h₀ L env h):G.K.In h:=let ⟨_,F⟩:=H.inv.fr; H.amb.kin.keeps F.keep
end
noncomputable def PostE (G:Gd) (μ:Mem) (s:Shared) (Φ:MV→Mem→Prop) (v:Value) (s':Shared):Prop:=
 ∃ d μ' h' tk,s'={ s with heap:=h',toks:=tk }∧Ext G μ s.heap μ' h'∧Sim G μ' h'∧VR μ' h' v d∧Φ d μ'
noncomputable def PostEs (G:Gd) (μ:Mem) (s:Shared) (Φ:List MV→Mem→Prop) (vs:List Value) (s':Shared):Prop:=
 ∃ ds μ' h' tk,s'={ s with heap:=h',toks:=tk }∧Ext G μ s.heap μ' h'∧Sim G μ' h'∧VRs μ' h' vs ds∧Φ ds μ'
noncomputable def PostT (G:Gd) (μ:Mem) (s:Shared) (Φ:Bool→Mem→Prop) (b:Bool) (s':Shared):Prop:=
 ∃ μ' h' tk,s'={ s with heap:=h',toks:=tk }∧Ext G μ s.heap μ' h'∧Sim G μ' h'∧Φ b μ'
noncomputable def PostU (G:Gd) (μ:Mem) (s:Shared) (Φ:Mem→Prop) (s':Shared):Prop:=
 ∃ μ' h' tk,s'={ s with heap:=h',toks:=tk }∧Ext G μ s.heap μ' h'∧Sim G μ' h'∧Φ μ'
noncomputable abbrev NoE:Value→Shared→Prop:=fun _ _=>False
noncomputable def WpE (G:Gd) (n:Nat) (cx:Cx) (μ:Mem) (e:Expr) (Φ:MV→Mem→Prop):Prop:=
 ∀ A fenv h₀ L env s,Here G n cx μ A fenv h₀ L env s.heap→wpAny (model G.prog G.w) A (eval e env) (PostE G μ s Φ) NoE s
noncomputable def WpEs (G:Gd) (n:Nat) (cx:Cx) (μ:Mem) (es:List Expr) (Φ:List MV→Mem→Prop):Prop:=
 ∀ A fenv h₀ L env pos s,Here G n cx μ A fenv h₀ L env s.heap→wpAny (model G.prog G.w) A (spliced (backTo pos (starEach es env))) (PostEs G μ s Φ) NoE s
noncomputable def WpT (G:Gd) (n:Nat) (cx:Cx) (μ:Mem) (e:Expr) (Φ:Bool→Mem→Prop):Prop:=
 ∀ A fenv h₀ L env s,Here G n cx μ A fenv h₀ L env s.heap→wpAny (model G.prog G.w) A (isTrue e env (eval e env)) (PostT G μ s Φ) NoE s
noncomputable def WpO1 (G:Gd) (n:Nat) (μ:Mem) (a:MV) (f:Value→Sem Value) (Φ:MV→Mem→Prop):Prop:=
 ∀ A fenv h₀ L s,Amb G A fenv h₀ L n→Inv G h₀ L μ s.heap→∀ va,VR μ s.heap va a→wpAny (model G.prog G.w) A (f va) (PostE G μ s Φ) NoE s
noncomputable def WpO2 (G:Gd) (n:Nat) (μ:Mem) (a b:MV) (f:Value→Value→Sem Value) (Φ:MV→Mem→Prop):Prop:=
 ∀ A fenv h₀ L s,Amb G A fenv h₀ L n→Inv G h₀ L μ s.heap→∀ va vb,VR μ s.heap va a→VR μ s.heap vb b→wpAny (model G.prog G.w) A (f va vb) (PostE G μ s Φ) NoE s
noncomputable def WpOs (G:Gd) (n:Nat) (μ:Mem) (as:List MV) (f:List Value→Sem Value) (Φ:MV→Mem→Prop):Prop:=
 ∀ A fenv h₀ L s,Amb G A fenv h₀ L n→Inv G h₀ L μ s.heap→∀ vs,VRs μ s.heap vs as→wpAny (model G.prog G.w) A (f vs) (PostE G μ s Φ) NoE s
noncomputable def WpOT (G:Gd) (n:Nat) (μ:Mem) (a:MV) (f:Value→Sem Bool) (Φ:Bool→Mem→Prop):Prop:=
 ∀ A fenv h₀ L s,Amb G A fenv h₀ L n→Inv G h₀ L μ s.heap→∀ va,VR μ s.heap va a→wpAny (model G.prog G.w) A (f va) (PostT G μ s Φ) NoE s
noncomputable def WpU2 (G:Gd) (n:Nat) (μ:Mem) (a b:MV) (f:Value→Value→Sem Unit) (Φ:Mem→Prop):Prop:=
 ∀ A fenv h₀ L s,Amb G A fenv h₀ L n→Inv G h₀ L μ s.heap→∀ va vb,VR μ s.heap va a→VR μ s.heap vb b→wpAny (model G.prog G.w) A (f va vb) (fun _=>PostU G μ s Φ) NoE s
noncomputable def WpU3 (G:Gd) (n:Nat) (μ:Mem) (a b c:MV) (f:Value→Value→Value→Sem Unit) (Φ:Mem→Prop):Prop:=
 ∀ A fenv h₀ L s,Amb G A fenv h₀ L n→Inv G h₀ L μ s.heap→∀ va vb vc,VR μ s.heap va a→VR μ s.heap vb b→VR μ s.heap vc c→wpAny (model G.prog G.w) A (f va vb vc) (fun _=>PostU G μ s Φ) NoE s
section
variable {G:Gd}{n:Nat}{cx:Cx}{μ μ':Mem}{A:Around}{fenv env:Env}{h₀:List Addr}{h h':Heap}{L:Addr}{s s₁:Shared}{Φ Ψ:MV→Mem→Prop}
@[elab_as_elim] theorem PostE.elim {P:Shared→Prop}{v:Value}{s':Shared} (p:PostE G μ s Φ v s') (k:∀ d μ₁ h₁ tk₁,Ext G μ s.heap μ₁ h₁→Sim G μ₁ h₁→VR μ₁ h₁ v d→Φ d μ₁→P { s with heap:=h₁,toks:=tk₁ }):P s':=by
 obtain⟨d,μ₁,h₁,tk₁,rfl,x₁,S₁,r₁,q⟩:=p
 exact k d μ₁ h₁ tk₁ x₁ S₁ r₁ q
@[elab_as_elim] theorem PostEs.elim {Φ:List MV→Mem→Prop}{P:Shared→Prop}{v:List Value}{s':Shared} (p:PostEs G μ s Φ v s') (k:∀ d μ₁ h₁ tk₁,Ext G μ s.heap μ₁ h₁→Sim G μ₁ h₁→VRs μ₁ h₁ v d→Φ d μ₁→P { s with heap:=h₁,toks:=tk₁ }):P s':=by
 obtain⟨d,μ₁,h₁,tk₁,rfl,x₁,S₁,r₁,q⟩:=p
 exact k d μ₁ h₁ tk₁ x₁ S₁ r₁ q
@[elab_as_elim] theorem PostT.elim {Φ:Bool→Mem→Prop}{P:Shared→Prop}{b:Bool}{s':Shared} (p:PostT G μ s Φ b s') (k:∀ μ₁ h₁ tk₁,Ext G μ s.heap μ₁ h₁→Sim G μ₁ h₁→Φ b μ₁→P { s with heap:=h₁,toks:=tk₁ }):P s':=by
 refine ex3_4 (p) fun μ₁ h₁ tk₁ zr3 x₁ S₁ q=>?_
 obtain rfl:=zr3
 exact k μ₁ h₁ tk₁ x₁ S₁ q
@[elab_as_elim] theorem PostU.elim {Φ:Mem→Prop}{P:Shared→Prop}{s':Shared} (p:PostU G μ s Φ s') (k:∀ μ₁ h₁ tk₁,Ext G μ s.heap μ₁ h₁→Sim G μ₁ h₁→Φ μ₁→P { s with heap:=h₁,toks:=tk₁ }):P s':=by
 refine ex3_4 (p) fun μ₁ h₁ tk₁ zr3 x₁ S₁ q=>?_
 obtain rfl:=zr3
 exact k μ₁ h₁ tk₁ x₁ S₁ q
theorem PostE.after {h₁:Heap}{tk:Nat} (x:Ext G μ s.heap μ' h₁) {v:Value}{s':Shared} (p:PostE G μ' { s with heap:=h₁,toks:=tk } Φ v s'):PostE G μ s Φ v s':=by
 obtain⟨d,μ₂,h₂,tk₂,e,x₂,S,r,q⟩:=p
 exact⟨d,μ₂,h₂,tk₂,e,x.trans x₂,S,r,q⟩
theorem PostT.after {Φ:Bool→Mem→Prop}{h₁:Heap}{tk:Nat} (x:Ext G μ s.heap μ' h₁) {v:Bool}{s':Shared} (p:PostT G μ' { s with heap:=h₁,toks:=tk } Φ v s'):PostT G μ s Φ v s':=by
 refine ex3_4 (p) fun μ₂ h₂ tk₂ e x₂ S q=>?_
 exact⟨μ₂,h₂,tk₂,e,x.trans x₂,S,q⟩
theorem PostE.same (S:Sim G μ s.heap) {v:Value}{d:MV} (r:VR μ s.heap v d) (q:Φ d μ) {tk:Nat}:PostE G μ s Φ v { s with toks:=tk }:=⟨d,μ,s.heap,tk,rfl,Ext.refl _ _,S,r,q⟩
theorem PostT.same {Φ:Bool→Mem→Prop} (S:Sim G μ s.heap) {b:Bool} (q:Φ b μ) {tk:Nat}:PostT G μ s Φ b { s with toks:=tk }:=⟨μ,s.heap,tk,rfl,Ext.refl _ _,S,q⟩
theorem PostE.mono {v:Value}{s':Shared} (p:PostE G μ s Φ v s') (k:∀ d μ,Φ d μ→Ψ d μ):PostE G μ s Ψ v s':=by
 obtain⟨d,μ₂,h₂,tk₂,e,x₂,S,r,q⟩:=p
 exact⟨d,μ₂,h₂,tk₂,e,x₂,S,r,k _ _ q⟩
theorem WpE.mono {e:Expr} (p:WpE G n cx μ e Φ) (k:∀ d μ,Φ d μ→Ψ d μ):WpE G n cx μ e Ψ:=fun A fenv h₀ L env s H=>
 wpAny_mono (p A fenv h₀ L env s H) (fun v s' q=>q.mono k) fun _ _ f=>f
theorem ite_t {c:Prop} [Decidable c] {A B:Prop} (h:c) (a:A):if c then A else B:=by rw[if_pos h]; exact a
theorem ite_f {c:Prop} [Decidable c] {A B:Prop} (h:¬ c) (b:B):if c then A else B:=by rw[if_neg h]; exact b
theorem WpE.loc {x:Str}{pos:Pos}{d:MV} (hd:cx.ρ.lookup x=some d) (q:Φ d μ) (hx:cx.scope.names.lookup x=some .local:=by rfl) (hdb:(x == ("__debug__":Str))=false:=by decide) :
 WpE G n cx μ (.Name x pos) Φ:=fun A fenv h₀ L env s H=>by
 refine ex1_2 (H.loc) fun m hm hl=>?_
 refine ex1_2 (hl x d hd) fun v hv r=>?_
 refine wpAny_Name (wpAny_loadName_local H.eok.kind (by unfold Env.kindOf; rw[H.eok.scope]; exact hx) hm hv ?_) hdb
 exact PostE.same H.inv.sim r q
theorem WpE.cellv {x:Str}{pos:Pos}{c:Addr}{d:MV}{k:NameKind} (hk:k=.cell∨k=.free) (hc:cx.cl.lookup x=some c) (hd:μ c=some (.cell (some d))) (q:Φ d μ) (hx:cx.scope.names.lookup x=some k) (hdb:(x == ("__debug__":Str))=false:=by decide) (hn:(x == ("__classdict__":Str))=false:=by decide) :
 WpE G n cx μ (.Name x pos) Φ:=fun A fenv h₀ L env s H=>by
 refine ex1_2 (H.inv.sim c _ hd) fun v hv r=>?_
 cases v with
 | none=>exact r.elim
 | some v=>
  have hx':env.kindOf x=some k:=by unfold Env.kindOf; rw[H.eok.scope]; exact hx
  have hc':env.cells.lookup x=some c:=by rw[H.eok.cells]; exact hc
  refine wpAny_Name ?_ hdb
  rcases hk with rfl | rfl
  · exact wpAny_loadName_cell H.eok.kind hx' hc' hv (PostE.same H.inv.sim r q)
  · exact wpAny_loadName_free H.eok.kind hx' hc' hv (PostE.same H.inv.sim r q) hn
theorem WpE.glob {x:Str}{pos:Pos}{a:Addr} (e:nsIn G.K mainGlobals x=some (some (.ref a))) (q:Φ (.ref a) μ) (hx:cx.scope.names.lookup x=some .globalImplicit:=by rfl) (hdb:(x == ("__debug__":Str))=false:=by decide) :
 WpE G n cx μ (.Name x pos) Φ:=fun A fenv h₀ L env s H=>by
 refine ex1_1 (H.inv.fr) fun m F=>?_
 refine ex3_1 (H.amb.top) fun mean mg mb T=>?_
 refine nameG_K F H.amb.kin (topRead_of T) e ?_ H.eok.globals H.eok.kind (by unfold Env.kindOf; rw[H.eok.scope]; exact hx) hdb
 exact PostE.same H.inv.sim (.ref a) q
theorem WpE.globS {x y:Str}{t:Tok}{pos:Pos} (e:nsIn G.K mainGlobals x=some (some (.str y t))) (q:Φ (.str y) μ) (hx:cx.scope.names.lookup x=some .globalImplicit:=by rfl) (hdb:(x == ("__debug__":Str))=false:=by decide) :
 WpE G n cx μ (.Name x pos) Φ:=fun A fenv h₀ L env s H=>by
 refine ex1_1 (H.inv.fr) fun m F=>?_
 refine ex3_1 (H.amb.top) fun mean mg mb T=>?_
 refine nameG_K F H.amb.kin (topRead_of T) e ?_ H.eok.globals H.eok.kind (by unfold Env.kindOf; rw[H.eok.scope]; exact hx) hdb
 exact PostE.same H.inv.sim (.str y t) q
theorem WpE.int {i:Int}{k:Nat}{pos:Pos} (q:Φ (.int i) μ):WpE G n cx μ (.Constant (.int i) k pos) Φ:=fun A fenv h₀ L env s H=>wpAny_Constant_int (PostE.same H.inv.sim (.int i _) q)
theorem WpE.str {x:Str}{k:Nat}{pos:Pos} (q:Φ (.str x) μ):WpE G n cx μ (.Constant (.str x) k pos) Φ:=fun A fenv h₀ L env s H=>wpAny_Constant_str (PostE.same H.inv.sim (.str x _) q)
theorem WpE.none {k:Nat}{pos:Pos} (q:Φ .none μ):WpE G n cx μ (.Constant .none k pos) Φ:=fun A fenv h₀ L env s H=>wpAny_Constant_none (PostE.same H.inv.sim .none q)
theorem WpE.bool {b:Bool}{k:Nat}{pos:Pos} (q:Φ (.bool b) μ):WpE G n cx μ (.Constant (.bool b) k pos) Φ:=fun A fenv h₀ L env s H=>wpAny_Constant_bool (PostE.same H.inv.sim (.bool b) q)
theorem WpEs.nil {Φ:List MV→Mem→Prop} (q:Φ [] μ):WpEs G n cx μ [] Φ:=fun A fenv h₀ L env pos s H=>wpAny_items_nil ⟨[],μ,s.heap,s.toks,rfl,Ext.refl _ _,H.inv.sim,.nil,q⟩
noncomputable abbrev EsK2 (Φ:List MV→Mem→Prop) (d:MV):List MV→Mem→Prop:=fun ds μ₂=>Φ (d::ds) μ₂
noncomputable abbrev EsK (G:Gd) (n:Nat) (cx:Cx) (es:List Expr) (Φ:List MV→Mem→Prop):MV→Mem→Prop:=fun d μ₁=>WpEs G n cx μ₁ es (EsK2 Φ d)
theorem WpEs.cons {e:Expr}{es:List Expr}{Φ:List MV→Mem→Prop} (p:WpE G n cx μ e (EsK G n cx es Φ))
 (he:∀ env,starEach (e::es) env=(false,eval e env)::starEach es env:=by intro _; rfl):WpEs G n cx μ (e::es) Φ:=fun A fenv h₀ L env pos s H=>by
 refine wpAny_items_cons (wpAny_mono (p A fenv h₀ L env s H) (fun v s₁ q=>?_) fun _ _ f=>f) (he env)
 refine q.elim fun d μ₁ h₁ tk₁ x₁ S₁ r₁ q₁=>?_
 refine wpAny_mono (q₁ A fenv h₀ L env pos _ (H.ext x₁ S₁)) (fun vs s₂ q₂=>?_) fun _ _ f=>f
 refine q₂.elim fun ds μ₂ h₂ tk₂ x₂ S₂ r₂ q₂=>?_
 exact⟨d::ds,μ₂,h₂,tk₂,rfl,x₁.trans x₂,S₂,.cons (r₁.ext x₂.t) r₂,q₂⟩
noncomputable abbrev TupK (Φ:MV→Mem→Prop):List MV→Mem→Prop:=fun ds μ₁=>ds.length≤16777216∧Φ (.tup ds) μ₁
noncomputable abbrev ListK (Φ:MV→Mem→Prop):List MV→Mem→Prop:=fun ds μ₁=>ds.length≤16777216∧∀ a,μ₁ a=Option.none→Φ (.ref a) (upd μ₁ a (.list ds))
theorem WpE.tuple {es:List Expr}{k:Nat}{pos:Pos} (p:WpEs G n cx μ es (TupK Φ)):WpE G n cx μ (.Tuple es k pos) Φ:=fun A fenv h₀ L env s H=>by
 refine Tuple_ (wpAny_mono (p A fenv h₀ L env pos s H) (fun vs s₁ q=>?_) fun _ _ f=>f)
 refine q.elim fun ds μ₁ h₁ tk₁ x₁ S₁ r₁ qq=>?_
 refine and2 (qq) fun hl q₁=>?_
 refine wpAny_newObj_type ?_ (by show vs.toArray.size≤sizeLine; rw[List.size_toArray,r₁.length]; exact hl)
 refine⟨.tup ds,μ₁,_,tk₁,rfl,x₁.trans (ext_push S₁ _),S₁.push _,?_,q₁⟩
 exact .tup S₁.none_size (Heap.get?_push_size _ rfl) (r₁.ext (ext_push S₁ _).t)
theorem WpE.list {es:List Expr}{pos:Pos} (p:WpEs G n cx μ es (ListK Φ)):WpE G n cx μ (.List es pos) Φ:=fun A fenv h₀ L env s H=>by
 refine List_ (wpAny_mono (p A fenv h₀ L env pos s H) (fun vs s₁ q=>?_) fun _ _ f=>f)
 refine q.elim fun ds μ₁ h₁ tk₁ x₁ S₁ r₁ qq=>?_
 refine and2 (qq) fun hl q₁=>?_
 refine wpAny_newObj_type ?_ (by show vs.toArray.size≤sizeLine; rw[List.size_toArray,r₁.length]; exact hl)
 refine⟨.ref h₁.objs.size,_,_,tk₁,rfl,x₁.trans (ext_alloc S₁ _ (.list ds)),S₁.alloc ?_,.ref _,q₁ _ S₁.none_size⟩
 exact⟨vs,0,Heap.get?_push_size _ rfl,r₁.ext (ext_alloc S₁ _ _).t⟩
noncomputable abbrev BinK2 (G:Gd) (n:Nat) (op:Value→Value→Sem Value) (Φ:MV→Mem→Prop) (a:MV):MV→Mem→Prop:=fun b μ₂=>WpO2 G n μ₂ a b op Φ
noncomputable abbrev BinK (G:Gd) (n:Nat) (cx:Cx) (r:Expr) (op:Value→Value→Sem Value) (Φ:MV→Mem→Prop):MV→Mem→Prop:=fun a μ₁=>WpE G n cx μ₁ r (BinK2 G n op Φ a)
noncomputable abbrev BoolK (Φ:Bool→Mem→Prop):MV→Mem→Prop:=fun d μ₃=>∃ c,d=.bool c∧Φ c μ₃
noncomputable abbrev NotK (Φ:Bool→Mem→Prop):Bool→Mem→Prop:=fun b μ₁=>Φ (!b) μ₁
noncomputable abbrev ValK (G:Gd) (n:Nat) (Φ:Bool→Mem→Prop):MV→Mem→Prop:=fun d μ₁=>WpOT G n μ₁ d truthy Φ
noncomputable abbrev IfK (G:Gd) (n:Nat) (cx:Cx) (a b:Expr) (Φ:MV→Mem→Prop):Bool→Mem→Prop:=fun c μ₁=>if c then WpE G n cx μ₁ a Φ else WpE G n cx μ₁ b Φ
theorem WpE.bin {l r:Expr}{op:Operator}{pos:Pos} (p:WpE G n cx μ l (BinK G n cx r (binaryOp op) Φ)):WpE G n cx μ (.BinOp l op r pos) Φ:=fun A fenv h₀ L env s H=>by
 refine wpAny_BinOp (wpAny_mono (p A fenv h₀ L env s H) (fun v s₁ q=>?_) fun _ _ f=>f)
 refine q.elim fun d μ₁ h₁ tk₁ x₁ S₁ r₁ q₁=>?_
 refine wpAny_mono (q₁ A fenv h₀ L env _ (H.ext x₁ S₁)) (fun v₂ s₂ q₂=>?_) fun _ _ f=>f
 refine q₂.elim fun d₂ μ₂ h₂ tk₂ x₂ S₂ r₂ q₂=>?_
 exact wpAny_mono (q₂ A fenv h₀ L _ H.amb (H.inv.ext (x₁.trans x₂) S₂) _ _ (r₁.ext x₂.t) r₂) (fun v₃ s₃ q₃=>q₃.after (x₁.trans x₂)) fun _ _ f=>f
theorem WpE.cmp {l r:Expr}{op:CmpOp}{pos:Pos} (p:WpE G n cx μ l (BinK G n cx r (compareOp op) Φ)) (hm:behindInMarks op r=false:=by rfl):WpE G n cx μ (.Compare l [op] [r] pos) Φ:=fun A fenv h₀ L env s H=>by
 refine wpAny_Compare1 (wpAny_mono (p A fenv h₀ L env s H) (fun v s₁ q=>?_) fun _ _ f=>f) hm
 refine q.elim fun d μ₁ h₁ tk₁ x₁ S₁ r₁ q₁=>?_
 refine wpAny_mono (q₁ A fenv h₀ L env _ (H.ext x₁ S₁)) (fun v₂ s₂ q₂=>?_) fun _ _ f=>f
 refine q₂.elim fun d₂ μ₂ h₂ tk₂ x₂ S₂ r₂ q₂=>?_
 exact wpAny_mono (q₂ A fenv h₀ L _ H.amb (H.inv.ext (x₁.trans x₂) S₂) _ _ (r₁.ext x₂.t) r₂) (fun v₃ s₃ q₃=>q₃.after (x₁.trans x₂)) fun _ _ f=>f
theorem WpT.cmp {l r:Expr}{op:CmpOp}{pos:Pos}{Φ:Bool→Mem→Prop} (p:WpE G n cx μ l (BinK G n cx r (compareOp op) (BoolK Φ))) (hm:behindInMarks op r=false:=by rfl):WpT G n cx μ (.Compare l [op] [r] pos) Φ:=fun A fenv h₀ L env s H=>by
 refine wpAny_isTrue_Compare1 (wpAny_mono (p A fenv h₀ L env s H) (fun v s₁ q=>?_) fun _ _ f=>f) hm
 refine q.elim fun d μ₁ h₁ tk₁ x₁ S₁ r₁ q₁=>?_
 refine wpAny_mono (q₁ A fenv h₀ L env _ (H.ext x₁ S₁)) (fun v₂ s₂ q₂=>?_) fun _ _ f=>f
 refine q₂.elim fun d₂ μ₂ h₂ tk₂ x₂ S₂ r₂ q₂=>?_
 refine wpAny_mono (q₂ A fenv h₀ L _ H.amb (H.inv.ext (x₁.trans x₂) S₂) _ _ (r₁.ext x₂.t) r₂) (fun v₃ s₃ q₃=>?_) fun _ _ f=>f
 refine q₃.elim fun d₃ μ₃ h₃ tk₃ x₃ S₃ r₃ qq=>?_
 clear q₃
 refine ex1_2 (qq) fun c zr1 q₃=>?_
 obtain rfl:=zr1
 cases r₃
 exact wpAny_truthy_bool ⟨μ₃,h₃,tk₃,rfl,(x₁.trans x₂).trans x₃,S₃,q₃⟩
theorem WpT.not {e:Expr}{pos:Pos}{Φ:Bool→Mem→Prop} (p:WpT G n cx μ e (NotK Φ)):WpT G n cx μ (.UnaryOp .Not e pos) Φ:=fun A fenv h₀ L env s H=>
 wpAny_isTrue_Not (wpAny_mono (p A fenv h₀ L env s H) (fun b s₁ q=>q) fun _ _ f=>f)
theorem WpT.val {e:Expr}{Φ:Bool→Mem→Prop} (p:WpE G n cx μ e (ValK G n Φ)) (he:∀ env whole,isTrue e env whole=(do let v ← whole; standAt e.pos; holding [v] (truthy v)):=by intro _ _; rfl):WpT G n cx μ e Φ:=fun A fenv h₀ L env s H=>by
 rw[he]
 refine wpAny_bind (wpAny_mono (p A fenv h₀ L env s H) (fun v s₁ q=>?_) fun _ _ f=>f)
 refine q.elim fun d μ₁ h₁ tk₁ x₁ S₁ r₁ q₁=>?_
 exact wpAny_bind (wpAny_standAt (wpAny_holding (wpAny_mono (q₁ A fenv h₀ L _ H.amb (H.inv.ext x₁ S₁) _ r₁) (fun b s₂ q₂=>q₂.after x₁) fun _ _ f=>f)))
theorem WpE.ifexp {t a b:Expr}{pos:Pos} (p:WpT G n cx μ t (IfK G n cx a b Φ)):WpE G n cx μ (.IfExp t a b pos) Φ:=fun A fenv h₀ L env s H=>by
 refine wpAny_IfExp (wpAny_mono (p A fenv h₀ L env s H) (fun c s₁ q=>?_) fun _ _ f=>f)
 refine q.elim fun μ₁ h₁ tk₁ x₁ S₁ q₁=>?_
 cases c with
 | true=>
  have q₁:WpE G n cx μ₁ a Φ:=q₁
  simp only[if_true]
  exact wpAny_mono (q₁ A fenv h₀ L env _ (H.ext x₁ S₁)) (fun v₃ s₃ q₃=>q₃.after x₁) fun _ _ f=>f
 | false=>
  have q₁:WpE G n cx μ₁ b Φ:=q₁
  simp only[Bool.false_eq_true,if_false]
  exact wpAny_mono (q₁ A fenv h₀ L env _ (H.ext x₁ S₁)) (fun v₃ s₃ q₃=>q₃.after x₁) fun _ _ f=>f
end
section
variable {G:Gd}{n:Nat}{cx:Cx}{μ μ':Mem}{A:Around}{fenv env:Env}{h₀:List Addr}{h h':Heap}{L:Addr}{s s₁:Shared}{Φ Ψ:MV→Mem→Prop}
theorem VR.handed {v:Value}{d:MV} (r:VR μ h v d):handedIn v=true:=by cases r <;> rfl
theorem VR.isInt {v:Value}{i:Int} (r:VR μ h v (.int i)):∃ t,v=.int i t:=by cases r; exact⟨_,rfl⟩
theorem VR.isStr {v:Value}{x:Str} (r:VR μ h v (.str x)):∃ t,v=.str x t:=by cases r; exact⟨_,rfl⟩
theorem VR.isBool {v:Value}{b:Bool} (r:VR μ h v (.bool b)):v=.bool b:=by cases r; rfl
theorem VR.isRef {v:Value}{a:Addr} (r:VR μ h v (.ref a)):v=.ref a:=by cases r; rfl
theorem VR.isNone {v:Value} (r:VR μ h v .none):v=.none:=by cases r; rfl
theorem VR.isTup {v:Value}{ds:List MV} (r:VR μ h v (.tup ds)):∃ a vs n,v=.ref a∧μ a=Option.none∧h.get? a=some ({ cls:=.type "tuple",data:=.seq (List.toArray vs) n }:Obj)∧VRs μ h vs ds:=by cases r with | tup m e r=>exact⟨_,_,_,rfl,m,e,r⟩
theorem o_add {a b:Int} (q:Φ (.int (a+b)) μ):WpO2 G n μ (.int a) (.int b) (binaryOp .Add) Φ:=fun A fenv h₀ L s am i va vb ra rb=>by
 obtain⟨t,rfl⟩:=ra.isInt; obtain⟨u,rfl⟩:=rb.isInt
 exact PyProof.Rows.add_int (PostE.same i.sim (.int _ _) q)
theorem o_sub {a b:Int} (q:Φ (.int (a-b)) μ):WpO2 G n μ (.int a) (.int b) (binaryOp .Sub) Φ:=fun A fenv h₀ L s am i va vb ra rb=>by
 obtain⟨t,rfl⟩:=ra.isInt; obtain⟨u,rfl⟩:=rb.isInt
 exact PyProof.Rows.sub_int (PostE.same i.sim (.int _ _) q)
theorem o_mod {a b:Int} (hb:b≠0) (q:Φ (.int (a.fmod b)) μ):WpO2 G n μ (.int a) (.int b) (binaryOp .Mod) Φ:=fun A fenv h₀ L s am i va vb ra rb=>by
 obtain⟨t,rfl⟩:=ra.isInt; obtain⟨u,rfl⟩:=rb.isInt
 exact mod_int' hb (PostE.same i.sim (.int _ _) q)
theorem o_fdiv {a b:Int} (hb:b≠0) (hp:Builtin.divisionGoesByPylong a b=false) (q:Φ (.int (a.fdiv b)) μ):WpO2 G n μ (.int a) (.int b) (binaryOp .FloorDiv) Φ:=fun A fenv h₀ L s am i va vb ra rb=>by
 obtain⟨t,rfl⟩:=ra.isInt; obtain⟨u,rfl⟩:=rb.isInt
 exact floordiv_int (hp:=.inl hp) hb (PostE.same i.sim (.int _ _) q)
theorem o_pow {a k:Int} (h1:0≤k) (h2:k≤1000000) (h3:a.natAbs<2 ^ 64) (q:Φ (.int (a ^ k.toNat)) μ):WpO2 G n μ (.int a) (.int k) (binaryOp .Pow) Φ:=fun A fenv h₀ L s am i va vb ra rb=>by
 obtain⟨t,rfl⟩:=ra.isInt; obtain⟨u,rfl⟩:=rb.isInt
 exact pow_int_small h1 h2 h3 (PostE.same i.sim (.int _ _) q)
theorem o_eqI {a b:Int} (q:Φ (.bool (a == b)) μ):WpO2 G n μ (.int a) (.int b) (compareOp .Eq) Φ:=fun A fenv h₀ L s am i va vb ra rb=>by
 obtain⟨t,rfl⟩:=ra.isInt; obtain⟨u,rfl⟩:=rb.isInt
 exact PyProof.Rows.eq_int (PostE.same (tk:=s.toks) i.sim (.bool _) q)
theorem o_ltI {a b:Int} (q:Φ (.bool (decide (a<b))) μ):WpO2 G n μ (.int a) (.int b) (compareOp .Lt) Φ:=fun A fenv h₀ L s am i va vb ra rb=>by
 obtain⟨t,rfl⟩:=ra.isInt; obtain⟨u,rfl⟩:=rb.isInt
 exact PyProof.Rows.lt_int (PostE.same (tk:=s.toks) i.sim (.bool _) q)
theorem o_gtI {a b:Int} (q:Φ (.bool (decide (b<a))) μ):WpO2 G n μ (.int a) (.int b) (compareOp .Gt) Φ:=fun A fenv h₀ L s am i va vb ra rb=>by
 obtain⟨t,rfl⟩:=ra.isInt; obtain⟨u,rfl⟩:=rb.isInt
 exact PyProof.Rows.gt_int (PostE.same (tk:=s.toks) i.sim (.bool _) q)
theorem o_geI {a b:Int} (q:Φ (.bool (decide (b≤a))) μ):WpO2 G n μ (.int a) (.int b) (compareOp .GtE) Φ:=fun A fenv h₀ L s am i va vb ra rb=>by
 obtain⟨t,rfl⟩:=ra.isInt; obtain⟨u,rfl⟩:=rb.isInt
 exact PyProof.Rows.ge_int (PostE.same (tk:=s.toks) i.sim (.bool _) q)
theorem o_eqS {x y:Str} (q:Φ (.bool (x == y)) μ):WpO2 G n μ (.str x) (.str y) (compareOp .Eq) Φ:=fun A fenv h₀ L s am i va vb ra rb=>by
 obtain⟨t,rfl⟩:=ra.isStr; obtain⟨u,rfl⟩:=rb.isStr
 exact PyProof.Rows.eq_str (PostE.same (tk:=s.toks) i.sim (.bool _) q)
noncomputable def MV.isNone:MV→Bool
 | .none=>true
 | _=>false
theorem o_isNone {d:MV} (q:Φ (.bool d.isNone) μ):WpO2 G n μ d .none (compareOp .Is) Φ:=fun A fenv h₀ L s am i va vb ra rb=>by
 rw[rb.isNone]
 refine PySem.is_none (PostE.same (tk:=s.toks) i.sim ?_ q)
 have e:(va == Value.none)=d.isNone:=by cases ra <;> rfl
 rw[e]; exact .bool _
theorem Inv.list (i:Inv G h₀ L μ h) {a:Addr}{ds:List MV} (e:μ a=some (.list ds)):∃(vs:List Value) (n:Nat),h.get? a=some (listOf vs.toArray n)∧VRs μ h vs ds:=i.sim a _ e
theorem isList_of {a:Addr}{vs:List Value}{k:Nat} (e:h.get? a=some (listOf vs.toArray k)):h.IsList a vs.toArray:=⟨_,e,rfl,k,rfl⟩
theorem typeIs_list {a:Addr}{vs:List Value}{k:Nat} (e:s.heap.get? a=some (listOf vs.toArray k)):s.TypeIs (.ref a) "list":=⟨_,e,rfl⟩
theorem WpE.sub {value slice:Expr}{pos:Pos} (p:WpE G n cx μ value (BinK G n cx slice (subscriptTail value slice) Φ)):WpE G n cx μ (.Subscript value slice pos) Φ:=fun A fenv h₀ L env s H=>by
 refine Subscript_ (wpAny_mono (p A fenv h₀ L env s H) (fun v s₁ q=>?_) fun _ _ f=>f)
 refine q.elim fun d μ₁ h₁ tk₁ x₁ S₁ r₁ q₁=>?_
 refine wpAny_mono (q₁ A fenv h₀ L env _ (H.ext x₁ S₁)) (fun v₂ s₂ q₂=>?_) fun _ _ f=>f
 refine q₂.elim fun d₂ μ₂ h₂ tk₂ x₂ S₂ r₂ q₂=>?_
 exact wpAny_mono (q₂ A fenv h₀ L _ H.amb (H.inv.ext (x₁.trans x₂) S₂) _ _ (r₁.ext x₂.t) r₂) (fun v₃ s₃ q₃=>q₃.after (x₁.trans x₂)) fun _ _ f=>f
noncomputable def NoSlice (slice:Expr):Prop:=∀ o i,subscripted slice false o i=operate [o,i] (getItem o i)
theorem o_item_list {value slice:Expr}{a:Addr}{k:Int}{ds:List MV}{d:MV} (e:μ a=some (.list ds)) (h0:0≤k) (h1:k<2 ^ 63) (hk:ds[k.toNat]?=some d) (q:Φ d μ) (hs:NoSlice slice:=by intro _ _; rfl) :
 WpO2 G n μ (.ref a) (.int k) (subscriptTail value slice) Φ:=fun A fenv h₀ L s am i va vb ra rb=>by
 rw[ra.isRef]; obtain⟨u,rfl⟩:=rb.isInt
 refine ex2_2 (i.list e) fun vs m g r=>?_
 refine ex1_2 (r.get hk) fun v hv rv=>?_
 exact tail_any (typeIs_list g) slot_list_getitem.lookup (wpAny_getItem_list (isList_of g) h0 h1 (by simpa using hv) (PostE.same (tk:=s.toks) i.sim rv q)) (hs _ _)
theorem o_item_listN {value slice:Expr}{a:Addr}{k:Int}{ds:List MV}{d:MV} (e:μ a=some (.list ds)) (h0:k<0) (h1:-(ds.length:Int)≤k) (h2:-(2 ^ 63)≤k) (hk:ds[(k+ds.length).toNat]?=some d) (q:Φ d μ) (hs:NoSlice slice:=by intro _ _; rfl) :
 WpO2 G n μ (.ref a) (.int k) (subscriptTail value slice) Φ:=fun A fenv h₀ L s am i va vb ra rb=>by
 rw[ra.isRef]; obtain⟨u,rfl⟩:=rb.isInt
 refine ex2_2 (i.list e) fun vs m g r=>?_
 refine ex1_2 (r.get hk) fun v hv rv=>?_
 have hl:(vs.toArray.size:Int)=ds.length:=by rw[List.size_toArray,r.length]
 exact tail_any (typeIs_list g) slot_list_getitem.lookup (wpAny_getItem_list_neg (isList_of g) h0 (by rw[hl]; exact h1) h2 (by rw[hl]; simpa using hv) (PostE.same (tk:=s.toks) i.sim rv q)) (hs _ _)
theorem isTup_of {a:Addr}{vs:List Value}{k:Nat} (e:h.get? a=some ({ cls:=.type "tuple",data:=.seq vs.toArray k }:Obj)):IsTup h a vs.toArray:=⟨_,e,rfl,k,rfl⟩
theorem o_item_tup {value slice:Expr}{k:Int}{j:Nat}{ds:List MV}{d:MV} (h0:-(2 ^ 63)≤k) (h1:k<2 ^ 63) (hj:seqIndex? k ds.length=some j) (hk:ds[j]?=some d) (q:Φ d μ) (hs:NoSlice slice:=by intro _ _; rfl) :
 WpO2 G n μ (.tup ds) (.int k) (subscriptTail value slice) Φ:=fun A fenv h₀ L s am i va vb ra rb=>by
 obtain⟨a,vs,m,rfl,hm,g,r⟩:=ra.isTup; obtain⟨u,rfl⟩:=rb.isInt
 refine ex1_2 (r.get hk) fun v hv rv=>?_
 exact item_tupleT (isTup_of g) h0 h1 (by rw[r.length]; exact hj) (by simpa using hv) (PostE.same (tk:=s.toks) i.sim rv q) (hs _ _)
theorem o_item_sdict {value slice:Expr}{a:Addr}{x:Str}{es:List (Str×MV)}{d:MV} (e:μ a=some (.sdict es)) (hk:atM es x=some d) (q:Φ d μ) (hs:NoSlice slice:=by intro _ _; rfl) :
 WpO2 G n μ (.ref a) (.str x) (subscriptTail value slice) Φ:=fun A fenv h₀ L s am i va vb ra rb=>by
 rw[ra.isRef]; obtain⟨u,rfl⟩:=rb.isStr
 refine ex1_3 (i.sim a _ e) fun kvs hd r _=>?_
 rcases r.find x with ⟨_,z⟩ | ⟨v,d',h1,h2,rv⟩
 · rw[z] at hk; cases hk
 · rw[h2] at hk; cases hk
   exact tail_any hd.typeIs slot_dict_getitem.lookup (wpAny_getItem_of (strKind_is G.prog G.w x u) hd.mapOf h1 (PostE.same i.sim rv q)) (hs _ _)
theorem o_truthB {b:Bool}{Φ:Bool→Mem→Prop} (q:Φ b μ):WpOT G n μ (.bool b) truthy Φ:=fun A fenv h₀ L s am i va ra=>by
 rw[ra.isBool]; exact wpAny_truthy_bool (PostT.same (tk:=s.toks) i.sim q)
theorem o_truthL {a:Addr}{ds:List MV}{Φ:Bool→Mem→Prop} (e:μ a=some (.list ds)) (hl:ds.length<2 ^ 62) (q:Φ (!ds.isEmpty) μ):WpOT G n μ (.ref a) truthy Φ:=fun A fenv h₀ L s am i va ra=>by
 rw[ra.isRef]
 refine ex2_2 (i.list e) fun vs m g r=>?_
 have hle:(vs.toArray.size:Int)<2 ^ 63:=by rw[List.size_toArray,r.length]; exact ω0 hl
 refine wpAny_truthy_list (isList_of g) hle ?_
 have e2:(!vs.toArray.isEmpty)=(!ds.isEmpty):=by
  have:=r.length
  cases vs <;> cases ds <;> simp_all
 first | (rw[e2]; exact PostT.same i.sim q) | (simp only[e2]; exact PostT.same i.sim q) | (intros; simp only[e2]; exact PostT.same i.sim q)
end
structure GetOk (K:Frag) (C:Addr) (x:Str):Prop where
 plain:plainGet K C x=true
 hasD:hasDictIn K C=true
 own:∃ a,findIn K (.ref C) x=some a∧noGet K a=true
structure SetOk (K:Frag) (C:Addr) (x:Str):Prop where
 sa:findIn K (.ref C) "__setattr__" = some (some (.builtin "object.__setattr__"))
 plain:plainOver K C=true
 taker:takerIn K C x=some none
 hasD:(clsIn K C).any (·.hasDict)=true
section
variable {G:Gd}{n:Nat}{cx:Cx}{μ μ':Mem}{A:Around}{fenv env:Env}{h₀:List Addr}{h h':Heap}{L:Addr}{s s₁:Shared}{Φ Ψ:MV→Mem→Prop}
theorem Amb.kin' (am:Amb G A fenv h₀ L n) (i:Inv G h₀ L μ h):G.K.In h:=let ⟨_,F⟩:=i.fr; am.kin.keeps F.keep
theorem instAt {a C d:Addr}{es:List DictEntry}{k:Nat} (e:h.get? a=some (instObj C d)) (e':h.get? d=some (dictOf es k)):InstAt h a (instObj C d) C (some (dictOf es k)):=⟨e,rfl,rfl,e'⟩
theorem o_getattr {a C d:Addr}{x:Str}{fs:List (Str×MV)}{v:MV} (e:μ a=some (.inst C d)) (e':μ d=some (.idict fs)) (hv:atM fs x=some v) (ok:GetOk G.K C x) (q:Φ v μ) :
 WpO1 G n μ (.ref a) (fun o=>getAttr o x true) Φ:=fun A fenv h₀ L s am i va ra=>by
 rw[ra.isRef]
 have g:=i.sim a _ e
 refine ex2_2 (i.sim d _ e') fun es k g' r=>?_
 refine ex1_1 (i.fr) fun m F=>?_
 rcases r.getL x with ⟨z,_⟩ | ⟨w,d',h1,h2,rv⟩
 · rw[z] at hv; cases hv
 · rw[h1] at hv; cases hv
   refine ex1_2 (ok.own) fun at_ f1 f2=>?_
   exact get_own F am.kin (instAt g g') ok.plain ok.hasD f1 f2 h2 rv.handed (PostE.same i.sim rv q)
noncomputable abbrev AttrK (G:Gd) (n:Nat) (x:Str) (Φ:MV→Mem→Prop):MV→Mem→Prop:=fun a μ₁=>WpO1 G n μ₁ a (fun o=>getAttr o x true) Φ
theorem WpE.attr {value:Expr}{x:Str}{pos:Pos} (p:WpE G n cx μ value (AttrK G n x Φ))
 (he:∀ env,eval (.Attribute value x pos) env=(do
  let o ← eval value env
  standAt pos.atName
  let r ← holding [o] (getAttr o x true)
  letTemporaryGo value o r
  pure r):=by intro _; with_unfolding_all rfl):WpE G n cx μ (.Attribute value x pos) Φ:=fun A fenv h₀ L env s H=>by
 refine Attribute_any_ (wpAny_mono (p A fenv h₀ L env s H) (fun v s₁ q=>?_) fun _ _ f=>f) (he env)
 refine q.elim fun d μ₁ h₁ tk₁ x₁ S₁ r₁ q₁=>?_
 exact wpAny_mono (q₁ A fenv h₀ L _ H.amb (H.inv.ext x₁ S₁) _ r₁) (fun v₃ s₃ q₃=>q₃.after x₁) fun _ _ f=>f
theorem setAttr_at {prog:Program}{w:World}{K:Frag}{A:Around}{E:Value→Shared→Prop}{s:Shared}{a C d:Addr}{es:List DictEntry}{k:Nat}{x:Str}{v:Value}{Q:Unit→Shared→Prop} (X:K.In s.heap)
 (g:s.heap.get? a=some (instObj C d)) (g':s.heap.get? d=some (dictOf es k)) (hs:strKeyed' es) (hz:es.length≤1000) (ok:SetOk K C x)
 (h:∀ h',Heap.SameBut d s.heap h'→h'.get? d=some (dictOf (putL x (PyData.keyHash w.params x) (.str x (s.toks+1)) v es) (putN x es k))→Q () { s with heap:=h',toks:=s.toks+2 }) :
 wpAny (model prog w) A (setAttr (.ref a) x v) Q E s:=by
 have I:=instAt g g'
 refine set_plain X I ok.sa (osa_open (s:={ s with toks:=s.toks+1 }) X I ok.plain ok.taker fun b=>?_)
 refine ex1_2 (any_some ok.hasD) fun cd hc hd'=>?_
 have put:Obj.putName x (PyData.keyHash w.params x) (.str x (s.toks+1)) v (dictOf es k)=dictOf (putL x (PyData.keyHash w.params x) (.str x (s.toks+1)) v es) (putN x es k):=putName_dict ..
 have g2:(s.heap.update d (Obj.putName x (PyData.keyHash w.params x) (.str x (s.toks+1)) v)).get? d=some (dictOf (putL x (PyData.keyHash w.params x) (.str x (s.toks+1)) v es) (putN x es k)):=by
  have:=Heap.get?_update_self (Obj.putName x (PyData.keyHash w.params x) (.str x (s.toks+1)) v) g' (by rw[put]; rfl)
  rwa [put] at this
 refine wpAny_bind (wpAny_pure (wpAny_bind (wpAny_bind (wpAny_loadPart (s:={ s with toks:=s.toks+1 }) g (wpAny_bind (Looks.here (s:={ s with toks:=s.toks+1 }) (looks_clsIn X hc) ?_))))))
 rw[hd']
 refine wpAny_pure (a:=some d) (wpAny_bind (wpAny_pure (wpAny_bind ?_)))
 unfold nsSet
 refine wpAny_bind (wpAny_bind (wpAny_askSetting (wpAny_pure (wpAny_bind (wpAny_mkText (wpAny_bind (wpAny_loadPart g' ?_)))))))
 dsimp only
 have c:aRefKeyMayBeTheName x es.toArray=false:=by
  rw[aRefKeyMayBeTheName_at,List.any_toArray,List.any_toArray,strKeyed_any hs,Bool.and_false]
 rw[c]
 refine wpAny_updatePart g' ?_
 refine wpAny_bind (wpAny_lookBehind g2 (pastItsLine_dict (by have:=putL_length (name:=x) (hsh:=PyData.keyHash w.params x) (key:=.str x (s.toks+1)) (v:=v) es; rw[List.size_toArray,sizeLine_eq]; exact ω1 hz this)) ?_)
 exact wpAny_pure (h _ (Heap.SameBut.update ..) g2)
theorem o_setattr {a C d:Addr}{x:Str}{fs:List (Str×MV)}{v:MV}{Φ:Mem→Prop} (e:μ a=some (.inst C d)) (e':μ d=some (.idict fs)) (hl:fs.length≤999) (ok:SetOk G.K C x) (q:Φ (upd μ d (.idict ((x,v)::fs)))) :
 WpU2 G n μ (.ref a) v (fun o w=>setAttr o x w) Φ:=fun A fenv h₀ L s am i va vb ra rb=>by
 rw[ra.isRef]
 have g:=i.sim a _ e
 refine ex2_2 (i.sim d _ e') fun es k g' r=>?_
 refine setAttr_at (am.kin' i) g g' r.sk (by have:=r.len; exact ω2 hl this) ok fun h' hs ge=>?_
 have x':=ext_upd (G:=G) e' hs (.idict ((x,v)::fs))
 exact⟨_,h',_,rfl,x',i.sim.upd e' hs ⟨_,_,ge,(r.ext x'.t).put (rb.ext x'.t)⟩,q⟩
end
inductive MF where
 | next | brk | cont
 | ret (d:MV)
inductive FlR (μ:Mem) (h:Heap):Flow→MF→Prop
 | next:FlR μ h .next .next
 | brk:FlR μ h .brk .brk
 | cont:FlR μ h .cont .cont
 | ret {v:Value}{d:MV}:VR μ h v d→FlR μ h (.ret v) (.ret d)
noncomputable def ExtB (G:Gd) (c:Addr) (μ:Mem) (h:Heap) (μ':Mem) (h':Heap):Prop:=∀ b o,b≠c→μ b=none→h.get? b=some o→KeptO G b o h'∧μ' b=none
theorem Ext.b {G:Gd}{μ μ':Mem}{h h':Heap} (x:Ext G μ h μ' h') (c:Addr):ExtB G c μ h μ' h':=fun b o _ m e=>x b o m e
theorem ExtB.trans {G:Gd}{c:Addr}{μ μ' μ'':Mem}{h h' h'':Heap} (x:ExtB G c μ h μ' h') (y:ExtB G c μ' h' μ'' h''):ExtB G c μ h μ'' h'':=fun b o n m e=>
 let ⟨e',m'⟩:=x b o n m e
 ⟨e'.trans fun o' ho=>(y b o' n m' ho).1,let ⟨o',ho⟩:=e'.live; (y b o' n m' ho).2⟩
noncomputable def NsLive (c:Addr) (h:Heap):Prop:=∃ m,h.Ns c m
theorem ExtB.t {G:Gd}{c:Addr}{μ μ':Mem}{h h':Heap} (x:ExtB G c μ h μ' h') (l:NsLive c h):TExt μ h μ' h':=fun b o m e ht=>by
 obtain⟨_,xs,k,hs⟩:=id ht
 have nb:b≠c:=fun z=>by
  subst z
  obtain⟨_,o',es,ep,ho,hd,_⟩:=l
  rw[ho] at e; cases e
  rw[hd] at hs; cases hs
 exact⟨(x b o nb m e).1.seq (fun es ep z=>by rw[hs] at z; cases z),(x b o nb m e).2⟩
theorem extB_of_sameBut {G:Gd}{c:Addr}{μ:Mem}{h h':Heap} (hs:Heap.SameBut c h h'):ExtB G c μ h μ h':=fun b o n m e=>⟨.inl ((hs.2 b n).trans e),m⟩
structure HereS (G:Gd) (n:Nat) (cx:Cx) (μ:Mem) (A:Around) (h₀:List Addr) (env:Env) (h:Heap):Prop where
 amb:Amb G A env h₀ env.locals n
 eok:EnvOk cx env
 inv:Inv G h₀ env.locals μ h
 loc:LocOk env cx.ρ μ h
noncomputable abbrev Cx.with (cx:Cx) (ρ:List (Str×MV)):Cx:={ cx with ρ:=ρ }
theorem EnvOk.with {cx:Cx}{env:Env} (e:EnvOk cx env) (ρ:List (Str×MV)):EnvOk (cx.with ρ) env:=⟨e.scope,e.cells,e.globals,e.builtins,e.kind⟩
section
variable {G:Gd}{n:Nat}{cx:Cx}{μ μ':Mem}{A:Around}{env:Env}{h₀:List Addr}{h h':Heap}
theorem HereS.here (H:HereS G n cx μ A h₀ env h):Here G n cx μ A env h₀ env.locals env h:=⟨H.amb,H.eok,H.inv,H.loc,H.inv.curr⟩
theorem HereS.ext (H:HereS G n cx μ A h₀ env h) (x:Ext G μ h μ' h') (S:Sim G μ' h'):HereS G n cx μ' A h₀ env h':=⟨H.amb,H.eok,H.inv.ext x S,H.loc.ext H.inv.curr x⟩
theorem LocOk.live {ρ:List (Str×MV)} (l:LocOk env ρ μ h):NsLive env.locals h:=let ⟨m,hn,_⟩:=l; ⟨m,hn⟩
theorem Inv.extB {ρ:List (Str×MV)} (i:Inv G h₀ env.locals μ h) (x:ExtB G env.locals μ h μ' h') (c:μ' env.locals=none) (S:Sim G μ' h') (l:LocOk env ρ μ' h'):Inv G h₀ env.locals μ' h':=by
 refine ex1_1 (i.fr) fun m F=>?_
 refine ex1_2 (l) fun m' hn _=>?_
 have nL:∀ b o,G.base.get? b=some o→b≠env.locals:=fun b o e=>Nat.ne_of_lt (Nat.lt_of_lt_of_le (Heap.lt_size e) F.above)
 refine⟨⟨m',hn,fun b o e=>(x b o (nL b o e) (i.ground e) (F.keep b o e)).1.ground e,F.above⟩,fun a ha=>?_,fun b hb=>?_,S⟩
 · constructor
   · cases q:G.base.get? a with
     | none=>rfl
     | some o=>exact absurd (x a o (nL a o q) (i.ground q) (F.keep a o q)).2 ha
   · rintro rfl; exact ha c
 · obtain⟨h1,h2,h3,m',h4⟩:=i.fs b hb
   refine ex3_2 (id h4) fun o _ _ ho _=>?_
   exact⟨(x b o h2 h1 ho).2,h2,h3,m',KeptO.ns h4 fun o ho=>(x b o h2 h1 ho).1⟩
theorem HereS.extB {ρ:List (Str×MV)} (H:HereS G n cx μ A h₀ env h) (x:ExtB G env.locals μ h μ' h') (c:μ' env.locals=none) (S:Sim G μ' h') (l:LocOk env ρ μ' h'):HereS G n (cx.with ρ) μ' A h₀ env h':=⟨H.amb,H.eok.with ρ,H.inv.extB x c S l,l⟩
end
noncomputable def PostS (G:Gd) (env:Env) (μ:Mem) (s:Shared) (Φ:MF→List (Str×MV)→Mem→Prop) (f:Flow) (s':Shared):Prop:=
 ∃ mf ρ' μ' h' tk,s'={ s with heap:=h',toks:=tk }∧ExtB G env.locals μ s.heap μ' h'∧μ' env.locals=none∧Sim G μ' h'∧LocOk env ρ' μ' h'∧FlR μ' h' f mf∧Φ mf ρ' μ'
noncomputable def WpS (G:Gd) (n:Nat) (cx:Cx) (μ:Mem) (b:List Stmt) (Φ:MF→List (Str×MV)→Mem→Prop):Prop:=
 ∀ A h₀ env s,HereS G n cx μ A h₀ env s.heap→wpAny (model G.prog G.w) A (execs b env) (PostS G env μ s Φ) NoE s
noncomputable def WpS1 (G:Gd) (n:Nat) (cx:Cx) (μ:Mem) (b:Stmt) (Φ:MF→List (Str×MV)→Mem→Prop):Prop:=
 ∀ A h₀ env s,HereS G n cx μ A h₀ env s.heap→wpAny (model G.prog G.w) A (exec b env) (PostS G env μ s Φ) NoE s
section
variable {G:Gd}{n:Nat}{cx:Cx}{μ μ':Mem}{A:Around}{env:Env}{h₀:List Addr}{h h':Heap}{s:Shared}{Φ Ψ:MF→List (Str×MV)→Mem→Prop}
@[elab_as_elim] theorem PostS.elim {P:Shared→Prop}{f:Flow}{s':Shared} (p:PostS G env μ s Φ f s') (k:∀ mf ρ' μ₁ h₁ tk₁,ExtB G env.locals μ s.heap μ₁ h₁→μ₁ env.locals=none→Sim G μ₁ h₁→LocOk env ρ' μ₁ h₁→FlR μ₁ h₁ f mf→Φ mf ρ' μ₁→P { s with heap:=h₁,toks:=tk₁ }):P s':=by
 obtain⟨mf,ρ',μ₁,h₁,tk₁,rfl,x₁,c₁,S₁,l₁,r₁,q⟩:=p
 exact k mf ρ' μ₁ h₁ tk₁ x₁ c₁ S₁ l₁ r₁ q
theorem PostS.after {h₁:Heap}{tk:Nat} (x:ExtB G env.locals μ s.heap μ' h₁) {f:Flow}{s':Shared} (p:PostS G env μ' { s with heap:=h₁,toks:=tk } Φ f s'):PostS G env μ s Φ f s':=by
 obtain⟨mf,ρ',μ₂,h₂,tk₂,e,x₂,r⟩:=p
 exact⟨mf,ρ',μ₂,h₂,tk₂,e,x.trans x₂,r⟩
theorem PostS.mono {f:Flow}{s':Shared} (p:PostS G env μ s Φ f s') (k:∀ f ρ μ,Φ f ρ μ→Ψ f ρ μ):PostS G env μ s Ψ f s':=by
 obtain⟨mf,ρ',μ₂,h₂,tk₂,e,x₂,c,S,l,r,q⟩:=p
 exact⟨mf,ρ',μ₂,h₂,tk₂,e,x₂,c,S,l,r,k _ _ _ q⟩
theorem WpS1.mono {b:Stmt} (p:WpS1 G n cx μ b Φ) (k:∀ f ρ μ,Φ f ρ μ→Ψ f ρ μ):WpS1 G n cx μ b Ψ:=fun A h₀ env s H=>wpAny_mono (p A h₀ env s H) (fun f s' q=>q.mono k) fun _ _ f=>f
theorem PostS.plain {h₁:Heap}{tk:Nat} (H:HereS G n cx μ A h₀ env s.heap) (x:Ext G μ s.heap μ' h₁) (S:Sim G μ' h₁) {f:Flow}{mf:MF} (r:FlR μ' h₁ f mf) (q:Φ mf cx.ρ μ'):PostS G env μ s Φ f { s with heap:=h₁,toks:=tk }:=
 ⟨mf,cx.ρ,μ',h₁,tk,rfl,x.b _,(H.inv.ext x S).curr,S,H.loc.ext H.inv.curr x,r,q⟩
theorem WpS.nil {sc:Scope}{cl:List (Str×Addr)}{ρ0:List (Str×MV)} (q:Φ .next ρ0 μ):WpS G n ⟨sc,cl,ρ0⟩ μ [] Φ:=fun A h₀ env s H=>wpAny_execs_nil (PostS.plain (tk:=s.toks) H (Ext.refl _ _) H.inv.sim .next q)
noncomputable abbrev SeqK (G:Gd) (n:Nat) (sc:Scope) (cl:List (Str×Addr)) (rest:List Stmt) (Φ:MF→List (Str×MV)→Mem→Prop):MF→List (Str×MV)→Mem→Prop:=fun f ρ' μ'=>match f with | .next=>WpS G n ⟨sc,cl,ρ'⟩ μ' rest Φ | f=>Φ f ρ' μ'
noncomputable abbrev AsgK (ρ0:List (Str×MV)) (x:Str) (Φ:MF→List (Str×MV)→Mem→Prop):MV→Mem→Prop:=fun d μ₁=>Φ .next ((x,d)::ρ0) μ₁
noncomputable abbrev AsgCK (ρ0:List (Str×MV)) (c:Addr) (Φ:MF→List (Str×MV)→Mem→Prop):MV→Mem→Prop:=fun d μ₁=>(∃ d₀,μ₁ c=some (.cell d₀))∧Φ .next ρ0 (upd μ₁ c (.cell (some d)))
noncomputable abbrev SetAK2 (G:Gd) (n:Nat) (a:Str) (Ψ:Mem→Prop) (v:MV):MV→Mem→Prop:=fun d μ₂=>WpU2 G n μ₂ d v (fun o w=>setAttr o a w) Ψ
noncomputable abbrev SetAK (G:Gd) (n:Nat) (cx:Cx) (o:Expr) (a:Str) (Ψ:Mem→Prop):MV→Mem→Prop:=fun v μ₁=>WpE G n cx μ₁ o (SetAK2 G n a Ψ v)
noncomputable abbrev SetIK3 (G:Gd) (n:Nat) (Ψ:Mem→Prop) (v d:MV):MV→Mem→Prop:=fun k μ₃=>WpU3 G n μ₃ d k v setItem Ψ
noncomputable abbrev SetIK2 (G:Gd) (n:Nat) (cx:Cx) (i:Expr) (Ψ:Mem→Prop) (v:MV):MV→Mem→Prop:=fun d μ₂=>WpE G n cx μ₂ i (SetIK3 G n Ψ v d)
noncomputable abbrev SetIK (G:Gd) (n:Nat) (cx:Cx) (o i:Expr) (Ψ:Mem→Prop):MV→Mem→Prop:=fun v μ₁=>WpE G n cx μ₁ o (SetIK2 G n cx i Ψ v)
noncomputable abbrev AugK (ρ0:List (Str×MV)) (x:Str) (c b:Int) (Φ:MF→List (Str×MV)→Mem→Prop):MV→Mem→Prop:=fun d μ₁=>d=.int b∧Φ .next ((x,.int c)::ρ0) μ₁
noncomputable abbrev RetK (ρ0:List (Str×MV)) (Φ:MF→List (Str×MV)→Mem→Prop):MV→Mem→Prop:=fun d μ₁=>Φ (.ret d) ρ0 μ₁
noncomputable abbrev IteK (G:Gd) (n:Nat) (cx:Cx) (a b:List Stmt) (Φ:MF→List (Str×MV)→Mem→Prop):Bool→Mem→Prop:=fun c μ₁=>if c then WpS G n cx μ₁ a Φ else WpS G n cx μ₁ b Φ
theorem WpS.cons {sc:Scope}{cl:List (Str×Addr)}{ρ0:List (Str×MV)}{st:Stmt}{rest:List Stmt} (p:WpS1 G n ⟨sc,cl,ρ0⟩ μ st (SeqK G n sc cl rest Φ)):WpS G n ⟨sc,cl,ρ0⟩ μ (st::rest) Φ:=fun A h₀ env s H=>by
 refine wpAny_execs_cons (wpAny_mono (p A h₀ env s H) (fun f s₁ q=>?_) fun _ _ f=>f)
 refine q.elim fun mf ρ' μ₁ h₁ tk₁ x₁ c₁ S₁ l₁ r₁ q₁=>?_
 cases r₁ with
 | next=>exact wpAny_mono (q₁ A h₀ env _ (H.extB x₁ c₁ S₁ l₁)) (fun f s₂ q₂=>q₂.after x₁) fun _ _ f=>f
 | brk=>exact⟨_,ρ',μ₁,h₁,tk₁,rfl,x₁,c₁,S₁,l₁,.brk,q₁⟩
 | cont=>exact⟨_,ρ',μ₁,h₁,tk₁,rfl,x₁,c₁,S₁,l₁,.cont,q₁⟩
 | ret r=>exact⟨_,ρ',μ₁,h₁,tk₁,rfl,x₁,c₁,S₁,l₁,.ret r,q₁⟩
theorem LocOk.put {ρ:List (Str×MV)}{x:Str}{v:Value}{d:MV}{m:Str→Option Value} (hm:∀ y e,ρ.lookup y=some e→∃ v,m y=some v∧VR μ h v e) (k:TExt μ h μ' h') (hn:h'.Ns env.locals (fun y=>if y=x then some v else m y)) (r:VR μ' h' v d):LocOk env ((x,d)::ρ) μ' h':=by
 refine⟨_,hn,fun y e hy=>?_⟩
 by_cases q:y=x
 · subst q
   simp at hy
   subst hy
   exact⟨v,if_pos rfl,r⟩
 · have:(y == x)=false:=beq_eq_false_iff_ne.mpr q
   rw[List.lookup_cons,this] at hy
   refine ex1_2 (hm y e hy) fun w h1 h2=>?_
   exact⟨w,(if_neg q).trans h1,h2.ext k⟩
theorem store_local {A:Around}{x:Str}{v:Value}{d:MV} (H:HereS G n cx μ A h₀ env s.heap) (r:VR μ s.heap v d) (hx:cx.scope.names.lookup x=some .local) {Q:Unit→Shared→Prop}
 (k:∀ h',Heap.SameBut env.locals s.heap h'→LocOk env ((x,d)::cx.ρ) μ h'→Sim G μ h'→Q () { s with heap:=h',toks:=s.toks+1 }):wpAny (model G.prog G.w) A (storeName env x v) Q NoE s:=by
 refine ex1_2 (H.loc) fun m hn hm=>?_
 refine wpAny_storeName_local (by unfold Env.kindOf; rw[H.eok.scope]; exact hx) hn (fun h' hn' hs=>?_) (by rw[H.eok.kind]; rfl)
 have x':ExtB G env.locals μ s.heap μ h':=extB_of_sameBut hs
 have t:=x'.t ⟨m,hn⟩
 refine k h' hs (LocOk.put hm t hn' (r.ext t)) (H.inv.sim.keep (fun b o hb e=>(hs.2 b (fun z=>?_)).trans e) t)
 rw[z] at hb; exact hb H.inv.curr
theorem store_cell {A:Around}{x:Str}{c:Addr}{v:Value}{d:MV}{d₀:Option MV} (H:HereS G n cx μ A h₀ env s.heap) (r:VR μ s.heap v d) (hx:cx.scope.names.lookup x=some .cell) (hc:cx.cl.lookup x=some c) (e:μ c=some (.cell d₀)) {Q:Unit→Shared→Prop}
 (k:∀ h',Ext G μ s.heap (upd μ c (.cell (some d))) h'→Sim G (upd μ c (.cell (some d))) h'→Q () { s with heap:=h' }):wpAny (model G.prog G.w) A (storeName env x v) Q NoE s:=by
 refine ex1_2 (H.inv.sim c _ e) fun v₀ hv _=>?_
 refine wpAny_storeName_cell H.eok.kind (by unfold Env.kindOf; rw[H.eok.scope]; exact hx) (by rw[H.eok.cells]; exact hc) hv fun h' hv' hs=>?_
 have x':=ext_upd (G:=G) e hs (.cell (some d))
 exact k h' x' (H.inv.sim.upd e hs ⟨some v,hv',r.ext x'.t⟩)
theorem PostS.stored {tk:Nat} (H:HereS G n cx μ A h₀ env s.heap) (hs:Heap.SameBut env.locals s.heap h') (l:LocOk env ρ' μ h') (S:Sim G μ h') (q:Φ .next ρ' μ):PostS G env μ s Φ .next { s with heap:=h',toks:=tk }:=
 ⟨.next,_,μ,h',tk,rfl,extB_of_sameBut hs,H.inv.curr,S,l,.next,q⟩
noncomputable def NoSwap (e:Expr):Prop:=∀ t l env,swapsWith e t l env=pure false
theorem WpS1.assign {sc:Scope}{cl:List (Str×Addr)}{ρ0:List (Str×MV)}{x:Str}{p' pos:Pos}{e:Expr} (p:WpE G n ⟨sc,cl,ρ0⟩ μ e (AsgK ρ0 x Φ)) (hx:sc.names.lookup x=some .local:=by rfl) (hs:NoSwap e:=by intro _ _ _; rfl):WpS1 G n ⟨sc,cl,ρ0⟩ μ (.Assign [.Name x p'] e pos) Φ:=fun A h₀ env s H=>by
 refine wpAny_Assign_Name (wpAny_mono (p A env h₀ _ env s H.here) (fun v s₁ q=>?_) fun _ _ f=>f) (hs _ _ _)
 refine q.elim fun d μ₁ h₁ tk₁ x₁ S₁ r₁ q₁=>?_
 exact store_local (H.ext x₁ S₁) r₁ hx fun h₂ hs₂ l₂ S₂=>(PostS.stored (tk:=tk₁+1) (s:={ s with heap:=h₁,toks:=tk₁ }) (H.ext x₁ S₁) hs₂ l₂ S₂ q₁).after (x₁.b _)
theorem WpS1.assignC {sc:Scope}{cl:List (Str×Addr)}{ρ0:List (Str×MV)}{x:Str}{c:Addr}{p' pos:Pos}{e:Expr} (p:WpE G n ⟨sc,cl,ρ0⟩ μ e (AsgCK ρ0 c Φ)) (hc:cl.lookup x=some c) (hx:sc.names.lookup x=some .cell:=by rfl) (hs:NoSwap e:=by intro _ _ _; rfl):WpS1 G n ⟨sc,cl,ρ0⟩ μ (.Assign [.Name x p'] e pos) Φ:=fun A h₀ env s H=>by
 refine wpAny_Assign_Name (wpAny_mono (p A env h₀ _ env s H.here) (fun v s₁ q=>?_) fun _ _ f=>f) (hs _ _ _)
 refine q.elim fun d μ₁ h₁ tk₁ x₁ S₁ r₁ qq=>?_
 refine and2 (qq) fun zq0 q₁=>?_
 obtain⟨d₀,e₁⟩:=zq0
 exact store_cell (H.ext x₁ S₁) r₁ hx hc e₁ fun h₂ x₂ S₂=>(PostS.plain (tk:=tk₁) (s:={ s with heap:=h₁,toks:=tk₁ }) (H.ext x₁ S₁) x₂ S₂ .next q₁).after (x₁.b _)
theorem WpS1.setattr {sc:Scope}{cl:List (Str×Addr)}{ρ0:List (Str×MV)}{o e:Expr}{a:Str}{p' pos:Pos} (p:WpE G n ⟨sc,cl,ρ0⟩ μ e (SetAK G n ⟨sc,cl,ρ0⟩ o a (Φ .next ρ0))) (hs:∀ env,swapsWith e (some (.Attribute o a p')) pos.line env=pure false:=by intro _; rfl):WpS1 G n ⟨sc,cl,ρ0⟩ μ (.Assign [.Attribute o a p'] e pos) Φ:=fun A h₀ env s H=>by
 refine plainObj_wpAny_Assign_Attribute (wpAny_mono (p A env h₀ _ env s H.here) (fun v s₁ q=>?_) fun _ _ f=>f) (hs _)
 refine q.elim fun d μ₁ h₁ tk₁ x₁ S₁ r₁ q₁=>?_
 refine wpAny_mono (q₁ A env h₀ _ env _ (H.ext x₁ S₁).here) (fun ov s₂ q₂=>?_) fun _ _ f=>f
 refine q₂.elim fun d₂ μ₂ h₂ tk₂ x₂ S₂ r₂ q₂=>?_
 have x:=x₁.trans x₂
 refine wpAny_mono (q₂ A env h₀ _ _ H.amb (H.inv.ext x S₂) _ _ r₂ (r₁.ext x₂.t)) (fun _ s₃ q₃=>?_) fun _ _ f=>f
 refine q₃.elim fun μ₃ h₃ tk₃ x₃ S₃ q₃=>?_
 exact PostS.plain H (x.trans x₃) S₃ .next q₃
theorem WpS1.setitem {sc:Scope}{cl:List (Str×Addr)}{ρ0:List (Str×MV)}{o i e:Expr}{p' pos:Pos} (p:WpE G n ⟨sc,cl,ρ0⟩ μ e (SetIK G n ⟨sc,cl,ρ0⟩ o i (Φ .next ρ0))) (hs:∀ env,swapsWith e (some (.Subscript o i p')) pos.line env=pure false:=by intro _; rfl):WpS1 G n ⟨sc,cl,ρ0⟩ μ (.Assign [.Subscript o i p'] e pos) Φ:=fun A h₀ env s H=>by
 refine wpAny_Assign_Subscript (wpAny_mono (p A env h₀ _ env s H.here) (fun v s₁ q=>?_) fun _ _ f=>f) (hs _)
 refine q.elim fun d μ₁ h₁ tk₁ x₁ S₁ r₁ q₁=>?_
 refine wpAny_mono (q₁ A env h₀ _ env _ (H.ext x₁ S₁).here) (fun ov s₂ q₂=>?_) fun _ _ f=>f
 refine q₂.elim fun d₂ μ₂ h₂ tk₂ x₂ S₂ r₂ q₂=>?_
 refine wpAny_mono (q₂ A env h₀ _ env _ (H.ext (x₁.trans x₂) S₂).here) (fun iv s₃ q₃=>?_) fun _ _ f=>f
 refine q₃.elim fun d₃ μ₃ h₃ tk₃ x₃ S₃ r₃ q₃=>?_
 have x:=(x₁.trans x₂).trans x₃
 refine wpAny_mono (q₃ A env h₀ _ _ H.amb (H.inv.ext x S₃) _ _ _ (r₂.ext x₃.t) r₃ (r₁.ext (x₂.trans x₃).t)) (fun _ s₄ q₄=>?_) fun _ _ f=>f
 refine q₄.elim fun μ₄ h₄ tk₄ x₄ S₄ q₄=>?_
 exact PostS.plain H (x.trans x₄) S₄ .next q₄
theorem WpS1.augadd {sc:Scope}{cl:List (Str×Addr)}{ρ0:List (Str×MV)}{x:Str}{p' pos:Pos}{e:Expr}{a b:Int} (ha:ρ0.lookup x=some (.int a)) (p:WpE G n ⟨sc,cl,ρ0⟩ μ e (AugK ρ0 x (a+b) b Φ)) (hx:sc.names.lookup x=some .local:=by rfl):WpS1 G n ⟨sc,cl,ρ0⟩ μ (.AugAssign (.Name x p') .Add e pos) Φ:=fun A h₀ env s H=>by
 refine ex1_2 (id H.loc) fun m hn hm=>?_
 refine ex1_2 (hm x _ ha) fun v hv r=>?_
 refine ex1_1 (r.isInt) fun t zr1=>?_
 obtain rfl:=zr1
 refine wpAny_AugAssign_Name (wpAny_loadName_local H.eok.kind (by unfold Env.kindOf; rw[H.eok.scope]; exact hx) hn hv (wpAny_mono (p A env h₀ _ env s H.here) (fun v s₁ q=>?_) fun _ _ f=>f))
 refine q.elim fun d μ₁ h₁ tk₁ x₁ S₁ r₁ qq=>?_
 refine and2 (qq) fun zr0 q₁=>?_
 obtain rfl:=zr0
 refine ex1_1 (r₁.isInt) fun u zr1=>?_
 obtain rfl:=zr1
 refine PyProof.Rows.iadd_int ?_
 exact store_local (s:={ s with heap:=h₁,toks:=tk₁+1 }) (H.ext x₁ S₁) (.int _ _) hx fun h₂ hs₂ l₂ S₂=>(PostS.stored (tk:=tk₁+1+1) (s:={ s with heap:=h₁,toks:=tk₁+1 }) (H.ext x₁ S₁) hs₂ l₂ S₂ q₁).after (x₁.b _)
noncomputable def MV.isRef:MV→Bool
 | .ref _=>true
 | .tup _=>true
 | _=>false
noncomputable abbrev ExprK (ρ0:List (Str×MV)) (Φ:MF→List (Str×MV)→Mem→Prop):MV→Mem→Prop:=fun d μ₁=>d.isRef=false∧Φ .next ρ0 μ₁
theorem WpS1.expr {sc:Scope}{cl:List (Str×Addr)}{ρ0:List (Str×MV)}{e:Expr}{pos:Pos} (p:WpE G n ⟨sc,cl,ρ0⟩ μ e (ExprK ρ0 Φ)) (hk:sc.kind=.function:=by rfl) (hs:NoSwap e:=by intro _ _ _; rfl):WpS1 G n ⟨sc,cl,ρ0⟩ μ (.Expr e pos) Φ:=fun A h₀ env s H=>by
 refine wpAny_Expr (wpAny_mono (p A env h₀ _ env s H.here) (fun v s₁ q=>?_) fun _ _ f=>f) (by unfold interactive; rw[H.eok.kind]; rfl) (hs _ _ _)
 refine q.elim fun d μ₁ h₁ tk₁ x₁ S₁ r₁ qq=>?_
 refine and2 (qq) fun hd q₁=>?_
 have z:PostS G env μ s Φ .next { s with heap:=h₁,toks:=tk₁ }:=PostS.plain H x₁ S₁ .next q₁
 cases r₁ with
 | ref a=>exact absurd hd (by intro q; cases q)
 | tup _ _ _=>exact absurd hd (by intro q; cases q)
 | _=>exact z
theorem WpS1.ret {sc:Scope}{cl:List (Str×Addr)}{ρ0:List (Str×MV)}{e:Expr}{pos:Pos} (p:WpE G n ⟨sc,cl,ρ0⟩ μ e (RetK ρ0 Φ)):WpS1 G n ⟨sc,cl,ρ0⟩ μ (.Return (some e) pos) Φ:=fun A h₀ env s H=>by
 refine wpAny_Return_some (wpAny_mono (p A env h₀ _ env s H.here) (fun v s₁ q=>?_) fun _ _ f=>f)
 refine q.elim fun d μ₁ h₁ tk₁ x₁ S₁ r₁ q₁=>?_
 exact PostS.plain H x₁ S₁ (.ret r₁) q₁
theorem WpS1.cont {sc:Scope}{cl:List (Str×Addr)}{ρ0:List (Str×MV)}{pos:Pos} (q:Φ .cont ρ0 μ):WpS1 G n ⟨sc,cl,ρ0⟩ μ (.Continue pos) Φ:=fun A h₀ env s H=>wpAny_Continue (PostS.plain (tk:=s.toks) H (Ext.refl _ _) H.inv.sim .cont q)
theorem WpS1.brk {sc:Scope}{cl:List (Str×Addr)}{ρ0:List (Str×MV)}{pos:Pos} (q:Φ .brk ρ0 μ):WpS1 G n ⟨sc,cl,ρ0⟩ μ (.Break pos) Φ:=fun A h₀ env s H=>wpAny_Break (PostS.plain (tk:=s.toks) H (Ext.refl _ _) H.inv.sim .brk q)
theorem WpS1.ite {t:Expr}{a b:List Stmt}{pos:Pos} (p:WpT G n cx μ t (IteK G n cx a b Φ)):WpS1 G n cx μ (.If t a b pos) Φ:=fun A h₀ env s H=>by
 refine wpAny_If (wpAny_mono (p A env h₀ _ env s H.here) (fun c s₁ q=>?_) fun _ _ f=>f)
 refine q.elim fun μ₁ h₁ tk₁ x₁ S₁ q₁=>?_
 cases c with
 | true=>
  have q₁:WpS G n cx μ₁ a Φ:=q₁
  simp only[if_true]
  exact wpAny_mono (q₁ A h₀ env _ (H.ext x₁ S₁)) (fun f s₂ q₂=>q₂.after (x₁.b _)) fun _ _ f=>f
 | false=>
  have q₁:WpS G n cx μ₁ b Φ:=q₁
  simp only[Bool.false_eq_true,if_false]
  exact wpAny_mono (q₁ A h₀ env _ (H.ext x₁ S₁)) (fun f s₂ q₂=>q₂.after (x₁.b _)) fun _ _ f=>f
theorem WpS1.tryOk {sc:Scope}{cl:List (Str×Addr)}{ρ0:List (Str×MV)}{b:List Stmt}{h₁:ExceptHandler}{hs:List ExceptHandler}{orelse:List Stmt}{pos:Pos} (p:WpS G n ⟨sc,cl,ρ0⟩ μ b (SeqK G n sc cl orelse Φ)):WpS1 G n ⟨sc,cl,ρ0⟩ μ (.Try b (h₁::hs) orelse [] pos) Φ:=fun A h₀ env s H=>by
 refine wpAny_Try_except (wpAny_mono (p A h₀ env s H) (fun f s₁ q=>?_) fun _ _ f=>f.elim)
 refine q.elim fun mf ρ' μ₁ h₁ tk₁ x₁ c₁ S₁ l₁ r₁ q₁=>?_
 cases r₁ with
 | next=>exact wpAny_mono (q₁ A h₀ env _ (H.extB x₁ c₁ S₁ l₁)) (fun f s₂ q₂=>q₂.after x₁) fun _ _ f=>f.elim
 | brk=>exact⟨_,ρ',μ₁,h₁,tk₁,rfl,x₁,c₁,S₁,l₁,.brk,q₁⟩
 | cont=>exact⟨_,ρ',μ₁,h₁,tk₁,rfl,x₁,c₁,S₁,l₁,.cont,q₁⟩
 | ret r=>exact⟨_,ρ',μ₁,h₁,tk₁,rfl,x₁,c₁,S₁,l₁,.ret r,q₁⟩
end
theorem WpS.gen {G:Gd}{n:Nat}{cx:Cx}{μ:Mem}{body:List Stmt}{Φ:MF→List (Str×MV)→Mem→Prop}{P:Mem→Prop} (h:P μ) (q:∀ μ',P μ'→WpS G n cx μ' body Φ):WpS G n cx μ body Φ:=q μ h
theorem WpS.abs {G:Gd}{n:Nat}{cx:Cx}{μ:Mem}{body:List Stmt}{Φ:MF→List (Str×MV)→Mem→Prop} (q:∀ Ψ:MF→List (Str×MV)→Mem→Prop,(∀ f ρ μ,Φ f ρ μ→Ψ f ρ μ)→WpS G n cx μ body Ψ):WpS G n cx μ body Φ:=q Φ fun _ _ _ h=>h
structure HereT (G:Gd) (n:Nat) (cx:Cx) (μ:Mem) (A:Around) (fenv:Env) (h₀:List Addr) (L:Addr) (env:Env) (h:Heap):Prop extends Here G n cx μ A fenv h₀ L env h where
 own:env.locals=L∨(G.base.get? env.locals=none∧L≠env.locals∧env.locals∉h₀)
section
variable {G:Gd}{n:Nat}{cx:Cx}{μ μ':Mem}{A:Around}{fenv env:Env}{h₀:List Addr}{h h':Heap}{L:Addr}{s:Shared}{Φ Ψ:List (Str×MV)→Mem→Prop}
theorem HereS.hereT (H:HereS G n cx μ A h₀ env h):HereT G n cx μ A env h₀ env.locals env h:=⟨H.here,.inl rfl⟩
theorem HereT.extB {ρ:List (Str×MV)} (H:HereT G n cx μ A fenv h₀ L env h) (x:ExtB G env.locals μ h μ' h') (c:μ' env.locals=none) (S:Sim G μ' h') (l:LocOk env ρ μ' h'):HereT G n (cx.with ρ) μ' A fenv h₀ L env h':=by
 refine⟨⟨H.amb,H.eok.with ρ,?_,l,c⟩,H.own⟩
 rcases H.own with rfl | ⟨hn,hne,hno⟩
 · exact H.inv.extB x c S l
 · obtain⟨m,F⟩:=H.inv.fr
   have nL:∀ b o,G.base.get? b=some o→b≠env.locals:=fun b o e z=>by rw[z,hn] at e; cases e
   have kL:∀ o,h.get? L=some o→KeptO G L o h'∧μ' L=none:=fun o e=>x L o hne H.inv.curr e
   refine⟨⟨m,KeptO.ns F.ns fun o e=>(kL o e).1,fun b o e=>(x b o (nL b o e) (H.inv.ground e) (F.keep b o e)).1.ground e,F.above⟩,fun a ha=>⟨?_,?_⟩,fun b hb=>?_,S⟩
   · cases q:G.base.get? a with
     | none=>rfl
     | some o=>exact absurd (x a o (nL a o q) (H.inv.ground q) (F.keep a o q)).2 ha
   · rintro rfl
     obtain⟨oL,es,ep,hL,hr⟩:=F.ns
     exact ha (kL oL hL).2
   · obtain⟨h1,h2,h3,m',h4⟩:=H.inv.fs b hb
     obtain⟨o,_,_,ho,_⟩:=id h4
     have nb:b≠env.locals:=fun z=>hno (z▸hb)
     exact⟨(x b o nb h1 ho).2,h2,h3,m',KeptO.ns h4 fun o ho=>(x b o nb h1 ho).1⟩
noncomputable def WpA (G:Gd) (n:Nat) (cx:Cx) (μ:Mem) (t:Expr) (d:MV) (Φ:List (Str×MV)→Mem→Prop):Prop:=
 ∀ A fenv h₀ L env s,HereT G n cx μ A fenv h₀ L env s.heap→∀ v,VR μ s.heap v d→wpAny (model G.prog G.w) A (assign t env v) (fun _=>PostS G env μ s (fun f ρ μ=>f=.next∧Φ ρ μ) .next) NoE s
noncomputable def WpAs (G:Gd) (n:Nat) (cx:Cx) (μ:Mem) (ts:List Expr) (ds:List MV) (Φ:List (Str×MV)→Mem→Prop):Prop:=
 ∀ A fenv h₀ L env s,HereT G n cx μ A fenv h₀ L env s.heap→∀ vs,VRs μ s.heap vs ds→wpAny (model G.prog G.w) A (assignInOrder ((assignEach ts env).map (·.2)) vs) (fun _=>PostS G env μ s (fun f ρ μ=>f=.next∧Φ ρ μ) .next) NoE s
theorem WpA.name {sc:Scope}{cl:List (Str×Addr)}{ρ0:List (Str×MV)}{x:Str}{p:Pos}{d:MV} (q:Φ ((x,d)::ρ0) μ) (hx:sc.names.lookup x=some .local:=by rfl):WpA G n ⟨sc,cl,ρ0⟩ μ (.Name x p) d Φ:=fun A fenv h₀ L env s H v r=>by
 obtain⟨m,hn,hm⟩:=H.loc
 refine wpAny_assign_Name (wpAny_storeName_local (by unfold Env.kindOf; rw[H.eok.scope]; exact hx) hn (fun h' hn' hs=>?_) (by rw[H.eok.kind]; rfl))
 have x':ExtB G env.locals μ s.heap μ h':=extB_of_sameBut hs
 have t:=x'.t ⟨m,hn⟩
 exact⟨.next,_,μ,h',_,rfl,x',H.cur,H.inv.sim.keep (fun b o hb e=>(hs.2 b (fun z=>by rw[z] at hb; exact hb H.cur)).trans e) t,LocOk.put hm t hn' (r.ext t),.next,rfl,q⟩
theorem WpA.cell {sc:Scope}{cl:List (Str×Addr)}{ρ0:List (Str×MV)}{x:Str}{p:Pos}{d:MV}{c:Addr}{d₀:Option MV} (e:μ c=some (.cell d₀)) (q:Φ ρ0 (upd μ c (.cell (some d)))) (hc:cl.lookup x=some c) (hx:sc.names.lookup x=some .cell:=by rfl):WpA G n ⟨sc,cl,ρ0⟩ μ (.Name x p) d Φ:=fun A fenv h₀ L env s H v r=>by
 obtain⟨v₀,hv,_⟩:=H.inv.sim c _ e
 refine wpAny_assign_Name (wpAny_storeName_cell H.eok.kind (by unfold Env.kindOf; rw[H.eok.scope]; exact hx) (by rw[H.eok.cells]; exact hc) hv fun h' hv' hs=>?_)
 have x':=ext_upd (G:=G) e hs (.cell (some d))
 have S:Sim G (upd μ c (.cell (some d))) h':=H.inv.sim.upd e hs ⟨some v,hv',r.ext x'.t⟩
 exact⟨.next,ρ0,_,h',s.toks,rfl,x'.b _,(H.toHere.ext x' S).cur,S,H.loc.ext H.cur x',.next,rfl,q⟩
theorem WpAs.nil {sc:Scope}{cl:List (Str×Addr)}{ρ0:List (Str×MV)} (q:Φ ρ0 μ):WpAs G n ⟨sc,cl,ρ0⟩ μ [] [] Φ:=fun A fenv h₀ L env s H vs r=>
 wpAny_pure ⟨.next,ρ0,μ,s.heap,s.toks,rfl,(Ext.refl _ _).b _,H.cur,H.inv.sim,H.loc,.next,rfl,q⟩
noncomputable abbrev AsK (G:Gd) (n:Nat) (sc:Scope) (cl:List (Str×Addr)) (ts:List Expr) (ds:List MV) (Φ:List (Str×MV)→Mem→Prop):List (Str×MV)→Mem→Prop:=fun ρ' μ'=>WpAs G n ⟨sc,cl,ρ'⟩ μ' ts ds Φ
theorem WpAs.cons {sc:Scope}{cl:List (Str×Addr)}{ρ0:List (Str×MV)}{t:Expr}{ts:List Expr}{d:MV}{ds:List MV} (p:WpA G n ⟨sc,cl,ρ0⟩ μ t d (AsK G n sc cl ts ds Φ))
 (he:∀ env,assignEach (t::ts) env=(false,assign t env)::assignEach ts env:=by intro _; rfl):WpAs G n ⟨sc,cl,ρ0⟩ μ (t::ts) (d::ds) Φ:=fun A fenv h₀ L env s H vs r=>by
 cases r with
 | cons rv rs=>
  rw[he]
  refine assignInOrder_cons (wpAny_mono (p A fenv h₀ L env s H _ rv) (fun _ s₁ q=>?_) fun _ _ f=>f)
  refine q.elim fun mf ρ' μ₁ h₁ tk₁ x₁ c₁ S₁ l₁ r₁ qq=>?_
  obtain⟨rfl,q₁⟩:=qq
  refine wpAny_mono (q₁ A fenv h₀ L env _ (H.extB x₁ c₁ S₁ l₁) _ (rs.ext (x₁.t H.loc.live))) (fun _ s₂ q₂=>q₂.after x₁) fun _ _ f=>f
theorem WpA.tup {es:List Expr}{k:Nat}{p:Pos}{ds:List MV} (q:WpAs G n cx μ es ds Φ) (h1n:1≤n:=by exact Nat.succ_pos _) (hl:∀ env,(assignEach es env).length=ds.length:=by intro _; rfl) (hst:∀ env,(assignEach es env).findIdx? (·.1)=none:=by intro _; rfl):WpA G n cx μ (.Tuple es k p) (.tup ds) Φ:=fun A fenv h₀ L env s H v r=>by
 obtain⟨a,vs,m,rfl,hm,g,r⟩:=r.isTup
 refine wpAny_assign_Tuple (H.amb.hnd h1n) (items:=vs.toArray) ⟨_,g,rfl,m,rfl⟩ (by rw[hl,List.size_toArray,r.length]) (hst env) fun h' hx=>?_
 have x':Ext G μ s.heap μ h':=fun b o hb e=>⟨.inl (hx b o (Nat.ne_of_lt (Heap.lt_size e)) e),hb⟩
 have S:Sim G μ h':=H.inv.sim.keep (fun b o hb e=>hx b o (Nat.ne_of_lt (Heap.lt_size e)) e) x'.t
 refine wpAny_mono (q A fenv h₀ L env _ ⟨H.toHere.ext x' S,H.own⟩ vs (r.ext x'.t)) (fun _ s₂ q₂=>(PostS.after (tk:=s.toks) (x'.b _) q₂)) fun _ _ f=>f
end
theorem ne_rt:(Value.type "range_iterator")≠.type "tuple":=by decide
theorem ne_et:(Value.type "enumerate")≠.type "tuple":=by decide
noncomputable def OwnKept (own:List Addr) (h h':Heap):Prop:=∀ b o,b∉own→h.get? b=some o→h'.get? b=some o
noncomputable def OkT (needT:Bool) (target:Expr):Prop:=(∃ e k p,target=.Tuple e k p)∨(needT=false∧∀ it v,letOwnedTupleGo target it v=pure ())
structure Itr (G:Gd) (A:Around) (I:Addr) (own:List Addr) (St:Nat→Mem→Heap→Prop) (item:Nat→Mem→Option MV→Prop) (needT:Bool):Prop where
 live:∀ k μ h,St k μ h→∀ b∈own,∃ o,h.get? b=some o∧o.cls≠.type "tuple"∧∀ es ep,o.data≠.dict es ep
 frame:∀ k μ h μ' h',St k μ h→(∀ b∈own,∀ o,h.get? b=some o→h'.get? b=some o)→TExt μ h μ' h'→St k μ' h'
 self:∀ k μ (s:Shared) (Q:Value→Shared→Prop) E,St k μ s.heap→Q (.ref I) s→wpAny (model G.prog G.w) A (pyIter (.ref I)) Q E s
 step:∀ k μ r (s:Shared) (target:Expr) (R:Option Value→Shared→Prop) E,OkT needT target→Sim G μ s.heap→(∀ b∈own,μ b=none)→St k μ s.heap→item k μ r→
  (match r with
   | some d=>∀ v h' tk,VR μ h' v d→St (k+1) μ h'→OwnKept own s.heap h'→R (some v) { s with heap:=h',toks:=tk }
   | none=>∀ h' tk,OwnKept own s.heap h'→R none { s with heap:=h',toks:=tk })→
  wpAny (model G.prog G.w) A (pyNext (.ref I)) (fun r s₁=>match r with
   | none=>R none s₁
   | some v=>wpAny (model G.prog G.w) A (letOwnedTupleGo target (.ref I) v) (fun _ s₂=>R (some v) s₂) E s₁) E s
theorem letGo_plain {prog:Program}{w:World}{A:Around}{E:Value→Shared→Prop}{s:Shared}{target:Expr}{I:Addr}{v:Value}{T:String}{o:Obj}{vs:Array Value}{Q:Unit→Shared→Prop}{need:Bool} (ok:OkT need target)
 (ho:s.heap.get? I=some o) (hc:o.cls=.type T) (hd:o.data=.fields vs) (hT:(["enumerate","zip","dict_itemiterator","dict_reverseitemiterator","odict_iterator","itertools.zip_longest","itertools.pairwise"].contains T)=false)
 (hQ:Q () s):wpAny (model prog w) A (letOwnedTupleGo target (.ref I) v) Q E s:=by
 rcases ok with ⟨e,k,p,rfl⟩ | ⟨_,h⟩
 · unfold letOwnedTupleGo
   cases v with
   | ref a=>
    refine wpAny_bind (wpAny_load ho ?_)
    rw[hc,hd]
    show wpAny _ A (if (["enumerate","zip","dict_itemiterator","dict_reverseitemiterator","odict_iterator","itertools.zip_longest","itertools.pairwise"].contains T && vs[0]? == some (rawInt a))=true then _ else _) Q E s
    rw[if_neg (by rw[hT,Bool.false_and]; exact Bool.false_ne_true)]
    exact wpAny_pure hQ
   | _=>exact wpAny_pure hQ
 · rw[h]; exact wpAny_pure hQ
section
variable {G:Gd}{n:Nat}{cx:Cx}{μ μ':Mem}{A:Around}{fenv env:Env}{h₀:List Addr}{h h':Heap}{L:Addr}{s:Shared}
noncomputable def listItem (a:Addr) (k:Nat) (μ:Mem) (r:Option MV):Prop:=∃ ds,μ a=some (.list ds)∧r=ds[k]?
noncomputable def tupItem (ds:List MV) (k:Nat) (μ:Mem) (r:Option MV):Prop:=r=ds[k]?
noncomputable def rangeItem (a b:Int) (k:Nat) (μ:Mem) (r:Option MV):Prop:=r=if a+k<b then some (.int (a+k)) else none
noncomputable def enumItem (a:Addr) (k:Nat) (μ:Mem) (r:Option MV):Prop:=∃ ds,μ a=some (.list ds)∧r=(ds[k]?).map fun d=>.tup [.int k,d]
theorem sameBut_kept {a:Addr} (hs:Heap.SameBut a h h'):OwnKept [a] h h':=fun b o hb e=>(hs.2 b (fun z=>hb (by simp[z]))).trans e
theorem Sim.own (S:Sim G μ h) {own:List Addr} (hu:∀ b∈own,μ b=none) (hl:∀ b∈own,∃ o,h.get? b=some o∧o.cls≠.type "tuple") (k:OwnKept own h h'):Sim G μ h'∧TExt μ h μ h':=by
 have x:TExt μ h μ h':=fun b o hb e ht=>by
  by_cases q:b∈own
  · obtain⟨o',e',hc⟩:=hl b q
    rw[e] at e'; cases e'
    exact absurd ht.1 hc
  · exact⟨k b o q e,hb⟩
 exact⟨S.keep (fun b o hb e=>k b o (fun q=>hb (hu b q)) e) x,x⟩
theorem itr_list (hh:A.handled=none) (a I:Addr):Itr G A I [I] (fun k μ h=>h.IsListIter I a k) (listItem a) false where
 live:=fun k μ h st b hb=>by
  have hb':b=I:=by simpa using hb
  subst hb'
  obtain⟨o,ho,hc,hd⟩:=st
  exact⟨o,ho,by rw[hc]; decide,by rw[hd]; intro _ _ z; cases z⟩
 frame:=fun k μ h μ' h' st hk x=>st.at fun o e=>hk I (by simp) o e
 self:=fun k μ s Q E st hQ=>wpAny_pyIter_listiter st hQ
 step:=fun k μ r s target R E ok S hu st it hR=>by
  obtain⟨ds,e,rfl⟩:=it
  obtain⟨vs,m,g,r⟩:=S a _ e
  have hl:=isList_of g
  have hl':∀ b∈[I],∃ o,s.heap.get? b=some o∧o.cls≠.type "tuple":=fun b hb=>by
   have hb':b=I:=by simpa using hb
   subst hb'
   obtain⟨o,ho,hc,hd⟩:=st
   exact⟨o,ho,by rw[hc]; decide⟩
  cases hk:ds[k]? with
  | none=>
   rw[hk] at hR
   have:vs.toArray[k]?=none:=by
    have:=r.length
    simp only[List.getElem?_toArray]
    rw[List.getElem?_eq_none_iff] at hk ⊢; exact ω3 this hk
   refine wpAny_pyNext_list_end hh st hl this fun h' hx=>hR h' s.toks fun b o hb e=>hx b o (fun z=>hb (by simp[z])) e
  | some d=>
   rw[hk] at hR
   obtain⟨v,hv,rv⟩:=r.get hk
   refine wpAny_pyNext_list_item st hl (by simpa using hv) fun h' st' hs=>?_
   obtain⟨S',x⟩:=S.own hu hl' (sameBut_kept hs)
   obtain⟨o,ho,hc,hd⟩:=id st'
   exact letGo_plain ok ho hc hd (by decide) (hR v h' s.toks (rv.ext x) st' (sameBut_kept hs))
theorem wpAny_pyIter_tupiter {it t:Addr}{i:Nat}{E:Value→Shared→Prop}{prog:Program}{w:World}{Q:Value→Shared→Prop} (hit:s.heap.IsTupleIter it t i) (h:Q (.ref it) s):wpAny (model prog w) A (pyIter (.ref it)) Q E s:=by
 refine wpAny_pyIter_slot hit.typeIs F.slot_tuple_iterator_iter (wpAny_call_entry F.slot_tuple_iterator_iter hit.typeIs F.entry_tuple_iterator_iter ?_ (F.args_tuple_iterator_iter_1 _))
 show wpAny _ _ (ret (.ref it)) _ _ s
 exact wpAny_pure ⟨_,rfl,"tuple_iterator",_,hit.typeIs,F.slot_tuple_iterator_next.lookup,h⟩
theorem itr_tup (hh:A.handled=none) {a I:Addr} (ne:a≠I) {ds:List MV}:Itr G A I [I] (fun k μ h=>h.IsTupleIter I a k∧VR μ h (.ref a) (.tup ds)) (tupItem ds) false where
 live:=fun k μ h st b hb=>by
  have hb':b=I:=by simpa using hb
  subst hb'
  obtain⟨⟨o,ho,hc,hd⟩,_⟩:=st
  exact⟨o,ho,by rw[hc]; decide,by rw[hd]; intro _ _ z; cases z⟩
 frame:=fun k μ h μ' h' st hk x=>⟨let ⟨o,ho,r⟩:=st.1; ⟨o,hk I (by simp) o ho,r⟩,st.2.ext x⟩
 self:=fun k μ s Q E st hQ=>wpAny_pyIter_tupiter st.1 hQ
 step:=fun k μ r s target R E ok S hu st it hR=>by
  obtain⟨st,vr⟩:=st
  obtain⟨a',vs,m,e,hm,g,r⟩:=id vr.isTup
  cases e
  have hl:s.heap.IsTuple a vs.toArray:=⟨_,g,rfl,_,rfl⟩
  have hl':∀ b∈[I],∃ o,s.heap.get? b=some o∧o.cls≠.type "tuple":=fun b hb=>by
   have hb':b=I:=by simpa using hb
   subst hb'
   obtain⟨o,ho,hc,hd⟩:=st
   exact⟨o,ho,by rw[hc]; decide⟩
  unfold tupItem at it
  subst it
  cases hk:ds[k]? with
  | none=>
   rw[hk] at hR
   have:vs.toArray[k]?=none:=by
    have:=r.length
    simp only[List.getElem?_toArray]
    rw[List.getElem?_eq_none_iff] at hk ⊢; exact ω3 this hk
   refine wpAny_pyNext_tuple_end hh st hl this fun h' hx=>hR h' s.toks fun b o hb e=>hx b o (fun z=>hb (by simp[z])) e
  | some d=>
   rw[hk] at hR
   obtain⟨v,hv,rv⟩:=r.get hk
   refine wpAny_pyNext_tuple_item st hl (by simpa using hv) fun h' st' hs=>?_
   obtain⟨S',x⟩:=S.own hu hl' (sameBut_kept hs)
   obtain⟨o,ho,hc,hd⟩:=id st'
   exact letGo_plain ok ho hc hd (by decide) (hR v h' s.toks (rv.ext x) ⟨st',vr.ext x⟩ (sameBut_kept hs))
theorem itr_range (hh:A.handled=none) {a b:Int}{I:Addr}:Itr G A I [I] (fun k μ h=>IsRangeIter h I (a+k) (b-(a+k)) 1) (rangeItem a b) false where
 live:=fun k μ h st b hb=>by
  have hb':b=I:=by simpa using hb
  subst hb'
  exact⟨_,st,ne_rt,by intro _ _ z; cases z⟩
 frame:=fun k μ h μ' h' st hk x=>hk I (by simp) _ st
 self:=fun k μ s Q E st hQ=>by
  have hT:s.TypeIs (.ref I) "range_iterator":=⟨_,st,rfl⟩
  refine wpAny_pyIter_slot hT F.slot_range_iterator_iter (wpAny_call_entry F.slot_range_iterator_iter hT F.entry_range_iterator_iter ?_ (F.args_range_iterator_iter_1 _))
  show wpAny _ _ (ret (.ref I)) _ _ s
  exact wpAny_pure ⟨_,rfl,"range_iterator",_,hT,F.slot_range_iterator_next.lookup,hQ⟩
 step:=fun k μ r s target R E ok S hu st it hR=>by
  have hl':∀ b∈[I],∃ o,s.heap.get? b=some o∧o.cls≠.type "tuple":=fun b hb=>by
   have hb':b=I:=by simpa using hb
   subst hb'
   exact⟨_,st,ne_rt⟩
  unfold rangeItem at it
  subst it
  by_cases hk:a+k<b
  · rw[if_pos hk] at hR
    refine wpAny_pyNext_range_item st (ω4 hk) fun h' st' hs=>?_
    obtain⟨S',x⟩:=S.own hu hl' (sameBut_kept hs)
    have st2:IsRangeIter h' I (a+(k+1:Nat)) (b-(a+(k+1:Nat))) 1:=by
     have e1:a+(k:Int)+1=a+(k+1:Nat):=ω5
     have e2:b-(a+(k:Int))-1=b-(a+(k+1:Nat)):=ω6
     rw[e1,e2] at st'; exact st'
    exact letGo_plain ok st' rfl rfl (by decide) (hR _ h' _ (.int _ _) st2 (sameBut_kept hs))
  · rw[if_neg hk] at hR
    exact wpAny_pyNext_range_end hh st (ω7 hk) fun h' hx=>hR h' s.toks fun b o hb e=>hx b o (fun z=>hb (by simp[z])) e
theorem itr_enum (hh:A.handled=none) {e I a:Addr} (ne:e≠I):Itr G A e [e,I] (fun k μ h=>(∃ old,IsEnum h e I k old)∧h.IsListIter I a k) (enumItem a) true where
 live:=fun k μ h st b hb=>by
  have hb':b=e∨b=I:=by simpa using hb
  rcases hb' with rfl | rfl
  · obtain⟨⟨old,st⟩,_⟩:=st
    exact⟨_,st,ne_et,by intro _ _ z; cases z⟩
  · obtain⟨_,o,ho,hc,hd⟩:=st
    exact⟨o,ho,by rw[hc]; decide,by rw[hd]; intro _ _ z; cases z⟩
 frame:=fun k μ h μ' h' st hk x=>⟨let ⟨old,q⟩:=st.1; ⟨old,hk e (by simp) _ q⟩,st.2.at fun o q=>hk I (by simp) o q⟩
 self:=fun k μ s Q E st hQ=>let ⟨old,q⟩:=st.1; wpAny_pyIter_enum q hQ
 step:=fun k μ r s target R E ok S hu st it hR=>by
  obtain⟨⟨old,st⟩,st2⟩:=st
  have hl':∀ b∈[e,I],∃ o,s.heap.get? b=some o∧o.cls≠.type "tuple":=fun b hb=>by
   have hb':b=e∨b=I:=by simpa using hb
   rcases hb' with rfl | rfl
   · exact⟨_,st,ne_et⟩
   · obtain⟨o,ho,hc,hd⟩:=st2
     exact⟨o,ho,by rw[hc]; decide⟩
  obtain⟨ds,e0,rfl⟩:=it
  obtain⟨vs,m,g,r⟩:=S a _ e0
  have hl:=isList_of g
  cases hk:ds[k]? with
  | none=>
   rw[hk] at hR
   have:vs.toArray[k]?=none:=by
    have:=r.length
    simp only[List.getElem?_toArray]
    rw[List.getElem?_eq_none_iff] at hk ⊢; exact ω3 this hk
   refine wpAny_pyNext_enum_end hh st st2 hl this fun h' hx=>hR h' s.toks fun b o hb e=>hx b o (fun z=>hb (by simp[z])) e
  | some d=>
   rw[hk] at hR
   obtain⟨v,hv,rv⟩:=r.get hk
   refine wpAny_pyNext_enum_item st st2 hl (by simpa using hv) ne fun h' o' st2' gt hz hk'=>?_
   have kept:OwnKept [e,I] s.heap h':=fun b o hb q=>hk' b o (fun z=>hb (by simp[z])) (fun z=>hb (by simp[z])) q
   rcases ok with ⟨es,k',p,rfl⟩ | ⟨z,_⟩
   · refine wpAny_letOwnedTupleGo_enum o' fun h2 o2 hs2=>?_
     have hs3:Heap.SameBut e h' h2:=hs2
     have kept2:OwnKept [e,I] s.heap h2:=fun b o hb q=>(hs3.2 b (fun z=>hb (by simp[z]))).trans (kept b o hb q)
     obtain⟨S2,x⟩:=S.own hu hl' kept2
     have neT:s.heap.objs.size≠e:=Nat.ne_of_gt (Heap.lt_size st)
     refine hR (.ref s.heap.objs.size) h2 (s.toks+1) (VR.tup (n:=0) (vs:=[.int (k:Int) s.toks,v]) S.none_size ((hs3.2 _ neT).trans gt) (.cons (.int _ _) (.cons (rv.ext x) .nil))) ⟨⟨v,?_⟩,?_⟩ kept2
     · exact o2
     · obtain⟨o,ho,hr⟩:=st2'
       exact⟨o,(hs3.2 _ (Ne.symm ne)).trans ho,hr⟩
   · cases z
end
noncomputable def PostI (G:Gd) (A:Around) (μ:Mem) (s:Shared) (Φ:(Nat→Mem→Option MV→Prop)→Bool→Mem→Prop) (it:Value) (s₂:Shared):Prop:=
 ∃ I own St item nt μ' h' tk,it=.ref I∧s₂={ s with heap:=h',toks:=tk }∧Ext G μ s.heap μ' h'∧Sim G μ' h'∧Itr G A I own St item nt∧St 0 μ' h'∧
  (∀ b∈own,(∀ o,s.heap.get? b=some o→μ b≠none)∧μ' b=none)∧Φ item nt μ'
@[elab_as_elim] theorem PostI.elim {G:Gd}{A:Around}{μ:Mem}{s:Shared}{Φ:(Nat→Mem→Option MV→Prop)→Bool→Mem→Prop}{P:Value→Shared→Prop}{it:Value}{s₂:Shared} (p:PostI G A μ s Φ it s₂)
 (k:∀ I own St item nt μ' h' tk,Ext G μ s.heap μ' h'→Sim G μ' h'→Itr G A I own St item nt→St 0 μ' h'→(∀ b∈own,(∀ o,s.heap.get? b=some o→μ b≠none)∧μ' b=none)→Φ item nt μ'→P (.ref I) { s with heap:=h',toks:=tk }):P it s₂:=by
 obtain⟨I,own,St,item,nt,μ',h',tk,rfl,rfl,x,S,W,st,ho,q⟩:=p
 exact k I own St item nt μ' h' tk x S W st ho q
noncomputable def WpIt (G:Gd) (n:Nat) (cx:Cx) (μ:Mem) (iter:Expr) (Φ:(Nat→Mem→Option MV→Prop)→Bool→Mem→Prop):Prop:=
 ∀ A fenv h₀ L env s,Here G n cx μ A fenv h₀ L env s.heap→wpAny (model G.prog G.w) A (eval iter env) (fun x s₁=>wpAny (model G.prog G.w) A (pyIter x) (fun it s₂=>
  PostI G A μ s Φ it s₂) NoE s₁) NoE s
section
variable {G:Gd}{n:Nat}{cx:Cx}{μ μ':Mem}{A:Around}{fenv env:Env}{h₀:List Addr}{h h':Heap}{L:Addr}{s:Shared}{Φ:MF→List (Str×MV)→Mem→Prop}
theorem Ext.fresh (x:Ext G μ h μ' h') {b:Addr} (hb:h'.objs.size≤b):∀ o,h.get? b=some o→μ b≠none:=fun o e z=>let ⟨_,e'⟩:=(x b o z e).1.live; absurd (Heap.lt_size e') (Nat.not_lt.mpr hb)
noncomputable abbrev ItLK (Φ:(Nat→Mem→Option MV→Prop)→Bool→Mem→Prop):MV→Mem→Prop:=fun d μ₁=>∃ a ds,d=.ref a∧μ₁ a=some (.list ds)∧Φ (listItem a) false μ₁
noncomputable abbrev ItTK (Φ:(Nat→Mem→Option MV→Prop)→Bool→Mem→Prop):MV→Mem→Prop:=fun d μ₁=>∃ ds,d=.tup ds∧Φ (tupItem ds) false μ₁
theorem WpIt.list {iter:Expr}{Φ:(Nat→Mem→Option MV→Prop)→Bool→Mem→Prop} (p:WpE G n cx μ iter (ItLK Φ)) (h1n:1≤n:=by exact Nat.succ_pos _):WpIt G n cx μ iter Φ:=fun A fenv h₀ L env s H=>by
 refine wpAny_mono (p A fenv h₀ L env s H) (fun v s₁ q=>?_) fun _ _ f=>f
 refine q.elim fun d μ₁ h₁ tk₁ x₁ S₁ r₁ qq=>?_
 obtain⟨a,ds,rfl,e,q₁⟩:=qq
 rw[r₁.isRef]
 obtain⟨vs,m,g,r⟩:=S₁ a _ e
 refine wpAny_pyIter_list (isList_of g) ?_
 refine⟨h₁.objs.size,_,_,_,_,μ₁,_,tk₁,rfl,rfl,x₁.trans (ext_push S₁ _),S₁.push _,itr_list (H.amb.hnd h1n) a _,⟨_,Heap.get?_push_size _ rfl,rfl,rfl⟩,fun b hb=>?_,q₁⟩
 have hb':b=h₁.objs.size:=by simpa using hb
 subst hb'
 exact⟨x₁.fresh (Nat.le_refl _),S₁.none_size⟩
theorem WpIt.tup {iter:Expr}{Φ:(Nat→Mem→Option MV→Prop)→Bool→Mem→Prop} (p:WpE G n cx μ iter (ItTK Φ)) (h1n:1≤n:=by exact Nat.succ_pos _):WpIt G n cx μ iter Φ:=fun A fenv h₀ L env s H=>by
 refine wpAny_mono (p A fenv h₀ L env s H) (fun v s₁ q=>?_) fun _ _ f=>f
 refine q.elim fun d μ₁ h₁ tk₁ x₁ S₁ r₁ qq=>?_
 obtain⟨ds,rfl,q₁⟩:=qq
 obtain⟨a,vs,m,rfl,hm,g,r⟩:=id r₁.isTup
 refine wpAny_pyIter_tuple (items:=vs.toArray) ⟨_,g,rfl,_,rfl⟩ ?_
 have ne:a≠h₁.objs.size:=Nat.ne_of_lt (Heap.lt_size g)
 refine⟨h₁.objs.size,_,_,_,_,μ₁,_,tk₁,rfl,rfl,x₁.trans (ext_push S₁ _),S₁.push _,itr_tup (H.amb.hnd h1n) ne,⟨⟨_,Heap.get?_push_size _ rfl,rfl,rfl⟩,r₁.ext (ext_push S₁ _).t⟩,fun b hb=>?_,q₁⟩
 have hb':b=h₁.objs.size:=by simpa using hb
 subst hb'
 exact⟨x₁.fresh (Nat.le_refl _),S₁.none_size⟩
noncomputable def Desc (own:List Addr) (St:Nat→Mem→Heap→Prop) (k:Nat) (μ:Mem) (s:Shared) (r:Option MV) (r':Option Value) (s₁:Shared):Prop:=
 ∃ h₂ tk₂,s₁={ s with heap:=h₂,toks:=tk₂ }∧OwnKept own s.heap h₂∧match r,r' with
  | none,none=>True
  | some d,some v=>VR μ h₂ v d∧St (k+1) μ h₂
  | _,_=>False
theorem Itr.step' {I:Addr}{own:List Addr}{St:Nat→Mem→Heap→Prop}{item:Nat→Mem→Option MV→Prop}{nt:Bool} (W:Itr G A I own St item nt) {k:Nat}{μ:Mem}{r:Option MV}{s:Shared}{target:Expr}
 (ok:OkT nt target) (S:Sim G μ s.heap) (hu:∀ b∈own,μ b=none) (st:St k μ s.heap) (hi:item k μ r) :
 wpAny (model G.prog G.w) A (pyNext (.ref I)) (fun r' s₁=>match r' with
  | none=>Desc own St k μ s r none s₁
  | some v=>wpAny (model G.prog G.w) A (letOwnedTupleGo target (.ref I) v) (fun _ s₂=>Desc own St k μ s r (some v) s₂) NoE s₁) NoE s:=by
 refine W.step k μ r s target (Desc own St k μ s r) NoE ok S hu st hi ?_
 cases r with
 | none=>exact fun h' tk hk=>⟨h',tk,rfl,hk,trivial⟩
 | some d=>exact fun v h' tk rv st' hk=>⟨h',tk,rfl,hk,rv,st'⟩
noncomputable abbrev LoopK (I:List (Str×MV)→Mem→Prop) (Φ:MF→List (Str×MV)→Mem→Prop):MF→List (Str×MV)→Mem→Prop:=fun f ρ μ=>match f with
 | .next=>I ρ μ
 | .cont=>I ρ μ
 | .brk=>Φ .next ρ μ
 | .ret d=>Φ (.ret d) ρ μ
noncomputable abbrev TgtK (G:Gd) (n:Nat) (sc:Scope) (cl:List (Str×Addr)) (body:List Stmt) (Φ:MF→List (Str×MV)→Mem→Prop):List (Str×MV)→Mem→Prop:=fun ρ' μ'=>WpS G n ⟨sc,cl,ρ'⟩ μ' body Φ
noncomputable abbrev StepK (G:Gd) (n:Nat) (sc:Scope) (cl:List (Str×Addr)) (target:Expr) (body:List Stmt) (Φ:MF→List (Str×MV)→Mem→Prop) (N:Nat) (I:Nat→List (Str×MV)→Mem→Prop) (k:Nat) (ρ:List (Str×MV)) (μ:Mem) (r:Option MV):Prop:=match r with
 | none=>Φ .next ρ μ
 | some d=>k<N∧WpA G n ⟨sc,cl,ρ⟩ μ target d (TgtK G n sc cl body (LoopK (I (k+1)) Φ))
noncomputable abbrev ForK (G:Gd) (n:Nat) (sc:Scope) (cl:List (Str×Addr)) (ρ0:List (Str×MV)) (target:Expr) (body:List Stmt) (Φ:MF→List (Str×MV)→Mem→Prop):(Nat→Mem→Option MV→Prop)→Bool→Mem→Prop:=fun item nt μ₁=>OkT nt target∧∃(N:Nat) (I:Nat→List (Str×MV)→Mem→Prop),I 0 ρ0 μ₁∧
 ∀ k ρ μ,I k ρ μ→k≤N∧∃ r,item k μ r∧StepK G n sc cl target body Φ N I k ρ μ r
structure Lp (G:Gd) (env:Env) (own:List Addr) (St:Nat→Mem→Heap→Prop) (μ:Mem) (h:Heap) (k:Nat) (ρ:List (Str×MV)) (μ':Mem) (h':Heap):Prop where
 x:ExtB G env.locals μ h μ' h'
 c:μ' env.locals=none
 S:Sim G μ' h'
 l:LocOk env ρ μ' h'
 st:St k μ' h'
 hu:∀ b∈own,μ' b=none
structure LpB (env:Env) (own:List Addr) (μ:Mem) (h:Heap):Prop where
 hc:env.locals∉own
 ho:∀ b∈own,∀ o,h.get? b=some o→μ b≠none
section
variable {I:Addr}{own:List Addr}{St:Nat→Mem→Heap→Prop}{item:Nat→Mem→Option MV→Prop}{nt:Bool}{k:Nat}{ρ ρ₄:List (Str×MV)}{h₂ h₄:Heap}{μ₄:Mem}{r:Option MV}{s₁:Shared}{P:Shared→Prop}
theorem Lp.kept (W:Itr G A I own St item nt) (B:LpB env own μ h) (p:Lp G env own St μ h k ρ μ' h') (hk:OwnKept own h' h₂):ExtB G env.locals μ h μ' h₂∧Sim G μ' h₂∧LocOk env ρ μ' h₂∧TExt μ' h' μ' h₂:=
 have t:=p.S.own p.hu (fun b hb=>let ⟨o,a,c,_⟩:=W.live k μ' h' p.st b hb; ⟨o,a,c⟩) hk
 ⟨fun b o nb hb e=>⟨(p.x b o nb hb e).1.trans fun o' e'=>.inl (hk b o' (fun z=>B.ho b z o e hb) e'),(p.x b o nb hb e).2⟩,t.1,
  p.l.elim fun m q=>⟨m,KeptO.ns (G:=G) q.1 fun o e=>.inl (hk _ o B.hc e),fun y d e=>let ⟨v,h1,h2⟩:=q.2 y d e; ⟨v,h1,h2.ext t.2⟩⟩,t.2⟩
@[elab_as_elim] theorem Lp.stop (W:Itr G A I own St item nt) (B:LpB env own μ h) {tk:Nat} (p:Lp G env own St μ h k ρ μ' h') (q:Desc own St k μ' { s with heap:=h',toks:=tk } r none s₁) (f:r=none→∀ h₂ tk₂,OwnKept own h' h₂→TExt μ' h' μ' h₂→ExtB G env.locals μ h μ' h₂→Sim G μ' h₂→LocOk env ρ μ' h₂→P { s with heap:=h₂,toks:=tk₂ }):P s₁:=by
 obtain⟨h₂,tk₂,rfl,hk,q⟩:=q
 cases r with
 | some d=>exact q.elim
 | none=>exact f rfl h₂ tk₂ hk (p.kept W B hk).2.2.2 (p.kept W B hk).1 (p.kept W B hk).2.1 (p.kept W B hk).2.2.1
@[elab_as_elim] theorem Lp.go (W:Itr G A I own St item nt) (B:LpB env own μ h) {tk:Nat} (p:Lp G env own St μ h k ρ μ' h') {v:Value} (q:Desc own St k μ' { s with heap:=h',toks:=tk } r (some v) s₁) (f:∀ d,r=some d→∀ h₂ tk₂,OwnKept own h' h₂→TExt μ' h' μ' h₂→VR μ' h₂ v d→Lp G env own St μ h (k+1) ρ μ' h₂→P { s with heap:=h₂,toks:=tk₂ }):P s₁:=by
 obtain⟨h₂,tk₂,rfl,hk,q⟩:=q
 cases r with
 | none=>exact q.elim
 | some d=>exact f d rfl h₂ tk₂ hk (p.kept W B hk).2.2.2 q.1 ⟨(p.kept W B hk).1,p.c,(p.kept W B hk).2.1,(p.kept W B hk).2.2.1,q.2,p.hu⟩
theorem Lp.then(W:Itr G A I own St item nt) (B:LpB env own μ h) (p:Lp G env own St μ h k ρ μ' h₂) (x:ExtB G env.locals μ' h₂ μ₄ h₄) (c:μ₄ env.locals=none) (S:Sim G μ₄ h₄) (l:LocOk env ρ₄ μ₄ h₄):Lp G env own St μ h k ρ₄ μ₄ h₄:=
 have own₄:∀ b∈own,∀ o,h₂.get? b=some o→h₄.get? b=some o∧μ₄ b=none:=fun b hb o e=>by
  obtain⟨e1,e2⟩:=x b o (fun z=>B.hc (z▸hb)) (p.hu b hb) e
  obtain⟨o',ho',_,hd'⟩:=W.live k μ' h₂ p.st b hb
  cases e.symm.trans ho'
  exact⟨e1.seq hd',e2⟩
 ⟨p.x.trans x,c,S,l,W.frame k μ' h₂ μ₄ h₄ p.st (fun b hb o e=>(own₄ b hb o e).1) (x.t p.l.live),fun b hb=>let ⟨o,e,_⟩:=W.live k μ' h₂ p.st b hb; (own₄ b hb o e).2⟩
theorem ExtB.full {c:Addr} (x:ExtB G c μ h μ' h') (f:∀ o,h.get? c=some o→μ c≠none):Ext G μ h μ' h':=fun b o hb e=>x b o (fun z=>f o (z▸e) (z▸hb)) hb e
theorem Lp.write {D:Addr} (W:Itr G A I own St item nt) (p:Lp G env own St μ h k ρ μ' h₂) (nD:D∉own) (fD:∀ o,h.get? D=some o→μ D≠none) (ne:env.locals≠D) (mD:μ' D=none) (hs:Heap.SameBut D h₂ h₄) (t:TExt μ' h₂ μ' h₄):Lp G env own St μ h k ρ μ' h₄:=
 ⟨fun b o nb hb e=>⟨(p.x b o nb hb e).1.trans fun o' e'=>.inl ((hs.2 b (fun z=>fD o (z▸e) (z▸hb))).trans e'),(p.x b o nb hb e).2⟩,p.c,
  p.S.keep (fun b o hb e=>(hs.2 b (fun z=>hb (z▸mD))).trans e) t,
  p.l.elim fun m q=>⟨m,KeptO.ns (G:=G) q.1 fun o e=>.inl ((hs.2 _ ne).trans e),fun y d e=>let ⟨v,h1,h2⟩:=q.2 y d e; ⟨v,h1,h2.ext t⟩⟩,
  W.frame k μ' h₂ μ' h₄ p.st (fun b hb o e=>(hs.2 b (fun z=>nD (z▸hb))).trans e) t,p.hu⟩
end
noncomputable def ForI (G:Gd) (env:Env) (own:List Addr) (St:Nat→Mem→Heap→Prop) (μ:Mem) (s:Shared) (N:Nat) (J:Nat→List (Str×MV)→Mem→Prop) (m:Nat) (s':Shared):Prop:=
 ∃ k ρ' μ' h' tk,m=N+1-k∧s'={ s with heap:=h',toks:=tk }∧Lp G env own St μ s.heap k ρ' μ' h'∧J k ρ' μ'
@[elab_as_elim] theorem ForI.elim {own:List Addr}{St:Nat→Mem→Heap→Prop}{N m:Nat}{J:Nat→List (Str×MV)→Mem→Prop}{s':Shared}{P:Nat→Shared→Prop} (i:ForI G env own St μ s N J m s') (f:∀ k ρ' μ' h' tk,Lp G env own St μ s.heap k ρ' μ' h'→J k ρ' μ'→P (N+1-k) { s with heap:=h',toks:=tk }):P m s':=by
 obtain⟨k,ρ',μ',h',tk,rfl,rfl,p,j⟩:=i
 exact f k ρ' μ' h' tk p j
theorem ForI.next {own:List Addr}{St:Nat→Mem→Heap→Prop}{N k tk:Nat}{J:Nat→List (Str×MV)→Mem→Prop}{ρ:List (Str×MV)} (hk:k<N) (p:Lp G env own St μ s.heap (k+1) ρ μ' h') (j:J (k+1) ρ μ'):∃ m,m<N+1-k∧ForI G env own St μ s N J m { s with heap:=h',toks:=tk }:=
 ⟨N+1-(k+1),ω8 hk,k+1,ρ,μ',h',tk,rfl,rfl,p,j⟩
noncomputable def nK (prog:Program) (w:World) (A:Around) (target:Expr) (it:Value) (env:Env) (R:Result→Shared→Prop) (K:Unit→Shared→Prop) (r:Option Value) (s:Shared):Prop:=match r with
 | none=>R (.ok .next) s
 | some v=>wpAny (model prog w) A (letOwnedTupleGo target it v) (fun _ s=>wpAny (model prog w) A (PySem.assign target env v) K NoE s) NoE s
noncomputable def Lt (I:Nat→Shared→Prop) (n:Nat) (s:Shared):Prop:=∃ m,m<n∧I m s
noncomputable def fK2 (R:Result→Shared→Prop) (I:Nat→Shared→Prop) (n:Nat) (f:Flow) (s:Shared):Prop:=match f with
 | .next | .cont=>Lt I n s
 | .brk=>R (.ok .next) s
 | .ret v=>R (.ok (.ret v)) s
noncomputable def fK1 (prog:Program) (w:World) (A:Around) (body:List Stmt) (env:Env) (R:Result→Shared→Prop) (I:Nat→Shared→Prop) (n:Nat) (_:Unit) (s:Shared):Prop:=wpAny (model prog w) A (execs body env) (fK2 R I n) NoE s
theorem forLoop_my {prog:Program}{w:World}{R:Result→Shared→Prop}{target:Expr}{body:List Stmt}{it:Value}{env:Env} (I:Nat→Shared→Prop) (turn:∀ n s,I n s→wpAny (model prog w) A (pyNext it) (nK prog w A target it env R (fK1 prog w A body env R I n)) NoE s) (n:Nat) (h:I n s) :
 codeAny (model prog w) A (.forLoop target it body [] env) R s:=by
 refine codeAny_forLoop_any I (fun n s i=>wpAny_mono (turn n s i) (fun r s₁ q=>?_) fun _ _ f=>f.elim) n h
 cases r with
 | none=>exact wpAny_execs_nil q
 | some v=>exact wpAny_mono q (fun _ s₁ q=>wpAny_mono q (fun _ s₂ q=>wpAny_mono q (fun f s₃ q=>by cases f <;> exact q) fun _ _ f=>f.elim) fun _ _ f=>f.elim) fun _ _ f=>f.elim
theorem WpS1.for_ {sc:Scope}{cl:List (Str×Addr)}{ρ0:List (Str×MV)}{target iter:Expr}{body:List Stmt}{pos:Pos} (p:WpIt G n ⟨sc,cl,ρ0⟩ μ iter (ForK G n sc cl ρ0 target body Φ))
 (hs:∀ env x,foldedSetIterable iter env x=pure x:=by intro _ _; rfl):WpS1 G n ⟨sc,cl,ρ0⟩ μ (.For target iter body [] pos) Φ:=fun A h₀ env s H=>by
 refine wpAny_For (wpAny_mono (p A env h₀ _ env s H.here) (fun v s₁ q=>wpAny_mono q (fun it s₂ q=>?_) fun _ _ f=>f) fun _ _ f=>f.elim) (hs env)
 refine q.elim fun I own St item nt μ₁ h₁ tk₁ x₁ S₁ W st₁ ho qq=>?_
 refine ex2_2 qq.2 fun N J j0 hstep=>?_
 have B:LpB env own μ s.heap:=⟨fun z=>let ⟨m,q⟩:=H.loc.live; let ⟨o,_,_,ho',_⟩:=q; (ho _ z).1 o ho' H.inv.curr,fun b hb=>(ho b hb).1⟩
 refine forLoop_my (ForI G env own St μ s N J) (fun m s' i=>?_) (N+1) ⟨0,ρ0,μ₁,h₁,tk₁,rfl,rfl,⟨x₁.b _,(H.ext x₁ S₁).inv.curr,S₁,(H.ext x₁ S₁).loc,st₁,fun b hb=>(ho b hb).2⟩,j0⟩
 refine i.elim fun k ρ' μ' h' tk p jk=>?_
 refine ex1_2 (hstep k ρ' μ' jk).2 fun r hi hr=>?_
 refine wpAny_mono (W.step' (s:={ s with heap:=h',toks:=tk }) qq.1 p.S p.hu p.st hi) (fun r' s₁ q=>?_) fun _ _ f=>f
 cases r' with
 | none=>
  refine p.stop W B q fun e h₂ tk₂ _ _ x₂ S₂ l₂=>?_
  cases e
  exact⟨.next,ρ',μ',h₂,tk₂,rfl,x₂,p.c,S₂,l₂,.next,hr⟩
 | some v=>
  refine wpAny_mono q (fun _ s₁ q=>?_) fun _ _ f=>f
  refine p.go W B q fun d e h₂ tk₂ _ _ rv p₂=>?_
  cases e
  have H₂:HereS G n ⟨sc,cl,ρ'⟩ μ' A h₀ env h₂:=H.extB p₂.x p₂.c p₂.S p₂.l
  refine wpAny_mono (hr.2 A env h₀ _ env { s with heap:=h₂,toks:=tk₂ } H₂.hereT v rv) (fun _ s₃ q₃=>?_) fun _ _ f=>f
  refine q₃.elim fun mf ρ₃ μ₃ h₃ tk₃ x₃ c₃ S₃ l₃ r₃ qq=>?_
  cases qq.1
  refine wpAny_mono (qq.2 A h₀ env { s with heap:=h₃,toks:=tk₃ } (H₂.extB x₃ c₃ S₃ l₃)) (fun f s₄ q₄=>?_) fun _ _ f=>f
  refine q₄.elim fun mf ρ₄ μ₄ h₄ tk₄ x₄ c₄ S₄ l₄ r₄ q₄=>?_
  have p₄:=p₂.then W B (x₃.trans x₄) c₄ S₄ l₄
  cases r₄ with
  | next=>exact ForI.next hr.1 p₄ q₄
  | cont=>exact ForI.next hr.1 p₄ q₄
  | brk=>exact⟨.next,ρ₄,μ₄,h₄,tk₄,rfl,p₄.x,c₄,S₄,l₄,.next,q₄⟩
  | ret r=>exact⟨.ret _,ρ₄,μ₄,h₄,tk₄,rfl,p₄.x,c₄,S₄,l₄,.ret r,q₄⟩
noncomputable abbrev LessK (I:Nat→List (Str×MV)→Mem→Prop) (k:Nat):List (Str×MV)→Mem→Prop:=fun ρ μ=>∃ k',k'<k∧I k' ρ μ
noncomputable abbrev WhlK (G:Gd) (n:Nat) (sc:Scope) (cl:List (Str×Addr)) (ρ:List (Str×MV)) (body:List Stmt) (Φ:MF→List (Str×MV)→Mem→Prop) (I:Nat→List (Str×MV)→Mem→Prop) (k:Nat):Bool→Mem→Prop:=fun b μ'=>if b then WpS G n ⟨sc,cl,ρ⟩ μ' body (LoopK (LessK I k) Φ) else Φ .next ρ μ'
noncomputable def WhlI (G:Gd) (env:Env) (μ:Mem) (s:Shared) (I:Nat→List (Str×MV)→Mem→Prop) (m:Nat) (s':Shared):Prop:=
 ∃ ρ' μ' h' tk,s'={ s with heap:=h',toks:=tk }∧ExtB G env.locals μ s.heap μ' h'∧μ' env.locals=none∧Sim G μ' h'∧LocOk env ρ' μ' h'∧I m ρ' μ'
@[elab_as_elim] theorem WhlI.elim {I:Nat→List (Str×MV)→Mem→Prop}{m:Nat}{s':Shared}{P:Shared→Prop} (i:WhlI G env μ s I m s') (f:∀ ρ' μ' h' tk,ExtB G env.locals μ s.heap μ' h'→μ' env.locals=none→Sim G μ' h'→LocOk env ρ' μ' h'→I m ρ' μ'→P { s with heap:=h',toks:=tk }):P s':=by
 obtain⟨ρ',μ',h',tk,rfl,x,c,S,l,j⟩:=i
 exact f ρ' μ' h' tk x c S l j
theorem WhlI.next {I:Nat→List (Str×MV)→Mem→Prop}{m tk:Nat}{ρ:List (Str×MV)} (x:ExtB G env.locals μ s.heap μ' h') (c:μ' env.locals=none) (S:Sim G μ' h') (l:LocOk env ρ μ' h') (q:LessK I m ρ μ'):∃ k,k<m∧WhlI G env μ s I k { s with heap:=h',toks:=tk }:=
 ex1_2 q fun k' hk' j=>⟨k',hk',ρ,μ',h',tk,rfl,x,c,S,l,j⟩
theorem WpS1.while_ {sc:Scope}{cl:List (Str×Addr)}{ρ0:List (Str×MV)}{test:Expr}{body:List Stmt}{pos:Pos} (I:Nat→List (Str×MV)→Mem→Prop) (N:Nat) (h0:I N ρ0 μ)
 (hstep:∀ k ρ μ,I k ρ μ→WpT G n ⟨sc,cl,ρ⟩ μ test (WhlK G n sc cl ρ body Φ I k)):WpS1 G n ⟨sc,cl,ρ0⟩ μ (.While test body [] pos) Φ:=fun A h₀ env s H=>by
 refine wpAny_While (codeAny_whileLoop (WhlI G env μ s I) (fun m s' i=>?_) N ⟨ρ0,μ,s.heap,s.toks,rfl,(Ext.refl _ _).b _,H.inv.curr,H.inv.sim,H.loc,h0⟩)
 refine i.elim fun ρ' μ' h' tk x' c' S' l' jk=>?_
 have H':HereS G n ⟨sc,cl,ρ'⟩ μ' A h₀ env h':=H.extB x' c' S' l'
 refine wpAny_mono (hstep m ρ' μ' jk A env h₀ _ env { s with heap:=h',toks:=tk } H'.here) (fun b s₂ q₂=>?_) fun _ _ f=>f.elim
 refine q₂.elim fun μ₂ h₂ tk₂ x₂ S₂ q₂=>?_
 have H₂:=H'.ext x₂ S₂
 cases b with
 | false=>exact wpAny_execs_nil ⟨.next,ρ',μ₂,h₂,tk₂,rfl,x'.trans (x₂.b _),H₂.inv.curr,S₂,H₂.loc,.next,q₂⟩
 | true=>
  refine wpAny_mono ((show WpS _ _ _ _ _ _ from q₂) A h₀ env { s with heap:=h₂,toks:=tk₂ } H₂) (fun f s₄ q₄=>?_) fun _ _ f=>f.elim
  refine q₄.elim fun mf ρ₄ μ₄ h₄ tk₄ x₄ c₄ S₄ l₄ r₄ q₄=>?_
  have xx:=(x'.trans (x₂.b _)).trans x₄
  cases r₄ with
  | next=>exact WhlI.next xx c₄ S₄ l₄ q₄
  | cont=>exact WhlI.next xx c₄ S₄ l₄ q₄
  | brk=>exact⟨.next,ρ₄,μ₄,h₄,tk₄,rfl,xx,c₄,S₄,l₄,.next,q₄⟩
  | ret r=>exact⟨.ret _,ρ₄,μ₄,h₄,tk₄,rfl,xx,c₄,S₄,l₄,.ret r,q₄⟩
end
section
variable {G:Gd}{n:Nat}{cx:Cx}{μ μ':Mem}{A:Around}{fenv env:Env}{h₀:List Addr}{h h':Heap}{L:Addr}{s:Shared}{Φ:MV→Mem→Prop}
theorem PR.lookup {vs:List (Str×Value)}{ds:List (Str×MV)} (r:PR μ h vs ds) {x:Str}{d:MV} (e:ds.lookup x=some d):∃ v,vs.lookup x=some v∧VR μ h v d:=by
 induction r with
 | nil=>cases e
 | cons a r ih=>
  rename_i k v d' vs ds
  rw[List.lookup_cons] at e ⊢
  cases q:x == k with
  | true=>rw[q] at e; cases e; exact⟨v,rfl,a⟩
  | false=>rw[q] at e; exact ih e
theorem PR.app {κ:Type}{vs ws:List (κ×Value)}{ds es:List (κ×MV)} (r:PR μ h vs ds) (k:PR μ h ws es):PR μ h (vs++ws) (ds++es):=by
 induction r with
 | nil=>exact k
 | cons a r ih=>exact .cons a ih
theorem PR.reverse {κ:Type}{vs:List (κ×Value)}{ds:List (κ×MV)} (r:PR μ h vs ds):PR μ h vs.reverse ds.reverse:=by
 induction r with
 | nil=>exact .nil
 | cons a r ih=>rw[List.reverse_cons,List.reverse_cons]; exact ih.app (.cons a .nil)
noncomputable def RetR (G:Gd) (μ:Mem) (s:Shared) (Φ:MV→Mem→Prop) (r:Result) (s':Shared):Prop:=match r with
 | .ok (.ret v)=>PostE G μ s Φ v s'
 | .ok _=>False
 | .error e=>NoE e s'
noncomputable def WpC (G:Gd) (n:Nat) (μ:Mem) (f:Addr) (args:List MV) (Φ:MV→Mem→Prop):Prop:=
 ∀ A fenv h₀ L s,Amb G A fenv h₀ L n→Inv G h₀ L μ s.heap→∀ vs,VRs μ s.heap vs args→codeAny (model G.prog G.w) A (.call (.ref f) ⟨vs,[]⟩) (RetR G μ s Φ) s
theorem WpC.os {f:Addr}{args:List MV} (p:WpC G n μ f args Φ):WpOs G n μ args (fun vs=>call (.ref f) vs) Φ:=fun A fenv h₀ L s am i vs rs=>
 wpAny_call (codeAny_mono (p A fenv h₀ L s am i vs rs) fun r s' q=>by
  rcases r with e | (_ | _ | _ | v) <;> exact q)
theorem stack_cons {outer:List Env} (hout:∀ env∈outer,env.scope.kind≠.module∧∃ b∈h₀,env.frame=some b) (hk:fenv.scope.kind=.function) (hf:fenv.frame=some L):∀ env∈fenv::outer,env.scope.kind≠.module∧∃ b∈L::h₀,env.frame=some b:=fun env he=>by
 rcases List.mem_cons.mp he with rfl | he
 · exact⟨by rw[hk]; decide,L,List.mem_cons_self,hf⟩
 · obtain⟨h1,b,hb,h2⟩:=hout env he
   exact⟨h1,b,List.mem_cons_of_mem _ hb,h2⟩
theorem ground_size {m:Str→Option Value} (F:Fr G.base L h m):G.base.objs.size≤h.objs.size:=by
 refine ex3_2 (F.ns) fun o _ _ ho _=>?_
 exact Nat.le_trans F.above (Nat.le_of_lt (Heap.lt_size ho))
theorem callee_fs {L':Addr} (i:Inv G h₀ L μ h) (x:Ext G μ h μ' h') (hL:h.objs.size≤L'):∀ b∈L::h₀,μ' b=none∧b≠L'∧G.base.get? b=none∧∃ m,h'.Ns b m:=fun b hb=>by
 have key:∀{b:Addr}{m:Str→Option Value},μ b=none→h.Ns b m→μ' b=none∧b≠L'∧h'.Ns b m:=fun {b m} hm hn=>by
  refine ex3_2 (id hn) fun o _ _ ho _=>?_
  exact⟨(x b o hm ho).2,Nat.ne_of_lt (Nat.lt_of_lt_of_le (Heap.lt_size ho) hL),KeptO.ns hn fun o ho=>(x b o hm ho).1⟩
 rcases List.mem_cons.mp hb with rfl | hb
 · refine ex1_1 (i.fr) fun m F=>?_
   refine and3 (key i.curr F.ns) fun h1 h2 h3=>?_
   exact⟨h1,h2,Heap.get?_none_of_le F.above,m,h3⟩
 · obtain⟨h1,_,h3,m,h4⟩:=i.fs b hb
   refine and3 (key h1 h4) fun k1 k2 k3=>?_
   exact⟨k1,k2,h3,m,k3⟩
noncomputable def ret?:MF→MV
 | .ret d=>d
 | _=>.none
noncomputable abbrev BodyK (Φ:MV→Mem→Prop):MF→List (Str×MV)→Mem→Prop:=fun f _ μ'=>Φ (ret? f) μ'
theorem call_plain {f:Addr}{name qual:Str}{params:Arguments}{body:List Stmt}{scope:Scope}{dV kV doc pm cdv ct oc:Value}{an od:Option Addr}{osl:Array (Option Value)}{args:List MV}{ρ0:List (Str×MV)}
 (ho:G.K.lookup f=some ⟨oc,od,.func (fnX name qual params body scope [] dV kV doc pm an cdv ct),osl⟩) (hcd:codeIn G.K cdv qual=true)
 (hb:∀ s vs,G.K.In s.heap→VRs μ s.heap vs args→∃ binds,BindsTo s (fnX name qual params body scope [] dV kV doc pm an cdv ct) ⟨vs,[]⟩ binds∧PR μ s.heap binds ρ0)
 (hloc:∀ y∈ρ0,scope.names.lookup y.1=some .local) (hcell:∀ x∈scope.names,x.2≠.cell)
 (p:WpS G n ⟨scope,[],ρ0.reverse⟩ μ body (BodyK Φ))
 (hco:scope.isCoroutine=false:=by rfl) (hgen:scope.isGenerator=false:=by rfl) (hk:scope.kind=.function:=by rfl):WpC G (n+1) μ f args Φ:=fun A fenv h₀ L s am i vs rs=>by
 refine ex1_2 (am.bel) fun outer hA hout=>?_
 refine ex1_1 (i.fr) fun m F=>?_
 refine ex3_1 (am.top) fun mean mg mb T=>?_
 have X:G.K.In s.heap:=am.kin.keeps F.keep
 refine ex1_2 (hb s vs X rs) fun binds hbind pr=>?_
 refine(codeAny_call_def (R:=RetR G μ s Φ) (fd:=fnX name qual params body scope [] dV kV doc pm an cdv ct) (body:=body) (binds:=binds) (by have:=am.dep; exact ω9 this) (X _ _ ho) rfl (T.nolimit.keeps F.keep) (codeRec_of X hcd) rfl hbind hcell (fun y hy=>?_) (fun h₁ hns hk₁=>?_) hco hgen hk)
 · have:=List.mem_map_of_mem (f:=(·.1)) hy
   rw[pr.keys] at this
   refine ex1_2 (List.mem_map.mp this) fun z hz e=>?_
   rw[← e]; exact hloc z hz
 have x₁:Ext G μ s.heap μ h₁:=fun b o hb e=>⟨.inl (hk₁ b o e),hb⟩
 have iv₁:=i.ext x₁ (i.sim.keep (fun b o _ e=>hk₁ b o e) x₁.t)
 have S₁:Sim G μ h₁:=i.sim.keep (fun b o _ e=>hk₁ b o e) x₁.t
 have H:HereS G n ⟨scope,[],ρ0.reverse⟩ μ (A.deeper (callEnv (fnX name qual params body scope [] dV kV doc pm an cdv ct) s.heap.objs.size f)) (L::h₀) (callEnv (fnX name qual params body scope [] dV kV doc pm an cdv ct) s.heap.objs.size f) h₁:=by
  refine⟨⟨⟨fenv::outer,by show A.frames.map _ = _; rw[hA]; rfl,stack_cons hout am.fk am.frm⟩,rfl,hk,am.kin,am.top,fun _=>am.hnd ω10,?_,?_,am.grd⟩,⟨rfl,rfl,rfl,rfl,hk⟩,⟨⟨_,hns,fun b o e=>hk₁ b o (F.keep b o e),ground_size F⟩,fun a ha=>⟨(i.off a ha).1,fun z=>?_⟩,callee_fs i x₁ (Nat.le_refl _),S₁⟩,⟨_,hns,fun x d e=>?_⟩⟩
  · have:=am.dep; show A.depth+1+n<_; exact ω11 this
  · have:=am.uns; show A.units+3+40*n<_; exact ω12 this
  · rw[show a=s.heap.objs.size from z] at ha; exact ha i.sim.none_size
  · refine ex1_2 (pr.reverse.lookup e) fun v h1 h2=>?_
    exact⟨v,h1,h2.ext x₁.t⟩
 refine wpAny_mono (p _ _ _ { s with heap:=h₁,toks:=s.toks+binds.length } H) (fun fl s' q=>?_) fun _ _ f=>f.elim
 refine q.elim fun mf ρ' μ' h' tk x' c' S' l' r' q=>?_
 have x2:Ext G μ s.heap μ' h':=fun b o hb e=>x' b o (Nat.ne_of_lt (Heap.lt_size e)) hb (hk₁ b o e)
 cases r' with
 | next=>exact⟨_,μ',h',tk,rfl,x2,S',.none,q⟩
 | brk=>exact⟨_,μ',h',tk,rfl,x2,S',.none,q⟩
 | cont=>exact⟨_,μ',h',tk,rfl,x2,S',.none,q⟩
 | ret r=>exact⟨_,μ',h',tk,rfl,x2,S',r,q⟩
noncomputable def putCells (μ:Mem) (cm:Str→Option MV):List (Str×Addr)→Mem
 | []=>μ
 | (x,c)::r=>upd (putCells μ cm r) c (.cell (cm x))
theorem putCells_of {cm:Str→Option MV}{a:Addr}{mo:MO}:∀{cl:List (Str×Addr)},putCells μ cm cl a=some mo→(∃ x,(x,a)∈cl∧mo=.cell (cm x))∨μ a=some mo
 | [],e=>.inr e
 | (x,c)::r,e=>by
  unfold putCells at e
  by_cases q:a=c
  · subst q; rw[upd_same] at e; cases e; exact .inl ⟨x,List.mem_cons_self,rfl⟩
  · rw[upd_ne _ _ q] at e
    rcases putCells_of e with ⟨y,hy,h⟩ | h
    · exact .inl ⟨y,List.mem_cons_of_mem _ hy,h⟩
    · exact .inr h
theorem putCells_none {cm:Str→Option MV}{a:Addr} (hm:μ a=none):∀{cl:List (Str×Addr)},(∀ x,(x,a)∉cl)→putCells μ cm cl a=none
 | [],_=>hm
 | (x,c)::r,h=>by
  unfold putCells
  rw[upd_ne _ _ (fun q=>h x (by rw[q]; exact List.mem_cons_self))]
  exact putCells_none hm fun y hy=>h y (List.mem_cons_of_mem _ hy)
theorem bindL_at (kindOf:Str→Option NameKind) {y:Str} (hy:kindOf y=some .local):∀(binds:List (Str×Value)) (m:Str→Option Value) (v:Value),binds.reverse.lookup y=some v→bindL kindOf binds m y=some v:=by
 have gen:∀(binds:List (Str×Value)) (m:Str→Option Value),bindL kindOf binds m y=(binds.reverse.lookup y).or (m y):=by
  intro binds
  induction binds with
  | nil=>intro m; rfl
  | cons b r ih=>
   intro m
   obtain⟨n,v⟩:=b
   unfold bindL
   rw[ih,List.reverse_cons,List.lookup_append]
   cases q:r.reverse.lookup y with
   | some v'=>rfl
   | none=>
    by_cases e:y=n
    · subst e; rw[if_pos hy]; simp
    · have:(y == n)=false:=beq_eq_false_iff_ne.mpr e
      by_cases k:kindOf n=some .local
      · rw[if_pos k]; simp[List.lookup_cons,this,e]
      · rw[if_neg k]; simp[List.lookup_cons,this]
 intro binds m v e
 rw[gen,e]; rfl
theorem bindC_at (kindOf:Str→Option NameKind) {y:Str} (hy:kindOf y≠some .local):∀(binds:List (Str×Value)),bindC kindOf binds (fun _=>none) y=binds.reverse.lookup y:=by
 have gen:∀(binds:List (Str×Value)) (m:Str→Option Value),bindC kindOf binds m y=(binds.reverse.lookup y).or (m y):=by
  intro binds
  induction binds with
  | nil=>intro m; rfl
  | cons b r ih=>
   intro m
   obtain⟨n,v⟩:=b
   unfold bindC
   rw[ih,List.reverse_cons,List.lookup_append]
   cases q:r.reverse.lookup y with
   | some v'=>rfl
   | none=>
    by_cases e:y=n
    · subst e; rw[if_neg hy]; simp
    · have:(y == n)=false:=beq_eq_false_iff_ne.mpr e
      by_cases k:kindOf n=some .local
      · rw[if_pos k]; simp[List.lookup_cons,this]
      · rw[if_neg k]; simp[List.lookup_cons,this,e]
 intro binds
 rw[gen]; simp
theorem PR.lookup_none {vs:List (Str×Value)}{ds:List (Str×MV)} (r:PR μ h vs ds) {x:Str} (e:ds.lookup x=none):vs.lookup x=none:=by
 induction r with
 | nil=>rfl
 | cons a r ih=>
  rename_i k v d' vs ds
  rw[List.lookup_cons] at e ⊢
  cases q:x == k with
  | true=>rw[q] at e; cases e
  | false=>rw[q] at e; exact ih e
theorem mem_fst_lookup {κ β:Type} [BEq κ] [LawfulBEq κ] {x:κ}:∀{l:List (κ×β)},x∈l.map (·.1)→(l.lookup x).isSome=true
 | [],h=>by simp at h
 | (k,b)::r,h=>by
  rw[List.lookup_cons]
  cases q:x == k with
  | true=>rfl
  | false=>
   rcases List.mem_cons.mp h with e | h
   · rw[e,beq_self_eq_true] at q; cases q
   · exact mem_fst_lookup h
theorem lookup_mem_fst {β:Type}{y:Str}{d:β}:∀{ρ:List (Str×β)},ρ.lookup y=some d→y∈ρ.map (·.1)
 | [],e=>by cases e
 | (k,b)::r,e=>by
  rw[List.lookup_cons] at e
  cases q:y == k with
  | true=>exact List.mem_cons.mpr (.inl (beq_iff_eq.mp q))
  | false=>rw[q] at e; exact List.mem_cons_of_mem _ (lookup_mem_fst e)
theorem call_cells {f:Addr}{name qual:Str}{params:Arguments}{body:List Stmt}{scope:Scope}{dV kV doc pm cdv ct oc:Value}{an od:Option Addr}{osl:Array (Option Value)}{args:List MV}{ρ0:List (Str×MV)} (ρ:List (Str×MV)) (cm:Str→Option MV)
 (ho:G.K.lookup f=some ⟨oc,od,.func (fnX name qual params body scope [] dV kV doc pm an cdv ct),osl⟩) (hcd:codeIn G.K cdv qual=true)
 (hb:∀ s vs,G.K.In s.heap→VRs μ s.heap vs args→∃ binds,BindsTo s (fnX name qual params body scope [] dV kV doc pm an cdv ct) ⟨vs,[]⟩ binds∧PR μ s.heap binds ρ0)
 (hkind:∀ x∈ρ0,scope.names.lookup x.1=some .local∨(scope.names.lookup x.1=some .cell∧x.1∈(cellsFrom 0 scope.names []).map (·.1)))
 (hnd:((cellsFrom 0 scope.names []).map (·.1)).Nodup) (hcl:∀ y∈(cellsFrom 0 scope.names []).map (·.1),scope.names.lookup y=some .cell∧cm y=ρ0.reverse.lookup y)
 (hρ:∀ y∈ρ,scope.names.lookup y.1=some .local) (hρ2:∀ y d,ρ.lookup y=some d→ρ0.reverse.lookup y=some d)
 (p:∀ L',(∀ a,L'≤a→μ a=none)→WpS G n ⟨scope,cellsFrom (L'+1) scope.names [],ρ⟩ (putCells μ cm (cellsFrom (L'+1) scope.names [])) body (BodyK Φ))
 (hco:scope.isCoroutine=false:=by rfl) (hgen:scope.isGenerator=false:=by rfl) (hk:scope.kind=.function:=by rfl):WpC G (n+1) μ f args Φ:=fun A fenv h₀ L s am i vs rs=>by
 refine ex1_2 (am.bel) fun outer hA hout=>?_
 refine ex1_1 (i.fr) fun m F=>?_
 refine ex3_1 (am.top) fun mean mg mb T=>?_
 have X:G.K.In s.heap:=am.kin.keeps F.keep
 refine ex1_2 (hb s vs X rs) fun binds hbind pr=>?_
 have names:∀ n,(cellsFrom n scope.names []).map (·.1)=(cellsFrom 0 scope.names []).map (·.1):=fun n=>(cellsFrom_names scope.names 0 n [] [] rfl).symm
 refine(codeAny_call_function (R:=RetR G μ s Φ) (by have:=am.dep; exact ω9 this) (X _ _ ho) rfl hco hgen rfl (codeRec_of X hcd) (hbind _ _ _ _ ?_))
 refine wpAny_newFunctionEnv_cells hk (fun y hy=>?_) fun env' he s' x=>?_
 · have:=List.mem_map_of_mem (f:=(·.1)) hy
   rw[pr.keys] at this
   refine ex1_2 (List.mem_map.mp this) fun z hz e=>?_
   rw[← e]
   rcases hkind z hz with h | ⟨h1,h2⟩
   · exact .inl h
   · exact .inr ⟨h1,mem_fst_lookup (by rw[names]; exact h2)⟩
 subst he
 refine⟨(T.nolimit.keeps F.keep).keeps x.toInCall.keep,codeAny_func ?_⟩
 refine ex2_2 (x.done) fun h₁ tk zr2 _=>?_
 obtain rfl:=zr2
 have hk₁:∀ b o,s.heap.get? b=some o→h₁.get? b=some o:=x.toInCall.keep
 have hcl':∀ y c,(y,c)∈cellsFrom (s.heap.objs.size+1) scope.names []→s.heap.objs.size<c∧scope.names.lookup y=some .cell∧cm y=ρ0.reverse.lookup y∧h₁.IsCell c (bindC (fun y=>scope.names.lookup y) binds (fun _=>none) y):=fun y c hm=>by
  have:=List.mem_map_of_mem (f:=(·.1)) hm
  rw[names] at this
  exact⟨x.above y c hm,(hcl y this).1,(hcl y this).2,x.cell y c (lookup_of_mem_nodup (by show((cellsFrom (s.heap.objs.size+1) scope.names []).map (·.1)).Nodup; rw[names]; exact hnd) hm)⟩
 have old:∀ b o,s.heap.get? b=some o→∀ y,(y,b)∉cellsFrom (s.heap.objs.size+1) scope.names []:=fun b o e y hm=>absurd (Heap.lt_size e) (Nat.lt_asymm (hcl' y b hm).1)
 have x₁:Ext G μ s.heap (putCells μ cm (cellsFrom (s.heap.objs.size+1) scope.names [])) h₁:=fun b o hb e=>⟨.inl (hk₁ b o e),putCells_none hb (old b o e)⟩
 have S₁:Sim G (putCells μ cm (cellsFrom (s.heap.objs.size+1) scope.names [])) h₁:=fun a mo e=>by
  rcases putCells_of e with ⟨y,hy,rfl⟩ | e'
  · refine and4 (hcl' y a hy) fun h1 h2 h3 h4=>?_
    refine⟨_,h4,?_⟩
    rw[bindC_at _ (by rw[h2]; exact fun z=>nomatch z),h3]
    cases q:ρ0.reverse.lookup y with
    | none=>rw[pr.reverse.lookup_none q]; trivial
    | some d=>
     refine ex1_2 (pr.reverse.lookup q) fun v h5 h6=>?_
     rw[h5]; exact h6.ext x₁.t
  · refine ex1_1 ((i.sim a mo e').live) fun o q=>?_
    exact(i.sim a mo e').at ((hk₁ a o q).trans q.symm) x₁.t
 have H:HereS G n ⟨scope,cellsFrom (s.heap.objs.size+1) scope.names [],ρ⟩ (putCells μ cm (cellsFrom (s.heap.objs.size+1) scope.names [])) (A.deeper (envOfC qual scope s.heap.objs.size f cdv)) (L::h₀) (envOfC qual scope s.heap.objs.size f cdv) h₁:=by
  refine⟨⟨⟨fenv::outer,by show A.frames.map _ = _; rw[hA]; rfl,stack_cons hout am.fk am.frm⟩,rfl,hk,am.kin,am.top,fun _=>am.hnd ω10,?_,?_,am.grd⟩,⟨rfl,rfl,rfl,rfl,hk⟩,⟨⟨_,x.toInCall.ns,fun b o e=>hk₁ b o (F.keep b o e),ground_size F⟩,fun a ha=>?_,callee_fs i x₁ (Nat.le_refl _),S₁⟩,⟨_,x.toInCall.ns,fun y d e=>?_⟩⟩
  · have:=am.dep; show A.depth+1+n<_; exact ω11 this
  · have:=am.uns; show A.units+3+40*n<_; exact ω12 this
  · cases q:putCells μ cm (cellsFrom (s.heap.objs.size+1) scope.names []) a with
    | none=>exact absurd q ha
    | some mo=>
     rcases putCells_of q with ⟨y,hy,rfl⟩ | e'
     · have h1:=(hcl' y a hy).1
       exact⟨Heap.get?_none_of_le (Nat.le_trans (ground_size F) (Nat.le_of_lt h1)),Nat.ne_of_gt h1⟩
     · have ha':μ a≠none:=by rw[e']; exact fun z=>nomatch z
       refine⟨(i.off a ha').1,fun z=>?_⟩
       rw[show a=s.heap.objs.size from z,i.sim.none_size] at e'; cases e'
  · refine ex1_2 (pr.reverse.lookup (hρ2 y d e)) fun v h1 h2=>?_
    have hy:scope.names.lookup y=some .local:=by
     have:y∈ρ.map (·.1):=lookup_mem_fst e
     refine ex1_2 (List.mem_map.mp this) fun z hz e'=>?_
     rw[← e']; exact hρ z hz
    exact⟨v,bindL_at _ hy binds _ v h1,h2.ext x₁.t⟩
 refine wpAny_mono (p _ (fun a ha=>?_) _ _ _ { s with heap:=h₁,toks:=tk } H) (fun fl s' q=>?_) fun _ _ f=>f.elim
 · cases q:μ a with
   | none=>rfl
   | some mo=>exact absurd (i.sim.lt q) (Nat.not_lt.mpr ha)
 refine q.elim fun mf ρ' μ' h' tk x' c' S' l' r' q=>?_
 have x2:Ext G μ s.heap μ' h':=fun b o hb e=>x' b o (Nat.ne_of_lt (Heap.lt_size e)) (putCells_none hb (old b o e)) (hk₁ b o e)
 cases r' with
 | next=>exact⟨_,μ',h',tk,rfl,x2,S',.none,q⟩
 | brk=>exact⟨_,μ',h',tk,rfl,x2,S',.none,q⟩
 | cont=>exact⟨_,μ',h',tk,rfl,x2,S',.none,q⟩
 | ret r=>exact⟨_,μ',h',tk,rfl,x2,S',r,q⟩
theorem Amb.make {C:Addr}{rest:List Value}{kw:List (Str×Value)} (am:Amb G A fenv h₀ L (n+1)):Amb G (A.under (.builtin "type.__call__" ⟨.ref C::rest,kw⟩)) fenv h₀ L n:=by
 have e:A.under (.builtin "type.__call__" ⟨.ref C::rest,kw⟩)={ A with depth:=A.depth+1,units:=A.units+1 }:=by
  obtain⟨a,b,c,d,e⟩:=A
  have h1:(Code.builtin "type.__call__" ⟨.ref C::rest,kw⟩).isGuard=false:=by show guardIds.contains "type.__call__" = false; decide
  have h2:(Code.builtin "type.__call__" ⟨.ref C::rest,kw⟩).frames=0:=rfl
  have h3:(Code.builtin "type.__call__" ⟨.ref C::rest,kw⟩).isCaller=false:=rfl
  have h4:(Code.builtin "type.__call__" ⟨.ref C::rest,kw⟩).isCreation=true:=rfl
  have h5:(Code.builtin "type.__call__" ⟨.ref C::rest,kw⟩).cUnits=1:=rfl
  have h6:(Code.builtin "type.__call__" ⟨.ref C::rest,kw⟩).envs=[]:=rfl
  simp only[Around.under,Code.weight,Code.guards,h1,h2,h3,h4,h5,h6,pushEnvs,pushGuards]
  simp[pushEnvs,pushGuards]
 rw[e]
 exact⟨am.bel,am.frm,am.fk,am.kin,am.top,fun _=>am.hnd ω10,by have:=am.dep; show A.depth+1+n<_; exact ω11 this,by have:=am.uns; show A.units+1+40*n<_; exact ω13 this,am.grd⟩
noncomputable abbrev InitK (Φ:MV→Mem→Prop) (x:Addr):MV→Mem→Prop:=fun d μ'=>d=.none∧Φ (.ref x) μ'
theorem make_class {C fI:Addr}{args:List MV} (hm:makesIn G.K C=true) (hi:findIn G.K (.ref C) "__init__" = some (some (.ref fI))) (hf:typeIn G.K (.ref fI)=some (.type "function"))
 (p:∀ x dx,μ x=none→μ dx=none→x≠dx→WpC G n (upd (upd μ dx (.idict [])) x (.inst C dx)) fI (.ref x::args) (InitK Φ x)):WpC G (n+1) μ C args Φ:=fun A fenv h₀ L s am i vs rs=>by
 have X:=am.kin' i
 obtain⟨hh,g,d,t,os⟩:=s
 refine make_core (makes_of X hm) (looks_findIn X hi) (fun self=>bind_fn X self hf) (.inl rfl) ?_
 have S₁:Sim G (upd μ hh.objs.size (.idict [])) (hh.push emptyDict):=i.sim.alloc ⟨[],0,Heap.get?_push_size _ rfl,?_⟩
 have x₁:Ext G μ hh (upd μ hh.objs.size (.idict [])) (hh.push emptyDict):=ext_alloc i.sim _ _
 have sz:(hh.push emptyDict).objs.size=hh.objs.size+1:=Heap.size_push ..
 have S₂:Sim G (upd (upd μ hh.objs.size (.idict [])) (hh.objs.size+1) (.inst C hh.objs.size)) ((hh.push emptyDict).push (instObj C hh.objs.size)):=by
  have:=S₁.alloc (o:=instObj C hh.objs.size) (mo:=.inst C hh.objs.size) (Heap.get?_push_size _ rfl)
  rw[sz] at this; exact this
 have x₂:Ext G μ hh (upd (upd μ hh.objs.size (.idict [])) (hh.objs.size+1) (.inst C hh.objs.size)) ((hh.push emptyDict).push (instObj C hh.objs.size)):=by
  have:=x₁.trans (ext_alloc S₁ (instObj C hh.objs.size) (.inst C hh.objs.size))
  rw[sz] at this; exact this
 have m1:μ (hh.objs.size+1)=none:=by
  cases q:μ (hh.objs.size+1) with
  | none=>rfl
  | some mo=>exact absurd (i.sim.lt q) (Nat.not_lt.mpr (Nat.le_succ _))
 refine codeAny_mono (p (hh.objs.size+1) hh.objs.size m1 i.sim.none_size (Nat.succ_ne_self _) _ fenv h₀ L ⟨(hh.push emptyDict).push (instObj C hh.objs.size),g,d,t,os⟩ am.make (i.ext x₂ S₂) (.ref (hh.objs.size+1)::vs) (.cons (.ref _) (rs.ext x₂.t))) fun r s' q=>?_
 · rcases r with e | (_ | _ | _ | v)
   · exact q
   · exact q
   · exact q
   · exact q
   · refine q.elim fun d' μ' h' tk x' S' r' qq=>?_
     refine and2 (qq) fun zr0 q'=>?_
     obtain rfl:=zr0
     exact⟨r'.isNone,_,μ',h',tk,rfl,x₂.trans x',S',.ref _,q'⟩
 · exact⟨fun e he=>by simp at he,Nat.le_refl _,fun x=>.inl ⟨rfl,rfl⟩⟩
end
section
variable {G:Gd}{n:Nat}{cx:Cx}{μ μ':Mem}{A:Around}{fenv env:Env}{h₀:List Addr}{h h':Heap}{L:Addr}{s:Shared}{Φ:MV→Mem→Prop}
noncomputable abbrev CFK (G:Gd) (n:Nat) (f:Addr) (Φ:MV→Mem→Prop):List MV→Mem→Prop:=fun ds μ₂=>WpC G n μ₂ f ds Φ
noncomputable abbrev CBK (G:Gd) (n:Nat) (f:List Value→Sem Value) (Φ:MV→Mem→Prop):List MV→Mem→Prop:=fun ds μ₂=>WpOs G n μ₂ ds f Φ
noncomputable abbrev CallFK (G:Gd) (n:Nat) (cx:Cx) (es:List Expr) (Φ:MV→Mem→Prop):MV→Mem→Prop:=fun d μ₁=>∃ f,d=.ref f∧keepIn G.K (.ref f)=true∧WpEs G n cx μ₁ es (CFK G n f Φ)
noncomputable abbrev CallFK0 (G:Gd) (n:Nat) (Φ:MV→Mem→Prop):MV→Mem→Prop:=fun d μ₁=>∃ f,d=.ref f∧keepIn G.K (.ref f)=true∧WpC G n μ₁ f [] Φ
theorem WpE.callF {func e:Expr}{rest:List Expr}{pos:Pos} (pf:WpE G n cx μ func (CallFK G n cx (e::rest) Φ))
 (he:∀ env,eval (.Call func (e::rest) [] pos) env=(do callWith pos (← eval func env) [] (backTo pos (starEach (e::rest) env)) (backToKw pos (keywordEach [] env))):=by intro _; rfl)
 (he2:∀ env,starEach (e::rest) env=(false,eval e env)::starEach rest env:=by intro _; rfl) (hp:∀ env,(backTo pos (starEach rest env)).any (·.1)=false:=by intro _; rfl):WpE G n cx μ (.Call func (e::rest) [] pos) Φ:=fun A fenv h₀ L env s H=>by
 refine Call_ (wpAny_mono (pf A fenv h₀ L env s H) (fun v s₁ q=>?_) fun _ _ f=>f) (he env)
 refine q.elim fun d μ₁ h₁ tk₁ x₁ S₁ r₁ qq=>?_
 refine ex1_3 (qq) fun f zr1 hk q₁=>?_
 obtain rfl:=zr1
 rw[r₁.isRef]
 have H₁:=H.ext x₁ S₁
 refine callWith_K H₁.kin hk (wpAny_mono (q₁ A fenv h₀ L env pos { s with heap:=h₁,toks:=tk₁ } H₁) (fun vs s₂ q₂=>?_) fun _ _ f=>f) (he2 env) (hp env)
 refine q₂.elim fun ds μ₂ h₂ tk₂ x₂ S₂ r₂ q₂=>?_
 have H₂:=H₁.ext x₂ S₂
 exact⟨H₂.kin,wpAny_mono (q₂.os A fenv h₀ L { s with heap:=h₂,toks:=tk₂ } H.amb H₂.inv vs r₂) (fun v s₃ q₃=>q₃.after (x₁.trans x₂)) fun _ _ f=>f⟩
theorem WpE.callF0 {func:Expr}{pos:Pos} (pf:WpE G n cx μ func (CallFK0 G n Φ))
 (he:∀ env,eval (.Call func [] [] pos) env=(do callWith pos (← eval func env) [] (backTo pos (starEach [] env)) (backToKw pos (keywordEach [] env))):=by intro _; rfl):WpE G n cx μ (.Call func [] [] pos) Φ:=fun A fenv h₀ L env s H=>by
 refine Call_ (wpAny_mono (pf A fenv h₀ L env s H) (fun v s₁ q=>?_) fun _ _ f=>f) (he env)
 refine q.elim fun d μ₁ h₁ tk₁ x₁ S₁ r₁ qq=>?_
 refine ex1_3 (qq) fun f zr1 hk q₁=>?_
 obtain rfl:=zr1
 rw[r₁.isRef]
 have H₁:=H.ext x₁ S₁
 refine callWith_K0 (s:={ s with heap:=h₁,toks:=tk₁ }) H₁.kin hk (wpAny_mono (q₁.os A fenv h₀ L { s with heap:=h₁,toks:=tk₁ } H.amb H₁.inv [] .nil) (fun v s₃ q₃=>q₃.after x₁) fun _ _ f=>f)
theorem nameB {x:Str}{pos:Pos}{v:Value} (H:Here G n cx μ A fenv h₀ L env s.heap) (e:nsIn G.K mainGlobals x=some none) (hv:bootBuiltins x=some v) (hn:x≠"__name__") (hx:cx.scope.names.lookup x=some .globalImplicit) (hdb:(x == ("__debug__":Str))=false)
 {Q:Value→Shared→Prop}{E:Value→Shared→Prop} (h:Q v s):wpAny (model G.prog G.w) A (eval (.Name x pos) env) Q E s:=by
 refine ex1_1 (H.inv.fr) fun m F=>?_
 refine ex3_1 (H.amb.top) fun mean mg mb T=>?_
 have T':=topRead_of T
 exact Name_function_global H.eok.kind (by unfold Env.kindOf; rw[H.eok.scope]; exact hx) (loadGlobal_builtin (by rw[H.eok.globals]; exact T'.g.keeps F.keep) (mg_none_of H.amb.kin T'.g e) (by rw[H.eok.builtins]; exact T'.b.keeps F.keep) ((T'.builtins x hn).trans hv) h) hdb
theorem WpE.callB {x:Str}{p pos:Pos}{id:String}{e:Expr}{rest:List Expr} (hn:nsIn G.K mainGlobals x=some Option.none) (q:WpEs G n cx μ (e::rest) (CBK G n (fun vs=>call (.builtin id) vs) Φ))
 (hv:bootBuiltins x=some (.builtin id):=by rfl) (hne:x≠"__name__":=by decide) (hx:cx.scope.names.lookup x=some .globalImplicit:=by rfl) (hdb:(x == ("__debug__":Str))=false:=by decide)
 (he:∀ env,eval (.Call (.Name x p) (e::rest) [] pos) env=(do callWith pos (← eval (.Name x p) env) [] (backTo pos (starEach (e::rest) env)) (backToKw pos (keywordEach [] env))):=by intro _; rfl)
 (he2:∀ env,starEach (e::rest) env=(false,eval e env)::starEach rest env:=by intro _; rfl) (hp:∀ env,(backTo pos (starEach rest env)).any (·.1)=false:=by intro _; rfl):WpE G n cx μ (.Call (.Name x p) (e::rest) [] pos) Φ:=fun A fenv h₀ L env s H=>by
 refine Call_ (nameB H hn hv hne hx hdb ?_) (he env)
 refine callWith_builtin1 (wpAny_mono (q A fenv h₀ L env pos s H) (fun vs s₂ q₂=>?_) fun _ _ f=>f) (he2 env) (hp env)
 refine q₂.elim fun ds μ₂ h₂ tk₂ x₂ S₂ r₂ q₂=>?_
 exact wpAny_mono (q₂ A fenv h₀ L { s with heap:=h₂,toks:=tk₂ } H.amb (H.ext x₂ S₂).inv vs r₂) (fun v s₃ q₃=>q₃.after x₂) fun _ _ f=>f
theorem WpE.callT {x:Str}{p pos:Pos}{T:String}{e:Expr}{rest:List Expr} (hn:nsIn G.K mainGlobals x=some Option.none) (q:WpEs G n cx μ (e::rest) (CBK G n (fun vs=>call (.type T) vs) Φ))
 (hv:bootBuiltins x=some (.type T):=by rfl) (hne:x≠"__name__":=by decide) (hx:cx.scope.names.lookup x=some .globalImplicit:=by rfl) (hdb:(x == ("__debug__":Str))=false:=by decide)
 (he:∀ env,eval (.Call (.Name x p) (e::rest) [] pos) env=(do callWith pos (← eval (.Name x p) env) [] (backTo pos (starEach (e::rest) env)) (backToKw pos (keywordEach [] env))):=by intro _; rfl)
 (he2:∀ env,starEach (e::rest) env=(false,eval e env)::starEach rest env:=by intro _; rfl) (hp:∀ env,(backTo pos (starEach rest env)).any (·.1)=false:=by intro _; rfl):WpE G n cx μ (.Call (.Name x p) (e::rest) [] pos) Φ:=fun A fenv h₀ L env s H=>by
 refine Call_ (nameB H hn hv hne hx hdb ?_) (he env)
 refine PyProof.Rows.callWith_type1 (wpAny_mono (q A fenv h₀ L env pos s H) (fun vs s₂ q₂=>?_) fun _ _ f=>f) (he2 env) (hp env)
 refine q₂.elim fun ds μ₂ h₂ tk₂ x₂ S₂ r₂ q₂=>?_
 exact wpAny_mono (q₂ A fenv h₀ L { s with heap:=h₂,toks:=tk₂ } H.amb (H.ext x₂ S₂).inv vs r₂) (fun v s₃ q₃=>q₃.after x₂) fun _ _ f=>f
theorem WpE.callT0 {x:Str}{p pos:Pos}{T:String} (hn:nsIn G.K mainGlobals x=some Option.none) (q:WpOs G n μ [] (fun vs=>call (.type T) vs) Φ)
 (hv:bootBuiltins x=some (.type T):=by rfl) (hne:x≠"__name__":=by decide) (hx:cx.scope.names.lookup x=some .globalImplicit:=by rfl) (hdb:(x == ("__debug__":Str))=false:=by decide)
 (he:∀ env,eval (.Call (.Name x p) [] [] pos) env=(do callWith pos (← eval (.Name x p) env) [] (backTo pos (starEach [] env)) (backToKw pos (keywordEach [] env))):=by intro _; rfl):WpE G n cx μ (.Call (.Name x p) [] [] pos) Φ:=fun A fenv h₀ L env s H=>by
 refine Call_ (nameB H hn hv hne hx hdb ?_) (he env)
 exact callWith_type0 (q A fenv h₀ L s H.amb H.inv [] .nil)
noncomputable def GetsM (G:Gd) (n:Nat) (μ:Mem) (d:MV) (name:Str) (f:Value):Prop:=∀ A fenv h₀ L s,Amb G A fenv h₀ L n→Inv G h₀ L μ s.heap→∀ v,VR μ s.heap v d→∀ pl (Q:Value×List Value→Shared→Prop),Q (f,[v]) s→wpAny (model G.prog G.w) A (getMethod v name pl) Q NoE s
noncomputable abbrev MBK2 (G:Gd) (n:Nat) (id:String) (Φ:MV→Mem→Prop) (d:MV):List MV→Mem→Prop:=fun ds μ₂=>WpOs G n μ₂ (d::ds) (fun vs=>call (.builtin id) vs) Φ
noncomputable abbrev MBK (G:Gd) (n:Nat) (cx:Cx) (name:Str) (id:String) (es:List Expr) (Φ:MV→Mem→Prop):MV→Mem→Prop:=fun d μ₁=>GetsM G n μ₁ d name (.builtin id)∧WpEs G n cx μ₁ es (MBK2 G n id Φ d)
noncomputable abbrev MFK2 (G:Gd) (n:Nat) (f:Addr) (Φ:MV→Mem→Prop) (d:MV):List MV→Mem→Prop:=fun ds μ₂=>WpC G n μ₂ f (d::ds) Φ
noncomputable abbrev MFK (G:Gd) (n:Nat) (cx:Cx) (name:Str) (f:Addr) (es:List Expr) (Φ:MV→Mem→Prop):MV→Mem→Prop:=fun d μ₁=>GetsM G n μ₁ d name (.ref f)∧WpEs G n cx μ₁ es (MFK2 G n f Φ d)
noncomputable abbrev MFK0 (G:Gd) (n:Nat) (name:Str) (f:Addr) (Φ:MV→Mem→Prop):MV→Mem→Prop:=fun d μ₁=>GetsM G n μ₁ d name (.ref f)∧WpC G n μ₁ f [d] Φ
theorem WpE.methB {o e:Expr}{name:Str}{apos pos:Pos}{rest:List Expr}{id:String} (pl:Env→Sem Bool) (p:WpE G n cx μ o (MBK G n cx name id (e::rest) Φ))
 (he:∀ env,eval (.Call (.Attribute o name apos) (e::rest) [] pos) env=(do
  let ov ← eval o env
  standAt apos.atName
  let (f,first) ← holding [ov] (getMethod ov name (pl env))
  callWith pos f first (backTo pos (starEach (e::rest) env)) []):=by intro _; rfl)
 (he2:∀ env,starEach (e::rest) env=(false,eval e env)::starEach rest env:=by intro _; rfl) (hp:∀ env,(backTo pos (starEach rest env)).any (·.1)=false:=by intro _; rfl):WpE G n cx μ (.Call (.Attribute o name apos) (e::rest) [] pos) Φ:=fun A fenv h₀ L env s H=>by
 refine MethodCall_ (wpAny_mono (p A fenv h₀ L env s H) (fun v s₁ q=>?_) fun _ _ f=>f) (he env)
 refine q.elim fun d μ₁ h₁ tk₁ x₁ S₁ r₁ qq=>?_
 refine and2 (qq) fun gm q₁=>?_
 have H₁:=H.ext x₁ S₁
 refine gm A fenv h₀ L { s with heap:=h₁,toks:=tk₁ } H.amb H₁.inv v r₁ _ _ ?_
 refine callWith_method1 (wpAny_mono (q₁ A fenv h₀ L env pos { s with heap:=h₁,toks:=tk₁ } H₁) (fun vs s₂ q₂=>?_) fun _ _ f=>f) (he2 env) (hp env)
 refine q₂.elim fun ds μ₂ h₂ tk₂ x₂ S₂ r₂ q₂=>?_
 exact wpAny_mono (q₂ A fenv h₀ L { s with heap:=h₂,toks:=tk₂ } H.amb (H₁.ext x₂ S₂).inv ([v]++vs) (.cons (r₁.ext x₂.t) r₂)) (fun v s₃ q₃=>q₃.after (x₁.trans x₂)) fun _ _ f=>f
theorem WpE.methF {o e:Expr}{name:Str}{apos pos:Pos}{rest:List Expr}{f:Addr} (pl:Env→Sem Bool) (hk:keepIn G.K (.ref f)=true) (p:WpE G n cx μ o (MFK G n cx name f (e::rest) Φ))
 (he:∀ env,eval (.Call (.Attribute o name apos) (e::rest) [] pos) env=(do
  let ov ← eval o env
  standAt apos.atName
  let (f,first) ← holding [ov] (getMethod ov name (pl env))
  callWith pos f first (backTo pos (starEach (e::rest) env)) []):=by intro _; rfl)
 (he2:∀ env,starEach (e::rest) env=(false,eval e env)::starEach rest env:=by intro _; rfl) (hp:∀ env,(backTo pos (starEach rest env)).any (·.1)=false:=by intro _; rfl):WpE G n cx μ (.Call (.Attribute o name apos) (e::rest) [] pos) Φ:=fun A fenv h₀ L env s H=>by
 refine MethodCall_ (wpAny_mono (p A fenv h₀ L env s H) (fun v s₁ q=>?_) fun _ _ f=>f) (he env)
 refine q.elim fun d μ₁ h₁ tk₁ x₁ S₁ r₁ qq=>?_
 refine and2 (qq) fun gm q₁=>?_
 have H₁:=H.ext x₁ S₁
 refine gm A fenv h₀ L { s with heap:=h₁,toks:=tk₁ } H.amb H₁.inv v r₁ _ _ ?_
 refine callWith_K H₁.kin hk (wpAny_mono (q₁ A fenv h₀ L env pos { s with heap:=h₁,toks:=tk₁ } H₁) (fun vs s₂ q₂=>?_) fun _ _ f=>f) (he2 env) (hp env)
 refine q₂.elim fun ds μ₂ h₂ tk₂ x₂ S₂ r₂ q₂=>?_
 exact⟨(H₁.ext x₂ S₂).kin,wpAny_mono (q₂.os A fenv h₀ L { s with heap:=h₂,toks:=tk₂ } H.amb (H₁.ext x₂ S₂).inv ([v]++vs) (.cons (r₁.ext x₂.t) r₂)) (fun v s₃ q₃=>q₃.after (x₁.trans x₂)) fun _ _ f=>f⟩
theorem WpE.methF0 {o:Expr}{name:Str}{apos pos:Pos}{f:Addr} (pl:Env→Sem Bool) (hk:keepIn G.K (.ref f)=true) (p:WpE G n cx μ o (MFK0 G n name f Φ))
 (he:∀ env,eval (.Call (.Attribute o name apos) [] [] pos) env=(do
  let ov ← eval o env
  standAt apos.atName
  let (f,first) ← holding [ov] (getMethod ov name (pl env))
  callWith pos f first (backTo pos (starEach [] env)) []):=by intro _; rfl):WpE G n cx μ (.Call (.Attribute o name apos) [] [] pos) Φ:=fun A fenv h₀ L env s H=>by
 refine MethodCall_ (wpAny_mono (p A fenv h₀ L env s H) (fun v s₁ q=>?_) fun _ _ f=>f) (he env)
 refine q.elim fun d μ₁ h₁ tk₁ x₁ S₁ r₁ qq=>?_
 refine and2 (qq) fun gm q₁=>?_
 have H₁:=H.ext x₁ S₁
 refine gm A fenv h₀ L { s with heap:=h₁,toks:=tk₁ } H.amb H₁.inv v r₁ _ _ ?_
 exact callWith_K0 (s:={ s with heap:=h₁,toks:=tk₁ }) H₁.kin hk (wpAny_mono (q₁.os A fenv h₀ L { s with heap:=h₁,toks:=tk₁ } H.amb H₁.inv ([v]++[]) (.cons r₁ .nil)) (fun v s₃ q₃=>q₃.after x₁) fun _ _ f=>f)
theorem gets_inst {a C d:Addr}{name:Str}{f:Addr}{fs:List (Str×MV)} (e:μ a=some (.inst C d)) (e':μ d=some (.idict fs)) (hg:plainGet G.K C name=true) (hf:findIn G.K (.ref C) name=some (some (.ref f))) (ht:isFn G.K (.ref f)=true) (hn:atM fs name=none) :
 GetsM G n μ (.ref a) name (.ref f):=fun A fenv h₀ L s am i v r pl Q q=>by
 rw[r.isRef] at q ⊢
 have g:=i.sim a _ e
 refine ex2_2 (i.sim d _ e') fun es k g' ir=>?_
 refine ex1_1 (i.fr) fun m F=>?_
 rcases ir.getL name with ⟨_,z⟩ | ⟨w,d',h1,h2,_⟩
 · exact method_inst F am.kin (instAt g g') hg hf ht z q
 · rw[hn] at h1; cases h1
theorem gets_list {a:Addr}{ds:List MV}{name:Str}{id:String} (e:μ a=some (.list ds)) (slot:Slot "list" name id) (hty:typeOf (.builtin id)=pure (.type "method_descriptor")):GetsM G n μ (.ref a) name (.builtin id):=fun A fenv h₀ L s am i v r pl Q q=>by
 rw[r.isRef] at q ⊢
 refine ex2_2 (i.list e) fun vs m g r=>?_
 exact getMethod_list_of slot hty (isList_of g) ⟨_,g,rfl⟩ q
theorem gets_sdict {a:Addr}{es:List (Str×MV)}{name:Str}{id:String} (e:μ a=some (.sdict es)) (slot:Slot "dict" name id) (hty:typeOf (.builtin id)=pure (.type "method_descriptor")):GetsM G n μ (.ref a) name (.builtin id):=fun A fenv h₀ L s am i v r pl Q q=>by
 rw[r.isRef] at q ⊢
 refine ex1_3 (i.sim a _ e) fun kvs hd r _=>?_
 exact getMethod_builtin hd.typeIs PySem.F.plainAttrs_dict slot hty hd.mapOf.noDict q
end
noncomputable def relabelS (scope outer:Scope):Scope:=
 { scope with names:=scope.names.map fun (n,k)=>if (k == .free && outer.kind == .function && outer.names.lookup n == some .cell) then(n,.cell) else(n,k) }
section
variable {G:Gd}{n:Nat}{cx:Cx}{μ μ₁ μ':Mem}{A:Around}{fenv env:Env}{h₀:List Addr}{h h₁ h':Heap}{L:Addr}{s:Shared}
noncomputable def cK3 (prog:Program) (w:World) (A:Around) (acc:Value) (I:Nat→Shared→Prop) (n:Nat) (x:Value) (s:Shared):Prop:=wpAny (model prog w) A (call (.builtin "list.append") [acc,x]) (fun _=>Lt I n) NoE s
noncomputable def cK2 (prog:Program) (w:World) (A:Around) (elt:Expr) (acc:Value) (env:Env) (I:Nat→Shared→Prop) (n:Nat) (ok:Bool) (s:Shared):Prop:=if ok=true then wpAny (model prog w) A (eval elt env) (cK3 prog w A acc I n) NoE s else Lt I n s
noncomputable def cK1 (prog:Program) (w:World) (A:Around) (elt:Expr) (ifs:List Expr) (acc:Value) (env:Env) (I:Nat→Shared→Prop) (n:Nat) (_:Unit) (s:Shared):Prop:=
 wpAny (model prog w) A (forIn ifs true fun c r=>if r=true then do let ok ← isTrue c env (eval c env); pure (ForInStep.yield ok) else pure (ForInStep.yield r)) (cK2 prog w A elt acc env I n) NoE s
theorem codeAny_compLoop_my {prog:Program}{w:World}{R:Result→Shared→Prop}{elt target iter:Expr}{ifs:List Expr}{scope:Scope}{pos:Pos}{it acc:Value}{env:Env} (I:Nat→Shared→Prop)
 (turn:∀ n s,I n s→wpAny (model prog w) A (pyNext it) (nK prog w A target it env R (cK1 prog w A elt ifs acc env I n)) NoE s)
 (n:Nat) (h:I n s) :
 codeAny (model prog w) A (.compLoop (.ListComp elt [⟨target,iter,ifs,0⟩] scope pos) 0 it acc env) R s:=by
 refine codeAny_loop rfl I (fun n s hI=>?_) n h
 show wpAny _ _ ((compTurn (.ListComp elt [⟨target,iter,ifs,0⟩] scope pos) 0 it acc env).onRaise (fun x=>do noteFrame x env; theTreesLotGoes x)) _ _ s
 refine wpAny_noted ?_
 rw[compTurn_list]
 refine wpAny_bind (wpAny_standAt (wpAny_bind (wpAny_mono (turn n s hI) (fun r s₁ h₁=>?_) fun _ _ f=>f.elim)))
 cases r with
 | none=>exact wpAny_pure h₁
 | some v=>
  refine wpAny_bind (wpAny_mono h₁ (fun _ s₁' h₁=>?_) fun _ _ f=>f.elim)
  refine wpAny_bind (wpAny_mono h₁ (fun _ s₂ h₂=>wpAny_bind (wpAny_mono h₂ (fun ok s₃ h₃=>?_) fun _ _ f=>f.elim)) fun _ _ f=>f.elim)
  cases ok with
  | false=>exact wpAny_pure ⟨rfl,h₃⟩
  | true=>exact wpAny_bind (wpAny_bind (wpAny_mono h₃ (fun x s₄ h₄=>wpAny_bind (wpAny_mono h₄ (fun _ s₅ h₅=>wpAny_pure (wpAny_pure ⟨rfl,h₅⟩)) fun _ _ f=>f.elim)) fun _ _ f=>f.elim))
noncomputable def WpIfs (G:Gd) (n:Nat) (cx:Cx) (μ:Mem) (ifs:List Expr) (Φ:Bool→Mem→Prop):Prop:=
 ∀ A fenv h₀ L env s,Here G n cx μ A fenv h₀ L env s.heap→wpAny (model G.prog G.w) A (forIn ifs true fun c r=>if r=true then do let ok ← isTrue c env (eval c env); pure (ForInStep.yield ok) else pure (ForInStep.yield r)) (PostT G μ s Φ) NoE s
theorem WpIfs.nil {Φ:Bool→Mem→Prop} (q:Φ true μ):WpIfs G n cx μ [] Φ:=fun A fenv h₀ L env s H=>wpAny_tests_nil (PostT.same (tk:=s.toks) H.inv.sim q)
theorem WpIfs.one {c:Expr}{Φ:Bool→Mem→Prop} (p:WpT G n cx μ c Φ):WpIfs G n cx μ [c] Φ:=fun A fenv h₀ L env s H=>wpAny_tests_one (p A fenv h₀ L env s H)
noncomputable abbrev EltK (I:List MV→Mem→Prop) (ds:List MV):MV→Mem→Prop:=fun e μ3=>I (ds++[e]) μ3
noncomputable abbrev IfsK (G:Gd) (n:Nat) (cx:Cx) (elt:Expr) (I:List MV→Mem→Prop) (ds:List MV):Bool→Mem→Prop:=fun b μ''=>if b then WpE G n cx μ'' elt (EltK I ds) else I ds μ''
noncomputable abbrev CTgtK (G:Gd) (n:Nat) (scope:Scope) (cl:List (Str×Addr)) (elt:Expr) (ifs:List Expr) (I:List MV→Mem→Prop) (ds:List MV):List (Str×MV)→Mem→Prop:=fun ρ' μ'=>WpIfs G n ⟨scope,cl,ρ'⟩ μ' ifs (IfsK G n ⟨scope,cl,ρ'⟩ elt I ds)
noncomputable abbrev CStepK (G:Gd) (n:Nat) (scope:Scope) (cl:List (Str×Addr)) (target elt:Expr) (ifs:List Expr) (N:Nat) (I:Nat→List MV→Mem→Prop) (Fin:List MV→Mem→Prop) (k:Nat) (ds:List MV) (μ:Mem) (r:Option MV):Prop:=match r with
 | none=>Fin ds μ
 | some d=>k<N∧∀ ρ,WpA G n ⟨scope,cl,ρ⟩ μ target d (CTgtK G n scope cl elt ifs (I (k+1)) ds)
noncomputable def CompSpec (G:Gd) (n:Nat) (scope:Scope) (cl:List (Str×Addr)) (outer:Scope) (target elt:Expr) (ifs:List Expr) (item:Nat→Mem→Option MV→Prop) (N:Nat) (I:Nat→List MV→Mem→Prop) (Fin:List MV→Mem→Prop):Prop:=
 ∀ k ds μ,I k ds μ→k≤N∧∃ r,item k μ r∧CStepK G n (relabelS scope outer) cl target elt ifs N I Fin k ds μ r
noncomputable def CompI (G:Gd) (env:Env) (own:List Addr) (St:Nat→Mem→Heap→Prop) (μ:Mem) (s:Shared) (N:Nat) (D:Addr) (J:Nat→List MV→Mem→Prop) (m:Nat) (s':Shared):Prop:=
 ∃ k ρ μ' h' tk ys j ds,m=N+1-k∧s'={ s with heap:=h',toks:=tk }∧Lp G env own St μ s.heap k ρ μ' h'∧μ' D=none∧h'.get? D=some (listOf ys.toArray j)∧VRs μ' h' ys ds∧ds.length≤k∧J k ds μ'
section
variable {own:List Addr}{St:Nat→Mem→Heap→Prop}{N D m k tk j:Nat}{J:Nat→List MV→Mem→Prop}{s':Shared}{ρ:List (Str×MV)}{ys:List Value}{ds:List MV}
@[elab_as_elim] theorem CompI.elim {P:Nat→Shared→Prop} (i:CompI G env own St μ s N D J m s') (f:∀ k ρ μ' h' tk ys j ds,Lp G env own St μ s.heap k ρ μ' h'→μ' D=none→h'.get? D=some (listOf ys.toArray j)→VRs μ' h' ys ds→ds.length≤k→J k ds μ'→P (N+1-k) { s with heap:=h',toks:=tk }):P m s':=by
 obtain⟨k,ρ,μ',h',tk,ys,j,ds,rfl,rfl,p,d,g,r,l,q⟩:=i
 exact f k ρ μ' h' tk ys j ds p d g r l q
theorem CompI.next (hk:k<N) (p:Lp G env own St μ s.heap (k+1) ρ μ' h') (d:μ' D=none) (g:h'.get? D=some (listOf ys.toArray j)) (r:VRs μ' h' ys ds) (l:ds.length≤k+1) (q:J (k+1) ds μ'):∃ m,m<N+1-k∧CompI G env own St μ s N D J m { s with heap:=h',toks:=tk }:=
 ⟨N+1-(k+1),ω8 hk,k+1,ρ,μ',h',tk,ys,j,ds,rfl,rfl,p,d,g,r,l,q⟩
end
theorem Inv.fresh (iv:Inv G h₀ L μ h) {C:Addr} (hC:h.objs.size≤C):G.base.get? C=none∧L≠C∧C∉h₀:=by
 refine ex1_1 iv.fr fun m F=>⟨?_,fun z=>?_,fun hb=>?_⟩
 · cases q:G.base.get? C with
   | none=>rfl
   | some o=>exact absurd (Heap.lt_size (F.keep _ _ q)) (Nat.not_lt.mpr hC)
 · exact F.ns.elim fun o q=>q.elim fun _ q=>q.elim fun _ q=>absurd (Heap.lt_size q.1) (Nat.not_lt.mpr (z▸hC))
 · exact(iv.fs _ hb).2.2.2.elim fun m' q=>q.elim fun o q=>q.elim fun _ q=>q.elim fun _ q=>absurd (Heap.lt_size q.1) (Nat.not_lt.mpr hC)
theorem comp_here {scope:Scope}{cl:List (Str×Addr)}{C:Addr}{ρ:List (Str×MV)} (H:Here G n cx μ A fenv h₀ L env h) (hkind:scope.kind=.function) (hC:G.base.get? C=none∧L≠C∧C∉h₀) (x:Ext G μ h μ' h') (S:Sim G μ' h') (c:μ' C=none) (l:LocOk (compEnvC scope cl C env) ρ μ' h') :
 HereT G n ⟨relabelS scope cx.scope,cl,ρ⟩ μ' A fenv h₀ L (compEnvC scope cl C env) h':=
 ⟨⟨H.amb,⟨by show relabel scope env = _; unfold relabel relabelS Env.kindOf; rw[H.eok.scope],rfl,H.eok.globals,H.eok.builtins,hkind⟩,H.inv.ext x S,l,c⟩,.inr hC⟩
theorem comp_loop {elt target iter:Expr}{ifs:List Expr}{scope:Scope}{pos:Pos}{cl:List (Str×Addr)}{I C D:Addr}{own:List Addr}{St:Nat→Mem→Heap→Prop}{item:Nat→Mem→Option MV→Prop}{nt:Bool}{tk:Nat}{N:Nat}{J:Nat→List MV→Mem→Prop}{Fin:List MV→Mem→Prop}{R:Result→Shared→Prop}{m₀:Str→Option Value}
 (H:Here G n cx μ A fenv h₀ L env s.heap) (x₁:Ext G μ s.heap μ₁ h₁) (S₁:Sim G μ₁ h₁) (W:Itr G A I own St item nt) (st₁:St 0 μ₁ h₁) (ho:∀ b∈own,(∀ o,s.heap.get? b=some o→μ b≠none)∧μ₁ b=none) (ok:OkT nt target)
 (hN:N≤16777216) (j0:J 0 [] μ₁) (spec:CompSpec G n scope cl cx.scope target elt ifs item N J Fin) (hkind:scope.kind=.function) (hC:G.base.get? C=none∧L≠C∧C∉h₀) (fC:∀ o,s.heap.get? C=some o→μ C≠none) (fD:∀ o,s.heap.get? D=some o→μ D≠none)
 (hDC:D≠C) (nC:C∉own) (nD:D∉own) (mC:μ₁ C=none) (mD:μ₁ D=none) (gD:h₁.get? D=some (listOf ([]:List Value).toArray 0)) (hn:h₁.Ns C m₀)
 (hR:∀ h' tk μ' ys j ds m,Ext G μ s.heap μ' h'→Sim G μ' h'→μ' D=none→μ' C=none→h'.get? D=some (listOf ys.toArray j)→VRs μ' h' ys ds→h'.Ns C m→Fin ds μ'→R (.ok .next) { s with heap:=h',toks:=tk }) :
 codeAny (model G.prog G.w) A (.compLoop (.ListComp elt [⟨target,iter,ifs,0⟩] scope pos) 0 (.ref I) (.ref D) (compEnvC scope cl C env)) R { s with heap:=h₁,toks:=tk }:=by
 have B:LpB (compEnvC scope cl C env) own μ s.heap:=⟨nC,fun b hb=>(ho b hb).1⟩
 refine codeAny_compLoop_my (CompI G (compEnvC scope cl C env) own St μ s N D J) (fun m s' i=>?_) (N+1) ⟨0,[],μ₁,h₁,tk,[],0,[],rfl,rfl,⟨x₁.b _,mC,S₁,⟨_,hn,fun _ _ e=>nomatch e⟩,st₁,fun b hb=>(ho b hb).2⟩,mD,gD,.nil,Nat.le_refl _,j0⟩
 refine i.elim fun k ρ μ' h' tk ys j ds p d g rv hl jk=>?_
 refine and2 (spec k ds μ' jk) fun hk q=>ex1_2 q fun r hi hr=>?_
 refine wpAny_mono (W.step' (s:={ s with heap:=h',toks:=tk }) ok p.S p.hu p.st hi) (fun r' s₁ q=>?_) fun _ _ f=>f
 cases r' with
 | none=>
  refine p.stop W B q fun e h₂ tk₂ hk t x₂ S₂ l₂=>?_
  cases e
  exact l₂.elim fun m hm=>hR h₂ tk₂ μ' ys j ds m (x₂.full fC) S₂ d p.c (hk _ _ nD g) (rv.ext t) hm.1 hr
 | some v=>
  refine wpAny_mono q (fun _ s₁ q=>?_) fun _ _ f=>f
  refine p.go W B q fun d' e h₂ tk₂ hk t rv₂ p₂=>?_
  cases e
  have H₂:=comp_here H hkind hC (p₂.x.full fC) p₂.S p₂.c p₂.l
  refine wpAny_mono (hr.2 ρ A fenv h₀ L (compEnvC scope cl C env) { s with heap:=h₂,toks:=tk₂ } H₂ v rv₂) (fun _ s₃ q₃=>?_) fun _ _ f=>f
  refine q₃.elim fun mf ρ₃ μ₃ h₃ tk₃ x₃ c₃ S₃ l₃ r₃ qq=>?_
  cases qq.1
  have H₃:=(H₂.extB x₃ c₃ S₃ l₃).toHere
  refine wpAny_mono (qq.2 A fenv h₀ L (compEnvC scope cl C env) { s with heap:=h₃,toks:=tk₃ } H₃) (fun b s₄ q₄=>?_) fun _ _ f=>f
  refine q₄.elim fun μ₄ h₄ tk₄ x₄ S₄ q₄=>?_
  have H₄:=H₃.ext x₄ S₄
  have x24:=x₃.trans (x₄.b _)
  have dg:=x24 D _ hDC d (hk _ _ nD g)
  have g₄:=dg.1.seq fun _ _ z=>nomatch z
  have rv₄:=(rv.ext t).ext (x24.t p₂.l.live)
  have p₄:=p₂.then W B x24 H₄.cur S₄ H₄.loc
  cases b with
  | false=>exact CompI.next hr.1 p₄ dg.2 g₄ rv₄ (Nat.le_succ_of_le hl) q₄
  | true=>
   refine wpAny_mono ((show WpE _ _ _ _ _ _ from q₄) A fenv h₀ L (compEnvC scope cl C env) { s with heap:=h₄,toks:=tk₄ } H₄) (fun x s₅ q₅=>?_) fun _ _ f=>f
   refine q₅.elim fun e μ₅ h₅ tk₅ x₅ S₅ r₅ q₅=>?_
   have H₅:=H₄.ext x₅ S₅
   have dg₅:=x₅ D _ dg.2 g₄
   have g₅:=dg₅.1.seq fun _ _ z=>nomatch z
   have ry:=rv₄.ext x₅.t
   refine append_at (hsz:=by rw[List.size_toArray,ry.length]; exact Nat.le_trans (Nat.le_trans hl (Nat.le_of_lt hr.1)) hN) g₅ fun h₆ hs₆ g₆=>?_
   have hs₆:Heap.SameBut D h₅ h₆:=hs₆
   have t₆:TExt μ₅ h₅ μ₅ h₆:=fun b o hb e ht=>⟨(hs₆.2 b (fun z=>by subst z; rw[g₅] at e; cases e; exact absurd ht.1 (by show Value.type "list"≠_; decide))).trans e,hb⟩
   exact CompI.next (ys:=ys++[x]) (j:=j+1) hr.1 ((p₂.then W B (x24.trans (x₅.b _)) H₅.cur S₅ H₅.loc).write W nD fD (Ne.symm hDC) dg₅.2 hs₆ t₆) dg₅.2 (by rw[List.push_toArray] at g₆; exact g₆) ((ry.ext t₆).append (.one (r₅.ext t₆))) (by rw[List.length_append]; exact Nat.succ_le_succ hl) q₅
theorem comp_core {elt target iter:Expr}{ifs:List Expr}{scope:Scope}{pos:Pos}{cl:List (Str×Addr)}{I:Addr}{own:List Addr}{St:Nat→Mem→Heap→Prop}{item:Nat→Mem→Option MV→Prop}{nt:Bool}{tk₁:Nat}{N:Nat}{J:Nat→List MV→Mem→Prop}{Fin:List MV→Mem→Prop}{RR:Value→Addr→Result→Shared→Prop}{E:Value→Shared→Prop}
 (H:Here G n cx μ A fenv h₀ L env s.heap) (x₁:Ext G μ s.heap μ₁ h₁) (S₁:Sim G μ₁ h₁) (W:Itr G A I own St item nt) (st₁:St 0 μ₁ h₁) (ho:∀ b∈own,(∀ o,s.heap.get? b=some o→μ b≠none)∧μ₁ b=none) (ok:OkT nt target)
 (hN:N≤16777216) (j0:J 0 [] μ₁) (spec:CompSpec G n scope cl cx.scope target elt ifs item N J Fin) (hcell:∀ y∈scope.names,y.2≠.cell) (hkind:scope.kind=.function)
 (hRR:∀ D C h' tk μ' ys j ds m,Ext G μ s.heap μ' h'→Sim G μ' h'→μ' D=none→μ' C=none→D≠C→(∀ o,s.heap.get? C=some o→μ C≠none)→(∀ o,s.heap.get? D=some o→μ D≠none)→h'.get? D=some (listOf ys.toArray j)→VRs μ' h' ys ds→h'.Ns C m→Fin ds μ'→RR (.ref D) C (.ok .next) { s with heap:=h',toks:=tk }) :
 wpAny (model G.prog G.w) A (newList []) (fun acc s₃=>wpAny (model G.prog G.w) A (newFunctionEnv scope env.globals cl [] env.qual none .none (some env)) (fun cenv s₄=>
  codeAny (model G.prog G.w) A (.compStart (.ListComp elt [⟨target,iter,ifs,0⟩] scope pos) 0 (.ref I) acc { cenv with scope:=relabel scope env }) (RR acc cenv.locals) s₄) E s₃) E { s with heap:=h₁,toks:=tk₁ }:=by
 refine wpAny_newObj_type (wpAny_newFunctionEnv hcell (fun y hy=>nomatch hy) (fun h₂ hns₂ hsb₂=>?_) hkind)
 have hsz:(h₁.push ({ cls:=.type "list",dict:=none,data:=.seq ([]:List Value).toArray }:Obj)).objs.size=h₁.objs.size+1:=Heap.size_push ..
 have old:∀ b o,(h₁.push ({ cls:=.type "list",dict:=none,data:=.seq ([]:List Value).toArray }:Obj)).get? b=some o→h₂.get? b=some o:=fun b o e=>hsb₂.extBut b o (Nat.ne_of_lt (Heap.lt_size e)) (Heap.get?_push_of_some _ e)
 have gD:h₂.get? h₁.objs.size=some (listOf ([]:List Value).toArray 0):=old _ _ (Heap.get?_push_size _ rfl)
 replace old:=fun b o (e:h₁.get? b=some o)=>old b o (Heap.get?_push_of_some _ e)
 clear hsb₂
 dsimp only at hns₂ ⊢
 have hDC:h₁.objs.size<(h₁.push ({ cls:=.type "list",dict:=none,data:=.seq ([]:List Value).toArray }:Obj)).objs.size:=hsz▸Nat.lt_succ_self _
 generalize (h₁.push ({ cls:=.type "list",dict:=none,data:=.seq ([]:List Value).toArray }:Obj)).objs.size=C at *
 have none₁:∀ b,h₁.objs.size≤b→μ₁ b=none:=fun b hb=>by
  cases q:μ₁ b with
  | none=>rfl
  | some mo=>exact absurd (S₁.lt q) (Nat.not_lt.mpr hb)
 have xx:Ext G μ₁ h₁ μ₁ h₂:=fun b o hb e=>⟨.inl (old b o e),hb⟩
 have st₂:St 0 μ₁ h₂:=W.frame 0 μ₁ h₁ μ₁ h₂ st₁ (fun b _ o e=>old b o e) xx.t
 have liveOwn:∀ b∈own,b<h₁.objs.size:=fun b hb=>let ⟨o,e,_⟩:=W.live 0 μ₁ h₁ st₁ b hb; Heap.lt_size e
 have fin:=comp_loop (elt:=elt) (iter:=iter) (pos:=pos) (tk:=tk₁) (R:=RR (.ref h₁.objs.size) C) H (x₁.trans xx) (S₁.keep (fun b o _ e=>old b o e) xx.t) W st₂ ho ok hN j0 spec hkind ((H.inv.ext x₁ S₁).fresh (Nat.le_of_lt hDC)) (x₁.fresh (Nat.le_of_lt hDC)) (x₁.fresh (Nat.le_refl _)) (Nat.ne_of_lt hDC)
  (fun z=>absurd (liveOwn _ z) (Nat.not_lt.mpr (Nat.le_of_lt hDC))) (fun z=>Nat.lt_irrefl _ (liveOwn _ z)) (none₁ _ (Nat.le_of_lt hDC)) (none₁ _ (Nat.le_refl _)) gD hns₂
  fun h' tk μ' ys j ds m x S d c g r hn f=>hRR _ _ h' tk μ' ys j ds m x S d c (Nat.ne_of_lt hDC) (x₁.fresh (Nat.le_of_lt hDC)) (x₁.fresh (Nat.le_refl _)) g r hn f
 exact codeAny_compStart_list fin (W.self 0 _ _ _ _ st₂ fin)
end
section
variable {G:Gd}{n:Nat}{cx:Cx}{μ μ₁ μ':Mem}{A:Around}{fenv env:Env}{h₀:List Addr}{h h₁ h':Heap}{L:Addr}{s:Shared}
theorem track_list {h' h'':Heap}{C D:Addr}{ys:List Value}{ds:List MV}{j:Nat}{m:Str→Option Value} (x':Ext G μ h μ' h') (S':Sim G μ' h') (mD:μ' D=none) (mC:μ' C=none) (hDC:D≠C) (fC:∀ o,h.get? C=some o→μ C≠none) (fD:∀ o,h.get? D=some o→μ D≠none)
 (gD:h'.get? D=some (listOf ys.toArray j)) (rv:VRs μ' h' ys ds) (hn:h'.Ns C m) (hs:Heap.SameBut C h' h''):Ext G μ h (upd μ' D (.list ds)) h''∧Sim G (upd μ' D (.list ds)) h'':=by
 have t:TExt μ' h' (upd μ' D (.list ds)) h'':=fun b o hb e ht=>by
  have nC:b≠C:=fun z=>by
   subst z
   refine ex3_3 (hn) fun o' es ep ho hd _=>?_
   rw[ho] at e; cases e
   obtain⟨_,xs,k,hs⟩:=ht
   rw[hd] at hs; cases hs
  have nD:b≠D:=fun z=>by
   subst z; rw[gD] at e; cases e; exact absurd ht.1 (by show Value.type "list"≠_; decide)
  exact⟨(hs.2 b nC).trans e,(upd_ne _ _ nD).trans hb⟩
 refine⟨fun b o hb e=>?_,fun b mb q=>?_⟩
 · refine and2 (x' b o hb e) fun e1 e2=>?_
   exact⟨e1.trans fun o' e'=>.inl ((hs.2 b (fun z=>fC o (z▸e) (z▸hb))).trans e'),(upd_ne _ _ (fun z:b=D=>fD o (z▸e) (z▸hb))).trans e2⟩
 · by_cases z:b=D
   · subst z
     rw[upd_same] at q; cases q
     exact⟨ys,j,(hs.2 b hDC).trans gD,rv.ext t⟩
   · rw[upd_ne _ _ z] at q
     exact(S' b mb q).at (hs.2 b (fun w=>by rw[w,mC] at q; cases q)) t
noncomputable abbrev CompK (G:Gd) (n:Nat) (sc:Scope) (scope:Scope) (cl:List (Str×Addr)) (target elt:Expr) (ifs:List Expr) (Fin:List MV→Mem→Prop):(Nat→Mem→Option MV→Prop)→Bool→Mem→Prop:=fun item nt μ₁=>OkT nt target∧∃(N:Nat) (J:Nat→List MV→Mem→Prop),N≤16777216∧J 0 [] μ₁∧CompSpec G n scope cl sc target elt ifs item N J Fin
noncomputable abbrev NewLK (Φ:MV→Mem→Prop):List MV→Mem→Prop:=fun ds μ=>∀ a,μ a=Option.none→Φ (.ref a) (upd μ a (.list ds))
theorem WpE.comp {sc:Scope}{cl0:List (Str×Addr)}{ρ0:List (Str×MV)}{elt target iter:Expr}{ifs:List Expr}{scope:Scope}{pos:Pos} (cl:List (Str×Addr)) {Φ:MV→Mem→Prop}
 (p:WpIt G n ⟨sc,cl0,ρ0⟩ μ iter (CompK G n sc scope cl target elt ifs (NewLK Φ)))
 (hclos:∀ env:Env,env.scope=sc→env.cells=cl0→closureFor scope env=pure cl)
 (hcell:∀ y∈scope.names,y.2≠.cell:=by decide) (hkind:scope.kind=.function:=by rfl) (hnames:∀ x∈scope.names,x.2=.local→scope.names.lookup x.1=some .local:=by decide)
 (hs:∀ env x,foldedSetIterable iter env x=pure x:=by intro _ _; rfl):WpE G n ⟨sc,cl0,ρ0⟩ μ (.ListComp elt [⟨target,iter,ifs,0⟩] scope pos) Φ:=fun A fenv h₀ L env s H=>by
 rw[eval_ListComp]
 refine wpAny_comprehension_free (use:=Option.none) (g:=⟨target,iter,ifs,0⟩) rfl (hs env) (hclos env H.eok.scope H.eok.cells) hkind hnames (wpAny_mono (p A fenv h₀ L env s H) (fun xv s₁ q=>wpAny_mono q (fun it s₂ q=>?_) fun _ _ f=>f) fun _ _ f=>f)
 refine q.elim fun I own St item nt μ₁ h₁ tk₁ x₁ S₁ W st₁ ho qq=>?_
 refine and2 qq fun ok qq=>ex2_3 qq fun N J hN j0 spec=>?_
 refine comp_core (RR:=fun acc C=>compPost (model G.prog G.w) A NoE Option.none (PostE G μ s Φ) acc C) H x₁ S₁ W st₁ ho ok hN j0 spec hcell hkind ?_
 intro D C h' tk μ' ys j ds m x' S' mD mC hDC fC fD gD rv hn fin
 refine⟨m,hn,fun h'' hs=>?_⟩
 refine and2 (track_list x' S' mD mC hDC fC fD gD rv hn hs) fun x2 S2=>?_
 exact⟨.ref D,_,h'',tk,rfl,x2,S2,.ref D,fin D mD⟩
theorem WpS1.assignComp {sc:Scope}{cl0:List (Str×Addr)}{ρ0:List (Str×MV)}{y:Str}{py spos:Pos}{elt target iter:Expr}{ifs:List Expr}{scope:Scope}{pos:Pos} (cl:List (Str×Addr)) {Φ:MF→List (Str×MV)→Mem→Prop}
 (p:WpIt G n ⟨sc,cl0,ρ0⟩ μ iter (CompK G n sc scope cl target elt ifs (NewLK (AsgK ρ0 y Φ))))
 (hclos:∀ env:Env,env.scope=sc→env.cells=cl0→closureFor scope env=pure cl)
 (hsw:∀ env:Env,env.scope=sc→swapsWith (.ListComp elt [⟨target,iter,ifs,0⟩] scope pos) (some (.Name y py)) spos.line env=pure true:=by(intro env h; obtain⟨sc,_,_,_,_,_,_,_,_⟩:=env; cases h; rfl))
 (hx:sc.names.lookup y=some .local:=by rfl)
 (hcell:∀ y∈scope.names,y.2≠.cell:=by decide) (hkind:scope.kind=.function:=by rfl) (hnames:∀ x∈scope.names,x.2=.local→scope.names.lookup x.1=some .local:=by decide)
 (hs:∀ env x,foldedSetIterable iter env x=pure x:=by intro _ _; rfl):WpS1 G n ⟨sc,cl0,ρ0⟩ μ (.Assign [.Name y py] (.ListComp elt [⟨target,iter,ifs,0⟩] scope pos) spos) Φ:=fun A h₀ env s H=>by
 rw[exec_Assign_Name_used _ _ _ _ (hsw env H.eok.scope)]
 refine wpAny_bind (wpAny_standAt (wpAny_bind ?_))
 show wpAny _ A (do let _ ← comprehension (.ListComp elt [⟨target,iter,ifs,0⟩] scope pos) scope env _ (newList []) false (eval iter env) (some (PySem.assign (.Name y py) env))) _ _ s
 refine wpAny_bind (wpAny_mono (wpAny_comprehension_free (use:=some (PySem.assign (.Name y py) env)) (Q:=fun _ s'=>PostS G env μ s Φ .next s') (g:=⟨target,iter,ifs,0⟩) rfl (hs env) (hclos env H.eok.scope H.eok.cells) hkind hnames (wpAny_mono (p A env h₀ _ env s H.here) (fun xv s₁ q=>wpAny_mono q (fun it s₂ q=>?_) fun _ _ f=>f) fun _ _ f=>f)) (fun _ s' hq=>wpAny_pure (wpAny_pure hq)) fun _ _ e=>e)
 refine q.elim fun I own St item nt μ₁ h₁ tk₁ x₁ S₁ W st₁ ho qq=>?_
 refine and2 qq fun ok qq=>ex2_3 qq fun N J hN j0 spec=>?_
 refine comp_core (RR:=fun acc C=>compPost (model G.prog G.w) A NoE (some (PySem.assign (.Name y py) env)) (fun _ s'=>PostS G env μ s Φ .next s') acc C) H.here x₁ S₁ W st₁ ho ok hN j0 spec hcell hkind ?_
 intro D C h' tk μ' ys j ds m x' S' mD mC hDC fC fD gD rv hn fin
 obtain⟨mL,oL,_,_,hL,_⟩:=H.loc.live
 have nLC:env.locals≠C:=fun z=>fC oL (z▸hL) (z▸H.inv.curr)
 have nLD:env.locals≠D:=fun z=>fD oL (z▸hL) (z▸H.inv.curr)
 have H':HereS G n ⟨sc,cl0,ρ0⟩ μ' A h₀ env h':=H.ext x' S'
 refine and2 (track_list x' S' mD mC hDC fC fD gD rv hn (Heap.SameBut.refl _ _)) fun x2 S2=>?_
 have H2:HereS G n ⟨sc,cl0,ρ0⟩ (upd μ' D (.list ds)) A h₀ env h':=H.ext x2 S2
 have mC2:upd μ' D (.list ds) C=Option.none:=(upd_ne _ _ (Ne.symm hDC)).trans mC
 show wpAny _ A (PySem.assign (.Name y py) env (.ref D)) _ _ _
 refine ex1_2 (H2.loc) fun m0 hn0 hm0=>?_
 refine wpAny_assign_Name (wpAny_storeName_local (by unfold Env.kindOf; rw[H.eok.scope]; exact hx) hn0 (fun h₂ hn₂ hs₂=>?_) (by rw[H.eok.kind]; rfl))
 have hs₂:Heap.SameBut env.locals h' h₂:=hs₂
 have hnC₂:=hn.sameBut hs₂ (Ne.symm nLC)
 refine⟨m,hnC₂,fun h₃ hs₃=>?_⟩
 have hs₃:Heap.SameBut C h₂ h₃:=hs₃
 have xb:ExtB G env.locals (upd μ' D (.list ds)) h' (upd μ' D (.list ds)) h₂:=extB_of_sameBut hs₂
 have tb:=xb.t ⟨m0,hn0⟩
 have S₂:Sim G (upd μ' D (.list ds)) h₂:=S2.keep (fun b o hb e=>(hs₂.2 b (fun z=>by rw[z] at hb; exact hb H2.inv.curr)).trans e) tb
 have l₂:LocOk env ((y,.ref D)::ρ0) (upd μ' D (.list ds)) h₂:=LocOk.put hm0 tb hn₂ (.ref D)
 have xc:ExtB G C (upd μ' D (.list ds)) h₂ (upd μ' D (.list ds)) h₃:=extB_of_sameBut hs₃
 have tc:=xc.t ⟨m,hnC₂⟩
 have S₃:Sim G (upd μ' D (.list ds)) h₃:=S₂.keep (fun b o hb e=>(hs₃.2 b (fun z=>by rw[z] at hb; exact hb mC2)).trans e) tc
 refine⟨.next,(y,.ref D)::ρ0,_,h₃,tk+1,rfl,fun b o nb hb e=>?_,H2.inv.curr,S₃,?_,.next,fin D mD⟩
 · refine and2 (x2 b o hb e) fun e1 e2=>?_
   exact⟨e1.trans fun o' e'=>.inl ((hs₃.2 b (fun z=>fC o (z▸e) (z▸hb))).trans ((hs₂.2 b nb).trans e')),e2⟩
 · refine ex1_2 (l₂) fun m1 zq1 hm=>?_
   obtain⟨o,es,ep,ho',r'⟩:=zq1
   exact⟨m1,⟨o,es,ep,(hs₃.2 _ nLC).trans ho',r'⟩,fun y d e=>let ⟨v,h1,h2⟩:=hm y d e; ⟨v,h1,h2.ext tc⟩⟩
end
mutual
noncomputable def dat:MV→PyData
 | .none=>.none
 | .bool b=>.bool b
 | .int i=>.int i
 | .str x=>.str x
 | .tup l=>.tuple (dats l)
 | .ref _=>.none
noncomputable def dats:List MV→List PyData
 | []=>[]
 | d::ds=>dat d::dats ds
end
mutual
noncomputable def MV.ok:MV→Bool
 | .int _=>true
 | .str x=>PyData.strOk x
 | .tup l=>MV.oks l
 | .none=>false
 | .bool _=>false
 | .ref _=>false
noncomputable def MV.oks:List MV→Bool
 | []=>true
 | d::ds=>MV.ok d && MV.oks ds
end
theorem oks_iff:∀{ds:List MV},MV.oks ds=true↔∀ d∈ds,d.ok=true
 | []=>by simp[MV.oks]
 | d::ds=>by simp[MV.oks,oks_iff (ds:=ds)]
mutual
theorem dat_lay:∀{d:MV},d.ok=true→(dat d).canLay0=true
 | .int _,_=>rfl
 | .str x,h=>by simpa[dat,PyData.canLay0,MV.ok] using h
 | .tup l,h=>by simp only[dat,PyData.canLay0]; exact dats_lay (by simpa[MV.ok] using h)
 | .none,h=>by simp[MV.ok] at h
 | .bool _,h=>by simp[MV.ok] at h
 | .ref _,h=>by simp[MV.ok] at h
theorem dats_lay:∀{ds:List MV},MV.oks ds=true→PyData.canLayAll0 (dats ds)=true
 | [],_=>rfl
 | d::ds,h=>by
  simp only[MV.oks,Bool.and_eq_true] at h
  simp only[dats,PyData.canLayAll0,dat_lay h.1,dats_lay h.2,Bool.and_self]
end
mutual
theorem dat_eqv:∀{d e:MV},d.ok=true→e.ok=true→(PyData.eqv (dat d) (dat e)=true↔d=e)
 | .int i,.int j,_,_=>by simp[dat,PyData.eqv]
 | .int i,.str j,_,_=>by simp[dat,PyData.eqv]
 | .int i,.tup j,_,_=>by simp[dat,PyData.eqv]
 | .str i,.int j,_,_=>by simp[dat,PyData.eqv]
 | .str i,.str j,_,_=>by simp[dat,PyData.eqv]
 | .str i,.tup j,_,_=>by simp[dat,PyData.eqv]
 | .tup i,.int j,_,_=>by simp[dat,PyData.eqv]
 | .tup i,.str j,_,_=>by simp[dat,PyData.eqv]
 | .tup i,.tup j,h,k=>by
  simp only[dat,PyData.eqv,MV.tup.injEq]
  exact dats_eqv (by simpa[MV.ok] using h) (by simpa[MV.ok] using k)
 | .none,_,h,_=>by simp[MV.ok] at h
 | .bool _,_,h,_=>by simp[MV.ok] at h
 | .ref _,_,h,_=>by simp[MV.ok] at h
 | .int _,.none,_,h=>by simp[MV.ok] at h
 | .int _,.bool _,_,h=>by simp[MV.ok] at h
 | .int _,.ref _,_,h=>by simp[MV.ok] at h
 | .str _,.none,_,h=>by simp[MV.ok] at h
 | .str _,.bool _,_,h=>by simp[MV.ok] at h
 | .str _,.ref _,_,h=>by simp[MV.ok] at h
 | .tup _,.none,_,h=>by simp[MV.ok] at h
 | .tup _,.bool _,_,h=>by simp[MV.ok] at h
 | .tup _,.ref _,_,h=>by simp[MV.ok] at h
theorem dats_eqv:∀{ds es:List MV},MV.oks ds=true→MV.oks es=true→(PyData.eqvAll (dats ds) (dats es)=true↔ds=es)
 | [],[],_,_=>by simp[dats,PyData.eqvAll]
 | [],_::_,_,_=>by simp[dats,PyData.eqvAll]
 | _::_,[],_,_=>by simp[dats,PyData.eqvAll]
 | d::ds,e::es,h,k=>by
  simp only[MV.oks,Bool.and_eq_true] at h k
  simp only[dats,PyData.eqvAll,Bool.and_eq_true,List.cons.injEq,dat_eqv h.1 k.1,dats_eqv h.2 k.2]
end
section
variable {μ:Mem}{h:Heap}
theorem VR.reads {v:Value}{d:MV} (r:VR μ h v d):d.ok=true→Reads h v (dat d) []:=
 VR.rec (motive_1:=fun v d _=>d.ok=true→Reads h v (dat d) []) (motive_2:=fun vs ds _=>MV.oks ds=true→ReadsAll h vs (dats ds) []) (fun k=>nomatch k) (fun _ k=>nomatch k) (fun i t _=>.int i t) (fun x t _=>.str x t) (fun _ k=>nomatch k) (fun _ e _ ih k=>.tuple e rfl rfl (ih k)) (fun _=>.nil) (fun _ _ a b k=>ReadsAll.cons (a (Bool.and_eq_true_iff.mp k).1) (b (Bool.and_eq_true_iff.mp k).2)) r
theorem VRs.reads {v:List Value}{d:List MV} (r:VRs μ h v d):MV.oks d=true→ReadsAll h v (dats d) []:=
 VRs.rec (motive_1:=fun v d _=>d.ok=true→Reads h v (dat d) []) (motive_2:=fun vs ds _=>MV.oks ds=true→ReadsAll h vs (dats ds) []) (fun k=>nomatch k) (fun _ k=>nomatch k) (fun i t _=>.int i t) (fun x t _=>.str x t) (fun _ k=>nomatch k) (fun _ e _ ih k=>.tuple e rfl rfl (ih k)) (fun _=>.nil) (fun _ _ a b k=>ReadsAll.cons (a (Bool.and_eq_true_iff.mp k).1) (b (Bool.and_eq_true_iff.mp k).2)) r
end
mutual
noncomputable def MV.deep:MV→Nat
 | .tup l=>MV.deeps l+1
 | .int _=>0
 | .str _=>0
 | .none=>0
 | .bool _=>0
 | .ref _=>0
noncomputable def MV.deeps:List MV→Nat
 | []=>0
 | d::ds=>max (MV.deep d) (MV.deeps ds)
end
mutual
theorem dat_depth:∀ d:MV,(dat d).depth=d.deep
 | .int _=>rfl
 | .str _=>rfl
 | .none=>rfl
 | .bool _=>rfl
 | .ref _=>rfl
 | .tup l=>by simp only[dat,PyData.depth,MV.deep,dats_depth l]
theorem dats_depth:∀ ds:List MV,PyData.depthAll (dats ds)=MV.deeps ds
 | []=>rfl
 | d::ds=>by simp only[dats,PyData.depthAll,MV.deeps,dat_depth d,dats_depth ds]
end
theorem eqv_symm_any {ds:List MV}{d:MV} (hds:MV.oks ds=true) (hd:d.ok=true):((dats ds).any fun y=>PyData.eqv y (dat d))=true↔d∈ds:=by
 induction ds with
 | nil=>simp[dats]
 | cons e es ih=>
  simp only[MV.oks,Bool.and_eq_true] at hds
  simp only[dats,List.any_cons,Bool.or_eq_true,ih hds.2,dat_eqv hds.1 hd,List.mem_cons]
  constructor
  · rintro(rfl | h)
    · exact .inl rfl
    · exact .inr h
  · rintro(rfl | h)
    · exact .inl rfl
    · exact .inr h
section
variable {G:Gd}{n:Nat}{cx:Cx}{μ μ':Mem}{A:Around}{fenv env:Env}{h₀:List Addr}{h h':Heap}{L:Addr}{s:Shared}{Φ:MV→Mem→Prop}
theorem post_keep {h':Heap}{tk:Nat}{v:Value}{d:MV} (S:Sim G μ s.heap) (k:∀ b o,s.heap.get? b=some o→h'.get? b=some o) (r:VR μ h' v d) (q:Φ d μ):PostE G μ s Φ v { s with heap:=h',toks:=tk }:=
 have x:Ext G μ s.heap μ h':=fun b o hb e=>⟨.inl (k b o e),hb⟩
 ⟨d,μ,h',tk,rfl,x,S.keep (fun b o _ e=>k b o e) x.t,r,q⟩
theorem post_list {h':Heap}{tk j:Nat}{a:Addr}{vs:List Value}{ds:List MV} (S:Sim G μ s.heap) (k:∀ b o,s.heap.get? b=some o→h'.get? b=some o) (f:s.heap.get? a=none) (g:h'.get? a=some (listOf vs.toArray j)) (r:VRs μ s.heap vs ds) (q:∀ a,μ a=none→Φ (.ref a) (upd μ a (.list ds))):PostE G μ s Φ (.ref a) { s with heap:=h',toks:=tk }:=by
 have ma:μ a=none:=by
  cases z:μ a with
  | none=>rfl
  | some mo=>obtain⟨o,e⟩:=(S a mo z).live; rw[f] at e; cases e
 have x:Ext G μ s.heap (upd μ a (.list ds)) h':=fun b o hb e=>⟨.inl (k b o e),(upd_ne _ _ (fun z=>by rw[z,f] at e; cases e)).trans hb⟩
 refine⟨_,_,h',tk,rfl,x,fun b mb e=>?_,.ref a,q a ma⟩
 by_cases z:b=a
 · subst z; rw[upd_same] at e; cases e; exact⟨vs,j,g,r.ext x.t⟩
 · rw[upd_ne _ _ z] at e
   refine ex1_1 ((S b mb e).live) fun o e'=>?_
   exact(S b mb e).at ((k b o e').trans e'.symm) x.t
theorem post_upd {h':Heap}{tk:Nat}{a:Addr}{v:Value}{d:MV}{mo₀ mo:MO} (S:Sim G μ s.heap) (e:μ a=some mo₀) (hs:Heap.SameBut a s.heap h') (r:MR G (upd μ a mo) h' a mo) (rv:VR μ s.heap v d) (q:Φ d (upd μ a mo)):PostE G μ s Φ v { s with heap:=h',toks:=tk }:=
 have x:=ext_upd (G:=G) e hs mo
 ⟨d,_,h',tk,rfl,x,S.upd e hs r,rv.ext x.t,q⟩
theorem fresh_size (h:Heap):h.get? h.objs.size=none:=Heap.get?_none_of_le (Nat.le_refl _)
theorem o_inL {a:Addr}{ds:List MV}{d:MV} (e:μ a=some (.list ds)) (hds:MV.oks ds=true) (hd:d.ok=true) (hp:d.deep≤30) (q:∀ c,(c=true↔d∈ds)→Φ (.bool c) μ):WpO2 G (n+1) μ d (.ref a) (compareOp .In) Φ:=fun A fenv h₀ L s am i va vb ra rb=>by
 rw[rb.isRef]
 refine ex2_2 (i.list e) fun vs m g r=>?_
 have hr:Reads s.heap (.ref a) (.list (dats ds)) (a::[]):=.list g rfl rfl (by simpa using r.reads hds)
 exact SeqAt.in_list_reads hr (ra.reads hd) (dats_lay hds) (dat_lay hd) (by rw[dat_depth]; exact ωq hp am.uns) (PostE.same (tk:=s.toks) i.sim (.bool _) (q _ (eqv_symm_any hds hd)))
theorem o_notinL {a:Addr}{ds:List MV}{d:MV} (e:μ a=some (.list ds)) (hds:MV.oks ds=true) (hd:d.ok=true) (hp:d.deep≤30) (q:∀ c,(c=true↔d∉ds)→Φ (.bool c) μ):WpO2 G (n+1) μ d (.ref a) (compareOp .NotIn) Φ:=fun A fenv h₀ L s am i va vb ra rb=>by
 rw[rb.isRef]
 refine ex2_2 (i.list e) fun vs m g r=>?_
 have hr:Reads s.heap (.ref a) (.list (dats ds)) (a::[]):=.list g rfl rfl (by simpa using r.reads hds)
 refine SeqAt.notIn_list_reads hr (ra.reads hd) (dats_lay hds) (dat_lay hd) (by rw[dat_depth]; exact ωq hp am.uns) (PostE.same (tk:=s.toks) i.sim (.bool _) (q _ ?_))
 rw[Bool.not_eq_true',← Bool.not_eq_true,eqv_symm_any hds hd]
theorem o_eqL {a b:Addr}{ds es:List MV} (e:μ a=some (.list ds)) (e2:μ b=some (.list es)) (hds:MV.oks ds=true) (hes:MV.oks es=true) (hp:MV.deeps ds≤30) (q:∀ c,(c=true↔ds=es)→Φ (.bool c) μ):WpO2 G (n+1) μ (.ref a) (.ref b) (compareOp .Eq) Φ:=fun A fenv h₀ L s am i va vb ra rb=>by
 rw[rb.isRef,ra.isRef]
 refine ex2_2 (i.list e) fun vs m g r=>?_
 refine ex2_2 (i.list e2) fun vs2 m2 g2 r2=>?_
 have hr:Reads s.heap (.ref a) (.list (dats ds)) (a::[]):=.list g rfl rfl (by simpa using r.reads hds)
 have hr2:Reads s.heap (.ref b) (.list (dats es)) (b::[]):=.list g2 rfl rfl (by simpa using r2.reads hes)
 refine SeqAt.compareEq_reads hr hr2 (by simp only[PyData.canLay0]; exact dats_lay hds) (by simp only[PyData.canLay0]; exact dats_lay hes) (by simp only[PyData.depth,dats_depth]; have:=am.uns; exact ω18 this hp) (PostE.same (tk:=s.toks) i.sim (.bool _) (q _ ?_))
 simp only[PyData.eqv]
 exact dats_eqv hds hes
theorem o_inD {a:Addr}{es:List (Str×MV)}{x:Str} (e:μ a=some (.sdict es)) (q:Φ (.bool (atM es x).isSome) μ):WpO2 G n μ (.str x) (.ref a) (compareOp .In) Φ:=fun A fenv h₀ L s am i va vb ra rb=>by
 rw[rb.isRef]; obtain⟨u,rfl⟩:=ra.isStr
 refine ex1_3 (i.sim a _ e) fun kvs hd r hsm=>?_
 refine wpAny_in_of (strKind_is G.prog G.w x u) hsm hd.mapOf ?_
 have:(valueAt kvs x).isSome=(atM es x).isSome:=by
  rcases r.find x with ⟨h1,h2⟩ | ⟨v,d',h1,h2,_⟩
  · rw[h1,h2]; rfl
  · rw[h1,h2]; rfl
 rw[this]
 exact PostE.same i.sim (.bool _) q
theorem o_notinD {a:Addr}{es:List (Str×MV)}{x:Str} (e:μ a=some (.sdict es)) (q:Φ (.bool (!(atM es x).isSome)) μ):WpO2 G n μ (.str x) (.ref a) (compareOp .NotIn) Φ:=fun A fenv h₀ L s am i va vb ra rb=>by
 rw[rb.isRef]; obtain⟨u,rfl⟩:=ra.isStr
 refine ex1_3 (i.sim a _ e) fun kvs hd r hsm=>?_
 refine wpAny_notIn_of (strKind_is G.prog G.w x u) hsm hd.mapOf ?_
 have:(valueAt kvs x).isSome=(atM es x).isSome:=by
  rcases r.find x with ⟨h1,h2⟩ | ⟨v,d',h1,h2,_⟩
  · rw[h1,h2]; rfl
  · rw[h1,h2]; rfl
 rw[this]
 exact PostE.same i.sim (.bool _) q
theorem o_inS {x y:Str} (q:Φ (.bool (!(Builtin.Str.occurrences x y 0 x.length 1).isEmpty)) μ):WpO2 G n μ (.str y) (.str x) (compareOp .In) Φ:=fun A fenv h₀ L s am i va vb ra rb=>by
 obtain⟨u,rfl⟩:=rb.isStr; obtain⟨t,rfl⟩:=ra.isStr
 exact P.in_str (PostE.same (tk:=s.toks) i.sim (.bool _) q)
theorem o_neqS {x y:Str} (q:Φ (.bool (!(x == y))) μ):WpO2 G n μ (.str x) (.str y) (compareOp .NotEq) Φ:=fun A fenv h₀ L s am i va vb ra rb=>by
 obtain⟨u,rfl⟩:=rb.isStr; obtain⟨t,rfl⟩:=ra.isStr
 exact PyProof.Rows.ne_str (PostE.same (tk:=s.toks) i.sim (.bool _) q)
theorem o_len_list {a:Addr}{ds:List MV} (e:μ a=some (.list ds)) (hl:ds.length<2 ^ 62) (q:Φ (.int ds.length) μ):WpOs G n μ [.ref a] (fun vs=>call (.builtin "len") vs) Φ:=fun A fenv h₀ L s am i vs rs=>by
 cases rs with | cons ra rs=>cases rs with | nil=>
 rw[ra.isRef]
 refine ex2_2 (i.list e) fun ws m g r=>?_
 have hsz:ws.toArray.size=ds.length:=by rw[List.size_toArray,r.length]
 refine call_len_list (isList_of g) (by rw[hsz]; exact ω0 hl) ?_
 rw[hsz]
 exact PostE.same i.sim (.int _ _) q
theorem o_len_tup {ds:List MV} (hl:ds.length<2 ^ 62) (q:Φ (.int ds.length) μ):WpOs G n μ [.tup ds] (fun vs=>call (.builtin "len") vs) Φ:=fun A fenv h₀ L s am i vs rs=>by
 cases rs with | cons ra rs=>cases rs with | nil=>
 refine ex3_4 (ra.isTup) fun a ws m zr3 hm g r=>?_
 obtain rfl:=zr3
 have hsz:ws.toArray.size=ds.length:=by rw[List.size_toArray,r.length]
 refine len_tuple (isTup_of g) (by rw[hsz]; exact ω0 hl) ?_
 rw[hsz]
 exact PostE.same i.sim (.int _ _) q
theorem o_len_str {x:Str} (hl:x.length<2 ^ 62) (q:Φ (.int x.length) μ):WpOs G n μ [.str x] (fun vs=>call (.builtin "len") vs) Φ:=fun A fenv h₀ L s am i vs rs=>by
 cases rs with | cons ra rs=>cases rs with | nil=>
 refine ex1_1 (ra.isStr) fun t zr1=>?_
 obtain rfl:=zr1
 exact PyProof.Rows.len_str (ω19 hl) (PostE.same i.sim (.int _ _) q)
theorem o_tuple_list {a:Addr}{ds:List MV} (e:μ a=some (.list ds)) (hl:ds.length≤16777216) (q:Φ (.tup ds) μ):WpOs G n μ [.ref a] (fun vs=>call (.type "tuple") vs) Φ:=fun A fenv h₀ L s am i vs rs=>by
 cases rs with | cons ra rs=>cases rs with | nil=>
 rw[ra.isRef]
 refine ex2_2 (i.list e) fun ws m g r=>?_
 have hsz:ws.toArray.size≤sizeLine:=by rw[List.size_toArray,r.length]; exact hl
 refine call_tuple_list (hsz:=hsz) (isList_of g) fun h' hk=>?_
 have k:∀ b o,s.heap.get? b=some o→(h'.push { cls:=.type "tuple",data:=.seq ws.toArray }).get? b=some o:=fun b o e=>Heap.get?_push_of_some _ (hk b o e)
 have x:Ext G μ s.heap μ (h'.push { cls:=.type "tuple",data:=.seq ws.toArray }):=fun b o hb e=>⟨.inl (k b o e),hb⟩
 refine post_keep (tk:=s.toks) i.sim k (.tup ?_ (Heap.get?_push_size _ rfl) (r.ext x.t)) q
 cases z:μ h'.objs.size with
 | none=>rfl
 | some mo=>obtain⟨o,e⟩:=(i.sim _ mo z).live; exact absurd (Heap.lt_size (hk _ _ e)) (Nat.lt_irrefl _)
theorem o_list_tup {ds:List MV} (hl:ds.length≤16777216) (q:∀ a,μ a=none→Φ (.ref a) (upd μ a (.list ds))):WpOs G n μ [.tup ds] (fun vs=>call (.type "list") vs) Φ:=fun A fenv h₀ L s am i vs rs=>by
 cases rs with | cons ra rs=>cases rs with | nil=>
 refine ex3_4 (ra.isTup) fun a ws m zr3 hm g r=>?_
 obtain rfl:=zr3
 have hsz:ws.toArray.size≤sizeLine:=by rw[List.size_toArray,r.length]; exact hl
 exact call_list_seq (hsz:=hsz) a (.inr rfl) g rfl rfl fun h' c' hk hD=>post_list (tk:=s.toks) i.sim hk (fresh_size _) hD r q
theorem o_addL {a b:Addr}{ds es:List MV} (e:μ a=some (.list ds)) (e2:μ b=some (.list es)) (hl:ds.length+es.length≤16777216) (q:∀ a,μ a=none→Φ (.ref a) (upd μ a (.list (ds++es)))):WpO2 G n μ (.ref a) (.ref b) (binaryOp .Add) Φ:=fun A fenv h₀ L s am i va vb ra rb=>by
 rw[ra.isRef,rb.isRef]
 refine ex2_2 (i.list e) fun vs m g r=>?_
 refine ex2_2 (i.list e2) fun ws m2 g2 r2=>?_
 have hsz:vs.length+ws.length≤sizeLine:=by rw[r.length,r2.length]; exact hl
 have e':vs.toArray++ws.toArray=(vs++ws).toArray:=by simp
 refine concat_meets ⟨_,g,rfl⟩ ⟨_,g2,rfl⟩ noFill_list_add seq_list_add PySem.F.slot_list_add PySem.F.entry_list_add (PySem.F.args_list_add_2 _ _) (list_addW a b vs.toArray ws.toArray m m2 none none #[] #[] (by simpa using hsz)) ⟨g,g2,?_⟩
 rw[e']
 exact post_list (tk:=s.toks) i.sim (fun b o e=>Heap.get?_push_of_some _ e) (fresh_size _) (Heap.get?_push_size _ rfl) (r.append r2) q
end
section
variable {G:Gd}{n:Nat}{cx:Cx}{μ μ':Mem}{A:Around}{fenv env:Env}{h₀:List Addr}{h h':Heap}{L:Addr}{s:Shared}{Φ:MV→Mem→Prop}
theorem mapSeq_list (f:Array Value→Array Value) (its:Array Value) (k:Nat):∃ j,Obj.mapSeq f (listOf its k)=listOf (f its) j:=by
 exact⟨_,rfl⟩
theorem o_append {a:Addr}{ds:List MV}{d:MV} (e:μ a=some (.list ds)) (hl:ds.length≤16777216) (q:Φ .none (upd μ a (.list (ds++[d])))):WpOs G n μ [.ref a,d] (fun vs=>call (.builtin "list.append") vs) Φ:=fun A fenv h₀ L s am i vs rs=>by
 cases rs with | cons ra rs=>cases rs with | cons rd rs=>cases rs with | nil=>
 rename_i v
 rw[ra.isRef]
 refine ex2_2 (i.list e) fun ws m g r=>?_
 have hz:ws.toArray.size≤sizeLine:=by rw[List.size_toArray,r.length]; exact hl
 refine append_at (hsz:=hz) g fun h' hs g'=>post_upd (tk:=s.toks) i.sim e hs ?_ .none q
 have x:=ext_upd (G:=G) e hs (.list (ds++[d]))
 have:(ws++[v]).toArray=ws.toArray.push v:=by simp
 exact⟨ws++[v],m+1,by rw[this]; exact g',(r.ext x.t).append (.one (rd.ext x.t))⟩
theorem o_pop0 {a:Addr}{ds:List MV}{d:MV} (e:μ a=some (.list (d::ds))) (hl:ds.length<16777216) (q:Φ d (upd μ a (.list ds))):WpOs G n μ [.ref a,.int 0] (fun vs=>call (.builtin "list.pop") vs) Φ:=fun A fenv h₀ L s am i vs rs=>by
 cases rs with | cons ra rs=>cases rs with | cons rd rs=>cases rs with | nil=>
 rw[ra.isRef]
 refine ex1_1 (rd.isInt) fun t zr1=>?_
 obtain rfl:=zr1
 refine ex2_2 (i.list e) fun ws m g r=>?_
 cases r with | cons r0 r=>
 rename_i v ws
 have hz:(v::ws).toArray.size≤sizeLine:=by rw[List.size_toArray,List.length_cons,r.length]; exact hl
 refine call_meets PySem.F.slot_list_pop ⟨_,g,rfl⟩ PySem.F.entry_list_pop (PySem.F.args_list_pop_2 _ _) (MeetsSeq.list_pop_at a (v::ws).toArray m 0 t 0 v (by decide) (by simp[seqIndex?]) (by simp) hz) ⟨g,?_⟩
 refine ex1_1 (mapSeq_list (fun xs=>xs.eraseIdxIfInBounds 0) (v::ws).toArray m) fun j hj=>?_
 have g':=Heap.get?_update_self (Obj.mapSeq fun xs=>xs.eraseIdxIfInBounds 0) g (by rw[hj]; rfl)
 rw[hj] at g'
 have hs:Heap.SameBut a s.heap (s.heap.update a (Obj.mapSeq fun xs=>xs.eraseIdxIfInBounds 0)):=Heap.SameBut.update ..
 have x:=ext_upd (G:=G) e hs (.list ds)
 refine post_upd (tk:=s.toks) (mo:=.list ds) i.sim e hs ⟨ws,j,?_,r.ext x.t⟩ r0 q
 rw[g']
 congr 2
 simp[Array.eraseIdxIfInBounds]
theorem o_insert {a:Addr}{ds:List MV}{d:MV}{k:Int} (e:μ a=some (.list ds)) (h0:0≤k) (hk:k<2 ^ 62) (hl:ds.length≤16777216) (q:Φ .none (upd μ a (.list (ds.take k.toNat++d::ds.drop k.toNat)))):WpOs G n μ [.ref a,.int k,d] (fun vs=>call (.builtin "list.insert") vs) Φ:=fun A fenv h₀ L s am i vs rs=>by
 cases rs with | cons ra rs=>cases rs with | cons rk rs=>cases rs with | cons rd rs=>cases rs with | nil=>
 rename_i v
 rw[ra.isRef]
 refine ex1_1 (rk.isInt) fun t zr1=>?_
 obtain rfl:=zr1
 refine ex2_2 (i.list e) fun ws m g r=>?_
 have hz:ws.toArray.size≤sizeLine:=by rw[List.size_toArray,r.length]; exact hl
 have hc:¬ (!Builtin.List.listFitsIndex k)=true:=by rw[fitsIndex_of h0 (ω20 hk)]; decide
 refine call_meets PySem.F.slot_list_insert ⟨_,g,rfl⟩ PySem.F.entry_list_insert (PySem.F.args_list_insert_3 _ _ _) (AutoListH.list_insert_list_int_val_1 a ws.toArray m k t v hc hz) ⟨g,?_⟩
 obtain⟨j,hj⟩:=mapSeq_list (fun xs=>have k:=if k<0 then(k+((xs.size:Nat):Int)).toNat else min k.toNat xs.size; (xs.extract 0 k).push v++xs.extract k) ws.toArray m
 have g':=Heap.get?_update_self (Obj.mapSeq fun xs=>have k:=if k<0 then(k+((xs.size:Nat):Int)).toNat else min k.toNat xs.size; (xs.extract 0 k).push v++xs.extract k) g (by rw[hj]; rfl)
 rw[hj] at g'
 have hs:Heap.SameBut a s.heap (s.heap.update a (Obj.mapSeq fun xs=>have k:=if k<0 then(k+((xs.size:Nat):Int)).toNat else min k.toNat xs.size; (xs.extract 0 k).push v++xs.extract k)):=Heap.SameBut.update ..
 have x:=ext_upd (G:=G) e hs (.list (ds.take k.toNat++d::ds.drop k.toNat))
 refine post_upd (tk:=s.toks) (mo:=.list (ds.take k.toNat++d::ds.drop k.toNat)) i.sim e hs ⟨ws.take k.toNat++v::ws.drop k.toNat,j,?_,((r.ext x.t).take _).append (.cons (rd.ext x.t) ((r.ext x.t).drop _))⟩ .none q
 rw[g']
 congr 2
 have hn:¬ k<0:=ω21 h0
 simp only[if_neg hn]
 apply Array.ext'
 simp
 by_cases hle:k.toNat≤ws.length
 · rw[Nat.min_eq_left hle]; simp[List.take_of_length_le]
 · rw[Nat.min_eq_right (by exact ω22 hle)]; simp[List.take_of_length_le (show ws.length≤k.toNat by exact ω22 hle),List.drop_of_length_le (show ws.length≤k.toNat by exact ω22 hle)]
theorem main_low (am:Amb G A fenv h₀ L n) (i:Inv G h₀ L μ h):3<h.objs.size:=by
 refine ex3_1 (am.top) fun mean mg mb T=>?_
 refine ex1_1 (i.fr) fun m F=>?_
 refine ex3_2 (T.g) fun o _ _ ho _=>?_
 exact Heap.lt_size (F.keep _ _ ho)
theorem WpE.dict0 {pos:Pos} (q:∀ a,μ a=Option.none→Φ (.ref a) (upd μ a (.sdict []))):WpE G n cx μ (.Dict [] [] pos) Φ:=fun A fenv h₀ L env s H=>by
 rw[eval_Dict_empty]
 have low:=main_low H.amb H.inv
 refine wpAny_bind (wpAny_standAt ?_)
 show wpAny _ _ (newObj _ _ _) _ _ _
 refine wpAny_newObj_type ?_
 refine⟨.ref s.heap.objs.size,_,_,s.toks,rfl,ext_alloc H.inv.sim _ (.sdict []),H.inv.sim.alloc ⟨[],Heap.DictOf.new _,.nil,?_⟩,.ref _,q _ H.inv.sim.none_size⟩
 exact beq_eq_false_iff_ne.mpr (Nat.ne_of_gt (Nat.lt_trans (by decide) low))
theorem WpE.tdict0 {pos:Pos} (q:∀ a,μ a=Option.none→Φ (.ref a) (upd μ a (.tdict []))):WpE G n cx μ (.Dict [] [] pos) Φ:=fun A fenv h₀ L env s H=>by
 rw[eval_Dict_empty]
 have low:=main_low H.amb H.inv
 refine wpAny_bind (wpAny_standAt ?_)
 show wpAny _ _ (newObj _ _ _) _ _ _
 refine wpAny_newObj_type ?_
 refine⟨.ref s.heap.objs.size,_,_,s.toks,rfl,ext_alloc H.inv.sim _ (.tdict []),H.inv.sim.alloc ⟨[],Heap.DictOfH.new _,(fun _ hx=>nomatch hx),.nil,?_⟩,.ref _,q _ H.inv.sim.none_size⟩
 exact beq_eq_false_iff_ne.mpr (Nat.ne_of_gt (Nat.lt_trans (by decide) low))
theorem o_setD {a:Addr}{es:List (Str×MV)}{x:Str}{v:MV}{Φ:Mem→Prop} (e:μ a=some (.sdict es)) (hl:es.length≤16777216) (q:Φ (upd μ a (.sdict (putM es x v)))):WpU3 G n μ (.ref a) (.str x) v setItem Φ:=fun A fenv h₀ L s am i va vb vc ra rb rc=>by
 rw[ra.isRef]; obtain⟨u,rfl⟩:=rb.isStr
 refine ex1_3 (i.sim a _ e) fun kvs hd r hsm=>?_
 refine wpAny_setItem_pairs (hsz:=by rw[r.length]; exact hl) (strKind_is G.prog G.w x u) hd fun h' hd' hs=>?_
 have x':=ext_upd (G:=G) e hs (.sdict (putM es x v))
 exact⟨_,h',_,rfl,x',i.sim.upd e hs ⟨_,hd',(r.ext x'.t).stored x (rc.ext x'.t),hsm⟩,q⟩
theorem o_getD2 {a:Addr}{es:List (Str×MV)}{x:Str}{d:MV} (e:μ a=some (.sdict es)) (q:Φ ((atM es x).getD d) μ):WpOs G n μ [.ref a,.str x,d] (fun vs=>call (.builtin "dict.get") vs) Φ:=fun A fenv h₀ L s am i vs rs=>by
 cases rs with | cons ra rs=>cases rs with | cons rx rs=>cases rs with | cons rd rs=>cases rs with | nil=>
 rename_i v
 rw[ra.isRef]; obtain⟨u,rfl⟩:=rx.isStr
 refine ex1_3 (i.sim a _ e) fun kvs hd r hsm=>?_
 refine call_meetsIn PySem.F.slot_dict_get hd.typeIs PySem.F.entry_dict_get (PySem.F.args_dict_get_3 _ _ _) (meets_dict_get_default (strKind G.prog G.w) a (strKind_is G.prog G.w x u) hsm v) ⟨_,hd.mapOf,?_⟩
 rcases r.find x with ⟨h1,h2⟩ | ⟨w,d',h1,h2,rw'⟩
 · rw[h2] at q; rw[h1]; exact PostE.same i.sim rd q
 · rw[h2] at q; rw[h1]; exact PostE.same i.sim rw' q
end
section
variable {G:Gd}{n:Nat}{cx:Cx}{μ μ':Mem}{A:Around}{fenv env:Env}{h₀:List Addr}{h h':Heap}{L:Addr}{s:Shared}{Φ:MV→Mem→Prop}
theorem WpT.and_nil {pos:Pos}{Φ:Bool→Mem→Prop} (q:Φ true μ):WpT G n cx μ (.BoolOp .And [] pos) Φ:=fun A fenv h₀ L env s H=>isTrue_and_nil (PostT.same (tk:=s.toks) H.inv.sim q)
theorem WpT.or_nil {pos:Pos}{Φ:Bool→Mem→Prop} (q:Φ false μ):WpT G n cx μ (.BoolOp .Or [] pos) Φ:=fun A fenv h₀ L env s H=>isTrue_or_nil (PostT.same (tk:=s.toks) H.inv.sim q)
noncomputable abbrev AndK (G:Gd) (n:Nat) (cx:Cx) (rest:List Expr) (pos:Pos) (Φ:Bool→Mem→Prop):Bool→Mem→Prop:=fun c μ₁=>if c then WpT G n cx μ₁ (.BoolOp .And rest pos) Φ else Φ false μ₁
noncomputable abbrev OrK (G:Gd) (n:Nat) (cx:Cx) (rest:List Expr) (pos:Pos) (Φ:Bool→Mem→Prop):Bool→Mem→Prop:=fun c μ₁=>if c then Φ true μ₁ else WpT G n cx μ₁ (.BoolOp .Or rest pos) Φ
theorem WpT.and {x:Expr}{rest:List Expr}{pos:Pos}{Φ:Bool→Mem→Prop} (p:WpT G n cx μ x (AndK G n cx rest pos Φ)):WpT G n cx μ (.BoolOp .And (x::rest) pos) Φ:=fun A fenv h₀ L env s H=>by
 refine isTrue_and (wpAny_mono (p A fenv h₀ L env s H) (fun c s₁ q=>?_) fun _ _ f=>f)
 refine q.elim fun μ₁ h₁ tk₁ x₁ S₁ q₁=>?_
 cases c with
 | false=>simp only[Bool.false_eq_true,if_false] at q₁ ⊢; exact⟨μ₁,h₁,tk₁,rfl,x₁,S₁,q₁⟩
 | true=>simp only[if_true] at q₁ ⊢; exact wpAny_mono (q₁ A fenv h₀ L env { s with heap:=h₁,toks:=tk₁ } (H.ext x₁ S₁)) (fun b s₂ q₂=>q₂.after x₁) fun _ _ f=>f
theorem WpT.or {x:Expr}{rest:List Expr}{pos:Pos}{Φ:Bool→Mem→Prop} (p:WpT G n cx μ x (OrK G n cx rest pos Φ)):WpT G n cx μ (.BoolOp .Or (x::rest) pos) Φ:=fun A fenv h₀ L env s H=>by
 refine isTrue_or (wpAny_mono (p A fenv h₀ L env s H) (fun c s₁ q=>?_) fun _ _ f=>f)
 refine q.elim fun μ₁ h₁ tk₁ x₁ S₁ q₁=>?_
 cases c with
 | true=>simp only[if_true] at q₁ ⊢; exact⟨μ₁,h₁,tk₁,rfl,x₁,S₁,q₁⟩
 | false=>simp only[Bool.false_eq_true,if_false] at q₁ ⊢; exact wpAny_mono (q₁ A fenv h₀ L env { s with heap:=h₁,toks:=tk₁ } (H.ext x₁ S₁)) (fun b s₂ q₂=>q₂.after x₁) fun _ _ f=>f
theorem WpE.and1 {e:Expr}{op:BoolOp}{pos:Pos} (p:WpE G n cx μ e Φ):WpE G n cx μ (.BoolOp op [e] pos) Φ:=fun A fenv h₀ L env s H=>BoolOp_one (p A fenv h₀ L env s H)
theorem WpE.andE {e₁ e₂:Expr}{rest:List Expr}{pos:Pos} (p:WpE G n cx μ e₁ fun d μ₁=>WpOT G n μ₁ d truthy fun c μ₂=>if c then WpE G n cx μ₂ (.BoolOp .And (e₂::rest) pos) Φ else(d.isRef=false∧Φ d μ₂)):WpE G n cx μ (.BoolOp .And (e₁::e₂::rest) pos) Φ:=fun A fenv h₀ L env s H=>by
 refine BoolOp_and (wpAny_mono (p A fenv h₀ L env s H) (fun v s₁ q=>?_) fun _ _ f=>f)
 refine q.elim fun d μ₁ h₁ tk₁ x₁ S₁ r₁ q₁=>?_
 have H₁:=H.ext x₁ S₁
 refine wpAny_mono (q₁ A fenv h₀ L { s with heap:=h₁,toks:=tk₁ } H.amb H₁.inv v r₁) (fun c s₂ q₂=>?_) fun _ _ f=>f
 refine q₂.elim fun μ₂ h₂ tk₂ x₂ S₂ q₂=>?_
 cases c with
 | true=>simp only[if_true] at q₂ ⊢; exact wpAny_mono (q₂ A fenv h₀ L env { s with heap:=h₂,toks:=tk₂ } (H₁.ext x₂ S₂)) (fun v s₃ q₃=>q₃.after (x₁.trans x₂)) fun _ _ f=>f
 | false=>simp only[Bool.false_eq_true,if_false] at q₂ ⊢; exact⟨d,μ₂,h₂,tk₂,rfl,x₁.trans x₂,S₂,r₁.ext x₂.t,q₂.2⟩
theorem o_truthN {Φ:Bool→Mem→Prop} (q:Φ false μ):WpOT G n μ .none truthy Φ:=fun A fenv h₀ L s am i va ra=>by
 rw[ra.isNone]; exact wpAny_pure (PostT.same (tk:=s.toks) i.sim q)
theorem o_truthTup {ds:List MV}{Φ:Bool→Mem→Prop} (hl:ds.length<2 ^ 62) (q:Φ (!ds.isEmpty) μ):WpOT G n μ (.tup ds) truthy Φ:=fun A fenv h₀ L s am i va ra=>by
 obtain⟨a,vs,m,rfl,hm,g,r⟩:=ra.isTup
 have hle:(vs.toArray.size:Int)<2 ^ 63:=by rw[List.size_toArray,r.length]; exact ω0 hl
 refine truthy_tuple (isTup_of g) hle ?_
 have e2:(!vs.toArray.isEmpty)=(!ds.isEmpty):=by
  have:=r.length
  cases vs <;> cases ds <;> simp_all
 rw[e2]
 exact PostT.same i.sim q
theorem o_truthS {x:Str}{Φ:Bool→Mem→Prop} (hl:x.length<2 ^ 62) (q:Φ ((x.length:Int) != 0) μ):WpOT G n μ (.str x) truthy Φ:=fun A fenv h₀ L s am i va ra=>by
 obtain⟨t,rfl⟩:=ra.isStr
 exact PySem.P.truthy_str (ω19 hl) (PostT.same i.sim q)
theorem o_truthI {a C d:Addr}{fs:List (Str×MV)}{Φ:Bool→Mem→Prop} (e:μ a=some (.inst C d)) (e':μ d=some (.idict fs)) (hs:findIn G.K (.ref C) "__bool__" = some Option.none) (hl:findIn G.K (.ref C) "__len__" = some Option.none) (q:Φ true μ):WpOT G n μ (.ref a) truthy Φ:=fun A fenv h₀ L s am i va ra=>by
 rw[ra.isRef]
 have g:=i.sim a _ e
 obtain⟨es,k,g',ir⟩:=i.sim d _ e'
 obtain⟨m,F⟩:=i.fr
 exact truthy_K0 F am.kin (instAt g g') hs hl (PostT.same (tk:=s.toks) i.sim q)
theorem WpE.neg {e:Expr}{pos:Pos}{k:Int} (p:WpE G n cx μ e fun d μ₁=>∃ j,d=.int j∧Φ (.int (-j)) μ₁):WpE G n cx μ (.UnaryOp .USub e pos) Φ:=fun A fenv h₀ L env s H=>by
 refine UnaryOp_ (wpAny_mono (p A fenv h₀ L env s H) (fun v s₁ q=>?_) fun _ _ f=>f)
 refine q.elim fun d μ₁ h₁ tk₁ x₁ S₁ r₁ qq=>?_
 obtain⟨j,rfl,q₁⟩:=qq
 obtain⟨t,rfl⟩:=r₁.isInt
 exact PyProof.Rows.neg_int ⟨.int (-j),μ₁,h₁,tk₁+1,rfl,x₁,S₁,.int _ _,q₁⟩
noncomputable def mixs (ks:List (Str ⊕ Int)):List MV:=ks.map fun | .inl x=>.str x | .inr i=>.int i
theorem itemsAre_of {ks:List (Str ⊕ Int)}:∀{vs:List Value},VRs μ h vs (mixs ks)→ItemsAre (mixKind G.prog G.w) ks vs:=by
 induction ks with
 | nil=>intro vs r; cases r; exact .nil
 | cons k ks ih=>
  intro vs r
  cases r with
  | cons a r=>
   refine .cons ?_ (ih r)
   cases k with
   | inl x=>obtain⟨t,rfl⟩:=a.isStr; show Value.isStrOf x (.str x t)=true; simp[Value.isStrOf]
   | inr i=>obtain⟨t,rfl⟩:=a.isInt; show Value.isInt i (.int i t)=true; simp[Value.isInt]
theorem tupleKey_of {v:Value}{ks:List (Str ⊕ Int)} (r:VR μ h v (.tup (mixs ks))):∃ a,v=.ref a∧μ a=none∧IsTupleKey (mixKind G.prog G.w) h ks a:=by
 obtain⟨a,vs,m,rfl,hm,g,r⟩:=r.isTup
 exact⟨a,rfl,hm,_,vs.toArray,m,g,rfl,rfl,by simpa using itemsAre_of (G:=G) r⟩
theorem atKey_PR {xs:List (List (Str ⊕ Int)×Addr×Value)}{es:List (List (Str ⊕ Int)×MV)} (r:PR μ h (xs.map fun x=>(x.1,x.2.2)) es) (k:List (Str ⊕ Int)) :
 (atKey xs k=none∧atM es k=none)∨∃ a v d,atKey xs k=some (a,v)∧atM es k=some d∧VR μ h v d:=by
 induction xs generalizing es with
 | nil=>cases r; exact .inl ⟨rfl,rfl⟩
 | cons x xs ih=>
  obtain⟨k',a',v'⟩:=x
  simp only[List.map_cons] at r
  cases r with
  | cons a r=>
   rename_i d ds
   by_cases q:k'=k
   · subst q
     exact .inr ⟨a',v',d,by simp[atKey],by simp[atM],a⟩
   · have e1:atKey ((k',a',v')::xs) k=atKey xs k:=by simp[atKey,q]
     have e2:atM ((k',d)::ds) k=atM ds k:=by simp[atM,q]
     rw[e1,e2]; exact ih r
theorem storedH_PR {xs:List (List (Str ⊕ Int)×Addr×Value)}{es:List (List (Str ⊕ Int)×MV)} (r:PR μ h (xs.map fun x=>(x.1,x.2.2)) es) (k:List (Str ⊕ Int)) (a:Addr) {v:Value}{d:MV} (rv:VR μ h v d) :
 PR μ h ((storedH xs k a v).map fun x=>(x.1,x.2.2)) (putM es k d):=by
 have e:(storedH xs k a v).map (fun x=>(x.1,x.2.2))=stored (xs.map fun x=>(x.1,x.2.2)) k v:=by
  unfold storedH stored atKey
  have:(Option.map (fun x=>x.snd) (List.find? (fun x=>decide (x.fst=k)) xs)).isSome=((xs.map fun x=>(x.1,x.2.2)).any fun kv=>decide (kv.1=k)):=by
   rw[Option.isSome_map,Bool.eq_iff_iff,List.find?_isSome]; simp
  rw[this]
  split
  · simp only[List.map_map]
    apply List.map_congr_left
    intro x _
    simp only[Function.comp,putAt]
    split <;> rfl
  · simp
 rw[e]; exact r.stored k rv
theorem o_getT2 {a:Addr}{es:List (List (Str ⊕ Int)×MV)}{ks:List (Str ⊕ Int)}{d:MV} (e:μ a=some (.tdict es)) (q:Φ ((atM es ks).getD d) μ):WpOs G (n+1) μ [.ref a,.tup (mixs ks),d] (fun vs=>call (.builtin "dict.get") vs) Φ:=fun A fenv h₀ L s am i vs rs=>by
 cases rs with | cons ra rs=>cases rs with | cons rx rs=>cases rs with | cons rd rs=>cases rs with | nil=>
 rename_i v
 rw[ra.isRef]
 obtain⟨b,rfl,hb,hk⟩:=tupleKey_of (G:=G) rx
 obtain⟨xs,hd,hm,r,hsm⟩:=i.sim a _ e
 have hu:G.knd.room A.in1.in1:=by show A.units+1+1<_; have:=am.uns; exact ω24 this
 refine call_meetsIn PySem.F.slot_dict_get hd.typeIs PySem.F.entry_dict_get (PySem.F.args_dict_get_3 _ _ _) (meetsH_dict_get_default G.knd a b hsm v) ⟨by first | exact hu | (show A.units+1<_; have:=am.uns; exact ω25 this),ks,xs,hk,hd,?_⟩
 rcases atKey_PR r ks with ⟨h1,h2⟩ | ⟨c,w,d',h1,h2,rw'⟩
 · rw[h2] at q; rw[h1]; exact PostE.same i.sim rd q
 · rw[h2] at q; rw[h1]; exact PostE.same i.sim rw' q
theorem gets_tdict {a:Addr}{es:List (List (Str ⊕ Int)×MV)}{name:Str}{id:String} (e:μ a=some (.tdict es)) (slot:Slot "dict" name id) (hty:typeOf (.builtin id)=pure (.type "method_descriptor")):GetsM G n μ (.ref a) name (.builtin id):=fun A fenv h₀ L s am i v r pl Q q=>by
 rw[r.isRef] at q ⊢
 obtain⟨xs,hd,hm,r,hsm⟩:=i.sim a _ e
 obtain⟨o,es,ep,ho,hc,_⟩:=hd
 exact getMethod_builtin (T:="dict") ⟨o,ho,hc.1⟩ PySem.F.plainAttrs_dict slot hty (fun a' e=>by cases e; exact⟨o,ho,hc.2.1⟩) q
theorem o_setT {a:Addr}{es:List (List (Str ⊕ Int)×MV)}{ks:List (Str ⊕ Int)}{v:MV}{Φ:Mem→Prop} (e:μ a=some (.tdict es)) (hl:es.length≤16777216) (q:Φ (upd μ a (.tdict (putM es ks v)))):WpU3 G (n+1) μ (.ref a) (.tup (mixs ks)) v setItem Φ:=fun A fenv h₀ L s am i va vb vc ra rb rc=>by
 rw[ra.isRef]
 obtain⟨b,rfl,hb,hk⟩:=tupleKey_of (G:=G) rb
 obtain⟨xs,hd,hm,r,hsm⟩:=i.sim a _ e
 have hlen:xs.length=es.length:=by have:=r.length; simpa using this
 have hu:G.knd.room A.in1:=by show A.units+1<_; have:=am.uns; exact ω25 this
 refine wpAny_setItem_heap (hsz:=by rw[hlen]; exact hl) hu hk hd fun h' hd' hs=>?_
 have x':=ext_upd (G:=G) e hs (.tdict (putM es ks v))
 refine⟨_,h',_,rfl,x',i.sim.upd e hs ⟨_,hd',fun y hy=>?_,storedH_PR (PR.ext x'.t r) ks b (rc.ext x'.t),hsm⟩,q⟩
 have nb:∀ c,μ c=none→upd μ a (.tdict (putM es ks v)) c=none:=fun c hc=>(upd_ne _ _ (fun z=>by rw[z,e] at hc; cases hc)).trans hc
 unfold storedH at hy
 split at hy
 · obtain⟨z,hz,rfl⟩:=List.mem_map.mp hy
   unfold putAt
   split <;> exact nb _ (hm z hz)
 · rcases List.mem_append.mp hy with hy | hy
   · exact nb _ (hm y hy)
   · cases List.mem_singleton.mp hy; exact nb _ hb
end
section
variable {G:Gd}{n:Nat}{cx:Cx}{μ μ':Mem}{A:Around}{fenv env:Env}{h₀:List Addr}{h h':Heap}{L:Addr}{s:Shared}{Φ:MV→Mem→Prop}
noncomputable def strItem (x:Str) (k:Nat) (μ:Mem) (r:Option MV):Prop:=r=(x.cps[k]?).map fun c=>.str ⟨#[c]⟩
theorem itr_str (hh:A.handled=none) {x:Str}{t:Tok}{I:Addr}:Itr G A I [I] (fun k μ h=>h.IsStrIter I "str_ascii_iterator" x t k) (strItem x) false where
 live:=fun k μ h st b hb=>by
  have hb':b=I:=by simpa using hb
  subst hb'
  refine ex1_3 (st) fun o ho hc hd=>?_
  exact⟨o,ho,by rw[hc]; decide,by rw[hd]; intro _ _ z; cases z⟩
 frame:=fun k μ h μ' h' st hk _=>let ⟨o,ho,r⟩:=st; ⟨o,hk I (by simp) o ho,r⟩
 self:=fun k μ s Q E st hQ=>wpAny_pyIter_striter_ascii st hQ
 step:=fun k μ r s target R E ok S hu st it hR=>by
  have hl':∀ b∈[I],∃ o,s.heap.get? b=some o∧o.cls≠.type "tuple":=fun b hb=>by
   have hb':b=I:=by simpa using hb
   subst hb'
   refine ex1_3 (st) fun o ho hc hd=>?_
   exact⟨o,ho,by rw[hc]; decide⟩
  unfold strItem at it
  subst it
  cases hk:x.cps[k]? with
  | none=>
   rw[hk] at hR
   refine wpAny_pyNext_ascii_end hh st hk fun h' hx=>hR h' s.toks fun b o hb e=>hx b o (fun z=>hb (by simp[z])) e
  | some c=>
   rw[hk] at hR
   refine wpAny_pyNext_ascii_item st hk fun h' st' hs=>?_
   refine and2 (S.own hu hl' (sameBut_kept hs)) fun S' x'=>?_
   refine ex1_3 (id st') fun o ho hc hd=>?_
   exact letGo_plain ok ho hc hd (by decide) (hR _ h' _ (.str _ _) st' (sameBut_kept hs))
noncomputable abbrev ItSK (Φ:(Nat→Mem→Option MV→Prop)→Bool→Mem→Prop):MV→Mem→Prop:=fun d μ₁=>∃ x,d=.str x∧x.cps.all (· < 128)=true∧Φ (strItem x) false μ₁
theorem WpIt.str {iter:Expr}{Φ:(Nat→Mem→Option MV→Prop)→Bool→Mem→Prop} (p:WpE G n cx μ iter (ItSK Φ)) (h1n:1≤n:=by exact Nat.succ_pos _):WpIt G n cx μ iter Φ:=fun A fenv h₀ L env s H=>by
 refine wpAny_mono (p A fenv h₀ L env s H) (fun v s₁ q=>?_) fun _ _ f=>f
 refine q.elim fun d μ₁ h₁ tk₁ x₁ S₁ r₁ qq=>?_
 refine ex1_3 (qq) fun x zr1 ha q₁=>?_
 obtain rfl:=zr1
 refine ex1_1 (r₁.isStr) fun t zr1=>?_
 obtain rfl:=zr1
 refine wpAny_pyIter_ascii ha ?_
 refine⟨h₁.objs.size,_,_,_,_,μ₁,_,tk₁,rfl,rfl,x₁.trans (ext_push S₁ _),S₁.push _,itr_str (H.amb.hnd h1n),⟨_,Heap.get?_push_size _ rfl,rfl,rfl⟩,fun b hb=>?_,q₁⟩
 have hb':b=h₁.objs.size:=by simpa using hb
 subst hb'
 exact⟨x₁.fresh (Nat.le_refl _),S₁.none_size⟩
noncomputable abbrev ItRK (Φ:(Nat→Mem→Option MV→Prop)→Bool→Mem→Prop):MV→Mem→Prop:=fun d μ₁=>∃ b:Int,d=.int b∧0≤b∧b<2 ^ 62∧Φ (rangeItem 0 b) false μ₁
noncomputable abbrev ItEK (Φ:(Nat→Mem→Option MV→Prop)→Bool→Mem→Prop):MV→Mem→Prop:=fun d μ₁=>∃ a ds,d=.ref a∧μ₁ a=some (.list ds)∧Φ (enumItem a) true μ₁
theorem WpIt.range {x:Str}{p pos:Pos}{e:Expr}{Φ:(Nat→Mem→Option MV→Prop)→Bool→Mem→Prop} (hn:nsIn G.K mainGlobals x=some Option.none) (q:WpE G n cx μ e (ItRK Φ)) (h1n:1≤n:=by exact Nat.succ_pos _)
 (hv:bootBuiltins x=some (.type "range"):=by rfl) (hne:x≠"__name__":=by decide) (hx:cx.scope.names.lookup x=some .globalImplicit:=by rfl) (hdb:(x == ("__debug__":Str))=false:=by decide)
 (he:∀ env,eval (.Call (.Name x p) [e] [] pos) env=(do callWith pos (← eval (.Name x p) env) [] (backTo pos (starEach [e] env)) (backToKw pos (keywordEach [] env))):=by intro _; rfl)
 (he2:∀ env,starEach [e] env=(false,eval e env)::starEach [] env:=by intro _; rfl):WpIt G n cx μ (.Call (.Name x p) [e] [] pos) Φ:=fun A fenv h₀ L env s H=>by
 refine Call_ (nameB H hn hv hne hx hdb ?_) (he env)
 refine PyProof.Rows.callWith_type1 (args_cons (wpAny_mono (q A fenv h₀ L env s H) (fun v s₂ q₂=>args_nil ?_) fun _ _ f=>f) (he2 env)) (he2 env) (by rfl)
 refine q₂.elim fun d μ₁ h₁ tk₁ x₁ S₁ r₁ qq=>?_
 refine ex1_4 (qq) fun b zr1 h0 hb q₁=>?_
 obtain rfl:=zr1
 refine ex1_1 (r₁.isInt) fun t zr1=>?_
 obtain rfl:=zr1
 refine call_range_1 ?_
 have hz:Builtin.Range.rangeSize 0 b 1=b:=by rw[rangeSize_one]; split <;> omega
 have hsmall:Builtin.Range.small 0 b 1=true:=by
  unfold Builtin.Range.small Builtin.Range.rangeFitsLong
  rw[hz]
  simp only[Bool.and_eq_true,decide_eq_true_eq,Bool.or_eq_true,beq_iff_eq]
  refine⟨⟨⟨⟨?_,?_⟩,?_⟩,?_⟩,?_⟩ <;> first | (constructor <;> omega) | (right; rw[if_pos (by decide)]; simp only[Bool.and_eq_true,decide_eq_true_eq]; exact ω33 h0 hb)
 refine wpAny_pyIter_range (a:=0) (b:=b) (c:=1) (Heap.get?_push_size _ rfl) hsmall ?_
 dsimp only
 have S2:=S₁.push ({ cls:=.type "range",data:=.fields #[.int 0 tk₁,.int b t,.int 1 (tk₁+1)] }:Obj)
 have x2:=x₁.trans (ext_push S₁ ({ cls:=.type "range",data:=.fields #[.int 0 tk₁,.int b t,.int 1 (tk₁+1)] }:Obj))
 refine⟨_,_,_,_,_,μ₁,_,_,rfl,rfl,x2.trans (ext_push S2 _),S2.push _,itr_range (a:=0) (b:=b) (H.amb.hnd h1n),?_,fun c hc=>?_,q₁⟩
 · show IsRangeIter _ _ _ _ _
   rw[hz]
   have e1:(0:Int)+((0:Nat):Int)=0:=rfl
   have e2:b-(0:Int)=b:=ω26
   rw[e1,e2]
   exact Heap.get?_push_size _ rfl
 · have hc':c=(h₁.push ({ cls:=.type "range",data:=.fields #[.int 0 tk₁,.int b t,.int 1 (tk₁+1)] }:Obj)).objs.size:=by simpa using hc
   subst hc'
   exact⟨x2.fresh (Nat.le_refl _),S2.none_size⟩
theorem WpIt.enum {x:Str}{p pos:Pos}{e:Expr}{Φ:(Nat→Mem→Option MV→Prop)→Bool→Mem→Prop} (hn:nsIn G.K mainGlobals x=some Option.none) (q:WpE G n cx μ e (ItEK Φ)) (h1n:1≤n:=by exact Nat.succ_pos _)
 (hv:bootBuiltins x=some (.type "enumerate"):=by rfl) (hne:x≠"__name__":=by decide) (hx:cx.scope.names.lookup x=some .globalImplicit:=by rfl) (hdb:(x == ("__debug__":Str))=false:=by decide)
 (he:∀ env,eval (.Call (.Name x p) [e] [] pos) env=(do callWith pos (← eval (.Name x p) env) [] (backTo pos (starEach [e] env)) (backToKw pos (keywordEach [] env))):=by intro _; rfl)
 (he2:∀ env,starEach [e] env=(false,eval e env)::starEach [] env:=by intro _; rfl):WpIt G n cx μ (.Call (.Name x p) [e] [] pos) Φ:=fun A fenv h₀ L env s H=>by
 refine Call_ (nameB H hn hv hne hx hdb ?_) (he env)
 refine PyProof.Rows.callWith_type1 (args_cons (wpAny_mono (q A fenv h₀ L env s H) (fun v s₂ q₂=>args_nil ?_) fun _ _ f=>f) (he2 env)) (he2 env) (by rfl)
 refine q₂.elim fun d μ₁ h₁ tk₁ x₁ S₁ r₁ qq=>?_
 refine ex2_3 (qq) fun a ds zr2 e q₁=>?_
 obtain rfl:=zr2
 rw[r₁.isRef]
 refine ex2_2 (S₁ a _ e) fun vs m g r=>?_
 refine call_enumerate_list (isList_of g) fun h' he hit hz hk=>wpAny_pyIter_enum he ?_
 dsimp only at he hit hz hk ⊢
 have xk:Ext G μ₁ h₁ μ₁ h':=fun b o hb e=>⟨.inl (hk b o e),hb⟩
 have Sk:Sim G μ₁ h':=S₁.keep (fun b o _ e=>hk b o e) xk.t
 have none₁:∀ b,h₁.objs.size≤b→μ₁ b=none:=fun b hb=>by
  cases q:μ₁ b with
  | none=>rfl
  | some mo=>exact absurd (S₁.lt q) (Nat.not_lt.mpr hb)
 refine⟨h₁.objs.size+1,_,_,_,_,μ₁,h',tk₁,rfl,rfl,x₁.trans xk,Sk,itr_enum (H.amb.hnd h1n) (e:=h₁.objs.size+1) (I:=h₁.objs.size) (a:=a) (Nat.succ_ne_self _),⟨⟨.none,he⟩,hit⟩,fun b hb=>?_,q₁⟩
 have hb':b=h₁.objs.size+1∨b=h₁.objs.size:=by simpa using hb
 rcases hb' with rfl | rfl
 · exact⟨x₁.fresh (Nat.le_succ _),none₁ _ (Nat.le_succ _)⟩
 · exact⟨x₁.fresh (Nat.le_refl _),none₁ _ (Nat.le_refl _)⟩
theorem o_all {a:Addr}{bs:List Bool} (e:μ a=some (.list (bs.map .bool))) (q:Φ (.bool (bs.all id)) μ) (h1n:1≤n:=by exact Nat.succ_pos _):WpOs G n μ [.ref a] (fun vs=>call (.builtin "all") vs) Φ:=fun A fenv h₀ L s am i vs rs=>by
 cases rs with | cons ra rs=>cases rs with | nil=>
 rw[ra.isRef]
 refine ex2_2 (i.list e) fun ws m g r=>?_
 have ht:s.heap.IsList a ws.toArray:=isList_of g
 have ne:a≠s.heap.objs.size:=Nat.ne_of_lt (Heap.lt_size g)
 have hlen:ws.toArray.size=bs.length:=by rw[List.size_toArray,r.length,List.length_map]
 refine call_all_walk (wpAny_pyIter_list ht ⟨s.heap.objs.size,_,_,_,_,_,fun k=>bs.getD k true,rfl,Walks.list (show A.in1.handled=none from am.hnd h1n) _ a ne ws.toArray,⟨⟨_,Heap.get?_push_size _ rfl,rfl,rfl⟩,⟨_,Heap.get?_push_of_some _ g,rfl,m,rfl⟩⟩,?_,?_⟩)
 · intro k v s' Q' E' hP hQ
   have hP:ws.toArray[k]?=some v:=hP
   refine ex1_2 (r.get' (by simpa using hP)) fun d hd rd=>?_
   rw[List.getElem?_map] at hd
   cases hb:bs[k]? with
   | none=>rw[hb] at hd; cases hd
   | some b=>
    rw[hb] at hd; cases hd
    rw[rd.isBool]
    refine wpAny_truthy_bool ?_
    have:bs.getD k true=b:=by simp[List.getD,hb]
    have hQ':Q' (bs.getD k true) s':=hQ
    rw[this] at hQ'; exact hQ'
 · intro h' tk hk
   have e1:(List.range ws.toArray.size).all (fun k=>bs.getD k true)=bs.all id:=by
    rw[hlen,Bool.eq_iff_iff,List.all_eq_true,List.all_eq_true]
    constructor
    · intro z x hx
      obtain⟨k,hk,rfl⟩:=List.mem_iff_getElem.mp hx
      have:=z k (List.mem_range.mpr hk)
      simpa[List.getD,hk] using this
    · intro z k hk
      have hk:=List.mem_range.mp hk
      have:=z bs[k] (List.getElem_mem hk)
      simpa[List.getD,hk] using this
   rw[e1]
   refine post_keep i.sim (fun b o e=>hk b o (fun z=>?_) (Heap.get?_push_of_some _ e)) (.bool _) q
   have:b=s.heap.objs.size:=by simpa using z
   rw[this,fresh_size] at e; cases e
theorem fits_nat {k m:Nat} (h:k<m) (hl:m<2 ^ 62):Builtin.List.listFitsIndex (k:Int)=true:=fitsIndex_of ω34 (ω35 hl h)
theorem setItem_at {prog:Program}{w:World}{A:Around}{E:Value→Shared→Prop}{s:Shared}{Q:Unit→Shared→Prop}{a:Addr}{k:Nat}{K:Int}{u:Tok}{v:Value}{ws:List Value}{m:Nat} (g:s.heap.get? a=some (listOf ws.toArray m)) (hfit:Builtin.List.listFitsIndex K=true) (hK:K=(k:Int)) (hj:k<ws.length)
 (fin:Q () { s with heap:=s.heap.update a (Obj.mapSeq (·.setIfInBounds k v)) }):wpAny (model prog w) A (setItem (.ref a) (.int K u) v) Q E s:=by
 have hT:s.TypeIs (.ref a) "list":=typeIs_list g
 unfold setItem
 try with_reducible refine wpAny_holding ?_
 first | refine wpAny_bind (wpAny_pure ?_) | skip
 refine wpAny_bind (wpAny_sequenceKey hT (by decide) ?_)
 refine wpAny_bind (wpAny_callSpecial?_slot (name:=Str.ofString "__setitem__") hT slot_list_setitem (wpAny_call_entry slot_list_setitem hT entry_list_setitem ?_ (args_list_setitem _ _ _)))
 show wpAny _ _ (Builtin.List.listSubscript? (.int K u) >>= _) _ _ s
 refine wpAny_bind (wpAny_listSubscript_int hfit ?_)
 clear hfit
 subst hK
 show wpAny _ _ ((seqItemAt a k >>= fun r=>pure (r.map (k,·))) >>= _) _ _ s
 refine wpAny_bind (wpAny_bind (wpAny_seqItemAt g rfl (wpAny_pure ?_)))
 have hx:ws.toArray[k]?=some ws[k]:=by simp[hj]
 rw[hx]
 show wpAny _ _ (setSeqItemAt a k v >>= _) _ _ s
 refine wpAny_bind (wpAny_setSeqItemAt g rfl ?_)
 first
  | exact wpAny_bind (wpAny_pure (wpAny_pure ⟨.none,rfl,wpAny_pure fin⟩))
  | exact wpAny_pure ⟨.none,rfl,wpAny_pure fin⟩
theorem o_setL {a:Addr}{ds:List MV}{k:Nat}{v:MV}{Φ:Mem→Prop} (e:μ a=some (.list ds)) (hk:k<ds.length) (hl:ds.length<2 ^ 62) (q:Φ (upd μ a (.list (ds.set k v)))):WpU3 G n μ (.ref a) (.int k) v setItem Φ:=fun A fenv h₀ L s am i va vb vc ra rb rc=>by
 rw[ra.isRef]; obtain⟨u,rfl⟩:=rb.isInt
 refine ex2_2 (i.list e) fun ws m g r=>?_
 refine setItem_at g (fits_nat hk hl) rfl (by rw[r.length]; exact hk) ?_
 refine ex1_1 (mapSeq_list (·.setIfInBounds k vc) ws.toArray m) fun j hj'=>?_
 have g':=Heap.get?_update_self (Obj.mapSeq (·.setIfInBounds k vc)) g (by rw[hj']; rfl)
 rw[hj'] at g'
 have hs:Heap.SameBut a s.heap (s.heap.update a (Obj.mapSeq (·.setIfInBounds k vc))):=Heap.SameBut.update ..
 have x:=ext_upd (G:=G) e hs (.list (ds.set k v))
 refine⟨_,_,s.toks,rfl,x,i.sim.upd e hs ⟨ws.set k vc,j,?_,(r.ext x.t).set (rc.ext x.t) k⟩,q⟩
 rw[g']; congr 2
 apply Array.ext'
 simp
end
section
variable {G:Gd}{n:Nat}{cx:Cx}{μ μ':Mem}{A:Around}{fenv env:Env}{h₀:List Addr}{h h':Heap}{L:Addr}{s:Shared}{Φ:MV→Mem→Prop}
theorem o_item_str {value slice:Expr}{x:Str}{k:Int}{c:Nat} (hr:(decide (k < -(2 ^ 63:Int)) || decide (k≥2 ^ 63))=false) (hc:(seqIndex? k x.length).bind (x.cps[·]?)=some c) (q:Φ (.str ⟨#[c]⟩) μ) (hs:NoSlice slice:=by intro _ _; rfl) :
 WpO2 G n μ (.str x) (.int k) (subscriptTail value slice) Φ:=fun A fenv h₀ L s am i va vb ra rb=>by
 obtain⟨t,rfl⟩:=ra.isStr; obtain⟨u,rfl⟩:=rb.isInt
 exact tail_any (typeIs_str s x t) F.slot_str_getitem.lookup (P.getItem_str hr hc (PostE.same i.sim (.str _ _) q)) (hs _ _)
theorem WpE.sliceS {value lo hi:Expr}{p pos:Pos} (q:WpE G n cx μ value fun d μ₁=>WpE G n cx μ₁ lo fun a μ₂=>WpE G n cx μ₂ hi fun b μ₃=>∃ x i j,d=.str x∧a=.int i∧b=.int j∧x.length≤16777216∧Φ (.str (Txt.slice x (some i) (some j))) μ₃)
 (ht:∀ o r,letTemporaryGo value o r=pure ():=by intro _ _; rfl) (hlo:∀ env,evalPart (some lo) env=eval lo env:=by intro _; rfl) (hhi:∀ env,evalPart (some hi) env=eval hi env:=by intro _; rfl):WpE G n cx μ (.Subscript value (.Slice (some lo) (some hi) Option.none p) pos) Φ:=fun A fenv h₀ L env s H=>by
 refine wpAny_Subscript_Slice (T:="str") F.slot_str_getitem.lookup (wpAny_mono (q A fenv h₀ L env s H) (fun v s₁ q=>wpAny_Slice ?_) fun _ _ f=>f) ht
 refine q.elim fun d μ₁ h₁ tk₁ x₁ S₁ r₁ q₁=>?_
 rw[hlo,hhi]
 have H₁:=H.ext x₁ S₁
 refine wpAny_mono (q₁ A fenv h₀ L env { s with heap:=h₁,toks:=tk₁ } H₁) (fun v₂ s₂ q₂=>?_) fun _ _ f=>f
 refine q₂.elim fun d₂ μ₂ h₂ tk₂ x₂ S₂ r₂ q₂=>?_
 have H₂:=H₁.ext x₂ S₂
 refine wpAny_mono (q₂ A fenv h₀ L env { s with heap:=h₂,toks:=tk₂ } H₂) (fun v₃ s₃ q₃=>?_) fun _ _ f=>f
 refine q₃.elim fun d₃ μ₃ h₃ tk₃ x₃ S₃ r₃ qq=>?_
 clear q₃
 refine ex3_5 (qq) fun x i j zr3 zr4 zr5 hx q₃=>?_
 obtain rfl:=zr3
 obtain rfl:=zr4
 obtain rfl:=zr5
 refine ex1_1 (r₁.isStr) fun t zr1=>?_
 obtain rfl:=zr1
 refine ex1_1 (r₂.isInt) fun ti zr1=>?_
 obtain rfl:=zr1
 refine ex1_1 (r₃.isInt) fun tj zr1=>?_
 obtain rfl:=zr1
 rw[evalPart_none]
 refine wpAny_pure ⟨typeIs_str _ _ _,?_⟩
 have hk:KeptH (fun h=>∀ b o,h₃.get? b=some o→h.get? b=some o):=fun h ob a b o e=>Heap.get?_push_of_some _ (a b o e)
 refine ex2_3 (SBH.sliceItem_ss (prog:=G.prog) (w:=G.w) (A:=A) (E:=NoE) (s:={ s with heap:=h₃,toks:=tk₃ }) (x:=x) (t:=t) (i:=i) (j:=j) (ui:=ti) (uj:=tj) (Q:=PostE G μ s Φ) hk (fun _ _ e=>e) (fun h' t' k a=>PostE.after (tk:=tk₃) ((x₁.trans x₂).trans x₃) (post_keep (tk:=k) (s:={ s with heap:=h₃,toks:=tk₃ }) S₃ a (.str _ t') q₃)) hx) fun T id hl hT hg=>?_
 exact hg
theorem WpE.sliceFrom {value lo:Expr}{p pos:Pos}{k:Nat} (q:WpE G n cx μ value fun d μ₁=>WpE G n cx μ₁ lo fun a μ₂=>∃ l ds,d=.ref l∧μ₂ l=some (.list ds)∧a=.int k∧k≤ds.length∧ds.length≤16777216∧∀ a,μ₂ a=Option.none→Φ (.ref a) (upd μ₂ a (.list (ds.drop k))))
 (ht:∀ o r,letTemporaryGo value o r=pure ():=by intro _ _; rfl) (hlo:∀ env,evalPart (some lo) env=eval lo env:=by intro _; rfl):WpE G n cx μ (.Subscript value (.Slice (some lo) Option.none Option.none p) pos) Φ:=fun A fenv h₀ L env s H=>by
 refine wpAny_Subscript_list_slice (wpAny_mono (q A fenv h₀ L env s H) (fun v s₁ q=>?_) fun _ _ f=>f) ht
 refine q.elim fun d μ₁ h₁ tk₁ x₁ S₁ r₁ q₁=>?_
 rw[hlo]
 have H₁:=H.ext x₁ S₁
 refine wpAny_mono (q₁ A fenv h₀ L env { s with heap:=h₁,toks:=tk₁ } H₁) (fun v₂ s₂ q₂=>?_) fun _ _ f=>f
 refine q₂.elim fun d₂ μ₂ h₂ tk₂ x₂ S₂ r₂ qq=>?_
 clear q₂
 refine ex2_6 (qq) fun l ds zr2 e zr4 hk hl q₂=>?_
 obtain rfl:=zr2
 obtain rfl:=zr4
 refine ex1_1 (r₂.isInt) fun tk zr1=>?_
 obtain rfl:=zr1
 refine ex2_2 (S₂ l _ e) fun vs m g r=>?_
 rw[evalPart_none]
 have hsz:vs.toArray.size≤sizeLine:=by rw[List.size_toArray,r.length]; exact hl
 refine wpAny_pure ⟨l,vs.toArray,some (k:Int),Option.none,r₁.isRef,isList_of g,hsz,.int _ _,.none,?_⟩
 have e1:slicePick vs.toArray (some (k:Int)) Option.none Option.none=(vs.drop k).toArray:=by
  rw[slicePick_from _ _ (by rw[List.size_toArray,r.length]; exact hk)]
 rw[e1]
 refine PostE.after (tk:=tk₂) (x₁.trans x₂) (post_list (j:=0) (s:={ s with heap:=h₂,toks:=tk₂ }) (tk:=tk₂) S₂ (fun b o e=>Heap.get?_push_of_some _ (Heap.get?_push_of_some _ e)) (Heap.get?_none_of_le (Nat.le_succ _)) ?_ (r.drop k) q₂)
 have:=Heap.get?_push_size (h₂.push { cls:=.type "slice",data:=.fields #[.int (k:Int) tk,.none,.none] }) (o:={ cls:=.type "list",data:=.seq (vs.drop k).toArray }) rfl
 rw[Heap.size_push] at this
 exact this
theorem gets_str {x:Str}{name:Str}{id:String} (slot:Slot "str" name id) (hty:typeOf (.builtin id)=pure (.type "method_descriptor")):GetsM G n μ (.str x) name (.builtin id):=fun A fenv h₀ L s am i v r pl Q q=>by
 refine ex1_1 (r.isStr) fun t zr1=>?_
 obtain rfl:=zr1
 exact getMethod_builtin (typeIs_str _ _ _) PySem.F.plainAttrs_str slot hty (fun a e=>nomatch e) q
theorem strsAre_of {ys:List Str}:∀{vs:List Value},VRs μ h vs (ys.map .str)→StrsAre vs ys:=by
 induction ys with
 | nil=>intro vs r; cases r; exact .nil
 | cons y ys ih=>
  intro vs r
  cases r with
  | cons a r=>obtain⟨t,rfl⟩:=a.isStr; exact .cons y t (ih r)
theorem o_join_tup {x:Str}{ys:List Str} (hok:(ys.map (·.length)).sum+ys.length*x.length≤16777216) (q:Φ (.str (Txt.join x ys)) μ):WpOs G n μ [.str x,.tup (ys.map .str)] (fun vs=>call (.builtin "str.join") vs) Φ:=fun A fenv h₀ L s am i vs rs=>by
 cases rs with | cons ra rs=>cases rs with | cons rb rs=>cases rs with | nil=>
 refine ex1_1 (ra.isStr) fun t zr1=>?_
 obtain rfl:=zr1
 refine ex3_4 (rb.isTup) fun a ws m zr3 hm g r=>?_
 obtain rfl:=zr3
 exact join_tuple (isTup_of g) (by simpa using strsAre_of r) hok fun t' k=>PostE.same i.sim (.str _ t') q
theorem o_set0 (q:∀ a,μ a=none→Φ (.ref a) μ):WpOs G n μ [] (fun vs=>call (.type "set") vs) Φ:=fun A fenv h₀ L s am i vs rs=>by
 cases rs
 exact call_set_0 fun led=>post_keep (tk:=s.toks) i.sim (fun b o e=>Heap.get?_push_of_some _ e) (.ref _) (q _ i.sim.none_size)
end
noncomputable def arrow:Str:=" -> "
section
variable {G:Gd}{n:Nat}{cx:Cx}{μ μ':Mem}{A:Around}{fenv env:Env}{h₀:List Addr}{h h':Heap}{L:Addr}{s:Shared}{Φ:MV→Mem→Prop}
theorem oks_strs {ys:List Str} (h:∀ y∈ys,PyData.strOk y=true):MV.oks (ys.map .str)=true:=oks_iff.mpr fun d hd=>by
 refine ex1_2 (List.mem_map.mp hd) fun y hy zr2=>?_
 obtain rfl:=zr2
 exact h y hy
theorem dats_strs (ys:List Str):dats (ys.map .str)=ys.map .str:=by
 induction ys with
 | nil=>rfl
 | cons y ys ih=>simp only[List.map_cons,dats,dat,ih]
theorem showable_strs (ys:List Str):PyData.showableAll (ys.map .str)=true:=by
 induction ys with
 | nil=>rfl
 | cons y ys ih=>simp[PyData.showableAll,PyData.showable,ih]
theorem depth_strs (ys:List Str):PyData.depthAll (ys.map .str)=0:=by
 induction ys with
 | nil=>rfl
 | cons y ys ih=>simp[PyData.depthAll,PyData.depth,ih]
noncomputable def showL (ys:List Str):Str:=PyData.shown (.list (ys.map .str))
noncomputable def fmtE:Str:=⟨#[37,115,32,45,62,32,60,101,109,112,116,121,62]⟩
theorem o_fmt1 {x:Str} (hx:x.length≤1000) (q:∀ y,Φ (.str y) μ):WpO2 G n μ (.str fmtE) (.str x) (binaryOp .Mod) Φ:=fun A fenv h₀ L s am i va vb ra rb=>by
 refine ex1_1 (ra.isStr) fun t zr1=>?_
 obtain rfl:=zr1
 refine ex1_1 (rb.isStr) fun u zr1=>?_
 obtain rfl:=zr1
 refine KPc.mod_str (X':=⟨#[37,115,32,45,62,32,60,101,109,112,116,121,62]⟩) (T:=fun z=>z++Str.ofString " -> <empty>") rfl (ω36 hx) ?_ (fun t' k=>PostE.same i.sim (.str _ t') (q _))
 kpc_run_s
end
section
variable {G:Gd}{n:Nat}{cx:Cx}{μ μ':Mem}{A:Around}{fenv env:Env}{h₀:List Addr}{h h':Heap}{L:Addr}{s:Shared}
noncomputable def PostR (G:Gd) (μ:Mem) (s:Shared) (X:String) (Ξ:Mem→Prop) (ev:Value) (s':Shared):Prop:=
 ∃ e μ' h' tk,ev=.ref e∧s'={ s with heap:=h',toks:=tk }∧Ext G μ s.heap μ' h'∧Sim G μ' h'∧(∃ ob t,h'.get? e=some ob∧ob.cls=.type X∧ob.data=.fields #[t,.none,.none,.none,.bool false,.none])∧(∀ o,s.heap.get? e=some o→μ e≠none)∧μ' e=none∧Ξ μ'
noncomputable def WpR (G:Gd) (n:Nat) (cx:Cx) (μ:Mem) (e:Expr) (X:String) (Ξ:Mem→Prop):Prop:=
 ∀ A fenv h₀ L env s,Here G n cx μ A fenv h₀ L env s.heap→wpAny (model G.prog G.w) A (eval e env) (fun _ _=>False) (PostR G μ s X Ξ) s
theorem stack_frames {outer:List Env} (hout:∀ env∈outer,env.scope.kind≠.module∧∃ b∈h₀,env.frame=some b) {base:Heap} (hb:∀ b∈h₀,base.get? b=none∧∃ m,h.Ns b m):h.FunFrames base outer:=by
 induction outer with
 | nil=>trivial
 | cons env r ih=>
  obtain⟨h1,b,hm,h2⟩:=hout env List.mem_cons_self
  obtain⟨h3,m,o,es,ep,ho,hd,_⟩:=hb b hm
  exact⟨h1,⟨b,o,h2,h3,ho,fun vs q=>by rw[hd] at q; cases q⟩,ih fun e he=>hout e (List.mem_cons_of_mem _ he)⟩
theorem flying_push {base h:Heap}{l:List Env}{e:Addr}{cls a0:Value} (f:Heap.FlyingW base l e cls a0 h) (o:Obj):Heap.FlyingW base l e cls a0 (h.push o):=by
 obtain⟨f1,f2,f3,oe,vs,T,oT,ts,he,hc,hd,h1,hn,hTe,hT,hdT,h3⟩:=f
 exact⟨fun b o' e=>Heap.get?_push_of_some _ (f1 b o' e),f2,f3.of_keeps fun b o' e _=>⟨o',Heap.get?_push_of_some _ e,rfl⟩,oe,vs,T,oT,ts,Heap.get?_push_of_some _ he,hc,hd,h1,hn,hTe,Heap.get?_push_of_some _ hT,hdT,h3⟩
noncomputable def Catches (G:Gd) (cx:Cx) (t:Expr) (X:String):Prop:=
 ∀ A fenv h₀ L env μ s e b₀ suite pos rest (Q:Flow→Shared→Prop) (E:Value→Shared→Prop),Here G 0 cx μ (A.mark (some (.ref e))) fenv h₀ L env s.heap→(∃ ob,s.heap.get? e=some ob∧ob.cls=.type X)→
  (∀ h',(∀ b o,s.heap.get? b=some o→h'.get? b=some o)→(∀ base l cls a0,Heap.FlyingW base l e cls a0 s.heap→Heap.FlyingW base l e cls a0 h')→
   wpAny (model G.prog G.w) (A.mark (some (.ref e))) (setFlight (.ref e) none) (fun _ s₂=>wpAny (model G.prog G.w) (A.mark (some (.ref e))) (execs (b₀::suite) env) Q (notedBy (model G.prog G.w) (A.mark (some (.ref e))) env (cameBackBy (model G.prog G.w) A env E)) s₂) (notedBy (model G.prog G.w) (A.mark (some (.ref e))) env (cameBackBy (model G.prog G.w) A env E)) { s with heap:=h' })→
  wpAny (model G.prog G.w) A (handleBy (.ref e) env (.ExceptHandler (some t) none (b₀::suite) pos::rest)) Q E s
theorem catches_name {x:Str}{p:Pos}{X T:String} (hn:nsIn G.K mainGlobals x=some none) (hv:bootBuiltins x=some (.type T)) (hne:x≠"__name__") (hx:cx.scope.names.lookup x=some .globalImplicit) (hdb:(x == ("__debug__":Str))=false)
 (hexc:isSubtype (.type T) (.type "BaseException")=pure true) (hnt:isSubtype (.type ((Manifest.find? T).elim "type" fun x=>x.metatype)) (.type "tuple")=pure false) (hsub:isSubtype (.type X) (.type T)=pure true):Catches G cx (.Name x p) X:=by
 intro A fenv h₀ L env μ s e b₀ suite pos rest Q E H hX k
 refine wpAny_handleBy_builtin (b:=true) hexc hnt hsub (nameB H hn hv hne hx hdb ⟨rfl,hX,?_⟩)
 exact k s.heap (fun _ _ e=>e) fun _ _ _ _ f=>f
theorem catches_tup {x y:Str}{p p2 p3:Pos}{kk:Nat}{X T U:String}{b1 b2:Bool} (hn:nsIn G.K mainGlobals x=some none) (hv:bootBuiltins x=some (.type T)) (hne:x≠"__name__") (hx:cx.scope.names.lookup x=some .globalImplicit) (hdb:(x == ("__debug__":Str))=false)
 (hn':nsIn G.K mainGlobals y=some none) (hv':bootBuiltins y=some (.type U)) (hne':y≠"__name__") (hx':cx.scope.names.lookup y=some .globalImplicit) (hdb':(y == ("__debug__":Str))=false)
 (hexc:isSubtype (.type T) (.type "BaseException")=pure true) (hnt:isSubtype (.type ((Manifest.find? T).elim "type" fun x=>x.metatype)) (.type "tuple")=pure false) (hsub:isSubtype (.type X) (.type T)=pure b1)
 (hexc':isSubtype (.type U) (.type "BaseException")=pure true) (hnt':isSubtype (.type ((Manifest.find? U).elim "type" fun x=>x.metatype)) (.type "tuple")=pure false) (hsub':isSubtype (.type X) (.type U)=pure b2) (hb:(b1 || b2)=true):Catches G cx (.Tuple [.Name x p,.Name y p2] kk p3) X:=by
 intro A fenv h₀ L env μ s e b₀ suite pos rest Q E H hX k
 refine wpAny_handleBy_tup2 hexc hnt hexc' hnt' hsub hsub' ?_
 refine Tuple_ (wpAny_items_cons (nameB H hn hv hne hx hdb (wpAny_items_cons (nameB H hn' hv' hne' hx' hdb' (wpAny_items_nil ?_)) (by rfl))) (by rfl))
 refine wpAny_newObj_type ?_
 refine⟨_,rfl,⟨_,Heap.get?_push_size _ rfl,rfl,0,rfl⟩,?_,?_⟩
 · refine ex1_2 (hX) fun ob h1 h2=>?_
   exact⟨ob,Heap.get?_push_of_some _ h1,h2⟩
 · rw[if_pos hb]
   exact k _ (fun b o e=>Heap.get?_push_of_some _ e) fun _ _ _ _ f=>flying_push f _
theorem WpS1.tryRaise {body:List Stmt}{t:Expr}{b₀:Stmt}{suite:List Stmt}{hp pos:Pos}{X:String}{Ξ:Mem→Prop}{Φ:MF→List (Str×MV)→Mem→Prop}{rest:List ExceptHandler}{orelse:List Stmt}
 (raise:∀ A h₀ env s,HereS G n cx μ A h₀ env s.heap→wpAny (model G.prog G.w) A (execs body env) (fun _ _=>False) (PostR G μ s X Ξ) s) (ct:Catches G cx t X)
 (p:∀ μ',Ξ μ'→WpS G 0 cx μ' (b₀::suite) Φ):WpS1 G n cx μ (.Try body (.ExceptHandler (some t) none (b₀::suite) hp::rest) orelse [] pos) Φ:=fun A h₀ env s H=>by
 refine wpAny_Try_except (wpAny_mono (raise A h₀ env s H) (fun _ _ f=>f.elim) fun ev s₁ q=>?_)
 obtain⟨e,μ₁,h₁,tk,rfl,rfl,x₁,S₁,⟨ob,t0,hob,hcls,hdat⟩,hnew,hme,hξ⟩:=q
 have H₁:=H.ext x₁ S₁
 refine ex1_2 (H.amb.bel) fun outer hA hout=>?_
 have bnone:∀ b∈env.locals::e::h₀,(hideAll h₁ (env.locals::e::h₀)).get? b=none:=fun b hb=>hideAll_none _ hb
 have fr₁:h₁.FunFrames (hideAll h₁ (env.locals::e::h₀)) (env::outer):=by
  refine ex1_1 (H₁.inv.fr) fun m F=>?_
  refine ex3_3 (F.ns) fun o es ep ho hd _=>?_
  exact⟨by rw[H.amb.fk]; decide,⟨env.locals,o,H.amb.frm,bnone _ List.mem_cons_self,ho,fun vs q=>by rw[hd] at q; cases q⟩,stack_frames hout fun b hb=>⟨bnone _ (List.mem_cons_of_mem _ (List.mem_cons_of_mem _ hb)),let ⟨_,_,_,m,hm⟩:=H₁.inv.fs b hb; ⟨m,hm⟩⟩⟩
 have stays₁:(hideAll h₁ (env.locals::e::h₀)).StaysIn h₁:=fun b o q=>of_hideAll _ q
 unfold noteFrame
 simp only[H.amb.frm]
 refine wpAny_bind (wpAny_field hob hdat (x:=.none) rfl ?_)
 rw[if_neg (by decide)]
 refine wpAny_entryW hA fr₁ H.amb.frm hob stays₁ (bnone e (by simp)) hdat (by show 1<6; decide) (a0:=t0) rfl fun h₂ hN=>?_
 refine and4 (hN) fun k1 k2 k3 k4=>?_
 refine wpAny_landsW (s:={ s with heap:=h₂,toks:=tk }) ⟨k1,bnone e (by simp),k2,k3⟩ fun h₃ hfl hsm₃=>?_
 have hsm:h₁.UpToSlots h₃:=Heap.UpToSlots.trans k4 hsm₃
 have step:∀ h₃:Heap,(hideAll h₁ (env.locals::e::h₀)).StaysIn h₃→h₁.UpToSlots h₃→ExtB G env.locals μ s.heap μ₁ h₃∧Sim G μ₁ h₃∧LocOk env cx.ρ μ₁ h₃:=fun h₃ st sm=>by
  have key:∀ b o,b≠env.locals→b≠e→h₁.get? b=some o→KeptO G b o h₃:=fun b o nb ne ho=>by
   by_cases q:b∈h₀
   · obtain⟨_,_,g3,m,o',es,ep,ho',hd',_⟩:=H₁.inv.fs b q
     rw[ho] at ho'; cases ho'
     obtain⟨sl,hs⟩:=sm b o ho fun vs z=>by rw[hd'] at z; cases z
     exact .inr ⟨g3,⟨es,ep,hd'⟩,sl,hs⟩
   · exact .inl (st b o (hideAll_get _ ho (by simp[nb,q,ne])))
  have tx:TExt μ₁ h₁ μ₁ h₃:=fun b o hb ho ht=>by
   obtain⟨hc,xs,k,hs⟩:=ht
   have nb:b≠env.locals:=fun z=>by
    subst z
    refine ex1_1 (H₁.inv.fr) fun m F=>?_
    refine ex3_3 (F.ns) fun o' es ep ho' hd _=>?_
    rw[ho] at ho'; cases ho'; rw[hs] at hd; cases hd
   have ne:b≠e:=fun z=>by
    subst z; rw[ho] at hob; cases hob; rw[hs] at hdat; cases hdat
   exact⟨(key b o nb ne ho).seq (fun es ep z=>by rw[hs] at z; cases z),hb⟩
  refine⟨fun b o nb hb ho=>?_,fun a mo q=>?_,?_⟩
  · refine and2 (x₁ b o hb ho) fun e1 e2=>?_
    exact⟨e1.trans fun o' ho'=>key b o' nb (fun z=>hnew o (z▸ho) (z▸hb)) ho',e2⟩
  · refine ex1_1 ((S₁ a mo q).live) fun o ho=>?_
    have na:a∉env.locals::e::h₀:=fun z=>by
     rcases List.mem_cons.mp z with rfl | z
     · rw[H₁.inv.curr] at q; cases q
     · rcases List.mem_cons.mp z with rfl | z
       · rw[hme] at q; cases q
       · rw[(H₁.inv.fs a z).1] at q; cases q
    exact(S₁ a mo q).at ((st a o (hideAll_get _ ho na)).trans ho.symm) tx
  · refine ex1_2 (H₁.loc) fun m hn hm=>?_
    exact⟨m,sm.ns hn,fun y d e=>let ⟨v,h1,h2⟩:=hm y d e; ⟨v,h1,h2.ext tx⟩⟩
 refine and3 (step h₃ hfl.1 hsm) fun x₃ S₃ l₃=>?_
 have H₃:HereS G n (cx.with cx.ρ) μ₁ A h₀ env h₃:=H.extB x₃ H₁.inv.curr S₃ l₃
 have HM:Here G 0 cx μ₁ (A.mark (some (.ref e))) env h₀ env.locals env h₃:=
  ⟨⟨H.amb.bel,H.amb.frm,H.amb.fk,H.amb.kin,H.amb.top,fun z=>absurd z (by decide),by have:=H.amb.dep; show A.depth+0<_; exact ω38 this,by have:=H.amb.uns; show A.units+40*0<_; exact ω39 this,H.amb.grd⟩,H.eok,H₃.inv,H₃.loc,H₃.inv.curr⟩
 refine ct A env h₀ env.locals env μ₁ { s with heap:=h₃,toks:=tk } e b₀ suite hp rest (PostS G env μ s Φ) NoE HM (let ⟨ob,a,b⟩:=hfl.there; ⟨ob,a,b.trans hcls⟩) fun h₄ hk₄ hf₄=>?_
 refine lands_againW (hf₄ _ _ _ _ hfl) fun h₅ hfl₅ hsm₅=>?_
 have hsm':h₁.UpToSlots h₅:=hsm.trans ((Heap.UpToSlots.of_keeps hk₄).trans hsm₅)
 refine and3 (step h₅ hfl₅.1 hsm') fun x₅ S₅ l₅=>?_
 have H₅:HereS G 0 cx μ₁ (A.mark (some (.ref e))) h₀ env h₅:=
  ⟨HM.amb,H.eok,(H.extB x₅ H₁.inv.curr S₅ l₅).inv,l₅⟩
 exact wpAny_mono (p μ₁ hξ (A.mark (some (.ref e))) h₀ env { s with heap:=h₅,toks:=tk } H₅) (fun f s₆ q₆=>PostS.after (tk:=tk) x₅ q₆) fun _ _ f=>f.elim
end
theorem getItem_tuple_out {prog:Program}{w:World}{A:Around}{E:Value→Shared→Prop}{s:Shared}{t:Addr}{items:Array Value}{k:Int}{u:Tok}{Q:Value→Shared→Prop} (hA:A.handled=none) (ht:IsTup s.heap t items)
 (hlo:-(2 ^ 63)≤k) (hhi:k<2 ^ 63) (hj:seqIndex? k items.size=none) (hE:∀ h' tk e,Heap.NewExc s.heap h' e "IndexError"→E (.ref e) { s with heap:=h',toks:=tk }):wpAny (model prog w) A (getItem (.ref t) (.int k u)) Q E s:=by
 unfold getItem
 try with_reducible refine wpAny_holding ?_
 first | refine wpAny_bind (wpAny_pure ?_) | skip
 refine wpAny_bind (wpAny_sequenceKey ht.typeIs (by decide) ?_)
 refine wpAny_bind (wpAny_callSpecial?_slot (name:=Str.ofString "__getitem__") ht.typeIs slot_tuple_getitem
  (wpAny_call_entry slot_tuple_getitem ht.typeIs entry_tuple_getitem ?_ (args_tuple_getitem _ _)))
 show wpAny _ _ (Builtin.Tuple.tupleItemsOf (.ref t) >>= _) _ _ s
 refine wpAny_bind (tupleItemsOf_ ht ?_)
 refine wpAny_bind (wpAny_typeOf (typeIs_int s k u) ?_)
 rw[if_neg (by decide)]
 refine wpAny_bind (wpAny_specialOf (T:="int") (typeIs_int s k u) int_index ?_)
 rw[if_neg (by simp)]
 refine wpAny_bind (wpAny_of_eq (a:=k) rfl ?_)
 rw[if_neg (by simp only[Bool.or_eq_true,decide_eq_true_eq]; exact ω40 hlo hhi)]
 simp only[hj,Option.bind_none]
 refine wpAny_bind (wpAny_rule ?_)
 first
  | exact wpAny_bind (wpAny_raiseErrorWords plainExc_IndexError hA hE)
  | exact wpAny_raiseErrorWords plainExc_IndexError hA hE
  | exact wpAny_bind (wpAny_raiseErrorMade plainExc_IndexError hA hE (by rw[ofString_length,sizeLine_eq]; decide +kernel))
  | exact wpAny_raiseErrorMade plainExc_IndexError hA hE (by rw[ofString_length,sizeLine_eq]; decide +kernel)
theorem key_isExc:isSubtype (.type "KeyError") (.type "BaseException")=pure true:=by rw[isSubtype_type]; kernel_rfl
theorem key_notTuple:isSubtype (.type ((Manifest.find? "KeyError").elim "type" fun x=>x.metatype)) (.type "tuple")=pure false:=by
 rw[show((Manifest.find? "KeyError").elim "type" fun x=>x.metatype)="type" from by kernel_rfl,isSubtype_type]; kernel_rfl
theorem key_self:isSubtype (.type "KeyError") (.type "KeyError")=pure true:=by rw[isSubtype_type]; kernel_rfl
theorem key_index:isSubtype (.type "KeyError") (.type "IndexError")=pure false:=by rw[isSubtype_type]; kernel_rfl
theorem index_key:isSubtype (.type "IndexError") (.type "KeyError")=pure false:=by rw[isSubtype_type]; kernel_rfl
section
variable {G:Gd}{n:Nat}{cx:Cx}{μ μ':Mem}{A:Around}{fenv env:Env}{h₀:List Addr}{h h':Heap}{L:Addr}{s:Shared}
theorem PostR.after {X:String}{Ξ:Mem→Prop}{h₁:Heap}{tk:Nat} (x:Ext G μ s.heap μ' h₁) {v:Value}{s':Shared} (p:PostR G μ' { s with heap:=h₁,toks:=tk } X Ξ v s'):PostR G μ s X Ξ v s':=by
 obtain⟨e,μ₂,h₂,tk₂,he,hs,x₂,S,ho,hn,hm,q⟩:=p
 refine⟨e,μ₂,h₂,tk₂,he,hs,x.trans x₂,S,ho,fun o z me=>?_,hm,q⟩
 refine and2 (x e o me z) fun e1 e2=>?_
 refine ex1_1 (e1.live) fun o' ho'=>?_
 exact hn o' ho' e2
theorem PostR.made {X:String}{Ξ:Mem→Prop}{h':Heap}{e:Addr}{tk:Nat} (S:Sim G μ s.heap) (x:Heap.NewExc s.heap h' e X) (q:Ξ μ):PostR G μ s X Ξ (.ref e) { s with heap:=h',toks:=tk }:=by
 have xx:Ext G μ s.heap μ h':=fun b o hb eb=>⟨.inl (x.keeps b o eb),hb⟩
 refine⟨e,μ,h',tk,rfl,rfl,xx,S.keep (fun b o _ eb=>x.keeps b o eb) xx.t,(let ⟨ob,t,a,b,c⟩:=x.there; ⟨ob,t,a,b,c⟩),(fun o z=>by rw[x.new] at z; cases z),?_,q⟩
 cases z:μ e with
 | none=>rfl
 | some mo=>obtain⟨o,eo⟩:=(S e mo z).live; rw[x.new] at eo; cases eo
noncomputable def WpOR (G:Gd) (n:Nat) (μ:Mem) (a b:MV) (f:Value→Value→Sem Value) (X:String) (Ξ:Mem→Prop):Prop:=
 ∀ A fenv h₀ L s,Amb G A fenv h₀ L n→Inv G h₀ L μ s.heap→∀ va vb,VR μ s.heap va a→VR μ s.heap vb b→wpAny (model G.prog G.w) A (f va vb) (fun _ _=>False) (PostR G μ s X Ξ) s
theorem WpR.sub {value slice:Expr}{pos:Pos}{X:String}{Ξ:Mem→Prop} (p:WpE G n cx μ value fun a μ₁=>WpE G n cx μ₁ slice fun b μ₂=>WpOR G n μ₂ a b (subscriptTail value slice) X Ξ):WpR G n cx μ (.Subscript value slice pos) X Ξ:=fun A fenv h₀ L env s H=>by
 refine Subscript_ (wpAny_mono (p A fenv h₀ L env s H) (fun v s₁ q=>?_) fun _ _ f=>f.elim)
 refine q.elim fun d μ₁ h₁ tk₁ x₁ S₁ r₁ q₁=>?_
 refine wpAny_mono (q₁ A fenv h₀ L env { s with heap:=h₁,toks:=tk₁ } (H.ext x₁ S₁)) (fun v₂ s₂ q₂=>?_) fun _ _ f=>f.elim
 refine q₂.elim fun d₂ μ₂ h₂ tk₂ x₂ S₂ r₂ q₂=>?_
 exact wpAny_mono (q₂ A fenv h₀ L { s with heap:=h₂,toks:=tk₂ } H.amb (H.inv.ext (x₁.trans x₂) S₂) _ _ (r₁.ext x₂.t) r₂) (fun _ _ f=>f) fun ev s₃ q₃=>q₃.after (x₁.trans x₂)
theorem WpR.subInner {value slice:Expr}{pos:Pos}{X:String}{Ξ:Mem→Prop} (p:WpE G n cx μ value fun a μ₁=>WpR G n cx μ₁ slice X Ξ):WpR G n cx μ (.Subscript value slice pos) X Ξ:=fun A fenv h₀ L env s H=>by
 refine Subscript_ (wpAny_mono (p A fenv h₀ L env s H) (fun v s₁ q=>?_) fun _ _ f=>f.elim)
 refine q.elim fun d μ₁ h₁ tk₁ x₁ S₁ r₁ q₁=>?_
 exact wpAny_mono (q₁ A fenv h₀ L env { s with heap:=h₁,toks:=tk₁ } (H.ext x₁ S₁)) (fun _ _ f=>f.elim) fun ev s₃ q₃=>q₃.after x₁
theorem r_tup_out {value slice:Expr}{ds:List MV}{k:Int}{Ξ:Mem→Prop} (hlo:-(2 ^ 63)≤k) (hhi:k<2 ^ 63) (hj:seqIndex? k ds.length=none) (q:Ξ μ) (hs:NoSlice slice:=by intro _ _; rfl) (h1n:1≤n:=by exact Nat.succ_pos _):WpOR G n μ (.tup ds) (.int k) (subscriptTail value slice) "IndexError" Ξ:=fun A fenv h₀ L s am i va vb ra rb=>by
 obtain⟨a,vs,m,rfl,hm,g,r⟩:=ra.isTup; obtain⟨u,rfl⟩:=rb.isInt
 exact tail_any (isTup_of g).typeIs slot_tuple_getitem.lookup (getItem_tuple_out (am.hnd h1n) (isTup_of g) hlo hhi (by rw[List.size_toArray,r.length]; exact hj) fun h' tk e x=>PostR.made i.sim x q) (hs _ _)
theorem r_dict_none {value slice:Expr}{a:Addr}{x:Str}{es:List (Str×MV)}{Ξ:Mem→Prop} (e:μ a=some (.sdict es)) (hk:atM es x=none) (q:Ξ μ) (hs:NoSlice slice:=by intro _ _; rfl) (h1n:1≤n:=by exact Nat.succ_pos _):WpOR G n μ (.ref a) (.str x) (subscriptTail value slice) "KeyError" Ξ:=fun A fenv h₀ L s am i va vb ra rb=>by
 rw[ra.isRef]; obtain⟨u,rfl⟩:=rb.isStr
 refine ex1_3 (i.sim a _ e) fun kvs hd r hsm=>?_
 rcases r.find x with ⟨h1,h2⟩ | ⟨v,d',h1,h2,rv⟩
 · exact tail_any hd.typeIs slot_dict_getitem.lookup (wpAny_getItem_missing_of (strKind_is G.prog G.w x u) hsm (am.hnd h1n) hd.mapOf h1 fun h' e x=>PostR.made i.sim x q) (hs _ _)
 · rw[hk] at h2; cases h2
theorem raise_assignAttr {o e:Expr}{a:Str}{p' pos:Pos}{X:String}{Ξ:Mem→Prop} (p:WpR G n cx μ e X Ξ) (hs:NoSwap e:=by intro _ _ _; rfl):∀ A h₀ env s,HereS G n cx μ A h₀ env s.heap→wpAny (model G.prog G.w) A (execs [.Assign [.Attribute o a p'] e pos] env) (fun _ _=>False) (PostR G μ s X Ξ) s:=fun A h₀ env s H=>
 wpAny_execs_cons (plainObj_wpAny_Assign_Attribute (wpAny_mono (p A env h₀ _ env s H.here) (fun _ _ f=>f.elim) fun _ _ q=>q) (hs _ _ _))
theorem raise_meth {o e:Expr}{name:Str}{apos pos p2:Pos}{rest:List Expr} (pl:Env→Sem Bool) {X:String}{Ξ:Mem→Prop} (p:WpR G n cx μ o X Ξ)
 (he:∀ env,eval (.Call (.Attribute o name apos) (e::rest) [] pos) env=(do
  let ov ← eval o env
  standAt apos.atName
  let (f,first) ← holding [ov] (getMethod ov name (pl env))
  callWith pos f first (backTo pos (starEach (e::rest) env)) []):=by intro _; rfl) (hs:NoSwap (.Call (.Attribute o name apos) (e::rest) [] pos):=by intro _ _ _; rfl):∀ A h₀ env s,HereS G n cx μ A h₀ env s.heap→wpAny (model G.prog G.w) A (execs [.Expr (.Call (.Attribute o name apos) (e::rest) [] pos) p2] env) (fun _ _=>False) (PostR G μ s X Ξ) s:=fun A h₀ env s H=>
 wpAny_execs_cons (wpAny_Expr (MethodCall_ (wpAny_mono (p A env h₀ _ env s H.here) (fun _ _ f=>f.elim) fun _ _ q=>q) (he env)) (by unfold interactive; rw[H.eok.kind]; rfl) (hs _ _ _))
end
section
variable {G:Gd}{n:Nat}{μ:Mem}{Φ:MV→Mem→Prop}
noncomputable abbrev Law (G:Gd):Prop:=G.K=hd.heap_39 G.w.params
theorem call_plain' (g:Law G) {f:Addr}{name qual:Str}{params:Arguments}{body:List Stmt}{scope:Scope}{dV kV doc pm cdv ct oc:Value}{an od:Option Addr}{osl:Array (Option Value)}{args:List MV} (ρ0:List (Str×MV))
 (ho:∀ P,List.lookup f (hd.heap_39 P)=some ⟨oc,od,.func (fnX name qual params body scope [] dV kV doc pm an cdv ct),osl⟩) (hcd:∀ P,codeIn (hd.heap_39 P) cdv qual=true)
 (hb:∀ s vs,G.K.In s.heap→VRs μ s.heap vs args→∃ binds,BindsTo s (fnX name qual params body scope [] dV kV doc pm an cdv ct) ⟨vs,[]⟩ binds∧PR μ s.heap binds ρ0)
 (p:WpS G n ⟨scope,[],ρ0.reverse⟩ μ body (BodyK Φ))
 (hloc:ρ0.all (fun y=>scope.names.lookup y.1 == some .local)=true:=by rfl) (hcell:∀ x∈scope.names,x.2≠.cell:=by decide)
 (hco:scope.isCoroutine=false:=by rfl) (hgen:scope.isGenerator=false:=by rfl) (hk:scope.kind=.function:=by rfl):WpC G (n+1) μ f args Φ:=
 call_plain (ho:=by rw[g]; exact ho _) (hcd:=by rw[g]; exact hcd _) hb (fun y hy=>by have:=List.all_eq_true.mp hloc y hy; exact beq_iff_eq.mp this) hcell p hco hgen hk
theorem lookup_filter_key {β:Type}{p:Str→Bool}{y:Str}{d:β}:∀{l:List (Str×β)},(l.filter fun z=>p z.1).lookup y=some d→l.lookup y=some d
 | [],h=>by cases h
 | (k,b)::r,h=>by
  rw[List.lookup_cons]
  cases q:y == k with
  | true=>
   have e:=beq_iff_eq.mp q
   subst e
   cases hp:p y with
   | true=>
    rw[List.filter_cons_of_pos (by exact hp),List.lookup_cons,q] at h
    exact h
   | false=>
    rw[List.filter_cons_of_neg (by simp[hp])] at h
    have:=lookup_mem_fst h
    refine ex1_2 (List.mem_map.mp this) fun z hz e=>?_
    have:=(List.mem_filter.mp hz).2
    rw[e,hp] at this; cases this
  | false=>
   cases hp:p k with
   | true=>
    rw[List.filter_cons_of_pos (by exact hp),List.lookup_cons,q] at h
    exact lookup_filter_key h
   | false=>
    rw[List.filter_cons_of_neg (by simp[hp])] at h
    exact lookup_filter_key h
theorem call_cells' (g:Law G) {f:Addr}{name qual:Str}{params:Arguments}{body:List Stmt}{scope:Scope}{dV kV doc pm cdv ct oc:Value}{an od:Option Addr}{osl:Array (Option Value)}{args:List MV} (ρ0 ρ:List (Str×MV)) (ys:List Str) (cm:Str→Option MV)
 (ho:∀ P,List.lookup f (hd.heap_39 P)=some ⟨oc,od,.func (fnX name qual params body scope [] dV kV doc pm an cdv ct),osl⟩) (hcd:∀ P,codeIn (hd.heap_39 P) cdv qual=true)
 (hb:∀ s vs,G.K.In s.heap→VRs μ s.heap vs args→∃ binds,BindsTo s (fnX name qual params body scope [] dV kV doc pm an cdv ct) ⟨vs,[]⟩ binds∧PR μ s.heap binds ρ0)
 (hcl:∀ y∈ys,scope.names.lookup y=some .cell∧cm y=ρ0.reverse.lookup y)
 (p:∀ L',(∀ a,L'≤a→μ a=none)→WpS G n ⟨scope,cellsFrom (L'+1) scope.names [],ρ⟩ (putCells μ cm (cellsFrom (L'+1) scope.names [])) body (BodyK Φ))
 (hys:(cellsFrom 0 scope.names []).map (·.1)=ys:=by rfl) (hnd:ys.Nodup:=by decide)
 (hkind:ρ0.all (fun x=>scope.names.lookup x.1 == some .local || (scope.names.lookup x.1 == some .cell && ys.contains x.1))=true:=by rfl)
 (hρ:(ρ0.reverse.filter fun y=>scope.names.lookup y.1 == some .local)=ρ:=by rfl)
 (hco:scope.isCoroutine=false:=by rfl) (hgen:scope.isGenerator=false:=by rfl) (hk:scope.kind=.function:=by rfl):WpC G (n+1) μ f args Φ:=
 call_cells ρ cm (ho:=by rw[g]; exact ho _) (hcd:=by rw[g]; exact hcd _) hb (fun y hy=>by
  have:=List.all_eq_true.mp hkind y hy
  simp only[Bool.or_eq_true,Bool.and_eq_true,beq_iff_eq,List.contains_iff_mem] at this
  rw[hys]; exact this) (by rw[hys]; exact hnd) (by rw[hys]; exact hcl) (fun y hy=>by rw[← hρ] at hy; exact beq_iff_eq.mp (List.mem_filter.mp hy).2) (fun y d e=>by rw[← hρ] at e; exact lookup_filter_key (p:=fun y=>scope.names.lookup y == some .local) e) p hco hgen hk
theorem glob_of (g:Law G) {x:Str}{v:Option Value} (h:∀ P,nsIn (hd.heap_39 P) mainGlobals x=some v):nsIn G.K mainGlobals x=some v:=by rw[g]; exact h _
theorem keep_of (g:Law G) {v:Value} (h:∀ P,keepIn (hd.heap_39 P) v=true):keepIn G.K v=true:=by rw[g]; exact h _
theorem gn__is_identifier (g:Law G):nsIn G.K mainGlobals "_is_identifier" = some (some (.ref 39)):=glob_of g fun _=>by kernel_rfl
theorem gk__is_identifier (g:Law G):keepIn G.K (.ref 39)=true:=keep_of g fun _=>by kernel_rfl
theorem gn__literal (g:Law G):nsIn G.K mainGlobals "_literal" = some (some (.ref 46)):=glob_of g fun _=>by kernel_rfl
theorem gk__literal (g:Law G):keepIn G.K (.ref 46)=true:=keep_of g fun _=>by kernel_rfl
theorem gn_rightmost_terminal (g:Law G):nsIn G.K mainGlobals "rightmost_terminal" = some (some (.ref 146)):=glob_of g fun _=>by kernel_rfl
theorem gk_rightmost_terminal (g:Law G):keepIn G.K (.ref 146)=true:=keep_of g fun _=>by kernel_rfl
theorem gn__law_NAMES (g:Law G):nsIn G.K mainGlobals "_law_NAMES" = some (some (.ref 294)):=glob_of g fun _=>by kernel_rfl
theorem gk__law_NAMES (g:Law G):keepIn G.K (.ref 294)=true:=keep_of g fun _=>by kernel_rfl
theorem gn__law_TOKENS (g:Law G):nsIn G.K mainGlobals "_law_TOKENS" = some (some (.ref 301)):=glob_of g fun _=>by kernel_rfl
theorem gk__law_TOKENS (g:Law G):keepIn G.K (.ref 301)=true:=keep_of g fun _=>by kernel_rfl
theorem gn__law_next (g:Law G):nsIn G.K mainGlobals "_law_next" = some (some (.ref 309)):=glob_of g fun _=>by kernel_rfl
theorem gk__law_next (g:Law G):keepIn G.K (.ref 309)=true:=keep_of g fun _=>by kernel_rfl
theorem gn__law_row (g:Law G):nsIn G.K mainGlobals "_law_row" = some (some (.ref 314)):=glob_of g fun _=>by kernel_rfl
theorem gk__law_row (g:Law G):keepIn G.K (.ref 314)=true:=keep_of g fun _=>by kernel_rfl
theorem gn__law_add (g:Law G):nsIn G.K mainGlobals "_law_add" = some (some (.ref 319)):=glob_of g fun _=>by kernel_rfl
theorem gk__law_add (g:Law G):keepIn G.K (.ref 319)=true:=keep_of g fun _=>by kernel_rfl
theorem gn__law_chart (g:Law G):nsIn G.K mainGlobals "_law_chart" = some (some (.ref 324)):=glob_of g fun _=>by kernel_rfl
theorem gk__law_chart (g:Law G):keepIn G.K (.ref 324)=true:=keep_of g fun _=>by kernel_rfl
theorem gn__law_joined (g:Law G):nsIn G.K mainGlobals "_law_joined" = some (some (.ref 331)):=glob_of g fun _=>by kernel_rfl
theorem gk__law_joined (g:Law G):keepIn G.K (.ref 331)=true:=keep_of g fun _=>by kernel_rfl
theorem gn__law_fronts (g:Law G):nsIn G.K mainGlobals "_law_fronts" = some (some (.ref 336)):=glob_of g fun _=>by kernel_rfl
theorem gk__law_fronts (g:Law G):keepIn G.K (.ref 336)=true:=keep_of g fun _=>by kernel_rfl
theorem gn__law_spans (g:Law G):nsIn G.K mainGlobals "_law_spans" = some (some (.ref 341)):=glob_of g fun _=>by kernel_rfl
theorem gk__law_spans (g:Law G):keepIn G.K (.ref 341)=true:=keep_of g fun _=>by kernel_rfl
theorem gn__law_due (g:Law G):nsIn G.K mainGlobals "_law_due" = some (some (.ref 346)):=glob_of g fun _=>by kernel_rfl
theorem gk__law_due (g:Law G):keepIn G.K (.ref 346)=true:=keep_of g fun _=>by kernel_rfl
theorem gn_Production (g:Law G):nsIn G.K mainGlobals "Production" = some (some (.ref 100)):=glob_of g fun _=>by kernel_rfl
theorem gk_Production (g:Law G):keepIn G.K (.ref 100)=true:=keep_of g fun _=>by kernel_rfl
theorem gn_LRItem (g:Law G):nsIn G.K mainGlobals "LRItem" = some (some (.ref 135)):=glob_of g fun _=>by kernel_rfl
theorem gk_LRItem (g:Law G):keepIn G.K (.ref 135)=true:=keep_of g fun _=>by kernel_rfl
theorem gn_Grammar (g:Law G):nsIn G.K mainGlobals "Grammar" = some (some (.ref 283)):=glob_of g fun _=>by kernel_rfl
theorem gk_Grammar (g:Law G):keepIn G.K (.ref 283)=true:=keep_of g fun _=>by kernel_rfl
theorem gn_SYMBOLS (g:Law G):nsIn G.K mainGlobals "_law_SYMBOLS" = some (some (.ref 302)):=glob_of g fun _=>by kernel_rfl
theorem bn_len (g:Law G):nsIn G.K mainGlobals "len" = some Option.none:=glob_of g fun _=>by kernel_rfl
theorem bn_range (g:Law G):nsIn G.K mainGlobals "range" = some Option.none:=glob_of g fun _=>by kernel_rfl
theorem bn_enumerate (g:Law G):nsIn G.K mainGlobals "enumerate" = some Option.none:=glob_of g fun _=>by kernel_rfl
theorem bn_tuple (g:Law G):nsIn G.K mainGlobals "tuple" = some Option.none:=glob_of g fun _=>by kernel_rfl
theorem bn_list (g:Law G):nsIn G.K mainGlobals "list" = some Option.none:=glob_of g fun _=>by kernel_rfl
theorem bn_all (g:Law G):nsIn G.K mainGlobals "all" = some Option.none:=glob_of g fun _=>by kernel_rfl
theorem bn_sorted (g:Law G):nsIn G.K mainGlobals "sorted" = some Option.none:=glob_of g fun _=>by kernel_rfl
theorem bn_set (g:Law G):nsIn G.K mainGlobals "set" = some Option.none:=glob_of g fun _=>by kernel_rfl
theorem bn_KeyError (g:Law G):nsIn G.K mainGlobals "KeyError" = some Option.none:=glob_of g fun _=>by kernel_rfl
theorem bn_IndexError (g:Law G):nsIn G.K mainGlobals "IndexError" = some Option.none:=glob_of g fun _=>by kernel_rfl
theorem WpE.callG {cx:Cx}{x:Str}{p pos:Pos}{e:Expr}{rest:List Expr}{f:Addr} (hn:nsIn G.K mainGlobals x=some (some (.ref f))) (hk:keepIn G.K (.ref f)=true) (q:WpEs G n cx μ (e::rest) (CFK G n f Φ))
 (hx:cx.scope.names.lookup x=some .globalImplicit:=by rfl) (hdb:(x == ("__debug__":Str))=false:=by decide)
 (he:∀ env,eval (.Call (.Name x p) (e::rest) [] pos) env=(do callWith pos (← eval (.Name x p) env) [] (backTo pos (starEach (e::rest) env)) (backToKw pos (keywordEach [] env))):=by intro _; rfl)
 (he2:∀ env,starEach (e::rest) env=(false,eval e env)::starEach rest env:=by intro _; rfl) (hp:∀ env,(backTo pos (starEach rest env)).any (·.1)=false:=by intro _; rfl):WpE G n cx μ (.Call (.Name x p) (e::rest) [] pos) Φ:=
 WpE.callF (WpE.glob hn ⟨f,rfl,hk,q⟩ hx hdb) he he2 hp
theorem WpE.callG0 {cx:Cx}{x:Str}{p pos:Pos}{f:Addr} (hn:nsIn G.K mainGlobals x=some (some (.ref f))) (hk:keepIn G.K (.ref f)=true) (q:WpC G n μ f [] Φ)
 (hx:cx.scope.names.lookup x=some .globalImplicit:=by rfl) (hdb:(x == ("__debug__":Str))=false:=by decide)
 (he:∀ env,eval (.Call (.Name x p) [] [] pos) env=(do callWith pos (← eval (.Name x p) env) [] (backTo pos (starEach [] env)) (backToKw pos (keywordEach [] env))):=by intro _; rfl):WpE G n cx μ (.Call (.Name x p) [] [] pos) Φ:=
 WpE.callF0 (WpE.glob hn ⟨f,rfl,hk,q⟩ hx hdb) he
end
noncomputable def Le (μ μ':Mem):Prop:=∀ b mo,μ b=some mo→μ' b=some mo
theorem Le.refl (μ:Mem):Le μ μ:=fun _ _ e=>e
theorem Le.trans {μ μ' μ'':Mem} (x:Le μ μ') (y:Le μ' μ''):Le μ μ'':=fun b mo e=>y b mo (x b mo e)
theorem Le.upd {μ:Mem}{a:Addr}{mo:MO} (h:μ a=none):Le μ (upd μ a mo):=fun b m e=>by rw[upd_ne _ _ (fun z=>by rw[z,h] at e; cases e)]; exact e
noncomputable def LeB (c:Addr) (μ μ':Mem):Prop:=∀ b mo,b≠c→μ b=some mo→μ' b=some mo
theorem Le.b {μ μ':Mem} (x:Le μ μ') (c:Addr):LeB c μ μ':=fun b mo _ e=>x b mo e
theorem LeB.trans {c:Addr}{μ μ' μ'':Mem} (x:LeB c μ μ') (y:LeB c μ' μ''):LeB c μ μ'':=fun b mo n e=>y b mo n (x b mo n e)
theorem LeB.upd (c:Addr) (μ:Mem) (mo:MO):LeB c μ (upd μ c mo):=fun b m n e=>by rw[upd_ne _ _ n]; exact e
theorem LeB.le {c:Addr}{μ μ':Mem} (x:LeB c μ μ') (h:μ c=none):Le μ μ':=fun b mo e=>x b mo (fun z=>by rw[z,h] at e; cases e) e
theorem LeB.upd2 {c a:Addr}{μ:Mem}{mo:MO} (h:μ a=none):LeB c μ (Mine.upd μ a mo):=(Le.upd h).b c
section
variable {G:Gd}{n:Nat}{cx:Cx}{μ:Mem}{Φ:MV→Mem→Prop}
theorem bind1 {fd:FuncData}{x:Str}{a:MV} (hb:∀ v,bindArgs fd ⟨[v],[]⟩=pure [(x,v)]):∀ s vs,G.K.In s.heap→VRs μ s.heap vs [a]→∃ binds,BindsTo s fd ⟨vs,[]⟩ binds∧PR μ s.heap binds [(x,a)]:=fun s vs _ rs=>by
 cases rs with | cons ra rs=>cases rs with | nil=>
 exact⟨_,BindsTo.of_eq (hb _),.cons ra .nil⟩
theorem bind0 {fd:FuncData} (hb:bindArgs fd ⟨[],[]⟩=pure []):∀ s vs,G.K.In s.heap→VRs μ s.heap vs []→∃ binds,BindsTo s fd ⟨vs,[]⟩ binds∧PR μ s.heap binds []:=fun s vs _ rs=>by
 cases rs
 exact⟨_,BindsTo.of_eq hb,.nil⟩
theorem bind2 {fd:FuncData}{x y:Str}{a b:MV} (hb:∀ v w,bindArgs fd ⟨[v,w],[]⟩=pure [(x,v),(y,w)]):∀ s vs,G.K.In s.heap→VRs μ s.heap vs [a,b]→∃ binds,BindsTo s fd ⟨vs,[]⟩ binds∧PR μ s.heap binds [(x,a),(y,b)]:=fun s vs _ rs=>by
 cases rs with | cons ra rs=>cases rs with | cons rb rs=>cases rs with | nil=>
 exact⟨_,BindsTo.of_eq (hb _ _),.cons ra (.cons rb .nil)⟩
theorem bind3 {fd:FuncData}{x y z:Str}{a b c:MV} (hb:∀ v w u,bindArgs fd ⟨[v,w,u],[]⟩=pure [(x,v),(y,w),(z,u)]):∀ s vs,G.K.In s.heap→VRs μ s.heap vs [a,b,c]→∃ binds,BindsTo s fd ⟨vs,[]⟩ binds∧PR μ s.heap binds [(x,a),(y,b),(z,c)]:=fun s vs _ rs=>by
 cases rs with | cons ra rs=>cases rs with | cons rb rs=>cases rs with | cons rc rs=>cases rs with | nil=>
 exact⟨_,BindsTo.of_eq (hb _ _ _),.cons ra (.cons rb (.cons rc .nil))⟩
theorem o_item_base {value slice:Expr}{a:Addr}{k:Nat}{vs:Array Value}{m:Nat}{x:Str}{t:Tok} (ho:G.K.lookup a=some ({ cls:=.type "list",data:=.seq vs m }:Obj)) (hk:vs[k]?=some (.str x t)) (hl:k<1000) (q:Φ (.str x) μ) (hs:NoSlice slice:=by intro _ _; rfl) :
 WpO2 G n μ (.ref a) (.int k) (subscriptTail value slice) Φ:=fun A fenv h₀ L s am i va vb ra rb=>by
 rw[ra.isRef]; obtain⟨u,rfl⟩:=rb.isInt
 have g:s.heap.get? a=some ({ cls:=.type "list",data:=.seq vs m }:Obj):=am.kin' i a _ ho
 exact tail_any ⟨_,g,rfl⟩ slot_list_getitem.lookup (wpAny_getItem_list (items:=vs) ⟨_,g,rfl,m,rfl⟩ ω34 (ω41 hl) (by simpa using hk) (PostE.same (tk:=s.toks) i.sim (.str x t) q)) (hs _ _)
noncomputable def strsM (l:List Str):List MV:=l.map .str
noncomputable def NAMES:List Str:=["S","A","B","N"]
noncomputable def TOKENS:List Str:=["a","b",".","error"]
noncomputable def SYMBOLS:List Str:=["a","b",".","S","A","B","error","N"]
theorem c_NAMES (g:Law G) (q:∀ a,μ a=none→Φ (.ref a) (upd μ a (.list (strsM NAMES)))):WpC G (n+1) μ 294 [] Φ:=by
 refine call_plain' g [] (fun _=>by rfl) (fun _=>by kernel_rfl) (bind0 rfl) ?_
 refine WpS.cons (WpS1.ret (WpE.list (WpEs.cons (WpE.str (WpEs.cons (WpE.str (WpEs.cons (WpE.str (WpEs.cons (WpE.str (WpEs.nil ?_)))))))))))
 exact⟨by decide,q⟩
theorem c_TOKENS (g:Law G) (q:∀ a,μ a=none→Φ (.ref a) (upd μ a (.list (strsM TOKENS)))):WpC G (n+1) μ 301 [] Φ:=by
 refine call_plain' g [] (fun _=>by rfl) (fun _=>by kernel_rfl) (bind0 rfl) ?_
 refine WpS.cons (WpS1.ret (WpE.list (WpEs.cons (WpE.str (WpEs.cons (WpE.str (WpEs.cons (WpE.str (WpEs.cons (WpE.str (WpEs.nil ?_)))))))))))
 exact⟨by decide,q⟩
theorem c_next (g:Law G) {a:Addr}{ds:List MV} (e:μ a=some (.list ds)) (hl:ds.length≤10000)
 (q:match ds with | []=>Φ (.int 0) μ | d::ds=>Φ d (upd μ a (.list ds))):WpC G (n+1) μ 309 [.ref a] Φ:=by
 refine call_plain' g [("tape",.ref a)] (fun _=>by rfl) (fun _=>by kernel_rfl) (bind1 (fun _=>rfl)) ?_
 refine WpS.cons (WpS1.ret (WpE.ifexp (WpT.val (WpE.loc rfl ?_))))
 refine o_truthL e (ω42 hl) ?_
 cases ds with
 | nil=>
  refine WpE.int ?_
  exact q
 | cons d ds=>
  refine WpE.methB _ (WpE.loc rfl ⟨gets_list e PySem.F.slot_list_pop PySem.F.type_list_pop,WpEs.cons (WpE.int (WpEs.nil ?_))⟩)
  exact o_pop0 e (by simp at hl; exact ω43 hl) q
noncomputable def nextP:List Nat→Nat
 | []=>0
 | d::_=>d
noncomputable def natsM (l:List Nat):List MV:=l.map fun (k:Nat)=>.int (k:Int)
theorem c_nextN (g:Law G) {a:Addr}{ds:List Nat} (e:μ a=some (.list (natsM ds))) (hl:ds.length≤10000) (q:∀ μ',μ' a=some (.list (natsM ds.tail))→LeB a μ μ'→(μ'=upd μ a (.list (natsM ds.tail))∨μ'=μ)→Φ (.int (nextP ds)) μ'):WpC G (n+1) μ 309 [.ref a] Φ:=by
 refine c_next g e (by simpa[natsM] using hl) ?_
 cases ds with
 | nil=>exact q μ e (Le.refl μ |>.b a) (.inr rfl)
 | cons d ds=>exact q _ (upd_same _ _ _) (LeB.upd _ _ _) (.inl rfl)
end
section
variable {G:Gd}{n:Nat}{cx:Cx}{μ:Mem}{Φ:MV→Mem→Prop}
theorem fmod_nat (d m:Nat):Int.fmod (d:Int) (m:Int)=((d % m:Nat):Int):=by
 rw[Int.fmod_eq_emod_of_nonneg _ ω34]; rfl
noncomputable abbrev Rule:=Str×List Str
noncomputable def mvRule (r:Rule):MV:=.tup [.str r.1,.tup (strsM r.2)]
noncomputable def symAt (k:Nat):Str:=SYMBOLS.getD (k % 8) "a"
noncomputable def symsOf (k:Nat) (t:List Nat):List Str:=(List.range k).map fun j=>symAt (nextP (t.drop j))
noncomputable def rowOf (t:List Nat) (name:Str) (most:Nat):Rule:=(name,symsOf (nextP t % (most+1)) t.tail)
noncomputable def rowRest (t:List Nat) (most:Nat):List Nat:=t.tail.drop (nextP t % (most+1))
theorem strOf {o:Option Value}{x:Str} (h:(match o with | some (.str y _)=>decide (y=x) | _=>false)=true):∃ t,o=some (.str x t):=by
 cases o with
 | none=>cases h
 | some v=>cases v with
  | str y t=>exact⟨t,by rw[of_decide_eq_true h]⟩
  | _=>cases h
theorem symAt_item (k:Nat):∃ t,(#[Value.str ("a") 587,Value.str ("b") 588,Value.str (".") 589,Value.str ("S") 590,Value.str ("A") 591,Value.str ("B") 592,Value.str ("error") 593,Value.str ("N") 594]:Array Value)[k % 8]?=some (.str (symAt k) t):=by
 refine strOf ?_
 unfold symAt
 have h:k % 8<8:=Nat.mod_lt _ (by decide)
 revert h
 generalize k % 8=j
 revert j
 decide +kernel
theorem c_row (g:Law G) {a:Addr}{t:List Nat}{name:Str}{most:Nat} (e:μ a=some (.list (natsM t))) (hl:t.length≤1000) (hm:most≤10)
 (q:∀ μ',μ' a=some (.list (natsM (rowRest t most)))→LeB a μ μ'→Φ (mvRule (rowOf t name most)) μ'):WpC G (n+2) μ 314 [.ref a,.str name,.int most] Φ:=by
 refine call_cells' g [("tape",.ref a),("name",.str name),("most",.int most)] [("most",.int most),("name",.str name)] ["tape"] (fun x=>if x="tape" then some (.ref a) else none) (fun _=>by rfl) (fun _=>by kernel_rfl) (bind3 (fun _ _ _=>rfl)) ?_ ?_
 · intro y hy
   have:y=("tape":Str):=by simpa using hy
   subst this
   exact⟨rfl,rfl⟩
 intro L' hL
 have mc:μ (L'+1)=none:=hL _ (Nat.le_succ _)
 have ne:L'+1≠a:=fun z=>by rw[z,e] at mc; cases mc
 show WpS G (n+1) _ (upd μ (L'+1) (.cell (some (.ref a)))) _ _
 refine WpS.cons (WpS1.assign (WpE.bin (WpE.callG (gn__law_next g) (gk__law_next g) (WpEs.cons (WpE.cellv (.inl rfl) (c:=L'+1) rfl (upd_same _ _ _) (WpEs.nil ?_) rfl)))))
 refine c_nextN g ((upd_ne _ _ (Ne.symm ne)).trans e) (ω44 hl) fun μ₁ e₁ l₁ _=>?_
 refine WpE.bin (WpE.loc rfl (WpE.int (o_add ?_)))
 refine o_mod ω45 ?_
 have hc:Int.fmod (nextP t:Int) ((most:Int)+1)=((nextP t % (most+1):Nat):Int):=fmod_nat _ _
 rw[hc]
 have c₁:μ₁ (L'+1)=some (.cell (some (.ref a))):=l₁ _ _ ne (upd_same _ _ _)
 have la:LeB a μ μ₁:=fun b mo nb eb=>l₁ b mo nb ((upd_ne _ _ (fun z=>by rw[z,mc] at eb; cases eb)).trans eb)
 generalize hcount:nextP t % (most+1)=count
 have hcl:count≤10:=by have:=Nat.mod_lt (nextP t) (show 0<most+1 by exact ω46); exact ω47 this hcount hm
 refine WpS.cons (WpS1.ret (WpE.tuple (WpEs.cons (WpE.loc rfl ?_))))
 refine WpEs.cons ?_
 refine WpE.callT (bn_tuple g) (WpEs.cons ?_)
 refine WpE.comp [("tape",L'+1)] (WpIt.range (bn_range g) (WpE.loc rfl ?_)) ?_
 · refine⟨count,rfl,ω34,ω48 hcl,.inr ⟨rfl,fun _ _=>rfl⟩,count,(fun k ds μ=>k≤count∧ds=strsM (symsOf k t.tail)∧μ a=some (.list (natsM (t.tail.drop k)))∧LeB a μ₁ μ),ω49 hcl,⟨ω50,rfl,by simpa using e₁,Le.refl _ |>.b a⟩,?_⟩
   intro k ds μ₂ hh_
   refine and4 hh_ fun hk zr1 e₂ l₂=>?_
   obtain rfl:=zr1
   clear hh_
   refine⟨hk,_,rfl,?_⟩
   by_cases hlt:k<count
   · rw[if_pos (ω51 hlt)]
     refine⟨hlt,fun ρ=>WpA.name (WpIfs.nil ?_)⟩
     refine ite_t rfl ?_
     refine WpE.sub (WpE.glob (gn_SYMBOLS g) ?_)
     refine WpE.bin (WpE.callG (gn__law_next g) (gk__law_next g) (WpEs.cons (WpE.cellv (.inl rfl) (c:=L'+1) rfl (l₂ _ _ ne c₁) (WpEs.nil ?_) rfl)))
     refine c_nextN g e₂ (by have:=List.length_drop (i:=k) (l:=t.tail); simp at this; simp; exact ω52 hl) fun μ₃ e₃ l₃ _=>?_
     refine WpE.int (o_mod ω53 ?_)
     rw[show((8:Int))=((8:Nat):Int) from rfl,fmod_nat]
     refine ex1_1 (symAt_item (nextP (t.tail.drop k))) fun tk hi=>?_
     refine o_item_base (by rw[g]; rfl) hi (by have:=Nat.mod_lt (nextP (t.tail.drop k)) (show 0<8 by decide); exact ω54) ⟨ω55 hlt,?_,?_,l₂.trans l₃⟩
     · simp[strsM,symsOf,List.range_succ]
     · rw[e₃]; simp[natsM,List.tail_drop]
   · rw[if_neg (ω56 hlt)]
     have:k=count:=ω57 hk hlt
     subst this
     intro b hb
     have nb:b≠a:=fun z=>by rw[z,e₂] at hb; cases hb
     refine WpEs.nil (o_tuple_list (upd_same _ _ _) (by simp[strsM,symsOf]; exact ω49 hcl) (WpEs.nil ⟨by simp,?_⟩))
     have:=q (upd μ₂ b (.list (strsM (symsOf k t.tail)))) (by rw[upd_ne _ _ (Ne.symm nb),e₂]; unfold rowRest; rw[hcount]) ((la.trans l₂).trans (LeB.upd2 hb))
     unfold rowOf mvRule at this
     rw[hcount] at this
     exact this
 · intro env _ h
   obtain⟨sc,lo,gl,ce,qu,fu,co,fr,bu⟩:=env
   simp only at h
   subst h
   rfl
end
noncomputable abbrev Lk (ρ:List (Str×MV)) (x:Str) (d:MV):Prop:=ρ.lookup x=some d
noncomputable abbrev Pair:=Nat×Nat
noncomputable def mvPair (p:Pair):MV:=.tup [.int p.1,.int p.2]
noncomputable def pairsM (l:List Pair):List MV:=l.map mvPair
theorem mvPair_inj {p q:Pair} (h:mvPair p=mvPair q):p=q:=by
 obtain⟨a,b⟩:=p; obtain⟨c,d⟩:=q
 simp only[mvPair,MV.tup.injEq,List.cons.injEq,MV.int.injEq,and_true] at h
 refine and2 (h) fun h1 h2=>?_
 rw[Int.ofNat.inj h1,Int.ofNat.inj h2]
theorem mem_pairsM {p:Pair}{l:List Pair}:mvPair p∈pairsM l↔p∈l:=by
 unfold pairsM
 rw[List.mem_map]
 exact⟨fun ⟨q,h,e⟩=>mvPair_inj e▸h,fun h=>⟨p,h,rfl⟩⟩
theorem oks_pairsM (l:List Pair):MV.oks (pairsM l)=true:=oks_iff.mpr fun d hd=>by
 obtain⟨p,_,rfl⟩:=List.mem_map.mp hd; rfl
theorem pairsM_get {l:List Pair}{k:Nat}:(pairsM l)[k]?=(l[k]?).map mvPair:=List.getElem?_map
theorem pairsM_snoc (l:List Pair) (p:Pair):pairsM l++[mvPair p]=pairsM (l++[p]):=by simp[pairsM]
theorem pairsM_length (l:List Pair):(pairsM l).length=l.length:=List.length_map _
noncomputable def joinStep (lo m:Nat) (acc:List Pair) (q:Pair):List Pair:=if q.1=m∧(lo,q.2)∉acc then acc++[(lo,q.2)] else acc
noncomputable def joinIn (l2:List Pair) (acc:List Pair) (p:Pair):List Pair:=l2.foldl (joinStep p.1 p.2) acc
noncomputable def joined (l1 l2:List Pair):List Pair:=l1.foldl (joinIn l2) []
theorem joinStep_len (lo m:Nat) (acc:List Pair) (q:Pair):(joinStep lo m acc q).length≤acc.length+1:=by
 unfold joinStep; split <;> simp
theorem foldStep_len (lo m:Nat) (l2:List Pair):∀ acc:List Pair,(l2.foldl (joinStep lo m) acc).length≤acc.length+l2.length:=by
 induction l2 with
 | nil=>intro acc; simp
 | cons q l2 ih=>
  intro acc
  rw[List.foldl_cons,List.length_cons]
  have h1:=ih (joinStep lo m acc q)
  have h2:=joinStep_len lo m acc q
  exact ω58 h2 h1
theorem joined_len (l1 l2:List Pair):∀ acc:List Pair,(l1.foldl (joinIn l2) acc).length≤acc.length+l1.length*l2.length:=by
 induction l1 with
 | nil=>intro acc; simp
 | cons p l1 ih=>
  intro acc
  rw[List.foldl_cons,List.length_cons]
  have h1:=ih (joinIn l2 acc p)
  have h2:=foldStep_len p.1 p.2 l2 acc
  unfold joinIn at h1 ⊢
  rw[Nat.add_mul]
  exact ω59 h1 h2
theorem take_succ_fold {α β:Type} (f:β→α→β) (l:List α) (b:β) {k:Nat}{x:α} (h:l[k]?=some x):(l.take (k+1)).foldl f b=f ((l.take k).foldl f b) x:=by
 rw[List.take_succ,h]
 simp[List.foldl_append]
section
variable {G:Gd}{n:Nat}{cx:Cx}{μ:Mem}{Φ:MV→Mem→Prop}
theorem c_joined (g:Law G) {a b:Addr}{l1 l2:List Pair} (e1:μ a=some (.list (pairsM l1))) (e2:μ b=some (.list (pairsM l2))) (h1:l1.length≤1000) (h2:l2.length≤1000)
 (q:∀ c μ',μ c=none→μ' c=some (.list (pairsM (joined l1 l2)))→Le μ μ'→Φ (.ref c) μ'):WpC G (n+3) μ 331 [.ref a,.ref b] Φ:=by
 refine call_plain' g [("one",.ref a),("other",.ref b)] (fun _=>by rfl) (fun _=>by kernel_rfl) (bind2 (fun _ _=>rfl)) ?_
 refine WpS.cons (WpS1.assign (WpE.list (WpEs.nil ⟨by decide,fun c mc=>?_⟩)))
 have nca:a≠c:=fun z=>by rw[← z,e1] at mc; cases mc
 have ncb:b≠c:=fun z=>by rw[← z,e2] at mc; cases mc
 refine WpS.cons (WpS1.for_ (WpIt.list (WpE.loc rfl ⟨a,pairsM l1,rfl,(upd_ne _ _ nca).trans e1,.inl ⟨_,_,_,rfl⟩,l1.length,
  (fun k ρ μ'=>k≤l1.length∧Lk ρ "pairs" (.ref c)∧Lk ρ "other" (.ref b)∧μ' c=some (.list (pairsM ((l1.take k).foldl (joinIn l2) [])))∧LeB c μ μ'),⟨ω50,rfl,rfl,upd_same _ _ _,LeB.upd _ _ _⟩,?_⟩)))
 intro k ρ μ₁ hh
 refine and5 hh fun hk r1 r2 ec lc=>?_
 clear hh
 refine⟨hk,_,⟨_,lc _ _ nca e1,rfl⟩,?_⟩
 rw[pairsM_get]
 cases hx:l1[k]? with
 | none=>
  have:l1.length≤k:=List.getElem?_eq_none_iff.mp hx
  have:k=l1.length:=ω61 hk this
  subst this
  rw[List.take_length] at ec
  exact WpS.cons (WpS1.ret (WpE.loc r1 (q c μ₁ mc ec (lc.le mc))))
 | some p=>
  have hlt:=(List.getElem?_eq_some_iff.mp hx).1
  refine⟨hlt,WpA.tup (WpAs.cons (WpA.name (WpAs.cons (WpA.name (WpAs.nil ?_)))))⟩
  refine WpS.cons (WpS1.for_ (WpIt.list (WpE.loc (show List.lookup _ (_::_::ρ)=some (.ref b) from r2) ⟨b,pairsM l2,rfl,lc _ _ ncb e2,.inl ⟨_,_,_,rfl⟩,l2.length,
   (fun j ρ' μ'=>j≤l2.length∧Lk ρ' "pairs" (.ref c)∧Lk ρ' "other" (.ref b)∧Lk ρ' "low" (.int p.1)∧Lk ρ' "middle" (.int p.2)∧μ' c=some (.list (pairsM ((l2.take j).foldl (joinStep p.1 p.2) ((l1.take k).foldl (joinIn l2) []))))∧LeB c μ μ'),⟨ω50,r1,r2,rfl,rfl,ec,lc⟩,?_⟩)))
  intro j ρ' μ₂ hh
  refine and7 hh fun hj s1 s2 s3 s4 ec2 lc2=>?_
  clear hh
  refine⟨hj,_,⟨_,lc2 _ _ ncb e2,rfl⟩,?_⟩
  rw[pairsM_get]
  cases hy:l2[j]? with
  | none=>
   have:l2.length≤j:=List.getElem?_eq_none_iff.mp hy
   have:j=l2.length:=ω61 hj this
   subst this
   rw[List.take_length] at ec2
   refine WpS.nil ⟨ω55 hlt,s1,s2,?_,lc2⟩
   rw[take_succ_fold _ _ _ hx]; exact ec2
  | some y=>
   have hlt2:=(List.getElem?_eq_some_iff.mp hy).1
   refine⟨hlt2,WpA.tup (WpAs.cons (WpA.name (WpAs.cons (WpA.name (WpAs.nil ?_)))))⟩
   have hfold:=take_succ_fold (joinStep p.1 p.2) l2 ((l1.take k).foldl (joinIn l2) []) hy
   generalize hacc:(l2.take j).foldl (joinStep p.1 p.2) ((l1.take k).foldl (joinIn l2) [])=acc at ec2 hfold
   have hlen:acc.length≤2000000:=by
    have a1:=foldStep_len p.1 p.2 (l2.take j) ((l1.take k).foldl (joinIn l2) [])
    have a2:=joined_len (l1.take k) l2 []
    have a3:(l2.take j).length≤1000:=Nat.le_trans (List.length_take_le _ _) (ω62 hlt2 h2)
    have a4:(l1.take k).length≤1000:=Nat.le_trans (List.length_take_le _ _) (ω62 hlt h1)
    have a5:=Nat.mul_le_mul a4 h2
    rw[hacc] at a1
    simp only[List.length_nil] at a2
    exact ω63 a2 a3 a5 a1
   refine WpS.cons (WpS1.ite (WpT.and ?_))
   refine WpT.cmp (WpE.loc rfl (WpE.loc (show Lk (_::_::ρ') "middle" (.int p.2) from s4) (o_eqI ⟨_,rfl,?_⟩)))
   by_cases h:y.1=p.2
   · have:((y.1:Int) == (p.2:Int))=true:=by rw[h]; exact beq_self_eq_true _
     rw[this]
     refine ite_t rfl ?_
     refine WpT.and (WpT.cmp (WpE.tuple (WpEs.cons (WpE.loc (show Lk (_::_::ρ') "low" (.int p.1) from s3) (WpEs.cons (WpE.loc rfl (WpEs.nil ⟨by simp,?_⟩)))))))
     refine WpE.loc (show Lk (_::_::ρ') "pairs" (.ref c) from s1) ?_
     refine o_notinL (d:=mvPair (p.1,y.2)) ec2 (oks_pairsM _) rfl (by simp[mvPair,MV.deep,MV.deeps]) fun t ht=>⟨t,rfl,?_⟩
     rw[mem_pairsM] at ht
     cases t with
     | true=>
      refine ite_t rfl ?_
      refine WpT.and_nil ?_
      refine ite_t rfl ?_
      refine WpS.cons (WpS1.expr (WpE.methB _ (WpE.loc (show Lk (_::_::ρ') "pairs" (.ref c) from s1) ⟨gets_list ec2 PySem.F.slot_list_append PySem.F.type_list_append,?_⟩)))
      refine WpEs.cons (WpE.tuple (WpEs.cons (WpE.loc (show Lk (_::_::ρ') "low" (.int p.1) from s3) (WpEs.cons (WpE.loc rfl (WpEs.nil ⟨by simp,WpEs.nil ?_⟩))))))
      refine o_append ec2 (by rw[pairsM_length]; exact ω64 hlen) ⟨rfl,WpS.nil (WpS.nil ⟨ω55 hlt2,s1,s2,s3,s4,?_,lc2.trans (LeB.upd _ _ _)⟩)⟩
      rw[upd_same,hfold]
      have hn:=ht.mp rfl
      have:joinStep p.1 p.2 acc y=acc++[(p.1,y.2)]:=by unfold joinStep; rw[if_pos ⟨h,hn⟩]
      rw[this,← pairsM_snoc]; rfl
     | false=>
      refine ite_f (by decide) ?_
      show(if false=true then _ else _)
      refine ite_f (by decide) ?_
      refine WpS.nil (WpS.nil ⟨ω55 hlt2,s1,s2,s3,s4,?_,lc2⟩)
      rw[hfold]
      have:joinStep p.1 p.2 acc y=acc:=by unfold joinStep; rw[if_neg (fun z=>by have:=ht.mpr z.2; cases this)]
      rw[this]; exact ec2
   · have:((y.1:Int) == (p.2:Int))=false:=by
      rw[beq_eq_false_iff_ne]; exact fun z=>h (Int.ofNat.inj z)
     rw[this]
     refine ite_f (by decide) ?_
     show(if false=true then _ else _)
     refine ite_f (by decide) ?_
     refine WpS.nil (WpS.nil ⟨ω55 hlt2,s1,s2,s3,s4,?_,lc2⟩)
     rw[hfold]
     have:joinStep p.1 p.2 acc y=acc:=by unfold joinStep; rw[if_neg (fun z=>h z.1)]
     rw[this]; exact ec2
end
theorem mem_joinStep {lo m:Nat}{acc:List Pair}{q p:Pair}:p∈joinStep lo m acc q↔p∈acc∨(q.1=m∧p=(lo,q.2)):=by
 unfold joinStep
 split
 · rename_i h
   rw[List.mem_append,List.mem_singleton]
   exact⟨fun z=>z.imp id fun e=>⟨h.1,e⟩,fun z=>z.imp id fun e=>e.2⟩
 · rename_i h
   constructor
   · exact .inl
   · rintro(z | ⟨e,rfl⟩)
     · exact z
     · exact Classical.byContradiction fun k=>h ⟨e,k⟩
theorem mem_joinFold {lo m:Nat}{p:Pair}:∀(l2 acc:List Pair),p∈l2.foldl (joinStep lo m) acc↔p∈acc∨(p.1=lo∧(m,p.2)∈l2):=by
 intro l2
 induction l2 with
 | nil=>intro acc; simp
 | cons q l2 ih=>
  intro acc
  rw[List.foldl_cons,ih,mem_joinStep,List.mem_cons]
  constructor
  · rintro((h | ⟨h1,rfl⟩) | ⟨h1,h2⟩)
    · exact .inl h
    · exact .inr ⟨rfl,.inl (by rw[← h1])⟩
    · exact .inr ⟨h1,.inr h2⟩
  · rintro(h | ⟨h1,h2 | h2⟩)
    · exact .inl (.inl h)
    · exact .inl (.inr ⟨by rw[← h2],by rw[← h1,← h2]⟩)
    · exact .inr ⟨h1,h2⟩
theorem mem_joined' {p:Pair}{l2:List Pair}:∀(l1 acc:List Pair),p∈l1.foldl (joinIn l2) acc↔p∈acc∨∃ m,(p.1,m)∈l1∧(m,p.2)∈l2:=by
 intro l1
 induction l1 with
 | nil=>intro acc; simp
 | cons q l1 ih=>
  intro acc
  rw[List.foldl_cons,ih]
  unfold joinIn
  rw[mem_joinFold]
  constructor
  · rintro((h | ⟨h1,h2⟩) | ⟨m,h1,h2⟩)
    · exact .inl h
    · exact .inr ⟨q.2,by rw[h1]; exact List.mem_cons_self,h2⟩
    · exact .inr ⟨m,List.mem_cons_of_mem _ h1,h2⟩
  · rintro(h | ⟨m,h1,h2⟩)
    · exact .inl (.inl h)
    · rcases List.mem_cons.mp h1 with e | h1
      · subst e; exact .inl (.inr ⟨rfl,h2⟩)
      · exact .inr ⟨m,h1,h2⟩
theorem mem_joined {p:Pair}{l1 l2:List Pair}:p∈joined l1 l2↔∃ m,(p.1,m)∈l1∧(m,p.2)∈l2:=by
 unfold joined; rw[mem_joined']; simp
theorem nodup_snoc {α:Type}{l:List α}{a:α} (h:l.Nodup) (n:a∉l):(l++[a]).Nodup:=
 List.nodup_append.mpr ⟨h,by simp,fun x hx y hy=>by rw[List.mem_singleton] at hy; rintro rfl; exact n (hy▸hx)⟩
theorem nodup_joinStep {lo m:Nat}{acc:List Pair}{q:Pair} (h:acc.Nodup):(joinStep lo m acc q).Nodup:=by
 unfold joinStep
 split
 · rename_i z; exact nodup_snoc h z.2
 · exact h
theorem nodup_joinFold {lo m:Nat}:∀(l2 acc:List Pair),acc.Nodup→(l2.foldl (joinStep lo m) acc).Nodup:=by
 intro l2
 induction l2 with
 | nil=>intro acc h; exact h
 | cons q l2 ih=>intro acc h; exact ih _ (nodup_joinStep h)
theorem nodup_joined {l2:List Pair}:∀(l1 acc:List Pair),acc.Nodup→(l1.foldl (joinIn l2) acc).Nodup:=by
 intro l1
 induction l1 with
 | nil=>intro acc h; exact h
 | cons q l1 ih=>intro acc h; exact ih _ (nodup_joinFold _ _ h)
noncomputable def Small (m:Nat) (l:List Pair):Prop:=∀ p∈l,p.1≤m∧p.2≤m
theorem length_le_of_nodup {α:Type} [DecidableEq α]:∀{l m:List α},l.Nodup→(∀ x∈l,x∈m)→l.length≤m.length
 | [],m,_,_=>Nat.zero_le _
 | a::l,m,h,s=>by
  have ha:=s a List.mem_cons_self
  have h':=List.nodup_cons.mp h
  have:=length_le_of_nodup (l:=l) (m:=m.erase a) h'.2 fun x hx=>by
   have hne:x≠a:=fun z=>h'.1 (z▸hx)
   exact(List.mem_erase_of_ne hne).mpr (s x (List.mem_cons_of_mem _ hx))
  rw[List.length_erase_of_mem ha] at this
  exact Nat.succ_le_of_lt (Nat.lt_of_le_of_lt this (Nat.sub_lt (List.length_pos_of_mem ha) Nat.one_pos))
noncomputable def allPairs (m:Nat):List Pair:=(List.range (m+1)).flatMap fun i=>(List.range (m+1)).map fun j=>(i,j)
theorem small_len {m:Nat}{l:List Pair} (h:l.Nodup) (s:Small m l):l.length≤(m+1)*(m+1):=by
 have:=length_le_of_nodup (m:=allPairs m) h fun p hp=>by
  unfold allPairs
  rw[List.mem_flatMap]
  exact⟨p.1,List.mem_range.mpr (by have:=(s p hp).1; exact ω66 this),List.mem_map.mpr ⟨p.2,List.mem_range.mpr (by have:=(s p hp).2; exact ω66 this),rfl⟩⟩
 refine Nat.le_trans this (Nat.le_of_eq ?_)
 unfold allPairs
 rw[List.length_flatMap]
 simp[List.map_const']
noncomputable def diag (size:Nat):List Pair:=(List.range (size+1)).map fun p=>(p,p)
noncomputable def frontAt (sp:Str→List Pair) (size:Nat) (r:List Str):Nat→List Pair
 | 0=>diag size
 | j+1=>joined (frontAt sp size r j) (sp (r.getD j ""))
theorem mem_diag {size:Nat}{p:Pair}:p∈diag size↔p.1=p.2∧p.1≤size:=by
 unfold diag
 rw[List.mem_map]
 constructor
 · rintro⟨k,hk,rfl⟩; exact⟨rfl,by have:=List.mem_range.mp hk; exact ω67 this⟩
 · rintro⟨h1,h2⟩; exact⟨p.1,List.mem_range.mpr (ω66 h2),Prod.ext rfl h1⟩
theorem nodup_map_inj {α β:Type}{f:α→β} (hf:∀ a b,f a=f b→a=b):∀{l:List α},l.Nodup→(l.map f).Nodup
 | [],_=>List.nodup_nil
 | a::l,h=>by
  have h':=List.nodup_cons.mp h
  rw[List.map_cons]
  refine List.nodup_cons.mpr ⟨fun z=>?_,nodup_map_inj hf h'.2⟩
  refine ex1_2 (List.mem_map.mp z) fun b hb e=>?_
  exact h'.1 (hf _ _ e▸hb)
theorem diag_nodup (size:Nat):(diag size).Nodup:=nodup_map_inj (fun a b e=>(Prod.mk.inj e).1) List.nodup_range
theorem frontAt_ok {sp:Str→List Pair}{size:Nat}{r:List Str} (hs:∀ x,Small size (sp x)):∀ j,(frontAt sp size r j).Nodup∧Small size (frontAt sp size r j)
 | 0=>⟨diag_nodup size,fun p hp=>by have:=mem_diag.mp hp; exact ω68 this⟩
 | j+1=>by
  refine and2 (frontAt_ok (sp:=sp) (size:=size) (r:=r) hs j) fun _ h2=>?_
  refine⟨nodup_joined _ _ List.nodup_nil,fun p hp=>?_⟩
  refine ex1_2 (mem_joined.mp hp) fun m h3 h4=>?_
  exact⟨(h2 _ h3).1,(hs _ _ h4).2⟩
theorem frontAt_len {sp:Str→List Pair}{size:Nat}{r:List Str} (hs:∀ x,Small size (sp x)) (h3:size≤3) (j:Nat):(frontAt sp size r j).length≤16:=by
 have:=small_len (frontAt_ok hs j).1 (frontAt_ok (r:=r) hs j).2
 have h4:(size+1)*(size+1)≤4*4:=Nat.mul_le_mul (ω69 h3) (ω69 h3)
 exact ω70 h4 this
theorem small_1000 {l:List Pair}{size:Nat} (h:l.Nodup) (s:Small size l) (h3:size≤3):l.length≤1000:=by
 have:=small_len h s
 have h4:(size+1)*(size+1)≤4*4:=Nat.mul_le_mul (ω69 h3) (ω69 h3)
 exact ω71 h4 this
noncomputable def ListsAt (μ:Mem) (c:Addr) (m:Nat) (f:Nat→List Pair):Prop:=∃ bs:List Addr,μ c=some (.list (bs.map .ref))∧bs.length=m∧∀ j b,bs[j]?=some b→μ b=some (.list (pairsM (f j)))
theorem ListsAt.le {μ μ':Mem}{c:Addr}{m:Nat}{f:Nat→List Pair} (x:ListsAt μ c m f) (l:Le μ μ'):ListsAt μ' c m f:=by
 refine ex1_3 (x) fun bs h1 h2 h3=>?_
 exact⟨bs,l _ _ h1,h2,fun j b e=>l _ _ (h3 j b e)⟩
noncomputable def NewListsAt (μ μ':Mem) (c:Addr) (m:Nat) (f:Nat→List Pair):Prop:=∃ bs:List Addr,μ' c=some (.list (bs.map .ref))∧bs.length=m∧∀ j b,bs[j]?=some b→μ' b=some (.list (pairsM (f j)))∧μ b=none
theorem NewListsAt.lists {μ μ':Mem}{c:Addr}{m:Nat}{f:Nat→List Pair} (x:NewListsAt μ μ' c m f):ListsAt μ' c m f:=by
 refine ex1_3 (x) fun bs h1 h2 h3=>?_
 exact⟨bs,h1,h2,fun j b e=>(h3 j b e).1⟩
noncomputable def SpansAt (μ:Mem) (a:Addr) (es:List (Str×MV)) (xs:List Str) (sp:Str→List Pair):Prop:=μ a=some (.sdict es)∧∀ x∈xs,∃ b,atM es x=some (.ref b)∧μ b=some (.list (pairsM (sp x)))
section
variable {G:Gd}{n:Nat}{cx:Cx}{μ:Mem}{Φ:MV→Mem→Prop}
theorem closure_nil {scope sc:Scope}{cl0:List (Str×Addr)} (h:scope.names.all (fun y=>y.2 != .free)=true):∀ env:Env,env.scope=sc→env.cells=cl0→closureFor scope env=pure []:=fun env _ _=>
 closureFor_none fun x hx=>by have:=List.all_eq_true.mp h x hx; simpa using this
theorem c_fronts (g:Law G) {a:Addr}{es:List (Str×MV)}{r:List Str}{size:Nat}{sp:Str→List Pair} (hsp:SpansAt μ a es r sp) (hs:∀ x,Small size (sp x)) (hn:∀ x,(sp x).Nodup) (h3:size≤3) (hr:r.length≤10)
 (q:∀ c μ',μ c=none→NewListsAt μ μ' c (r.length+1) (frontAt sp size r)→Le μ μ'→Φ (.ref c) μ'):WpC G (n+4) μ 336 [.tup (strsM r),.ref a,.int size] Φ:=by
 refine call_plain' g [("row",.tup (strsM r)),("spans",.ref a),("size",.int size)] (fun _=>by rfl) (fun _=>by kernel_rfl) (bind3 (fun _ _ _=>rfl)) ?_
 refine WpS.cons (WpS1.assign (WpE.list (WpEs.cons ?_)))
 refine WpE.comp [] (WpIt.range (bn_range g) (WpE.bin (WpE.loc rfl (WpE.int (o_add ?_))))) (closure_nil (by rfl))
 refine⟨((size+1:Nat):Int),by simp,ω73,ω74 h3,.inr ⟨rfl,fun _ _=>rfl⟩,size+1,(fun k ds μ'=>k≤size+1∧ds=pairsM ((List.range k).map fun p=>(p,p))∧μ'=μ),ω75 h3,⟨ω76,rfl,rfl⟩,?_⟩
 intro k ds μ' hh_
 refine and3 hh_ fun hk zr1 zr2=>?_
 obtain rfl:=zr1
 obtain rfl:=zr2
 clear hh_
 refine⟨hk,_,rfl,?_⟩
 by_cases hlt:k<size+1
 · rw[if_pos (by exact ω77 hlt)]
   refine⟨hlt,fun ρ=>WpA.name (WpIfs.nil ?_)⟩
   refine ite_t rfl ?_
   refine WpE.tuple (WpEs.cons (WpE.loc rfl (WpEs.cons (WpE.loc rfl (WpEs.nil ⟨by simp,ω78 hlt,?_,rfl⟩)))))
   simp[pairsM,List.range_succ,mvPair]
 · rw[if_neg (by exact ω79 hlt)]
   have:k=size+1:=ω80 hk hlt
   subst this
   intro b hb
   refine WpEs.nil ⟨by simp,fun c hc=>?_⟩
   have hcm:μ' c=none:=by
    by_cases z:c=b
    · subst z; rw[upd_same] at hc; cases hc
    · rwa [upd_ne _ _ z] at hc
   have ncb:b≠c:=fun z=>by rw[← z,upd_same] at hc; cases hc
   have eb:upd (upd μ' b (.list (pairsM (diag size)))) c (.list [.ref b]) b=some (.list (pairsM (diag size))):=by rw[upd_ne _ _ ncb,upd_same]
   have le1:Le μ' (upd μ' b (.list (pairsM (diag size)))):=Le.upd hb
   have hle:∀{μ₂:Mem},LeB c (upd (upd μ' b (.list (pairsM (diag size)))) c (.list [.ref b])) μ₂→Le μ' μ₂:=fun {μ₂} x b' mo e=>by
    have nb':b'≠c:=fun z=>by rw[z,hcm] at e; cases e
    exact x b' mo nb' (by rw[upd_ne _ _ nb']; exact le1 _ _ e)
   refine WpS.cons (WpS1.for_ (WpIt.tup (WpE.loc rfl ⟨strsM r,rfl,.inr ⟨rfl,fun _ _=>rfl⟩,r.length,
    (fun k ρ μ₂=>k≤r.length∧Lk ρ "fronts" (.ref c)∧Lk ρ "spans" (.ref a)∧(∃ bs:List Addr,μ₂ c=some (.list (bs.map .ref))∧bs.length=k+1∧∀ j b,bs[j]?=some b→μ₂ b=some (.list (pairsM (frontAt sp size r j)))∧b≠c∧μ' b=none)∧LeB c (upd (upd μ' b (.list (pairsM (diag size)))) c (.list [.ref b])) μ₂),
    ⟨ω50,rfl,rfl,⟨[b],upd_same _ _ _,rfl,fun j b' e=>?_⟩,Le.refl _ |>.b c⟩,?_⟩)))
   · match j,e with
     | 0,e=>cases e; exact⟨eb,ncb,hb⟩
     | j+1,e=>simp at e
   intro k ρ μ₂ hh_
   refine and5 hh_ fun hk r1 r2 zq3 lc=>?_
   obtain⟨bs,ec,hl,hbs⟩:=zq3
   clear hh_
   refine⟨hk,_,rfl,?_⟩
   unfold strsM
   rw[List.getElem?_map]
   cases hx:r[k]? with
   | none=>
    have:r.length≤k:=List.getElem?_eq_none_iff.mp hx
    have:k=r.length:=ω61 hk this
    subst this
    exact WpS.cons (WpS1.ret (WpE.loc r1 (q c μ₂ hcm ⟨bs,ec,hl,fun j b e=>⟨(hbs j b e).1,(hbs j b e).2.2⟩⟩ (hle lc))))
   | some x=>
    have hlt:=(List.getElem?_eq_some_iff.mp hx).1
    refine⟨hlt,WpA.name ?_⟩
    refine ex1_2 (hsp.2 x (List.mem_of_getElem? hx)) fun bx h1 h2=>?_
    obtain⟨bk,hbk⟩:∃ bk,bs[k]?=some bk:=⟨_,List.getElem?_eq_getElem (ω81 hl)⟩
    refine and3 (hbs k bk hbk) fun ek nk _=>?_
    refine WpS.cons (WpS1.expr (WpE.methB _ (WpE.loc (show Lk (_::ρ) "fronts" (.ref c) from r1) ⟨gets_list ec PySem.F.slot_list_append PySem.F.type_list_append,?_⟩)))
    refine WpEs.cons (WpE.callG (gn__law_joined g) (gk__law_joined g) ?_)
    refine WpEs.cons (WpE.sub (WpE.loc (show Lk (_::ρ) "fronts" (.ref c) from r1) (WpE.neg (k:=1) (WpE.int ⟨1,rfl,?_⟩))))
    refine o_item_listN (d:=.ref bk) ec (by decide) (by simp; exact ω82 hl) (by decide) ?_ ?_
    · rw[List.length_map,hl,List.getElem?_map]
      have:(-1+((k+1:Nat):Int)).toNat=k:=ωn k
      rw[this,hbk]; rfl
    refine WpEs.cons (WpE.sub (WpE.loc (show Lk (_::ρ) "spans" (.ref a) from r2) (WpE.loc rfl ?_)))
    refine o_item_sdict (hle lc _ _ hsp.1) h1 (WpEs.nil ?_)
    refine c_joined g ek (hle lc _ _ h2) (Nat.le_trans (frontAt_len hs h3 k) (by decide)) (small_1000 (hn x) (hs x) h3) fun d μ₃ hd ed l₃=>?_
    refine WpEs.nil ?_
    have ncd:d≠c:=fun z=>by rw[z,ec] at hd; cases hd
    refine o_append (l₃ _ _ ec) (by simp; exact ω84 hlt hl hr) ⟨rfl,WpS.nil ⟨ω55 hlt,r1,r2,⟨bs++[d],?_,by simp[hl],fun j b' e=>?_⟩,lc.trans ((l₃.b c).trans (LeB.upd _ _ _))⟩⟩
    · rw[upd_same]; simp
    · by_cases hj:j<bs.length
      · rw[List.getElem?_append_left hj] at e
        refine and3 (hbs j b' e) fun e1 e2 e3=>?_
        exact⟨by rw[upd_ne _ _ e2]; exact l₃ _ _ e1,e2,e3⟩
      · rw[List.getElem?_append_right (ω85 hj)] at e
        have:j=k+1:=by
         have:=(List.getElem?_eq_some_iff.mp e).1
         simp at this; exact ω86 this hl hj
        subst this
        have hz:k+1-bs.length=0:=ω87 hl
        rw[hz] at e
        cases e
        refine⟨?_,ncd,?_⟩
        rotate_left
        · cases z:μ' d with
          | none=>rfl
          | some mo=>rw[hle lc _ _ z] at hd; cases hd
        rw[upd_ne _ _ ncd,ed]
        have:r.getD k "" = x:=by simp[List.getD,hx]
        show _=some (MO.list (pairsM (joined (frontAt sp size r k) (sp (r.getD k "")))))
        rw[this]
end
section
variable {G:Gd}{n:Nat}{cx:Cx}{μ μ₁ μ':Mem}{A:Around}{fenv env:Env}{h₀:List Addr}{h h₁ h':Heap}{L:Addr}{s:Shared}
noncomputable def DCompSpec (G:Gd) (n:Nat) (scope:Scope) (cl:List (Str×Addr)) (outer:Scope) (x:Str) (px:Pos) (kx vx:Expr) (item:Nat→Mem→Option MV→Prop) (N:Nat) (D:Addr) (I:Nat→List (Str×MV)→Mem→Prop) (Fin:List (Str×MV)→Mem→Prop):Prop:=
 ∀ k es μ,μ D=some (.sdict es)→I k es μ→k≤N∧∃ r,item k μ r∧match r with
  | none=>Fin es μ
  | some d=>k<N∧∀ ρ,WpA G n ⟨relabelS scope outer,cl,ρ⟩ μ (.Name x px) d fun ρ' μ'=>WpE G n ⟨relabelS scope outer,cl,ρ'⟩ μ' kx fun e μ2=>WpE G n ⟨relabelS scope outer,cl,ρ'⟩ μ2 vx fun v μ3=>∃ y,e=.str y∧μ3 D=some (.sdict es)∧I (k+1) (putM es y v) (upd μ3 D (.sdict (putM es y v)))
noncomputable def dK3 (prog:Program) (w:World) (A:Around) (D:Addr) (I:Nat→Shared→Prop) (n:Nat) (kv vv:Value) (s:Shared):Prop:=wpAny (model prog w) A (dictSet D kv vv) (fun _=>Lt I n) NoE s
noncomputable def dK2 (prog:Program) (w:World) (A:Around) (vx:Expr) (D:Addr) (env:Env) (I:Nat→Shared→Prop) (n:Nat) (kv:Value) (s:Shared):Prop:=wpAny (model prog w) A (eval vx env) (dK3 prog w A D I n kv) NoE s
noncomputable def dK1 (prog:Program) (w:World) (A:Around) (kx vx:Expr) (D:Addr) (env:Env) (I:Nat→Shared→Prop) (n:Nat) (_:Unit) (s:Shared):Prop:=wpAny (model prog w) A (eval kx env) (dK2 prog w A vx D env I n) NoE s
theorem codeAny_compLoop_myD {prog:Program}{w:World}{R:Result→Shared→Prop}{kx vx target iter:Expr}{scope:Scope}{pos:Pos}{it:Value}{D:Addr}{env:Env} (I:Nat→Shared→Prop)
 (turn:∀ n s,I n s→wpAny (model prog w) A (pyNext it) (nK prog w A target it env R (dK1 prog w A kx vx D env I n)) NoE s)
 (n:Nat) (h:I n s) :
 codeAny (model prog w) A (.compLoop (.DictComp kx vx [⟨target,iter,[],0⟩] scope pos) 0 it (.ref D) env) R s:=by
 refine codeAny_loop rfl I (fun n s hI=>?_) n h
 show wpAny _ _ ((compTurn (.DictComp kx vx [⟨target,iter,[],0⟩] scope pos) 0 it (.ref D) env).onRaise (fun x=>do noteFrame x env; theTreesLotGoes x)) _ _ s
 refine wpAny_noted ?_
 rw[compTurn_dict]
 refine wpAny_bind (wpAny_standAt (wpAny_bind (wpAny_mono (turn n s hI) (fun r s₁ h₁=>?_) fun _ _ f=>f.elim)))
 cases r with
 | none=>exact wpAny_pure h₁
 | some v=>
  refine wpAny_bind (wpAny_mono h₁ (fun _ s₁' h₁=>?_) fun _ _ f=>f.elim)
  refine wpAny_bind (wpAny_mono h₁ (fun _ s₂ h₂=>wpAny_bind (wpAny_tests_nil ?_)) fun _ _ f=>f.elim)
  exact wpAny_bind (wpAny_bind (wpAny_mono h₂ (fun kv s₄ h₄=>wpAny_bind (wpAny_holding (wpAny_mono h₄ (fun vv s₅ h₅=>wpAny_bind (wpAny_standAt (wpAny_holding (wpAny_mono h₅ (fun _ s₆ h₆=>wpAny_pure ⟨rfl,h₆⟩) fun _ _ f=>f.elim)))) fun _ _ f=>f.elim))) fun _ _ f=>f.elim))
noncomputable def DCompI (G:Gd) (env:Env) (own:List Addr) (St:Nat→Mem→Heap→Prop) (μ:Mem) (s:Shared) (N:Nat) (D:Addr) (J:Nat→List (Str×MV)→Mem→Prop) (m:Nat) (s':Shared):Prop:=
 ∃ k ρ μ' h' tk es,m=N+1-k∧s'={ s with heap:=h',toks:=tk }∧Lp G env own St μ s.heap k ρ μ' h'∧μ' D=some (.sdict es)∧es.length≤k∧J k es μ'
@[elab_as_elim] theorem DCompI.elim {own:List Addr}{St:Nat→Mem→Heap→Prop}{N D m:Nat}{J:Nat→List (Str×MV)→Mem→Prop}{s':Shared}{P:Nat→Shared→Prop} (i:DCompI G env own St μ s N D J m s') (f:∀ k ρ μ' h' tk es,Lp G env own St μ s.heap k ρ μ' h'→μ' D=some (.sdict es)→es.length≤k→J k es μ'→P (N+1-k) { s with heap:=h',toks:=tk }):P m s':=by
 obtain⟨k,ρ,μ',h',tk,es,rfl,rfl,p,d,l,q⟩:=i
 exact f k ρ μ' h' tk es p d l q
theorem dcomp_loop {kx vx iter:Expr}{x:Str}{px:Pos}{scope:Scope}{pos:Pos}{cl:List (Str×Addr)}{I C D:Addr}{own:List Addr}{St:Nat→Mem→Heap→Prop}{item:Nat→Mem→Option MV→Prop}{tk:Nat}{N:Nat}{J:Nat→List (Str×MV)→Mem→Prop}{Fin:List (Str×MV)→Mem→Prop}{R:Result→Shared→Prop}{m₀:Str→Option Value}
 (H:Here G n cx μ A fenv h₀ L env s.heap) (x₁:Ext G μ s.heap μ₁ h₁) (S₁:Sim G μ₁ h₁) (W:Itr G A I own St item false) (st₁:St 0 μ₁ h₁) (ho:∀ b∈own,(∀ o,s.heap.get? b=some o→μ b≠none)∧μ₁ b=none)
 (hN:N≤16777216) (j0:J 0 [] μ₁) (spec:DCompSpec G n scope cl cx.scope x px kx vx item N D J Fin) (hkind:scope.kind=.function) (hC:G.base.get? C=none∧L≠C∧C∉h₀) (fC:∀ o,s.heap.get? C=some o→μ C≠none)
 (nC:C∉own) (mC:μ₁ C=none) (mD:μ₁ D=some (.sdict [])) (hn:h₁.Ns C m₀)
 (hR:∀ h' tk μ' es m,Ext G μ s.heap μ' h'→Sim G μ' h'→μ' D=some (.sdict es)→μ' C=none→h'.Ns C m→Fin es μ'→R (.ok .next) { s with heap:=h',toks:=tk }) :
 codeAny (model G.prog G.w) A (.compLoop (.DictComp kx vx [⟨.Name x px,iter,[],0⟩] scope pos) 0 (.ref I) (.ref D) (compEnvC scope cl C env)) R { s with heap:=h₁,toks:=tk }:=by
 have B:LpB (compEnvC scope cl C env) own μ s.heap:=⟨nC,fun b hb=>(ho b hb).1⟩
 refine codeAny_compLoop_myD (DCompI G (compEnvC scope cl C env) own St μ s N D J) (fun m s' i=>?_) (N+1) ⟨0,[],μ₁,h₁,tk,[],rfl,rfl,⟨x₁.b _,mC,S₁,⟨_,hn,fun _ _ e=>nomatch e⟩,st₁,fun b hb=>(ho b hb).2⟩,mD,Nat.le_refl _,j0⟩
 refine i.elim fun k ρ μ' h' tk es p d hl jk=>?_
 refine and2 (spec k es μ' d jk) fun hk q=>ex1_2 q fun r hi hr=>?_
 refine wpAny_mono (W.step' (target:=.Name x px) (s:={ s with heap:=h',toks:=tk }) (.inr ⟨rfl,fun _ _=>rfl⟩) p.S p.hu p.st hi) (fun r' s₁ q=>?_) fun _ _ f=>f
 cases r' with
 | none=>
  refine p.stop W B q fun e h₂ tk₂ hk t x₂ S₂ l₂=>?_
  cases e
  exact l₂.elim fun m hm=>hR h₂ tk₂ μ' es m (x₂.full fC) S₂ d p.c hm.1 hr
 | some v=>
  refine wpAny_mono q (fun _ s₁ q=>?_) fun _ _ f=>f
  refine p.go W B q fun d' e h₂ tk₂ hk t rv₂ p₂=>?_
  cases e
  have H₂:=comp_here H hkind hC (p₂.x.full fC) p₂.S p₂.c p₂.l
  refine wpAny_mono (hr.2 ρ A fenv h₀ L (compEnvC scope cl C env) { s with heap:=h₂,toks:=tk₂ } H₂ v rv₂) (fun _ s₃ q₃=>?_) fun _ _ f=>f
  refine q₃.elim fun mf ρ₃ μ₃ h₃ tk₃ x₃ c₃ S₃ l₃ r₃ qq=>?_
  cases qq.1
  have H₃:=(H₂.extB x₃ c₃ S₃ l₃).toHere
  refine wpAny_mono (qq.2 A fenv h₀ L (compEnvC scope cl C env) { s with heap:=h₃,toks:=tk₃ } H₃) (fun kv s₄ q₄=>?_) fun _ _ f=>f
  refine q₄.elim fun kd μ₄ h₄ tk₄ x₄ S₄ r₄ q₄=>?_
  have H₄:=H₃.ext x₄ S₄
  refine wpAny_mono (q₄ A fenv h₀ L (compEnvC scope cl C env) { s with heap:=h₄,toks:=tk₄ } H₄) (fun vv s₅ q₅=>?_) fun _ _ f=>f
  refine q₅.elim fun vd μ₅ h₅ tk₅ x₅ S₅ r₅ qq=>?_
  refine ex1_3 qq fun y ey d₅ jq=>?_
  cases ey
  refine ex1_1 (r₄.ext x₅.t).isStr fun u eu=>?_
  cases eu
  refine ex1_3 (S₅ _ _ d₅) fun kvs hd pr hsm=>?_
  refine wpAny_dictSet_pairs (hsz:=by rw[pr.length]; exact Nat.le_trans (Nat.le_trans hl (Nat.le_of_lt hr.1)) hN) (strKind_is G.prog G.w y u) hd fun h₆ hd₆ hs₆=>?_
  have hs₆:Heap.SameBut D h₅ h₆:=hs₆
  have x₆:=ext_upd (G:=G) d₅ hs₆ (.sdict (putM es y vd))
  have H₆:=(H₄.ext x₅ S₅).ext x₆ (S₅.upd d₅ hs₆ ⟨_,hd₆,(pr.ext x₆.t).stored y (r₅.ext x₆.t),hsm⟩)
  exact⟨N+1-(k+1),ω8 hr.1,k+1,ρ₃,_,h₆,tk₅+1,putM es y vd,rfl,rfl,p₂.then W B (x₃.trans ((x₄.trans (x₅.trans x₆)).b _)) H₆.cur H₆.inv.sim H₆.loc,upd_same _ _ _,Nat.le_trans (putM_length es y vd) (Nat.succ_le_succ hl),jq⟩
theorem dcomp_core {kx vx iter:Expr}{x:Str}{px:Pos}{scope:Scope}{pos:Pos}{cl:List (Str×Addr)}{I:Addr}{own:List Addr}{St:Nat→Mem→Heap→Prop}{item:Nat→Mem→Option MV→Prop}{nt:Bool}{tk₁:Nat}{N:Nat}{J:Addr→Nat→List (Str×MV)→Mem→Prop}{Fin:Addr→List (Str×MV)→Mem→Prop}{RR:Value→Addr→Result→Shared→Prop}{E:Value→Shared→Prop}
 (H:Here G n cx μ A fenv h₀ L env s.heap) (x₁:Ext G μ s.heap μ₁ h₁) (S₁:Sim G μ₁ h₁) (W:Itr G A I own St item nt) (st₁:St 0 μ₁ h₁) (ho:∀ b∈own,(∀ o,s.heap.get? b=some o→μ b≠none)∧μ₁ b=none) (ok:nt=false)
 (hN:N≤16777216) (j0:∀ D,μ₁ D=none→J D 0 [] (upd μ₁ D (.sdict []))) (spec:∀ D,μ₁ D=none→DCompSpec G n scope cl cx.scope x px kx vx item N D (J D) (Fin D)) (hcell:∀ y∈scope.names,y.2≠.cell) (hkind:scope.kind=.function)
 (hRR:∀ D C h' tk μ' es m,Ext G μ s.heap μ' h'→Sim G μ' h'→μ₁ D=none→μ' D=some (.sdict es)→μ' C=none→D≠C→(∀ o,s.heap.get? C=some o→μ C≠none)→h'.Ns C m→Fin D es μ'→RR (.ref D) C (.ok .next) { s with heap:=h',toks:=tk }) :
 wpAny (model G.prog G.w) A newDict (fun acc s₃=>wpAny (model G.prog G.w) A (newFunctionEnv scope env.globals cl [] env.qual none .none (some env)) (fun cenv s₄=>
  codeAny (model G.prog G.w) A (.compStart (.DictComp kx vx [⟨.Name x px,iter,[],0⟩] scope pos) 0 (.ref I) acc { cenv with scope:=relabel scope env }) (RR acc cenv.locals) s₄) E s₃) E { s with heap:=h₁,toks:=tk₁ }:=by
 cases ok
 refine wpAny_newObj_type (wpAny_newFunctionEnv hcell (fun y hy=>nomatch hy) (fun h₂ hns₂ hsb₂=>?_) hkind)
 have hsz:(h₁.push ({ cls:=.type "dict",dict:=none,data:=.dict #[] }:Obj)).objs.size=h₁.objs.size+1:=Heap.size_push ..
 have low:=main_low H.amb (H.inv.ext x₁ S₁)
 have SD:Sim G (upd μ₁ h₁.objs.size (.sdict [])) (h₁.push ({ cls:=.type "dict",dict:=none,data:=.dict #[] }:Obj)):=S₁.alloc ⟨[],Heap.DictOf.new _,.nil,beq_eq_false_iff_ne.mpr (Nat.ne_of_gt (Nat.lt_trans (by decide) low))⟩
 have xD:Ext G μ₁ h₁ (upd μ₁ h₁.objs.size (.sdict [])) (h₁.push ({ cls:=.type "dict",dict:=none,data:=.dict #[] }:Obj)):=ext_alloc S₁ _ _
 have keep₂:∀ b o,(h₁.push ({ cls:=.type "dict",dict:=none,data:=.dict #[] }:Obj)).get? b=some o→h₂.get? b=some o:=fun b o e=>hsb₂.extBut b o (Nat.ne_of_lt (Heap.lt_size e)) (Heap.get?_push_of_some _ e)
 have old:∀ b o,h₁.get? b=some o→h₂.get? b=some o:=fun b o e=>keep₂ b o (Heap.get?_push_of_some _ e)
 have x₂:Ext G (upd μ₁ h₁.objs.size (.sdict [])) (h₁.push ({ cls:=.type "dict",dict:=none,data:=.dict #[] }:Obj)) (upd μ₁ h₁.objs.size (.sdict [])) h₂:=fun b o hb e=>⟨.inl (keep₂ b o e),hb⟩
 have S₂:Sim G (upd μ₁ h₁.objs.size (.sdict [])) h₂:=SD.keep (fun b o _ e=>keep₂ b o e) x₂.t
 replace x₂:=xD.trans x₂
 clear hsb₂ keep₂ SD xD
 dsimp only at hns₂ ⊢
 have hDC:h₁.objs.size<(h₁.push ({ cls:=.type "dict",dict:=none,data:=.dict #[] }:Obj)).objs.size:=hsz▸Nat.lt_succ_self _
 clear hsz
 generalize (h₁.push ({ cls:=.type "dict",dict:=none,data:=.dict #[] }:Obj)).objs.size=C at *
 have none₁:∀ b,h₁.objs.size≤b→μ₁ b=none:=fun b hb=>by
  cases q:μ₁ b with
  | none=>rfl
  | some mo=>exact absurd (S₁.lt q) (Nat.not_lt.mpr hb)
 have st₂:St 0 (upd μ₁ h₁.objs.size (.sdict [])) h₂:=W.frame 0 μ₁ h₁ _ h₂ st₁ (fun b _ o e=>old b o e) x₂.t
 have liveOwn:∀ b∈own,b<h₁.objs.size:=fun b hb=>let ⟨o,e,_⟩:=W.live 0 μ₁ h₁ st₁ b hb; Heap.lt_size e
 have mD:=none₁ _ (Nat.le_refl _)
 have fin:=dcomp_loop (iter:=iter) (pos:=pos) (tk:=tk₁) (R:=RR (.ref h₁.objs.size) C) H (x₁.trans x₂) S₂ W st₂ (fun b hb=>⟨(ho b hb).1,(upd_ne _ _ (Nat.ne_of_lt (liveOwn b hb))).trans (ho b hb).2⟩) hN (j0 _ mD) (spec _ mD) hkind ((H.inv.ext x₁ S₁).fresh (Nat.le_of_lt hDC)) (x₁.fresh (Nat.le_of_lt hDC))
  (fun z=>absurd (liveOwn _ z) (Nat.not_lt.mpr (Nat.le_of_lt hDC))) ((upd_ne _ _ (Nat.ne_of_gt hDC)).trans (none₁ _ (Nat.le_of_lt hDC))) (upd_same _ _ _) hns₂
  fun h' tk μ' es m x S d c hn f=>hRR _ _ h' tk μ' es m x S mD d c (Nat.ne_of_lt hDC) (x₁.fresh (Nat.le_of_lt hDC)) hn f
 exact codeAny_compStart_dict fin (W.self 0 _ _ _ _ st₂ fin)
noncomputable abbrev DFinK (ρ0:List (Str×MV)) (y:Str) (D:Addr) (Φ:MF→List (Str×MV)→Mem→Prop):List (Str×MV)→Mem→Prop:=fun es μ=>μ D=some (.sdict es)→Φ .next ((y,.ref D)::ρ0) μ
noncomputable abbrev DCompK (G:Gd) (n:Nat) (sc:Scope) (ρ0:List (Str×MV)) (y:Str) (scope:Scope) (cl:List (Str×Addr)) (x:Str) (px:Pos) (kx vx:Expr) (Φ:MF→List (Str×MV)→Mem→Prop):(Nat→Mem→Option MV→Prop)→Bool→Mem→Prop:=fun item nt μ₁=>nt=false∧∃(N:Nat) (J:Addr→Nat→List (Str×MV)→Mem→Prop),N≤16777216∧∀ D,μ₁ D=Option.none→J D 0 [] (Mine.upd μ₁ D (.sdict []))∧DCompSpec G n scope cl sc x px kx vx item N D (J D) (DFinK ρ0 y D Φ)
theorem WpS1.assignDComp {sc:Scope}{cl0:List (Str×Addr)}{ρ0:List (Str×MV)}{y:Str}{py spos:Pos}{kx vx iter:Expr}{x:Str}{px:Pos}{scope:Scope}{pos:Pos} (cl:List (Str×Addr)) {Φ:MF→List (Str×MV)→Mem→Prop}
 (p:WpIt G n ⟨sc,cl0,ρ0⟩ μ iter (DCompK G n sc ρ0 y scope cl x px kx vx Φ))
 (hclos:∀ env:Env,env.scope=sc→env.cells=cl0→closureFor scope env=pure cl)
 (hsw:∀ env:Env,env.scope=sc→swapsWith (.DictComp kx vx [⟨.Name x px,iter,[],0⟩] scope pos) (some (.Name y py)) spos.line env=pure true:=by(intro env h; obtain⟨sc,_,_,_,_,_,_,_,_⟩:=env; cases h; rfl))
 (hx:sc.names.lookup y=some .local:=by rfl)
 (hcell:∀ y∈scope.names,y.2≠.cell:=by decide) (hkind:scope.kind=.function:=by rfl) (hnames:∀ x∈scope.names,x.2=.local→scope.names.lookup x.1=some .local:=by decide)
 (hs:∀ env x,foldedSetIterable iter env x=pure x:=by intro _ _; rfl):WpS1 G n ⟨sc,cl0,ρ0⟩ μ (.Assign [.Name y py] (.DictComp kx vx [⟨.Name x px,iter,[],0⟩] scope pos) spos) Φ:=fun A h₀ env s H=>by
 rw[exec_Assign_Name_used _ _ _ _ (hsw env H.eok.scope)]
 refine wpAny_bind (wpAny_standAt (wpAny_bind ?_))
 show wpAny _ A (do let _ ← comprehension (.DictComp kx vx [⟨.Name x px,iter,[],0⟩] scope pos) scope env _ newDict false (eval iter env) (some (PySem.assign (.Name y py) env))) _ _ s
 refine wpAny_bind (wpAny_mono (wpAny_comprehension_free (use:=some (PySem.assign (.Name y py) env)) (Q:=fun _ s'=>PostS G env μ s Φ .next s') (g:=⟨.Name x px,iter,[],0⟩) rfl (hs env) (hclos env H.eok.scope H.eok.cells) hkind hnames (wpAny_mono (p A env h₀ _ env s H.here) (fun xv s₁ q=>wpAny_mono q (fun it s₂ q=>?_) fun _ _ f=>f) fun _ _ f=>f)) (fun _ s' hq=>wpAny_pure (wpAny_pure hq)) fun _ _ e=>e)
 refine q.elim fun I own St item nt μ₁ h₁ tk₁ x₁ S₁ W st₁ ho qq=>?_
 refine and2 qq fun ok qq=>ex2_2 qq fun N J hN spec=>?_
 refine dcomp_core (RR:=fun acc C=>compPost (model G.prog G.w) A NoE (some (PySem.assign (.Name y py) env)) (fun _ s'=>PostS G env μ s Φ .next s') acc C) H.here x₁ S₁ W st₁ ho ok hN (fun D hD=>(spec D hD).1) (fun D hD=>(spec D hD).2) hcell hkind ?_
 intro D C h' tk μ' es m x' S' mD₁ mD mC hDC fC hn fin
 obtain⟨mL,oL,_,_,hL,_⟩:=H.loc.live
 have nLC:env.locals≠C:=fun z=>fC oL (z▸hL) (z▸H.inv.curr)
 have H2:HereS G n ⟨sc,cl0,ρ0⟩ μ' A h₀ env h':=H.ext x' S'
 show wpAny _ A (PySem.assign (.Name y py) env (.ref D)) _ _ _
 obtain⟨m0,hn0,hm0⟩:=H2.loc
 refine wpAny_assign_Name (wpAny_storeName_local (by unfold Env.kindOf; rw[H.eok.scope]; exact hx) hn0 (fun h₂ hn₂ hs₂=>?_) (by rw[H.eok.kind]; rfl))
 have hs₂:Heap.SameBut env.locals h' h₂:=hs₂
 have hnC₂:=hn.sameBut hs₂ (Ne.symm nLC)
 refine⟨m,hnC₂,fun h₃ hs₃=>?_⟩
 have hs₃:Heap.SameBut C h₂ h₃:=hs₃
 have xb:ExtB G env.locals μ' h' μ' h₂:=extB_of_sameBut hs₂
 have tb:=xb.t ⟨m0,hn0⟩
 have S₂:Sim G μ' h₂:=S'.keep (fun b o hb e=>(hs₂.2 b (fun z=>by rw[z] at hb; exact hb H2.inv.curr)).trans e) tb
 have l₂:LocOk env ((y,.ref D)::ρ0) μ' h₂:=LocOk.put hm0 tb hn₂ (.ref D)
 have xc:ExtB G C μ' h₂ μ' h₃:=extB_of_sameBut hs₃
 have tc:=xc.t ⟨m,hnC₂⟩
 have S₃:Sim G μ' h₃:=S₂.keep (fun b o hb e=>(hs₃.2 b (fun z=>by rw[z] at hb; exact hb mC)).trans e) tc
 refine⟨.next,(y,.ref D)::ρ0,_,h₃,tk+1,rfl,fun b o nb hb e=>?_,H2.inv.curr,S₃,?_,.next,fin mD⟩
 · obtain⟨e1,e2⟩:=x' b o hb e
   exact⟨e1.trans fun o' e'=>.inl ((hs₃.2 b (fun z=>fC o (z▸e) (z▸hb))).trans ((hs₂.2 b nb).trans e')),e2⟩
 · obtain⟨m1,⟨o,es,ep,ho',r'⟩,hm⟩:=l₂
   exact⟨m1,⟨o,es,ep,(hs₃.2 _ nLC).trans ho',r'⟩,fun y d e=>let ⟨v,h1,h2⟩:=hm y d e; ⟨v,h1,h2.ext tc⟩⟩
end
noncomputable def KEYS:List Str:=NAMES++TOKENS
mutual
inductive Der (rules:List Rule) (pl:List (List Str)):Str→Pair→Prop
 | tok {x:Str}{low:Nat}{t:List Str}:x∈TOKENS→pl[low]?=some t→x∈t→Der rules pl x (low,low+1)
 | rule {r:Rule}{p:Pair}:r∈rules.tail→DerRow rules pl r.2 p→Der rules pl r.1 p
inductive DerRow (rules:List Rule) (pl:List (List Str)):List Str→Pair→Prop
 | nil {p:Nat}:p≤pl.length→DerRow rules pl [] (p,p)
 | snoc {row:List Str}{x:Str}{a m b:Nat}:DerRow rules pl row (a,m)→Der rules pl x (m,b)→DerRow rules pl (row++[x]) (a,b)
end
theorem take_snoc {α:Type}{r:List α}{j:Nat}{x:α} (h:r[j]?=some x):r.take (j+1)=r.take j++[x]:=by rw[List.take_succ,h]; rfl
theorem front_sound {rules:List Rule}{pl:List (List Str)}{sp:Str→List Pair} (hs:∀ x p,p∈sp x→Der rules pl x p) {r:List Str}:∀ j,j≤r.length→∀ p∈frontAt sp pl.length r j,DerRow rules pl (r.take j) p
 | 0,_,p,hp=>by
  refine and2 (mem_diag.mp hp) fun h1 h2=>?_
  obtain⟨a,b⟩:=p
  simp at h1 h2
  subst h1
  rw[List.take_zero]
  exact .nil h2
 | j+1,hj,p,hp=>by
  refine ex1_2 (mem_joined.mp hp) fun m h1 h2=>?_
  have hx:r[j]?=some (r.getD j ""):=by simp[List.getD,show j<r.length by exact ω55 hj]
  rw[take_snoc hx]
  exact .snoc (front_sound hs j (ω89 hj) _ h1) (hs _ _ h2)
noncomputable def Closed (rules:List Rule) (size:Nat) (sp:Str→List Pair):Prop:=∀ r∈rules.tail,∀ p∈frontAt sp size r.2 r.2.length,p∈sp r.1
noncomputable def tokSp (pl:List (List Str)) (x:Str):List Pair:=((List.range pl.length).filter fun low=>(pl.getD low []).contains x).map fun low=>(low,low+1)
structure Tab (μ:Mem) (D:Addr) (es:List (Str×MV)) (xs:List Str) (adr:Str→Addr) (sp:Str→List Pair):Prop where
 at_:μ D=some (.sdict es)
 len:es.length≤xs.length
 key:∀ x∈xs,atM es x=some (.ref (adr x))∧μ (adr x)=some (.list (pairsM (sp x)))∧adr x≠D
 inj:∀ x∈xs,∀ y∈xs,adr x=adr y→x=y
theorem Tab.spans {μ:Mem}{D:Addr}{es:List (Str×MV)}{xs:List Str}{adr:Str→Addr}{sp:Str→List Pair} (t:Tab μ D es xs adr sp) {ys:List Str} (h:∀ y∈ys,y∈xs):SpansAt μ D es ys sp:=
 ⟨t.at_,fun y hy=>⟨adr y,(t.key y (h y hy)).1,(t.key y (h y hy)).2.1⟩⟩
theorem Tab.le {μ μ':Mem}{D:Addr}{es:List (Str×MV)}{xs:List Str}{adr:Str→Addr}{sp:Str→List Pair} (t:Tab μ D es xs adr sp) (l:Le μ μ'):Tab μ' D es xs adr sp:=
 ⟨l _ _ t.at_,t.len,fun x hx=>let ⟨a,b,c⟩:=t.key x hx; ⟨a,l _ _ b,c⟩,t.inj⟩
theorem Tab.add {μ:Mem}{D b:Addr}{es:List (Str×MV)}{xs:List Str}{adr:Str→Addr}{sp:Str→List Pair} (t:Tab μ D es xs adr sp) {y:Str} (hy:y∉xs) {l:List Pair} (e:μ b=some (.list (pairsM l))) (nb:∀ x∈xs,adr x≠b) :
 Tab (upd μ D (.sdict (putM es y (.ref b)))) D (putM es y (.ref b)) (xs++[y]) (fun x=>if x=y then b else adr x) (fun x=>if x=y then l else sp x):=by
 have nbD:b≠D:=fun z=>by rw[z,t.at_] at e; cases e
 refine⟨upd_same _ _ _,by have h1:=putM_length es y (.ref b); rw[List.length_append]; exact Nat.le_trans h1 (Nat.succ_le_succ t.len),fun x hx=>?_,fun x hx z hz e'=>?_⟩
 · rw[atM_putM]
   by_cases q:x=y
   · subst q
     rw[if_pos rfl,if_pos rfl,if_pos rfl]
     exact⟨rfl,(upd_ne _ _ nbD).trans e,nbD⟩
   · have hx':x∈xs:=by rcases List.mem_append.mp hx with h | h; exact h; exact absurd (List.mem_singleton.mp h) q
     rw[if_neg q,if_neg q,if_neg q]
     refine and3 (t.key x hx') fun a1 a2 a3=>?_
     exact⟨a1,(upd_ne _ _ a3).trans a2,a3⟩
 · have split:∀ w∈xs++[y],w=y∨w∈xs:=fun w hw=>by
    rcases List.mem_append.mp hw with h | h
    · exact .inr h
    · exact .inl (List.mem_singleton.mp h)
   rcases split x hx with rfl | hx'
   · rcases split z hz with rfl | hz'
     · rfl
     · by_cases q:z=x
       · exact q.symm
       · rw[if_pos rfl,if_neg q] at e'
         exact absurd e'.symm (nb z hz')
   · rcases split z hz with rfl | hz'
     · by_cases q:x=z
       · exact q
       · rw[if_neg q,if_pos rfl] at e'
         exact absurd e' (nb x hx')
     · have qx:x≠y:=fun q=>hy (q▸hx')
       have qz:z≠y:=fun q=>hy (q▸hz')
       rw[if_neg qx,if_neg qz] at e'
       exact t.inj x hx' z hz' e'
theorem Tab.grow {μ:Mem}{D:Addr}{es:List (Str×MV)}{xs:List Str}{adr:Str→Addr}{sp:Str→List Pair} (t:Tab μ D es xs adr sp) {y:Str} (hy:y∈xs) (p:Pair) :
 Tab (upd μ (adr y) (.list (pairsM (sp y++[p])))) D es xs adr (fun x=>if x=y then sp y++[p] else sp x):=by
 refine⟨(upd_ne _ _ (Ne.symm (t.key y hy).2.2)).trans t.at_,t.len,fun x hx=>?_,t.inj⟩
 refine and3 (t.key x hx) fun a1 a2 a3=>?_
 refine⟨a1,?_,a3⟩
 by_cases q:x=y
 · subst q; rw[if_pos rfl,upd_same]
 · rw[if_neg q,upd_ne _ _ (fun z=>q (t.inj x hx y hy z))]; exact a2
noncomputable def LeE (l:List Addr) (μ μ':Mem):Prop:=∀ b mo,b∉l→μ b=some mo→μ' b=some mo
theorem Le.e {μ μ':Mem} (x:Le μ μ') (l:List Addr):LeE l μ μ':=fun b mo _ e=>x b mo e
theorem LeB.e {c:Addr}{l:List Addr}{μ μ':Mem} (x:LeB c μ μ') (h:c∈l):LeE l μ μ':=fun b mo n e=>x b mo (fun z=>n (z▸h)) e
theorem LeE.trans {l:List Addr}{μ μ' μ'':Mem} (x:LeE l μ μ') (y:LeE l μ' μ''):LeE l μ μ'':=fun b mo n e=>y b mo n (x b mo n e)
theorem LeE.upd {l:List Addr}{c:Addr} (h:c∈l) (μ:Mem) (mo:MO):LeE l μ (Mine.upd μ c mo):=(LeB.upd c μ mo).e h
theorem Tab.leB {μ μ':Mem}{D c:Addr}{es:List (Str×MV)}{xs:List Str}{adr:Str→Addr}{sp:Str→List Pair} (t:Tab μ D es xs adr sp) {d d':Option MV} (hc:μ c=some (.cell d)) (l:LeB c μ μ'):Tab μ' D es xs adr sp:=by
 have n:∀{b:Addr}{mo:MO},μ b=some mo→(∀ d,mo≠.cell d)→b≠c:=fun {b mo} e h z=>by rw[z,hc] at e; cases e; exact h _ rfl
 exact⟨l _ _ (n t.at_ (fun _ z=>nomatch z)) t.at_,t.len,fun x hx=>let ⟨a,b,e⟩:=t.key x hx; ⟨a,l _ _ (n b (fun _ z=>nomatch z)) b,e⟩,t.inj⟩
noncomputable def PlacesAt (μ:Mem) (a:Addr) (pl:List (List Str)):Prop:=∃ bs:List Addr,μ a=some (.list (bs.map .ref))∧bs.length=pl.length∧∀(j:Nat) (b:Addr) (t:List Str),bs[j]?=some b→pl[j]?=some t→μ b=some (.list (strsM t))
theorem PlacesAt.le {μ μ':Mem}{a:Addr}{pl:List (List Str)} (x:PlacesAt μ a pl) (l:Le μ μ'):PlacesAt μ' a pl:=by
 refine ex1_3 (x) fun bs h1 h2 h3=>?_
 exact⟨bs,l _ _ h1,h2,fun j b t e e'=>l _ _ (h3 j b t e e')⟩
noncomputable def RulesAt (μ:Mem) (a:Addr) (rules:List Rule):Prop:=μ a=some (.list (rules.map mvRule))
theorem Tab.congr {μ:Mem}{D:Addr}{es:List (Str×MV)}{xs:List Str}{adr:Str→Addr}{sp sp':Str→List Pair} (t:Tab μ D es xs adr sp) (h:∀ x∈xs,sp' x=sp x):Tab μ D es xs adr sp':=
 ⟨t.at_,t.len,fun x hx=>by rw[h x hx]; exact t.key x hx,t.inj⟩
structure Good (rules:List Rule) (pl:List (List Str)) (sp:Str→List Pair):Prop where
 nodup:∀ x,(sp x).Nodup
 small:∀ x,Small pl.length (sp x)
 der:∀ x p,p∈sp x→Der rules pl x p
 tok:∀ x∈TOKENS,sp x=tokSp pl x
noncomputable def total (sp:Str→List Pair):Nat:=(sp "S").length+(sp "A").length+(sp "B").length+(sp "N").length
noncomputable def growSp (sp:Str→List Pair) (y:Str) (p:Pair):Str→List Pair:=fun x=>if x=y then sp y++[p] else sp x
theorem tokSp_mem {pl:List (List Str)}{x:Str}{p:Pair}:p∈tokSp pl x↔p.2=p.1+1∧∃ t,pl[p.1]?=some t∧x∈t:=by
 unfold tokSp
 rw[List.mem_map]
 constructor
 · intro hh_
   refine ex1_2 hh_ fun low h zr2=>?_
   obtain rfl:=zr2
   clear hh_
   refine and2 (List.mem_filter.mp h) fun h1 h2=>?_
   have h1:=List.mem_range.mp h1
   exact⟨rfl,_,by simp[List.getD,h1]; rfl,by simpa[List.getD,h1] using h2⟩
 · rintro⟨h1,t,h2,h3⟩
   have hl:=(List.getElem?_eq_some_iff.mp h2).1
   refine⟨p.1,List.mem_filter.mpr ⟨List.mem_range.mpr hl,?_⟩,Prod.ext rfl h1.symm⟩
   simp[List.getD,h2,h3]
theorem tokSp_nodup (pl:List (List Str)) (x:Str):(tokSp pl x).Nodup:=nodup_map_inj (fun a b e=>(Prod.mk.inj e).1) (List.nodup_range.filter _)
theorem good_start {rules:List Rule}{pl:List (List Str)}{sp2:Str→List Pair} (h3:pl.length≤3) (hn:∀ x∈NAMES,sp2 x=[]) (ht:∀ x∈TOKENS.take 4,sp2 x=tokSp pl x):Good rules pl (fun x=>if x∈KEYS then sp2 x else []):=by
 have key:∀ x,(if x∈KEYS then sp2 x else [])=[]∨(x∈TOKENS∧(if x∈KEYS then sp2 x else [])=tokSp pl x):=fun x=>by
  by_cases h:x∈KEYS
  · rw[if_pos h]
    rcases List.mem_append.mp h with h | h
    · exact .inl (hn x h)
    · exact .inr ⟨h,ht x h⟩
  · rw[if_neg h]; exact .inl rfl
 refine⟨fun x=>?_,fun x p hp=>?_,fun x p hp=>?_,fun x hx=>?_⟩
 · show(if x∈KEYS then sp2 x else []).Nodup
   rcases key x with e | ⟨_,e⟩
   · rw[e]; exact List.nodup_nil
   · rw[e]; exact tokSp_nodup _ _
 · have hp:p∈(if x∈KEYS then sp2 x else []):=hp
   rcases key x with e | ⟨_,e⟩
   · rw[e] at hp; cases hp
   · rw[e] at hp
     obtain⟨h1,t,h2,_⟩:=tokSp_mem.mp hp
     have:=(List.getElem?_eq_some_iff.mp h2).1
     exact ω90 this h1
 · have hp:p∈(if x∈KEYS then sp2 x else []):=hp
   rcases key x with e | ⟨hx,e⟩
   · rw[e] at hp; cases hp
   · rw[e] at hp
     obtain⟨h1,t,h2,h3⟩:=tokSp_mem.mp hp
     obtain⟨a,b⟩:=p
     simp only at h1 h2
     subst h1
     exact .tok hx h2 h3
 · show(if x∈KEYS then sp2 x else [])=tokSp pl x
   rw[if_pos (show x∈KEYS from List.mem_append_right _ hx)]
   exact ht x hx
theorem names_cases {y:Str} (h:y∈NAMES):y="S"∨y="A"∨y="B"∨y="N":=by
 unfold NAMES at h
 simpa using h
theorem total_grow {sp:Str→List Pair}{y:Str}{p:Pair} (h:y∈NAMES):total (growSp sp y p)=total sp+1:=by
 have e:∀ x,(growSp sp y p x).length=if x=y then(sp y).length+1 else(sp x).length:=fun x=>by unfold growSp; split <;> simp
 unfold total
 rw[e,e,e,e]
 rcases names_cases h with rfl | rfl | rfl | rfl
 · rw[if_pos rfl,if_neg (by decide),if_neg (by decide),if_neg (by decide)]; exact ω91
 · rw[if_neg (by decide),if_pos rfl,if_neg (by decide),if_neg (by decide)]; exact ω92
 · rw[if_neg (by decide),if_neg (by decide),if_pos rfl,if_neg (by decide)]; exact ω93
 · rw[if_neg (by decide),if_neg (by decide),if_neg (by decide),if_pos rfl]; exact ω94
theorem total_le {rules:List Rule}{pl:List (List Str)}{sp:Str→List Pair} (g:Good rules pl sp) (h3:pl.length≤3):total sp≤64:=by
 have h:∀ x,(sp x).length≤16:=fun x=>by
  have:=small_len (g.nodup x) (g.small x)
  have h4:(pl.length+1)*(pl.length+1)≤4*4:=Nat.mul_le_mul (ω69 h3) (ω69 h3)
  exact ω70 h4 this
 unfold total
 exact Nat.add_le_add (Nat.add_le_add (Nat.add_le_add (h "S") (h "A")) (h "B")) (h "N")
theorem Good.grow {rules:List Rule}{pl:List (List Str)}{sp:Str→List Pair} (g:Good rules pl sp) {y:Str}{p:Pair} (hy:y∈NAMES) (hp:p∉sp y) (hs:p.1≤pl.length∧p.2≤pl.length) (hd:Der rules pl y p):Good rules pl (growSp sp y p):=by
 refine⟨fun x=>?_,fun x z hz=>?_,fun x z hz=>?_,fun x hx=>?_⟩
 · unfold growSp; split
   · exact nodup_snoc (g.nodup y) hp
   · exact g.nodup x
 · unfold growSp at hz; split at hz
   · rcases List.mem_append.mp hz with h | h
     · exact g.small y z h
     · rw[List.mem_singleton.mp h]; exact hs
   · exact g.small x z hz
 · unfold growSp at hz; split at hz
   · rename_i e
     subst e
     rcases List.mem_append.mp hz with h | h
     · exact g.der _ z h
     · rw[List.mem_singleton.mp h]; exact hd
   · exact g.der x z hz
 · unfold growSp
   rw[if_neg]
   · exact g.tok x hx
   · rintro rfl
     revert hx hy
     unfold TOKENS NAMES
     simp only[List.mem_cons,List.not_mem_nil,or_false]
     rintro(rfl | rfl | rfl | rfl) <;> decide
section
variable {G:Gd}{n:Nat}{cx:Cx}{μ:Mem}{Φ:MV→Mem→Prop}
theorem bind2' {fd:FuncData}{x y:Str}{a b:MV} (hb:∀ v w,bindArgs fd ⟨[v,w],[]⟩=pure [(x,v),(y,w)]):∀ s vs,G.K.In s.heap→VRs μ s.heap vs [a,b]→∃ binds,BindsTo s fd ⟨vs,[]⟩ binds∧PR μ s.heap binds [(x,a),(y,b)]:=bind2 hb
theorem tok_ok {x:Str} (h:x∈TOKENS):PyData.strOk x=true:=by
 unfold TOKENS at h
 simp only[List.mem_cons,List.not_mem_nil,or_false] at h
 rcases h with rfl | rfl | rfl | rfl <;> decide +kernel
theorem not_mem_take {α:Type}{x:α}:∀{l:List α}{k:Nat},l.Nodup→l[k]?=some x→x∉l.take k
 | [],k,_,e=>by simp at e
 | a::l,0,_,_=>by simp
 | a::l,k+1,h,e=>by
  have h':=List.nodup_cons.mp h
  rw[List.getElem?_cons_succ] at e
  rw[List.take_succ_cons,List.mem_cons]
  rintro(rfl | z)
  · exact h'.1 (List.mem_of_getElem? e)
  · exact not_mem_take h'.2 e z
theorem c_spans (g:Law G) {ru pa:Addr}{rules:List Rule}{pl:List (List Str)} (hr:RulesAt μ ru rules) (hp:PlacesAt μ pa pl) (h3:pl.length≤3) (hrl:rules.length≤10) (hne:1≤rules.length) (hrow:∀ r∈rules,r.2.length≤5∧∀ x∈r.2,x∈KEYS) (hname:∀ r∈rules.tail,r.1∈NAMES)
 (htok:∀ t∈pl,t.length≤10∧∀ x∈t,x∈TOKENS)
 (q:∀ D es adr sp μ',μ D=none→Tab μ' D es KEYS adr sp→(∀ x,(sp x).Nodup)→(∀ x,Small pl.length (sp x))→(∀ x p,p∈sp x→Der rules pl x p)→Closed rules pl.length sp→(∀ x∈TOKENS,sp x=tokSp pl x)→Le μ μ'→Φ (.ref D) μ') :
 WpC G (n+6) μ 341 [.ref ru,.ref pa] Φ:=by
 refine call_cells' g [("rules",.ref ru),("places",.ref pa)] [("rules",.ref ru)] ["x","places"] (fun x=>if x="places" then some (.ref pa) else none) (fun _=>by rfl) (fun _=>by kernel_rfl) (bind2' (fun _ _=>rfl)) ?_ ?_
 · intro y hy
   have:y=("x":Str)∨y=("places":Str):=by simpa using hy
   rcases this with rfl | rfl
   · exact⟨rfl,rfl⟩
   · exact⟨rfl,rfl⟩
 intro L' hL
 have m1:μ (L'+1)=none:=hL _ (Nat.le_succ _)
 have m2:μ (L'+1+1)=none:=hL _ (Nat.le_succ_of_le (Nat.le_succ _))
 have ne12:L'+1≠L'+1+1:=Nat.ne_of_lt (Nat.lt_succ_self _)
 show WpS G (n+5) _ (upd (upd μ (L'+1) (.cell (some (.ref pa)))) (L'+1+1) (.cell none)) _ _
 have le0:Le μ (upd (upd μ (L'+1) (.cell (some (.ref pa)))) (L'+1+1) (.cell none)):=(Le.upd m1).trans (Le.upd ((upd_ne _ _ (Ne.symm ne12)).trans m2))
 have cp0:upd (upd μ (L'+1) (.cell (some (.ref pa)))) (L'+1+1) (.cell none) (L'+1)=some (.cell (some (.ref pa))):=by rw[upd_ne _ _ ne12,upd_same]
 have cx0:upd (upd μ (L'+1) (.cell (some (.ref pa)))) (L'+1+1) (.cell none) (L'+1+1)=some (.cell none):=upd_same _ _ _
 generalize upd (upd μ (L'+1) (.cell (some (.ref pa)))) (L'+1+1) (.cell none)=μ₀ at le0 cp0 cx0
 have back:∀{c:Addr},μ₀ c=none→μ c=none:=fun {c} h=>by
  cases z:μ c with
  | none=>rfl
  | some mo=>rw[le0 _ _ z] at h; cases h
 refine WpS.cons (WpS1.assignDComp [] (WpIt.list (WpE.callG0 (gn__law_NAMES g) (gk__law_NAMES g) (c_NAMES g fun a ha=>⟨a,_,rfl,upd_same _ _ _,rfl,4,
  (fun D k es μ'=>k≤4∧(∃ adr,Tab μ' D es (NAMES.take k) adr (fun _=>[])∧∀ x∈NAMES.take k,μ₀ (adr x)=none)∧LeB D (upd μ₀ a (.list (strsM NAMES))) μ'),by decide,fun D hD=>⟨⟨ω96,⟨fun _=>0,⟨upd_same _ _ _,by simp,by simp,by simp⟩,by simp⟩,LeB.upd _ _ _⟩,?_⟩⟩))) (closure_nil (by rfl)))
 · have hD₀:μ₀ D=none:=by
    by_cases z:D=a
    · rw[z,upd_same] at hD; cases hD
    · rwa [upd_ne _ _ z] at hD
   have naD:a≠D:=fun z=>by rw[z,upd_same] at hD; cases hD
   intro k es μ₁ hD₁ hh_
   refine and3 hh_ fun hk zq1 l₁=>?_
   obtain⟨adr,tab,fr⟩:=zq1
   clear hh_
   refine⟨hk,_,⟨_,l₁ _ _ naD (upd_same _ _ _),rfl⟩,?_⟩
   unfold strsM
   rw[List.getElem?_map]
   cases hx:NAMES[k]? with
   | some x=>
    have hlt:k<4:=(List.getElem?_eq_some_iff.mp hx).1
    refine⟨hlt,fun ρ=>WpA.name (WpE.loc rfl (WpE.list (WpEs.nil ⟨by simp,fun b hb=>⟨x,rfl,?_,ω98 hlt,⟨fun y=>if y=x then b else adr y,?_,?_⟩,?_⟩⟩)))⟩
    · rw[upd_ne _ _ (fun z=>by rw[← z,hD₁] at hb; cases hb)]; exact hD₁
    · have hx':x∉NAMES.take k:=by
       exact not_mem_take (by decide) hx
      have t2:=(tab.le (Le.upd hb)).add hx' (b:=b) (l:=[]) (upd_same _ _ _) (fun y hy z=>by rw[← z,(tab.key y hy).2.1] at hb; cases hb)
      rw[take_snoc hx]
      have e2:(fun y=>if y=x then([]:List Pair) else [])=fun _=>[]:=by funext y; split <;> rfl
      rw[e2] at t2
      exact t2
    · intro y hy
      rw[take_snoc hx] at hy
      show μ₀ (if y=x then b else adr y)=none
      by_cases z:y=x
      · rw[if_pos z]
        cases w:μ₀ b with
        | none=>rfl
        | some mo=>
         have hba:b≠a:=fun z=>by rw[z,l₁ _ _ naD (upd_same _ _ _)] at hb; cases hb
         have hbD:b≠D:=fun z=>by rw[z,hD₁] at hb; cases hb
         rw[l₁ _ _ hbD (by rw[upd_ne _ _ hba]; exact w)] at hb; cases hb
      · rw[if_neg z]
        rcases List.mem_append.mp hy with h | h
        · exact fr y h
        · exact absurd (List.mem_singleton.mp h) z
    · exact l₁.trans ((LeB.upd2 hb).trans (LeB.upd _ _ _))
   | none=>
    have:k=4:=by have:4≤k:=List.getElem?_eq_none_iff.mp hx; exact ω99 this hk
    subst this
    intro _
    have l₀₁:Le μ₀ μ₁:=(((Le.upd ha).b D).trans l₁).le hD₀
    have hDμ:=back hD₀
    have nDc2:D≠L'+1+1:=fun z=>by rw[z,cx0] at hD₀; cases hD₀
    have nDc1:D≠L'+1:=fun z=>by rw[z,cp0] at hD₀; cases hD₀
    refine WpS.cons (WpS1.for_ (WpIt.list (WpE.callG0 (gn__law_TOKENS g) (gk__law_TOKENS g) (c_TOKENS g fun a2 ha2=>⟨a2,_,rfl,upd_same _ _ _,.inr ⟨rfl,fun _ _=>rfl⟩,4,
     (fun k ρ μ'=>k≤4∧Lk ρ "spans" (.ref D)∧Lk ρ "rules" (.ref ru)∧(∃ es adr sp,Tab μ' D es (NAMES++TOKENS.take k) adr sp∧(∀ x∈NAMES,μ₀ (adr x)=none)∧(∀ x∈NAMES,sp x=[])∧(∀ x∈TOKENS.take k,sp x=tokSp pl x))∧(∃ d,μ' (L'+1+1)=some (.cell d))∧LeE [D,L'+1+1] (upd μ₁ a2 (.list (strsM TOKENS))) μ'),
     ⟨ω96,rfl,rfl,⟨es,adr,fun _=>[],tab.le (Le.upd ha2),fr,by simp,by simp⟩,⟨none,Le.upd ha2 _ _ (l₀₁ _ _ cx0)⟩,(Le.refl _).e _⟩,?_⟩))))
    have hold:∀{μ':Mem},LeE [D,L'+1+1] (upd μ₁ a2 (.list (strsM TOKENS))) μ'→Le μ μ':=fun {μ'} x b mo e=>by
     refine x b mo ?_ (Le.upd ha2 _ _ (l₀₁ _ _ (le0 _ _ e)))
     intro z
     have:b=D∨b=L'+1+1:=by simpa using z
     rcases this with rfl | rfl
     · rw[hDμ] at e; cases e
     · rw[m2] at e; cases e
    have na2:a2∉[D,L'+1+1]:=fun z=>by
     have:a2=D∨a2=L'+1+1:=by simpa using z
     rcases this with rfl | rfl
     · rw[tab.at_] at ha2; cases ha2
     · rw[l₀₁ _ _ cx0] at ha2; cases ha2
    have hplaces:∀{μ':Mem},LeE [D,L'+1+1] (upd μ₁ a2 (.list (strsM TOKENS))) μ'→μ' (L'+1)=some (.cell (some (.ref pa))):=fun {μ'} x=>by
     refine x _ _ ?_ (Le.upd ha2 _ _ (l₀₁ _ _ cp0))
     simp[Ne.symm nDc1,ne12]
    intro k ρ μ₂ hh_
    refine and6 hh_ fun hk2 r1 r2 zq3 zq4 lE=>?_
    obtain⟨es2,adr2,sp2,tab2,hfr2,hn2,ht2⟩:=zq3
    obtain⟨d2,hc2⟩:=zq4
    clear hh_
    refine⟨hk2,_,⟨_,lE _ _ na2 (upd_same _ _ _),rfl⟩,?_⟩
    unfold strsM
    rw[List.getElem?_map]
    cases hx2:TOKENS[k]? with
    | some x=>
     have hlt:k<4:=(List.getElem?_eq_some_iff.mp hx2).1
     refine⟨hlt,WpA.cell hc2 ?_ (by rfl)⟩
     have lc:LeB (L'+1+1) μ₂ (upd μ₂ (L'+1+1) (.cell (some (.str x)))):=LeB.upd _ _ _
     have lE':=lE.trans (lc.e (l:=[D,L'+1+1]) (by simp))
     have tab3:=tab2.leB (d':=none) hc2 lc
     have hcx:upd μ₂ (L'+1+1) (.cell (some (.str x))) (L'+1+1)=some (.cell (some (.str x))):=upd_same _ _ _
     generalize upd μ₂ (L'+1+1) (.cell (some (.str x)))=μ₃ at lE' tab3 hcx
     have hpl:=hplaces lE'
     refine ex1_3 (hp.le (hold lE')) fun bs hb1 hb2 hb3=>?_
     refine WpS.cons (WpS1.setitem ?_)
     have hx2':x∈TOKENS:=List.mem_of_getElem? hx2
     refine WpE.comp [("x",L'+1+1),("places",L'+1)] (WpIt.range (bn_range g) (WpE.callB (bn_len g) (WpEs.cons (WpE.cellv (.inl rfl) (c:=L'+1) rfl hpl (WpEs.nil ?_) rfl)))) ?_
     · refine o_len_list hb1 (by simp; exact ω100 hb2 h3) ⟨((pl.length:Nat):Int),by simp[hb2],ω34,ω101 h3,.inr ⟨rfl,fun _ _=>rfl⟩,pl.length,
        (fun i ds μ'=>i≤pl.length∧ds=pairsM (((List.range i).filter fun low=>(pl.getD low []).contains x).map fun low=>(low,low+1))∧μ'=μ₃),ω102 h3,⟨ω50,rfl,rfl⟩,?_⟩
       intro i ds μ' hh_
       refine and3 hh_ fun hi zr1 zr2=>?_
       obtain rfl:=zr1
       obtain rfl:=zr2
       clear hh_
       refine⟨hi,_,rfl,?_⟩
       by_cases hlt2:i<pl.length
       · rw[if_pos (ω51 hlt2)]
         refine⟨hlt2,fun ρ'=>WpA.name (WpIfs.one (WpT.cmp (WpE.cellv (.inl rfl) (c:=L'+1+1) rfl hcx ?_ rfl)))⟩
         obtain⟨bi,hbi⟩:∃ b,bs[i]?=some b:=⟨_,List.getElem?_eq_getElem (ω103 hlt2 hb2)⟩
         have hti:pl[i]?=some (pl.getD i []):=by simp[List.getD,hlt2]
         have ht:=hb3 i bi _ hbi hti
         have htt:=htok _ (List.mem_of_getElem? hti)
         refine WpE.sub (WpE.cellv (.inl rfl) (c:=L'+1) rfl hpl ?_ rfl)
         refine WpE.loc rfl (o_item_list (d:=.ref bi) hb1 ω104 (ω105 hlt2 h3) (by simp[hbi]) ?_)
         refine o_inL (d:=.str x) ht (oks_strs fun y hy=>tok_ok (htt.2 y hy)) (by show PyData.strOk x=true; exact tok_ok hx2') (by simp[MV.deep]) fun c hc=>⟨c,rfl,?_⟩
         have hc':c=(pl.getD i []).contains x:=by
          rw[Bool.eq_iff_iff,hc,List.contains_iff_mem]
          unfold strsM
          rw[List.mem_map]
          exact⟨fun ⟨y,h1,h2⟩=>by cases h2; exact h1,fun h=>⟨x,h,rfl⟩⟩
         cases c with
         | true=>
          refine ite_t rfl ?_
          refine WpE.tuple (WpEs.cons (WpE.loc rfl (WpEs.cons (WpE.bin (WpE.loc rfl (WpE.int (o_add (WpEs.nil ⟨by simp,ω55 hlt2,?_,rfl⟩))))))))
          rw[List.range_succ,List.filter_append,List.map_append,List.filter_cons,List.filter_nil,← hc']
          simp[pairsM,mvPair]
         | false=>
          refine ite_f (by decide) ?_
          refine⟨ω55 hlt2,?_,rfl⟩
          rw[List.range_succ,List.filter_append,List.map_append,List.filter_cons,List.filter_nil,← hc']
          simp[pairsM]
       · rw[if_neg (ω56 hlt2)]
         have:i=pl.length:=ω57 hi hlt2
         subst this
         intro b hb
         refine WpE.loc (show Lk ρ "spans" (.ref D) from r1) (WpE.cellv (.inl rfl) (c:=L'+1+1) rfl (Le.upd hb _ _ hcx) ?_ rfl)
         have hxn:x∉NAMES++TOKENS.take k:=by
          intro z
          rcases List.mem_append.mp z with z | z
          · revert z hx2'
            unfold TOKENS NAMES
            simp only[List.mem_cons,List.not_mem_nil,or_false]
            rintro(rfl | rfl | rfl | rfl) <;> decide
          · exact not_mem_take (by decide) hx2 z
         have t3:=(tab3.le (Le.upd hb)).add hxn (b:=b) (l:=tokSp pl x) (upd_same _ _ _) (fun y hy z=>by rw[← z,(tab3.key y hy).2.1] at hb; cases hb)
         refine o_setD (tab3.le (Le.upd hb)).at_ (by have:=tab3.len; have:(NAMES++TOKENS.take k).length≤8:=(by have:=List.length_take_le k TOKENS; have h4:TOKENS.length=4:=rfl; have h5:NAMES.length=4:=rfl; rw[List.length_append]; exact ω106 h5 hlt this); omega) ?_
         refine WpS.nil ⟨ω98 hlt,r1,r2,⟨putM es2 x (.ref b),fun y=>if y=x then b else adr2 y,fun y=>if y=x then tokSp pl x else sp2 y,?_,?_,?_,?_⟩,⟨some (.str x),?_⟩,?_⟩
         · have e3:NAMES++TOKENS.take (k+1)=(NAMES++TOKENS.take k)++[x]:=by rw[take_snoc hx2,List.append_assoc]
           rw[e3]; exact t3
         · intro y hy
           show μ₀ (if y=x then b else adr2 y)=none
           rw[if_neg (fun z:y=x=>hxn (List.mem_append_left _ (z▸hy)))]
           exact hfr2 y hy
         · intro y hy
           show(if y=x then tokSp pl x else sp2 y)=[]
           rw[if_neg (fun z:y=x=>hxn (List.mem_append_left _ (z▸hy)))]
           exact hn2 y hy
         · intro y hy
           show(if y=x then tokSp pl x else sp2 y)=tokSp pl y
           by_cases z:y=x
           · rw[if_pos z,z]
           · rw[if_neg z]
             rw[take_snoc hx2] at hy
             rcases List.mem_append.mp hy with h | h
             · exact ht2 y h
             · exact absurd (List.mem_singleton.mp h) z
         · rw[upd_ne _ _ (Ne.symm nDc2)]; exact Le.upd hb _ _ hcx
         · exact lE'.trans (((Le.upd hb).e _).trans (LeE.upd (by simp) _ _))
     · intro env _ h
       obtain⟨sc,lo,gl,ce,qu,fu,co,fr,bu⟩:=env
       simp only at h
       subst h
       rfl
    | none=>
     have:k=4:=by have:4≤k:=List.getElem?_eq_none_iff.mp hx2; exact ω99 this hk2
     subst this
     have tabK:Tab μ₂ D es2 KEYS adr2 (fun x=>if x∈KEYS then sp2 x else []):=Tab.congr tab2 fun x hx=>by rw[if_pos hx]
     have good0:Good rules pl (fun x=>if x∈KEYS then sp2 x else []):=good_start h3 hn2 ht2
     have lB0:LeB (L'+1+1) μ₀ μ₂:=fun b mo nb e=>lE b mo (by
      intro z
      have:b=D∨b=L'+1+1:=by simpa using z
      rcases this with rfl | rfl
      · rw[hD₀] at e; cases e
      · exact nb rfl) (Le.upd ha2 _ _ (l₀₁ _ _ e))
     generalize (fun x=>if x∈KEYS then sp2 x else [])=sps at tabK good0
     clear tab2 hn2 ht2 lE hold hplaces na2 hx2 tab fr l₁ l₀₁
     have hold:∀{μ':Mem},LeB (L'+1+1) μ₀ μ'→Le μ μ':=fun {μ'} x b mo e=>x b mo (fun z=>by rw[z,m2] at e; cases e) (le0 _ _ e)
     have hplaces:∀{μ':Mem},LeB (L'+1+1) μ₀ μ'→μ' (L'+1)=some (.cell (some (.ref pa))):=fun {μ'} x=>x _ _ ne12 cp0
     refine WpS.cons (WpS1.assign (WpE.bool ?_))
     refine WpS.cons (WpS1.while_ (fun m ρ μ'=>Lk ρ "spans" (.ref D)∧Lk ρ "rules" (.ref ru)∧∃ sp more,Tab μ' D es2 KEYS adr2 sp∧Good rules pl sp∧Lk ρ "more" (.bool more)∧(more=false→Closed rules pl.length sp)∧m=(if more then 65-total sp else 0)∧LeB (L'+1+1) μ₀ μ') (65-total sps)
      ⟨r1,r2,sps,true,tabK,good0,rfl,(fun z=>nomatch z),rfl,lB0⟩ ?_)
     rintro m ρ₁ μ₃ ⟨s1,s2,sp0,more,tab3,good3,s3,s4,rfl,lB3⟩
     refine WpT.val (WpE.loc s3 (o_truthB ?_))
     cases more with
     | false=>
      refine ite_f (by decide) ?_
      have gg:=good3
      exact WpS.cons (WpS1.ret (WpE.loc s1 (q D es2 adr2 sp0 μ₃ hDμ tab3 gg.nodup gg.small gg.der (s4 rfl) gg.tok (hold lB3))))
     | true=>
      refine ite_t rfl ?_
      refine WpS.cons (WpS1.assign (WpE.bool ?_))
      have hru:=(hold lB3) _ _ hr
      refine WpS.cons (WpS1.for_ (WpIt.list (WpE.sliceFrom (k:=1) (WpE.loc (show Lk (_::ρ₁) "rules" (.ref ru) from s2) (WpE.int ?_)))))
      · refine⟨ru,_,rfl,hru,rfl,by simp; omega,by simp; exact ω49 hrl,fun a3 ha3=>⟨a3,_,rfl,upd_same _ _ _,.inl ⟨_,_,_,rfl⟩,rules.tail.length,
         (fun j ρ μ'=>j≤rules.tail.length∧Lk ρ "spans" (.ref D)∧Lk ρ "rules" (.ref ru)∧∃ sp mo,Tab μ' D es2 KEYS adr2 sp∧Good rules pl sp∧Lk ρ "more" (.bool mo)∧(mo=false→sp=sp0∧∀ r∈rules.tail.take j,∀ p∈frontAt sp0 pl.length r.2 r.2.length,p∈sp0 r.1)∧(mo=true→total sp0<total sp)∧LeB (L'+1+1) μ₀ μ'∧μ' a3=some (.list (rules.tail.map mvRule))),
         ⟨ω50,s1,s2,sp0,false,tab3.le (Le.upd ha3),good3,rfl,(fun _=>⟨rfl,by simp⟩),(fun z=>nomatch z),lB3.trans (LeB.upd2 ha3),by rw[upd_same]; simp⟩,?_⟩⟩
        have na3:∀ y∈KEYS,adr2 y≠a3:=fun y hy z=>by rw[← z,(tab3.key y hy).2.1] at ha3; cases ha3
        intro j ρ₂ μ₄ hh
        refine and4 hh fun hj t1 t2 hh=>?_
        refine ex2_1 (hh) fun sp1 mo1 hh=>?_
        refine and7 hh fun tab4 good4 t3 t4 t5 lB4 e4=>?_
        clear hh
        refine⟨hj,_,⟨_,e4,rfl⟩,?_⟩
        rw[List.getElem?_map]
        cases hrj:rules.tail[j]? with
        | none=>
         have hjl:j=rules.tail.length:=Nat.le_antisymm hj (List.getElem?_eq_none_iff.mp hrj)
         subst hjl
         refine WpS.nil ?_
         refine⟨if mo1 then 65-total sp1 else 0,?_,t1,t2,sp1,mo1,tab4,good4,t3,?_,rfl,lB4⟩
         · cases mo1 with
           | true=>have h1:=t5 rfl; have h2:=total_le good4 h3; simp only[if_true]; exact Nat.sub_lt_sub_left (Nat.lt_of_lt_of_le h1 (Nat.le_succ_of_le h2)) h1
           | false=>have:=total_le good3 h3; simp only[Bool.false_eq_true,if_false,if_true]; exact ω109 this
         · intro z
           refine and2 (t4 z) fun e5 e6=>?_
           rw[List.take_length] at e6
           rw[e5]; exact e6
        | some r=>
         have hjlt:=(List.getElem?_eq_some_iff.mp hrj).1
         have hrt:r∈rules.tail:=List.mem_of_getElem? hrj
         have hrr:=hrow r (List.mem_of_mem_tail hrt)
         have hrn:=hname r hrt
         have hrk:r.1∈KEYS:=List.mem_append_left _ hrn
         refine⟨hjlt,WpA.tup (WpAs.cons (WpA.name (WpAs.cons (WpA.name (WpAs.nil ?_)))))⟩
         refine WpS.cons (WpS1.for_ (WpIt.list (WpE.sub ?_)))
         refine WpE.callG (gn__law_fronts g) (gk__law_fronts g) (WpEs.cons (WpE.loc rfl ?_))
         refine WpEs.cons (WpE.loc (show Lk (_::_::ρ₂) "spans" (.ref D) from t1) ?_)
         refine WpEs.cons (WpE.callB (bn_len g) (WpEs.cons (WpE.cellv (.inl rfl) (c:=L'+1) rfl (hplaces lB4) (WpEs.nil ?_) rfl)))
         refine ex1_3 (hp.le (hold lB4)) fun bs hb1 hb2 hb3=>?_
         refine o_len_list hb1 (by simp; exact ω100 hb2 h3) (WpEs.nil ?_)
         have hlb:(((bs.map MV.ref).length:Nat):Int)=((pl.length:Nat):Int):=by simp[hb2]
         rw[hlb]
         refine c_fronts g (tab4.spans hrr.2) good4.small good4.nodup h3 (by omega) fun c μ₅ hc₅ lf₅ l₅=>?_
         refine ex1_3 (lf₅) fun fs f1 f2 f3=>?_
         obtain⟨d,hd⟩:∃ d,fs[r.2.length]?=some d:=⟨_,List.getElem?_eq_getElem (ω81 f2)⟩
         refine and2 (f3 _ _ hd) fun ed hd₄=>?_
         generalize hF:frontAt sp1 pl.length r.2 r.2.length=F at ed
         have hFok:=frontAt_ok (r:=r.2) good4.small r.2.length
         rw[hF] at hFok
         have hFder:∀ p∈F,Der rules pl r.1 p:=fun p hp'=>by
          have:=front_sound good4.der r.2.length (Nat.le_refl _) p (by rw[hF]; exact hp')
          rw[List.take_length] at this
          exact .rule hrt this
         refine WpE.neg (k:=1) (WpE.int ⟨1,rfl,?_⟩)
         refine o_item_listN (d:=.ref d) f1 (by decide) (by simp; exact ω82 f2) (by decide) ?_ ?_
         · rw[List.length_map,f2,List.getElem?_map]
           have:(-1+((r.2.length+1:Nat):Int)).toNat=r.2.length:=ωn _
           rw[this,hd]; rfl
         have tab5:=tab4.le l₅
         have nd:∀ y∈KEYS,adr2 y≠d:=fun y hy z=>by rw[← z,(tab4.key y hy).2.1] at hd₄; cases hd₄
         refine⟨d,_,rfl,ed,.inr ⟨rfl,fun _ _=>rfl⟩,F.length,
          (fun i ρ μ'=>i≤F.length∧Lk ρ "spans" (.ref D)∧Lk ρ "rules" (.ref ru)∧Lk ρ "name" (.str r.1)∧∃ sp mo,Tab μ' D es2 KEYS adr2 sp∧Good rules pl sp∧Lk ρ "more" (.bool mo)∧(mo=false→sp=sp0∧sp1=sp0∧(∀ r∈rules.tail.take j,∀ p∈frontAt sp0 pl.length r.2 r.2.length,p∈sp0 r.1)∧∀ p∈F.take i,p∈sp0 r.1)∧(mo=true→total sp0<total sp)∧LeB (L'+1+1) μ₀ μ'∧μ' a3=some (.list (rules.tail.map mvRule))∧μ' d=some (.list (pairsM F))),
          ⟨ω50,t1,t2,rfl,sp1,mo1,tab5,good4,t3,(fun z=>⟨(t4 z).1,(t4 z).1,(t4 z).2,by simp⟩),t5,lB4.trans (l₅.b _),l₅ _ _ e4,ed⟩,?_⟩
         rintro i ρ₃ μ₆ ⟨hi,u1,u2,u3,sp,mo,tab6,good6,u4,u5,u6,lB6,e6,ed6⟩
         refine⟨hi,_,⟨_,ed6,rfl⟩,?_⟩
         rw[pairsM_get]
         cases hpi:F[i]? with
         | none=>
          have hil:i=F.length:=by have:F.length≤i:=List.getElem?_eq_none_iff.mp hpi; exact ω61 hi this
          subst hil
          refine WpS.nil ⟨ω55 hjlt,u1,u2,sp,mo,tab6,good6,u4,(fun z=>?_),u6,lB6,e6⟩
          refine and4 (u5 z) fun v1 v2 v3 v4=>?_
          refine⟨v1,fun r' hr' p hp'=>?_⟩
          rw[take_snoc hrj] at hr'
          rcases List.mem_append.mp hr' with h | h
          · exact v3 r' h p hp'
          · rw[List.mem_singleton.mp h] at hp' ⊢
            rw[List.take_length] at v4
            refine v4 p ?_
            rw[← hF,v2]; exact hp'
         | some p=>
          have hilt:=(List.getElem?_eq_some_iff.mp hpi).1
          have hpF:p∈F:=List.mem_of_getElem? hpi
          refine⟨hilt,WpA.name ?_⟩
          refine and3 (tab6.key r.1 hrk) fun k1 k2 k3=>?_
          refine WpS.cons (WpS1.ite (WpT.cmp (WpE.loc rfl (WpE.sub (WpE.loc (show Lk (_::ρ₃) "spans" (.ref D) from u1) (WpE.loc (show Lk (_::ρ₃) "name" (.str r.1) from u3) ?_))))))
          refine o_item_sdict tab6.at_ k1 ?_
          refine o_notinL (d:=mvPair p) k2 (oks_pairsM _) rfl (by simp[mvPair,MV.deep,MV.deeps]) fun t ht=>⟨t,rfl,?_⟩
          rw[mem_pairsM] at ht
          cases t with
          | false=>
           refine ite_f (by decide) ?_
           have hin:p∈sp r.1:=Classical.byContradiction fun z=>by have:=ht.mpr z; cases this
           refine WpS.nil (WpS.nil ⟨ω55 hilt,u1,u2,u3,sp,mo,tab6,good6,u4,(fun z=>?_),u6,lB6,e6,ed6⟩)
           refine and4 (u5 z) fun v1 v2 v3 v4=>?_
           refine⟨v1,v2,v3,fun p' hp'=>?_⟩
           rw[take_snoc hpi] at hp'
           rcases List.mem_append.mp hp' with h | h
           · exact v4 p' h
           · rw[List.mem_singleton.mp h,← v1]; exact hin
          | true=>
           refine ite_t rfl ?_
           have hnin:=ht.mp rfl
           refine WpS.cons (WpS1.expr (WpE.methB (id:="list.append") _ (WpE.sub (WpE.loc (show Lk (_::ρ₃) "spans" (.ref D) from u1) (WpE.loc (show Lk (_::ρ₃) "name" (.str r.1) from u3) ?_)))))
           refine o_item_sdict tab6.at_ k1 ⟨gets_list k2 PySem.F.slot_list_append PySem.F.type_list_append,WpEs.cons (WpE.loc rfl (WpEs.nil ?_))⟩
           refine o_append k2 (by rw[pairsM_length]; have:=small_1000 (good6.nodup r.1) (good6.small r.1) h3; exact ω110 this) ⟨rfl,?_⟩
           rw[pairsM_snoc]
           refine WpS.cons (WpS1.assign (WpE.bool (WpS.nil (WpS.nil ?_))))
           refine⟨ω55 hilt,u1,u2,u3,growSp sp r.1 p,true,tab6.grow hrk p,good6.grow hrn hnin (hFok.2 p hpF) (hFder p hpF),rfl,(fun z=>nomatch z),(fun _=>?_),(fun b mo nb e=>?_),?_,?_⟩
           · rw[total_grow hrn]
             cases mo with
             | true=>have:=u6 rfl; exact ω111 this
             | false=>have:=(u5 rfl).1; rw[this]; exact ω112
           · rw[upd_ne _ _ (fun z=>by rw[z,hfr2 _ hrn] at e; cases e)]
             exact lB6 b mo nb e
           · rw[upd_ne _ _ (Ne.symm (na3 _ hrk))]; exact e6
           · rw[upd_ne _ _ (Ne.symm (nd _ hrk))]; exact ed6
end
noncomputable abbrev Quad:=Nat×Nat×Nat×Nat
noncomputable abbrev Await:=Str×Nat
noncomputable def mvQuad (q:Quad):MV:=.tup [.int q.1,.int q.2.1,.int q.2.2.1,.int q.2.2.2]
noncomputable def quadsM (l:List Quad):List MV:=l.map mvQuad
noncomputable def mvAwait (p:Await):MV:=.tup [.str p.1,.int p.2]
noncomputable def awaitsM (l:List Await):List MV:=l.map mvAwait
noncomputable def START:Str:="S'"
structure St where
 aw:List Await
 due:List Quad
section
variable (rules:List Rule) (sp:Str→List Pair) (size:Nat)
noncomputable def stepD (i dot:Nat) (r:Rule) (b:Nat) (st:St) (p:Pair):St:=
 if p.1=b then
  ⟨if dot<r.2.length∧r.2.getD dot ""∈NAMES∧(r.2.getD dot "",p.2)∉st.aw then st.aw++[(r.2.getD dot "",p.2)] else st.aw,st.due++[(i,dot,p.1,p.2)]⟩
 else st
noncomputable def stepC (i:Nat) (r:Rule) (b:Nat) (st:St) (dot:Nat):St:=(frontAt sp size r.2 dot).foldl (stepD i dot r b) st
noncomputable def stepB (x:Str) (b:Nat) (st:St) (i:Nat):St:=match rules[i]? with
 | some r=>if r.1=x then(List.range (r.2.length+1)).foldl (stepC sp size i r b) st else st
 | none=>st
noncomputable def stepA (st:St) (k:Nat):St:=match st.aw[k]? with
 | some (x,b)=>(List.range rules.length).foldl (stepB rules sp size x b) st
 | none=>st
noncomputable def atA:Nat→St
 | 0=>⟨[(START,0)],[]⟩
 | k+1=>stepA rules sp size (atA k) k
end
structure Grown (st st':St):Prop where
 aw:∃ l,st'.aw=st.aw++l
 due:∃ l,st'.due=st.due++l
theorem Grown.refl (st:St):Grown st st:=⟨⟨[],by simp⟩,⟨[],by simp⟩⟩
theorem Grown.trans {a b c:St} (x:Grown a b) (y:Grown b c):Grown a c:=by
 obtain⟨⟨l1,h1⟩,⟨l2,h2⟩⟩:=x
 obtain⟨⟨l3,h3⟩,⟨l4,h4⟩⟩:=y
 exact⟨⟨l1++l3,by rw[h3,h1,List.append_assoc]⟩,⟨l2++l4,by rw[h4,h2,List.append_assoc]⟩⟩
theorem Grown.mem {a b:St} (x:Grown a b) {p:Await} (h:p∈a.aw):p∈b.aw:=by obtain⟨l,e⟩:=x.aw; rw[e]; exact List.mem_append_left _ h
theorem Grown.memD {a b:St} (x:Grown a b) {p:Quad} (h:p∈a.due):p∈b.due:=by obtain⟨l,e⟩:=x.due; rw[e]; exact List.mem_append_left _ h
theorem fold_grown {α:Type}{f:St→α→St} (hf:∀ st x,Grown st (f st x)):∀(l:List α) (st:St),Grown st (l.foldl f st)
 | [],st=>.refl st
 | x::l,st=>(hf st x).trans (fold_grown hf l _)
theorem stepD_grown (i dot:Nat) (r:Rule) (b:Nat) (st:St) (p:Pair):Grown st (stepD i dot r b st p):=by
 unfold stepD
 split
 · refine⟨?_,⟨_,rfl⟩⟩
   split
   · exact⟨_,rfl⟩
   · exact⟨[],by simp⟩
 · exact .refl _
theorem stepC_grown (sp:Str→List Pair) (size i:Nat) (r:Rule) (b:Nat) (st:St) (dot:Nat):Grown st (stepC sp size i r b st dot):=fold_grown (stepD_grown i dot r b) _ _
theorem stepB_grown (rules:List Rule) (sp:Str→List Pair) (size:Nat) (x:Str) (b:Nat) (st:St) (i:Nat):Grown st (stepB rules sp size x b st i):=by
 unfold stepB
 split
 · split
   · exact fold_grown (stepC_grown sp size i _ b) _ _
   · exact .refl _
 · exact .refl _
theorem stepA_grown (rules:List Rule) (sp:Str→List Pair) (size:Nat) (st:St) (k:Nat):Grown st (stepA rules sp size st k):=by
 unfold stepA
 split
 · exact fold_grown (stepB_grown rules sp size _ _) _ _
 · exact .refl _
theorem fold_inv {α:Type}{f:St→α→St}{P:St→Prop}{l:List α} (hf:∀ st,∀ x∈l,P st→P (f st x)) {st:St} (h:P st):P (l.foldl f st):=by
 induction l generalizing st with
 | nil=>exact h
 | cons x l ih=>exact ih (fun st y hy=>hf st y (List.mem_cons_of_mem _ hy)) (hf st x List.mem_cons_self h)
theorem fold_does {α:Type}{f:St→α→St}{Q:St→Prop} (hq:∀ st x,Q st→Q (f st x)) {l:List α}{x:α} (hx:x∈l) (hd:∀ st,Q (f st x)) (st:St):Q (l.foldl f st):=by
 induction l generalizing st with
 | nil=>cases hx
 | cons y l ih=>
  rw[List.foldl_cons]
  rcases List.mem_cons.mp hx with rfl | h
  · exact fold_inv (P:=Q) (fun st z _ hz=>hq st z hz) (hd st)
  · exact ih h _
section
variable {rules:List Rule}{sp:Str→List Pair}{size:Nat}
inductive Aw (rules:List Rule) (sp:Str→List Pair) (size:Nat):Str→Nat→Prop
 | start:Aw rules sp size START 0
 | step {i:Nat}{r:Rule}{b dot high:Nat}:rules[i]?=some r→Aw rules sp size r.1 b→dot<r.2.length→r.2.getD dot ""∈NAMES→(b,high)∈frontAt sp size r.2 dot→Aw rules sp size (r.2.getD dot "") high
noncomputable def Due (rules:List Rule) (sp:Str→List Pair) (size:Nat) (q:Quad):Prop:=∃ r,rules[q.1]?=some r∧Aw rules sp size r.1 q.2.2.1∧q.2.1≤r.2.length∧(q.2.2.1,q.2.2.2)∈frontAt sp size r.2 q.2.1
structure Sound (rules:List Rule) (sp:Str→List Pair) (size:Nat) (st:St):Prop where
 aw:∀ p∈st.aw,Aw rules sp size p.1 p.2
 awn:st.aw.Nodup
 due:∀ q∈st.due,Due rules sp size q
 first:st.aw[0]?=some (START,0)
theorem stepD_sound {i dot:Nat}{r:Rule}{b:Nat}{st:St}{p:Pair} (hi:rules[i]?=some r) (ha:Aw rules sp size r.1 b) (hd:dot≤r.2.length) (hp:p∈frontAt sp size r.2 dot) (s:Sound rules sp size st):Sound rules sp size (stepD i dot r b st p):=by
 unfold stepD
 split
 · rename_i e
   subst e
   have hdue:∀ q∈st.due++[(i,dot,p.1,p.2)],Due rules sp size q:=fun q hq=>by
    rcases List.mem_append.mp hq with h | h
    · exact s.due q h
    · rw[List.mem_singleton.mp h]; exact⟨r,hi,ha,hd,hp⟩
   by_cases c:dot<r.2.length∧r.2.getD dot ""∈NAMES∧(r.2.getD dot "",p.2)∉st.aw
   · rw[if_pos c]
     refine⟨fun z hz=>?_,nodup_snoc s.awn c.2.2,hdue,?_⟩
     · rcases List.mem_append.mp hz with h | h
       · exact s.aw z h
       · rw[List.mem_singleton.mp h]; exact .step hi ha c.1 c.2.1 hp
     · show(st.aw++_)[0]? = _
       rw[List.getElem?_append_left (List.getElem?_eq_some_iff.mp s.first).1]; exact s.first
   · rw[if_neg c]
     exact⟨s.aw,s.awn,hdue,s.first⟩
 · exact s
theorem stepA_sound {st:St}{k:Nat} (s:Sound rules sp size st):Sound rules sp size (stepA rules sp size st k):=by
 unfold stepA
 split
 · rename_i x b e
   have ha:=s.aw _ (List.mem_of_getElem? e)
   refine fold_inv (P:=Sound rules sp size) (fun st i hi s=>?_) s
   unfold stepB
   split
   · rename_i r hr
     split
     · rename_i hx
       refine fold_inv (P:=Sound rules sp size) (fun st dot hdot s=>?_) s
       refine fold_inv (P:=Sound rules sp size) (fun st p hp s=>?_) s
       exact stepD_sound hr (hx▸ha) (by have:=List.mem_range.mp hdot; exact ω67 this) hp s
     · exact s
   · exact s
 · exact s
theorem atA_sound:∀ k,Sound rules sp size (atA rules sp size k)
 | 0=>⟨fun p hp=>by rw[List.mem_singleton.mp hp]; exact .start,by simp[atA],fun q hq=>(by cases hq),rfl⟩
 | k+1=>stepA_sound (atA_sound k)
noncomputable def Served (rules:List Rule) (sp:Str→List Pair) (size:Nat) (p:Await) (st:St):Prop:=
 ∀ i r,rules[i]?=some r→r.1=p.1→∀ dot,dot≤r.2.length→∀ high,(p.2,high)∈frontAt sp size r.2 dot→(i,dot,p.2,high)∈st.due∧(dot<r.2.length→r.2.getD dot ""∈NAMES→(r.2.getD dot "",high)∈st.aw)
theorem Served.grown {p:Await}{a b:St} (x:Served rules sp size p a) (g:Grown a b):Served rules sp size p b:=fun i r hi hr dot hd high hh=>by
 refine and2 (x i r hi hr dot hd high hh) fun h1 h2=>?_
 exact⟨g.memD h1,fun c d=>g.mem (h2 c d)⟩
theorem stepA_serves {st:St}{k:Nat}{p:Await} (e:st.aw[k]?=some p):Served rules sp size p (stepA rules sp size st k):=by
 obtain⟨x,b⟩:=p
 intro i r hi hr dot hd high hh
 unfold stepA
 rw[e]
 refine fold_does (Q:=fun st=>(i,dot,b,high)∈st.due∧(dot<r.2.length→r.2.getD dot ""∈NAMES→(r.2.getD dot "",high)∈st.aw)) (fun st j ⟨h1,h2⟩=>?_) (List.mem_range.mpr (List.getElem?_eq_some_iff.mp hi).1) (fun st=>?_) st
 · have g:=stepB_grown rules sp size x b st j
   exact⟨g.memD h1,fun c d=>g.mem (h2 c d)⟩
 · have e2:stepB rules sp size x b st i=(List.range (r.2.length+1)).foldl (stepC sp size i r b) st:=by unfold stepB; rw[hi]; exact if_pos hr
   show(_∈(stepB rules sp size x b st i).due∧(_→_→_∈(stepB rules sp size x b st i).aw))
   rw[e2]
   refine fold_does (Q:=fun st=>(i,dot,b,high)∈st.due∧(dot<r.2.length→r.2.getD dot ""∈NAMES→(r.2.getD dot "",high)∈st.aw)) (fun st j ⟨h1,h2⟩=>?_) (l:=List.range (r.2.length+1)) (x:=dot) (List.mem_range.mpr (Nat.lt_succ_of_le hd)) (fun st=>?_) st
   · have g:=stepC_grown sp size i r b st j
     exact⟨g.memD h1,fun c d=>g.mem (h2 c d)⟩
   · refine fold_does (Q:=fun st=>(i,dot,b,high)∈st.due∧(dot<r.2.length→r.2.getD dot ""∈NAMES→(r.2.getD dot "",high)∈st.aw)) (fun st j ⟨h1,h2⟩=>?_) hh (fun st=>?_) st
     · have g:=stepD_grown i dot r b st j
       exact⟨g.memD h1,fun c d=>g.mem (h2 c d)⟩
     · unfold stepD
       rw[if_pos rfl]
       refine⟨by simp,fun c d=>?_⟩
       by_cases z:(r.2.getD dot "",high)∈st.aw
       · rw[if_neg (fun w=>w.2.2 z)]; exact z
       · rw[if_pos ⟨c,d,z⟩]; simp
theorem atA_served:∀ k j p,j<k→(atA rules sp size k).aw[j]?=some p→Served rules sp size p (atA rules sp size k)
 | 0,j,p,h,_=>absurd h (Nat.not_lt_zero _)
 | k+1,j,p,h,e=>by
  have g:=stepA_grown rules sp size (atA rules sp size k) k
  by_cases hk:j<(atA rules sp size k).aw.length
  · have e':(atA rules sp size k).aw[j]?=some p:=by
     refine ex1_1 (g.aw) fun l hl=>?_
     have:(atA rules sp size (k+1)).aw=(atA rules sp size k).aw++l:=hl
     rw[this,List.getElem?_append_left hk] at e
     exact e
    by_cases hj:j<k
    · exact(atA_served k j p hj e').grown g
    · have:j=k:=ω113 h hj
      subst this
      exact stepA_serves e'
  · have:(atA rules sp size k).aw[k]?=none:=List.getElem?_eq_none_iff.mpr (ω114 h hk)
    have e2:atA rules sp size (k+1)=atA rules sp size k:=by show stepA rules sp size _ k = _; unfold stepA; rw[this]
    rw[e2] at e
    exact absurd (List.getElem?_eq_some_iff.mp e).1 hk
theorem atA_end {k:Nat} (e:(atA rules sp size k).aw[k]?=none):∀ q,q∈(atA rules sp size k).due↔Due rules sp size q:=by
 have s:=atA_sound (rules:=rules) (sp:=sp) (size:=size) k
 have all:∀ p∈(atA rules sp size k).aw,Served rules sp size p (atA rules sp size k):=fun p hp=>by
  obtain⟨j,hj,he⟩:=List.mem_iff_getElem.mp hp
  have hlen:(atA rules sp size k).aw.length≤k:=List.getElem?_eq_none_iff.mp e
  exact atA_served k j p (ω115 hj hlen) (by rw[List.getElem?_eq_getElem hj,he])
 have haw:∀ x b,Aw rules sp size x b→(x,b)∈(atA rules sp size k).aw:=by
  intro x b h
  induction h with
  | start=>exact List.mem_of_getElem? s.first
  | step hi ha hd hn hf ih=>exact(all _ ih _ _ hi rfl _ (ω89 hd) _ hf).2 hd hn
 intro q
 constructor
 · exact s.due q
 · intro hh_
   refine ex1_4 hh_ fun r h1 h2 h3 h4=>?_
   clear hh_
   obtain⟨i,dot,low,high⟩:=q
   exact(all _ (haw _ _ h2) i r h1 rfl dot h3 high h4).1
theorem fold_nodup {α:Type}{f:St→α→St}{R:α→Quad→Prop} (disj:∀ x y q,R x q→R y q→x=y):∀{l:List α},(∀ st x,x∈l→st.due.Nodup→(∀ q∈st.due,¬ R x q)→(f st x).due.Nodup∧∀ q∈(f st x).due,q∈st.due∨R x q)→∀{st:St},l.Nodup→st.due.Nodup→(∀ x∈l,∀ q∈st.due,¬ R x q)→
 (l.foldl f st).due.Nodup∧∀ q∈(l.foldl f st).due,q∈st.due∨∃ x∈l,R x q
 | [],_,st,_,h,_=>⟨h,fun q hq=>.inl hq⟩
 | a::l,step,st,hl,h,hn=>by
  have hl':=List.nodup_cons.mp hl
  refine and2 (step st a List.mem_cons_self h (hn a List.mem_cons_self)) fun h1 h2=>?_
  obtain⟨h3,h4⟩:=fold_nodup disj (l:=l) (fun st x hx=>step st x (List.mem_cons_of_mem _ hx)) (st:=f st a) hl'.2 h1 fun x hx q hq hr=>by
   rcases h2 q hq with h | h
   · exact hn x (List.mem_cons_of_mem _ hx) q h hr
   · exact hl'.1 (disj _ _ _ h hr▸hx)
  refine⟨h3,fun q hq=>?_⟩
  rcases h4 q hq with h | ⟨x,hx,hr⟩
  · exact(h2 q h).imp id fun r=>⟨a,List.mem_cons_self,r⟩
  · exact .inr ⟨x,List.mem_cons_of_mem _ hx,hr⟩
theorem stepD_nodup (i dot:Nat) (r:Rule) (b:Nat) (st:St) (p:Pair) (h:st.due.Nodup) (n:∀ q∈st.due,¬ q=(i,dot,p.1,p.2)):(stepD i dot r b st p).due.Nodup∧∀ q∈(stepD i dot r b st p).due,q∈st.due∨(p.1=b∧q=(i,dot,p.1,p.2)):=by
 unfold stepD
 split
 · rename_i e
   refine⟨nodup_snoc h fun z=>n _ z rfl,fun q hq=>?_⟩
   rcases List.mem_append.mp hq with z | z
   · exact .inl z
   · exact .inr ⟨e,List.mem_singleton.mp z⟩
 · exact⟨h,fun q hq=>.inl hq⟩
theorem stepC_nodup (hsp:∀ x,Small size (sp x)) (i:Nat) (r:Rule) (b:Nat) (st:St) (dot:Nat) (h:st.due.Nodup) (n:∀ q∈st.due,¬ (q.1=i∧q.2.1=dot∧q.2.2.1=b)):(stepC sp size i r b st dot).due.Nodup∧∀ q∈(stepC sp size i r b st dot).due,q∈st.due∨(q.1=i∧q.2.1=dot∧q.2.2.1=b):=by
 have:=fold_nodup (f:=stepD i dot r b) (R:=fun p q=>p.1=b∧q=(i,dot,p.1,p.2)) (fun x y q ⟨_,h1⟩ ⟨_,h2⟩=>by
  rw[h1] at h2
  simp only[Prod.mk.injEq,true_and] at h2
  exact Prod.ext h2.1 h2.2) (l:=frontAt sp size r.2 dot) (fun st p _ hst hn=>by
  by_cases c:p.1=b
  · exact stepD_nodup i dot r b st p hst fun q hq e=>hn q hq ⟨c,e⟩
  · unfold stepD; rw[if_neg c]; exact⟨hst,fun q hq=>.inl hq⟩) (st:=st) (frontAt_ok hsp dot).1 h (fun p _ q hq ⟨h1,h2⟩=>n q hq (by rw[h2]; exact⟨rfl,rfl,h1⟩))
 refine⟨this.1,fun q hq=>?_⟩
 rcases this.2 q hq with z | ⟨p,_,h1,h2⟩
 · exact .inl z
 · exact .inr (by rw[h2]; exact⟨rfl,rfl,h1⟩)
theorem stepB_nodup (hsp:∀ x,Small size (sp x)) (x:Str) (b:Nat) (st:St) (i:Nat) (h:st.due.Nodup) (n:∀ q∈st.due,¬ (q.1=i∧q.2.2.1=b∧∃ r,rules[i]?=some r∧r.1=x)):(stepB rules sp size x b st i).due.Nodup∧∀ q∈(stepB rules sp size x b st i).due,q∈st.due∨(q.1=i∧q.2.2.1=b∧∃ r,rules[i]?=some r∧r.1=x):=by
 unfold stepB
 split
 · rename_i r hr
   split
   · rename_i hx
     have:=fold_nodup (f:=stepC sp size i r b) (R:=fun dot q=>q.1=i∧q.2.1=dot∧q.2.2.1=b) (fun x y q ⟨_,h1,_⟩ ⟨_,h2,_⟩=>h1.symm.trans h2) (l:=List.range (r.2.length+1)) (fun st dot _ hst hn=>stepC_nodup hsp i r b st dot hst hn) (st:=st) List.nodup_range h (fun p _ q hq ⟨h1,h2,h3⟩=>n q hq ⟨h1,h3,r,hr,hx⟩)
     refine⟨this.1,fun q hq=>?_⟩
     rcases this.2 q hq with z | ⟨p,_,h1,h2,h3⟩
     · exact .inl z
     · exact .inr ⟨h1,h3,r,hr,hx⟩
   · exact⟨h,fun q hq=>.inl hq⟩
 · exact⟨h,fun q hq=>.inl hq⟩
theorem atA_nodup (hsp:∀ x,Small size (sp x)):∀ k,(atA rules sp size k).due.Nodup∧∀ q∈(atA rules sp size k).due,∃ j p,j<k∧(atA rules sp size k).aw[j]?=some p∧p.2=q.2.2.1∧∃ r,rules[q.1]?=some r∧r.1=p.1
 | 0=>⟨List.nodup_nil,fun q hq=>nomatch hq⟩
 | k+1=>by
  refine and2 (atA_nodup hsp k) fun h1 h2=>?_
  have g:=stepA_grown rules sp size (atA rules sp size k) k
  have s:=atA_sound (rules:=rules) (sp:=sp) (size:=size) k
  have up:∀{j:Nat}{p:Await},(atA rules sp size k).aw[j]?=some p→(atA rules sp size (k+1)).aw[j]?=some p:=fun {j p} e=>by
   refine ex1_1 (g.aw) fun l hl=>?_
   have:(atA rules sp size (k+1)).aw=(atA rules sp size k).aw++l:=hl
   rw[this,List.getElem?_append_left (List.getElem?_eq_some_iff.mp e).1]; exact e
  cases e:(atA rules sp size k).aw[k]? with
  | none=>
   have e2:atA rules sp size (k+1)=atA rules sp size k:=by show stepA rules sp size _ k = _; unfold stepA; rw[e]
   rw[e2]
   exact⟨h1,fun q hq=>let ⟨j,p,a,b⟩:=h2 q hq; ⟨j,p,ω111 a,b⟩⟩
  | some p=>
   obtain⟨x,b⟩:=p
   have e2:atA rules sp size (k+1)=(List.range rules.length).foldl (stepB rules sp size x b) (atA rules sp size k):=by show stepA rules sp size _ k = _; unfold stepA; rw[e]
   have:=fold_nodup (f:=stepB rules sp size x b) (R:=fun i q=>q.1=i∧q.2.2.1=b∧∃ r,rules[i]?=some r∧r.1=x) (fun x y q ⟨h1,_⟩ ⟨h2,_⟩=>h1.symm.trans h2) (l:=List.range rules.length) (fun st i _ hst hn=>stepB_nodup hsp x b st i hst hn) (st:=atA rules sp size k) List.nodup_range h1 (fun i _ q hq ⟨h3,h4,r,h5,h6⟩=>by
    obtain⟨j,p,hj,hp,hb,r',hr',hx'⟩:=h2 q hq
    rw[h3,h5] at hr'
    cases hr'
    have hpe:p=(x,b):=Prod.ext (hx'.symm.trans h6) (hb.trans h4)
    rw[hpe] at hp
    have n:=s.awn
    rw[List.nodup_iff_pairwise_ne] at n
    have hj':=(List.getElem?_eq_some_iff.mp hp)
    have hk':=(List.getElem?_eq_some_iff.mp e)
    have:=List.pairwise_iff_getElem.mp n j k hj'.1 hk'.1 hj
    exact this (hj'.2.trans hk'.2.symm))
   rw[← e2] at this
   refine⟨this.1,fun q hq=>?_⟩
   rcases this.2 q hq with z | ⟨i,_,h3,h4,r,h5,h6⟩
   · refine ex2_3 (h2 q z) fun j p a b c=>?_
     exact⟨j,p,ω111 a,up b,c⟩
   · exact⟨k,(x,b),ω112,up e,h4.symm,r,by rw[h3]; exact h5,h6⟩
theorem aw_len {k:Nat} (hsp:∀ x,Small size (sp x)):(atA rules sp size k).aw.length≤5*(size+1):=by
 have s:=atA_sound (rules:=rules) (sp:=sp) (size:=size) k
 have hin:∀ x b,Aw rules sp size x b→x∈START::NAMES∧b≤size:=fun x b h=>by
  cases h with
  | start=>exact⟨List.mem_cons_self,Nat.zero_le _⟩
  | step hi ha hd hn hf=>exact⟨List.mem_cons_of_mem _ hn,((frontAt_ok hsp _).2 _ hf).2⟩
 have:=length_le_of_nodup (m:=(START::NAMES).flatMap fun x=>(List.range (size+1)).map fun b=>(x,b)) s.awn fun p hp=>by
  refine and2 (hin _ _ (s.aw p hp)) fun h1 h2=>?_
  rw[List.mem_flatMap]
  exact⟨p.1,h1,List.mem_map.mpr ⟨p.2,List.mem_range.mpr (ω66 h2),rfl⟩⟩
 refine Nat.le_trans this (Nat.le_of_eq ?_)
 rw[List.length_flatMap]
 simp[NAMES]
 exact ω116
end
theorem lex_tri {P Q:Prop}{x y:Nat} (h:¬ (x<y∨x=y∧P)) (h':¬ (y<x∨y=x∧Q)):x=y∧¬ P∧¬ Q:=
 have e:x=y:=Nat.le_antisymm (Nat.le_of_not_lt fun z=>h' (.inl z)) (Nat.le_of_not_lt fun z=>h (.inl z))
 ⟨e,fun p=>h (.inr ⟨e,p⟩),fun q=>h' (.inr ⟨e.symm,q⟩)⟩
theorem lex_trans {P Q R:Prop}{x y z:Nat} (h:x<y∨x=y∧P) (h':y<z∨y=z∧Q) (k:P→Q→R):x<z∨x=z∧R:=by
 rcases h with h | ⟨rfl,p⟩
 · rcases h' with h' | ⟨rfl,_⟩
   · exact .inl (Nat.lt_trans h h')
   · exact .inl h
 · exact h'.imp_right fun q=>⟨q.1,k p q.2⟩
theorem lex_all {a b:Nat×Nat×Nat×Nat} (h:¬ (a.1<b.1∨a.1=b.1∧(a.2.1<b.2.1∨a.2.1=b.2.1∧(a.2.2.1<b.2.2.1∨a.2.2.1=b.2.2.1∧a.2.2.2<b.2.2.2)))) (h':¬ (b.1<a.1∨b.1=a.1∧(b.2.1<a.2.1∨b.2.1=a.2.1∧(b.2.2.1<a.2.2.1∨b.2.2.1=a.2.2.1∧b.2.2.2<a.2.2.2)))):a=b:=
 have x1:=lex_tri h h'
 have x2:=lex_tri x1.2.1 x1.2.2
 have x3:=lex_tri x2.2.1 x2.2.2
 Prod.ext x1.1 (Prod.ext x2.1 (Prod.ext x3.1 (Nat.le_antisymm (Nat.le_of_not_lt x3.2.2) (Nat.le_of_not_lt x3.2.1))))
noncomputable def qlt (a b:Quad):Prop:=a.1<b.1∨a.1=b.1∧(a.2.1<b.2.1∨a.2.1=b.2.1∧(a.2.2.1<b.2.2.1∨a.2.2.1=b.2.2.1∧a.2.2.2<b.2.2.2))
theorem qlt_tri {a b:Quad} (h:¬ qlt a b) (h':¬ qlt b a):a=b:=lex_all h h'
noncomputable def Ordered (l:List Quad):Prop:=l.Pairwise fun a b=>¬ qlt b a
theorem ordered_unique:∀{l l':List Quad},Ordered l→Ordered l'→l.Nodup→l'.Nodup→(∀ q,q∈l↔q∈l')→l=l'
 | [],[],_,_,_,_,_=>rfl
 | [],b::l',_,_,_,_,h=>absurd ((h b).mpr List.mem_cons_self) (by simp)
 | a::l,[],_,_,_,_,h=>absurd ((h a).mp List.mem_cons_self) (by simp)
 | a::l,b::l',o,o',n,n',h=>by
  obtain⟨o1,o2⟩:=List.pairwise_cons.mp o
  obtain⟨o1',o2'⟩:=List.pairwise_cons.mp o'
  obtain⟨n1,n2⟩:=List.nodup_cons.mp n
  obtain⟨n1',n2'⟩:=List.nodup_cons.mp n'
  have hab:a=b:=by
   rcases List.mem_cons.mp ((h a).mp List.mem_cons_self) with e | ha
   · exact e
   · rcases List.mem_cons.mp ((h b).mpr List.mem_cons_self) with e | hb
     · exact e.symm
     · exact qlt_tri (o1' a ha) (o1 b hb)
  subst hab
  congr 1
  refine ordered_unique o2 o2' n2 n2' fun q=>?_
  constructor
  · intro hq
    rcases List.mem_cons.mp ((h q).mp (List.mem_cons_of_mem _ hq)) with e | w
    · exact absurd (e▸hq) n1
    · exact w
  · intro hq
    rcases List.mem_cons.mp ((h q).mpr (List.mem_cons_of_mem _ hq)) with e | w
    · exact absurd (e▸hq) n1'
    · exact w
noncomputable def SortOk (G:Gd):Prop:=∀ n μ (Φ:MV→Mem→Prop) a l,μ a=some (.list (quadsM l))→l.length≤127→l.Nodup→(∀ l':List Quad,l'.Perm l→Ordered l'→∀ c,μ c=none→Φ (.ref c) (upd μ c (.list (quadsM l'))))→WpOs G (n+1) μ [.ref a] (fun vs=>call (.builtin "sorted") vs) Φ
theorem fold_take {α:Type}{f:St→α→St} (hf:∀ st x,Grown st (f st x)) (l:List α) (k:Nat) (st:St):Grown ((l.take k).foldl f st) (l.foldl f st):=by
 have:=fold_grown hf (l.drop k) ((l.take k).foldl f st)
 rwa [← List.foldl_append,List.take_append_drop] at this
theorem range_take {n k:Nat} (h:k≤n):(List.range n).take k=List.range k:=by rw[List.take_range,Nat.min_eq_left h]
theorem fold_range {f:St→Nat→St} (hf:∀ st x,Grown st (f st x)) {k n:Nat} (h:k≤n) (st:St):Grown ((List.range k).foldl f st) ((List.range n).foldl f st):=by
 have:=fold_take hf (List.range n) k st
 rwa [range_take h] at this
theorem fold_snoc {f:St→Nat→St} (k:Nat) (st:St):(List.range (k+1)).foldl f st=f ((List.range k).foldl f st) k:=by rw[List.range_succ,List.foldl_append]; rfl
theorem Grown.len {a b:St} (g:Grown a b):a.due.length≤b.due.length:=by obtain⟨l,e⟩:=g.due; rw[e,List.length_append]; exact ω117
theorem Grown.lenA {a b:St} (g:Grown a b):a.aw.length≤b.aw.length:=by obtain⟨l,e⟩:=g.aw; rw[e,List.length_append]; exact ω117
theorem due_len {rules:List Rule}{sp:Str→List Pair}{size k:Nat} (hsp:∀ x,Small size (sp x)) (h3:size≤3) (hrl:rules.length≤10) (hrow:∀ r∈rules,r.2.length≤5):(atA rules sp size k).due.length≤960:=by
 have s:=atA_sound (rules:=rules) (sp:=sp) (size:=size) k
 have:=length_le_of_nodup (m:=(List.range 10).flatMap fun i=>(List.range 6).flatMap fun d=>(List.range 4).flatMap fun x=>(List.range 4).map fun y=>(i,d,x,y)) (atA_nodup (rules:=rules) hsp k).1 fun q hq=>by
  obtain⟨r,h1,h2,h4,h5⟩:=s.due q hq
  have hr:=List.getElem?_eq_some_iff.mp h1
  have hl:=hrow r (List.mem_of_getElem? h1)
  obtain⟨a1,a2⟩:=(frontAt_ok (r:=r.2) hsp q.2.1).2 _ h5
  simp only at a1 a2
  have hr1:=hr.1
  simp only[List.mem_flatMap,List.mem_map,List.mem_range]
  exact⟨q.1,ω118 hr1 hrl,q.2.1,ω119 hl h4,q.2.2.1,ω120 h3 a1,q.2.2.2,ω120 h3 a2,rfl⟩
 refine Nat.le_trans this (Nat.le_of_eq ?_)
 rfl
theorem quadsM_snoc (l:List Quad) (p:Quad):quadsM l++[mvQuad p]=quadsM (l++[p]):=by simp[quadsM]
theorem quadsM_length (l:List Quad):(quadsM l).length=l.length:=List.length_map _
theorem awaitsM_snoc (l:List Await) (p:Await):awaitsM l++[mvAwait p]=awaitsM (l++[p]):=by simp[awaitsM]
theorem awaitsM_length (l:List Await):(awaitsM l).length=l.length:=List.length_map _
theorem mvAwait_inj {p q:Await} (h:mvAwait p=mvAwait q):p=q:=by
 obtain⟨a,b⟩:=p; obtain⟨c,d⟩:=q
 unfold mvAwait at h
 simp only[MV.tup.injEq,List.cons.injEq,MV.str.injEq,MV.int.injEq,and_true] at h
 obtain⟨h1,h2⟩:=h
 rw[h1]; congr 1; exact ω121 h2
theorem mem_awaitsM {p:Await}{l:List Await}:mvAwait p∈awaitsM l↔p∈l:=by
 unfold awaitsM
 rw[List.mem_map]
 exact⟨fun ⟨q,h,e⟩=>mvAwait_inj e▸h,fun h=>⟨p,h,rfl⟩⟩
theorem seq_nat {d l:Nat} (h:d<l):seqIndex? (d:Int) l=some d:=by
 unfold seqIndex?
 simp only[show ¬ (d:Int)<0 by exact ω122,if_false]
 rw[if_pos (by simp; omega)]
 rfl
theorem oks_awaitsM {l:List Await} (h:∀ p∈l,PyData.strOk p.1=true):MV.oks (awaitsM l)=true:=oks_iff.mpr fun d hd=>by
 obtain⟨p,hp,rfl⟩:=List.mem_map.mp hd
 have h1:=h p hp
 simp[mvAwait,MV.ok,MV.oks,h1]
theorem await_ok {x:Str}{b:Nat} (h:PyData.strOk x=true):(mvAwait (x,b)).ok=true:=by simp[mvAwait,MV.ok,MV.oks,h]
theorem start_ok:PyData.strOk START=true:=by decide +kernel
noncomputable def FrontsAt (μ:Mem) (F:Addr) (rules:List Rule) (sp:Str→List Pair) (size k:Nat):Prop:=∃ bs:List Addr,μ F=some (.list (bs.map .ref))∧bs.length=k∧∀(i:Nat) (b:Addr) (r:Rule),bs[i]?=some b→rules[i]?=some r→ListsAt μ b (r.2.length+1) (frontAt sp size r.2)
theorem key_ok:∀ x∈KEYS,PyData.strOk x=true:=by
 unfold KEYS NAMES TOKENS
 simp only[List.mem_append,List.mem_cons,List.not_mem_nil,or_false]
 rintro x ((rfl | rfl | rfl | rfl) | (rfl | rfl | rfl | rfl)) <;> decide +kernel
theorem names_ok:MV.oks (strsM NAMES)=true:=oks_strs fun y hy=>key_ok y (List.mem_append_left _ hy)
section
variable {G:Gd}{n:Nat}{cx:Cx}{μ:Mem}{Φ:MV→Mem→Prop}
theorem c_due (g:Law G) (so:SortOk G) {ru pa:Addr}{rules:List Rule}{pl:List (List Str)} (hr:RulesAt μ ru rules) (hp:PlacesAt μ pa pl) (h3:pl.length≤3) (hrl:rules.length≤10) (hne:1≤rules.length) (hrow:∀ r∈rules,r.2.length≤5∧∀ x∈r.2,x∈KEYS) (hname:∀ r∈rules.tail,r.1∈NAMES)
 (htok:∀ t∈pl,t.length≤10∧∀ x∈t,x∈TOKENS)
 (hlen:∀(l:List Quad) sp,l.Nodup→(∀ q∈l,Due rules sp pl.length q)→(∀ x,Small pl.length (sp x))→(∀ x p,p∈sp x→Der rules pl x p)→l.length≤127)
 (q:∀ c l sp μ',μ c=none→μ' c=some (.list (quadsM l))→Ordered l→l.Nodup→(∀ x,Small pl.length (sp x))→(∀ q,q∈l↔Due rules sp pl.length q)→(∀ x p,p∈sp x→Der rules pl x p)→Closed rules pl.length sp→(∀ x∈TOKENS,sp x=tokSp pl x)→Le μ μ'→Φ (.ref c) μ') :
 WpC G (n+8) μ 346 [.ref ru,.ref pa] Φ:=by
 refine call_cells' g [("rules",.ref ru),("places",.ref pa)] [("rules",.ref ru)] ["spans","places"] (fun x=>if x="places" then some (.ref pa) else none) (fun _=>by rfl) (fun _=>by kernel_rfl) (bind2' (fun _ _=>rfl)) ?_ ?_
 · intro y hy
   have:y=("spans":Str)∨y=("places":Str):=by simpa using hy
   rcases this with rfl | rfl
   · exact⟨rfl,rfl⟩
   · exact⟨rfl,rfl⟩
 intro L' hL
 have m1:μ (L'+1)=none:=hL _ (Nat.le_succ _)
 have m2:μ (L'+1+1)=none:=hL _ (Nat.le_succ_of_le (Nat.le_succ _))
 have ne12:L'+1≠L'+1+1:=Nat.ne_of_lt (Nat.lt_succ_self _)
 show WpS G (n+7) _ (upd (upd μ (L'+1) (.cell (some (.ref pa)))) (L'+1+1) (.cell none)) _ _
 have le0:Le μ (upd (upd μ (L'+1) (.cell (some (.ref pa)))) (L'+1+1) (.cell none)):=(Le.upd m1).trans (Le.upd ((upd_ne _ _ (Ne.symm ne12)).trans m2))
 have cp0:upd (upd μ (L'+1) (.cell (some (.ref pa)))) (L'+1+1) (.cell none) (L'+1)=some (.cell (some (.ref pa))):=by rw[upd_ne _ _ ne12,upd_same]
 have cx0:upd (upd μ (L'+1) (.cell (some (.ref pa)))) (L'+1+1) (.cell none) (L'+1+1)=some (.cell none):=upd_same _ _ _
 generalize upd (upd μ (L'+1) (.cell (some (.ref pa)))) (L'+1+1) (.cell none)=μ₀ at le0 cp0 cx0
 refine WpS.cons (WpS1.assignC (c:=L'+1+1) (WpE.callG (gn__law_spans g) (gk__law_spans g) (WpEs.cons (WpE.loc rfl (WpEs.cons (WpE.cellv (.inl rfl) (c:=L'+1) rfl cp0 (WpEs.nil ?_) rfl))))) rfl)
 refine c_spans g (le0 _ _ hr) (hp.le le0) h3 hrl hne hrow hname htok fun D es adr sp μ₁ hD tab nod sml der clo tok l₁=>⟨⟨_,l₁ _ _ cx0⟩,?_⟩
 have nDx:D≠L'+1+1:=fun z=>by rw[z,cx0] at hD; cases hD
 have tab':=tab.leB (d':=none) (l₁ _ _ cx0) (LeB.upd (L'+1+1) μ₁ (.cell (some (.ref D))))
 have cp1:upd μ₁ (L'+1+1) (.cell (some (.ref D))) (L'+1)=some (.cell (some (.ref pa))):=by rw[upd_ne _ _ ne12]; exact l₁ _ _ cp0
 have cs1:upd μ₁ (L'+1+1) (.cell (some (.ref D))) (L'+1+1)=some (.cell (some (.ref D))):=upd_same _ _ _
 have le1:Le μ (upd μ₁ (L'+1+1) (.cell (some (.ref D)))):=fun b mo e=>by
  have nb:b≠L'+1+1:=fun z=>by rw[z,m2] at e; cases e
  rw[upd_ne _ _ nb]
  exact l₁ _ _ (le0 _ _ e)
 generalize upd μ₁ (L'+1+1) (.cell (some (.ref D)))=μ₂ at tab' cp1 cs1 le1
 clear tab l₁ cx0 cp0 le0
 refine WpS.cons (WpS1.assignComp [("spans",L'+1+1),("places",L'+1)] (WpIt.list (WpE.loc rfl ⟨ru,_,rfl,le1 _ _ hr,.inl ⟨_,_,_,rfl⟩,rules.length,
  (fun k ds μ'=>k≤rules.length∧(∃ bs:List Addr,ds=bs.map .ref∧bs.length=k∧∀(i:Nat) (b:Addr) (r:Rule),bs[i]?=some b→rules[i]?=some r→ListsAt μ' b (r.2.length+1) (frontAt sp pl.length r.2))∧Le μ₂ μ'),ω49 hrl,⟨ω50,⟨[],rfl,rfl,by simp⟩,Le.refl _⟩,?_⟩)) ?_)
 · rintro k ds μ' ⟨hk,⟨bs,rfl,hl,hbs⟩,l'⟩
   refine⟨hk,_,⟨_,l' _ _ (le1 _ _ hr),rfl⟩,?_⟩
   rw[List.getElem?_map]
   cases hrk:rules[k]? with
   | some r=>
    have hlt:=(List.getElem?_eq_some_iff.mp hrk).1
    have hrr:=hrow r (List.mem_of_getElem? hrk)
    refine⟨hlt,fun ρ=>WpA.tup (WpAs.cons (WpA.name (WpAs.cons (WpA.name (WpAs.nil (WpIfs.nil ?_))))))⟩
    refine ite_t rfl ?_
    refine WpE.callG (gn__law_fronts g) (gk__law_fronts g) (WpEs.cons (WpE.loc rfl (WpEs.cons ?_)))
    refine WpE.cellv (.inl rfl) (c:=L'+1+1) rfl (l' _ _ cs1) ?_ rfl
    refine WpEs.cons (WpE.callB (bn_len g) (WpEs.cons (WpE.cellv (.inl rfl) (c:=L'+1) rfl (l' _ _ cp1) (WpEs.nil ?_) rfl)))
    obtain⟨as,hb1,hb2,hb3⟩:=hp.le (le1.trans l')
    refine o_len_list hb1 (by simp; exact ω100 hb2 h3) (WpEs.nil ?_)
    have hlb:(((as.map MV.ref).length:Nat):Int)=((pl.length:Nat):Int):=by simp[hb2]
    rw[hlb]
    refine c_fronts g ((tab'.le l').spans hrr.2) sml nod h3 (by omega) fun c μ₅ hc₅ lf₅ l₅=>?_
    refine⟨ω55 hlt,⟨bs++[c],by simp,by simp[hl],fun i b r' hib hir=>?_⟩,l'.trans l₅⟩
    by_cases hi:i<bs.length
    · rw[List.getElem?_append_left hi] at hib
      exact(hbs i b r' hib hir).le l₅
    · have hik:i=k:=by
       have:=(List.getElem?_eq_some_iff.mp hib).1
       simp at this; exact ω124 this hl hi
      subst hik
      rw[List.getElem?_append_right (ω125 hl)] at hib
      have hz:i-bs.length=0:=ω126 hl
      rw[hz] at hib
      cases hib
      rw[hrk] at hir
      cases hir
      exact lf₅.lists
   | none=>
    have:k=rules.length:=by have:rules.length≤k:=List.getElem?_eq_none_iff.mp hrk; exact ω61 hk this
    subst this
    intro F hF
    have lF:Le μ₂ (upd μ' F (.list (bs.map .ref))):=l'.trans (Le.upd hF)
    have fr:FrontsAt (upd μ' F (.list (bs.map .ref))) F rules sp pl.length rules.length:=⟨bs,upd_same _ _ _,hl,fun i b r a c=>(hbs i b r a c).le (Le.upd hF)⟩
    generalize upd μ' F (.list (bs.map .ref))=μ₃ at lF fr
    have le3:Le μ μ₃:=le1.trans lF
    refine WpS.cons (WpS1.assign (WpE.list (WpEs.cons (WpE.tuple (WpEs.cons (WpE.str (WpEs.cons (WpE.int (WpEs.nil ⟨by simp,WpEs.nil ⟨by simp,fun aw haw=>?_⟩⟩)))))))))
    refine WpS.cons (WpS1.assign (WpE.list (WpEs.nil ⟨by simp,fun du hdu=>?_⟩)))
    have nad:aw≠du:=fun z=>by rw[← z,upd_same] at hdu; cases hdu
    have hdu3:μ₃ du=none:=by rwa [upd_ne _ _ (Ne.symm nad)] at hdu
    have grow:∀{μ':Mem}{b:Addr}{mo:MO},(b=aw∨b=du)→Le μ₃ μ'→Le μ₃ (upd μ' b mo):=fun {μ' b mo} hb l b' mo' e=>by
     rw[upd_ne _ _ (fun z=>by rcases hb with rfl | rfl <;> rw[z] at e <;> simp_all)]
     exact l _ _ e
    let J:St→List (Str×MV)→Mem→Prop:=fun st ρ μ'=>Lk ρ "rules" (.ref ru)∧Lk ρ "fronts" (.ref F)∧Lk ρ "awaited" (.ref aw)∧Lk ρ "due" (.ref du)∧Le μ₃ μ'∧μ' aw=some (.list (awaitsM st.aw))∧μ' du=some (.list (quadsM st.due))
    have J0:J (atA rules sp pl.length 0) [("due",.ref du),("awaited",.ref aw),("fronts",.ref F),("rules",.ref ru)] (upd (upd μ₃ aw (.list [mvAwait (START,0)])) du (.list [])):=
     ⟨rfl,rfl,rfl,rfl,grow (.inr rfl) (grow (.inl rfl) (Le.refl _)),by rw[upd_ne _ _ nad,upd_same]; rfl,by rw[upd_same]; rfl⟩
    refine WpS.cons (WpS1.for_ (WpIt.list (WpE.loc rfl ⟨aw,_,rfl,J0.2.2.2.2.2.1,.inl ⟨_,_,_,rfl⟩,5*(pl.length+1),
     (fun k ρ μ'=>k≤(atA rules sp pl.length k).aw.length∧J (atA rules sp pl.length k) ρ μ'),⟨Nat.zero_le _,J0⟩,?_⟩)))
    intro k ρ μ₄ hh
    refine and8 hh fun hk j1 j2 j3 j4 j5 j6 j7=>?_
    clear hh
    refine⟨Nat.le_trans hk (aw_len sml),_,⟨_,j6,rfl⟩,?_⟩
    unfold awaitsM
    rw[List.getElem?_map]
    cases hx:(atA rules sp pl.length k).aw[k]? with
    | none=>
     refine WpS.cons (WpS1.ret (WpE.callB (bn_sorted g) (WpEs.cons (WpE.loc (show Lk ρ "due" (.ref du) from j4) (WpEs.nil ?_)))))
     refine so _ _ _ _ _ j7 (hlen _ sp (atA_nodup sml k).1 (fun q hq=>(atA_end hx q).mp hq) sml der) (atA_nodup sml k).1 fun l' pm od c hc=>?_
     have hcμ:μ c=none:=by
      cases z:μ c with
      | none=>rfl
      | some mo=>rw[j5 _ _ (le3 _ _ z)] at hc; cases hc
     exact q c l' sp _ hcμ (upd_same _ _ _) od (pm.nodup_iff.mpr (atA_nodup sml k).1) sml (fun q=>pm.mem_iff.trans (atA_end hx q)) der clo tok (le3.trans (j5.trans (Le.upd hc)))
    | some p=>
     obtain⟨x,b⟩:=p
     have hklt:=(List.getElem?_eq_some_iff.mp hx).1
     refine⟨Nat.lt_of_lt_of_le hklt (aw_len sml),WpA.tup (WpAs.cons (WpA.name (WpAs.cons (WpA.name (WpAs.nil ?_)))))⟩
     refine WpS.abs fun Ψ₁ h₁=>?_
     have eA:atA rules sp pl.length (k+1)=(List.range rules.length).foldl (stepB rules sp pl.length x b) (atA rules sp pl.length k):=by show stepA rules sp pl.length _ k = _; unfold stepA; rw[hx]
     have lenA:k+1≤(atA rules sp pl.length (k+1)).aw.length:=Nat.le_trans hklt (stepA_grown rules sp pl.length _ k).lenA
     have dlen:=due_len (rules:=rules) (k:=k+1) sml h3 hrl fun r hr=>(hrow r hr).1
     have alen:=aw_len (rules:=rules) (k:=k+1) sml
     rw[eA] at lenA dlen alen
     have hx1:∃ y,x=y∧PyData.strOk y=true:=by
      refine⟨x,rfl,?_⟩
      have:=(atA_sound (rules:=rules) (sp:=sp) (size:=pl.length) k).aw _ (List.mem_of_getElem? hx)
      cases this with
      | start=>decide +kernel
      | step _ _ _ hn _=>exact key_ok _ (List.mem_append_left _ hn)
     have awok:∀ st,Grown st ((List.range rules.length).foldl (stepB rules sp pl.length x b) (atA rules sp pl.length k))→∀ p∈st.aw,PyData.strOk p.1=true:=fun st gs p hp=>by
      have:=gs.mem hp
      rw[← eA] at this
      have:=(atA_sound (rules:=rules) (sp:=sp) (size:=pl.length) (k+1)).aw _ this
      obtain⟨y,z⟩:=p
      generalize hy:(y,z).1=y' at this ⊢
      cases this with
      | start=>exact start_ok
      | step _ _ _ hn _=>exact key_ok _ (List.mem_append_left _ hn)
     refine WpS.cons (WpS1.for_ (WpIt.enum (bn_enumerate g) (WpE.loc (show Lk (_::_::ρ) "rules" (.ref ru) from j1) ⟨ru,_,rfl,(le3.trans j5) _ _ hr,.inl ⟨_,_,_,rfl⟩,rules.length,
      (fun j ρ μ'=>j≤rules.length∧Lk ρ "name" (.str x)∧Lk ρ "begin" (.int b)∧J ((List.range j).foldl (stepB rules sp pl.length x b) (atA rules sp pl.length k)) ρ μ'),⟨Nat.zero_le _,rfl,rfl,j1,j2,j3,j4,j5,j6,j7⟩,?_⟩)))
     clear j1 j2 j3 j4 j5 j6 j7
     intro j ρ μ₅ hh
     refine and10 hh fun hj n1 n2 j1 j2 j3 j4 j5 j6 j7=>?_
     clear hh
     refine⟨hj,_,⟨_,(le3.trans j5) _ _ hr,rfl⟩,?_⟩
     rw[List.getElem?_map]
     cases hrj:rules[j]? with
     | none=>
      have:j=rules.length:=by have:rules.length≤j:=List.getElem?_eq_none_iff.mp hrj; exact ω61 hj this
      subst this
      refine WpS.nil (h₁ _ _ _ ⟨?_,?_⟩)
      · rw[eA]; exact lenA
      · rw[eA]; exact⟨j1,j2,j3,j4,j5,j6,j7⟩
     | some r=>
      have hjlt:=(List.getElem?_eq_some_iff.mp hrj).1
      have hrr:=hrow r (List.mem_of_getElem? hrj)
      refine⟨hjlt,WpA.tup (WpAs.cons (WpA.name (WpAs.cons (WpA.name (WpAs.nil ?_)))))⟩
      refine WpS.abs fun Ψ₂ h₂=>?_
      have gB:=fold_range (stepB_grown rules sp pl.length x b) (show j+1≤rules.length from hjlt) (atA rules sp pl.length k)
      rw[fold_snoc] at gB
      refine WpS.cons (WpS1.ite (WpT.cmp (WpE.sub (WpE.loc rfl (WpE.int ?_)))))
      refine o_item_tup (j:=0) (d:=.str r.1) (by decide) (by decide) rfl rfl ?_
      refine WpE.loc (show Lk (_::_::ρ) "name" (.str x) from n1) (o_eqS ⟨_,rfl,?_⟩)
      by_cases hrx:r.1=x
      · refine ite_t (by rw[hrx]; exact beq_self_eq_true x) ?_
        have eB:∀ st,stepB rules sp pl.length x b st j=(List.range (r.2.length+1)).foldl (stepC sp pl.length j r b) st:=fun st=>by unfold stepB; rw[hrj]; exact if_pos hrx
        obtain⟨bs,f1,f2,f3⟩:=fr
        obtain⟨bj,hbj⟩:∃ bj,bs[j]?=some bj:=⟨_,List.getElem?_eq_getElem (ω103 hjlt f2)⟩
        obtain⟨cs,g1,g2,g3⟩:=f3 j bj r hbj hrj
        refine WpS.cons (WpS1.for_ (WpIt.enum (bn_enumerate g) (WpE.sub (WpE.loc (show Lk (_::_::ρ) "fronts" (.ref F) from j2) ?_))))
        refine WpE.loc rfl (o_item_list (d:=.ref bj) (j5 _ _ f1) ω34 (ω127 hjlt hrl) (by simp[hbj]) ?_)
        generalize hstB:(List.range j).foldl (stepB rules sp pl.length x b) (atA rules sp pl.length k)=stB at j6 j7 gB
        refine⟨bj,_,rfl,j5 _ _ g1,.inl ⟨_,_,_,rfl⟩,r.2.length+1,
         (fun d ρ μ'=>d≤r.2.length+1∧Lk ρ "name" (.str x)∧Lk ρ "begin" (.int b)∧Lk ρ "number" (.int j)∧Lk ρ "rule" (mvRule r)∧J ((List.range d).foldl (stepC sp pl.length j r b) stB) ρ μ'),⟨Nat.zero_le _,n1,n2,rfl,rfl,j1,j2,j3,j4,j5,j6,j7⟩,?_⟩
        rw[eB] at gB
        clear j1 j2 j3 j4 j5 j6 j7 n1 n2
        intro d ρ μ₆ hh
        refine and12 hh fun hd n1 n2 n3 n4 j1 j2 j3 j4 j5 j6 j7=>?_
        clear hh
        refine⟨hd,_,⟨_,j5 _ _ g1,rfl⟩,?_⟩
        rw[List.getElem?_map]
        cases hcd:cs[d]? with
        | none=>
         have:d=r.2.length+1:=by have:cs.length≤d:=List.getElem?_eq_none_iff.mp hcd; exact ω128 g2 this hd
         subst this
         refine WpS.nil (WpS.nil (h₂ _ _ _ ⟨hjlt,n1,n2,?_⟩))
         rw[fold_snoc,hstB,eB]
         exact⟨j1,j2,j3,j4,j5,j6,j7⟩
        | some cd=>
         have hdlt:=(List.getElem?_eq_some_iff.mp hcd).1
         refine⟨ω129 hdlt g2,WpA.tup (WpAs.cons (WpA.name (WpAs.cons (WpA.name (WpAs.nil ?_)))))⟩
         refine WpS.abs fun Ψ₃ h₃=>?_
         have hpr:=g3 d cd hcd
         have gC:=(fold_range (stepC_grown sp pl.length j r b) (show d+1≤r.2.length+1 by exact ω129 hdlt g2) stB).trans gB
         rw[fold_snoc] at gC
         generalize hstC:(List.range d).foldl (stepC sp pl.length j r b) stB=stC at j6 j7 gC
         generalize hFr:frontAt sp pl.length r.2 d=Fr at hpr
         have eC:∀ st,stepC sp pl.length j r b st d=Fr.foldl (stepD j d r b) st:=fun st=>by unfold stepC; rw[hFr]
         rw[eC] at gC
         refine WpS.cons (WpS1.for_ (WpIt.list (WpE.loc rfl ⟨cd,_,rfl,j5 _ _ hpr,.inl ⟨_,_,_,rfl⟩,Fr.length,
          (fun e ρ μ'=>e≤Fr.length∧Lk ρ "name" (.str x)∧Lk ρ "begin" (.int b)∧Lk ρ "number" (.int j)∧Lk ρ "rule" (mvRule r)∧Lk ρ "dot" (.int d)∧J ((Fr.take e).foldl (stepD j d r b) stC) ρ μ'),⟨Nat.zero_le _,n1,n2,n3,n4,rfl,j1,j2,j3,j4,j5,j6,j7⟩,?_⟩)))
         clear j1 j2 j3 j4 j5 j6 j7 n1 n2 n3 n4
         intro e ρ μ₇ hh
         refine and13 hh fun he n1 n2 n3 n4 n5 j1 j2 j3 j4 j5 j6 j7=>?_
         clear hh
         refine⟨he,_,⟨_,j5 _ _ hpr,rfl⟩,?_⟩
         rw[pairsM_get]
         cases hpe:Fr[e]? with
         | none=>
          have:e=Fr.length:=by have:Fr.length≤e:=List.getElem?_eq_none_iff.mp hpe; exact ω61 he this
          subst this
          refine WpS.nil (h₃ _ _ _ ⟨ω129 hdlt g2,n1,n2,n3,n4,?_⟩)
          rw[List.take_length] at j6 j7
          rw[fold_snoc,hstC,eC]
          exact⟨j1,j2,j3,j4,j5,j6,j7⟩
         | some p=>
          have helt:=(List.getElem?_eq_some_iff.mp hpe).1
          refine⟨helt,WpA.tup (WpAs.cons (WpA.name (WpAs.cons (WpA.name (WpAs.nil ?_)))))⟩
          refine WpS.abs fun Ψ₄ h₄=>?_
          have gD:=(fold_take (stepD_grown j d r b) Fr (e+1) stC).trans gC
          have eT:(Fr.take (e+1)).foldl (stepD j d r b) stC=stepD j d r b ((Fr.take e).foldl (stepD j d r b) stC) p:=by rw[take_snoc hpe,List.foldl_append]; rfl
          rw[eT] at gD
          generalize (Fr.take e).foldl (stepD j d r b) stC=st at j6 j7 gD eT
          have gDst:=(stepD_grown j d r b st p).trans gD
          have lenD:=((stepD_grown j d r b st p).trans gD).len
          have lenA':=((stepD_grown j d r b st p).trans gD).lenA
          refine WpS.cons (WpS1.ite (WpT.cmp (WpE.loc (show Lk (_::_::ρ) "low" (.int p.1) from rfl) (WpE.loc (show Lk (_::_::ρ) "begin" (.int b) from n2) (o_eqI ⟨_,rfl,?_⟩)))))
          by_cases hlow:p.1=b
          · refine ite_t (by rw[hlow]; exact beq_self_eq_true (b:Int)) ?_
            refine WpS.cons (WpS1.expr (WpE.methB (id:="list.append") _ (WpE.loc (show Lk (_::_::ρ) "due" (.ref du) from j4) ⟨gets_list j7 PySem.F.slot_list_append PySem.F.type_list_append,?_⟩)))
            refine WpEs.cons (WpE.tuple (WpEs.cons (WpE.loc (show Lk (_::_::ρ) "number" (.int j) from n3) (WpEs.cons (WpE.loc (show Lk (_::_::ρ) "dot" (.int d) from n5) (WpEs.cons (WpE.loc rfl (WpEs.cons (WpE.loc rfl (WpEs.nil ⟨by simp,WpEs.nil ?_⟩))))))))))
            refine o_append j7 (by rw[quadsM_length]; exact ω130 dlen lenD) ⟨rfl,?_⟩
            have eD:stepD j d r b st p=⟨if d<r.2.length∧r.2.getD d ""∈NAMES∧(r.2.getD d "",p.2)∉st.aw then st.aw++[(r.2.getD d "",p.2)] else st.aw,st.due++[(j,d,p.1,p.2)]⟩:=by unfold stepD; rw[if_pos hlow]
            have e7:quadsM st.due++[MV.tup [.int j,.int d,.int p.1,.int p.2]]=quadsM (st.due++[(j,d,p.1,p.2)]):=quadsM_snoc st.due (j,d,p.1,p.2)
            refine WpS.gen (P:=fun μ₈=>Le μ₃ μ₈∧μ₈ aw=some (.list (awaitsM st.aw))∧μ₈ du=some (.list (quadsM (st.due++[(j,d,p.1,p.2)])))) ⟨grow (.inr rfl) j5,by rw[upd_ne _ _ nad]; exact j6,by rw[← e7]; exact upd_same _ _ _⟩ ?_
            rintro μ₈ ⟨k5,k6,k7⟩
            rw[eD] at eT
            clear j5 j6 j7 gD eD
            have lrow:((strsM r.2).length:Int)=(r.2.length:Int):=by unfold strsM; rw[List.length_map]
            have fin:∀ μ₉,Le μ₈ μ₉→¬ (d<r.2.length∧r.2.getD d ""∈NAMES∧(r.2.getD d "",p.2)∉st.aw)→J ((Fr.take (e+1)).foldl (stepD j d r b) stC) (("high",.int p.2)::("low",.int p.1)::ρ) μ₉:=fun μ₉ l₉ hf=>by
             rw[eT,if_neg hf]
             exact⟨j1,j2,j3,j4,k5.trans l₉,l₉ _ _ k6,l₉ _ _ k7⟩
            refine WpS.cons (WpS1.ite (WpT.and (WpT.cmp (WpE.loc (show Lk (_::_::ρ) "dot" (.int d) from n5) (WpE.callB (bn_len g) (WpEs.cons (WpE.sub (WpE.loc (show Lk (_::_::ρ) "rule" (mvRule r) from n4) (WpE.int ?_)))))))))
            refine o_item_tup (j:=1) (d:=.tup (strsM r.2)) (by decide) (by decide) rfl rfl (WpEs.nil (o_len_tup (by unfold strsM; rw[List.length_map]; omega) (o_ltI ⟨_,rfl,?_⟩)))
            by_cases hdl:d<r.2.length
            · refine ite_t (by rw[decide_eq_true_eq]; exact ω131 lrow hdl) ?_
              have hget:(strsM r.2)[d]?=some (.str (r.2.getD d "")):=by unfold strsM; rw[List.getElem?_map]; simp[List.getD,hdl]
              have hseq:seqIndex? (d:Int) (strsM r.2).length=some d:=seq_nat (by unfold strsM; rw[List.length_map]; exact hdl)
              have hkey:r.2.getD d ""∈KEYS:=hrr.2 _ (by simp[List.getD,hdl])
              have hok:=key_ok _ hkey
              refine WpT.and (WpT.cmp (WpE.sub (WpE.sub (WpE.loc (show Lk (_::_::ρ) "rule" (mvRule r) from n4) (WpE.int ?_)))))
              refine o_item_tup (j:=1) (d:=.tup (strsM r.2)) (by decide) (by decide) rfl rfl (WpE.loc (show Lk (_::_::ρ) "dot" (.int d) from n5) ?_)
              refine o_item_tup (j:=d) ω132 (by omega) hseq hget (WpE.callG0 (gn__law_NAMES g) (gk__law_NAMES g) (c_NAMES g fun a ha=>?_))
              refine o_inL (upd_same _ _ _) names_ok (by exact hok) (by simp[MV.deep]) fun c hc=>⟨c,rfl,?_⟩
              have hc':c=true↔r.2.getD d ""∈NAMES:=hc.trans (by
               unfold strsM
               rw[List.mem_map]
               exact⟨fun ⟨y,h1,h2⟩=>by cases h2; exact h1,fun h=>⟨_,h,rfl⟩⟩)
              have l₉:Le μ₈ (upd μ₈ a (.list (strsM NAMES))):=Le.upd ha
              cases c with
              | false=>
               refine ite_f (by decide) ?_
               refine ite_f (by decide) ?_
               refine WpS.nil (WpS.nil (WpS.nil (h₄ _ _ _ ⟨ω55 helt,n1,n2,n3,n4,n5,?_⟩)))
               exact fin _ l₉ fun z=>by have:=hc'.mpr z.2.1; cases this
              | true=>
               refine ite_t rfl ?_
               refine WpT.and (WpT.cmp (WpE.tuple (WpEs.cons (WpE.sub (WpE.sub (WpE.loc (show Lk (_::_::ρ) "rule" (mvRule r) from n4) (WpE.int ?_)))))))
               refine o_item_tup (j:=1) (d:=.tup (strsM r.2)) (by decide) (by decide) rfl rfl (WpE.loc (show Lk (_::_::ρ) "dot" (.int d) from n5) ?_)
               refine o_item_tup (j:=d) ω132 (by omega) hseq hget (WpEs.cons (WpE.loc rfl (WpEs.nil ⟨by simp,WpE.loc (show Lk (_::_::ρ) "awaited" (.ref aw) from j3) ?_⟩)))
               refine o_notinL (d:=mvAwait (r.2.getD d "",p.2)) (l₉ _ _ k6) (oks_awaitsM fun p hp=>?_) (await_ok hok) (by simp[mvAwait,MV.deep,MV.deeps]) fun c2 hc2=>⟨c2,rfl,?_⟩
               · exact awok st gDst p hp
               rw[mem_awaitsM] at hc2
               cases c2 with
               | false=>
                refine ite_f (by decide) ?_
                refine ite_f (by decide) ?_
                refine WpS.nil (WpS.nil (WpS.nil (h₄ _ _ _ ⟨ω55 helt,n1,n2,n3,n4,n5,?_⟩)))
                exact fin _ l₉ fun z=>by have:=hc2.mpr z.2.2; cases this
               | true=>
                refine ite_t rfl (WpT.and_nil (ite_t rfl ?_))
                refine WpS.cons (WpS1.expr (WpE.methB (id:="list.append") _ (WpE.loc (show Lk (_::_::ρ) "awaited" (.ref aw) from j3) ⟨gets_list (l₉ _ _ k6) PySem.F.slot_list_append PySem.F.type_list_append,?_⟩)))
                refine WpEs.cons (WpE.tuple (WpEs.cons (WpE.sub (WpE.sub (WpE.loc (show Lk (_::_::ρ) "rule" (mvRule r) from n4) (WpE.int ?_))))))
                refine o_item_tup (j:=1) (d:=.tup (strsM r.2)) (by decide) (by decide) rfl rfl (WpE.loc (show Lk (_::_::ρ) "dot" (.int d) from n5) ?_)
                refine o_item_tup (j:=d) ω132 (by omega) hseq hget (WpEs.cons (WpE.loc rfl (WpEs.nil ⟨by simp,WpEs.nil ?_⟩)))
                refine o_append (l₉ _ _ k6) (by rw[awaitsM_length]; exact ω133 h3 alen lenA') ⟨rfl,?_⟩
                refine WpS.nil (WpS.nil (WpS.nil (h₄ _ _ _ ⟨ω55 helt,n1,n2,n3,n4,n5,?_⟩)))
                rw[eT,if_pos ⟨hdl,hc'.mp rfl,hc2.mp rfl⟩]
                refine⟨j1,j2,j3,j4,grow (.inl rfl) (k5.trans l₉),?_,?_⟩
                · rw[upd_same]; exact congrArg (fun l=>some (MO.list l)) (awaitsM_snoc st.aw (r.2.getD d "",p.2))
                · rw[upd_ne _ _ (Ne.symm nad)]; exact l₉ _ _ k7
            · refine ite_f (by rw[decide_eq_true_eq]; exact ω134 lrow hdl) ?_
              refine ite_f (by decide) ?_
              refine WpS.nil (WpS.nil (WpS.nil (h₄ _ _ _ ⟨ω55 helt,n1,n2,n3,n4,n5,?_⟩)))
              exact fin _ (Le.refl _) fun z=>hdl z.1
          · refine ite_f (by rw[beq_iff_eq]; exact ω135 hlow) ?_
            refine WpS.nil (WpS.nil (h₄ _ _ _ ⟨ω55 helt,n1,n2,n3,n4,n5,?_⟩))
            have:stepD j d r b st p=st:=by unfold stepD; rw[if_neg hlow]
            rw[eT,this]
            exact⟨j1,j2,j3,j4,j5,j6,j7⟩
      · refine ite_f (by rw[beq_iff_eq]; exact hrx) ?_
        refine WpS.nil (WpS.nil (h₂ _ _ _ ⟨hjlt,n1,n2,?_⟩))
        have eB:∀ st,stepB rules sp pl.length x b st j=st:=fun st=>by unfold stepB; rw[hrj]; exact if_neg hrx
        rw[fold_snoc,eB]
        exact⟨j1,j2,j3,j4,j5,j6,j7⟩
 · intro env _ h
   obtain⟨sc,lo,gl,ce,qu,fu,co,fr,bu⟩:=env
   simp only at h
   subst h
   rfl
end
noncomputable def IDENT:Str:="abcdefghijklmnopqrstuvwxyzABCDEFGHIJKLMNOPQRSTUVWXYZ0123456789_-"
noncomputable def IDS:List Str:=["S","A","B","N","a","b","error"]
section
variable {G:Gd}{n:Nat}{cx:Cx}{μ:Mem}{Φ:MV→Mem→Prop}
theorem gn_IDENT (g:Law G):∃ t,nsIn G.K mainGlobals "_IDENTIFIER" = some (some (.str IDENT t)):=⟨222,glob_of g fun _=>by kernel_rfl⟩
theorem ids_ascii:∀ x∈IDS,x.cps.all (· < 128)=true:=by decide +kernel
theorem ids_len:∀ x∈IDS,0<x.length∧x.length≤5:=by decide +kernel
theorem ids_in:∀ x∈IDS,∀ k<5,∀ c,x.cps[k]?=some c→(!(Builtin.Str.occurrences IDENT ⟨#[c]⟩ 0 IDENT.length 1).isEmpty)=true:=by
 intro x hx k hk c hc
 have:∀ x∈IDS,∀ c∈x.cps.toList,(!(Builtin.Str.occurrences IDENT ⟨#[c]⟩ 0 IDENT.length 1).isEmpty)=true:=by decide +kernel
 exact this x hx c (by have:=Array.mem_of_getElem? hc; simpa using this)
theorem c_ident (g:Law G) {x:Str} (hx:x∈IDS) (q:∀ μ',Le μ μ'→Φ (.bool true) μ'):WpC G (n+4) μ 39 [.str x] Φ:=by
 obtain⟨t,ht⟩:=gn_IDENT g
 refine call_plain' g [("s",.str x)] (fun _=>by rfl) (fun _=>by kernel_rfl) (bind1 (fun _=>rfl)) ?_
 refine WpS.cons (WpS1.ret (WpE.andE (WpE.cmp (WpE.callB (bn_len g) (WpEs.cons (WpE.loc rfl (WpEs.nil ?_)))))))
 refine o_len_str (by have:=(ids_len x hx).2; exact ω136 this) (WpE.int (o_gtI (o_truthB ?_)))
 refine ite_t (by have:=(ids_len x hx).1; rw[decide_eq_true_eq]; exact ω137 this) ?_
 refine WpE.and1 (WpE.callB (bn_all g) (WpEs.cons ?_))
 refine WpE.comp [] (WpIt.str (WpE.loc rfl ⟨x,rfl,ids_ascii x hx,.inr ⟨rfl,fun _ _=>rfl⟩,x.length,(fun k ds μ'=>k≤x.length∧ds=(List.replicate k true).map .bool∧μ'=μ),by have:=(ids_len x hx).2; exact ω138 this,⟨ω50,rfl,rfl⟩,?_⟩)) (closure_nil (by rfl))
 rintro k ds μ' ⟨hk,rfl,rfl⟩
 refine⟨hk,_,rfl,?_⟩
 cases hc:x.cps[k]? with
 | some c=>
  have hlt:k<x.length:=(Array.getElem?_eq_some_iff.mp hc).1
  refine⟨hlt,fun ρ=>WpA.name (WpIfs.nil ?_)⟩
  refine ite_t rfl (WpE.cmp (WpE.loc rfl (WpE.globS ht (o_inS ⟨ω55 hlt,?_,rfl⟩))))
  rw[ids_in x hx k (by have:=(ids_len x hx).2; exact ω139 hlt this) c hc,List.replicate_succ']
  simp
 | none=>
  intro a ha
  refine WpEs.nil (o_all (bs:=List.replicate k true) (upd_same _ _ _) ?_)
  have:(List.replicate k true).all id=true:=by simp
  rw[this]
  exact q _ (Le.upd ha)
theorem c_literal (g:Law G) (q:Φ (.str ".") μ):WpC G (n+2) μ 46 [.str "'.'"] Φ:=by
 refine call_plain' g [("s",.str "'.'")] (fun _=>by rfl) (fun _=>by kernel_rfl) (bind1 (fun _=>rfl)) ?_
 refine WpS.cons (WpS1.ite (WpT.or (WpT.cmp (WpE.callB (bn_len g) (WpEs.cons (WpE.loc rfl (WpEs.nil ?_)))))))
 refine o_len_str (by decide +kernel) (WpE.int (o_ltI ⟨_,rfl,?_⟩))
 refine ite_f (by decide +kernel) ?_
 refine WpT.or (WpT.cmp (WpE.sub (WpE.loc rfl (WpE.int ?_))))
 refine o_item_str (c:=39) (by decide) (by decide +kernel) ?_
 refine WpE.sub (WpE.loc rfl (WpE.neg (k:=1) (WpE.int ⟨1,rfl,?_⟩)))
 refine o_item_str (c:=39) (by decide) (by decide +kernel) (o_neqS ⟨_,rfl,?_⟩)
 refine ite_f (by decide +kernel) ?_
 refine WpT.or (WpT.cmp (WpE.sub (WpE.loc rfl (WpE.int ?_))))
 refine o_item_str (c:=39) (by decide) (by decide +kernel) ?_
 refine WpE.sliceS (WpE.loc rfl (WpE.int (WpE.neg (k:=1) (WpE.int ⟨1,rfl,⟨_,_,_,rfl,rfl,rfl,by decide +kernel,?_⟩⟩))))
 refine o_inS ⟨_,rfl,?_⟩
 refine ite_f (by decide +kernel) ?_
 refine WpT.or (WpT.cmp (WpE.str (WpE.loc rfl (o_inS ⟨_,rfl,?_⟩))))
 refine ite_f (by decide +kernel) ?_
 refine WpT.or (WpT.cmp (WpE.str (WpE.loc rfl (o_inS ⟨_,rfl,?_⟩))))
 refine ite_f (by decide +kernel) ?_
 refine WpT.or_nil (ite_f (by decide) (WpS.nil ?_))
 refine WpS.cons (WpS1.ret ?_)
 refine WpE.sliceS (WpE.loc rfl (WpE.int (WpE.neg (k:=1) (WpE.int ⟨1,rfl,⟨_,_,_,rfl,rfl,rfl,by decide +kernel,?_⟩⟩))))
 have:Txt.slice "'.'" (some 1) (some (-1))=".":=by decide +kernel
 show Φ (.str (Txt.slice "'.'" (some 1) (some (-1)))) μ
 rw[this]
 exact q
end
section
variable {G:Gd}{n:Nat}{cx:Cx}{μ:Mem}{Φ:MV→Mem→Prop}
theorem WpS1.augsub {sc:Scope}{cl:List (Str×Addr)}{ρ0:List (Str×MV)}{x:Str}{p' pos:Pos}{e:Expr}{a b:Int}{Φ:MF→List (Str×MV)→Mem→Prop} (ha:ρ0.lookup x=some (.int a)) (p:WpE G n ⟨sc,cl,ρ0⟩ μ e (AugK ρ0 x (a-b) b Φ)) (hx:sc.names.lookup x=some .local:=by rfl):WpS1 G n ⟨sc,cl,ρ0⟩ μ (.AugAssign (.Name x p') .Sub e pos) Φ:=fun A h₀ env s H=>by
 obtain⟨m,hn,hm⟩:=id H.loc
 obtain⟨v,hv,r⟩:=hm x _ ha
 obtain⟨t,rfl⟩:=r.isInt
 refine wpAny_AugAssign_Name (wpAny_loadName_local H.eok.kind (by unfold Env.kindOf; rw[H.eok.scope]; exact hx) hn hv (wpAny_mono (p A env h₀ _ env s H.here) (fun v s₁ q=>?_) fun _ _ f=>f))
 refine q.elim fun d μ₁ h₁ tk₁ x₁ S₁ r₁ qq=>?_
 obtain⟨rfl,q₁⟩:=qq
 obtain⟨u,rfl⟩:=r₁.isInt
 refine PyProof.Rows.isub_int ?_
 exact store_local (s:={ s with heap:=h₁,toks:=tk₁+1 }) (H.ext x₁ S₁) (.int _ _) hx fun h₂ hs₂ l₂ S₂=>(PostS.stored (tk:=tk₁+1+1) (s:={ s with heap:=h₁,toks:=tk₁+1 }) (H.ext x₁ S₁) hs₂ l₂ S₂ q₁).after (x₁.b _)
theorem strsM_get {r:List Str}{k:Nat} (h:k<r.length):(strsM r)[k]?=some (.str (r.getD k "")):=by unfold strsM; rw[List.getElem?_map]; simp[List.getD,h]
theorem strsM_length (r:List Str):(strsM r).length=r.length:=List.length_map _
theorem c_rightmost (g:Law G) {sy te:Addr}{r:List Str}{es:List (Str×MV)} (hs:μ sy=some (.list (strsM r))) (ht:μ te=some (.sdict es)) (hl:r.length≤1000) (q:∀ d,(d=.none∨∃ x,d=.str x)→Φ d μ):WpC G (n+3) μ 146 [.ref sy,.ref te] Φ:=by
 refine call_plain' g [("symbols",.ref sy),("terminals",.ref te)] (fun _=>by rfl) (fun _=>by kernel_rfl) (bind2 (fun _ _=>rfl)) ?_
 refine WpS.cons (WpS1.assign (WpE.bin (WpE.callB (bn_len g) (WpEs.cons (WpE.loc rfl (WpEs.nil ?_))))))
 refine o_len_list hs (by rw[strsM_length]; exact ω140 hl) (WpE.int (o_sub ?_))
 rw[strsM_length]
 refine WpS.cons (WpS1.while_ (fun m ρ μ'=>μ'=μ∧Lk ρ "symbols" (.ref sy)∧Lk ρ "terminals" (.ref te)∧∃ i:Int,Lk ρ "i" (.int i)∧-1≤i∧i<r.length∧m=(i+1).toNat) r.length
  ⟨rfl,rfl,rfl,(r.length:Int)-1,rfl,ω141,ω142,by rw[Int.sub_add_cancel,Int.toNat_natCast]⟩ ?_)
 rintro m ρ μ' ⟨rfl,l1,l2,i,l3,h1,h2,rfl⟩
 refine WpT.cmp (WpE.loc l3 (WpE.int (o_geI ⟨_,rfl,?_⟩)))
 by_cases hi:0≤i
 · refine ite_t (by rw[decide_eq_true_eq]; exact hi) ?_
   have hget:(strsM r)[i.toNat]?=some (.str (r.getD i.toNat "")):=strsM_get ((Int.toNat_lt hi).mpr h2)
   refine WpS.cons (WpS1.ite (WpT.cmp (WpE.sub (WpE.loc l1 (WpE.loc l3 ?_)))))
   refine o_item_list hs hi (ω144 h2 hl) hget (WpE.loc l2 (o_inD ht ⟨_,rfl,?_⟩))
   cases (atM es (r.getD i.toNat "")).isSome with
   | true=>
    refine ite_t rfl (WpS.cons (WpS1.ret (WpE.sub (WpE.loc l1 (WpE.loc l3 ?_)))))
    exact o_item_list hs hi (ω144 h2 hl) hget (q _ (.inr ⟨_,rfl⟩))
   | false=>
    refine ite_f (by decide) (WpS.nil ?_)
    refine WpS.cons (WpS1.augsub (show Lk ρ "i" (.int i) from l3) (WpE.int ⟨rfl,WpS.nil ⟨i.toNat,by rw[Int.toNat_add hi (by decide)]; exact Nat.lt_succ_self _,rfl,l1,l2,i-1,rfl,ω146 hi,ω147 h2,by rw[Int.sub_add_cancel]⟩⟩))
 · refine ite_f (by rw[decide_eq_true_eq]; exact hi) ?_
   exact WpS.cons (WpS1.ret (WpE.none (q _ (.inl rfl))))
end
section
variable {G:Gd}{n:Nat}{cx:Cx}{μ:Mem}{Φ:MV→Mem→Prop}
noncomputable def getsOk (K:Frag) (C:Addr) (x:Str):Bool:=plainGet K C x && hasDictIn K C && (match findIn K (.ref C) x with | some a=>noGet K a | none=>false)
theorem getOk_of {K:Frag}{C:Addr}{x:Str} (h:getsOk K C x=true):GetOk K C x:=by
 unfold getsOk at h
 rw[Bool.and_eq_true,Bool.and_eq_true] at h
 obtain⟨⟨h1,h2⟩,h3⟩:=h
 refine⟨h1,h2,?_⟩
 cases e:findIn K (.ref C) x with
 | none=>rw[e] at h3; cases h3
 | some a=>rw[e] at h3; exact⟨a,rfl,h3⟩
theorem gP_name (g:Law G):GetOk G.K 100 "name":=getOk_of (by rw[g]; kernel_rfl)
theorem sP_name (g:Law G):SetOk G.K 100 "name":=by rw[g]; exact⟨by kernel_rfl,by kernel_rfl,by kernel_rfl,by kernel_rfl⟩
theorem gP_prod (g:Law G):GetOk G.K 100 "prod":=getOk_of (by rw[g]; kernel_rfl)
theorem sP_prod (g:Law G):SetOk G.K 100 "prod":=by rw[g]; exact⟨by kernel_rfl,by kernel_rfl,by kernel_rfl,by kernel_rfl⟩
theorem gP_number (g:Law G):GetOk G.K 100 "number":=getOk_of (by rw[g]; kernel_rfl)
theorem sP_number (g:Law G):SetOk G.K 100 "number":=by rw[g]; exact⟨by kernel_rfl,by kernel_rfl,by kernel_rfl,by kernel_rfl⟩
theorem sP_func (g:Law G):SetOk G.K 100 "func":=by rw[g]; exact⟨by kernel_rfl,by kernel_rfl,by kernel_rfl,by kernel_rfl⟩
theorem sP_callable (g:Law G):SetOk G.K 100 "callable":=by rw[g]; exact⟨by kernel_rfl,by kernel_rfl,by kernel_rfl,by kernel_rfl⟩
theorem sP_file (g:Law G):SetOk G.K 100 "file":=by rw[g]; exact⟨by kernel_rfl,by kernel_rfl,by kernel_rfl,by kernel_rfl⟩
theorem sP_line (g:Law G):SetOk G.K 100 "line":=by rw[g]; exact⟨by kernel_rfl,by kernel_rfl,by kernel_rfl,by kernel_rfl⟩
theorem sP_prec (g:Law G):SetOk G.K 100 "prec":=by rw[g]; exact⟨by kernel_rfl,by kernel_rfl,by kernel_rfl,by kernel_rfl⟩
theorem sP_len (g:Law G):SetOk G.K 100 "len":=by rw[g]; exact⟨by kernel_rfl,by kernel_rfl,by kernel_rfl,by kernel_rfl⟩
theorem gP_usyms (g:Law G):GetOk G.K 100 "usyms":=getOk_of (by rw[g]; kernel_rfl)
theorem sP_usyms (g:Law G):SetOk G.K 100 "usyms":=by rw[g]; exact⟨by kernel_rfl,by kernel_rfl,by kernel_rfl,by kernel_rfl⟩
theorem sP_lr_items (g:Law G):SetOk G.K 100 "lr_items":=by rw[g]; exact⟨by kernel_rfl,by kernel_rfl,by kernel_rfl,by kernel_rfl⟩
theorem gP_lr_next (g:Law G):GetOk G.K 100 "lr_next":=getOk_of (by rw[g]; kernel_rfl)
theorem sP_lr_next (g:Law G):SetOk G.K 100 "lr_next":=by rw[g]; exact⟨by kernel_rfl,by kernel_rfl,by kernel_rfl,by kernel_rfl⟩
theorem sP_str (g:Law G):SetOk G.K 100 "str":=by rw[g]; exact⟨by kernel_rfl,by kernel_rfl,by kernel_rfl,by kernel_rfl⟩
theorem gI_name (g:Law G):GetOk G.K 135 "name":=getOk_of (by rw[g]; kernel_rfl)
theorem sI_name (g:Law G):SetOk G.K 135 "name":=by rw[g]; exact⟨by kernel_rfl,by kernel_rfl,by kernel_rfl,by kernel_rfl⟩
theorem gI_prod (g:Law G):GetOk G.K 135 "prod":=getOk_of (by rw[g]; kernel_rfl)
theorem sI_prod (g:Law G):SetOk G.K 135 "prod":=by rw[g]; exact⟨by kernel_rfl,by kernel_rfl,by kernel_rfl,by kernel_rfl⟩
theorem gI_number (g:Law G):GetOk G.K 135 "number":=getOk_of (by rw[g]; kernel_rfl)
theorem sI_number (g:Law G):SetOk G.K 135 "number":=by rw[g]; exact⟨by kernel_rfl,by kernel_rfl,by kernel_rfl,by kernel_rfl⟩
theorem gI_lr_index (g:Law G):GetOk G.K 135 "lr_index":=getOk_of (by rw[g]; kernel_rfl)
theorem sI_lr_index (g:Law G):SetOk G.K 135 "lr_index":=by rw[g]; exact⟨by kernel_rfl,by kernel_rfl,by kernel_rfl,by kernel_rfl⟩
theorem sI_lookaheads (g:Law G):SetOk G.K 135 "lookaheads":=by rw[g]; exact⟨by kernel_rfl,by kernel_rfl,by kernel_rfl,by kernel_rfl⟩
theorem sI_len (g:Law G):SetOk G.K 135 "len":=by rw[g]; exact⟨by kernel_rfl,by kernel_rfl,by kernel_rfl,by kernel_rfl⟩
theorem sI_usyms (g:Law G):SetOk G.K 135 "usyms":=by rw[g]; exact⟨by kernel_rfl,by kernel_rfl,by kernel_rfl,by kernel_rfl⟩
theorem gI_lr_after (g:Law G):GetOk G.K 135 "lr_after":=getOk_of (by rw[g]; kernel_rfl)
theorem sI_lr_after (g:Law G):SetOk G.K 135 "lr_after":=by rw[g]; exact⟨by kernel_rfl,by kernel_rfl,by kernel_rfl,by kernel_rfl⟩
theorem gI_lr_before (g:Law G):GetOk G.K 135 "lr_before":=getOk_of (by rw[g]; kernel_rfl)
theorem sI_lr_before (g:Law G):SetOk G.K 135 "lr_before":=by rw[g]; exact⟨by kernel_rfl,by kernel_rfl,by kernel_rfl,by kernel_rfl⟩
theorem gI_lr_next (g:Law G):GetOk G.K 135 "lr_next":=getOk_of (by rw[g]; kernel_rfl)
theorem sI_lr_next (g:Law G):SetOk G.K 135 "lr_next":=by rw[g]; exact⟨by kernel_rfl,by kernel_rfl,by kernel_rfl,by kernel_rfl⟩
theorem gR_Productions (g:Law G):GetOk G.K 283 "Productions":=getOk_of (by rw[g]; kernel_rfl)
theorem sR_Productions (g:Law G):SetOk G.K 283 "Productions":=by rw[g]; exact⟨by kernel_rfl,by kernel_rfl,by kernel_rfl,by kernel_rfl⟩
theorem gR_Prodnames (g:Law G):GetOk G.K 283 "Prodnames":=getOk_of (by rw[g]; kernel_rfl)
theorem sR_Prodnames (g:Law G):SetOk G.K 283 "Prodnames":=by rw[g]; exact⟨by kernel_rfl,by kernel_rfl,by kernel_rfl,by kernel_rfl⟩
theorem gR_Prodmap (g:Law G):GetOk G.K 283 "Prodmap":=getOk_of (by rw[g]; kernel_rfl)
theorem sR_Prodmap (g:Law G):SetOk G.K 283 "Prodmap":=by rw[g]; exact⟨by kernel_rfl,by kernel_rfl,by kernel_rfl,by kernel_rfl⟩
theorem gR_Terminals (g:Law G):GetOk G.K 283 "Terminals":=getOk_of (by rw[g]; kernel_rfl)
theorem sR_Terminals (g:Law G):SetOk G.K 283 "Terminals":=by rw[g]; exact⟨by kernel_rfl,by kernel_rfl,by kernel_rfl,by kernel_rfl⟩
theorem gR_Nonterminals (g:Law G):GetOk G.K 283 "Nonterminals":=getOk_of (by rw[g]; kernel_rfl)
theorem sR_Nonterminals (g:Law G):SetOk G.K 283 "Nonterminals":=by rw[g]; exact⟨by kernel_rfl,by kernel_rfl,by kernel_rfl,by kernel_rfl⟩
theorem sR_First (g:Law G):SetOk G.K 283 "First":=by rw[g]; exact⟨by kernel_rfl,by kernel_rfl,by kernel_rfl,by kernel_rfl⟩
theorem sR_Follow (g:Law G):SetOk G.K 283 "Follow":=by rw[g]; exact⟨by kernel_rfl,by kernel_rfl,by kernel_rfl,by kernel_rfl⟩
theorem gR_Precedence (g:Law G):GetOk G.K 283 "Precedence":=getOk_of (by rw[g]; kernel_rfl)
theorem sR_Precedence (g:Law G):SetOk G.K 283 "Precedence":=by rw[g]; exact⟨by kernel_rfl,by kernel_rfl,by kernel_rfl,by kernel_rfl⟩
theorem sR_UsedPrecedence (g:Law G):SetOk G.K 283 "UsedPrecedence":=by rw[g]; exact⟨by kernel_rfl,by kernel_rfl,by kernel_rfl,by kernel_rfl⟩
theorem sR_Start (g:Law G):SetOk G.K 283 "Start":=by rw[g]; exact⟨by kernel_rfl,by kernel_rfl,by kernel_rfl,by kernel_rfl⟩
theorem mkP (g:Law G):makesIn G.K 100=true:=by rw[g]; kernel_rfl
theorem inP (g:Law G):findIn G.K (.ref 100) "__init__" = some (some (.ref 62)):=by rw[g]; kernel_rfl
theorem tyP (g:Law G):typeIn G.K (.ref 62)=some (.type "function"):=by rw[g]; kernel_rfl
theorem mkI (g:Law G):makesIn G.K 135=true:=by rw[g]; kernel_rfl
theorem inI (g:Law G):findIn G.K (.ref 135) "__init__" = some (some (.ref 118)):=by rw[g]; kernel_rfl
theorem tyI (g:Law G):typeIn G.K (.ref 118)=some (.type "function"):=by rw[g]; kernel_rfl
theorem mkR (g:Law G):makesIn G.K 283=true:=by rw[g]; kernel_rfl
theorem inR (g:Law G):findIn G.K (.ref 283) "__init__" = some (some (.ref 172)):=by rw[g]; kernel_rfl
theorem tyR (g:Law G):typeIn G.K (.ref 172)=some (.type "function"):=by rw[g]; kernel_rfl
theorem mg_add_production (g:Law G):plainGet G.K 283 "add_production" = true:=by rw[g]; kernel_rfl
theorem mf_add_production (g:Law G):findIn G.K (.ref 283) "add_production" = some (some (.ref 201)):=by rw[g]; kernel_rfl
theorem mt_add_production (g:Law G):isFn G.K (.ref 201)=true:=by rw[g]; kernel_rfl
theorem gk_add_production (g:Law G):keepIn G.K (.ref 201)=true:=keep_of g fun _=>by kernel_rfl
theorem mg_set_start (g:Law G):plainGet G.K 283 "set_start" = true:=by rw[g]; kernel_rfl
theorem mf_set_start (g:Law G):findIn G.K (.ref 283) "set_start" = some (some (.ref 209)):=by rw[g]; kernel_rfl
theorem mt_set_start (g:Law G):isFn G.K (.ref 209)=true:=by rw[g]; kernel_rfl
theorem gk_set_start (g:Law G):keepIn G.K (.ref 209)=true:=keep_of g fun _=>by kernel_rfl
theorem mg_build_lritems (g:Law G):plainGet G.K 283 "build_lritems" = true:=by rw[g]; kernel_rfl
theorem mf_build_lritems (g:Law G):findIn G.K (.ref 283) "build_lritems" = some (some (.ref 280)):=by rw[g]; kernel_rfl
theorem mt_build_lritems (g:Law G):isFn G.K (.ref 280)=true:=by rw[g]; kernel_rfl
theorem gk_build_lritems (g:Law G):keepIn G.K (.ref 280)=true:=keep_of g fun _=>by kernel_rfl
theorem noBool (g:Law G):findIn G.K (.ref 135) "__bool__" = some Option.none:=by rw[g]; kernel_rfl
theorem noLen (g:Law G):findIn G.K (.ref 135) "__len__" = some Option.none:=by rw[g]; kernel_rfl
theorem hasLen (g:Law G):findIn G.K (.ref 100) "__len__" = some (some (.ref 83)):=by rw[g]; kernel_rfl
theorem WpC.off {f:Addr}{args:List MV} (p:(∀ a o,G.K.lookup a=some o→μ a=none)→WpC G n μ f args Φ):WpC G n μ f args Φ:=fun A fenv h₀ L s am i vs rs=>
 p (fun a o ho=>by
  cases z:μ a with
  | none=>rfl
  | some mo=>
   have:=(i.off a (by rw[z]; exact fun w=>nomatch w)).1
   rw[am.kin a o ho] at this; cases this) A fenv h₀ L s am i vs rs
end
section
variable {G:Gd}{n:Nat}{cx:Cx}{μ:Mem}{Φ:MV→Mem→Prop}
noncomputable def Shows (μ:Mem) (d:MV) (z:Str):Prop:=d=.str z∨∃ l ys,d=.ref l∧μ l=some (.list (strsM ys))∧(∀ y∈ys,PyData.strOk y=true)∧z=showL ys
theorem WpE.fv {e:Expr}{pos:Pos} (p:WpE G n cx μ e fun d μ₁=>∃ z,Shows μ₁ d z∧z.length≤1000∧Φ (.str z) μ₁) (h1n:1≤n:=by exact Nat.succ_pos _):WpE G n cx μ (.FormattedValue e 115 Option.none pos) Φ:=fun A fenv h₀ L env s H=>by
 rw[arm_eval_FormattedValue]
 refine wpAny_bind (wpAny_mono (p A fenv h₀ L env s H) (fun v s₁ q=>?_) fun _ _ f=>f)
 refine q.elim fun d μ₁ h₁ tk₁ x₁ S₁ r₁ qq=>?_
 clear q
 obtain⟨z,sh,hz,q⟩:=qq
 refine wpAny_bind (wpAny_standAt ?_)
 have hz':z.length≤sizeLine:=by rw[sizeLine_eq]; exact ω110 hz
 have am:=(H.ext x₁ S₁).amb
 rcases sh with rfl | ⟨l,ys,rfl,el,hok,rfl⟩
 · obtain⟨t,rfl⟩:=r₁.isStr
   show wpAny _ _ (do let v' ← holding [.str z t] (habitSame "fstring-hands-on-the-str" (.str z t)); formatField v' Str.empty) _ _ _
   refine wpAny_bind (wpAny_holding (habitSame_str (fun t' tk=>?_) hz'))
   exact PyProof.Rows.formatField_str (fun t2 tk2=>⟨_,μ₁,h₁,tk2,rfl,x₁,S₁,.str _ _,q⟩) hz'
 · rw[r₁.isRef]
   show wpAny _ _ (do let v' ← holding [.ref l] (pyStrObj (.ref l)); formatField v' Str.empty) _ _ _
   unfold strsM at el
   obtain⟨ws,m2,g2,rl⟩:=S₁ l _ el
   have hr:Reads h₁ (.ref l) (.list (ys.map .str)) (l::[]):=.list g2 rfl rfl (by have:=rl.reads (oks_strs hok); rw[dats_strs] at this; simpa using this)
   have hs:(PyData.list (ys.map .str)).showable=true:=by simp only[PyData.showable]; exact showable_strs ys
   have hd:(PyData.list (ys.map .str)).hasDict=false:=PyData.hasDict_of_canLay _ (by
    have:=dats_lay (oks_strs hok); rw[dats_strs] at this
    simp only[PyData.canLay0]; exact this)
   refine wpAny_bind (wpAny_holding (pyStrObj_of_reads hr hs (fun z=>by rw[hd] at z; cases z) am.grd ?_ (fun _ _ e=>e) (fun h' u tk' hk=>?_) hz'))
   · simp only[PyData.depth,depth_strs]
     have:=am.uns; exact ω148 h1n this
   · exact PyProof.Rows.formatField_str (fun t2 tk2=>((post_keep (tk:=tk2) (s:={ s with heap:=h₁,toks:=tk₁ }) S₁ hk (.str _ _) q).after x₁)) hz'
theorem WpE.joined3 {a b c:Expr}{pos:Pos} (p:WpE G n cx μ a fun d μ₁=>∃ x,d=.str x∧x.length≤1000∧WpE G n cx μ₁ b fun d2 μ₂=>∃ y,d2=.str y∧y.length≤1000∧WpE G n cx μ₂ c fun d3 μ₃=>∃ z,d3=.str z∧z.length≤1000∧Φ (.str (x++y++z)) μ₃):WpE G n cx μ (.JoinedStr [a,b,c] pos) Φ:=fun A fenv h₀ L env s H=>by
 refine wpAny_JoinedStr ?_
 show wpAny _ _ (eval a env) _ _ s
 refine wpAny_mono (p A fenv h₀ L env s H) (fun v s₁ q=>?_) fun _ _ f=>f
 refine q.elim fun d μ₁ h₁ tk₁ x₁ S₁ r₁ qq=>?_
 clear q
 obtain⟨x,rfl,hx,q⟩:=qq
 obtain⟨t1,rfl⟩:=r₁.isStr
 have e0:Str.empty++x=x:=by show Str.mk (#[]++x.cps)=x; simp
 refine⟨x,t1,rfl,by rw[e0,sizeLine_eq]; exact ω110 hx,?_⟩
 rw[e0]
 show wpAny _ _ (eval b env) _ _ _
 refine wpAny_mono (q A fenv h₀ L env _ (H.ext x₁ S₁)) (fun v s₂ q=>?_) fun _ _ f=>f
 refine q.elim fun d μ₂ h₂ tk₂ x₂ S₂ r₂ qq=>?_
 clear q
 obtain⟨y,rfl,hy,q⟩:=qq
 obtain⟨t2,rfl⟩:=r₂.isStr
 refine⟨y,t2,rfl,by rw[strLen_append,sizeLine_eq]; exact ω149 hx hy,?_⟩
 show wpAny _ _ (eval c env) _ _ _
 refine wpAny_mono (q A fenv h₀ L env _ (H.ext (x₁.trans x₂) S₂)) (fun v s₃ q=>?_) fun _ _ f=>f
 refine q.elim fun d μ₃ h₃ tk₃ x₃ S₃ r₃ qq=>?_
 clear q
 obtain⟨z,rfl,hz,q⟩:=qq
 obtain⟨t3,rfl⟩:=r₃.isStr
 refine⟨z,t3,rfl,by rw[strLen_append,strLen_append,sizeLine_eq]; exact ω150 hx hy hz,?_⟩
 refine⟨by rw[strLen_append,strLen_append,sizeLine_eq]; exact ω150 hx hy hz,?_⟩
 exact⟨_,μ₃,h₃,_,rfl,(x₁.trans x₂).trans x₃,S₃,.str _ _,q⟩
end
section
variable {G:Gd}{n:Nat}{cx:Cx}{μ:Mem}{Φ:MV→Mem→Prop}
noncomputable def PREC:MV:=.tup [.str "right",.int 0]
theorem at55 (g:Law G) {h:Heap} (k:G.K.In h):h.get? 55=some ({ cls:=.type "tuple",data:=.seq #[.ref 54,.none,.str "" 249,.int 0 250] 0 }:Obj):=k 55 _ (by rw[g]; rfl)
theorem at54 (g:Law G) {h:Heap} (k:G.K.In h):h.get? 54=some ({ cls:=.type "tuple",data:=.seq #[.str "right" 247,.int 0 248] 0 }:Obj):=k 54 _ (by rw[g]; rfl)
theorem m54 (g:Law G) (h:∀ a o,G.K.lookup a=some o→μ a=none):μ 54=none:=h 54 _ (by rw[g]; rfl)
structure Own (μ:Mem) (C p dp:Addr) (fs:List (Str×MV)) (μ':Mem):Prop where
 inst:μ' p=some (.inst C dp)
 flds:μ' dp=some (.idict fs)
 le:Le μ μ'
 np:μ p=none
 nd:μ dp=none
 ne:p≠dp
theorem Own.to {C p dp:Addr}{fs:List (Str×MV)}{μ₁ μ₂:Mem} (o:Own μ C p dp fs μ₁) (l:Le μ₁ μ₂):Own μ C p dp fs μ₂:=⟨l _ _ o.inst,l _ _ o.flds,o.le.trans l,o.np,o.nd,o.ne⟩
theorem Own.set {C p dp:Addr}{fs fs':List (Str×MV)}{μ₁:Mem} (o:Own μ C p dp fs μ₁):Own μ C p dp fs' (upd μ₁ dp (.idict fs')):=
 ⟨(upd_ne _ _ o.ne).trans o.inst,upd_same _ _ _,fun b mo e=>by rw[upd_ne _ _ (fun z=>by rw[z,o.nd] at e; cases e)]; exact o.le _ _ e,o.np,o.nd,o.ne⟩
theorem Own.upd {C p dp u:Addr}{fs:List (Str×MV)}{μ₁:Mem}{mo:MO} (o:Own μ C p dp fs μ₁) (hu:μ u=none) (n1:u≠p) (n2:u≠dp):Own μ C p dp fs (Mine.upd μ₁ u mo):=
 ⟨(upd_ne _ _ (Ne.symm n1)).trans o.inst,(upd_ne _ _ (Ne.symm n2)).trans o.flds,fun b mo e=>by rw[upd_ne _ _ (fun z=>by rw[z,hu] at e; cases e)]; exact o.le _ _ e,o.np,o.nd,o.ne⟩
theorem Own.new {C p dp u:Addr}{fs:List (Str×MV)}{μ₁:Mem} (o:Own μ C p dp fs μ₁) (hu:μ₁ u=none):μ u=none∧u≠p∧u≠dp:=by
 refine⟨?_,(fun z=>by rw[z,o.inst] at hu; cases hu),(fun z=>by rw[z,o.flds] at hu; cases hu)⟩
 cases z:μ u with
 | none=>rfl
 | some mo=>rw[o.le _ _ z] at hu; cases hu
noncomputable abbrev OwnK (C p dp:Addr) (x:Str) (fs:List (Str×MV)) (Ψ:Mem→Prop):MV→Mem→Prop:=fun v μ₁=>∃ μ₀,Own μ₀ C p dp fs μ₁∧∀ μ₂,Own μ₀ C p dp ((x,v)::fs) μ₂→LeB dp μ₁ μ₂→Ψ μ₂
theorem WpS1.setOwn {sc:Scope}{cl:List (Str×Addr)}{ρ0:List (Str×MV)}{C p dp:Addr}{x:Str}{fs:List (Str×MV)}{e:Expr}{po p' pos:Pos}{y:Str}{Φ:MF→List (Str×MV)→Mem→Prop} (l:Lk ρ0 y (.ref p)) (ok:SetOk G.K C x) (hfs:fs.length≤999)
 (pe:WpE G n ⟨sc,cl,ρ0⟩ μ e (OwnK C p dp x fs (Φ .next ρ0))) (hx:sc.names.lookup y=some .local:=by rfl) (hdb:(y == ("__debug__":Str))=false:=by decide)
 (hs:∀ env,swapsWith e (some (.Attribute (.Name y po) x p')) pos.line env=pure false:=by intro _; rfl):WpS1 G n ⟨sc,cl,ρ0⟩ μ (.Assign [.Attribute (.Name y po) x p'] e pos) Φ:=
 WpS1.setattr (pe.mono fun v μ₁ ⟨μ₀,o,k⟩=>WpE.loc l (o_setattr o.inst o.flds hfs ok (k _ o.set (LeB.upd _ _ _))) hx hdb) hs
theorem WpS1.setOwnAt {sc:Scope}{cl:List (Str×Addr)}{ρ0:List (Str×MV)}{μy μx:Mem}{C p dp:Addr}{x:Str}{fs:List (Str×MV)}{e:Expr}{po p' pos:Pos}{y:Str}{Φ:MF→List (Str×MV)→Mem→Prop} (od:Own μy C p dp fs μx) (l:Lk ρ0 y (.ref p)) (ok:SetOk G.K C x) (hfs:fs.length≤999)
 (pe:WpE G n ⟨sc,cl,ρ0⟩ μ e (OwnK C p dp x fs (Φ .next ρ0))) (hx:sc.names.lookup y=some .local:=by rfl) (hdb:(y == ("__debug__":Str))=false:=by decide)
 (hs:∀ env,swapsWith e (some (.Attribute (.Name y po) x p')) pos.line env=pure false:=by intro _; rfl):WpS1 G n ⟨sc,cl,ρ0⟩ μ (.Assign [.Attribute (.Name y po) x p'] e pos) Φ:=WpS1.setOwn l ok hfs pe hx hdb hs
theorem WpE.getOwn {C p dp:Addr}{x:Str}{fs:List (Str×MV)}{po pos:Pos}{y:Str}{v:MV}{μ₀:Mem} (l:Lk cx.ρ y (.ref p)) (ok:GetOk G.K C x) (o:Own μ₀ C p dp fs μ) (hv:atM fs x=some v) (q:Φ v μ) (hx:cx.scope.names.lookup y=some .local:=by rfl) (hdb:(y == ("__debug__":Str))=false:=by decide)
 (he:∀ env,eval (.Attribute (.Name y po) x pos) env=(do
  let o ← eval (.Name y po) env
  standAt pos.atName
  let r ← holding [o] (getAttr o x true)
  letTemporaryGo (.Name y po) o r
  pure r):=by intro _; with_unfolding_all rfl):WpE G n cx μ (.Attribute (.Name y po) x pos) Φ:=
 WpE.attr (WpE.loc l (o_getattr o.inst o.flds hv ok q) hx hdb) he
structure ProdAt (μ:Mem) (p dp:Addr) (c i:Nat) (r:Rule) (nx:MV):Prop where
 inst:μ p=some (.inst 100 dp)
 flds:∃ fs,μ dp=some (.idict fs)∧fs.length≤c∧atM fs "name" = some (.str r.1)∧atM fs "prod" = some (.tup (strsM r.2))∧atM fs "number" = some (.int i)∧atM fs "lr_next" = some nx∧∃ u,atM fs "usyms" = some u
theorem join5 {ys:List Str} (h:∀ x∈ys,PyData.strOk x=true∧x.length≤5) (hl:ys.length≤5):(ys.map (·.length)).sum≤25∧ys.length*(" ":Str).length≤5∧(ys.length-1)*(" ":Str).length≤5:=by
 have e:(" ":Str).length=1:=rfl
 rw[e]
 refine⟨?_,ω151 hl,ω152 hl⟩
 have:∀ zs:List Str,(∀ x∈zs,x.length≤5)→(zs.map (·.length)).sum≤5*zs.length:=by
  intro zs
  induction zs with
  | nil=>intro _; simp
  | cons z zs ih=>
   intro hz
   simp only[List.map_cons,List.sum_cons,List.length_cons]
   exact Nat.le_trans (Nat.add_le_add (hz z List.mem_cons_self) (ih fun x hx=>hz x (List.mem_cons_of_mem _ hx))) (Nat.le_of_eq (by rw[Nat.mul_succ,Nat.add_comm]))
 have:=this ys fun x hx=>(h x hx).2
 exact ω154 hl this
theorem c_prod (g:Law G) {l:Addr}{i:Nat}{r:Rule} (hl:μ l=some (.list (strsM r.2))) (hr:r.2.length≤5) (hok:∀ x∈r.2,PyData.strOk x=true∧x.length≤5) (hn:r.1.length≤5) (q:∀ p dp μ',μ p=none→μ dp=none→ProdAt μ' p dp 20 i r .none→Le μ μ'→Φ (.ref p) μ') :
 WpC G (n+5) μ 100 [.int i,.str r.1,.ref l,PREC,.none,.str "",.int 0] Φ:=by
 refine make_class (mkP g) (inP g) (tyP g) fun p dp hp hdp hne=>?_
 refine call_plain' g [("self",.ref p),("number",.int i),("name",.str r.1),("prod",.ref l),("precedence",PREC),("func",.none),("file",.str ""),("line",.int 0)] (fun _=>by rfl) (fun _=>by kernel_rfl) ?_ ?_
 · intro s vs k rs
   cases rs with | cons r1 rs=>cases rs with | cons r2 rs=>cases rs with | cons r3 rs=>cases rs with | cons r4 rs=>cases rs with | cons r5 rs=>cases rs with | cons r6 rs=>cases rs with | cons r7 rs=>cases rs with | cons r8 rs=>cases rs with | nil=>
   exact⟨_,BindsTo.of_defaults (T:=55) rfl (at55 g k) rfl rfl rfl,.cons r1 (.cons r2 (.cons r3 (.cons r4 (.cons r5 (.cons r6 (.cons r7 (.cons r8 .nil)))))))⟩
 have o0:Own μ 100 p dp [] (upd (upd μ dp (.idict [])) p (.inst 100 dp)):=⟨upd_same _ _ _,by rw[upd_ne _ _ (Ne.symm hne),upd_same],(Le.upd hdp).trans (Le.upd (by rw[upd_ne _ _ hne]; exact hp)),hp,hdp,hne⟩
 generalize upd (upd μ dp (.idict [])) p (.inst 100 dp)=μ₀ at o0
 refine WpS.cons (WpS1.setOwn rfl (sP_name g) (by simp) (WpE.loc rfl ⟨μ,o0,fun μ₁ o1 _=>?_⟩))
 refine WpS.cons (WpS1.setOwn rfl (sP_prod g) (by simp) (WpE.callT (bn_tuple g) (WpEs.cons (WpE.loc rfl (WpEs.nil (o_tuple_list (o1.le _ _ hl) (by rw[strsM_length]; exact ω138 hr) ⟨μ,o1,fun μ₂ o2 _=>?_⟩))))))
 refine WpS.cons (WpS1.setOwn rfl (sP_number g) (by simp) (WpE.loc rfl ⟨μ,o2,fun μ₃ o3 _=>?_⟩))
 refine WpS.cons (WpS1.setOwn rfl (sP_func g) (by simp) (WpE.loc rfl ⟨μ,o3,fun μ₄ o4 _=>?_⟩))
 refine WpS.cons (WpS1.setOwn rfl (sP_callable g) (by simp) (WpE.none ⟨μ,o4,fun μ₅ o5 _=>?_⟩))
 refine WpS.cons (WpS1.setOwn rfl (sP_file g) (by simp) (WpE.loc rfl ⟨μ,o5,fun μ₆ o6 _=>?_⟩))
 refine WpS.cons (WpS1.setOwn rfl (sP_line g) (by simp) (WpE.loc rfl ⟨μ,o6,fun μ₇ o7 _=>?_⟩))
 refine WpS.cons (WpS1.setOwn rfl (sP_prec g) (by simp) (WpE.loc rfl ⟨μ,o7,fun μ₈ o8 _=>?_⟩))
 refine WpS.cons (WpS1.setOwn rfl (sP_len g) (by simp) (WpE.callB (bn_len g) (WpEs.cons (WpE.getOwn rfl (gP_prod g) o8 (v:=.tup (strsM r.2)) rfl (WpEs.nil (o_len_tup (by rw[strsM_length]; exact ω136 hr) ⟨μ,o8,fun μ₉ o9 _=>?_⟩))))))
 refine WpS.cons (WpS1.setOwn rfl (sP_usyms g) (by simp) (WpE.list (WpEs.nil ⟨by simp,fun u hu=>⟨μ,o9.to (Le.upd hu),fun μa oa lu=>?_⟩⟩)))
 obtain⟨u1,u2,u3⟩:=o9.new hu
 have hua:μa u=some (.list (strsM [])):=lu _ _ u3 (upd_same _ _ _)
 clear lu o0 o1 o2 o3 o4 o5 o6 o7 o8 o9 hu
 refine WpS.cons (WpS1.for_ (WpIt.tup (WpE.getOwn rfl (gP_prod g) oa (v:=.tup (strsM r.2)) rfl ⟨strsM r.2,rfl,.inr ⟨rfl,fun _ _=>rfl⟩,r.2.length,
  (fun k ρ μ'=>k≤r.2.length∧Lk ρ "self" (.ref p)∧∃ us:List Str,us.length≤k∧(∀ x∈us,x∈r.2)∧μ' u=some (.list (strsM us))∧Own μ 100 p dp _ μ'),⟨ω50,rfl,[],by simp,by simp,hua,oa⟩,?_⟩)))
 rintro k ρ μb ⟨hk,l1,us,us1,us2,hub,ob⟩
 refine⟨hk,_,rfl,?_⟩
 unfold strsM
 rw[List.getElem?_map]
 cases hx:r.2[k]? with
 | some x=>
  have hlt:=(List.getElem?_eq_some_iff.mp hx).1
  have hxr:x∈r.2:=List.mem_of_getElem? hx
  refine⟨hlt,WpA.name ?_⟩
  refine WpS.cons (WpS1.ite (WpT.cmp (WpE.loc rfl (WpE.getOwn (show Lk (_::ρ) "self" (.ref p) from l1) (gP_usyms g) ob (v:=.ref u) rfl ?_))))
  refine o_notinL (d:=.str x) hub (oks_strs fun y hy=>(hok y (us2 y hy)).1) (by exact(hok x hxr).1) (by simp[MV.deep]) fun c hc=>⟨c,rfl,?_⟩
  cases c with
  | false=>exact ite_f (by decide) (WpS.nil (WpS.nil ⟨ω55 hlt,l1,us,ω15 us1,us2,hub,ob⟩))
  | true=>
   refine ite_t rfl ?_
   refine WpS.cons (WpS1.expr (WpE.methB (id:="list.append") _ (WpE.getOwn (show Lk (_::ρ) "self" (.ref p) from l1) (gP_usyms g) ob (v:=.ref u) rfl ⟨gets_list hub PySem.F.slot_list_append PySem.F.type_list_append,WpEs.cons (WpE.loc rfl (WpEs.nil ?_))⟩)))
   refine o_append hub (by rw[strsM_length]; exact ω155 hlt hr us1) ⟨rfl,WpS.nil (WpS.nil ⟨ω55 hlt,l1,us++[x],by simp; omega,fun y hy=>?_,?_,ob.upd u1 u2 u3⟩)⟩
   · rcases List.mem_append.mp hy with h | h
     · exact us2 y h
     · rw[List.mem_singleton.mp h]; exact hxr
   · rw[upd_same]; simp[strsM]
 | none=>
  have e:k=r.2.length:=by have:r.2.length≤k:=List.getElem?_eq_none_iff.mp hx; exact ω61 hk this
  refine WpS.cons (WpS1.setOwn l1 (sP_lr_items g) (by simp) (WpE.list (WpEs.nil ⟨by simp,fun v hv=>⟨μ,ob.to (Le.upd hv),fun μc oc _=>?_⟩⟩)))
  refine WpS.cons (WpS1.setOwn l1 (sP_lr_next g) (by simp) (WpE.none ⟨μ,oc,fun μd od _=>?_⟩))
  refine WpS.cons (WpS1.ite (WpT.val (WpE.getOwn l1 (gP_prod g) od (v:=.tup (strsM r.2)) rfl (o_truthTup (by rw[strsM_length]; exact ω136 hr) ?_))))
  have fin:∀ μ' fs,Own μ 100 p dp fs μ'→fs.length≤20→atM fs "name" = some (.str r.1)→atM fs "prod" = some (.tup (strsM r.2))→atM fs "number" = some (.int i)→atM fs "lr_next" = some .none→(∃ u,atM fs "usyms" = some u)→Φ (.ref p) μ':=fun μ' fs o h1 h2 h3 h4 h5 h6=>q p dp μ' hp hdp ⟨o.inst,_,o.flds,h1,h2,h3,h4,h5,h6⟩ o.le
  cases hz:(strsM r.2).isEmpty with
  | false=>
   refine ite_t rfl ?_
   refine WpS.cons (WpS1.setOwnAt od l1 (sP_str g) (by simp) ?_)
   have j5:=join5 hok hr
   have e1:(" ":Str).length=1:=rfl
   refine WpE.joined3 (WpE.fv (WpE.getOwn l1 (gP_name g) od (v:=.str r.1) rfl ?_))
   refine⟨r.1,.inl rfl,ω156 hn,⟨r.1,rfl,ω156 hn,WpE.str ⟨_,rfl,by decide +kernel,WpE.fv ?_⟩⟩⟩
   refine WpE.methB (id:="str.join") _ (WpE.str ⟨gets_str PySem.F.slot_str_join PySem.F.type_str_join,?_⟩)
   refine WpEs.cons (WpE.getOwn l1 (gP_prod g) od (v:=.tup (strsM r.2)) rfl (WpEs.nil ?_))
   refine o_join_tup (x:=" ") (ys:=r.2) (ω157 j5) ?_
   have hgl:(Txt.join " " r.2).length≤1000:=by show(Builtin.Str.glued " " r.2).length≤1000; rw[size_glued]; exact ω158 j5
   refine⟨_,.inl rfl,hgl,⟨_,rfl,hgl,?_⟩⟩
   exact⟨μ,od,fun μe oe _=>WpS.nil (WpS.nil ⟨rfl,fin μe _ oe (by simp) rfl rfl rfl rfl ⟨_,rfl⟩⟩)⟩
  | true=>
   refine ite_f (by decide) ?_
   refine WpS.cons (WpS1.setOwnAt od l1 (sP_str g) (by simp) ?_)
   refine WpE.bin (WpE.str (WpE.getOwn l1 (gP_name g) od (v:=.str r.1) rfl ?_))
   exact o_fmt1 (ω156 hn) fun y=>⟨μ,od,fun μe oe _=>WpS.nil (WpS.nil ⟨rfl,fin μe _ oe (by simp) rfl rfl rfl rfl ⟨_,rfl⟩⟩)⟩
end
section
variable {G:Gd}{n:Nat}{cx:Cx}{μ:Mem}{Φ:MV→Mem→Prop}
theorem c_prod3 (g:Law G) {l:Addr}{i:Nat}{r:Rule} (hl:μ l=some (.list (strsM r.2))) (hr:r.2.length≤5) (hok:∀ x∈r.2,PyData.strOk x=true∧x.length≤5) (hn:r.1.length≤5) (q:∀ p dp μ',μ p=none→μ dp=none→ProdAt μ' p dp 20 i r .none→Le μ μ'→Φ (.ref p) μ') :
 WpC G (n+5) μ 100 [.int i,.str r.1,.ref l] Φ:=by
 refine make_class (mkP g) (inP g) (tyP g) fun p dp hp hdp hne=>?_
 refine WpC.off fun off=>?_
 refine call_plain' g [("self",.ref p),("number",.int i),("name",.str r.1),("prod",.ref l),("precedence",PREC),("func",.none),("file",.str ""),("line",.int 0)] (fun _=>by rfl) (fun _=>by kernel_rfl) ?_ ?_
 · intro s vs k rs
   cases rs with | cons r1 rs=>cases rs with | cons r2 rs=>cases rs with | cons r3 rs=>cases rs with | cons r4 rs=>cases rs with | nil=>
   exact⟨_,BindsTo.of_defaults (T:=55) rfl (at55 g k) rfl rfl rfl,.cons r1 (.cons r2 (.cons r3 (.cons r4 (.cons (.tup (m54 g off) (at54 g k) (.cons (.str _ _) (.cons (.int _ _) .nil))) (.cons .none (.cons (.str _ _) (.cons (.int _ _) .nil)))))))⟩
 have o0:Own μ 100 p dp [] (upd (upd μ dp (.idict [])) p (.inst 100 dp)):=⟨upd_same _ _ _,by rw[upd_ne _ _ (Ne.symm hne),upd_same],(Le.upd hdp).trans (Le.upd (by rw[upd_ne _ _ hne]; exact hp)),hp,hdp,hne⟩
 generalize upd (upd μ dp (.idict [])) p (.inst 100 dp)=μ₀ at o0
 refine WpS.cons (WpS1.setOwn rfl (sP_name g) (by simp) (WpE.loc rfl ⟨μ,o0,fun μ₁ o1 _=>?_⟩))
 refine WpS.cons (WpS1.setOwn rfl (sP_prod g) (by simp) (WpE.callT (bn_tuple g) (WpEs.cons (WpE.loc rfl (WpEs.nil (o_tuple_list (o1.le _ _ hl) (by rw[strsM_length]; exact ω138 hr) ⟨μ,o1,fun μ₂ o2 _=>?_⟩))))))
 refine WpS.cons (WpS1.setOwn rfl (sP_number g) (by simp) (WpE.loc rfl ⟨μ,o2,fun μ₃ o3 _=>?_⟩))
 refine WpS.cons (WpS1.setOwn rfl (sP_func g) (by simp) (WpE.loc rfl ⟨μ,o3,fun μ₄ o4 _=>?_⟩))
 refine WpS.cons (WpS1.setOwn rfl (sP_callable g) (by simp) (WpE.none ⟨μ,o4,fun μ₅ o5 _=>?_⟩))
 refine WpS.cons (WpS1.setOwn rfl (sP_file g) (by simp) (WpE.loc rfl ⟨μ,o5,fun μ₆ o6 _=>?_⟩))
 refine WpS.cons (WpS1.setOwn rfl (sP_line g) (by simp) (WpE.loc rfl ⟨μ,o6,fun μ₇ o7 _=>?_⟩))
 refine WpS.cons (WpS1.setOwn rfl (sP_prec g) (by simp) (WpE.loc rfl ⟨μ,o7,fun μ₈ o8 _=>?_⟩))
 refine WpS.cons (WpS1.setOwn rfl (sP_len g) (by simp) (WpE.callB (bn_len g) (WpEs.cons (WpE.getOwn rfl (gP_prod g) o8 (v:=.tup (strsM r.2)) rfl (WpEs.nil (o_len_tup (by rw[strsM_length]; exact ω136 hr) ⟨μ,o8,fun μ₉ o9 _=>?_⟩))))))
 refine WpS.cons (WpS1.setOwn rfl (sP_usyms g) (by simp) (WpE.list (WpEs.nil ⟨by simp,fun u hu=>⟨μ,o9.to (Le.upd hu),fun μa oa lu=>?_⟩⟩)))
 obtain⟨u1,u2,u3⟩:=o9.new hu
 have hua:μa u=some (.list (strsM [])):=lu _ _ u3 (upd_same _ _ _)
 clear lu o0 o1 o2 o3 o4 o5 o6 o7 o8 o9 hu
 refine WpS.cons (WpS1.for_ (WpIt.tup (WpE.getOwn rfl (gP_prod g) oa (v:=.tup (strsM r.2)) rfl ⟨strsM r.2,rfl,.inr ⟨rfl,fun _ _=>rfl⟩,r.2.length,
  (fun k ρ μ'=>k≤r.2.length∧Lk ρ "self" (.ref p)∧∃ us:List Str,us.length≤k∧(∀ x∈us,x∈r.2)∧μ' u=some (.list (strsM us))∧Own μ 100 p dp _ μ'),⟨ω50,rfl,[],by simp,by simp,hua,oa⟩,?_⟩)))
 rintro k ρ μb ⟨hk,l1,us,us1,us2,hub,ob⟩
 refine⟨hk,_,rfl,?_⟩
 unfold strsM
 rw[List.getElem?_map]
 cases hx:r.2[k]? with
 | some x=>
  have hlt:=(List.getElem?_eq_some_iff.mp hx).1
  have hxr:x∈r.2:=List.mem_of_getElem? hx
  refine⟨hlt,WpA.name ?_⟩
  refine WpS.cons (WpS1.ite (WpT.cmp (WpE.loc rfl (WpE.getOwn (show Lk (_::ρ) "self" (.ref p) from l1) (gP_usyms g) ob (v:=.ref u) rfl ?_))))
  refine o_notinL (d:=.str x) hub (oks_strs fun y hy=>(hok y (us2 y hy)).1) (by exact(hok x hxr).1) (by simp[MV.deep]) fun c hc=>⟨c,rfl,?_⟩
  cases c with
  | false=>exact ite_f (by decide) (WpS.nil (WpS.nil ⟨ω55 hlt,l1,us,ω15 us1,us2,hub,ob⟩))
  | true=>
   refine ite_t rfl ?_
   refine WpS.cons (WpS1.expr (WpE.methB (id:="list.append") _ (WpE.getOwn (show Lk (_::ρ) "self" (.ref p) from l1) (gP_usyms g) ob (v:=.ref u) rfl ⟨gets_list hub PySem.F.slot_list_append PySem.F.type_list_append,WpEs.cons (WpE.loc rfl (WpEs.nil ?_))⟩)))
   refine o_append hub (by rw[strsM_length]; exact ω155 hlt hr us1) ⟨rfl,WpS.nil (WpS.nil ⟨ω55 hlt,l1,us++[x],by simp; omega,fun y hy=>?_,?_,ob.upd u1 u2 u3⟩)⟩
   · rcases List.mem_append.mp hy with h | h
     · exact us2 y h
     · rw[List.mem_singleton.mp h]; exact hxr
   · rw[upd_same]; simp[strsM]
 | none=>
  have e:k=r.2.length:=by have:r.2.length≤k:=List.getElem?_eq_none_iff.mp hx; exact ω61 hk this
  refine WpS.cons (WpS1.setOwn l1 (sP_lr_items g) (by simp) (WpE.list (WpEs.nil ⟨by simp,fun v hv=>⟨μ,ob.to (Le.upd hv),fun μc oc _=>?_⟩⟩)))
  refine WpS.cons (WpS1.setOwn l1 (sP_lr_next g) (by simp) (WpE.none ⟨μ,oc,fun μd od _=>?_⟩))
  refine WpS.cons (WpS1.ite (WpT.val (WpE.getOwn l1 (gP_prod g) od (v:=.tup (strsM r.2)) rfl (o_truthTup (by rw[strsM_length]; exact ω136 hr) ?_))))
  have fin:∀ μ' fs,Own μ 100 p dp fs μ'→fs.length≤20→atM fs "name" = some (.str r.1)→atM fs "prod" = some (.tup (strsM r.2))→atM fs "number" = some (.int i)→atM fs "lr_next" = some .none→(∃ u,atM fs "usyms" = some u)→Φ (.ref p) μ':=fun μ' fs o h1 h2 h3 h4 h5 h6=>q p dp μ' hp hdp ⟨o.inst,_,o.flds,h1,h2,h3,h4,h5,h6⟩ o.le
  cases hz:(strsM r.2).isEmpty with
  | false=>
   refine ite_t rfl ?_
   refine WpS.cons (WpS1.setOwnAt od l1 (sP_str g) (by simp) ?_)
   have j5:=join5 hok hr
   have e1:(" ":Str).length=1:=rfl
   refine WpE.joined3 (WpE.fv (WpE.getOwn l1 (gP_name g) od (v:=.str r.1) rfl ?_))
   refine⟨r.1,.inl rfl,ω156 hn,⟨r.1,rfl,ω156 hn,WpE.str ⟨_,rfl,by decide +kernel,WpE.fv ?_⟩⟩⟩
   refine WpE.methB (id:="str.join") _ (WpE.str ⟨gets_str PySem.F.slot_str_join PySem.F.type_str_join,?_⟩)
   refine WpEs.cons (WpE.getOwn l1 (gP_prod g) od (v:=.tup (strsM r.2)) rfl (WpEs.nil ?_))
   refine o_join_tup (x:=" ") (ys:=r.2) (ω157 j5) ?_
   have hgl:(Txt.join " " r.2).length≤1000:=by show(Builtin.Str.glued " " r.2).length≤1000; rw[size_glued]; exact ω158 j5
   refine⟨_,.inl rfl,hgl,⟨_,rfl,hgl,?_⟩⟩
   exact⟨μ,od,fun μe oe _=>WpS.nil (WpS.nil ⟨rfl,fin μe _ oe (by simp) rfl rfl rfl rfl ⟨_,rfl⟩⟩)⟩
  | true=>
   refine ite_f (by decide) ?_
   refine WpS.cons (WpS1.setOwnAt od l1 (sP_str g) (by simp) ?_)
   refine WpE.bin (WpE.str (WpE.getOwn l1 (gP_name g) od (v:=.str r.1) rfl ?_))
   exact o_fmt1 (ω156 hn) fun y=>⟨μ,od,fun μe oe _=>WpS.nil (WpS.nil ⟨rfl,fin μe _ oe (by simp) rfl rfl rfl rfl ⟨_,rfl⟩⟩)⟩
end
section
variable {G:Gd}{n:Nat}{cx:Cx}{μ:Mem}{Φ:MV→Mem→Prop}{A:Around}{fenv:Env}{h₀:List Addr}{L:Addr}
theorem Amb.in1 (am:Amb G A fenv h₀ L (n+1)):Amb G A.in1 fenv h₀ L n:=
 ⟨am.bel,am.frm,am.fk,am.kin,am.top,fun z=>am.hnd ω10,by have:=am.dep; show A.depth+n<recursionLimit; exact ω159 this,by have:=am.uns; show A.units+1+40*n<cLine; exact ω13 this,am.grd⟩
theorem o_len_inst {a C d f:Addr}{fs:List (Str×MV)} (e:μ a=some (.inst C d)) (e':μ d=some (.idict fs)) (hs:findIn G.K (.ref C) "__len__" = some (some (.ref f))) (hf:isFn G.K (.ref f)=true)
 (p:WpC G n μ f [.ref a] fun r μ'=>∃ k:Nat,r=.int k∧k<2 ^ 62∧Φ (.int k) μ'):WpOs G (n+1) μ [.ref a] (fun vs=>call (.builtin "len") vs) Φ:=fun A fenv h₀ L s am i vs rs=>by
 cases rs with | cons ra rs=>cases rs with | nil=>
 rw[ra.isRef]
 have g:=i.sim a _ e
 obtain⟨es,k,g',ir⟩:=i.sim d _ e'
 obtain⟨m,F⟩:=i.fr
 refine len_K F am.kin (instAt g g') hs hf ?_
 refine wpAny_mono (p.os A.in1 fenv h₀ L s am.in1 i _ (.cons (.ref _) .nil)) (fun v s₁ q=>?_) fun _ _ f=>f
 refine q.elim fun r μ₁ h₁ tk₁ x₁ S₁ r₁ qq=>?_
 clear q
 obtain⟨j,rfl,hj,q⟩:=qq
 obtain⟨t,rfl⟩:=r₁.isInt
 exact⟨⟨ω34,ω0 hj⟩,⟨_,μ₁,h₁,_,rfl,x₁,S₁,.int _ _,q⟩⟩
theorem fn83 (g:Law G):isFn G.K (.ref 83)=true:=by rw[g]; kernel_rfl
theorem c_plen (g:Law G) {p dp:Addr}{c i:Nat}{r:Rule}{nx:MV} (hp:ProdAt μ p dp c i r nx) (hr:r.2.length≤5) (q:Φ (.int r.2.length) μ):WpC G (n+2) μ 83 [.ref p] Φ:=by
 obtain⟨hi,fs,h1,h2,h3,h4,h5,h6,h7⟩:=hp
 refine call_plain' g [("self",.ref p)] (fun _=>by rfl) (fun _=>by kernel_rfl) (bind1 (fun _=>rfl)) ?_
 refine WpS.cons (WpS1.ret (WpE.callB (bn_len g) (WpEs.cons (WpE.attr (WpE.loc rfl (o_getattr hi h1 h4 (gP_prod g) (WpEs.nil ?_)))))))
 refine o_len_tup (by rw[strsM_length]; exact ω136 hr) ?_
 rw[strsM_length]
 exact q
theorem o_len_prod (g:Law G) {p dp:Addr}{c i:Nat}{r:Rule}{nx:MV} (hp:ProdAt μ p dp c i r nx) (hr:r.2.length≤5) (q:Φ (.int r.2.length) μ):WpOs G (n+3) μ [.ref p] (fun vs=>call (.builtin "len") vs) Φ:=by
 have hp':=hp
 obtain⟨hi,fs,h1,_⟩:=hp
 exact o_len_inst hi h1 (hasLen g) (fn83 g) (c_plen g hp' hr ⟨_,rfl,ω136 hr,q⟩)
end
section
variable {G:Gd}{n:Nat}{cx:Cx}{μ:Mem}{Φ:MV→Mem→Prop}
noncomputable def dotted (r:List Str) (k:Nat):List Str:=r.take k++(".":Str)::r.drop k
theorem dotted_length (r:List Str) (k:Nat):(dotted r k).length=r.length+1:=by unfold dotted; simp; exact ω160
structure ItemF (fs:List (Str×MV)) (i k:Nat) (r:Rule):Prop where
 len:fs.length≤20
 name:atM fs "name" = some (.str r.1)
 prod:atM fs "prod" = some (.tup (strsM (dotted r.2 k)))
 number:atM fs "number" = some (.int i)
 index:atM fs "lr_index" = some (.int k)
theorem c_item (g:Law G) {p dp:Addr}{c i k:Nat}{r:Rule}{nx:MV} (hp:ProdAt μ p dp c i r nx) (hr:r.2.length≤5) (hk:k≤r.2.length) (q:∀ a da fs μ',Own μ 135 a da fs μ'→ItemF fs i k r→Φ (.ref a) μ'):WpC G (n+5) μ 135 [.ref p,.int k] Φ:=by
 obtain⟨hi,ps,h1,h2,h3,h4,h5,h6,us,h7⟩:=hp
 refine make_class (mkI g) (inI g) (tyI g) fun a da ha hda hne=>?_
 refine call_plain' g [("self",.ref a),("p",.ref p),("n",.int k)] (fun _=>by rfl) (fun _=>by kernel_rfl) (bind3 (fun _ _ _=>rfl)) ?_
 have o0:Own μ 135 a da [] (upd (upd μ da (.idict [])) a (.inst 135 da)):=⟨upd_same _ _ _,by rw[upd_ne _ _ (Ne.symm hne),upd_same],(Le.upd hda).trans (Le.upd (by rw[upd_ne _ _ hne]; exact ha)),ha,hda,hne⟩
 generalize upd (upd μ da (.idict [])) a (.inst 135 da)=μ₀ at o0
 refine WpS.cons (WpS1.setOwn rfl (sI_name g) (by simp) (WpE.attr (WpE.loc rfl (o_getattr (o0.le _ _ hi) (o0.le _ _ h1) h3 (gP_name g) ⟨μ,o0,fun μ₁ o1 _=>?_⟩))))
 refine WpS.cons (WpS1.setOwnAt o1 rfl (sI_prod g) (by simp) ?_)
 refine WpE.callT (bn_list g) (WpEs.cons (WpE.attr (WpE.loc rfl (o_getattr (o1.le _ _ hi) (o1.le _ _ h1) h4 (gP_prod g) (WpEs.nil ?_)))))
 refine o_list_tup (by rw[strsM_length]; exact ω138 hr) fun l hl=>⟨μ,o1.to (Le.upd hl),fun μ₂ o2 l2=>?_⟩
 obtain⟨n1,n2,n3⟩:=o1.new hl
 have hl2:μ₂ l=some (.list (strsM r.2)):=l2 _ _ n3 (upd_same _ _ _)
 refine WpS.cons (WpS1.setOwnAt o2 rfl (sI_number g) (by simp) ?_)
 refine WpE.attr (WpE.loc rfl (o_getattr (o2.le _ _ hi) (o2.le _ _ h1) h5 (gP_number g) ⟨μ,o2,fun μ₃ o3 l3=>?_⟩))
 have hl3:=l3 _ _ n3 hl2
 refine WpS.cons (WpS1.setOwn rfl (sI_lr_index g) (by simp) (WpE.loc rfl ⟨μ,o3,fun μ₄ o4 l4=>?_⟩))
 have hl4:=l4 _ _ n3 hl3
 refine WpS.cons (WpS1.setOwnAt o4 rfl (sI_lookaheads g) (by simp) ?_)
 refine WpE.dict0 fun z hz=>⟨μ,o4.to (Le.upd hz),fun μ₅ o5 l5=>?_⟩
 have hl5:=l5 _ _ n3 (Le.upd hz _ _ hl4)
 refine WpS.cons (WpS1.expr (WpE.methB (id:="list.insert") _ (WpE.getOwn rfl (gI_prod g) o5 (v:=.ref l) rfl ⟨gets_list hl5 PySem.F.slot_list_insert PySem.F.type_list_insert,?_⟩)))
 refine WpEs.cons (WpE.loc rfl (WpEs.cons (WpE.str (WpEs.nil ?_))))
 refine o_insert hl5 ω34 (ω161 hr hk) (by rw[strsM_length]; exact ω138 hr) ⟨rfl,?_⟩
 have o6:=o5.upd (mo:=.list ((strsM r.2).take (k:Int).toNat ++ .str "." :: (strsM r.2).drop (k:Int).toNat)) n1 n2 n3
 have hl6:upd μ₅ l (.list ((strsM r.2).take (k:Int).toNat ++ .str "." :: (strsM r.2).drop (k:Int).toNat)) l=some (.list (strsM (dotted r.2 k))):=by
  rw[upd_same]; unfold strsM dotted; simp[List.map_take,List.map_drop]
 refine WpS.gen (P:=fun μ₆=>Own μ 135 a da _ μ₆∧μ₆ l=some (.list (strsM (dotted r.2 k)))) ⟨o6,hl6⟩ ?_
 clear o6 hl6 o5 hl5 o4 hl4 o3 hl3 o2 hl2 l5 l4 l3 l2
 rintro μ₆ ⟨o6,hl6⟩
 refine WpS.cons (WpS1.setOwnAt o6 rfl (sI_prod g) (by simp) ?_)
 refine WpE.callT (bn_tuple g) (WpEs.cons (WpE.getOwn rfl (gI_prod g) o6 (v:=.ref l) rfl (WpEs.nil ?_)))
 refine o_tuple_list hl6 (by rw[strsM_length,dotted_length]; exact ω162 hr) ⟨μ,o6,fun μ₇ o7 _=>?_⟩
 refine WpS.cons (WpS1.setOwnAt o7 rfl (sI_len g) (by simp) ?_)
 refine WpE.callB (bn_len g) (WpEs.cons (WpE.getOwn rfl (gI_prod g) o7 (v:=.tup (strsM (dotted r.2 k))) rfl (WpEs.nil ?_)))
 refine o_len_tup (by rw[strsM_length,dotted_length]; exact ω163 hr) ⟨μ,o7,fun μ₈ o8 _=>?_⟩
 refine WpS.cons (WpS1.setOwnAt o8 rfl (sI_usyms g) (by simp) ?_)
 refine WpE.attr (WpE.loc rfl (o_getattr (o8.le _ _ hi) (o8.le _ _ h1) h7 (gP_usyms g) ⟨μ,o8,fun μ₉ o9 _=>?_⟩))
 exact WpS.nil ⟨rfl,q a da _ μ₉ o9 ⟨by simp,rfl,rfl,rfl,rfl⟩⟩
end
section
variable {G:Gd}{n:Nat}{cx:Cx}{μ:Mem}{Φ:MV→Mem→Prop}
theorem WpE.ilist0 {pos:Pos} (q:∀ a,μ a=Option.none→Φ (.ref a) (upd μ a (.ilist 0))):WpE G n cx μ (.List [] pos) Φ:=fun A fenv h₀ L env s H=>by
 refine List_ (wpAny_mono (WpEs.nil (Φ:=fun ds μ'=>ds=[]∧μ'=μ) ⟨rfl,rfl⟩ A fenv h₀ L env pos s H) (fun vs s₁ q'=>?_) fun _ _ f=>f)
 refine q'.elim fun ds μ₁ h₁ tk₁ x₁ S₁ r₁ qq=>?_
 obtain⟨rfl,rfl⟩:=qq
 cases r₁
 refine wpAny_newObj_type ?_ (by show(#[]:Array Value).size≤sizeLine; exact Nat.zero_le _)
 refine⟨.ref h₁.objs.size,_,_,tk₁,rfl,x₁.trans (ext_alloc S₁ _ (.ilist 0)),S₁.alloc ?_,.ref _,q _ S₁.none_size⟩
 exact⟨[],0,Heap.get?_push_size _ rfl,Nat.le_refl _⟩
theorem gets_ilist {a:Addr}{k:Nat}{name:Str}{id:String} (e:μ a=some (.ilist k)) (slot:Slot "list" name id) (hty:typeOf (.builtin id)=pure (.type "method_descriptor")):GetsM G n μ (.ref a) name (.builtin id):=fun A fenv h₀ L s am i v r pl Q q=>by
 rw[r.isRef] at q ⊢
 obtain⟨vs,m,g,r⟩:=i.sim a _ e
 exact getMethod_list_of slot hty (isList_of g) ⟨_,g,rfl⟩ q
theorem o_appendI {a:Addr}{k:Nat}{d:MV} (e:μ a=some (.ilist k)) (hl:k≤16777216) (q:Φ .none (upd μ a (.ilist (k+1)))):WpOs G n μ [.ref a,d] (fun vs=>call (.builtin "list.append") vs) Φ:=fun A fenv h₀ L s am i vs rs=>by
 cases rs with | cons ra rs=>cases rs with | cons rd rs=>cases rs with | nil=>
 rename_i v
 rw[ra.isRef]
 obtain⟨ws,m,g,r⟩:=i.sim a _ e
 have hz:ws.toArray.size≤sizeLine:=by rw[List.size_toArray,sizeLine_eq]; exact ω164 hl r
 refine append_at (hsz:=hz) g fun h' hs g'=>post_upd (tk:=s.toks) i.sim e hs ?_ .none q
 have:(ws++[v]).toArray=ws.toArray.push v:=by simp
 exact⟨ws++[v],m+1,by rw[this]; exact g',by rw[List.length_append]; simpa using r⟩
end
structure GA where
 gr:Addr
 dg:Addr
 P:Addr
 N:Addr
 M:Addr
 T:Addr
 X:Addr
 R:Addr
structure GramF (fs:List (Str×MV)) (a:GA):Prop where
 P:atM fs "Productions" = some (.ref a.P)
 N:atM fs "Prodnames" = some (.ref a.N)
 M:atM fs "Prodmap" = some (.ref a.M)
 T:atM fs "Terminals" = some (.ref a.T)
 X:atM fs "Nonterminals" = some (.ref a.X)
 R:atM fs "Precedence" = some (.ref a.R)
 m1:atM fs "add_production" = none
 m2:atM fs "set_start" = none
 m3:atM fs "build_lritems" = none
 m4:atM fs "prod" = none
structure Counts (μ:Mem) (D:Addr) (b:Nat) (ok:Str→Prop):Prop where
 ex:∃ es,μ D=some (.sdict es)∧es.length≤b∧∀ x v,atM es x=some v→ok x∧∃ l k,v=.ref l∧μ l=some (.ilist k)∧k≤b
section
variable {G:Gd}{n:Nat}{cx:Cx}{μ:Mem}{Φ:MV→Mem→Prop}
theorem Counts.add {D l:Addr}{b:Nat}{ok:Str→Prop}{es:List (Str×MV)}{x:Str} (hx:ok x) (e:μ D=some (.sdict es)) (hl:es.length≤b) (h:∀ x v,atM es x=some v→ok x∧∃ l k,v=.ref l∧μ l=some (.ilist k)∧k≤b) (hn:μ l=none) :
 Counts (upd (upd μ l (.ilist 0)) D (.sdict (putM es x (.ref l)))) D (b+1) ok:=by
 have nlD:l≠D:=fun z=>by rw[z,e] at hn; cases hn
 refine⟨putM es x (.ref l),upd_same _ _ _,by have:=putM_length es x (.ref l); exact ω88 hl this,fun y v hy=>?_⟩
 rw[atM_putM] at hy
 by_cases z:y=x
 · rw[if_pos z] at hy
   cases hy
   exact⟨z▸hx,l,0,rfl,by rw[upd_ne _ _ nlD,upd_same],Nat.zero_le _⟩
 · rw[if_neg z] at hy
   obtain⟨h1,l',k,rfl,h2,h3⟩:=h y v hy
   refine⟨h1,l',k,rfl,?_,ω15 h3⟩
   rw[upd_ne _ _ (fun z=>by rw[z,e] at h2; cases h2),upd_ne _ _ (fun z=>by rw[z,hn] at h2; cases h2)]
   exact h2
noncomputable def LeI (μ μ':Mem):Prop:=∀ b mo,(∀ fs,mo≠.idict fs)→μ b=some mo→μ' b=some mo
theorem Le.i {μ μ':Mem} (x:Le μ μ'):LeI μ μ':=fun b mo _ e=>x b mo e
theorem LeB.i {μ μ':Mem}{da:Addr}{fs:List (Str×MV)} (x:LeB da μ μ') (e:μ da=some (.idict fs)):LeI μ μ':=fun b mo n e'=>x b mo (fun z=>by rw[z,e] at e'; cases e'; exact n _ rfl) e'
theorem LeI.trans {a b c:Mem} (x:LeI a b) (y:LeI b c):LeI a c:=fun d mo n e=>y d mo n (x d mo n e)
theorem Counts.to {μ μ':Mem}{D:Addr}{b:Nat}{ok:Str→Prop} (c:Counts μ D b ok) (l:LeI μ μ'):Counts μ' D b ok:=by
 obtain⟨es,h1,h2,h3⟩:=c
 refine⟨es,l _ _ (fun _ z=>nomatch z) h1,h2,fun x v hx=>?_⟩
 obtain⟨h4,l',k,h5,h6,h7⟩:=h3 x v hx
 exact⟨h4,l',k,h5,l _ _ (fun _ z=>nomatch z) h6,h7⟩
noncomputable def TermOk (x:Str):Prop:=x∉NAMES
theorem c_gram (g:Law G) {l:Addr} (hl:μ l=some (.list [.str "a",.str "b"]))
 (q:∀(a:GA) fs μ',Own μ 283 a.gr a.dg fs μ'→GramF fs a→fs.length≤20→μ' a.P=some (.list [.none])→μ' a.N=some (.sdict [])→μ' a.M=some (.sdict [])→Counts μ' a.T 3 TermOk→μ' a.X=some (.sdict [])→μ' a.R=some (.sdict [])→
  (∀ b∈[a.P,a.N,a.M,a.T,a.X,a.R],μ b=none∧b≠a.gr∧b≠a.dg)→(a.M≠a.N∧a.T≠a.N∧a.X≠a.N∧a.R≠a.N∧a.T≠a.M∧a.X≠a.M∧a.R≠a.M∧a.X≠a.T∧a.R≠a.T∧a.R≠a.X)→Φ (.ref a.gr) μ'):WpC G (n+5) μ 283 [.ref l] Φ:=by
 refine make_class (mkR g) (inR g) (tyR g) fun a da ha hda hne=>?_
 refine call_plain' g [("self",.ref a),("terminals",.ref l)] (fun _=>by rfl) (fun _=>by kernel_rfl) (bind2 (fun _ _=>rfl)) ?_
 have o0:Own μ 283 a da [] (upd (upd μ da (.idict [])) a (.inst 283 da)):=⟨upd_same _ _ _,by rw[upd_ne _ _ (Ne.symm hne),upd_same],(Le.upd hda).trans (Le.upd (by rw[upd_ne _ _ hne]; exact ha)),ha,hda,hne⟩
 generalize upd (upd μ da (.idict [])) a (.inst 283 da)=μ₀ at o0
 refine WpS.cons (WpS1.setOwnAt o0 rfl (sR_Productions g) (by simp) ?_)
 refine WpE.list (WpEs.cons (WpE.none (WpEs.nil ⟨by simp,fun P hP=>⟨μ,o0.to (Le.upd hP),fun μ₁ o1 l1=>?_⟩⟩)))
 obtain⟨p1,p2,p3⟩:=o0.new hP
 have eP1:μ₁ P=some (.list [.none]):=l1 _ _ p3 (upd_same _ _ _)
 refine WpS.cons (WpS1.setOwnAt o1 rfl (sR_Prodnames g) (by simp) ?_)
 refine WpE.dict0 fun N hN=>⟨μ,o1.to (Le.upd hN),fun μ₂ o2 l2=>?_⟩
 obtain⟨n1,n2,n3⟩:=o1.new hN
 have eP2:=l2 _ _ p3 (Le.upd hN _ _ eP1)
 have eN2:μ₂ N=some (.sdict []):=l2 _ _ n3 (upd_same _ _ _)
 refine WpS.cons (WpS1.setOwnAt o2 rfl (sR_Prodmap g) (by simp) ?_)
 refine WpE.dict0 fun M hM=>⟨μ,o2.to (Le.upd hM),fun μ₃ o3 l3=>?_⟩
 obtain⟨q1,q2,q3⟩:=o2.new hM
 have eP3:=l3 _ _ p3 (Le.upd hM _ _ eP2)
 have eN3:=l3 _ _ n3 (Le.upd hM _ _ eN2)
 have eM3:μ₃ M=some (.sdict []):=l3 _ _ q3 (upd_same _ _ _)
 refine WpS.cons (WpS1.setOwnAt o3 rfl (sR_Terminals g) (by simp) ?_)
 refine WpE.dict0 fun T hT=>⟨μ,o3.to (Le.upd hT),fun μ₄ o4 l4=>?_⟩
 obtain⟨t1,t2,t3⟩:=o3.new hT
 have eP4:=l4 _ _ p3 (Le.upd hT _ _ eP3)
 have eN4:=l4 _ _ n3 (Le.upd hT _ _ eN3)
 have eM4:=l4 _ _ q3 (Le.upd hT _ _ eM3)
 have eT4:μ₄ T=some (.sdict []):=l4 _ _ t3 (upd_same _ _ _)
 have nMN:M≠N:=fun z=>by rw[z,eN2] at hM; cases hM
 have nPT:P≠T:=fun z=>by rw[z,eT4] at eP4; cases eP4
 have nNT:N≠T:=fun z=>by rw[← z,eN3] at hT; cases hT
 have nMT:M≠T:=fun z=>by rw[← z,eM3] at hT; cases hT
 clear l1 l2 l3 l4 o0 o1 o2 o3 eP1 eP2 eP3 eN2 eN3 eM3 hP hN hM hT
 have hT4:∃ es,μ₄ T=some (.sdict es)∧es.length≤0∧∀ x v,atM es x=some v→TermOk x∧∃ l k,v=.ref l∧μ₄ l=some (.ilist k)∧k≤0:=⟨[],eT4,by simp,fun x v h=>by cases h⟩
 refine WpS.cons (WpS1.for_ (WpIt.list (WpE.loc rfl ⟨l,_,rfl,o4.le _ _ hl,.inr ⟨rfl,fun _ _=>rfl⟩,2,
  (fun k ρ μ'=>k≤2∧Lk ρ "self" (.ref a)∧Own μ 283 a da _ μ'∧μ' P=some (.list [.none])∧μ' N=some (.sdict [])∧μ' M=some (.sdict [])∧Counts μ' T k TermOk),⟨ω165,rfl,o4,eP4,eN4,eM4,⟨hT4⟩⟩,?_⟩)))
 clear eP4 eN4 eM4 eT4 hT4
 rintro k ρ μ₅ ⟨hk,l1,o5,eP,eN,eM,⟨es,eT,hes,hT⟩⟩
 refine⟨hk,_,⟨_,o5.le _ _ hl,rfl⟩,?_⟩
 have two:([MV.str "a",.str "b"]:List MV)[k]?=if k=0 then some (.str "a") else if k=1 then some (.str "b") else none:=by
  match k with
  | 0=>rfl
  | 1=>rfl
  | k+2=>rfl
 cases hx:([MV.str "a",.str "b"]:List MV)[k]? with
 | some d=>
  have hlt:k<2:=(List.getElem?_eq_some_iff.mp hx).1
  obtain⟨x,hd,hxo⟩:∃ x,d=.str x∧TermOk x:=by
   rw[two] at hx
   by_cases z:k=0
   · rw[if_pos z] at hx; cases hx; exact⟨_,rfl,by unfold TermOk; decide +kernel⟩
   · rw[if_neg z,if_pos (ω166 hlt z)] at hx; cases hx; exact⟨_,rfl,by unfold TermOk; decide +kernel⟩
  subst hd
  refine⟨hlt,WpA.name ?_⟩
  refine WpS.cons (WpS1.setitem (WpE.ilist0 fun z hz=>?_))
  have o6:=o5.to (Le.upd (mo:=.ilist 0) hz)
  refine WpE.getOwn (show Lk (_::ρ) "self" (.ref a) from l1) (gR_Terminals g) o6 (v:=.ref T) rfl (WpE.loc rfl ?_)
  refine o_setD (Le.upd hz _ _ eT) (ω167 hlt hes) (WpS.nil ⟨ω168 hlt,l1,o6.upd t1 t2 t3,?_,?_,?_,Counts.add hxo eT hes hT hz⟩)
  · rw[upd_ne _ _ nPT]; exact Le.upd hz _ _ eP
  · rw[upd_ne _ _ nNT]; exact Le.upd hz _ _ eN
  · rw[upd_ne _ _ nMT]; exact Le.upd hz _ _ eM
 | none=>
  have hk2:k=2:=by have:2≤k:=List.getElem?_eq_none_iff.mp hx; exact ω169 this hk
  subst hk2
  refine WpS.cons (WpS1.setitem (WpE.ilist0 fun z hz=>?_))
  have o6:=o5.to (Le.upd (mo:=.ilist 0) hz)
  refine WpE.getOwn l1 (gR_Terminals g) o6 (v:=.ref T) rfl (WpE.str ?_)
  refine o_setD (Le.upd hz _ _ eT) (ω170 hes) ?_
  have ct:=Counts.add (x:="error") (show TermOk "error" by unfold TermOk; decide +kernel) eT hes hT hz
  refine WpS.gen (P:=fun μ'=>Own μ 283 a da _ μ'∧μ' P=some (.list [.none])∧μ' N=some (.sdict [])∧μ' M=some (.sdict [])∧Counts μ' T 3 TermOk) ⟨o6.upd t1 t2 t3,?_,?_,?_,ct⟩ ?_
  · rw[upd_ne _ _ nPT]; exact Le.upd hz _ _ eP
  · rw[upd_ne _ _ nNT]; exact Le.upd hz _ _ eN
  · rw[upd_ne _ _ nMT]; exact Le.upd hz _ _ eM
  clear o6 eP eN eM eT hes hT ct o5 hz
  intro μ₇ hh
  refine and5 hh fun o7 eP eN eM ct=>?_
  clear hh
  have ni:∀{fs:List (Str×MV)},MO.list [.none]≠.idict fs:=fun z=>nomatch z
  have nd:∀{es:List (Str×MV)}{fs:List (Str×MV)},MO.sdict es≠.idict fs:=fun z=>nomatch z
  refine WpS.cons (WpS1.setOwnAt o7 l1 (sR_Nonterminals g) (by simp) ?_)
  refine WpE.dict0 fun X hX=>⟨μ,o7.to (Le.upd hX),fun μ₈ o8 lb8=>?_⟩
  obtain⟨x1,x2,x3⟩:=o7.new hX
  obtain⟨ts7,eT7,_⟩:=ct.ex
  have nXN:X≠N:=fun z=>by rw[z,eN] at hX; cases hX
  have nXM:X≠M:=fun z=>by rw[z,eM] at hX; cases hX
  have nXT:X≠T:=fun z=>by rw[z,eT7] at hX; cases hX
  have l8:=lb8.i (o7.to (Le.upd hX)).flds
  have eX8:μ₈ X=some (.sdict []):=l8 _ _ (fun _=>nd) (upd_same _ _ _)
  have k8:=(Le.upd hX).i.trans l8
  refine WpS.cons (WpS1.setOwnAt o8 l1 (sR_First g) (by simp) ?_)
  refine WpE.dict0 fun Y hY=>⟨μ,o8.to (Le.upd hY),fun μ₉ o9 lb9=>?_⟩
  have l9:=(Le.upd hY).i.trans (lb9.i (o8.to (Le.upd hY)).flds)
  refine WpS.cons (WpS1.setOwnAt o9 l1 (sR_Follow g) (by simp) ?_)
  refine WpE.dict0 fun Z hZ=>⟨μ,o9.to (Le.upd hZ),fun μa oa lba=>?_⟩
  have la:=(Le.upd hZ).i.trans (lba.i (o9.to (Le.upd hZ)).flds)
  refine WpS.cons (WpS1.setOwnAt oa l1 (sR_Precedence g) (by simp) ?_)
  refine WpE.dict0 fun R hR=>⟨μ,oa.to (Le.upd hR),fun μb ob lbb=>?_⟩
  obtain⟨r1,r2,r3⟩:=oa.new hR
  have e7a:LeI μ₇ μa:=(k8.trans l9).trans la
  have nRN:R≠N:=fun z=>by rw[z,e7a _ _ (fun _=>nd) eN] at hR; cases hR
  have nRM:R≠M:=fun z=>by rw[z,e7a _ _ (fun _=>nd) eM] at hR; cases hR
  have nRT:R≠T:=fun z=>by rw[z,e7a _ _ (fun _=>nd) eT7] at hR; cases hR
  have nRX:R≠X:=fun z=>by rw[z,(l9.trans la) _ _ (fun _=>nd) eX8] at hR; cases hR
  have lb:=lbb.i (oa.to (Le.upd hR)).flds
  have eRb:μb R=some (.sdict []):=lb _ _ (fun _=>nd) (upd_same _ _ _)
  have kb:=(Le.upd hR).i.trans lb
  refine WpS.cons (WpS1.setOwnAt ob l1 (sR_UsedPrecedence g) (by simp) ?_)
  refine WpE.callT0 (bn_set g) (o_set0 fun U hU=>⟨μ,ob,fun μc oc lbc=>?_⟩)
  have lc:=lbc.i ob.flds
  refine WpS.cons (WpS1.setOwnAt oc l1 (sR_Start g) (by simp) ?_)
  refine WpE.none ⟨μ,oc,fun μd od lbd=>?_⟩
  have ld:=lbd.i oc.flds
  have e7:LeI μ₇ μd:=((((k8.trans l9).trans la).trans kb).trans lc).trans ld
  have e8:LeI μ₈ μd:=(((l9.trans la).trans kb).trans lc).trans ld
  have eb:LeI μb μd:=lc.trans ld
  refine WpS.nil ⟨rfl,q ⟨a,da,P,N,M,T,X,R⟩ _ μd od ⟨rfl,rfl,rfl,rfl,rfl,rfl,rfl,rfl,rfl,rfl⟩ (by simp) (e7 _ _ (fun _=>ni) eP) (e7 _ _ (fun _=>nd) eN) (e7 _ _ (fun _=>nd) eM) (ct.to e7) (e8 _ _ (fun _=>nd) eX8) (eb _ _ (fun _=>nd) eRb) ?_ ⟨nMN,Ne.symm nNT,nXN,nRN,Ne.symm nMT,nXM,nRM,nXT,nRT,nRX⟩⟩
  intro b hb
  simp only[List.mem_cons,List.not_mem_nil,or_false] at hb
  rcases hb with rfl | rfl | rfl | rfl | rfl | rfl
  · exact⟨p1,p2,p3⟩
  · exact⟨n1,n2,n3⟩
  · exact⟨q1,q2,q3⟩
  · exact⟨t1,t2,t3⟩
  · exact⟨x1,x2,x3⟩
  · exact⟨r1,r2,r3⟩
end
noncomputable def sel (pas:List Addr) (rs:List Rule) (x:Str):List Addr:=((pas.zip rs).filter fun z=>z.2.1 == x).map (·.1)
theorem sel_snoc {pas:List Addr}{rs:List Rule} (hl:pas.length=rs.length) (p:Addr) (r:Rule) (x:Str):sel (pas++[p]) (rs++[r]) x=sel pas rs x++(if r.1=x then [p] else []):=by
 unfold sel
 rw[List.zip_append hl,List.filter_append,List.map_append]
 congr 1
 by_cases h:r.1=x
 · rw[if_pos h]; simp[h]
 · rw[if_neg h]; simp[h]
noncomputable def mapKey (r:Rule):Str:=r.1++arrow++showL r.2
structure GS (μ:Mem) (a:GA) (head:MV) (pas:List Addr) (rs:List Rule) (c b:Nat):Prop where
 inst:μ a.gr=some (.inst 283 a.dg)
 flds:∃ fs,μ a.dg=some (.idict fs)∧GramF fs a∧fs.length≤c
 prods:μ a.P=some (.list (head::pas.map .ref))
 len:pas.length=rs.length
 each:∀ j p r,pas[j]?=some p→rs[j]?=some r→∃ dp nx,ProdAt μ p dp c (j+1) r nx
 names:∃(es:List (Str×MV)) (adr:Str→Addr),μ a.N=some (.sdict es)∧es.length≤rs.length∧(∀ x,if sel pas rs x=[] then atM es x=none else atM es x=some (.ref (adr x))∧μ (adr x)=some (.list ((sel pas rs x).map .ref))∧adr x≠a.P)∧∀ x y,sel pas rs x≠[]→sel pas rs y≠[]→adr x=adr y→x=y
 map:∃ es,μ a.M=some (.sdict es)∧es.length≤rs.length∧∀ k v,atM es k=some v→∃ r∈rs,k=mapKey r
 terms:Counts μ a.T b TermOk
 nons:Counts μ a.X b fun _=>True
 prec:μ a.R=some (.sdict [])
 start:∀ r∈rs,∃ es v,μ a.X=some (.sdict es)∧atM es r.1=some v
 sep:a.M≠a.N∧a.T≠a.N∧a.X≠a.N∧a.R≠a.N∧a.T≠a.M∧a.X≠a.M∧a.R≠a.M∧a.X≠a.T∧a.R≠a.T∧a.R≠a.X
theorem GS.init {μ:Mem}{a:GA}{fs:List (Str×MV)} (h1:μ a.gr=some (.inst 283 a.dg)) (h2:μ a.dg=some (.idict fs)) (h3:GramF fs a) (h3':fs.length≤20) (h4:μ a.P=some (.list [.none])) (h5:μ a.N=some (.sdict [])) (h6:μ a.M=some (.sdict [])) (h7:Counts μ a.T 3 TermOk) (h8:μ a.X=some (.sdict [])) (h9:μ a.R=some (.sdict []))
 (hs:a.M≠a.N∧a.T≠a.N∧a.X≠a.N∧a.R≠a.N∧a.T≠a.M∧a.X≠a.M∧a.R≠a.M∧a.X≠a.T∧a.R≠a.T∧a.R≠a.X):GS μ a .none [] [] 20 3:=by
 refine⟨h1,⟨fs,h2,h3,h3'⟩,h4,rfl,(fun j p r h=>by simp at h),⟨[],fun _=>0,h5,by simp,fun x=>by simp[sel,atM],fun x y h=>absurd (show sel [] [] x=[] by simp[sel]) h⟩,⟨[],h6,by simp,fun k v h=>by cases h⟩,h7,⟨[],h8,by simp,fun x v h=>by cases h⟩,h9,(fun r h=>by cases h),hs⟩
theorem ProdAt.to {μ μ':Mem}{p dp:Addr}{c c' i:Nat}{r:Rule}{nx:MV} (x:ProdAt μ p dp c i r nx) (h1:μ' p=μ p) (h2:μ' dp=μ dp) (hc:c≤c'):ProdAt μ' p dp c' i r nx:=by
 obtain⟨a,fs,b,d,e⟩:=x
 exact⟨h1.trans a,fs,h2.trans b,ω171 d hc,e⟩
theorem ProdAt.le {μ μ':Mem}{p dp:Addr}{c i:Nat}{r:Rule}{nx:MV} (x:ProdAt μ p dp c i r nx) (l:Le μ μ'):ProdAt μ' p dp c i r nx:=by
 obtain⟨a,fs,b,d⟩:=x
 exact⟨l _ _ a,fs,l _ _ b,d⟩
theorem GS.le {μ μ':Mem}{a:GA}{head:MV}{pas:List Addr}{rs:List Rule}{c b:Nat} (x:GS μ a head pas rs c b) (l:Le μ μ'):GS μ' a head pas rs c b where
 inst:=l _ _ x.inst
 flds:=let ⟨fs,h1,h2⟩:=x.flds; ⟨fs,l _ _ h1,h2⟩
 prods:=l _ _ x.prods
 len:=x.len
 each:=fun j p r h1 h2=>let ⟨dp,nx,h3⟩:=x.each j p r h1 h2; ⟨dp,nx,h3.le l⟩
 names:=by
  obtain⟨es,adr,h1,h2,h3,h4⟩:=x.names
  refine⟨es,adr,l _ _ h1,h2,fun y=>?_,h4⟩
  have:=h3 y
  split
  · rename_i hz; rw[if_pos hz] at this; exact this
  · rename_i hz; rw[if_neg hz] at this; exact⟨this.1,l _ _ this.2.1,this.2.2⟩
 map:=let ⟨es,h1,h2⟩:=x.map; ⟨es,l _ _ h1,h2⟩
 terms:=x.terms.to l.i
 nons:=x.nons.to l.i
 prec:=l _ _ x.prec
 start:=fun r hr=>let ⟨es,v,h1,h2⟩:=x.start r hr; ⟨es,v,l _ _ h1,h2⟩
 sep:=x.sep
theorem GS.setP {μ:Mem}{a:GA}{head head':MV}{pas:List Addr}{rs:List Rule}{c b:Nat} (x:GS μ a head pas rs c b):GS (upd μ a.P (.list (head'::pas.map .ref))) a head' pas rs c b:=by
 have ne:∀{y:Addr}{mo:MO},μ y=some mo→(∀ l,mo≠.list l)→upd μ a.P (.list (head'::pas.map .ref)) y=some mo:=fun {y mo} e h=>by
  rw[upd_ne _ _ (fun z=>by rw[z,x.prods] at e; cases e; exact h _ rfl)]; exact e
 obtain⟨fs,f1,f2⟩:=x.flds
 obtain⟨es,adr,n1,n2,n3,n4⟩:=x.names
 obtain⟨ms,p1,p2⟩:=x.map
 have ct:∀{D:Addr}{ok:Str→Prop},Counts μ D b ok→Counts (upd μ a.P (.list (head'::pas.map .ref))) D b ok:=fun {D ok} ⟨es,h1,h2,h3⟩=>
  ⟨es,ne h1 (fun _ z=>nomatch z),h2,fun y v hy=>let ⟨h4,l,k,h5,h6,h7⟩:=h3 y v hy; ⟨h4,l,k,h5,ne h6 (fun _ z=>nomatch z),h7⟩⟩
 refine⟨ne x.inst (fun _ z=>nomatch z),⟨fs,ne f1 (fun _ z=>nomatch z),f2⟩,upd_same _ _ _,x.len,fun j p r h1 h2=>?_,⟨es,adr,ne n1 (fun _ z=>nomatch z),n2,fun y=>?_,n4⟩,⟨ms,ne p1 (fun _ z=>nomatch z),p2⟩,ct x.terms,ct x.nons,ne x.prec (fun _ z=>nomatch z),fun r hr=>?_,x.sep⟩
 · obtain⟨dp,nx,h3,ps,h4,h5⟩:=x.each j p r h1 h2
   exact⟨dp,nx,ne h3 (fun _ z=>nomatch z),ps,ne h4 (fun _ z=>nomatch z),h5⟩
 · have:=n3 y
   split
   · rename_i hz; rw[if_pos hz] at this; exact this
   · rename_i hz; rw[if_neg hz] at this
     exact⟨this.1,by rw[upd_ne _ _ this.2.2]; exact this.2.1,this.2.2⟩
 · obtain⟨es,v,h1,h2⟩:=x.start r hr
   exact⟨es,v,ne h1 (fun _ z=>nomatch z),h2⟩
theorem GS.count {μ:Mem}{a:GA}{head:MV}{pas:List Addr}{rs:List Rule}{c b l k:Nat} (x:GS μ a head pas rs c b) (e:μ l=some (.ilist k)) (hk:k≤b):GS (upd μ l (.ilist (k+1))) a head pas rs c (b+1):=by
 have ne:∀{y:Addr}{mo:MO},μ y=some mo→(∀ l,mo≠.ilist l)→upd μ l (.ilist (k+1)) y=some mo:=fun {y mo} e' h=>by
  rw[upd_ne _ _ (fun z=>by rw[z,e] at e'; cases e'; exact h _ rfl)]; exact e'
 obtain⟨fs,f1,f2⟩:=x.flds
 obtain⟨es,adr,n1,n2,n3,n4⟩:=x.names
 obtain⟨ms,p1,p2⟩:=x.map
 have ct:∀{D:Addr}{ok:Str→Prop},Counts μ D b ok→Counts (upd μ l (.ilist (k+1))) D (b+1) ok:=fun {D ok} ⟨es,h1,h2,h3⟩=>
  ⟨es,ne h1 (fun _ z=>nomatch z),ω15 h2,fun y v hy=>by
   obtain⟨h4,l',k',h5,h6,h7⟩:=h3 y v hy
   by_cases z:l'=l
   · exact⟨h4,l',k+1,h5,by rw[z,upd_same],ω66 hk⟩
   · exact⟨h4,l',k',h5,by rw[upd_ne _ _ z]; exact h6,ω15 h7⟩⟩
 refine⟨ne x.inst (fun _ z=>nomatch z),⟨fs,ne f1 (fun _ z=>nomatch z),f2⟩,ne x.prods (fun _ z=>nomatch z),x.len,fun j p r h1 h2=>?_,⟨es,adr,ne n1 (fun _ z=>nomatch z),n2,fun y=>?_,n4⟩,⟨ms,ne p1 (fun _ z=>nomatch z),p2⟩,ct x.terms,ct x.nons,ne x.prec (fun _ z=>nomatch z),fun r hr=>?_,x.sep⟩
 · obtain⟨dp,nx,h3,ps,h4,h5⟩:=x.each j p r h1 h2
   exact⟨dp,nx,ne h3 (fun _ z=>nomatch z),ps,ne h4 (fun _ z=>nomatch z),h5⟩
 · have:=n3 y
   split
   · rename_i hz; rw[if_pos hz] at this; exact this
   · rename_i hz; rw[if_neg hz] at this
     exact⟨this.1,ne this.2.1 (fun _ z=>nomatch z),this.2.2⟩
 · obtain⟨es,v,h1,h2⟩:=x.start r hr
   exact⟨es,v,ne h1 (fun _ z=>nomatch z),h2⟩
theorem GS.setG {μ:Mem}{a:GA}{head:MV}{pas:List Addr}{rs:List Rule}{c b:Nat} (x:GS μ a head pas rs c b) {fs fs':List (Str×MV)} (e:μ a.dg=some (.idict fs)) (g0:GramF fs a) (g1:GramF fs' a) {c':Nat} (hc:c≤c') (hl:fs'.length≤c'):GS (upd μ a.dg (.idict fs')) a head pas rs c' b:=by
 have ne:∀{y:Addr}{mo:MO},μ y=some mo→(∀ l,mo≠.idict l)→upd μ a.dg (.idict fs') y=some mo:=fun {y mo} e' h=>by
  rw[upd_ne _ _ (fun z=>by rw[z,e] at e'; cases e'; exact h _ rfl)]; exact e'
 obtain⟨es,adr,n1,n2,n3,n4⟩:=x.names
 obtain⟨ms,p1,p2⟩:=x.map
 have li:LeI μ (upd μ a.dg (.idict fs')):=fun y mo h e'=>ne e' h
 refine⟨ne x.inst (fun _ z=>nomatch z),⟨fs',upd_same _ _ _,g1,hl⟩,ne x.prods (fun _ z=>nomatch z),x.len,fun j p r h1 h2=>?_,⟨es,adr,ne n1 (fun _ z=>nomatch z),n2,fun y=>?_,n4⟩,⟨ms,ne p1 (fun _ z=>nomatch z),p2⟩,x.terms.to li,x.nons.to li,ne x.prec (fun _ z=>nomatch z),fun r hr=>?_,x.sep⟩
 · obtain⟨dp,nx,h3,ps,h4,h5,h6,h7,h8⟩:=x.each j p r h1 h2
   refine⟨dp,nx,ne h3 (fun _ z=>nomatch z),ps,?_,ω171 h5 hc,h6,h7,h8⟩
   rw[upd_ne _ _ (fun z=>by rw[z,e] at h4; cases h4; rw[g0.m4] at h7; cases h7)]; exact h4
 · have:=n3 y
   split
   · rename_i hz; rw[if_pos hz] at this; exact this
   · rename_i hz; rw[if_neg hz] at this
     exact⟨this.1,ne this.2.1 (fun _ z=>nomatch z),this.2.2⟩
 · obtain⟨es,v,h1,h2⟩:=x.start r hr
   exact⟨es,v,ne h1 (fun _ z=>nomatch z),h2⟩
section
variable {G:Gd}{n:Nat}{cx:Cx}{μ:Mem}{Φ:MV→Mem→Prop}
theorem c_start (g:Law G) {a:GA}{pas:List Addr}{rs:List Rule}{c b:Nat}{nx:MV} (gs:GS μ a .none pas rs c b) (hS:∃ r∈rs,r.1="S") (hb:b≤1000) (hpl:pas.length≤1000) (hc:c≤900)
 (q:∀ p dp μ',μ p=none→ProdAt μ' p dp 20 0 (START,["S"]) .none→GS μ' a (.ref p) pas rs (c+1) (b+1)→Φ .none μ'):WpC G (n+7) μ 209 [.ref a.gr,.str "S"] Φ:=by
 obtain⟨fs,hfs,gf,hfl⟩:=gs.flds
 refine call_plain' g [("self",.ref a.gr),("start",.str "S")] (fun _=>by rfl) (fun _=>by kernel_rfl) ?_ ?_
 · intro s vs k rs
   cases rs with | cons r1 rs=>cases rs with | cons r2 rs=>cases rs with | nil=>
   exact⟨_,BindsTo.of_defaults (T:=202) rfl (k 202 _ (by rw[g]; rfl)) rfl rfl rfl,.cons r1 (.cons r2 .nil)⟩
 refine WpS.cons (WpS1.ite (WpT.not (WpT.val (WpE.loc rfl (o_truthS (by decide +kernel) ?_)))))
 refine ite_f (by decide +kernel) (WpS.nil ?_)
 obtain⟨r,hr,hrS⟩:=hS
 obtain⟨xs,v,hX,hv⟩:=gs.start r hr
 rw[hrS] at hv
 refine WpS.cons (WpS1.ite (WpT.cmp (WpE.loc rfl (WpE.attr (WpE.loc rfl (o_getattr gs.inst hfs gf.X (gR_Nonterminals g) ?_))))))
 refine o_notinD hX ⟨_,rfl,?_⟩
 rw[hv]
 refine ite_f (by simp) (WpS.nil ?_)
 refine WpS.cons (WpS1.setitem ?_)
 refine WpE.callG (gn_Production g) (gk_Production g) (WpEs.cons (WpE.int (WpEs.cons (WpE.str (WpEs.cons (WpE.list (WpEs.cons (WpE.loc rfl (WpEs.nil ⟨by simp,fun l hl=>WpEs.nil ?_⟩)))))))))
 have gs1:=gs.le (Le.upd (mo:=.list [.str "S"]) hl)
 refine c_prod3 g (i:=0) (r:=(START,["S"])) (upd_same _ _ _) (by decide) (by decide +kernel) (by decide +kernel) fun p dp μ₁ hp _ hpr l₁=>?_
 have hpμ:μ p=none:=by
  cases z:μ p with
  | none=>rfl
  | some mo=>rw[Le.upd hl _ _ z] at hp; cases hp
 have gs2:=gs1.le l₁
 have lt:Le μ μ₁:=(Le.upd hl).trans l₁
 refine WpE.attr (WpE.loc rfl (o_getattr gs2.inst (lt _ _ hfs) gf.P (gR_Productions g) (WpE.int ?_)))
 refine o_setL (k:=0) gs2.prods (by simp) (by simp; exact ω172 hpl) ?_
 have gs3:=gs2.setP (head':=.ref p)
 have nP:∀{y:Addr}{mo:MO},μ₁ y=some mo→(∀ l,mo≠.list l)→upd μ₁ a.P (.list (.ref p::pas.map .ref)) y=some mo:=fun {y mo} e h=>by
  rw[upd_ne _ _ (fun z=>by rw[z,gs2.prods] at e; cases e; exact h _ rfl)]; exact e
 have pr3:ProdAt (upd μ₁ a.P (.list (.ref p::pas.map .ref))) p dp 20 0 (START,["S"]) .none:=by
  obtain⟨h1,ps,h2,h3⟩:=hpr
  exact⟨nP h1 (fun _ z=>nomatch z),ps,nP h2 (fun _ z=>nomatch z),h3⟩
 refine WpS.gen (P:=fun μ₂=>GS μ₂ a (.ref p) pas rs c b∧ProdAt μ₂ p dp 20 0 (START,["S"]) .none∧μ₂ a.dg=some (.idict fs)∧μ₂ a.X=some (.sdict xs)) ⟨gs3,pr3,nP (lt _ _ hfs) (fun _ z=>nomatch z),nP (lt _ _ hX) (fun _ z=>nomatch z)⟩ ?_
 clear gs3 pr3 nP lt gs2 gs1 hpr
 intro μ₂ hh
 refine and4 hh fun gs3 pr3 hf3 hX3=>?_
 clear hh
 obtain⟨es',e1,e2,e3⟩:=gs3.nons
 rw[hX3] at e1
 cases e1
 obtain⟨_,l',k,rfl,hk1,hk2⟩:=e3 _ _ hv
 refine WpS.cons (WpS1.expr (WpE.methB (id:="list.append") _ (WpE.sub (WpE.attr (WpE.loc rfl (o_getattr gs3.inst hf3 gf.X (gR_Nonterminals g) (WpE.loc rfl ?_)))))))
 refine o_item_sdict hX3 hv ⟨gets_ilist hk1 PySem.F.slot_list_append PySem.F.type_list_append,WpEs.cons (WpE.int (WpEs.nil ?_))⟩
 refine o_appendI hk1 (ω173 hb hk2) ⟨rfl,?_⟩
 have gs4:=gs3.count hk1 hk2
 have ni:∀{y:Addr}{mo:MO},μ₂ y=some mo→(∀ l,mo≠.ilist l)→upd μ₂ l' (.ilist (k+1)) y=some mo:=fun {y mo} e h=>by
  rw[upd_ne _ _ (fun z=>by rw[z,hk1] at e; cases e; exact h _ rfl)]; exact e
 have pr4:ProdAt (upd μ₂ l' (.ilist (k+1))) p dp 20 0 (START,["S"]) .none:=by
  obtain⟨h1,ps,h2,h3⟩:=pr3
  exact⟨ni h1 (fun _ z=>nomatch z),ps,ni h2 (fun _ z=>nomatch z),h3⟩
 have hf4:=ni hf3 (fun _ z=>nomatch z)
 refine WpS.cons (WpS1.setattr (WpE.loc rfl (WpE.loc rfl (o_setattr gs4.inst hf4 (ω174 hc hfl) (sR_Start g) ?_))))
 have gf5:GramF ((("Start":Str),MV.str "S")::fs) a:=by
  have nx:∀(y:Str),y≠"Start"→atM ((("Start":Str),MV.str "S")::fs) y=atM fs y:=fun y h=>by rw[atM_cons,if_neg h]
  exact⟨(nx _ (by decide)).trans gf.P,(nx _ (by decide)).trans gf.N,(nx _ (by decide)).trans gf.M,(nx _ (by decide)).trans gf.T,(nx _ (by decide)).trans gf.X,(nx _ (by decide)).trans gf.R,(nx _ (by decide)).trans gf.m1,(nx _ (by decide)).trans gf.m2,(nx _ (by decide)).trans gf.m3,(nx _ (by decide)).trans gf.m4⟩
 have gs5:=gs4.setG hf4 gf gf5 (c':=c+1) ω175 (by simp; omega)
 refine WpS.nil (q p dp _ hpμ ?_ gs5)
 obtain⟨h1,ps,h2,h3,h4,h5,h6⟩:=pr4
 refine⟨?_,ps,?_,h3,h4,h5,h6⟩
 · rw[upd_ne _ _ (fun z=>by rw[z,hf4] at h1; cases h1)]; exact h1
 · rw[upd_ne _ _ (fun z=>by rw[z,hf4] at h2; cases h2; rw[gf.m4] at h5; cases h5)]; exact h2
end
noncomputable def isNoneV:Value→Bool
 | .none=>true
 | _=>false
theorem isNoneV_shape {v:Value} (h:isNoneV v=true):v=.none:=by cases v <;> first | rfl | cases h
theorem eqBool_none {prog:Program}{w:World}{A:Around}{E:Value→Shared→Prop}{s:Shared}{Q:Bool→Shared→Prop} (h:Q true s):wpAny (model prog w) A (eqBool .none .none) Q E s:=by
 unfold eqBool
 refine wpAny_holding ?_
 rw[if_pos (by decide)]
 exact wpAny_bind (wpAny_rule (wpAny_pure h))
noncomputable def noneKind (prog:Program) (w:World):PySem.KeyKind prog w Unit where
 is:=fun _ v=>isNoneV v
 hash:=fun _=>hashW w.params .none
 inj:=fun _ _ _ _ _=>rfl
 byValue:=fun k v h=>by rw[isNoneV_shape h]; rfl
 pyHash:=fun hv h=>by
  rw[isNoneV_shape hv]
  exact pyHash_slot (T:="NoneType") rfl F.slot_NoneType_hash F.entry_NoneType_hash (F.args_NoneType_hash_1 _) (beq_builtin_none _) (.inl rfl) (wpAny_bind (wpAny_pure (wpAny_bind (wpAny_mkInt (wpAny_pure ⟨_,_,rfl,h⟩)))))
 eqBool:=fun hu hv h=>by rw[isNoneV_shape hu,isNoneV_shape hv]; exact eqBool_none (by simpa using h)
 «strs»:=fun k x t v h=>(by cases h)
section
variable {G:Gd}{n:Nat}{cx:Cx}{μ:Mem}{Φ:MV→Mem→Prop}
theorem o_getN {a:Addr}{d:MV} (e:μ a=some (.sdict [])) (q:Φ d μ):WpOs G n μ [.ref a,.none,d] (fun vs=>call (.builtin "dict.get") vs) Φ:=fun A fenv h₀ L s am i vs rs=>by
 cases rs with | cons ra rs=>cases rs with | cons rx rs=>cases rs with | cons rd rs=>cases rs with | nil=>
 rename_i v
 rw[ra.isRef,rx.isNone]
 obtain⟨kvs,hd,r,hsm⟩:=i.sim a _ e
 have hk:kvs=[]:=by cases r; rfl
 subst hk
 have hd':s.heap.DictOf (noneKind G.prog G.w) a []:=by
  obtain⟨o,es,ep,h1,h2,h3,h4,h5,h6⟩:=hd
  have:es = #[]:=by
   cases z:es.toList with
   | nil=>simpa using z
   | cons a b=>rw[z] at h5; cases h5
  subst this
  exact⟨o,#[],ep,h1,h2,h3,(fun e he=>by simp at he),.nil,List.nodup_nil⟩
 exact call_meetsIn PySem.F.slot_dict_get hd.typeIs PySem.F.entry_dict_get (PySem.F.args_dict_get_3 _ _ _) (meets_dict_get_default (k:=()) (noneKind G.prog G.w) a rfl hsm v) ⟨_,hd'.mapOf,PostE.same i.sim rd q⟩
end
noncomputable def sub (κ μ:Mem):Mem:=fun b=>if (κ b).isSome then none else μ b
theorem sub_in {κ μ:Mem}{b:Addr} (h:κ b≠none):sub κ μ b=none:=by
 unfold sub
 cases z:κ b with
 | none=>exact absurd z h
 | some mo=>rfl
theorem sub_out {κ μ:Mem}{b:Addr} (h:κ b=none):sub κ μ b=μ b:=by unfold sub; rw[h]; rfl
theorem sub_of {κ μ:Mem}{b:Addr}{mo:MO} (h:sub κ μ b=some mo):κ b=none∧μ b=some mo:=by
 cases z:κ b with
 | none=>exact⟨rfl,by rwa [sub_out z] at h⟩
 | some m=>rw[sub_in (by rw[z]; exact fun w=>nomatch w)] at h; cases h
theorem sub_le (κ μ:Mem):Le (sub κ μ) μ:=fun b mo e=>(sub_of e).2
theorem sub_upd_in {κ μ:Mem}{l:Addr} (h:κ l≠none) (mo:MO):sub κ (upd μ l mo)=sub κ μ:=by
 funext b
 cases z:κ b with
 | none=>rw[sub_out z,sub_out z,upd_ne _ _ (fun w:b=l=>h (w▸z))]
 | some m=>rw[sub_in (by rw[z]; exact fun w=>nomatch w),sub_in (by rw[z]; exact fun w=>nomatch w)]
theorem sub_upd_out {κ μ:Mem}{D:Addr} (h:κ D=none) (mo:MO):sub κ (upd μ D mo)=upd (sub κ μ) D mo:=by
 funext b
 by_cases hd:b=D
 · rw[hd,sub_out h,upd_same,upd_same]
 · rw[upd_ne _ _ hd]
   cases z:κ b with
   | none=>rw[sub_out z,sub_out z,upd_ne _ _ hd]
   | some m=>rw[sub_in (by rw[z]; exact fun w=>nomatch w),sub_in (by rw[z]; exact fun w=>nomatch w)]
theorem sub_le_of {κ μ μ':Mem} (l:Le μ μ'):Le (sub κ μ) (sub κ μ'):=fun b mo e=>by
 obtain⟨h1,h2⟩:=sub_of e
 rw[sub_out h1]; exact l _ _ h2
noncomputable def raw (r:List Str):List Str:=r.map fun x:Str=>if x=(".":Str) then("'.'":Str) else x
theorem Counts.grow {μ:Mem}{D:Addr}{b b':Nat}{ok:Str→Prop} (x:Counts μ D b ok) (h:b≤b'):Counts μ D b' ok:=by
 obtain⟨es,h1,h2,h3⟩:=x
 exact⟨es,h1,ω171 h2 h,fun y v hy=>let ⟨h4,l,k,h5,h6,h7⟩:=h3 y v hy; ⟨h4,l,k,h5,h6,ω171 h7 h⟩⟩
theorem GS.addT {μ:Mem}{a:GA}{head:MV}{pas:List Addr}{rs:List Rule}{c b:Nat} (x:GS μ a head pas rs c b) {l:Addr} (hl:μ l=none) {es:List (Str×MV)} (e:μ a.T=some (.sdict es)) {y:Str} (hy:TermOk y):GS (upd (upd μ l (.ilist 0)) a.T (.sdict (putM es y (.ref l)))) a head pas rs c (b+1):=by
 have z:=x.le (Le.upd (mo:=.ilist 0) hl)
 have e1:=Le.upd (mo:=.ilist 0) hl _ _ e
 obtain⟨es',t1,t2,t3⟩:=x.terms
 rw[e] at t1; cases t1
 have ct:=Counts.add hy e t2 t3 hl
 generalize upd μ l (.ilist 0)=μ₁ at z e1 ct
 have ne:∀{y':Addr}{mo:MO},μ₁ y'=some mo→(∀ l,mo≠.sdict l)→upd μ₁ a.T (.sdict (putM es y (.ref l))) y'=some mo:=fun {y' mo} e' h=>by
  rw[upd_ne _ _ (fun w=>by rw[w,e1] at e'; cases e'; exact h _ rfl)]; exact e'
 have nt:∀{y':Addr},y'≠a.T→upd μ₁ a.T (.sdict (putM es y (.ref l))) y'=μ₁ y':=fun h=>upd_ne _ _ h
 obtain⟨fs,f1,f2⟩:=z.flds
 obtain⟨ns,adr,n1,n2,n3,n4⟩:=z.names
 obtain⟨ms,p1,p2⟩:=z.map
 obtain⟨s1,s2,s3,s4,s5,s6,s7,s8,s9,s10⟩:=z.sep
 have cx:Counts (upd μ₁ a.T (.sdict (putM es y (.ref l)))) a.X (b+1) fun _=>True:=by
  obtain⟨xs,h1,h2,h3⟩:=z.nons
  refine⟨xs,(nt s8).trans h1,ω15 h2,fun y' v hy'=>?_⟩
  obtain⟨h4,l',k,h5,h6,h7⟩:=h3 y' v hy'
  exact⟨h4,l',k,h5,ne h6 (fun _ w=>nomatch w),ω15 h7⟩
 refine⟨ne z.inst (fun _ w=>nomatch w),⟨fs,ne f1 (fun _ w=>nomatch w),f2⟩,ne z.prods (fun _ w=>nomatch w),z.len,fun j p r h1 h2=>?_,⟨ns,adr,(nt (Ne.symm s2)).trans n1,n2,fun y'=>?_,n4⟩,⟨ms,(nt (Ne.symm s5)).trans p1,p2⟩,ct,cx,(nt s9).trans z.prec,fun r hr=>?_,z.sep⟩
 · obtain⟨dp,nx,h3,ps,h4,h5⟩:=z.each j p r h1 h2
   exact⟨dp,nx,ne h3 (fun _ w=>nomatch w),ps,ne h4 (fun _ w=>nomatch w),h5⟩
 · have:=n3 y'
   split
   · rename_i hz; rw[if_pos hz] at this; exact this
   · rename_i hz; rw[if_neg hz] at this
     exact⟨this.1,ne this.2.1 (fun _ w=>nomatch w),this.2.2⟩
 · obtain⟨xs,v,h1,h2⟩:=z.start r hr
   exact⟨xs,v,(nt s8).trans h1,h2⟩
theorem GS.addX {μ:Mem}{a:GA}{head:MV}{pas:List Addr}{rs:List Rule}{c b:Nat} (x:GS μ a head pas rs c b) {l:Addr} (hl:μ l=none) {es:List (Str×MV)} (e:μ a.X=some (.sdict es)) (y:Str):GS (upd (upd μ l (.ilist 0)) a.X (.sdict (putM es y (.ref l)))) a head pas rs c (b+1):=by
 have z:=x.le (Le.upd (mo:=.ilist 0) hl)
 have e1:=Le.upd (mo:=.ilist 0) hl _ _ e
 obtain⟨es',t1,t2,t3⟩:=x.nons
 rw[e] at t1; cases t1
 have ct:=Counts.add (x:=y) (ok:=fun _=>True) trivial e t2 t3 hl
 generalize upd μ l (.ilist 0)=μ₁ at z e1 ct
 have ne:∀{y':Addr}{mo:MO},μ₁ y'=some mo→(∀ l,mo≠.sdict l)→upd μ₁ a.X (.sdict (putM es y (.ref l))) y'=some mo:=fun {y' mo} e' h=>by
  rw[upd_ne _ _ (fun w=>by rw[w,e1] at e'; cases e'; exact h _ rfl)]; exact e'
 have nt:∀{y':Addr},y'≠a.X→upd μ₁ a.X (.sdict (putM es y (.ref l))) y'=μ₁ y':=fun h=>upd_ne _ _ h
 obtain⟨fs,f1,f2⟩:=z.flds
 obtain⟨ns,adr,n1,n2,n3,n4⟩:=z.names
 obtain⟨ms,p1,p2⟩:=z.map
 obtain⟨s1,s2,s3,s4,s5,s6,s7,s8,s9,s10⟩:=z.sep
 have cx:Counts (upd μ₁ a.X (.sdict (putM es y (.ref l)))) a.T (b+1) TermOk:=by
  obtain⟨xs,h1,h2,h3⟩:=z.terms
  refine⟨xs,(nt (Ne.symm s8)).trans h1,ω15 h2,fun y' v hy'=>?_⟩
  obtain⟨h4,l',k,h5,h6,h7⟩:=h3 y' v hy'
  exact⟨h4,l',k,h5,ne h6 (fun _ w=>nomatch w),ω15 h7⟩
 refine⟨ne z.inst (fun _ w=>nomatch w),⟨fs,ne f1 (fun _ w=>nomatch w),f2⟩,ne z.prods (fun _ w=>nomatch w),z.len,fun j p r h1 h2=>?_,⟨ns,adr,(nt (Ne.symm s3)).trans n1,n2,fun y'=>?_,n4⟩,⟨ms,(nt (Ne.symm s6)).trans p1,p2⟩,cx,ct,(nt s10).trans z.prec,fun r hr=>?_,z.sep⟩
 · obtain⟨dp,nx,h3,ps,h4,h5⟩:=z.each j p r h1 h2
   exact⟨dp,nx,ne h3 (fun _ w=>nomatch w),ps,ne h4 (fun _ w=>nomatch w),h5⟩
 · have:=n3 y'
   split
   · rename_i hz; rw[if_pos hz] at this; exact this
   · rename_i hz; rw[if_neg hz] at this
     exact⟨this.1,ne this.2.1 (fun _ w=>nomatch w),this.2.2⟩
 · obtain⟨xs,v,h1,h2⟩:=z.start r hr
   rw[e1] at h1; cases h1
   refine⟨_,if r.1=y then .ref l else v,upd_same _ _ _,?_⟩
   rw[atM_putM]
   split
   · rfl
   · exact h2
noncomputable def HasX (μ:Mem) (a:GA) (x:Str):Prop:=∃ es v,μ a.X=some (.sdict es)∧atM es x=some v
theorem HasX.le {μ μ':Mem}{a:GA}{x:Str} (h:HasX μ a x) (l:Le μ μ'):HasX μ' a x:=let ⟨es,v,h1,h2⟩:=h; ⟨es,v,l _ _ h1,h2⟩
theorem HasX.put {μ:Mem}{a:GA}{x:Str}{l:Addr} (hl:μ l=none) {es:List (Str×MV)} (e:μ a.X=some (.sdict es)) (y:Str) (h:x=y∨HasX μ a x):HasX (upd (upd μ l (.ilist 0)) a.X (.sdict (putM es y (.ref l)))) a x:=by
 refine⟨_,if x=y then .ref l else(atM es x).getD .none,upd_same _ _ _,?_⟩
 rw[atM_putM]
 split
 · rfl
 · rename_i hxy
   rcases h with h | ⟨es',v,h1,h2⟩
   · exact absurd h hxy
   · rw[e] at h1; cases h1; rw[h2]; rfl
theorem HasX.ne {μ:Mem}{a:GA}{x:Str}{b:Addr}{mo:MO} (h:HasX μ a x) (hb:∀ es,μ b≠some (.sdict es)):HasX (upd μ b mo) a x:=by
 obtain⟨es,v,h1,h2⟩:=h
 exact⟨es,v,by rw[upd_ne _ _ (fun z=>hb es (by rw[← z]; exact h1))]; exact h1,h2⟩
theorem WpS.cut {G:Gd}{n:Nat}{cx:Cx}{μ:Mem}{st:Stmt}{rest:List Stmt}{Φ:MF→List (Str×MV)→Mem→Prop} (P:List (Str×MV)→Mem→Prop) (p:WpS1 G n cx μ st fun f ρ' μ'=>f=.next∧P ρ' μ') (q:∀ ρ' μ',P ρ' μ'→WpS G n (cx.with ρ') μ' rest Φ):WpS G n cx μ (st::rest) Φ:=
 WpS.cons (p.mono fun f ρ μ h=>by obtain⟨rfl,h⟩:=h; exact q ρ μ h)
theorem kfresh {κ μ:Mem}{l z:Addr} (kμ:LeB l κ μ) (hl:μ l≠none) (hz:μ z=none):κ z=none:=by
 cases q:κ z with
 | none=>rfl
 | some mo=>
  by_cases h:z=l
  · exact absurd (h▸hz) hl
  · rw[kμ _ _ h q] at hz; cases hz
theorem LeB.out {κ μ:Mem}{l z:Addr}{mo:MO} (kμ:LeB l κ μ) (h:κ z=none):LeB l κ (Mine.upd μ z mo):=fun b m hb e=>by
 rw[upd_ne _ _ (fun w=>by rw[w,h] at e; cases e)]; exact kμ b m hb e
theorem LeB.at {κ μ:Mem}{l:Addr}{mo:MO} (kμ:LeB l κ μ):LeB l κ (Mine.upd μ l mo):=fun b m hb e=>by
 rw[upd_ne _ _ hb]; exact kμ b m hb e
theorem LeB.le2 {κ μ μ':Mem}{l:Addr} (kμ:LeB l κ μ) (x:Le μ μ'):LeB l κ μ':=fun b m hb e=>x _ _ (kμ b m hb e)
theorem strsM_set (l:List Str) (k:Nat) (x:Str):(strsM l).set k (.str x)=strsM (l.set k x):=by
 unfold strsM; rw[List.map_set]
theorem raw_step {r:List Str}{k:Nat} (hk:k<r.length):(r.take k++(raw r).drop k).set k (r.getD k "")=r.take (k+1)++(raw r).drop (k+1):=by
 have h1:(r.take k).length=k:=by simp; exact ω176 hk
 have h2:(raw r).drop k=(raw r)[k]'(by simp[raw]; exact hk)::(raw r).drop (k+1):=List.drop_eq_getElem_cons _
 rw[h2,List.set_append_right _ _ (ω125 h1),h1,Nat.sub_self,List.set_cons_zero,take_snoc (x:=r.getD k "") (by simp[List.getD,hk])]
 simp
theorem raw_same {r:List Str}{k:Nat} (hk:k<r.length) (hd:r.getD k ""≠"."):r.take k++(raw r).drop k=r.take (k+1)++(raw r).drop (k+1):=by
 have h2:(raw r).drop k=(raw r)[k]'(by simp[raw]; exact hk)::(raw r).drop (k+1):=List.drop_eq_getElem_cons _
 have h3:(raw r)[k]'(by simp[raw]; exact hk)=r.getD k "":=by
  have:r.getD k "" = r[k]:=by simp[List.getD,hk]
  rw[this] at hd ⊢
  simp[raw,hd]
 rw[h2,take_snoc (x:=r.getD k "") (by simp[List.getD,hk]),h3]
 simp
noncomputable def SYMS:List Str:=["a","b",".","S","A","B","error","N"]
section
variable {G:Gd}{n:Nat}{cx:Cx}{μ:Mem}{Φ:MV→Mem→Prop}
theorem name_ids {x:Str} (h:x∈NAMES):x∈IDS:=by
 revert h; unfold NAMES IDS
 simp only[List.mem_cons,List.not_mem_nil,or_false]
 rintro(rfl | rfl | rfl | rfl) <;> simp
theorem name_err {x:Str} (h:x∈NAMES):x≠"error":=by
 revert h; unfold NAMES
 simp only[List.mem_cons,List.not_mem_nil,or_false]
 rintro(rfl | rfl | rfl | rfl) <;> decide
theorem syms_ids:∀ x∈SYMS,x≠"."→x∈IDS:=by
 unfold SYMS IDS
 simp only[List.mem_cons,List.not_mem_nil,or_false]
 rintro x (rfl | rfl | rfl | rfl | rfl | rfl | rfl | rfl) h <;> simp at h ⊢
theorem ids_first:∀ x∈IDS,∃ c,x.cps[0]?=some c∧(seqIndex? 0 x.length).bind (x.cps[·]?)=some c∧(!(Builtin.Str.occurrences "'\"" ⟨#[c]⟩ 0 (Str.length "'\"") 1).isEmpty)=false:=by
 have h:∀ x∈IDS,(x.cps[0]?).isSome=true∧(seqIndex? 0 x.length).bind (x.cps[·]?)=x.cps[0]?∧(!(Builtin.Str.occurrences "'\"" ⟨#[(x.cps[0]?).getD 0]⟩ 0 (Str.length "'\"") 1).isEmpty)=false:=by decide +kernel
 intro x hx
 obtain⟨h1,h2,h3⟩:=h x hx
 obtain⟨c,hc⟩:=Option.isSome_iff_exists.mp h1
 rw[hc] at h2 h3
 exact⟨c,hc,h2,h3⟩
noncomputable def rowsN:Nat→List (List Str)
 | 0=>[[]]
 | k+1=>(rowsN k).flatMap fun r=>SYMS.map fun x=>r++[x]
theorem mem_rowsN:∀(k:Nat) (r:List Str),r.length=k→(∀ x∈r,x∈SYMS)→r∈rowsN k
 | 0,r,h,_=>by rw[List.length_eq_zero_iff.mp h]; exact .head _
 | k+1,r,h,hs=>by
  rcases List.eq_nil_or_concat r with rfl | ⟨i,x,rfl⟩
  · cases h
  · rw[List.concat_eq_append] at h hs ⊢
    simp at h
    exact List.mem_flatMap.mpr ⟨i,mem_rowsN k i h fun y hy=>hs y (List.mem_append_left _ hy),List.mem_map.mpr ⟨x,hs x (by simp),rfl⟩⟩
noncomputable def decodeAux:List Nat→List Nat→Bool→List Str
 | [],_,_=>[]
 | c::r,acc,inq=>if c=39 then(if inq then(⟨acc.reverse.toArray⟩:Str)::decodeAux r [] false else decodeAux r [] true) else if inq then decodeAux r (c::acc) inq else decodeAux r acc inq
noncomputable def decode (x:Str):List Str:=decodeAux x.cps.toList [] false
noncomputable def keyOk (k:Nat):Bool:=(rowsN k).all fun r=>decide ((showL r).length≤1000) && decide (decode (showL r)=r)
theorem keyOk0:keyOk 0=true:=by decide +kernel
theorem keyOk1:keyOk 1=true:=by decide +kernel
theorem keyOk2:keyOk 2=true:=by decide +kernel
theorem keyOk3:keyOk 3=true:=by decide +kernel
theorem upto3 {P:Nat→Prop} (h0:P 0) (h1:P 1) (h2:P 2) (h3:P 3) (k:Nat) (h:k<4):P k:=by
 cases k with
 | zero=>exact h0
 | succ k=>cases k with
  | zero=>exact h1
  | succ k=>cases k with
   | zero=>exact h2
   | succ k=>cases k with
    | zero=>exact h3
    | succ k=>exact absurd (Nat.lt_of_add_lt_add_right (n:=4) (k:=k) (m:=0) (Nat.zero_add 4▸h)) (Nat.not_lt_zero k)
theorem keyOk_all {k:Nat} (h:k≤3):keyOk k=true:=upto3 (P:=fun k=>keyOk k=true) keyOk0 keyOk1 keyOk2 keyOk3 k (Nat.lt_succ_of_le h)
theorem show_len {r:List Str} (h:r.length≤3) (hs:∀ x∈r,x∈SYMS):(showL r).length≤1000:=by
 have:=List.all_eq_true.mp (keyOk_all h) r (mem_rowsN _ r rfl hs)
 rw[Bool.and_eq_true] at this
 exact of_decide_eq_true this.1
theorem show_inj {r r':List Str} (h:r.length≤3) (hs:∀ x∈r,x∈SYMS) (h':r'.length≤3) (hs':∀ x∈r',x∈SYMS) (e:showL r=showL r'):r=r':=by
 have k:=List.all_eq_true.mp (keyOk_all h) r (mem_rowsN _ r rfl hs)
 have k':=List.all_eq_true.mp (keyOk_all h') r' (mem_rowsN _ r' rfl hs')
 rw[Bool.and_eq_true] at k k'
 have a:=of_decide_eq_true k.2
 have b:=of_decide_eq_true k'.2
 rw[← a,← b,e]
theorem str_append_toList (x y:Str):(x++y).cps.toList=x.cps.toList++y.cps.toList:=by
 show(x.cps++y.cps).toList = _
 simp
theorem mapKey_inj {r r':Rule} (h:r.2.length≤3) (hs:∀ x∈r.2,x∈SYMS) (hn:r.1∈NAMES) (h':r'.2.length≤3) (hs':∀ x∈r'.2,x∈SYMS) (hn':r'.1∈NAMES) (e:mapKey r=mapKey r'):r=r':=by
 have nl:∀ x∈NAMES,x.cps.toList.length=1:=by decide +kernel
 have ni:∀ x∈NAMES,∀ y∈NAMES,x.cps.toList=y.cps.toList→x=y:=by decide +kernel
 have e2:(mapKey r).cps.toList=(mapKey r').cps.toList:=by rw[e]
 unfold mapKey at e2
 rw[str_append_toList,str_append_toList,str_append_toList,str_append_toList,List.append_assoc,List.append_assoc] at e2
 obtain⟨e3,e4⟩:=List.append_inj e2 ((nl _ hn).trans (nl _ hn').symm)
 have e5:=List.append_cancel_left e4
 have e6:showL r.2=showL r'.2:=by
  cases z:showL r.2 with | mk c=>cases z':showL r'.2 with | mk c'=>
  rw[z,z'] at e5
  congr 1
  exact Array.toList_inj.mp e5
 exact Prod.ext (ni _ hn _ hn' e3) (show_inj h hs h' hs' e6)
end
noncomputable def NamesOk (μ:Mem) (a:GA) (pas:List Addr) (rs:List Rule):Prop:=∃(es:List (Str×MV)) (adr:Str→Addr),μ a.N=some (.sdict es)∧es.length≤rs.length∧(∀ x,if sel pas rs x=[] then atM es x=none else atM es x=some (.ref (adr x))∧μ (adr x)=some (.list ((sel pas rs x).map .ref))∧adr x≠a.P)∧∀ x y,sel pas rs x≠[]→sel pas rs y≠[]→adr x=adr y→x=y
theorem names_new {μ μ':Mem}{a:GA}{head:MV}{pas:List Addr}{rs:List Rule}{c b:Nat}{p:Addr}{r:Rule} (x:GS μ a head pas rs c b) {es:List (Str×MV)} (hN:μ a.N=some (.sdict es)) (h0:sel pas rs r.1=[]) {L:Addr} (hL:μ L=none)
 (kN:μ' a.N=some (.sdict (putM es r.1 (.ref L)))) (kL:μ' L=some (.list [.ref p])) (ko:∀ y l,y≠a.P→y≠L→μ y=some (.list l)→μ' y=some (.list l)):NamesOk μ' a (pas++[p]) (rs++[r]):=by
 refine ex2_4 (x.names) fun es' adr n1 n2 n3 n4=>?_
 rw[hN] at n1; cases n1
 refine⟨_,fun y=>if y=r.1 then L else adr y,kN,by have:=putM_length es r.1 (.ref L); simp; exact ω88 n2 this,fun y=>?_,fun y z hy hz e=>?_⟩
 · have:=n3 y
   rw[sel_snoc x.len,atM_putM]
   by_cases hy:y=r.1
   · subst hy
     rw[h0,if_pos rfl,if_pos rfl,List.nil_append,if_neg (by simp)]
     dsimp only
     rw[if_pos rfl]
     exact⟨rfl,kL,fun z=>by rw[z,x.prods] at hL; cases hL⟩
   · rw[if_neg (Ne.symm hy),List.append_nil,if_neg hy]
     split
     · rename_i hz; rw[if_pos hz] at this; exact this
     · rename_i hz; rw[if_neg hz] at this
       dsimp only
       rw[if_neg hy]
       exact⟨this.1,ko _ _ this.2.2 (fun z=>by rw[z,hL] at this; cases this.2.1) this.2.1,this.2.2⟩
 · have nl:∀ y,y≠r.1→sel (pas++[p]) (rs++[r]) y≠[]→sel pas rs y≠[]∧adr y≠L:=fun y hy h=>by
    rw[sel_snoc x.len,if_neg (Ne.symm hy),List.append_nil] at h
    have:=n3 y
    rw[if_neg h] at this
    exact⟨h,fun z=>by rw[z,hL] at this; cases this.2.1⟩
   dsimp only at e
   by_cases h1:y=r.1 <;> by_cases h2:z=r.1
   · rw[h1,h2]
   · rw[if_pos h1,if_neg h2] at e; exact absurd e.symm (nl z h2 hz).2
   · rw[if_neg h1,if_pos h2] at e; exact absurd e (nl y h1 hy).2
   · rw[if_neg h1,if_neg h2] at e; exact n4 _ _ (nl y h1 hy).1 (nl z h2 hz).1 e
theorem names_old {μ:Mem}{a:GA}{head:MV}{pas:List Addr}{rs:List Rule}{c b:Nat}{p:Addr}{r:Rule} (x:GS μ a head pas rs c b) {es:List (Str×MV)} (hN:μ a.N=some (.sdict es)) (h0:sel pas rs r.1≠[]) :
 ∃ A,atM es r.1=some (.ref A)∧μ A=some (.list ((sel pas rs r.1).map .ref))∧A≠a.P∧∀ μ':Mem,μ' a.N=some (.sdict es)→μ' A=some (.list ((sel pas rs r.1).map .ref++[.ref p]))→(∀ y l,y≠a.P→y≠A→μ y=some (.list l)→μ' y=some (.list l))→NamesOk μ' a (pas++[p]) (rs++[r]):=by
 refine ex2_4 (x.names) fun es' adr n1 n2 n3 n4=>?_
 rw[hN] at n1; cases n1
 have q:=n3 r.1
 rw[if_neg h0] at q
 refine⟨_,q.1,q.2.1,q.2.2,fun μ' kN kA ko=>?_⟩
 have sn:∀ y,sel (pas++[p]) (rs++[r]) y≠[]→sel pas rs y≠[]:=fun y h=>by
  rw[sel_snoc x.len] at h
  by_cases hy:r.1=y
  · rw[← hy]; exact h0
  · rw[if_neg hy,List.append_nil] at h; exact h
 refine⟨es,adr,kN,by simp; exact ω15 n2,fun y=>?_,fun y z hy hz e=>n4 _ _ (sn y hy) (sn z hz) e⟩
 have:=n3 y
 rw[sel_snoc x.len]
 by_cases hy:r.1=y
 · subst hy
   rw[if_pos rfl,if_neg (by simp)]
   exact⟨q.1,by rw[kA,List.map_append]; rfl,q.2.2⟩
 · rw[if_neg hy,List.append_nil]
   split
   · rename_i hz; rw[if_pos hz] at this; exact this
   · rename_i hz; rw[if_neg hz] at this
     exact⟨this.1,ko _ _ this.2.2 (fun z=>hy (n4 _ _ h0 hz z.symm)) this.2.1,this.2.2⟩
theorem GS.addP {μ:Mem}{a:GA}{head:MV}{pas:List Addr}{rs:List Rule}{c b:Nat} (x:GS μ a head pas rs c b) {p dp:Addr}{r:Rule} (hc:20≤c) (hp:ProdAt μ p dp 20 (rs.length+1) r .none) (hX:HasX μ a r.1) {ms:List (Str×MV)} (hM:μ a.M=some (.sdict ms))
 {μ':Mem} (kM:μ' a.M=some (.sdict (putM ms (mapKey r) (.ref p)))) (kP:μ' a.P=some (.list (head::(pas++[p]).map .ref))) (kN:NamesOk μ' a (pas++[p]) (rs++[r]))
 (ko:∀ y mo,(∀ l,mo≠.list l)→(∀ l,mo≠.sdict l)→μ y=some mo→μ' y=some mo) (kT:μ' a.T=μ a.T) (kX:μ' a.X=μ a.X) (kR:μ' a.R=μ a.R):GS μ' a head (pas++[p]) (rs++[r]) c b:=by
 obtain⟨fs,f1,f2⟩:=x.flds
 refine ex1_3 (x.map) fun ms' p1 p2 p3=>?_
 rw[hM] at p1; cases p1
 have ct:∀{D:Addr}{ok:Str→Prop},μ' D=μ D→Counts μ D b ok→Counts μ' D b ok:=fun {D ok} hD ⟨es,h1,h2,h3⟩=>
  ⟨es,hD.trans h1,h2,fun y v hy=>let ⟨h4,l,k,h5,h6,h7⟩:=h3 y v hy; ⟨h4,l,k,h5,ko _ _ (fun _ z=>nomatch z) (fun _ z=>nomatch z) h6,h7⟩⟩
 refine⟨ko _ _ (fun _ z=>nomatch z) (fun _ z=>nomatch z) x.inst,⟨fs,ko _ _ (fun _ z=>nomatch z) (fun _ z=>nomatch z) f1,f2⟩,kP,by simp[x.len],fun j q r' h1 h2=>?_,kN,⟨_,kM,by have:=putM_length ms (mapKey r) (.ref p); simp; exact ω88 p2 this,fun k v hk=>?_⟩,ct kT x.terms,ct kX x.nons,kR.trans x.prec,fun r' hr'=>?_,x.sep⟩
 · by_cases hj:j<pas.length
   · rw[List.getElem?_append_left hj] at h1
     rw[List.getElem?_append_left (by rw[← x.len]; exact hj)] at h2
     obtain⟨dq,nx,g1,ps,g2,g3⟩:=x.each j q r' h1 h2
     exact⟨dq,nx,ko _ _ (fun _ z=>nomatch z) (fun _ z=>nomatch z) g1,ps,ko _ _ (fun _ z=>nomatch z) (fun _ z=>nomatch z) g2,g3⟩
   · have hj':j=pas.length:=by have:=(List.getElem?_eq_some_iff.mp h1).1; simp at this; exact ω113 this hj
     subst hj'
     rw[List.getElem?_append_right (Nat.le_refl _)] at h1
     rw[x.len,List.getElem?_append_right (Nat.le_refl _)] at h2
     simp at h1 h2
     subst h1 h2
     obtain⟨g1,ps,g2,g3,g4⟩:=hp
     refine⟨dp,.none,ko _ _ (fun _ z=>nomatch z) (fun _ z=>nomatch z) g1,ps,ko _ _ (fun _ z=>nomatch z) (fun _ z=>nomatch z) g2,ω177 hc g3,?_⟩
     rw[x.len]; exact g4
 · rw[atM_putM] at hk
   by_cases hkr:k=mapKey r
   · exact⟨r,by simp,hkr⟩
   · rw[if_neg hkr] at hk
     obtain⟨r',h1,h2⟩:=p3 k v hk
     exact⟨r',List.mem_append_left _ h1,h2⟩
 · rcases List.mem_append.mp hr' with h | h
   · refine ex2_2 (x.start r' h) fun es v h1 h2=>?_
     exact⟨es,v,kX.trans h1,h2⟩
   · rw[List.mem_singleton.mp h]
     refine ex2_2 (hX) fun es v h1 h2=>?_
     exact⟨es,v,kX.trans h1,h2⟩
theorem len5:∀ x∈SYMS,PyData.strOk x=true∧x.length≤5:=by decide +kernel
theorem name5:∀ x∈NAMES,PyData.strOk x=true∧x.length≤5:=by decide +kernel
theorem prec_out:("%prec":Str)∉SYMS:=by decide +kernel
noncomputable def VA (a:GA) (r:Rule) (l:Addr) (m:Nat) (ρ:List (Str×MV)):Prop:=Lk ρ "self" (.ref a.gr)∧Lk ρ "prodname" (.str r.1)∧Lk ρ "syms" (.ref l)∧Lk ρ "func" .none∧Lk ρ "file" (.str "")∧Lk ρ "line" (.int 0)∧Lk ρ "prodprec" PREC∧Lk ρ "map" (.str (mapKey r))∧Lk ρ "pnumber" (.int (m:Nat))
theorem GS.grow {μ:Mem}{a:GA}{head:MV}{pas:List Addr}{rs:List Rule}{c b b':Nat} (gs:GS μ a head pas rs c b) (h:b≤b'):GS μ a head pas rs c b':=⟨gs.inst,gs.flds,gs.prods,gs.len,gs.each,gs.names,gs.map,gs.terms.grow h,gs.nons.grow h,gs.prec,gs.start,gs.sep⟩
theorem HasX.count {μ:Mem}{a:GA}{x:Str}{l k k':Nat} (h:HasX μ a x) (e:μ l=some (.ilist k)):HasX (upd μ l (.ilist k')) a x:=h.ne (fun es z=>by rw[e] at z; cases z)
theorem upd_k {κ μ:Mem}{l z:Addr}{mo:MO} (kl:κ l≠none) (kz:κ z=none):upd μ z mo l=μ l:=upd_ne _ _ (fun w=>kl (by rw[w]; exact kz))
theorem upd_ns {μ:Mem}{D y:Addr}{mo mo' mo0:MO} (e:μ D=some mo0) (e':μ y=some mo) (h:mo≠mo0):upd μ D mo' y=some mo:=by
 rw[upd_ne _ _ (fun z=>by rw[z,e] at e'; cases e'; exact h rfl)]; exact e'
section
variable {G:Gd}{n:Nat}{cx:Cx}{μ:Mem}{Φ:MV→Mem→Prop}
theorem c_add (g:Law G) {a:GA}{l:Addr}{head:MV}{pas:List Addr}{rs:List Rule}{c b:Nat}{r:Rule}{κ:Mem} (kl:κ l≠none) (kμ:LeB l κ μ) (gs:GS (sub κ μ) a head pas rs c b) (hl:μ l=some (.list (strsM (raw r.2)))) (hn:r.1∈NAMES) (hs:∀ x∈r.2,x∈SYMS) (hr:r.2.length≤3) (hb:b≤900) (hpl:pas.length≤900) (hc:c≤900) (hc20:20≤c) (hnew:∀ r'∈rs,mapKey r'≠mapKey r)
 (q:∀ p μ',κ p=none→LeB l κ μ'→GS (sub κ μ') a head (pas++[p]) (rs++[r]) c (b+20)→Φ .none μ'):WpC G (n+9) μ 201 [.ref a.gr,.str r.1,.ref l] Φ:=by
 refine call_plain' g [("self",.ref a.gr),("prodname",.str r.1),("syms",.ref l),("func",.none),("file",.str ""),("line",.int 0)] (fun _=>by rfl) (fun _=>by kernel_rfl) ?_ ?_
 · intro s vs k rs
   cases rs with | cons r1 rs=>cases rs with | cons r2 rs=>cases rs with | cons r3 rs=>cases rs with | nil=>
   exact⟨_,BindsTo.of_defaults (T:=194) rfl (k 194 _ (by rw[g]; rfl)) rfl rfl rfl,.cons r1 (.cons r2 (.cons r3 (.cons .none (.cons (.str _ _) (.cons (.int _ _) .nil)))))⟩
 refine ex1_3 (gs.flds) fun fs hfs gf hfl=>?_
 obtain⟨ts,hT,htl,ht⟩:=gs.terms
 have up:=sub_le κ μ
 refine WpS.cons (WpS1.ite (WpT.cmp (WpE.loc rfl (WpE.attr (WpE.loc rfl (o_getattr (up _ _ gs.inst) (up _ _ hfs) gf.T (gR_Terminals g) ?_))))))
 refine o_inD (up _ _ hT) ⟨_,rfl,?_⟩
 have hno:atM ts r.1=none:=by
  cases z:atM ts r.1 with
  | none=>rfl
  | some v=>exact absurd hn (ht _ _ z).1
 rw[hno]
 refine ite_f (by simp) (WpS.nil ?_)
 refine WpS.cons (WpS1.ite (WpT.cmp (WpE.loc rfl (WpE.str (o_eqS ⟨_,rfl,?_⟩)))))
 refine ite_f (by rw[beq_iff_eq]; exact name_err hn) (WpS.nil ?_)
 refine WpS.cons (WpS1.ite (WpT.not (WpT.val (WpE.callG (gn__is_identifier g) (gk__is_identifier g) (WpEs.cons (WpE.loc rfl (WpEs.nil ?_)))))))
 refine c_ident g (name_ids hn) fun μ₁ l₁=>o_truthB (ite_f (by decide) (WpS.nil ?_))
 have hl1:μ₁ l=some (.list (strsM (raw r.2))):=l₁ _ _ hl
 have gs1:=gs.le (sub_le_of l₁)
 have kμ1:LeB l κ μ₁:=fun y mo h e=>l₁ _ _ (kμ y mo h e)
 refine WpS.cut (fun ρ μ'=>Lk ρ "self" (.ref a.gr)∧Lk ρ "prodname" (.str r.1)∧Lk ρ "syms" (.ref l)∧Lk ρ "func" .none∧Lk ρ "file" (.str "")∧Lk ρ "line" (.int 0)∧μ' l=some (.list (strsM r.2))∧GS (sub κ μ') a head pas rs c (b+3)∧LeB l κ μ') (WpS1.for_ (WpIt.enum (bn_enumerate g) (WpE.loc rfl ⟨l,_,rfl,hl1,.inl ⟨_,_,_,rfl⟩,r.2.length,
  (fun k ρ μ'=>k≤r.2.length∧Lk ρ "self" (.ref a.gr)∧Lk ρ "prodname" (.str r.1)∧Lk ρ "syms" (.ref l)∧Lk ρ "func" .none∧Lk ρ "file" (.str "")∧Lk ρ "line" (.int 0)∧μ' l=some (.list (strsM (r.2.take k++(raw r.2).drop k)))∧GS (sub κ μ') a head pas rs c (b+k)∧LeB l κ μ'),
  ⟨ω50,rfl,rfl,rfl,rfl,rfl,rfl,by simpa using hl1,gs1,kμ1⟩,?_⟩))) ?_
 · clear hl1 gs1 kμ1 gs kμ hT htl ht hno hfs gf hfl up l₁ hl
   intro k ρ μ₂ hh
   refine and10 hh fun hk v1 v2 v3 v4 v5 v6 hl gs kμ=>?_
   clear hh
   refine⟨hk,_,⟨_,hl,rfl⟩,?_⟩
   have hlen:(r.2.take k++(raw r.2).drop k).length=r.2.length:=by simp[raw]; exact ω179
   by_cases hlt:k<r.2.length
   · have hget:(strsM (r.2.take k++(raw r.2).drop k))[k]?=some (.str (if r.2.getD k "" = "." then("'.'":Str) else r.2.getD k "")):=by
      unfold strsM
      rw[List.getElem?_map,List.getElem?_append_right (by simp; exact ω180)]
      simp[raw,List.getD,hlt,Nat.min_eq_left hk]
     rw[hget]
     refine⟨hlt,WpA.tup (WpAs.cons (WpA.name (WpAs.cons (WpA.name (WpAs.nil ?_)))))⟩
     by_cases hd:r.2.getD k "" = "."
     · rw[if_pos hd]
       refine WpS.cons (WpS1.ite (WpT.cmp (WpE.sub (WpE.loc rfl (WpE.int ?_)))))
       refine o_item_str (c:=39) (by decide) (by decide +kernel) (WpE.str (o_inS ⟨_,rfl,?_⟩))
       refine ite_t (by decide +kernel) ?_
       refine WpS.cons (WpS1.tryOk ?_)
       refine WpS.cons (WpS1.assign (WpE.callG (gn__literal g) (gk__literal g) (WpEs.cons (WpE.loc rfl (WpEs.nil (c_literal g ?_))))))
       refine WpS.cons (WpS1.ite (WpT.cmp (WpE.callB (bn_len g) (WpEs.cons (WpE.loc rfl (WpEs.nil ?_))))))
       refine o_len_str (by decide +kernel) (WpE.int (o_gtI ⟨_,rfl,?_⟩))
       refine ite_f (by decide +kernel) (WpS.nil ?_)
       refine ex1_3 (gs.flds) fun fs hfs gf hfl=>?_
       obtain⟨ts,hT,htl,ht⟩:=gs.terms
       have up:=sub_le κ μ₂
       refine WpS.cut (fun ρ' μ'=>ρ'=((("c":Str),MV.str ".")::(("s":Str),MV.str "'.'")::(("n":Str),MV.int k)::ρ)∧μ' l=some (.list (strsM (r.2.take k++(raw r.2).drop k)))∧GS (sub κ μ') a head pas rs c (b+(k+1))∧LeB l κ μ') (WpS1.ite (WpT.cmp (WpE.loc rfl (WpE.attr (WpE.loc (show Lk (_::_::_::ρ) "self" (.ref a.gr) from v1) (o_getattr (up _ _ gs.inst) (up _ _ hfs) gf.T (gR_Terminals g) ?_)))))) ?_
       · refine o_notinD (up _ _ hT) ⟨_,rfl,?_⟩
         cases hz:atM ts "." with
         | some v=>exact ite_f (by simp) (WpS.nil ⟨rfl,rfl,hl,gs.grow ω181,kμ⟩)
         | none=>
          refine ite_t (by simp) ?_
          refine WpS.cons (WpS1.setitem (WpE.ilist0 fun z hz'=>?_))
          have kz:=kfresh kμ (by rw[hl]; exact fun w=>nomatch w) hz'
          have le:=Le.upd (mo:=.ilist 0) hz'
          refine WpE.attr (WpE.loc (show Lk (_::_::_::ρ) "self" (.ref a.gr) from v1) (o_getattr (le _ _ (up _ _ gs.inst)) (le _ _ (up _ _ hfs)) gf.T (gR_Terminals g) (WpE.loc rfl (o_setD (le _ _ (up _ _ hT)) (ω182 hlt hr hb htl) (WpS.nil ⟨rfl,rfl,?_,?_,?_⟩)))))
          · rw[upd_k kl (sub_of hT).1,upd_k kl kz]; exact hl
          · rw[sub_upd_out (sub_of hT).1,sub_upd_out kz]
            exact gs.addT (by rw[sub_out kz]; exact hz') hT (y:=".") (by unfold TermOk; decide +kernel)
          · exact(kμ.out kz).out (sub_of hT).1
       · intro ρ' μ₃ hh_
         refine and4 hh_ fun zr0 hl3 gs3 kμ3=>?_
         obtain rfl:=zr0
         clear hh_
         refine WpS.cons (WpS1.setitem (WpE.loc rfl (WpE.loc (show Lk (_::_::_::ρ) "syms" (.ref l) from v3) (WpE.loc rfl ?_))))
         refine o_setL hl3 (by rw[strsM_length,hlen]; exact hlt) (by rw[strsM_length,hlen]; exact ω183 hr) ?_
         refine WpS.cons (WpS1.cont ⟨ω55 hlt,v1,v2,v3,v4,v5,v6,?_,?_,kμ3.at⟩)
         · rw[upd_same,strsM_set]
           have:=raw_step (r:=r.2) hlt
           rw[hd] at this
           rw[this]
         · rw[sub_upd_in kl]; exact gs3
     · rw[if_neg hd]
       have hx:r.2.getD k ""∈IDS:=syms_ids _ (hs _ (by simp[List.getD,hlt])) hd
       refine ex1_3 (ids_first _ hx) fun c0 _ i1 i2=>?_
       refine WpS.cons (WpS1.ite (WpT.cmp (WpE.sub (WpE.loc rfl (WpE.int ?_)))))
       refine o_item_str (c:=c0) (by decide) i1 (WpE.str (o_inS ⟨_,rfl,?_⟩))
       refine ite_f (by rw[i2]; decide) (WpS.nil ?_)
       refine WpS.cons (WpS1.ite (WpT.and (WpT.not (WpT.val (WpE.callG (gn__is_identifier g) (gk__is_identifier g) (WpEs.cons (WpE.loc rfl (WpEs.nil ?_))))))))
       refine c_ident g hx fun μ₃ l₃=>o_truthB (ite_f (by decide) (ite_f (by decide) (WpS.nil (WpS.nil ⟨ω55 hlt,v1,v2,v3,v4,v5,v6,?_,?_,kμ.le2 l₃⟩))))
       · rw[← raw_same hlt hd]; exact l₃ _ _ hl
       · have gs3:=gs.le (sub_le_of l₃)
         exact gs3.grow ω181
   · have hget:(strsM (r.2.take k++(raw r.2).drop k))[k]?=none:=List.getElem?_eq_none_iff.mpr (by rw[strsM_length]; exact ω184 hlen hlt)
     rw[hget]
     have hke:k=r.2.length:=ω57 hk hlt
     subst hke
     refine⟨rfl,v1,v2,v3,v4,v5,v6,?_,gs.grow (ω185 hr),kμ⟩
     rw[hl,List.take_length,List.drop_eq_nil_of_le (by simp[raw]),List.append_nil]
 clear hl1 gs1 kμ1 gs kμ hT htl ht hno hfs gf hfl up l₁ hl μ₁
 intro ρ μ₁ hh
 refine and9 hh fun v1 v2 v3 v4 v5 v6 hl gs kμ=>?_
 clear hh
 refine ex1_3 (gs.flds) fun fs hfs gf hfl=>?_
 obtain⟨ts,hT,htl,ht⟩:=gs.terms
 refine ex1_3 (gs.map) fun ms hM hml hm=>?_
 have up:=sub_le κ μ₁
 refine WpS.cut (fun ρ' μ'=>μ'=μ₁∧Lk ρ' "self" (.ref a.gr)∧Lk ρ' "prodname" (.str r.1)∧Lk ρ' "syms" (.ref l)∧Lk ρ' "func" .none∧Lk ρ' "file" (.str "")∧Lk ρ' "line" (.int 0)∧Lk ρ' "prodprec" PREC) (WpS1.ite (WpT.cmp (WpE.str (WpE.loc v3 ?_)))) ?_
 · refine o_inL (d:=.str "%prec") hl (oks_strs fun y hy=>(len5 y (hs y hy)).1) (by decide +kernel) (by simp[MV.deep]) fun c' hc'=>⟨_,rfl,?_⟩
   have hcf:c'=false:=by
    cases c' with
    | false=>rfl
    | true=>
     have:=hc'.mp rfl
     unfold strsM at this
     obtain⟨y,hy,e⟩:=List.mem_map.mp this
     injection e with e
     exact absurd (hs y hy) (e▸prec_out)
   rw[hcf]
   refine ite_f (by decide) ?_
   refine WpS.cons (WpS1.assign (WpE.callG (gn_rightmost_terminal g) (gk_rightmost_terminal g) (WpEs.cons (WpE.loc v3 (WpEs.cons (WpE.attr (WpE.loc v1 (o_getattr (up _ _ gs.inst) (up _ _ hfs) gf.T (gR_Terminals g) (WpEs.nil ?_)))))))))
   refine c_rightmost g hl (up _ _ hT) (ω186 hr) fun d hd=>?_
   refine WpS.cons (WpS1.assign (WpE.methB (id:="dict.get") _ (WpE.attr (WpE.loc (show Lk (_::ρ) "self" (.ref a.gr) from v1) (o_getattr (up _ _ gs.inst) (up _ _ hfs) gf.R (gR_Precedence g) ?_)))))
   refine⟨gets_sdict (up _ _ gs.prec) PySem.F.slot_dict_get PySem.F.type_dict_get,WpEs.cons (WpE.loc rfl (WpEs.cons (WpE.tuple (WpEs.cons (WpE.str (WpEs.cons (WpE.int (WpEs.nil ⟨by simp,WpEs.nil ?_⟩))))))))⟩
   rcases hd with rfl | ⟨x,rfl⟩
   · exact o_getN (up _ _ gs.prec) (WpS.nil ⟨rfl,rfl,v1,v2,v3,v4,v5,v6,rfl⟩)
   · exact o_getD2 (up _ _ gs.prec) (WpS.nil ⟨rfl,rfl,v1,v2,v3,v4,v5,v6,rfl⟩)
 clear v1 v2 v3 v4 v5 v6
 intro ρ' μ₂ hh_
 refine and8 hh_ fun zr0 v1 v2 v3 v4 v5 v6 v7=>?_
 obtain rfl:=zr0
 clear hh_
 have hmk:atM ms (mapKey r)=none:=by
  cases z:atM ms (mapKey r) with
  | none=>rfl
  | some v=>obtain⟨r',h1,h2⟩:=hm _ _ z; exact absurd h2.symm (hnew r' h1)
 have sl:=show_len hr hs
 have rl:r.1.length≤1000:=by have:=(name5 _ hn).2; exact ω156 this
 refine WpS.cons (WpS1.assign (WpE.joined3 (WpE.fv (WpE.loc v2 ?_))))
 refine⟨r.1,.inl rfl,rl,⟨r.1,rfl,rl,WpE.str ⟨_,rfl,by decide +kernel,WpE.fv (WpE.loc v3 ?_)⟩⟩⟩
 refine⟨showL r.2,.inr ⟨l,r.2,rfl,hl,fun y hy=>(len5 y (hs y hy)).1,rfl⟩,sl,⟨_,rfl,sl,?_⟩⟩
 refine WpS.cons (WpS1.ite (WpT.cmp (WpE.loc rfl (WpE.attr (WpE.loc (show Lk (_::ρ') "self" (.ref a.gr) from v1) (o_getattr (up _ _ gs.inst) (up _ _ hfs) gf.M (gR_Prodmap g) ?_))))))
 refine o_inD (up _ _ hM) ⟨_,rfl,?_⟩
 refine ite_f (by show ¬ (atM ms (mapKey r)).isSome=true; rw[hmk]; simp) (WpS.nil ?_)
 refine WpS.cons (WpS1.assign (WpE.callB (bn_len g) (WpEs.cons (WpE.attr (WpE.loc (show Lk (_::ρ') "self" (.ref a.gr) from v1) (o_getattr (up _ _ gs.inst) (up _ _ hfs) gf.P (gR_Productions g) (WpEs.nil ?_)))))))
 refine o_len_list (up _ _ gs.prods) (by simp; exact ω187 hpl) ?_
 have pl:(head::pas.map MV.ref).length=rs.length+1:=by simp[gs.len]
 rw[pl]
 have va:VA a r l (rs.length+1) ((("pnumber":Str),MV.int ((rs.length+1:Nat):Int))::(("map":Str),MV.str (mapKey r))::ρ'):=⟨v1,v2,v3,v4,v5,v6,v7,rfl,rfl⟩
 obtain⟨xs,hX,hxl,hx⟩:=gs.nons
 refine WpS.cut (fun ρ μ'=>VA a r l (rs.length+1) ρ∧μ' l=some (.list (strsM r.2))∧GS (sub κ μ') a head pas rs c (b+4)∧HasX (sub κ μ') a r.1∧LeB l κ μ') (WpS1.ite (WpT.cmp (WpE.loc (show Lk (_::_::ρ') "prodname" (.str r.1) from v2) (WpE.attr (WpE.loc (show Lk (_::_::ρ') "self" (.ref a.gr) from v1) (o_getattr (up _ _ gs.inst) (up _ _ hfs) gf.X (gR_Nonterminals g) ?_)))))) ?_
 · refine o_notinD (up _ _ hX) ⟨_,rfl,?_⟩
   cases hz:atM xs r.1 with
   | some v=>exact ite_f (by simp) (WpS.nil ⟨rfl,va,hl,gs.grow ω188,⟨xs,v,hX,hz⟩,kμ⟩)
   | none=>
    refine ite_t (by simp) ?_
    refine WpS.cons (WpS1.setitem (WpE.ilist0 fun z hz'=>?_))
    have kz:=kfresh kμ (by rw[hl]; exact fun w=>nomatch w) hz'
    have le:=Le.upd (mo:=.ilist 0) hz'
    have hz2:sub κ μ₂ z=none:=by rw[sub_out kz]; exact hz'
    refine WpE.attr (WpE.loc (show Lk (_::_::ρ') "self" (.ref a.gr) from v1) (o_getattr (le _ _ (up _ _ gs.inst)) (le _ _ (up _ _ hfs)) gf.X (gR_Nonterminals g) (WpE.loc (show Lk (_::_::ρ') "prodname" (.str r.1) from v2) (o_setD (le _ _ (up _ _ hX)) (ω189 hb hxl) (WpS.nil ⟨rfl,va,?_,?_,?_,?_⟩)))))
    · rw[upd_k kl (sub_of hX).1,upd_k kl kz]; exact hl
    · rw[sub_upd_out (sub_of hX).1,sub_upd_out kz]
      exact(gs.addX hz2 hX r.1).grow ω190
    · rw[sub_upd_out (sub_of hX).1,sub_upd_out kz]
      exact HasX.put hz2 hX r.1 (.inl rfl)
    · exact(kμ.out kz).out (sub_of hX).1
 clear va pl hmk sl rl v1 v2 v3 v4 v5 v6 v7 hxl hx hX xs up hfs gf hfl hT htl ht hM hml hm hl gs kμ
 intro ρ₀ μ₃ hh
 refine and5 hh fun va hl gs hasX kμ=>?_
 clear hh
 refine WpS.cut (fun ρ μ'=>VA a r l (rs.length+1) ρ∧μ' l=some (.list (strsM r.2))∧GS (sub κ μ') a head pas rs c (b+20)∧HasX (sub κ μ') a r.1∧LeB l κ μ') (WpS1.for_ (WpIt.list (WpE.loc va.2.2.1 ⟨l,_,rfl,hl,.inr ⟨rfl,fun _ _=>rfl⟩,r.2.length,
  (fun k ρ μ'=>k≤r.2.length∧VA a r l (rs.length+1) ρ∧μ' l=some (.list (strsM r.2))∧GS (sub κ μ') a head pas rs c (b+4+2*k)∧HasX (sub κ μ') a r.1∧LeB l κ μ'),⟨ω50,va,hl,gs,hasX,kμ⟩,?_⟩))) ?_
 · clear va hl gs hasX kμ
   intro k ρ μ₄ hh
   refine and6 hh fun hk va hl gs hasX kμ=>?_
   clear hh
   refine⟨hk,_,⟨_,hl,rfl⟩,?_⟩
   by_cases hlt:k<r.2.length
   · rw[strsM_get hlt]
     refine⟨hlt,WpA.name ?_⟩
     refine ex1_3 (gs.flds) fun fs hfs gf hfl=>?_
     obtain⟨ts,hT,htl,ht⟩:=gs.terms
     have up:=sub_le κ μ₄
     have va':VA a r l (rs.length+1) ((("t":Str),MV.str (r.2.getD k ""))::ρ):=va
     refine and9 (va') fun v1 _ v3 _ _ _ _ _ v9=>?_
     refine WpS.cons (WpS1.ite (WpT.cmp (WpE.loc rfl (WpE.attr (WpE.loc v1 (o_getattr (up _ _ gs.inst) (up _ _ hfs) gf.T (gR_Terminals g) ?_))))))
     refine o_inD (up _ _ hT) ⟨_,rfl,?_⟩
     cases hz:atM ts (r.2.getD k "") with
     | some v=>
      refine ite_t (by simp) ?_
      obtain⟨_,l',k',rfl,hk1,hk2⟩:=ht _ _ hz
      refine WpS.cons (WpS1.expr (WpE.methB (id:="list.append") _ (WpE.sub (WpE.attr (WpE.loc v1 (o_getattr (up _ _ gs.inst) (up _ _ hfs) gf.T (gR_Terminals g) (WpE.loc rfl ?_)))))))
      refine o_item_sdict (up _ _ hT) hz ⟨gets_ilist (up _ _ hk1) PySem.F.slot_list_append PySem.F.type_list_append,WpEs.cons (WpE.loc v9 (WpEs.nil ?_))⟩
      refine o_appendI (up _ _ hk1) (ω191 hlt hr hb hk2) ⟨rfl,WpS.nil (WpS.nil ⟨ω55 hlt,va,?_,?_,?_,kμ.out (sub_of hk1).1⟩)⟩
      · rw[upd_k kl (sub_of hk1).1]; exact hl
      · rw[sub_upd_out (sub_of hk1).1]
        exact(gs.count hk1 hk2).grow ω192
      · rw[sub_upd_out (sub_of hk1).1]
        exact hasX.count hk1
     | none=>
      refine ite_f (by simp) ?_
      obtain⟨xs,hX,hxl,hx⟩:=gs.nons
      refine WpS.cut (fun ρ' μ'=>ρ'=((("t":Str),MV.str (r.2.getD k ""))::ρ)∧μ' l=some (.list (strsM r.2))∧GS (sub κ μ') a head pas rs c (b+5+2*k)∧HasX (sub κ μ') a r.1∧LeB l κ μ'∧HasX (sub κ μ') a (r.2.getD k "")) (WpS1.ite (WpT.cmp (WpE.loc rfl (WpE.attr (WpE.loc v1 (o_getattr (up _ _ gs.inst) (up _ _ hfs) gf.X (gR_Nonterminals g) ?_)))))) ?_
      · refine o_notinD (up _ _ hX) ⟨_,rfl,?_⟩
        cases hz2:atM xs (r.2.getD k "") with
        | some v=>exact ite_f (by simp) (WpS.nil ⟨rfl,rfl,hl,gs.grow ω193,hasX,kμ,⟨xs,v,hX,hz2⟩⟩)
        | none=>
         refine ite_t (by simp) ?_
         refine WpS.cons (WpS1.setitem (WpE.ilist0 fun z hz'=>?_))
         have kz:=kfresh kμ (by rw[hl]; exact fun w=>nomatch w) hz'
         have le:=Le.upd (mo:=.ilist 0) hz'
         have hz3:sub κ μ₄ z=none:=by rw[sub_out kz]; exact hz'
         refine WpE.attr (WpE.loc v1 (o_getattr (le _ _ (up _ _ gs.inst)) (le _ _ (up _ _ hfs)) gf.X (gR_Nonterminals g) (WpE.loc rfl (o_setD (le _ _ (up _ _ hX)) (ω191 hlt hr hb hxl) (WpS.nil ⟨rfl,rfl,?_,?_,?_,?_,?_⟩)))))
         · rw[upd_k kl (sub_of hX).1,upd_k kl kz]; exact hl
         · rw[sub_upd_out (sub_of hX).1,sub_upd_out kz]
           exact(gs.addX hz3 hX _).grow ω194
         · rw[sub_upd_out (sub_of hX).1,sub_upd_out kz]
           exact HasX.put hz3 hX _ (.inr hasX)
         · exact(kμ.out kz).out (sub_of hX).1
         · rw[sub_upd_out (sub_of hX).1,sub_upd_out kz]
           exact HasX.put hz3 hX _ (.inl rfl)
      · clear hl gs hasX kμ hfs gf hfl fs hT htl ht hz ts hX hxl hx xs up
        intro _ μ₅ hh_
        refine and6 hh_ fun zr0 hl gs hasX kμ zq5=>?_
        obtain rfl:=zr0
        obtain⟨xs',v,hX',hv⟩:=zq5
        clear hh_
        refine ex1_3 (gs.flds) fun fs hfs gf hfl=>?_
        obtain⟨xs,hX,hxl,hx⟩:=gs.nons
        rw[hX'] at hX; cases hX
        have up:=sub_le κ μ₅
        obtain⟨_,l',k',rfl,hk1,hk2⟩:=hx _ _ hv
        refine WpS.cons (WpS1.expr (WpE.methB (id:="list.append") _ (WpE.sub (WpE.attr (WpE.loc v1 (o_getattr (up _ _ gs.inst) (up _ _ hfs) gf.X (gR_Nonterminals g) (WpE.loc rfl ?_)))))))
        refine o_item_sdict (up _ _ hX') hv ⟨gets_ilist (up _ _ hk1) PySem.F.slot_list_append PySem.F.type_list_append,WpEs.cons (WpE.loc v9 (WpEs.nil ?_))⟩
        refine o_appendI (up _ _ hk1) (ω195 hlt hr hb hk2) ⟨rfl,WpS.nil (WpS.nil ⟨ω55 hlt,va,?_,?_,?_,kμ.out (sub_of hk1).1⟩)⟩
        · rw[upd_k kl (sub_of hk1).1]; exact hl
        · rw[sub_upd_out (sub_of hk1).1]
          exact(gs.count hk1 hk2).grow ω196
        · rw[sub_upd_out (sub_of hk1).1]
          exact hasX.count hk1
   · rw[show(strsM r.2)[k]?=none from List.getElem?_eq_none_iff.mpr (by rw[strsM_length]; exact ω85 hlt)]
     exact⟨rfl,va,hl,gs.grow (ω197 hr hk),hasX,kμ⟩
 clear va hl gs hasX kμ
 intro ρ μ₆ hh_
 refine and5 hh_ fun zq0 hl gs hasX kμ=>?_
 obtain⟨v1,v2,v3,v4,v5,v6,v7,v8,v9⟩:=zq0
 clear hh_
 refine WpS.cons (WpS1.assign (WpE.callG (gn_Production g) (gk_Production g) (WpEs.cons (WpE.loc v9 (WpEs.cons (WpE.loc v2 (WpEs.cons (WpE.loc v3 (WpEs.cons (WpE.loc v7 (WpEs.cons (WpE.loc v4 (WpEs.cons (WpE.loc v5 (WpEs.cons (WpE.loc v6 (WpEs.nil ?_)))))))))))))))))
 refine c_prod g hl (ω198 hr) (fun y hy=>len5 y (hs y hy)) (name5 _ hn).2 fun p dp μ₄ hp hdp hpr l4=>?_
 have kp:=kfresh kμ (by rw[hl]; exact fun w=>nomatch w) hp
 have kdp:=kfresh kμ (by rw[hl]; exact fun w=>nomatch w) hdp
 have gs4:=gs.le (sub_le_of l4)
 have hasX4:=hasX.le (sub_le_of l4)
 have kμ4:=kμ.le2 l4
 have pr4:ProdAt (sub κ μ₄) p dp 20 (rs.length+1) r .none:=hpr.to (sub_out kp) (sub_out kdp) (Nat.le_refl _)
 have hl4:=l4 _ _ hl
 clear hl gs hasX kμ hp hdp hpr l4 kdp
 refine ex1_3 (gs4.flds) fun fs hfs gf hfl=>?_
 refine ex1_3 (gs4.map) fun ms hM hml hm=>?_
 refine ex2_4 (gs4.names) fun es adr hN hel hnm hni=>?_
 obtain⟨ts,hT,_,_⟩:=gs4.terms
 obtain⟨xs,hX,_,_⟩:=gs4.nons
 refine and10 (gs4.sep) fun s1 s2 s3 s4 s5 s6 s7 s8 s9 s10=>?_
 have plen:=gs4.len
 have up:=sub_le κ μ₄
 have kP:=(sub_of gs4.prods).1
 have kM:=(sub_of hM).1
 have kN:=(sub_of hN).1
 have pN:a.N≠a.P:=fun z=>by have:=gs4.prods; rw[← z,hN] at this; cases this
 have pM:a.M≠a.P:=fun z=>by have:=gs4.prods; rw[← z,hM] at this; cases this
 have pT:a.T≠a.P:=fun z=>by have:=gs4.prods; rw[← z,hT] at this; cases this
 have pX:a.X≠a.P:=fun z=>by have:=gs4.prods; rw[← z,hX] at this; cases this
 have pR:a.R≠a.P:=fun z=>by have:=gs4.prods; rw[← z,gs4.prec] at this; cases this
 refine WpS.cons (WpS1.expr (WpE.methB (id:="list.append") _ (WpE.attr (WpE.loc (show Lk (_::ρ) "self" (.ref a.gr) from v1) (o_getattr (up _ _ gs4.inst) (up _ _ hfs) gf.P (gR_Productions g) ?_)))))
 refine⟨gets_list (up _ _ gs4.prods) PySem.F.slot_list_append PySem.F.type_list_append,WpEs.cons (WpE.loc rfl (WpEs.nil ?_))⟩
 refine o_append (up _ _ gs4.prods) (by simp; exact ω199 hpl) ⟨rfl,?_⟩
 have eP:∀{y:Addr}{mo:MO},sub κ μ₄ y=some mo→(∀ l,mo≠.list l)→upd μ₄ a.P (.list (head::pas.map MV.ref++[.ref p])) y=some mo:=fun {y mo} e h=>upd_ns (up _ _ gs4.prods) (up _ _ e) (h _)
 refine WpS.cons (WpS1.setitem (WpE.loc rfl (WpE.attr (WpE.loc (show Lk (_::ρ) "self" (.ref a.gr) from v1) (o_getattr (eP gs4.inst (fun _ z=>nomatch z)) (eP hfs (fun _ z=>nomatch z)) gf.M (gR_Prodmap g) (WpE.loc (show Lk (_::ρ) "map" (.str (mapKey r)) from v8) ?_))))))
 refine o_setD (eP hM (fun _ z=>nomatch z)) (ω200 plen hpl hml) ?_
 have eM:∀{y:Addr}{mo:MO},sub κ μ₄ y=some mo→(∀ l,mo≠.list l)→y≠a.M→upd (upd μ₄ a.P (.list (head::pas.map MV.ref++[.ref p]))) a.M (.sdict (putM ms (mapKey r) (.ref p))) y=some mo:=fun {y mo} e h n=>by rw[upd_ne _ _ n]; exact eP e h
 have esub:sub κ (upd (upd μ₄ a.P (.list (head::pas.map MV.ref++[.ref p]))) a.M (.sdict (putM ms (mapKey r) (.ref p))))=upd (upd (sub κ μ₄) a.P (.list (head::pas.map MV.ref++[.ref p]))) a.M (.sdict (putM ms (mapKey r) (.ref p))):=by
  rw[sub_upd_out kM,sub_upd_out kP]
 have k5:LeB l κ (upd (upd μ₄ a.P (.list (head::pas.map MV.ref++[.ref p]))) a.M (.sdict (putM ms (mapKey r) (.ref p)))):=(kμ4.out kP).out kM
 have hdr:head::pas.map MV.ref++[.ref p]=head::(pas++[p]).map MV.ref:=by simp
 have q1:=eM gs4.inst (fun _ z=>nomatch z) (fun z=>by have:=gs4.inst; rw[z,hM] at this; cases this)
 have q2:=eM hfs (fun _ z=>nomatch z) (fun z=>by rw[z,hM] at hfs; cases hfs)
 have q3:=eM hN (fun _ z=>nomatch z) (Ne.symm s1)
 have q4:∀ y,upd (upd μ₄ a.P (.list (head::pas.map MV.ref++[.ref p]))) a.M (.sdict (putM ms (mapKey r) (.ref p))) y=none→μ₄ y=none:=fun y hy=>by
  unfold upd at hy
  split at hy
  · cases hy
  · split at hy
    · cases hy
    · exact hy
 have q5:∀ y l',y≠a.P→sub κ μ₄ y=some (.list l')→upd (upd μ₄ a.P (.list (head::pas.map MV.ref++[.ref p]))) a.M (.sdict (putM ms (mapKey r) (.ref p))) y=some (.list l'):=fun y l' n e=>by
  rw[upd_ne _ _ (fun z=>by rw[z,hM] at e; cases e),upd_ne _ _ n]; exact up _ _ e
 have q6:upd (upd μ₄ a.P (.list (head::pas.map MV.ref++[.ref p]))) a.M (.sdict (putM ms (mapKey r) (.ref p))) l=some (.list (strsM r.2)):=by rw[upd_k kl kM,upd_k kl kP]; exact hl4
 have base:∀ ν':Mem,NamesOk ν' a (pas++[p]) (rs++[r])→ν' a.M=some (.sdict (putM ms (mapKey r) (.ref p)))→ν' a.P=some (.list (head::pas.map MV.ref++[.ref p]))→(∀ y mo,(∀ l,mo≠.list l)→(∀ l,mo≠.sdict l)→sub κ μ₄ y=some mo→ν' y=some mo)→ν' a.T=sub κ μ₄ a.T→ν' a.X=sub κ μ₄ a.X→ν' a.R=sub κ μ₄ a.R→GS ν' a head (pas++[p]) (rs++[r]) c (b+20):=
  fun ν' h1 h2 h3 h4 h5 h6 h7=>gs4.addP hc20 pr4 hasX4 hM h2 (by rw[h3,hdr]) h1 h4 h5 h6 h7
 have u1:∀ y mo,(∀ l,mo≠.list l)→(∀ l,mo≠.sdict l)→sub κ μ₄ y=some mo→upd (upd (sub κ μ₄) a.P (.list (head::pas.map MV.ref++[.ref p]))) a.M (.sdict (putM ms (mapKey r) (.ref p))) y=some mo:=fun y mo h1 h2 e=>by
  rw[upd_ne _ _ (fun z=>by rw[z,hM] at e; cases e; exact h2 _ rfl),upd_ne _ _ (fun z=>by rw[z,gs4.prods] at e; cases e; exact h1 _ rfl)]; exact e
 have u2:upd (upd (sub κ μ₄) a.P (.list (head::pas.map MV.ref++[.ref p]))) a.M (.sdict (putM ms (mapKey r) (.ref p))) a.M=some (.sdict (putM ms (mapKey r) (.ref p))):=upd_same _ _ _
 have u3:upd (upd (sub κ μ₄) a.P (.list (head::pas.map MV.ref++[.ref p]))) a.M (.sdict (putM ms (mapKey r) (.ref p))) a.P=some (.list (head::pas.map MV.ref++[.ref p])):=by rw[upd_ne _ _ (Ne.symm pM),upd_same]
 have u4:∀ y,y≠a.P→y≠a.M→upd (upd (sub κ μ₄) a.P (.list (head::pas.map MV.ref++[.ref p]))) a.M (.sdict (putM ms (mapKey r) (.ref p))) y=sub κ μ₄ y:=fun y h1 h2=>by rw[upd_ne _ _ h2,upd_ne _ _ h1]
 clear eM eP hdr
 generalize upd (upd μ₄ a.P (.list (head::pas.map MV.ref++[.ref p]))) a.M (.sdict (putM ms (mapKey r) (.ref p)))=μ₅ at *
 generalize upd (upd (sub κ μ₄) a.P (.list (head::pas.map MV.ref++[.ref p]))) a.M (.sdict (putM ms (mapKey r) (.ref p)))=ν at *
 by_cases h0:sel pas rs r.1=[]
 · have hno:atM es r.1=none:=by have:=hnm r.1; rwa [if_pos h0] at this
   refine WpS.cons (WpS1.tryRaise (X:="KeyError") (Ξ:=fun μ'=>μ'=μ₅) (raise_meth _ (WpR.sub (WpE.attr (WpE.loc (show Lk (_::ρ) "self" (.ref a.gr) from v1) (o_getattr q1 q2 gf.N (gR_Prodnames g) (WpE.loc (show Lk (_::ρ) "prodname" (.str r.1) from v2) (r_dict_none q3 hno rfl))))))) (catches_name (bn_KeyError g) rfl (by decide) rfl rfl key_isExc key_notTuple key_self) ?_)
   rintro _ rfl
   refine WpS.cons (WpS1.setitem (WpE.list (WpEs.cons (WpE.loc rfl (WpEs.nil ⟨by simp,fun L hL=>?_⟩)))))
   have le:=Le.upd (mo:=.list [.ref p]) hL
   have kL:=kfresh k5 (by rw[q6]; exact fun w=>nomatch w) hL
   refine WpE.attr (WpE.loc (show Lk (_::ρ) "self" (.ref a.gr) from v1) (o_getattr (le _ _ q1) (le _ _ q2) gf.N (gR_Prodnames g) (WpE.loc (show Lk (_::ρ) "prodname" (.str r.1) from v2) ?_)))
   refine o_setD (le _ _ q3) (ω200 plen hpl hel) (WpS.nil (WpS.nil (q p _ kp ((k5.out kL).out kN) ?_)))
   rw[sub_upd_out kN,sub_upd_out kL,esub]
   have nL:sub κ μ₄ L=none:=by rw[sub_out kL]; exact q4 _ hL
   have ne:∀{y:Addr}{mo:MO},sub κ μ₄ y=some mo→y≠L:=fun e z=>by rw[z,nL] at e; cases e
   have t1:∀ y,y≠a.N→y≠L→upd (upd ν L (.list [.ref p])) a.N (.sdict (putM es r.1 (.ref L))) y=ν y:=fun y h1 h2=>by rw[upd_ne _ _ h1,upd_ne _ _ h2]
   refine base _ (names_new gs4 hN h0 nL (upd_same _ _ _) (by rw[upd_ne _ _ (Ne.symm (ne hN)),upd_same]) fun y l' h1 h2 h3=>?_) ?_ ?_ (fun y mo h1 h2 h3=>?_) ?_ ?_ ?_
   · rw[t1 _ (fun z=>by rw[z,hN] at h3; cases h3) h2,u4 _ h1 (fun z=>by rw[z,hM] at h3; cases h3)]; exact h3
   · rw[t1 _ s1 (ne hM)]; exact u2
   · rw[t1 _ (Ne.symm pN) (ne gs4.prods)]; exact u3
   · rw[t1 _ (fun z=>by rw[z,hN] at h3; cases h3; exact h2 _ rfl) (ne h3)]; exact u1 _ _ h1 h2 h3
   · rw[t1 _ s2 (ne hT),u4 _ pT s5]
   · rw[t1 _ s3 (ne hX),u4 _ pX s6]
   · rw[t1 _ s4 (ne gs4.prec),u4 _ pR s7]
 · refine ex1_4 (names_old (p:=p) gs4 hN h0) fun A a1 a2 a3 a4=>?_
   have kA:=(sub_of a2).1
   have a5:=q5 _ _ a3 a2
   refine WpS.cons (WpS1.tryOk ?_)
   refine WpS.cons (WpS1.expr (WpE.methB (id:="list.append") _ (WpE.sub (WpE.attr (WpE.loc (show Lk (_::ρ) "self" (.ref a.gr) from v1) (o_getattr q1 q2 gf.N (gR_Prodnames g) (WpE.loc (show Lk (_::ρ) "prodname" (.str r.1) from v2) ?_)))))))
   refine o_item_sdict q3 a1 ⟨gets_list a5 PySem.F.slot_list_append PySem.F.type_list_append,WpEs.cons (WpE.loc rfl (WpEs.nil ?_))⟩
   have sl:((sel pas rs r.1).map MV.ref).length≤16777216:=by
    have h1:(sel pas rs r.1).length≤(pas.zip rs).length:=by unfold sel; rw[List.length_map]; exact List.length_filter_le _ _
    rw[List.length_zip] at h1
    rw[List.length_map]; exact ω201 hpl h1
   refine o_append a5 sl ⟨rfl,WpS.nil (WpS.nil (WpS.nil (q p _ kp (k5.out kA) ?_)))⟩
   rw[sub_upd_out kA,esub]
   have t1:∀ y,y≠A→upd ν A (.list ((sel pas rs r.1).map MV.ref++[.ref p])) y=ν y:=fun y h1=>upd_ne _ _ h1
   have ne:∀{y:Addr}{mo:MO},sub κ μ₄ y=some mo→(∀ l,mo≠.list l)→y≠A:=fun e h z=>by rw[z,a2] at e; cases e; exact h _ rfl
   refine base _ (a4 _ ?_ (upd_same _ _ _) fun y l' h1 h2 h3=>?_) ?_ ?_ (fun y mo h1 h2 h3=>?_) ?_ ?_ ?_
   · rw[t1 _ (ne hN (fun _ z=>nomatch z)),u4 _ pN (Ne.symm s1)]; exact hN
   · rw[t1 _ h2,u4 _ h1 (fun z=>by rw[z,hM] at h3; cases h3)]; exact h3
   · rw[t1 _ (ne hM (fun _ z=>nomatch z))]; exact u2
   · rw[t1 _ (Ne.symm a3)]; exact u3
   · rw[t1 _ (ne h3 h1)]; exact u1 _ _ h1 h2 h3
   · rw[t1 _ (ne hT (fun _ z=>nomatch z)),u4 _ pT s5]
   · rw[t1 _ (ne hX (fun _ z=>nomatch z)),u4 _ pX s6]
   · rw[t1 _ (ne gs4.prec (fun _ z=>nomatch z)),u4 _ pR s7]
end
structure ItemP (μ:Mem) (pas:List Addr) (rs:List Rule) (x dd:Addr) (fs:List (Str×MV)) (j k:Nat) (r:Rule):Prop where
 inst:μ x=some (.inst 135 dd)
 flds:μ dd=some (.idict fs)
 name:atM fs "name" = some (.str r.1)
 prod:atM fs "prod" = some (.tup (strsM (dotted r.2 k)))
 number:atM fs "number" = some (.int j)
 index:atM fs "lr_index" = some (.int k)
 before:1≤k→atM fs "lr_before" = some (.str (r.2.getD (k-1) ""))
 after:∃ L,atM fs "lr_after" = some (.ref L)∧μ L=some (.list ((if k<r.2.length then sel pas rs (r.2.getD k "") else []).map .ref))
theorem ItemP.leB {μ μ':Mem}{pas:List Addr}{rs:List Rule}{x dd u:Addr}{fs:List (Str×MV)}{j k:Nat}{r:Rule} (i:ItemP μ pas rs x dd fs j k r) (l:LeB u μ μ') (h1:∀ C d,μ u≠some (.inst C d)) (h2:∀ l,μ u≠some (.list l)) (h3:dd≠u):ItemP μ' pas rs x dd fs j k r:=by
 obtain⟨a1,a2,a4,a5,a6,a7,a8,L,a9,a10⟩:=i
 exact⟨l _ _ (fun z=>h1 _ _ (by rw[← z]; exact a1)) a1,l _ _ h3 a2,a4,a5,a6,a7,a8,L,a9,l _ _ (fun z=>h2 _ (by rw[← z]; exact a10)) a10⟩
theorem ItemP.le {μ μ':Mem}{pas:List Addr}{rs:List Rule}{x dd:Addr}{fs:List (Str×MV)}{j k:Nat}{r:Rule} (i:ItemP μ pas rs x dd fs j k r) (l:Le μ μ'):ItemP μ' pas rs x dd fs j k r:=by
 obtain⟨a1,a2,a4,a5,a6,a7,a8,L,a9,a10⟩:=i
 exact⟨l _ _ a1,l _ _ a2,a4,a5,a6,a7,a8,L,a9,l _ _ a10⟩
noncomputable def ItemL (μ:Mem) (pas:List Addr) (rs:List Rule) (x:Addr) (j k:Nat) (r:Rule) (nx:MV):Prop:=∃ dd fs,ItemP μ pas rs x dd fs j k r∧atM fs "lr_next" = some nx
noncomputable def ProdL (μ:Mem) (pas:List Addr) (rs:List Rule) (it:Nat→Addr) (p:Addr) (c j:Nat) (r:Rule):Prop:=
 (∃ dp,ProdAt μ p dp c j r (.ref (it 0)))∧∀ k,k≤r.2.length→ItemL μ pas rs (it k) j k r (if k<r.2.length then .ref (it (k+1)) else .none)
noncomputable def FrJ (j:Nat) (μ μ':Mem):Prop:=∀ y mo,(∀ fs:List (Str×MV),mo=.idict fs→atM fs "prod"≠none→atM fs "number"≠some (.int j))→μ y=some mo→μ' y=some mo
theorem FrJ.refl (j:Nat) (μ:Mem):FrJ j μ μ:=fun _ _ _ e=>e
theorem FrJ.le {j:Nat}{μ μ' μ'':Mem} (x:FrJ j μ μ') (y:Le μ' μ''):FrJ j μ μ'':=fun b mo h e=>y b mo (x b mo h e)
theorem FrJ.i {j:Nat}{μ μ':Mem} (x:FrJ j μ μ'):LeI μ μ':=fun b mo h e=>x b mo (fun fs z=>absurd z (h fs)) e
theorem FrJ.turn {j:Nat}{μ μ' μ'':Mem}{u:Addr} (x:FrJ j μ μ') (y:LeB u μ' μ'') (h:(∃ fs:List (Str×MV),μ' u=some (.idict fs)∧atM fs "prod"≠none∧atM fs "number" = some (.int j))∨μ u=none):FrJ j μ μ'':=fun b mo k e=>by
 refine y b mo (fun z=>?_) (x b mo k e)
 subst z
 rcases h with ⟨fs,h1,h2,h3⟩ | h
 · have:=x b mo k e
   rw[h1] at this
   cases this
   exact k _ rfl h2 h3
 · rw[h] at e; cases e
theorem num_ne {i j:Nat} (h:i≠j):some (MV.int (i:Int))≠some (.int (j:Int)):=fun z=>by
 injection z with z; injection z with z; exact ω202 z h
theorem ProdAt.frJ {μ μ':Mem}{p dp:Addr}{c i j:Nat}{r:Rule}{nx:MV} (x:ProdAt μ p dp c i r nx) (l:FrJ j μ μ') (h:i≠j):ProdAt μ' p dp c i r nx:=by
 obtain⟨a,fs,b,d1,d2,d3,d4,d5⟩:=x
 exact⟨l _ _ (fun _ z=>nomatch z) a,fs,l _ _ (fun fs' z _=>by cases z; rw[d4]; exact num_ne h) b,d1,d2,d3,d4,d5⟩
theorem ItemP.frJ {μ μ':Mem}{pas:List Addr}{rs:List Rule}{x dd:Addr}{fs:List (Str×MV)}{i j k:Nat}{r:Rule} (o:ItemP μ pas rs x dd fs i k r) (l:FrJ j μ μ') (h:i≠j):ItemP μ' pas rs x dd fs i k r:=by
 obtain⟨a1,a2,a4,a5,a6,a7,a8,L,a9,a10⟩:=o
 exact⟨l _ _ (fun _ z=>nomatch z) a1,l _ _ (fun fs' z _=>by cases z; rw[a6]; exact num_ne h) a2,a4,a5,a6,a7,a8,L,a9,l _ _ (fun _ z=>nomatch z) a10⟩
theorem ProdL.frJ {μ μ':Mem}{pas:List Addr}{rs:List Rule}{it:Nat→Addr}{p:Addr}{c i j:Nat}{r:Rule} (x:ProdL μ pas rs it p c i r) (l:FrJ j μ μ') (h:i≠j):ProdL μ' pas rs it p c i r:=by
 obtain⟨⟨dp,h1⟩,h2⟩:=x
 refine⟨⟨dp,h1.frJ l h⟩,fun k hk=>?_⟩
 obtain⟨dd,fs,h3,h4⟩:=h2 k hk
 exact⟨dd,fs,h3.frJ l h,h4⟩
theorem GS.turn {μ μ':Mem}{a:GA}{head:MV}{pas:List Addr}{rs:List Rule}{c c' b:Nat} (x:GS μ a head pas rs c b) (l:LeI μ μ') (hd:μ' a.dg=μ a.dg) (hc:c≤c') (each:∀ j p r,pas[j]?=some p→rs[j]?=some r→∃ dp nx,ProdAt μ' p dp c' (j+1) r nx):GS μ' a head pas rs c' b where
 inst:=l _ _ (fun _ z=>nomatch z) x.inst
 flds:=let ⟨fs,h1,h2,h3⟩:=x.flds; ⟨fs,hd.trans h1,h2,ω171 h3 hc⟩
 prods:=l _ _ (fun _ z=>nomatch z) x.prods
 len:=x.len
 each:=each
 names:=by
  obtain⟨es,adr,h1,h2,h3,h4⟩:=x.names
  refine⟨es,adr,l _ _ (fun _ z=>nomatch z) h1,h2,fun y=>?_,h4⟩
  have:=h3 y
  split
  · rename_i hz; rw[if_pos hz] at this; exact this
  · rename_i hz; rw[if_neg hz] at this; exact⟨this.1,l _ _ (fun _ z=>nomatch z) this.2.1,this.2.2⟩
 map:=let ⟨es,h1,h2⟩:=x.map; ⟨es,l _ _ (fun _ z=>nomatch z) h1,h2⟩
 terms:=x.terms.to l
 nons:=x.nons.to l
 prec:=l _ _ (fun _ z=>nomatch z) x.prec
 start:=fun r hr=>let ⟨es,v,h1,h2⟩:=x.start r hr; ⟨es,v,l _ _ (fun _ z=>nomatch z) h1,h2⟩
 sep:=x.sep
noncomputable def Its (μ:Mem) (pas:List Addr) (rs:List Rule) (j:Nat) (r:Rule) (its:List Addr) (m:Nat):Prop:=
 ∀ k y,its[k]?=some y→∃ dd fs,ItemP μ pas rs y dd fs j k r∧(m≤k+1→fs.length≤30)∧∀ z,k+1<m→its[k+1]?=some z→atM fs "lr_next" = some (.ref z)
theorem strs_len_ne {r:Rule}{k:Nat}:some (MV.tup (strsM (dotted r.2 k)))≠some (.tup (strsM r.2)):=fun z=>by
 injection z with z; injection z with z
 have:=congrArg List.length z
 rw[strsM_length,strsM_length,dotted_length] at this
 exact Nat.succ_ne_self _ this
theorem ItemP.nep {μ:Mem}{pas:List Addr}{rs:List Rule}{x dd p dp:Addr}{fs:List (Str×MV)}{i j k c:Nat}{r:Rule}{nx:MV} (o:ItemP μ pas rs x dd fs i k r) (q:ProdAt μ p dp c j r nx):dd≠dp:=fun z=>by
 obtain⟨_,ps,q1,_,_,q2,_⟩:=q
 have:=o.flds
 rw[z,q1] at this
 cases this
 have:=o.prod
 rw[q2] at this
 exact strs_len_ne this.symm
theorem ItemP.nei {μ:Mem}{pas:List Addr}{rs:List Rule}{x dd x' dd':Addr}{fs fs':List (Str×MV)}{i i' k k':Nat}{r r':Rule} (o:ItemP μ pas rs x dd fs i k r) (q:ItemP μ pas rs x' dd' fs' i' k' r') (h:k≠k'):dd≠dd':=fun z=>by
 have e:=o.flds
 rw[z,q.flds] at e
 cases e
 exact num_ne h (o.index.symm.trans q.index)
theorem ItemP.put {μ μ':Mem}{pas:List Addr}{rs:List Rule}{x dd:Addr}{fs:List (Str×MV)}{j k:Nat}{r:Rule} (i:ItemP μ pas rs x dd fs j k r) (l:LeB dd μ μ') {v:MV} (h:μ' dd=some (.idict (("lr_next",v)::fs))):ItemP μ' pas rs x dd (("lr_next",v)::fs) j k r:=by
 obtain⟨a1,a2,a4,a5,a6,a7,a8,L,a9,a10⟩:=i
 have nx:∀(y:Str),y≠"lr_next"→atM ((("lr_next":Str),v)::fs) y=atM fs y:=fun y h=>by rw[atM_cons,if_neg h]
 exact⟨l _ _ (fun z=>by rw[z,a2] at a1; cases a1) a1,h,(nx _ (by decide)).trans a4,(nx _ (by decide)).trans a5,(nx _ (by decide)).trans a6,(nx _ (by decide)).trans a7,fun z=>(nx _ (by decide)).trans (a8 z),L,(nx _ (by decide)).trans a9,l _ _ (fun z=>by rw[z,a2] at a10; cases a10) a10⟩
noncomputable def VB (a:GA) (p li last:Addr) (i:Nat) (ρ:List (Str×MV)):Prop:=Lk ρ "self" (.ref a.gr)∧Lk ρ "p" (.ref p)∧Lk ρ "i" (.int (i:Nat))∧Lk ρ "lr_items" (.ref li)∧Lk ρ "lastlri" (.ref last)
structure StI (μ0:Mem) (pas:List Addr) (rs:List Rule) (p dp li:Addr) (c j q:Nat) (r:Rule) (its:List Addr) (m:Nat) (μ:Mem):Prop where
 fr:FrJ j μ0 μ
 cnt:μ li=some (.ilist q)
 new:μ0 li=none
 prod:∃ nx,ProdAt μ p dp (if m=0 then c else c+1) j r nx∧∀ z,1≤m→its[0]?=some z→nx=.ref z
 items:Its μ pas rs j r its m
theorem dotted_next {r:List Str}{i:Nat} (h:i<r.length):(strsM (dotted r i))[i+1]?=some (.str (r.getD i "")):=by
 unfold strsM dotted
 rw[List.getElem?_map,List.getElem?_append_right (by simp; exact ω204)]
 have:i+1-(r.take i).length=1:=by simp; exact ω205 h
 rw[this,List.getElem?_cons_succ,List.getElem?_drop]
 simp[List.getD,h]
theorem dotted_prev {r:List Str}{i:Nat} (h:i<r.length):(strsM (dotted r (i+1)))[i]?=some (.str (r.getD i "")):=by
 unfold strsM dotted
 rw[List.getElem?_map,List.getElem?_append_left (by simp; exact ω206 h),List.getElem?_take]
 simp[List.getD,h]
theorem seq_last {l:Nat}:seqIndex? (-1) (l+1)=some l:=by
 unfold seqIndex?
 have:(if (-1:Int)<0 then -1+((l+1:Nat):Int) else -1)=(l:Int):=by rw[if_pos (by decide)]; exact ω207
 dsimp only
 rw[this]
 simp
 exact ω208
theorem seq_out {d l:Nat} (h:l≤d):seqIndex? (d:Int) l=none:=by
 unfold seqIndex?
 simp
 omega
noncomputable abbrev RULES (rs:List Rule):List Rule:=(START,["S"])::rs
theorem Its.nil {μ:Mem}{pas:List Addr}{rs:List Rule}{j:Nat}{r:Rule}{m:Nat}:Its μ pas rs j r [] m:=fun k y h=>by simp at h
theorem Its.keep {μ μ':Mem}{pas:List Addr}{rs:List Rule}{j:Nat}{r:Rule}{its:List Addr}{m:Nat} (x:Its μ pas rs j r its m) {u:Addr} (l:LeB u μ μ') (h1:∀ C d,μ u≠some (.inst C d)) (h2:∀ l,μ u≠some (.list l)) (h3:∀ k y dd fs,its[k]?=some y→ItemP μ pas rs y dd fs j k r→dd≠u):Its μ' pas rs j r its m:=fun k y h=>by
 refine ex2_2 (x k y h) fun dd fs a b=>?_
 exact⟨dd,fs,a.leB l h1 h2 (h3 k y dd fs h a),b⟩
theorem Its.le {μ μ':Mem}{pas:List Addr}{rs:List Rule}{j:Nat}{r:Rule}{its:List Addr}{m:Nat} (x:Its μ pas rs j r its m) (l:Le μ μ'):Its μ' pas rs j r its m:=fun k y h=>by
 refine ex2_2 (x k y h) fun dd fs a b=>?_
 exact⟨dd,fs,a.le l,b⟩
theorem Its.snoc {μ:Mem}{pas:List Addr}{rs:List Rule}{j:Nat}{r:Rule}{its:List Addr} (x:Its μ pas rs j r its its.length) {y dd:Addr}{fs:List (Str×MV)} (i:ItemP μ pas rs y dd fs j its.length r) (hl:fs.length≤30):Its μ pas rs j r (its++[y]) its.length:=fun k z h=>by
 by_cases hk:k<its.length
 · rw[List.getElem?_append_left hk] at h
   refine ex2_3 (x k z h) fun d' f' a b c=>?_
   refine⟨d',f',a,b,fun w h1 h2=>c w h1 ?_⟩
   rwa [List.getElem?_append_left h1] at h2
 · have:=(List.getElem?_eq_some_iff.mp h).1
   simp at this
   have hk:k=its.length:=ω113 this hk
   subst hk
   rw[List.getElem?_append_right (Nat.le_refl _)] at h
   simp at h
   subst h
   exact⟨dd,fs,i,fun _=>hl,fun w h1 _=>(ω210 h1).elim⟩
theorem ProdAt.put {μ μ':Mem}{p dp:Addr}{c j:Nat}{r:Rule}{nx:MV} (x:ProdAt μ p dp c j r nx) (l:LeB dp μ μ') {ps:List (Str×MV)} (hp:μ dp=some (.idict ps)) {v:MV} (h:μ' dp=some (.idict (("lr_next",v)::ps))):ProdAt μ' p dp (c+1) j r v:=by
 obtain⟨a,fs,b,d1,d2,d3,d4,d5,u,d6⟩:=x
 rw[hp] at b; cases b
 have nx:∀(y:Str),y≠"lr_next"→atM ((("lr_next":Str),v)::ps) y=atM ps y:=fun y h=>by rw[atM_cons,if_neg h]
 exact⟨l _ _ (fun z=>by rw[z,hp] at a; cases a) a,_,h,by simp; omega,(nx _ (by decide)).trans d2,(nx _ (by decide)).trans d3,(nx _ (by decide)).trans d4,by rw[atM_cons,if_pos rfl],u,(nx _ (by decide)).trans d6⟩
theorem ProdAt.put2 {μ μ':Mem}{p dp:Addr}{c j:Nat}{r:Rule}{nx:MV} (x:ProdAt μ p dp c j r nx) (l:LeB dp μ μ') {ps:List (Str×MV)} (hp:μ dp=some (.idict ps)) {v:MV} (h:μ' dp=some (.idict (("lr_items",v)::ps))):ProdAt μ' p dp (c+1) j r nx:=by
 obtain⟨a,fs,b,d1,d2,d3,d4,d5,u,d6⟩:=x
 rw[hp] at b; cases b
 have nx:∀(y:Str),y≠"lr_items"→atM ((("lr_items":Str),v)::ps) y=atM ps y:=fun y h=>by rw[atM_cons,if_neg h]
 exact⟨l _ _ (fun z=>by rw[z,hp] at a; cases a) a,_,h,by simp; omega,(nx _ (by decide)).trans d2,(nx _ (by decide)).trans d3,(nx _ (by decide)).trans d4,(nx _ (by decide)).trans d5,u,(nx _ (by decide)).trans d6⟩
theorem ProdAt.keep {μ μ':Mem}{p dp:Addr}{c j:Nat}{r:Rule}{nx:MV} (x:ProdAt μ p dp c j r nx) {u:Addr} (l:LeB u μ μ') (h1:∀ C d,μ u≠some (.inst C d)) (h2:dp≠u):ProdAt μ' p dp c j r nx:=by
 obtain⟨a,fs,b,d⟩:=x
 exact⟨l _ _ (fun z=>h1 _ _ (by rw[← z]; exact a)) a,fs,l _ _ h2 b,d⟩
theorem ilist_i {μ:Mem}{u:Addr}{k:Nat} (e:μ u=some (.ilist k)):(∀ C d,μ u≠some (.inst C d))∧∀ l,μ u≠some (.list l):=by
 rw[e]; exact⟨fun _ _ z=>(nomatch z),fun _ z=>(nomatch z)⟩
theorem idict_i {μ:Mem}{u:Addr}{k:List (Str×MV)} (e:μ u=some (.idict k)):(∀ C d,μ u≠some (.inst C d))∧∀ l,μ u≠some (.list l):=by
 rw[e]; exact⟨fun _ _ z=>(nomatch z),fun _ z=>(nomatch z)⟩
theorem Its.link {μ:Mem}{pas:List Addr}{rs:List Rule}{j:Nat}{r:Rule}{its:List Addr}{y':Addr}{i:Nat} (x:Its μ pas rs j r (its++[y']) i) (hil:its.length=i) (h1:1≤i) {last dd:Addr}{fs:List (Str×MV)} (hl:its[i-1]?=some last) (iy:ItemP μ pas rs last dd fs j (i-1) r) :
 Its (upd μ dd (.idict (("lr_next",.ref y')::fs))) pas rs j r (its++[y']) (i+1):=fun k z h=>by
 refine ex2_3 (x k z h) fun d' f' a b c=>?_
 have lb:LeB dd μ (upd μ dd (.idict (("lr_next",.ref y')::fs))):=LeB.upd _ _ _
 by_cases hk:k=i-1
 · subst hk
   have hz:z=last:=by
    rw[List.getElem?_append_left (ω211 h1 hil),hl] at h
    cases h; rfl
   subst hz
   refine⟨dd,_,iy.put lb (upd_same _ _ _),fun h2=>ω212 h1 h2,fun w h2 h3=>?_⟩
   rw[List.getElem?_append_right (ω213 hil)] at h3
   have:i-1+1-its.length=0:=ω214 h2 hil
   rw[this] at h3
   simp at h3
   subst h3
   rw[atM_cons,if_pos rfl]
 · refine⟨d',f',a.leB lb (idict_i iy.flds).1 (idict_i iy.flds).2 (a.nei iy hk),fun h2=>b (ω215 h2),fun w h2 h3=>c w ?_ h3⟩
   exact ω216 h2 hk
theorem index_isExc:isSubtype (.type "IndexError") (.type "BaseException")=pure true:=by rw[isSubtype_type]; kernel_rfl
theorem index_notTuple:isSubtype (.type ((Manifest.find? "IndexError").elim "type" fun x=>x.metatype)) (.type "tuple")=pure false:=by rw[isSubtype_type]; kernel_rfl
theorem index_self:isSubtype (.type "IndexError") (.type "IndexError")=pure true:=by rw[isSubtype_type]; kernel_rfl
section
variable {G:Gd}{n:Nat}{cx:Cx}{μ:Mem}{Φ:MV→Mem→Prop}
theorem c_build (g:Law G) {a:GA}{p0:Addr}{pas:List Addr}{rs:List Rule}{c b:Nat} (gs:GS μ a (.ref p0) pas rs c b) (hp0:∃ dp nx,ProdAt μ p0 dp c 0 (START,["S"]) nx) (hrs:∀ r∈rs,r.2.length≤3) (hc:c≤900) (hpl:pas.length≤900)
 (q:∀(it:Nat→Nat→Addr) (μ':Mem),GS μ' a (.ref p0) pas rs (c+2) b→(∀ j p r,(p0::pas)[j]?=some p→(RULES rs)[j]?=some r→ProdL μ' pas rs (it j) p (c+2) j r)→LeI μ μ'→Φ .none μ'):WpC G (n+9) μ 280 [.ref a.gr] Φ:=by
 refine call_plain' g [("self",.ref a.gr)] (fun _=>by rfl) (fun _=>by kernel_rfl) (bind1 (fun _=>rfl)) ?_
 refine ex1_3 (gs.flds) fun fs hfs gf hfl=>?_
 refine ex2_4 (gs.names) fun es adr n1 n2 n3 n4=>?_
 have plen:=gs.len
 refine WpS.cons (WpS1.for_ (WpIt.list (WpE.attr (WpE.loc rfl (o_getattr gs.inst hfs gf.P (gR_Productions g) ⟨a.P,_,rfl,gs.prods,.inr ⟨rfl,fun _ _=>rfl⟩,pas.length+1,
  (fun m ρ μ'=>m≤pas.length+1∧Lk ρ "self" (.ref a.gr)∧LeI μ μ'∧μ' a.dg=μ a.dg∧∃ it:Nat→Nat→Addr,∀ j p r,(p0::pas)[j]?=some p→(RULES rs)[j]?=some r→(j<m→ProdL μ' pas rs (it j) p (c+2) j r)∧(m≤j→∃ dp nx,ProdAt μ' p dp c j r nx)),
  ⟨ω76,rfl,Le.refl _ |>.i,rfl,fun _ _=>0,fun j p r h1 h2=>⟨fun h=>absurd h (Nat.not_lt_zero _),fun _=>?_⟩⟩,?_⟩)))))
 · cases j with
   | zero=>simp at h1 h2; subst h1 h2; exact hp0
   | succ j=>exact gs.each j p r (by simpa using h1) (by simpa using h2)
 rintro m ρ μ0 ⟨hm,v1,li0,hdg,it,hit⟩
 refine⟨hm,_,⟨_,li0 _ _ (fun _ z=>nomatch z) gs.prods,rfl⟩,?_⟩
 by_cases hlt:m<pas.length+1
 · obtain⟨p,hp⟩:∃ p,(p0::pas)[m]?=some p:=⟨_,List.getElem?_eq_getElem (by simpa using hlt)⟩
   obtain⟨r,hr⟩:∃ r,(RULES rs)[m]?=some r:=⟨_,List.getElem?_eq_getElem (by simp; exact ω217 hlt plen)⟩
   have hr3:r.2.length≤3:=by
    rcases List.mem_cons.mp (List.mem_of_getElem? hr) with rfl | h
    · decide
    · exact hrs r h
   have hget:(MV.ref p0::pas.map MV.ref)[m]?=some (.ref p):=by
    have:(MV.ref p0::pas.map MV.ref)=(p0::pas).map MV.ref:=rfl
    rw[this,List.getElem?_map,hp]; rfl
   rw[hget]
   refine⟨hlt,WpA.name ?_⟩
   obtain⟨dp,nx0,pr0⟩:=(hit m p r hp hr).2 (Nat.le_refl _)
   refine WpS.cons (WpS1.assign (WpE.loc rfl ?_))
   refine WpS.cons (WpS1.assign (WpE.int ?_))
   refine WpS.cons (WpS1.assign (WpE.ilist0 fun li hli=>?_))
   have w0:VB a p li p 0 ((("lr_items":Str),MV.ref li)::(("i":Str),MV.int 0)::(("lastlri":Str),MV.ref p)::(("p":Str),MV.ref p)::ρ):=⟨v1,rfl,rfl,rfl,rfl⟩
   have st0:StI μ0 pas rs p dp li c m 0 r [] 0 (upd μ0 li (.ilist 0)):=⟨(FrJ.refl _ _).le (Le.upd hli),upd_same _ _ _,hli,⟨nx0,pr0.le (Le.upd hli),fun z h=>absurd h (Nat.lt_irrefl _)⟩,Its.nil⟩
   have e1:μ0 a.gr=some (.inst 283 a.dg):=li0 _ _ (fun _ z=>nomatch z) gs.inst
   have e2:μ0 a.dg=some (.idict fs):=hdg.trans hfs
   have e3:μ0 a.N=some (.sdict es):=li0 _ _ (fun _ z=>nomatch z) n1
   have e4:∀ x,sel pas rs x≠[]→atM es x=some (.ref (adr x))∧μ0 (adr x)=some (.list ((sel pas rs x).map .ref)):=fun x h=>by
    have:=n3 x
    rw[if_neg h] at this
    exact⟨this.1,li0 _ _ (fun _ z=>nomatch z) this.2.1⟩
   have e5:∀ x,sel pas rs x=[]→atM es x=none:=fun x h=>by
    have:=n3 x
    rwa [if_pos h] at this
   have kdg:∀{μ'},FrJ m μ0 μ'→μ' a.dg=some (.idict fs):=fun h=>h _ _ (fun fs' z k=>by cases z; exact absurd gf.m4 k) e2
   have kpl:∀{μ':Mem}{y mo},FrJ m μ0 μ'→μ0 y=some mo→(∀ fs,mo≠.idict fs)→μ' y=some mo:=fun h e k=>h _ _ (fun fs' z=>absurd z (k fs')) e
   show WpS G _ _ _ _ _
   generalize ((("lr_items":Str),MV.ref li)::(("i":Str),MV.int 0)::(("lastlri":Str),MV.ref p)::(("p":Str),MV.ref p)::ρ)=ρ1 at w0 ⊢
   generalize upd μ0 li (.ilist 0)=μ1 at st0 ⊢
   refine WpS.cut (fun ρ μ'=>Lk ρ "self" (.ref a.gr)∧Lk ρ "p" (.ref p)∧Lk ρ "lr_items" (.ref li)∧FrJ m μ0 μ'∧∃ it',ProdL μ' pas rs it' p (c+1) m r) (WpS1.while_ (fun t ρ μ'=>∃ i its last,t=r.2.length+2-i∧i≤r.2.length+1∧its.length=i∧VB a p li last i ρ∧StI μ0 pas rs p dp li c m i r its i μ'∧(if i=0 then last=p else its[i-1]?=some last)) (r.2.length+2) ⟨0,[],p,rfl,ω76,rfl,?_,?_,by rw[if_pos rfl]⟩ ?_) ?_
   · exact w0
   · exact st0
   · clear w0 st0
     intro t ρ μ2 hh_
     refine ex3_6 hh_ fun i its last zr3 hi hil w st hlast=>?_
     obtain rfl:=zr3
     clear hh_
     refine and5 (id w) fun w1 w2 w3 w4 w5=>?_
     refine WpT.val (WpE.bool (o_truthB (ite_t rfl ?_)))
     refine WpS.cut (fun ρ' μ'=>VB a p li last i ρ'∧((i≤r.2.length∧∃ x,Lk ρ' "lri" (.ref x)∧StI μ0 pas rs p dp li c m i r (its++[x]) i μ')∨(i=r.2.length+1∧Lk ρ' "lri" .none∧StI μ0 pas rs p dp li c m i r its i μ'))) (WpS1.ite (WpT.cmp (WpE.loc w3 (WpE.callB (bn_len g) (WpEs.cons (WpE.loc w2 (WpEs.nil ?_))))))) ?_
     · obtain⟨nxp,prp,hnx⟩:=st.prod
       refine o_len_prod g prp (ω198 hr3) (o_gtI ⟨_,rfl,?_⟩)
       by_cases hle:i≤r.2.length
       · refine ite_f (by simp; omega) ?_
         refine WpS.cons (WpS1.assign (WpE.callG (gn_LRItem g) (gk_LRItem g) (WpEs.cons (WpE.loc w2 (WpEs.cons (WpE.loc w3 (WpEs.nil ?_)))))))
         refine c_item g prp (ω198 hr3) hle fun x dx fx μ3 ox fi=>?_
         have k1:=ox.le _ _ (kpl st.fr e1 (fun _ z=>nomatch z))
         have k2:=ox.le _ _ (kdg st.fr)
         have k3:=ox.le _ _ (kpl st.fr e3 (fun _ z=>nomatch z))
         have k4:∀ y,sel pas rs y≠[]→μ3 (adr y)=some (.list ((sel pas rs y).map .ref)):=fun y h=>ox.le _ _ (kpl st.fr (e4 y h).2 (fun _ z=>nomatch z))
         have fl:=fi.len
         have hand:∀ μ',μ'=μ3→∀ L,μ' L=none→∀ μ4,Own μ2 135 x dx (("lr_after",.ref L)::fx) μ4→LeB dx (upd μ' L (.list [])) μ4→(if i<r.2.length then sel pas rs (r.2.getD i "") else [])=[]→(∃ L',Own μ2 135 x dx (("lr_after",.ref L')::fx) μ4∧μ4 L'=some (.list ((if i<r.2.length then sel pas rs (r.2.getD i "") else []).map .ref))):=by
          rintro _ rfl L hL μ4 o4 l4 hz
          rw[hz]
          exact⟨L,o4,l4 _ _ (ox.new hL).2.2 (upd_same _ _ _)⟩
         refine WpS.cut (fun ρ' μ'=>ρ'=((("lri":Str),MV.ref x)::ρ)∧∃ L,Own μ2 135 x dx (("lr_after",.ref L)::fx) μ'∧μ' L=some (.list ((if i<r.2.length then sel pas rs (r.2.getD i "") else []).map .ref))) ?_ ?_
         · by_cases hlt2:i<r.2.length
           · by_cases hsel:sel pas rs (r.2.getD i "")=[]
             · refine WpS1.tryRaise (X:="KeyError") (Ξ:=fun μ'=>μ'=μ3) (raise_assignAttr (WpR.sub (WpE.attr (WpE.loc (show Lk (_::ρ) "self" (.ref a.gr) from w1) (o_getattr k1 k2 gf.N (gR_Prodnames g) (WpE.sub (WpE.getOwn rfl (gI_prod g) ox fi.prod (WpE.bin (WpE.loc (show Lk (_::ρ) "i" (.int i) from w3) (WpE.int (o_add ?_))))))))))) (catches_tup (bn_IndexError g) rfl (by decide) rfl rfl (bn_KeyError g) rfl (by decide) rfl rfl index_isExc index_notTuple key_index key_isExc key_notTuple key_self rfl) ?_
               · refine o_item_tup (k:=(i:Int)+1) (j:=i+1) ω218 (ω219 hlt2 hr3) (by have:=seq_nat (d:=i+1) (l:=(strsM (dotted r.2 i)).length) (by rw[strsM_length,dotted_length]; exact ω220 hlt2); simpa using this) (dotted_next hlt2) ?_
                 exact r_dict_none k3 (e5 _ hsel) rfl
               · intro μ' hμ'
                 refine WpS.cons (WpS1.setOwnAt (hμ'▸ox) rfl (sI_lr_after g) (ω221 fl) (WpE.list (WpEs.nil ⟨by simp,fun L hL=>⟨μ2,(hμ'▸ox).to (Le.upd hL),fun μ4 o4 l4=>WpS.nil ⟨rfl,rfl,hand μ' hμ' L hL μ4 o4 l4 (by rw[if_pos hlt2]; exact hsel)⟩⟩⟩)))
             · obtain⟨s1,s2⟩:=e4 _ hsel
               refine WpS1.tryOk (WpS.cons (WpS1.setOwnAt ox rfl (sI_lr_after g) (ω221 fl) (WpE.sub (WpE.attr (WpE.loc (show Lk (_::ρ) "self" (.ref a.gr) from w1) (o_getattr k1 k2 gf.N (gR_Prodnames g) (WpE.sub (WpE.getOwn rfl (gI_prod g) ox fi.prod (WpE.bin (WpE.loc (show Lk (_::ρ) "i" (.int i) from w3) (WpE.int (o_add ?_))))))))))))
               refine o_item_tup (k:=(i:Int)+1) (j:=i+1) ω218 (ω219 hlt2 hr3) (by have:=seq_nat (d:=i+1) (l:=(strsM (dotted r.2 i)).length) (by rw[strsM_length,dotted_length]; exact ω220 hlt2); simpa using this) (dotted_next hlt2) ?_
               refine o_item_sdict k3 s1 ⟨μ2,ox,fun μ4 o4 l4=>WpS.nil (WpS.nil ⟨rfl,rfl,_,o4,?_⟩)⟩
               rw[if_pos hlt2]
               have:=k4 _ hsel
               exact l4 _ _ (fun z=>by rw[z,ox.flds] at this; cases this) this
           · refine WpS1.tryRaise (X:="IndexError") (Ξ:=fun μ'=>μ'=μ3) (raise_assignAttr (WpR.subInner (WpE.attr (WpE.loc (show Lk (_::ρ) "self" (.ref a.gr) from w1) (o_getattr k1 k2 gf.N (gR_Prodnames g) (WpR.sub (WpE.getOwn rfl (gI_prod g) ox fi.prod (WpE.bin (WpE.loc (show Lk (_::ρ) "i" (.int i) from w3) (WpE.int (o_add ?_))))))))))) (catches_tup (bn_IndexError g) rfl (by decide) rfl rfl (bn_KeyError g) rfl (by decide) rfl rfl index_isExc index_notTuple index_self key_isExc key_notTuple index_key rfl) ?_
             · refine r_tup_out ω218 (ω222 hr3 hle) (by have:=seq_out (d:=i+1) (l:=(strsM (dotted r.2 i)).length) (by rw[strsM_length,dotted_length]; exact ω223 hlt2); simpa using this) rfl
             · intro μ' hμ'
               refine WpS.cons (WpS1.setOwnAt (hμ'▸ox) rfl (sI_lr_after g) (ω221 fl) (WpE.list (WpEs.nil ⟨by simp,fun L hL=>⟨μ2,(hμ'▸ox).to (Le.upd hL),fun μ4 o4 l4=>WpS.nil ⟨rfl,rfl,hand μ' hμ' L hL μ4 o4 l4 (by rw[if_neg hlt2])⟩⟩⟩)))
         · clear hand k1 k2 k3 k4
           rintro _ μ4 ⟨rfl,L,o4,hL⟩
           have fin:∀ d μ5,Own μ2 135 x dx (("lr_before",d)::("lr_after",.ref L)::fx) μ5→LeB dx μ4 μ5→(1≤i→d=.str (r.2.getD (i-1) ""))→StI μ0 pas rs p dp li c m i r (its++[x]) i μ5:=by
            intro d μ5 o5 l5 hd
            have nx:∀(y:Str),y≠"lr_before"→y≠"lr_after"→atM ((("lr_before":Str),d)::(("lr_after":Str),MV.ref L)::fx) y=atM fx y:=fun y h h'=>by rw[atM_cons,if_neg h,atM_cons,if_neg h']
            refine⟨st.fr.le o5.le,o5.le _ _ st.cnt,st.new,⟨nxp,prp.le o5.le,fun z h1 h2=>hnx z h1 ?_⟩,?_⟩
            · rwa [List.getElem?_append_left (ω224 h1 hil)] at h2
            · have si:=st.items.le o5.le
              subst hil
              refine si.snoc (dd:=dx) ⟨o5.inst,o5.flds,(nx _ (by decide) (by decide)).trans fi.name,(nx _ (by decide) (by decide)).trans fi.prod,(nx _ (by decide) (by decide)).trans fi.number,(nx _ (by decide) (by decide)).trans fi.index,fun h1=>?_,L,?_,l5 _ _ (fun z=>by rw[z,o4.flds] at hL; cases hL) hL⟩ (by simp; exact ω225 fl)
              · rw[atM_cons,if_pos rfl,hd h1]
              · rw[atM_cons,if_neg (by decide),atM_cons,if_pos rfl]
           refine WpS.cons (WpS1.tryOk (WpS.cons (WpS1.setOwnAt o4 rfl (sI_lr_before g) (by simp; exact ω226 fl) (WpE.sub (WpE.getOwn rfl (gI_prod g) o4 (v:=.tup (strsM (dotted r.2 i))) ?_ (WpE.bin (WpE.loc (show Lk (_::ρ) "i" (.int i) from w3) (WpE.int (o_sub ?_)))))))))
           · rw[atM_cons,if_neg (by decide)]; exact fi.prod
           by_cases h0:i=0
           · obtain⟨d,hd⟩:∃ d,(strsM (dotted r.2 i))[r.2.length]?=some d:=⟨_,List.getElem?_eq_getElem (by rw[strsM_length,dotted_length]; exact ω112)⟩
             refine o_item_tup (k:=(i:Int)-1) (j:=r.2.length) ω227 (ω228 h0) (by rw[strsM_length,dotted_length,h0]; exact seq_last) hd ⟨μ2,o4,fun μ5 o5 l5=>WpS.nil (WpS.nil (WpS.nil ⟨rfl,⟨w1,w2,w3,w4,w5⟩,.inl ⟨hle,x,rfl,fin d μ5 o5 l5 (fun h=>(ω229 h h0).elim)⟩⟩))⟩
           · obtain⟨k,rfl⟩:∃ k,i=k+1:=⟨i-1,ω230 h0⟩
             refine o_item_tup (k:=((k+1:Nat):Int)-1) (j:=k) ω231 (ω232 hle hr3) ?_ (dotted_prev (ω55 hle)) ⟨μ2,o4,fun μ5 o5 l5=>WpS.nil (WpS.nil (WpS.nil ⟨rfl,⟨w1,w2,w3,w4,w5⟩,.inl ⟨hle,x,rfl,fin _ μ5 o5 l5 (fun h=>rfl)⟩⟩))⟩
             have:=seq_nat (d:=k) (l:=(strsM (dotted r.2 (k+1))).length) (by rw[strsM_length,dotted_length]; exact ω111 hle)
             rw[show(((k+1:Nat):Int)-1)=(k:Int) by exact ω233]
             exact this
       · refine ite_t (by simp; exact ω234 hle) ?_
         exact WpS.cons (WpS1.assign (WpE.none (WpS.nil ⟨rfl,⟨w1,w2,w3,w4,w5⟩,.inr ⟨ω235 hi hle,rfl,st⟩⟩)))
     · clear st w w1 w2 w3 w4 w5
       rintro ρ' μ3 ⟨⟨w1,w2,w3,w4,w5⟩,⟨hle,x,w6,st⟩ | ⟨hie,w6,st⟩⟩
       · refine WpS.cut (fun ρ'' μ'=>ρ''=ρ'∧StI μ0 pas rs p dp li c m i r (its++[x]) (i+1) μ') (WpS1.setattr (WpE.loc w6 (WpE.loc w5 ?_))) ?_
         · obtain⟨nxp,prp,hnx⟩:=st.prod
           by_cases h0:i=0
           · subst h0
             rw[if_pos rfl] at hlast
             subst hlast
             have hits:its=[]:=List.length_eq_zero_iff.mp hil
             subst hits
             rw[if_pos rfl] at prp
             obtain⟨q1,ps,q2,q3,q4⟩:=id prp
             refine o_setattr q1 q2 (ω174 hc q3) (sP_lr_next g) ⟨rfl,rfl,⟨st.fr.turn (LeB.upd _ _ _) (.inl ⟨ps,q2,by rw[q4.2.1]; exact nofun,q4.2.2.1⟩),?_,st.new,⟨_,(prp.put (LeB.upd _ _ _) q2 (upd_same _ _ _)),fun z _ hz=>by simp at hz; rw[hz]⟩,?_⟩⟩
             · rw[upd_ne _ _ (fun z=>by have:=st.cnt; rw[z,q2] at this; cases this)]; exact st.cnt
             · intro k z hz
               refine ex2_3 (st.items k z hz) fun d' f' a1 a2 a3=>?_
               exact⟨d',f',a1.leB (LeB.upd _ _ _) (idict_i q2).1 (idict_i q2).2 (a1.nep prp),fun h=>a2 ω76,fun w h=>absurd h (Nat.not_lt_of_le (Nat.succ_le_succ (Nat.zero_le _)))⟩
           · rw[if_neg h0] at hlast
             rw[if_neg h0] at prp
             obtain⟨dd,fy,iy,iyl,_⟩:=st.items (i-1) last (by rw[List.getElem?_append_left (ω236 hil h0)]; exact hlast)
             refine o_setattr iy.inst iy.flds (by have:=iyl ω237; exact ω238 this) (sI_lr_next g) ⟨rfl,rfl,⟨st.fr.turn (LeB.upd _ _ _) (.inl ⟨fy,iy.flds,by rw[iy.prod]; exact nofun,iy.number⟩),?_,st.new,⟨nxp,?_,fun z h1 h2=>hnx z (ω239 h0) h2⟩,st.items.link hil (ω239 h0) hlast iy⟩⟩
             · rw[upd_ne _ _ (fun z=>by have:=st.cnt; rw[z,iy.flds] at this; cases this)]; exact st.cnt
             · rw[if_neg ω240]
               exact prp.keep (LeB.upd _ _ _) (idict_i iy.flds).1 (Ne.symm (iy.nep prp))
         · clear st
           rintro ρ'' μ4 ⟨rfl,st⟩
           obtain⟨dd,fy,iy,_⟩:=st.items i x (by rw[List.getElem?_append_right (ω125 hil),hil]; simp)
           refine WpS.cons (WpS1.ite (WpT.not (WpT.val (WpE.loc w6 (o_truthI iy.inst iy.flds (noBool g) (noLen g) (ite_f (by decide) (WpS.nil ?_)))))))
           refine WpS.cons (WpS1.expr (WpE.methB (id:="list.append") _ (WpE.loc w4 ?_)))
           refine⟨gets_ilist st.cnt PySem.F.slot_list_append PySem.F.type_list_append,WpEs.cons (WpE.loc w6 (WpEs.nil ?_))⟩
           refine o_appendI st.cnt (ω241 hr3 hle) ⟨rfl,?_⟩
           refine WpS.cons (WpS1.assign (WpE.loc w6 ?_))
           refine WpS.cons (WpS1.augadd (a:=(i:Int)) (b:=1) (show Lk (_::ρ'') "i" (.int i) from w3) (WpE.int ⟨rfl,WpS.nil ⟨r.2.length+2-(i+1),ω242 hle,i+1,its++[x],x,rfl,ω66 hle,by simp[hil],⟨w1,w2,rfl,w4,rfl⟩,?_,?_⟩⟩))
           · obtain⟨nxp,prp,hnx⟩:=st.prod
             have il:=ilist_i st.cnt
             refine⟨st.fr.turn (LeB.upd _ _ _) (.inr st.new),upd_same _ _ _,st.new,⟨nxp,prp.keep (LeB.upd _ _ _) il.1 (fun z=>?_),hnx⟩,st.items.keep (LeB.upd _ _ _) il.1 il.2 fun k y dd fs _ o z=>?_⟩
             · obtain⟨_,ps,q2,_⟩:=prp
               rw[z,st.cnt] at q2; cases q2
             · have:=o.flds
               rw[z,st.cnt] at this; cases this
           · rw[if_neg ω240,Nat.add_sub_cancel,List.getElem?_append_right (ω125 hil),hil]; simp
       · refine WpS.cut (fun ρ'' μ'=>ρ''=ρ'∧FrJ m μ0 μ'∧∃ it',ProdL μ' pas rs it' p (c+1) m r) (WpS1.setattr (WpE.loc w6 (WpE.loc w5 ?_))) ?_
         · obtain⟨nxp,prp,hnx⟩:=st.prod
           rw[if_neg (ω243 hie)] at hlast
           rw[if_neg (ω243 hie)] at prp
           refine ex2_3 (st.items (i-1) last hlast) fun dd fy iy iyl _=>?_
           have lb:LeB dd μ3 (upd μ3 dd (.idict (("lr_next",.none)::fy))):=LeB.upd _ _ _
           refine o_setattr iy.inst iy.flds (by have:=iyl ω237; exact ω238 this) (sI_lr_next g) ⟨rfl,rfl,st.fr.turn lb (.inl ⟨fy,iy.flds,by rw[iy.prod]; exact nofun,iy.number⟩),fun k=>its.getD k 0,⟨dp,?_⟩,fun k hk=>?_⟩
           · have h0:its[0]?=some (its.getD 0 0):=by rw[List.getD_eq_getElem?_getD,List.getElem?_eq_getElem (ω244 hil hie)]; rfl
             have:=hnx _ (ω245 hie) h0
             rw[← this]
             exact prp.keep lb (idict_i iy.flds).1 (Ne.symm (iy.nep prp))
           · have hk0:∀ k,k≤r.2.length→its[k]?=some (its.getD k 0):=fun k hk=>by rw[List.getD_eq_getElem?_getD,List.getElem?_eq_getElem (ω246 hil hie hk)]; rfl
             refine ex2_3 (st.items k _ (hk0 k hk)) fun d' f' a1 a2 a3=>?_
             by_cases hkl:k<r.2.length
             · rw[if_pos hkl]
               exact⟨d',f',a1.leB lb (idict_i iy.flds).1 (idict_i iy.flds).2 (a1.nei iy (ω247 hkl hie)),a3 _ (ω248 hkl hie) (hk0 _ (ω55 hkl))⟩
             · have hke:k=i-1:=ω249 hie hk hkl
               rw[if_neg hkl]
               have hlk:its.getD k 0=last:=by
                have:=hk0 k hk
                rw[hke] at this ⊢
                rw[hlast] at this
                cases this; rfl
               dsimp only
               rw[hlk,hke]
               exact⟨dd,_,iy.put lb (upd_same _ _ _),by rw[atM_cons,if_pos rfl]⟩
         · clear st
           rintro _ μ4 ⟨rfl,fr,pl⟩
           refine WpS.cons (WpS1.ite (WpT.not (WpT.val (WpE.loc w6 (o_truthN (ite_t rfl ?_))))))
           exact WpS.cons (WpS1.brk ⟨rfl,w1,w2,w4,fr,pl⟩)
   · rintro ρ' μ2 ⟨w1,w2,w3,fr,it',⟨dp',pr⟩,il⟩
     obtain⟨q1,ps,q2,q3,q4⟩:=id pr
     refine WpS.cons (WpS1.setattr (WpE.loc w3 (WpE.loc w2 (o_setattr q1 q2 (ω250 hc q3) (sP_lr_items g) ?_))))
     have lb:LeB dp' μ2 (upd μ2 dp' (.idict (("lr_items",.ref li)::ps))):=LeB.upd _ _ _
     have fr2:=fr.turn lb (.inl ⟨ps,q2,by rw[q4.2.1]; exact nofun,q4.2.2.1⟩)
     refine WpS.nil ⟨ω78 hlt,w1,li0.trans fr2.i,(kdg fr2).trans (hfs.symm),fun j=>if j=m then it' else it j,fun j p' r' h1 h2=>⟨fun h3=>?_,fun h3=>?_⟩⟩
     · by_cases hj:j=m
       · subst hj
         rw[hp] at h1; rw[hr] at h2
         cases h1; cases h2
         dsimp only
         rw[if_pos rfl]
         refine⟨⟨dp',pr.put2 lb q2 (upd_same _ _ _)⟩,fun k hk=>?_⟩
         refine ex2_2 (il k hk) fun dd fy iy hy=>?_
         exact⟨dd,fy,iy.leB lb (idict_i q2).1 (idict_i q2).2 (iy.nep pr),hy⟩
       · dsimp only
         rw[if_neg hj]
         exact((hit j p' r' h1 h2).1 (ω251 h3 hj)).frJ fr2 hj
     · obtain⟨dq,nx,hq⟩:=(hit j p' r' h1 h2).2 (ω89 h3)
       exact⟨dq,nx,hq.frJ fr2 (ω252 h3)⟩
 · have hme:m=pas.length+1:=ω80 hm hlt
   rw[show(MV.ref p0::pas.map MV.ref)[m]?=none from List.getElem?_eq_none_iff.mpr (by simp; exact ω253 hlt)]
   refine WpS.nil (q it μ0 (gs.turn li0 hdg ω254 fun j p r h1 h2=>?_) (fun j p r h1 h2=>(hit j p r h1 h2).1 ?_) li0)
   · obtain⟨⟨dp,h3⟩,_⟩:=(hit (j+1) p r (by simpa using h1) (by simpa using h2)).1 (by have:=(List.getElem?_eq_some_iff.mp h1).1; exact ω255 this hlt)
     exact⟨dp,_,h3⟩
   · have:=(List.getElem?_eq_some_iff.mp h1).1
     simp at this
     exact ω256 this hlt
end
section
variable {G:Gd}{n:Nat}{cx:Cx}{μ:Mem}{Φ:MV→Mem→Prop}
theorem raw_take {r:List Str}{k:Nat} (h:k<r.length):strsM (raw (r.take (k+1)))=strsM (raw (r.take k))++[.str (if r.getD k "" = "." then "'.'" else r.getD k "")]:=by
 rw[take_snoc (x:=r.getD k "") (by simp[List.getD,h])]
 unfold strsM raw
 rw[List.map_append,List.map_append]; rfl
theorem c_ladd (g:Law G) {a:GA}{head:MV}{pas:List Addr}{rs:List Rule}{c b:Nat}{r:Rule}{κ:Mem} (kμ:Le κ μ) (gs:GS (sub κ μ) a head pas rs c b) (hn:r.1∈NAMES) (hs:∀ x∈r.2,x∈SYMS) (hr:r.2.length≤3) (hb:b≤900) (hpl:pas.length≤900) (hc:c≤900) (hc20:20≤c) (hnew:∀ r'∈rs,mapKey r'≠mapKey r)
 (q:∀ p μ',κ p=none→Le κ μ'→GS (sub κ μ') a head (pas++[p]) (rs++[r]) c (b+20)→Φ .none μ'):WpC G (n+10) μ 319 [.ref a.gr,mvRule r] Φ:=by
 refine call_plain' g [("grammar",.ref a.gr),("rule",mvRule r)] (fun _=>by rfl) (fun _=>by kernel_rfl) (bind2 (fun _ _=>rfl)) ?_
 obtain⟨fs,hfs,gf,hfl⟩:=gs.flds
 have up:=sub_le κ μ
 refine WpS.cons (WpS1.expr (WpE.methF _ (gk_add_production g) (WpE.loc rfl ⟨gets_inst (up _ _ gs.inst) (up _ _ hfs) (mg_add_production g) (mf_add_production g) (mt_add_production g) gf.m1,WpEs.cons (WpE.sub (WpE.loc rfl (WpE.int ?_)))⟩)))
 refine o_item_tup (j:=0) (by decide) (by decide) (by rfl) rfl (WpEs.cons (WpE.comp [] (WpIt.tup (WpE.sub (WpE.loc rfl (WpE.int ?_)))) ?_))
 · refine o_item_tup (j:=1) (by decide) (by decide) (by rfl) rfl ⟨strsM r.2,rfl,.inr ⟨rfl,fun _ _=>rfl⟩,r.2.length,(fun k ds μ'=>k≤r.2.length∧ds=strsM (raw (r.2.take k))∧μ=μ'),ω102 hr,⟨ω50,rfl,rfl⟩,?_⟩
   rintro k ds _ ⟨hk,rfl,rfl⟩
   refine⟨hk,_,rfl,?_⟩
   by_cases hlt:k<r.2.length
   · rw[strsM_get hlt]
     refine⟨hlt,fun ρ=>WpA.name (WpIfs.nil ?_)⟩
     refine ite_t rfl (WpE.ifexp (WpT.cmp (WpE.loc rfl (WpE.str (o_eqS ⟨_,rfl,?_⟩)))))
     by_cases hd:r.2.getD k "" = "."
     · refine ite_t (by rw[beq_iff_eq]; exact hd) (WpE.str ⟨ω55 hlt,?_,rfl⟩)
       rw[raw_take hlt,if_pos hd]
     · refine ite_f (by rw[beq_iff_eq]; exact hd) (WpE.loc rfl ⟨ω55 hlt,?_,rfl⟩)
       rw[raw_take hlt,if_neg hd]
   · rw[show(strsM r.2)[k]?=none from List.getElem?_eq_none_iff.mpr (by rw[strsM_length]; exact ω85 hlt)]
     intro l hl
     have hke:k=r.2.length:=ω57 hk hlt
     subst hke
     rw[List.take_length]
     have kl:=Le.upd (mo:=.list (strsM (raw r.2))) hl
     have kz:κ l=none:=by
      cases z:κ l with
      | none=>rfl
      | some mo=>rw[kμ _ _ z] at hl; cases hl
     have es:sub (upd κ l (.list [])) (upd μ l (.list (strsM (raw r.2))))=sub κ μ:=by
      funext y
      by_cases hy:y=l
      · subst hy
        rw[sub_in (by rw[upd_same]; exact nofun),sub_out kz,hl]
      · cases z:κ y with
        | none=>rw[sub_out (by rw[upd_ne _ _ hy]; exact z),sub_out z,upd_ne _ _ hy]
        | some mo=>rw[sub_in (by rw[upd_ne _ _ hy,z]; exact nofun),sub_in (by rw[z]; exact nofun)]
     refine WpEs.nil (c_add g (κ:=upd κ l (.list [])) (l:=l) (by rw[upd_same]; exact nofun) (fun y mo h e=>?_) (by rw[es]; exact gs) (upd_same _ _ _) hn hs hr hb hpl hc hc20 hnew fun p μ' h1 h2 h3=>⟨rfl,WpS.nil (q p μ' ?_ (fun y mo e=>?_) (h3.le ?_))⟩)
     · rw[upd_ne _ _ h] at e ⊢; exact kμ _ _ e
     · by_cases hp:p=l
       · rw[hp]; exact kz
       · rwa [upd_ne _ _ hp] at h1
     · have hy:y≠l:=fun z=>by rw[z,kz] at e; cases e
       exact h2 _ _ hy (by rw[upd_ne _ _ hy]; exact e)
     · intro y mo e
       obtain⟨e1,e2⟩:=sub_of e
       have:κ y=none:=by
        by_cases hy:y=l
        · rw[hy]; exact kz
        · rwa [upd_ne _ _ hy] at e1
       rw[sub_out this]; exact e2
 · exact closure_nil rfl
end
noncomputable def NoDict:MO→Prop
 | .list _=>True
 | .inst _ _=>True
 | .cell _=>True
 | .ilist _=>True
 | .sdict _=>False
 | .tdict _=>False
 | .idict _=>False
theorem MR.noDict {G:Gd}{μ:Mem}{h:Heap}{a:Addr}{mo:MO} (r:MR G μ h a mo) (n:NoDict mo) {o:Obj} (ho:h.get? a=some o):(∀ es ep,o.data≠.dict es ep)∧¬ (o.cls=.type "tuple"∧∃ xs k,o.data=.seq xs k):=by
 cases mo with
 | list ds=>obtain⟨vs,k,e,_⟩:=r; rw[ho] at e; cases e; exact⟨nofun,fun z=>absurd (show(Value.type "list")=.type "tuple" from z.1) (by decide)⟩
 | sdict es=>exact n.elim
 | tdict es=>exact n.elim
 | inst C d=>unfold MR at r; rw[ho] at r; cases r; exact⟨nofun,fun z=>nomatch z.1⟩
 | idict fs=>exact n.elim
 | cell d=>obtain⟨v,⟨o',e,e'⟩,_⟩:=r; rw[ho] at e; cases e; rw[e']; exact⟨nofun,fun z=>by obtain⟨_,_,_,z⟩:=z; cases z⟩
 | ilist k=>obtain⟨vs,k,e,_⟩:=r; rw[ho] at e; cases e; exact⟨nofun,fun z=>absurd (show(Value.type "list")=.type "tuple" from z.1) (by decide)⟩
section
variable {G:Gd}{n:Nat}{cx:Cx}{μ:Mem}{Φ:MV→Mem→Prop}
theorem WpC.frame {κ:Mem}{f:Addr}{args:List MV} (hk:∀ b mo,κ b=some mo→NoDict mo) (le:Le κ μ) (p:WpC G n (sub κ μ) f args fun d ν=>∀ μ',Le κ μ'→sub κ μ'=ν→Φ d μ'):WpC G n μ f args Φ:=fun A fenv h₀ L s am i vs rs=>by
 have sn:∀{b},μ b=none→sub κ μ b=none:=fun {b} h=>by
  cases z:κ b with
  | none=>rw[sub_out z]; exact h
  | some m=>exact sub_in (by rw[z]; exact nofun)
 have t1:TExt μ s.heap (sub κ μ) s.heap:=fun b o m e _=>⟨e,sn m⟩
 have i':Inv G h₀ L (sub κ μ) s.heap:=⟨i.fr,fun a h=>i.off a (fun z=>h (sn z)),fun b hb=>let ⟨h1,h2⟩:=i.fs b hb; ⟨sn h1,h2⟩,fun a mo e=>(i.sim a mo (sub_of e).2).at rfl t1⟩
 refine codeAny_mono (p A fenv h₀ L s am i' vs (rs.ext t1)) ?_
 intro r s' hr
 cases r with
 | error e=>exact hr
 | ok fl=>
  cases fl with
  | ret v=>
   refine hr.elim fun d ν h' tk x S rv q=>?_
   have kk:∀ b mo,κ b=some mo→∃ o,s.heap.get? b=some o∧h'.get? b=some o∧ν b=none:=fun b mo e=>by
    have r0:=i.sim b mo (le _ _ e)
    obtain⟨o,ho⟩:=r0.live
    obtain⟨k1,k2⟩:=x b o (sub_in (by rw[e]; exact nofun)) ho
    exact⟨o,ho,k1.seq (r0.noDict (hk _ _ e) ho).1,k2⟩
   let μ':Mem:=fun b=>if (κ b).isSome then κ b else ν b
   have m1:∀ b mo,κ b=some mo→μ' b=some mo:=fun b mo e=>by show(if (κ b).isSome then κ b else ν b) = _; rw[e]; rfl
   have m2:∀ b,κ b=none→μ' b=ν b:=fun b e=>by show(if (κ b).isSome then κ b else ν b) = _; rw[e]; rfl
   have x':Ext G μ s.heap μ' h':=fun b o m e=>by
    obtain⟨k1,k2⟩:=x b o (sn m) e
    have:κ b=none:=by
     cases z:κ b with
     | none=>rfl
     | some mo=>rw[le _ _ z] at m; cases m
    exact⟨k1,(m2 b this).trans k2⟩
   have t2:TExt ν h' μ' h':=fun b o m e ht=>by
    refine⟨e,?_⟩
    cases z:κ b with
    | none=>exact(m2 b z).trans m
    | some mo=>
     obtain⟨o',h1,h2,_⟩:=kk b mo z
     rw[h2] at e; cases e
     exact absurd ht ((i.sim b mo (le _ _ z)).noDict (hk _ _ z) h1).2
   have S':Sim G μ' h':=fun a mo e=>by
    cases z:κ a with
    | none=>exact(S a mo (by rw[← m2 a z]; exact e)).at rfl t2
    | some mo'=>
     rw[m1 a mo' z] at e; cases e
     obtain⟨o,h1,h2,_⟩:=kk a mo z
     exact(i.sim a mo (le _ _ z)).at (h2.trans h1.symm) x'.t
   refine⟨d,μ',h',tk,rfl,x',S',rv.ext t2,q μ' m1 ?_⟩
   funext b
   cases z:κ b with
   | none=>rw[sub_out z]; exact m2 b z
   | some mo=>rw[sub_in (by rw[z]; exact nofun)]; exact(kk b mo z).choose_spec.2.2.symm
  | next=>exact hr
  | brk=>exact hr
  | cont=>exact hr
end
section
variable (rules:List Rule) (pl:List (List Str))
noncomputable def waitsFor (x:Str) (p:Nat) (q:Quad):Option (Nat×Nat×Nat):=match rules[q.1]? with
 | some r=>if q.2.1<r.2.length∧r.2.getD q.2.1 "" = x∧q.2.2.2=p then some (q.1,q.2.1,q.2.2.1) else none
 | none=>none
noncomputable def Wof (l:List Quad) (x:Str) (p:Nat):List (Nat×Nat×Nat):=l.filterMap (waitsFor rules x p)
noncomputable def endsAs (x:Str) (p:Nat) (q:Quad):Option Nat:=match rules[q.1]? with
 | some r=>if ¬ q.2.1<r.2.length∧r.1=x∧q.2.2.1=p then some q.2.2.2 else none
 | none=>none
noncomputable def Eof (l:List Quad) (x:Str) (p:Nat):List Nat:=l.filterMap (endsAs rules x p)
noncomputable def idxs (x:Str):List Nat:=(List.range rules.length).filter fun j=>decide (1≤j∧(rules.getD j ("",[])).1=x)
noncomputable def freshOf (l:List Quad) (q:Quad):List Quad:=match rules[q.1]? with
 | some r=>if q.2.1<r.2.length then
  (idxs rules (r.2.getD q.2.1 "")).map (fun j=>(j,0,q.2.2.2,q.2.2.2))++(Eof rules l (r.2.getD q.2.1 "") q.2.2.2).map (fun e=>(q.1,q.2.1+1,q.2.2.1,e)) ++
   (if q.2.2.2<pl.length∧r.2.getD q.2.1 ""∈pl.getD q.2.2.2 [] then [(q.1,q.2.1+1,q.2.2.1,q.2.2.2+1)] else [])
  else(Wof rules l r.1 q.2.2.1).map fun w=>(w.1,w.2.1+1,w.2.2,q.2.2.2)
 | none=>[]
noncomputable def ins (seen:List Quad) (q:Quad):List Quad:=if q∈seen then seen else seen++[q]
noncomputable def chStep (seen:List Quad) (k:Nat):List Quad:=match seen[k]? with
 | some q=>(freshOf rules pl (seen.take k) q).foldl ins seen
 | none=>seen
noncomputable def chAt:Nat→List Quad
 | 0=>[(0,0,0,0)]
 | k+1=>chStep rules pl (chAt k) k
noncomputable def Valid (q:Quad):Prop:=∃ r,rules[q.1]?=some r∧q.2.1≤r.2.length∧q.2.2.1≤q.2.2.2∧q.2.2.2≤pl.length∧(q.2.1=0→q.2.2.1=q.2.2.2)
noncomputable def ordPairs (m:Nat):List Pair:=(List.range (m+1)).flatMap fun i=>(List.range (m+1-i)).map fun j=>(i,i+j)
noncomputable def univR (m i:Nat) (r:Rule):List Quad:=(List.range (m+1)).map (fun p=>(i,0,p,p))++(List.range r.2.length).flatMap fun d=>(ordPairs m).map fun p=>(i,d+1,p.1,p.2)
noncomputable def univ (m:Nat):List Quad:=(List.range rules.length).flatMap fun i=>univR m i (rules.getD i ("",[]))
end
theorem mem_ins {l:List Quad}{q p:Quad}:p∈ins l q↔p∈l∨p=q:=by
 unfold ins
 split
 · rename_i h
   exact⟨.inl,fun z=>z.elim id (fun z=>z▸h)⟩
 · simp
theorem mem_insAll {p:Quad}:∀(fr l:List Quad),p∈fr.foldl ins l↔p∈l∨p∈fr
 | [],l=>by simp
 | q::fr,l=>by
  rw[List.foldl_cons,mem_insAll fr,mem_ins,List.mem_cons,or_assoc]
theorem nodup_ins {l:List Quad}{q:Quad} (h:l.Nodup):(ins l q).Nodup:=by
 unfold ins
 split
 · exact h
 · rename_i hn; exact nodup_snoc h hn
theorem nodup_insAll:∀(fr l:List Quad),l.Nodup→(fr.foldl ins l).Nodup
 | [],_,h=>h
 | q::fr,l,h=>nodup_insAll fr _ (nodup_ins h)
theorem ins_prefix (l:List Quad) (q:Quad):∃ t,ins l q=l++t:=by
 unfold ins
 split
 · exact⟨[],by simp⟩
 · exact⟨[q],rfl⟩
theorem insAll_prefix:∀(fr l:List Quad),∃ t,fr.foldl ins l=l++t
 | [],l=>⟨[],by simp⟩
 | q::fr,l=>by
  obtain⟨t,h⟩:=ins_prefix l q
  obtain⟨u,h2⟩:=insAll_prefix fr (ins l q)
  exact⟨t++u,by rw[List.foldl_cons,h2,h,List.append_assoc]⟩
section
variable {rules:List Rule}{pl:List (List Str)}
theorem mem_univ {q:Quad} (h:Valid rules pl q):q∈univ rules pl.length:=by
 obtain⟨r,h1,h2,h3,h4,h5⟩:=h
 have hi:=(List.getElem?_eq_some_iff.mp h1).1
 refine List.mem_flatMap.mpr ⟨q.1,List.mem_range.mpr hi,?_⟩
 rw[List.getD_eq_getElem?_getD,h1]
 obtain⟨i,d,a,b⟩:=q
 dsimp only at *
 unfold univR
 rw[List.mem_append]
 by_cases hd:d=0
 · have:=h5 hd
   subst hd this
   exact .inl (List.mem_map.mpr ⟨a,List.mem_range.mpr (ω66 h4),rfl⟩)
 · obtain⟨d,rfl⟩:∃ e,d=e+1:=⟨d-1,ω230 hd⟩
   refine .inr (List.mem_flatMap.mpr ⟨d,List.mem_range.mpr (show d<r.2.length from h2),List.mem_map.mpr ⟨(a,b),List.mem_flatMap.mpr ⟨a,List.mem_range.mpr (ω258 h3 h4),List.mem_map.mpr ⟨b-a,List.mem_range.mpr (ω259 h4 h3),?_⟩⟩,rfl⟩⟩)
   congr 1; exact ω260 h3
theorem flatMap_le {α β:Type}{f:α→List β}{c:Nat}:∀{l:List α},(∀ x∈l,(f x).length≤c)→(l.flatMap f).length≤l.length*c
 | [],_=>by simp
 | x::l,h=>by
  rw[List.flatMap_cons,List.length_append,List.length_cons,Nat.succ_mul]
  have h1:=h x (.head _)
  have h2:=flatMap_le (f:=f) (c:=c) (l:=l) fun y hy=>h y (.tail _ hy)
  exact ω261 h1 h2
theorem ordPairs_len {m:Nat} (h:m≤3):(ordPairs m).length≤10:=by
 match m,h with
 | 0,_=>decide
 | 1,_=>decide
 | 2,_=>decide
 | 3,_=>decide
theorem univR_len {m i:Nat}{r:Rule} (h:m≤3):(univR m i r).length≤4+10*r.2.length:=by
 unfold univR
 rw[List.length_append,List.length_map,List.length_range]
 have:=flatMap_le (f:=fun d=>(ordPairs m).map fun p=>((i,d+1,p.1,p.2):Quad)) (c:=10) (l:=List.range r.2.length) fun x _=>by rw[List.length_map]; exact ordPairs_len h
 rw[List.length_range] at this
 exact ω262 h this
theorem univ_len {m:Nat} (h:m≤3):(univ rules m).length≤(rules.map fun r=>4+10*r.2.length).sum:=by
 have:∀(l:List Rule) (k:Nat),((List.range l.length).flatMap fun i=>univR m (k+i) (l.getD i ("",[]))).length≤(l.map fun r=>4+10*r.2.length).sum:=by
  intro l
  induction l with
  | nil=>intro k; simp
  | cons r l ih=>
   intro k
   rw[List.length_cons,List.range_succ_eq_map,List.flatMap_cons,List.length_append,List.map_cons,List.sum_cons]
   have h1:=univR_len (i:=k) (r:=r) h
   have h2:=ih (k+1)
   have e:(List.map Nat.succ (List.range l.length)).flatMap (fun i=>univR m (k+i) ((r::l).getD i ("",[])))=(List.range l.length).flatMap fun i=>univR m (k+1+i) (l.getD i ("",[])):=by
    rw[List.flatMap_map]
    congr 1
    funext i
    simp[Nat.add_assoc,Nat.add_comm 1]
   rw[e]
   simp only[Nat.add_zero,List.getD_cons_zero]
   exact ω263 h1 h2
 have:=this rules 0
 simpa[univ] using this
theorem valid_len {l:List Quad} (hv:∀ q∈l,Valid rules pl q) (hn:l.Nodup) (h3:pl.length≤3) (hs:(rules.map fun r=>4+10*r.2.length).sum≤127):l.length≤127:=
 Nat.le_trans (length_le_of_nodup hn fun q hq=>mem_univ (hv q hq)) (Nat.le_trans (univ_len h3) hs)
theorem mem_Wof {l:List Quad}{x:Str}{p:Nat}{w:Nat×Nat×Nat}:w∈Wof rules l x p↔∃ r,rules[w.1]?=some r∧w.2.1<r.2.length∧r.2.getD w.2.1 "" = x∧(w.1,w.2.1,w.2.2,p)∈l:=by
 unfold Wof
 rw[List.mem_filterMap]
 constructor
 · rintro⟨q,hq,h⟩
   unfold waitsFor at h
   split at h
   · rename_i r hr
     split at h
     · rename_i hc
       cases h
       obtain⟨h1,h2,h3⟩:=hc
       exact⟨r,hr,h1,h2,by rw[← h3]; exact hq⟩
     · cases h
   · cases h
 · rintro⟨r,h1,h2,h3,h4⟩
   refine⟨_,h4,?_⟩
   unfold waitsFor
   dsimp only
   rw[h1]
   dsimp only
   rw[if_pos ⟨h2,h3,rfl⟩]
theorem mem_Eof {l:List Quad}{x:Str}{p e:Nat}:e∈Eof rules l x p↔∃ i r,rules[i]?=some r∧r.1=x∧∃ d,¬ d<r.2.length∧(i,d,p,e)∈l:=by
 unfold Eof
 rw[List.mem_filterMap]
 constructor
 · rintro⟨q,hq,h⟩
   unfold endsAs at h
   split at h
   · rename_i r hr
     split at h
     · rename_i hc
       cases h
       obtain⟨h1,h2,h3⟩:=hc
       exact⟨q.1,r,hr,h2,q.2.1,h1,by rw[← h3]; exact hq⟩
     · cases h
   · cases h
 · rintro⟨i,r,h1,h2,d,h3,h4⟩
   refine⟨_,h4,?_⟩
   unfold endsAs
   dsimp only
   rw[h1]
   dsimp only
   rw[if_pos ⟨h3,h2,rfl⟩]
theorem mem_idxs {x:Str}{j:Nat}:j∈idxs rules x↔1≤j∧∃ r,rules[j]?=some r∧r.1=x:=by
 unfold idxs
 rw[List.mem_filter,List.mem_range]
 constructor
 · rintro⟨h1,h2⟩
   have:=of_decide_eq_true h2
   exact⟨this.1,rules[j],List.getElem?_eq_getElem h1,by have h:=this.2; rwa [List.getD_eq_getElem?_getD,List.getElem?_eq_getElem h1] at h⟩
 · rintro⟨h1,r,h2,h3⟩
   exact⟨(List.getElem?_eq_some_iff.mp h2).1,decide_eq_true ⟨h1,by rw[List.getD_eq_getElem?_getD,h2]; exact h3⟩⟩
theorem fresh_valid {l:List Quad}{q:Quad} (hl:∀ p∈l,Valid rules pl p) (hq:Valid rules pl q):∀ p∈freshOf rules pl l q,Valid rules pl p:=by
 intro p hp
 unfold freshOf at hp
 obtain⟨r,h1,h2,h3,h4,h5⟩:=hq
 rw[h1] at hp
 dsimp only at hp
 split at hp
 · rename_i hd
   rcases List.mem_append.mp hp with hp | hp
   · rcases List.mem_append.mp hp with hp | hp
     · obtain⟨j,hj,rfl⟩:=List.mem_map.mp hp
       obtain⟨_,r',h6,_⟩:=mem_idxs.mp hj
       exact⟨r',h6,Nat.zero_le _,Nat.le_refl _,h4,fun _=>rfl⟩
     · obtain⟨e,he,rfl⟩:=List.mem_map.mp hp
       obtain⟨i',r',g1,g2,d',g3,g4⟩:=mem_Eof.mp he
       obtain⟨_,_,_,g5,g6,_⟩:=hl _ g4
       exact⟨r,h1,hd,Nat.le_trans h3 g5,g6,fun z=>by simp at z⟩
   · split at hp
     · rename_i hc
       rw[List.mem_singleton.mp hp]
       exact⟨r,h1,hd,Nat.le_succ_of_le h3,hc.1,fun z=>by simp at z⟩
     · cases hp
 · obtain⟨w,hw,rfl⟩:=List.mem_map.mp hp
   obtain⟨r',g1,g2,g3,g4⟩:=mem_Wof.mp hw
   obtain⟨_,_,_,g5,g6,_⟩:=hl _ g4
   exact⟨r',g1,g2,Nat.le_trans g5 h3,h4,fun z=>by simp at z⟩
theorem chAt_ok (h0:Valid rules pl (0,0,0,0)):∀ k,(∀ q∈chAt rules pl k,Valid rules pl q)∧(chAt rules pl k).Nodup
 | 0=>⟨fun q hq=>by rw[List.mem_singleton.mp hq]; exact h0,by simp[chAt]⟩
 | k+1=>by
  obtain⟨h1,h2⟩:=chAt_ok h0 k
  unfold chAt chStep
  split
  · rename_i q hq
    refine⟨fun p hp=>?_,nodup_insAll _ _ h2⟩
    rcases(mem_insAll _ _).mp hp with hp | hp
    · exact h1 p hp
    · exact fresh_valid (fun p hp=>h1 p (List.mem_of_mem_take hp)) (h1 q (List.mem_of_getElem? hq)) p hp
  · exact⟨h1,h2⟩
theorem chAt_prefix (k:Nat):∃ t,chAt rules pl (k+1)=chAt rules pl k++t:=by
 show ∃ t,chStep rules pl (chAt rules pl k) k = _
 unfold chStep
 split
 · exact insAll_prefix _ _
 · exact⟨[],by simp⟩
theorem Wof_snoc (l:List Quad) (q:Quad) (x:Str) (p:Nat):Wof rules (l++[q]) x p=Wof rules l x p++(waitsFor rules x p q).toList:=by
 unfold Wof
 rw[List.filterMap_append]
 cases h:waitsFor rules x p q <;> simp[h]
theorem Eof_snoc (l:List Quad) (q:Quad) (x:Str) (p:Nat):Eof rules (l++[q]) x p=Eof rules l x p++(endsAs rules x p q).toList:=by
 unfold Eof
 rw[List.filterMap_append]
 cases h:endsAs rules x p q <;> simp[h]
end
theorem sel_idx:∀{pas:List Addr}{rs:List Rule} (x:Str),pas.length=rs.length→sel pas rs x=((List.range rs.length).filter fun j=>decide ((rs.getD j ("",[])).1=x)).map fun j=>pas.getD j 0
 | [],[],x,_=>rfl
 | p::pas,r::rs,x,h=>by
  have ih:=sel_idx (pas:=pas) (rs:=rs) x (by simpa using h)
  have e:sel (p::pas) (r::rs) x=(if r.1=x then [p] else [])++sel pas rs x:=by
   unfold sel
   rw[List.zip_cons_cons,List.filter_cons]
   by_cases hx:r.1=x <;> simp[hx]
  rw[e,ih,List.length_cons,List.range_succ_eq_map,List.filter_cons,List.filter_map]
  by_cases hx:r.1=x
  · simp[hx,Function.comp_def]
  · simp[hx,Function.comp_def]
theorem idxs_eq (r0:Rule) (rs:List Rule) (x:Str):idxs (r0::rs) x=((List.range rs.length).filter fun j=>decide ((rs.getD j ("",[])).1=x)).map Nat.succ:=by
 unfold idxs
 rw[List.length_cons,List.range_succ_eq_map,List.filter_cons,List.filter_map]
 simp[Function.comp_def]
theorem sel_at {p0:Addr}{pas:List Addr}{rs:List Rule} (h:pas.length=rs.length) (x:Str):(sel pas rs x)=(idxs (RULES rs) x).map fun j=>(p0::pas).getD j 0:=by
 rw[sel_idx x h,idxs_eq,List.map_map]
 rfl
noncomputable def mvItem (it:Nat→Nat→Addr) (q:Quad):MV:=.tup [.ref (it q.1 q.2.1),.int q.2.2.1,.int q.2.2.2]
noncomputable def itemsM (it:Nat→Nat→Addr) (l:List Quad):List MV:=l.map (mvItem it)
noncomputable def mvW (it:Nat→Nat→Addr) (w:Nat×Nat×Nat):MV:=.tup [.ref (it w.1 w.2.1),.int w.2.2]
noncomputable def TabT (μ:Mem) (X:List Addr) (es:List (List (Str ⊕ Int)×MV)) (f:Str→Nat→List MV):Prop:=∀(x:Str) (p:Nat),(atM es [.inl x,.inr (p:Int)]=none∧f x p=[])∨∃ L,atM es [.inl x,.inr (p:Int)]=some (.ref L)∧L∉X∧μ L=some (.list (f x p))
theorem TabT.to {μ μ':Mem}{X:List Addr}{es:List (List (Str ⊕ Int)×MV)}{f:Str→Nat→List MV} (t:TabT μ X es f) (l:LeE X μ μ'):TabT μ' X es f:=fun x p=>(t x p).imp id fun ⟨L,h1,h2,h3⟩=>⟨L,h1,h2,l _ _ h2 h3⟩
theorem TabT.get {μ:Mem}{X:List Addr}{es:List (List (Str ⊕ Int)×MV)}{f:Str→Nat→List MV} (t:TabT μ X es f) (x:Str) (p:Nat) {e:Addr} (he:μ e=none) (hX:∀ y∈X,μ y≠none):∃ A,(atM es [.inl x,.inr (p:Int)]).getD (.ref e)=.ref A∧upd μ e (.list []) A=some (.list (f x p))∧A∉X:=by
 rcases t x p with ⟨h1,h2⟩ | ⟨L,h1,h2,h3⟩
 · exact⟨e,by rw[h1]; rfl,by rw[upd_same,h2],fun z=>hX _ z he⟩
 · exact⟨L,by rw[h1]; rfl,by rw[upd_ne _ _ (fun z=>by rw[z,he] at h3; cases h3)]; exact h3,h2⟩
theorem TabT.put {μ μ':Mem}{X:List Addr}{es:List (List (Str ⊕ Int)×MV)}{f f':Str→Nat→List MV} (t:TabT μ X es f) (l:LeE X μ μ') (x0:Str) (p0:Nat) {L:Addr}{new:List MV} (hL:L∉X) (hl:μ' L=some (.list (f x0 p0++new))) (hf:∀ x p,f' x p=if x=x0∧p=p0 then f x0 p0++new else f x p):TabT μ' X (putM es [.inl x0,.inr (p0:Int)] (.ref L)) f':=fun x p=>by
 rw[atM_putM,hf x p]
 by_cases h:x=x0∧p=p0
 · obtain⟨rfl,rfl⟩:=h
   rw[if_pos rfl,if_pos ⟨rfl,rfl⟩]
   exact .inr ⟨L,rfl,hL,hl⟩
 · rw[if_neg h,if_neg (fun z=>h (by simp at z; exact⟨z.1,by omega⟩))]
   exact t.to l x p
structure CI (rules:List Rule) (it:Nat→Nat→Addr) (X:List Addr) (μb:Mem) (ch se wa en:Addr) (seen seq:List Quad) (b:Nat) (μ:Mem):Prop where
 le:LeE X μb μ
 ch:μ ch=some (.list (itemsM it seen))
 se:μ se=some (.list (quadsM seen))
 wa:∃ es,μ wa=some (.tdict es)∧es.length≤b∧TabT μ X es fun x p=>(Wof rules seq x p).map (mvW it)
 en:∃ es,μ en=some (.tdict es)∧es.length≤b∧TabT μ X es fun x p=>natsM (Eof rules seq x p)
theorem CI.to {rules:List Rule}{it:Nat→Nat→Addr}{X Y:List Addr}{μb μ μ':Mem}{ch se wa en:Addr}{seen seq:List Quad}{b:Nat} (c:CI rules it X μb ch se wa en seen seq b μ) (l:LeE Y μ μ') (hY:∀ y∈Y,y∈X) (h1:ch∉Y) (h2:se∉Y) (h3:wa∉Y) (h4:en∉Y):CI rules it X μb ch se wa en seen seq b μ':=by
 have lx:LeE X μ μ':=fun y mo hy e=>l y mo (fun z=>hy (hY y z)) e
 refine ex1_3 (c.wa) fun es a1 a2 a3=>?_
 refine ex1_3 (c.en) fun es' b1 b2 b3=>?_
 exact⟨c.le.trans lx,l _ _ h1 c.ch,l _ _ h2 c.se,⟨es,l _ _ h3 a1,a2,a3.to lx⟩,⟨es',l _ _ h4 b1,b2,b3.to lx⟩⟩
theorem CI.up {rules:List Rule}{it:Nat→Nat→Addr}{X:List Addr}{μb μ μ':Mem}{ch se wa en:Addr}{seen seq:List Quad}{b:Nat} (c:CI rules it X μb ch se wa en seen seq b μ) (l:Le μ μ'):CI rules it X μb ch se wa en seen seq b μ':=c.to (l.e []) (by simp) (by simp) (by simp) (by simp) (by simp)
theorem mem_quadsM {q:Quad}{l:List Quad}:mvQuad q∈quadsM l↔q∈l:=by
 unfold quadsM
 rw[List.mem_map]
 constructor
 · rintro⟨p,hp,e⟩
   obtain⟨a,b,c,d⟩:=p
   obtain⟨a',b',c',d'⟩:=q
   unfold mvQuad at e
   injection e with e
   simp only[List.cons.injEq,MV.int.injEq] at e
   refine and5 (e) fun e1 e2 e3 e4 _=>?_
   have h1:a=a':=ω264 e
   have h2:b=b':=ω265 e
   have h3:c=c':=ω266 e
   have h4:d=d':=ω267 e
   subst h1 h2 h3 h4
   exact hp
 · exact fun h=>⟨q,h,rfl⟩
theorem oks_quadsM (l:List Quad):MV.oks (quadsM l)=true:=oks_iff.mpr fun d hd=>by
 obtain⟨q,_,rfl⟩:=List.mem_map.mp hd
 rfl
theorem o_getT2' {G:Gd}{n:Nat}{μ:Mem}{Φ:MV→Mem→Prop}{a:Addr}{es:List (List (Str ⊕ Int)×MV)} (ks:List (Str ⊕ Int)) {d v:MV} (e:μ a=some (.tdict es)) (hv:(atM es ks).getD d=v) (q:Φ v μ):WpOs G (n+1) μ [.ref a,.tup (mixs ks),d] (fun vs=>call (.builtin "dict.get") vs) Φ:=o_getT2 e (hv▸q)
theorem CI.setE {rules:List Rule}{it:Nat→Nat→Addr}{X:List Addr}{μb μ:Mem}{ch se wa en:Addr}{seen seq:List Quad}{b:Nat} (c:CI rules it X μb ch se wa en seen seq b μ) {es:List (List (Str ⊕ Int)×MV)} (e:μ en=some (.tdict es)) (xen:en∈X) (nn:en≠ch∧en≠se∧en≠wa) {q:Quad}{x0:Str}{p0 h:Nat}
 (hw:∀ x p,waitsFor rules x p q=none) (he:∀ x p,endsAs rules x p q=if x=x0∧p=p0 then some h else none) {L:Addr} (hL:L∉X) (hl:μ L=some (.list (natsM (Eof rules seq x0 p0)++[.int h]))):CI rules it X μb ch se wa en seen (seq++[q]) (b+1) (upd μ en (.tdict (putM es [.inl x0,.inr (p0:Int)] (.ref L)))):=by
 have lx:LeE X μ (upd μ en (.tdict (putM es [.inl x0,.inr (p0:Int)] (.ref L)))):=LeE.upd xen _ _
 refine ex1_3 (c.wa) fun ws a1 a2 a3=>?_
 refine ex1_3 (c.en) fun es' b1 b2 b3=>?_
 rw[e] at b1; cases b1
 refine⟨c.le.trans lx,(upd_ne _ _ (Ne.symm nn.1)).trans c.ch,(upd_ne _ _ (Ne.symm nn.2.1)).trans c.se,⟨ws,(upd_ne _ _ (Ne.symm nn.2.2)).trans a1,ω15 a2,?_⟩,⟨_,upd_same _ _ _,by have:=putM_length es [.inl x0,.inr (p0:Int)] (.ref L); exact ω88 b2 this,b3.put lx x0 p0 hL ((upd_ne _ _ (fun z=>hL (by rw[z]; exact xen))).trans hl) fun x p=>?_⟩⟩
 · have:(fun x p=>(Wof rules (seq++[q]) x p).map (mvW it))=fun x p=>(Wof rules seq x p).map (mvW it):=by
    funext x p; rw[Wof_snoc,hw]; simp
   rw[this]
   exact a3.to lx
 · rw[Eof_snoc,he]
   by_cases hx:x=x0∧p=p0
   · rw[if_pos hx,if_pos hx,hx.1,hx.2]
     unfold natsM
     rw[List.map_append]; rfl
   · rw[if_neg hx,if_neg hx]
     simp
theorem CI.setW {rules:List Rule}{it:Nat→Nat→Addr}{X:List Addr}{μb μ:Mem}{ch se wa en:Addr}{seen seq:List Quad}{b:Nat} (c:CI rules it X μb ch se wa en seen seq b μ) {ws:List (List (Str ⊕ Int)×MV)} (e:μ wa=some (.tdict ws)) (xwa:wa∈X) (nn:wa≠ch∧wa≠se∧wa≠en) {q:Quad}{x0:Str}{p0:Nat}{h:Nat×Nat×Nat}
 (hw:∀ x p,waitsFor rules x p q=if x=x0∧p=p0 then some h else none) (he:∀ x p,endsAs rules x p q=none) {L:Addr} (hL:L∉X) (hl:μ L=some (.list ((Wof rules seq x0 p0).map (mvW it)++[mvW it h]))):CI rules it X μb ch se wa en seen (seq++[q]) (b+1) (upd μ wa (.tdict (putM ws [.inl x0,.inr (p0:Int)] (.ref L)))):=by
 have lx:LeE X μ (upd μ wa (.tdict (putM ws [.inl x0,.inr (p0:Int)] (.ref L)))):=LeE.upd xwa _ _
 refine ex1_3 (c.wa) fun ws' a1 a2 a3=>?_
 refine ex1_3 (c.en) fun es b1 b2 b3=>?_
 rw[e] at a1; cases a1
 refine⟨c.le.trans lx,(upd_ne _ _ (Ne.symm nn.1)).trans c.ch,(upd_ne _ _ (Ne.symm nn.2.1)).trans c.se,⟨_,upd_same _ _ _,by have:=putM_length ws [.inl x0,.inr (p0:Int)] (.ref L); exact ω88 a2 this,a3.put lx x0 p0 hL ((upd_ne _ _ (fun z=>hL (by rw[z]; exact xwa))).trans hl) fun x p=>?_⟩,⟨es,(upd_ne _ _ (Ne.symm nn.2.2)).trans b1,ω15 b2,?_⟩⟩
 · rw[Wof_snoc,hw]
   by_cases hx:x=x0∧p=p0
   · rw[if_pos hx,if_pos hx,hx.1,hx.2]
     rw[List.map_append]; rfl
   · rw[if_neg hx,if_neg hx]
     simp
 · have:(fun x p=>natsM (Eof rules (seq++[q]) x p))=fun x p=>natsM (Eof rules seq x p):=by
    funext x p; rw[Eof_snoc,he]; simp
   rw[this]
   exact b3.to lx
theorem len_fm {α β:Type} (f:α→Option β) (l:List α):(l.filterMap f).length≤l.length:=List.length_filterMap_le _ _
theorem itemsM_get {it:Nat→Nat→Addr}{l:List Quad}{m:Nat}:(itemsM it l)[m]?=(l[m]?).map (mvItem it):=by unfold itemsM; rw[List.getElem?_map]
theorem itemsM_snoc {it:Nat→Nat→Addr}{l:List Quad}{m:Nat}{q:Quad} (h:l[m]?=some q):itemsM it (l.take m)++[mvItem it q]=itemsM it (l.take (m+1)):=by
 rw[take_snoc h]; unfold itemsM; rw[List.map_append]; rfl
theorem WpE.gen {G:Gd}{n:Nat}{cx:Cx}{μ:Mem}{e:Expr}{Φ:MV→Mem→Prop}{P:Mem→Prop} (h:P μ) (q:∀ μ',P μ'→WpE G n cx μ' e Φ):WpE G n cx μ e Φ:=q μ h
noncomputable def LocC (pa ch se wa en:Addr) (ρ:List (Str×MV)):Prop:=Lk ρ "places" (.ref pa)∧Lk ρ "chart" (.ref ch)∧Lk ρ "seen" (.ref se)∧Lk ρ "waiting" (.ref wa)∧Lk ρ "ended" (.ref en)
section
variable {G:Gd}{n:Nat}{cx:Cx}{μ:Mem}{Φ:MV→Mem→Prop}
theorem c_chart (g:Law G) (so:SortOk G) {pa p0:Addr}{pas:List Addr}{rs:List Rule}{it:Nat→Nat→Addr}{c:Nat}{pl:List (List Str)}
 (hL:∀ j p r,(p0::pas)[j]?=some p→(RULES rs)[j]?=some r→ProdL μ pas rs (it j) p c j r) (hlen:pas.length=rs.length) (hp:PlacesAt μ pa pl) (h3:pl.length≤3)
 (hrow:∀ r∈RULES rs,r.2.length≤3∧∀ x∈r.2,x∈SYMS) (htok:∀ t∈pl,t.length≤10∧∀ x∈t,x∈TOKENS) (hsum:((RULES rs).map fun r=>4+10*r.2.length).sum≤127)
 (q:∀ cc l k μ',μ cc=none→μ' cc=some (.list (quadsM l))→Ordered l→(chAt (RULES rs) pl k)[k]?=none→l.Perm (chAt (RULES rs) pl k)→Le μ μ'→Φ (.ref cc) μ') :
 WpC G (n+8) μ 324 [.ref (it 0 0),.ref pa] Φ:=by
 refine call_cells' g [("first",.ref (it 0 0)),("places",.ref pa)] [("places",.ref pa),("first",.ref (it 0 0))] ["after","high","low"] (fun x=>none) (fun _=>by rfl) (fun _=>by kernel_rfl) (bind2' (fun _ _=>rfl)) ?_ ?_
 · intro y hy
   have:y=("after":Str)∨y=("high":Str)∨y=("low":Str):=by simpa using hy
   rcases this with rfl | rfl | rfl
   · exact⟨rfl,rfl⟩
   · exact⟨rfl,rfl⟩
   · exact⟨rfl,rfl⟩
 intro L' hL'
 have m1:μ (L'+1)=none:=hL' _ (Nat.le_succ _)
 have m2:μ (L'+1+1)=none:=hL' _ (Nat.le_succ_of_le (Nat.le_succ _))
 have m3:μ (L'+1+1+1)=none:=hL' _ (Nat.le_succ_of_le (Nat.le_succ_of_le (Nat.le_succ _)))
 have ne12:L'+1≠L'+1+1:=Nat.ne_of_lt (Nat.lt_succ_self _)
 have ne13:L'+1≠L'+1+1+1:=Nat.ne_of_lt (Nat.lt_succ_of_lt (Nat.lt_succ_self _))
 have ne23:L'+1+1≠L'+1+1+1:=Nat.ne_of_lt (Nat.lt_succ_self _)
 show WpS G (n+7) _ (upd (upd (upd μ (L'+1) (.cell none)) (L'+1+1) (.cell none)) (L'+1+1+1) (.cell none)) _ _
 have le0:Le μ (upd (upd (upd μ (L'+1) (.cell none)) (L'+1+1) (.cell none)) (L'+1+1+1) (.cell none)):=((Le.upd m1).trans (Le.upd ((upd_ne _ _ (Ne.symm ne12)).trans m2))).trans (Le.upd (by rw[upd_ne _ _ (Ne.symm ne23),upd_ne _ _ (Ne.symm ne13)]; exact m3))
 have k1:upd (upd (upd μ (L'+1) (.cell none)) (L'+1+1) (.cell none)) (L'+1+1+1) (.cell none) (L'+1)=some (.cell none):=by rw[upd_ne _ _ ne13,upd_ne _ _ ne12,upd_same]
 have k2:upd (upd (upd μ (L'+1) (.cell none)) (L'+1+1) (.cell none)) (L'+1+1+1) (.cell none) (L'+1+1)=some (.cell none):=by rw[upd_ne _ _ ne23,upd_same]
 have k3:upd (upd (upd μ (L'+1) (.cell none)) (L'+1+1) (.cell none)) (L'+1+1+1) (.cell none) (L'+1+1+1)=some (.cell none):=upd_same _ _ _
 generalize upd (upd (upd μ (L'+1) (.cell none)) (L'+1+1) (.cell none)) (L'+1+1+1) (.cell none)=μ0 at le0 k1 k2 k3
 have hitem:∀(i k:Nat) (r:Rule),(RULES rs)[i]?=some r→k≤r.2.length→ItemL μ pas rs (it i k) i k r (if k<r.2.length then .ref (it i (k+1)) else .none):=fun i k r h1 h2=>by
  obtain⟨p,hp⟩:∃ p,(p0::pas)[i]?=some p:=⟨_,List.getElem?_eq_getElem (by have:=(List.getElem?_eq_some_iff.mp h1).1; simp at this ⊢; exact ω268 this hlen)⟩
  exact(hL i p r hp h1).2 k h2
 have hv0:Valid (RULES rs) pl (0,0,0,0):=⟨_,rfl,Nat.zero_le _,Nat.le_refl _,Nat.zero_le _,fun _=>rfl⟩
 have chl:∀ k,(chAt (RULES rs) pl k).length≤127:=fun k=>valid_len (chAt_ok hv0 k).1 (chAt_ok hv0 k).2 h3 hsum
 refine ex2_2 (hitem 0 0 (START,["S"]) rfl (by decide)) fun d0 f0 i0 nx0=>?_
 have i0':=i0.le le0
 refine WpS.cons (WpS1.assign (WpE.list (WpEs.cons (WpE.tuple (WpEs.cons (WpE.loc rfl (WpEs.cons (WpE.int (WpEs.cons (WpE.int (WpEs.nil ⟨by simp,WpEs.nil ⟨by simp,fun ch hch=>?_⟩⟩)))))))))))
 have j1:=Le.upd (mo:=.list [mvItem it (0,0,0,0)]) hch
 have i1:=i0'.le j1
 have eC:upd μ0 ch (.list [mvItem it (0,0,0,0)]) ch=some (.list (itemsM it (chAt (RULES rs) pl 0))):=upd_same _ _ _
 refine WpS.cons (WpS1.assign (WpE.list (WpEs.cons (WpE.tuple (WpEs.cons (WpE.attr (WpE.loc rfl (o_getattr i1.inst i1.flds i1.number (gI_number g) ?_))))))))
 refine WpEs.cons (WpE.attr (WpE.loc rfl (o_getattr i1.inst i1.flds i1.index (gI_lr_index g) ?_)))
 refine WpEs.cons (WpE.int (WpEs.cons (WpE.int (WpEs.nil ⟨by simp,WpEs.nil ⟨by simp,fun se hse=>?_⟩⟩))))
 change μ0 ch=none at hch
 change upd μ0 ch (.list [mvItem it (0,0,0,0)]) se=none at hse
 have j2:=Le.upd (mo:=.list [mvQuad (0,0,0,0)]) hse
 have nse:se≠ch:=fun z=>by rw[z,eC] at hse; cases hse
 have hse0:μ0 se=none:=by rwa [upd_ne _ _ nse] at hse
 refine WpS.cons (WpS1.assign (WpE.tdict0 fun wa hwa=>?_))
 change upd (upd μ0 ch (.list [mvItem it (0,0,0,0)])) se (.list [mvQuad (0,0,0,0)]) wa=none at hwa
 have j3:=Le.upd (mo:=.tdict []) hwa
 have eS:upd (upd μ0 ch (.list [mvItem it (0,0,0,0)])) se (.list [mvQuad (0,0,0,0)]) se=some (.list (quadsM (chAt (RULES rs) pl 0))):=upd_same _ _ _
 have eC2:=j2 _ _ eC
 have hwa0:μ0 wa=none:=by
  cases z:μ0 wa with
  | none=>rfl
  | some mo=>rw[j2 _ _ (j1 _ _ z)] at hwa; cases hwa
 refine WpS.cons (WpS1.assign (WpE.tdict0 fun en hen=>?_))
 change upd (upd (upd μ0 ch (.list [mvItem it (0,0,0,0)])) se (.list [mvQuad (0,0,0,0)])) wa (.tdict []) en=none at hen
 have j4:=Le.upd (mo:=.tdict []) hen
 have hen0:μ0 en=none:=by
  cases z:μ0 en with
  | none=>rfl
  | some mo=>rw[j3 _ _ (j2 _ _ (j1 _ _ z))] at hen; cases hen
 have eW:upd (upd (upd μ0 ch (.list [mvItem it (0,0,0,0)])) se (.list [mvQuad (0,0,0,0)])) wa (.tdict []) wa=some (.tdict []):=upd_same _ _ _
 have nw:wa≠ch∧wa≠se:=⟨fun z=>by(rw[z,eC2] at hwa; cases hwa),fun z=>by(rw[z,eS] at hwa; cases hwa)⟩
 have nn:en≠ch∧en≠se∧en≠wa:=⟨fun z=>by(rw[z,j3 _ _ eC2] at hen; cases hen),fun z=>by(rw[z,j3 _ _ eS] at hen; cases hen),fun z=>by(rw[z,eW] at hen; cases hen)⟩
 have eE:upd (upd (upd (upd μ0 ch (.list [mvItem it (0,0,0,0)])) se (.list [mvQuad (0,0,0,0)])) wa (.tdict [])) en (.tdict []) en=some (.tdict []):=upd_same _ _ _
 have le4:Le μ0 (upd (upd (upd (upd μ0 ch (.list [mvItem it (0,0,0,0)])) se (.list [mvQuad (0,0,0,0)])) wa (.tdict [])) en (.tdict [])):=((j1.trans j2).trans j3).trans j4
 have eC4:=j4 _ _ (j3 _ _ eC2)
 have eS4:=j4 _ _ (j3 _ _ eS)
 have eW4:=j4 _ _ eW
 show WpS G (n+7) _ (upd (upd (upd (upd μ0 ch (.list [mvItem it (0,0,0,0)])) se (.list [mvQuad (0,0,0,0)])) wa (.tdict [])) en (.tdict [])) _ _
 clear j1 j2 j3 j4 eC eC2 eS eW i1 i0' i0 hwa hen hse nx0
 generalize upd (upd (upd (upd μ0 ch (.list [mvItem it (0,0,0,0)])) se (.list [mvQuad (0,0,0,0)])) wa (.tdict [])) en (.tdict [])=μb at le4 eC4 eS4 eW4 eE
 have loc0:LocC pa ch se wa en [("ended",.ref en),("waiting",.ref wa),("seen",.ref se),("chart",.ref ch),("places",.ref pa),("first",.ref (it 0 0))]:=⟨rfl,rfl,rfl,rfl,rfl⟩
 have nc:∀{y:Addr},μ0 y=none→y∉[L'+1,L'+1+1,L'+1+1+1]:=fun {y} h z=>by
  have:y=L'+1∨y=L'+1+1∨y=L'+1+1+1:=by simpa using z
  rcases this with rfl | rfl | rfl
  · rw[k1] at h; cases h
  · rw[k2] at h; cases h
  · rw[k3] at h; cases h
 obtain⟨X,hXd⟩:∃ X,X=[ch,se,wa,en,L'+1,L'+1+1,L'+1+1+1]:=⟨_,rfl⟩
 have hYX:∀ y∈[L'+1,L'+1+1,L'+1+1+1],y∈X:=fun y hy=>by rw[hXd]; exact List.mem_append_right [ch,se,wa,en] hy
 have xch:ch∈X:=by rw[hXd]; simp
 have xse:se∈X:=by rw[hXd]; simp
 have xwa:wa∈X:=by rw[hXd]; simp
 have xen:en∈X:=by rw[hXd]; simp
 have hXn:∀ y∈X,μ y=none:=fun y hy=>by
  have bk:∀{y},μ0 y=none→μ y=none:=fun {y} h=>by
   cases z:μ y with
   | none=>rfl
   | some mo=>rw[le0 _ _ z] at h; cases h
  rw[hXd] at hy
  have:y=ch∨y=se∨y=wa∨y=en∨y=L'+1∨y=L'+1+1∨y=L'+1+1+1:=by simpa using hy
  rcases this with rfl | rfl | rfl | rfl | rfl | rfl | rfl
  · exact bk hch
  · exact bk hse0
  · exact bk hwa0
  · exact bk hen0
  · exact m1
  · exact m2
  · exact m3
 have hup:∀{μ':Mem},LeE X μb μ'→Le μ μ':=fun {μ'} h b mo e=>h b mo (fun z=>by rw[hXn b z] at e; cases e) (le4 _ _ (le0 _ _ e))
 have hcell0:∀ c∈[L'+1,L'+1+1,L'+1+1+1],∃ d,μb c=some (.cell d):=fun c hc=>by
  have:c=L'+1∨c=L'+1+1∨c=L'+1+1+1:=by simpa using hc
  rcases this with rfl | rfl | rfl
  · exact⟨_,le4 _ _ k1⟩
  · exact⟨_,le4 _ _ k2⟩
  · exact⟨_,le4 _ _ k3⟩
 have ych:=nc hch
 have yse:=nc hse0
 have ywa:=nc hwa0
 have yen:=nc hen0
 clear nc k1 k2 k3
 have ci0:CI (RULES rs) it X μb ch se wa en (chAt (RULES rs) pl 0) ((chAt (RULES rs) pl 0).take 0) 0 μb:=⟨fun _ _ _ e=>e,eC4,eS4,⟨[],eW4,by simp,fun x p=>.inl ⟨rfl,rfl⟩⟩,⟨[],eE,by simp,fun x p=>.inl ⟨rfl,rfl⟩⟩⟩
 refine WpS.cons (WpS1.for_ (WpIt.list (WpE.loc loc0.2.1 ⟨ch,_,rfl,eC4,.inl ⟨_,_,_,rfl⟩,128,
  (fun k ρ μ'=>k≤128∧k≤(chAt (RULES rs) pl k).length∧LocC pa ch se wa en ρ∧CI (RULES rs) it X μb ch se wa en (chAt (RULES rs) pl k) ((chAt (RULES rs) pl k).take k) k μ'∧∀ c∈[L'+1,L'+1+1,L'+1+1+1],∃ d,μ' c=some (.cell d)),
  ⟨ω269,by simp,loc0,ci0,hcell0⟩,?_⟩)))
 clear eC4 eS4 eW4 eE loc0 ci0 hcell0
 intro k ρ μ1 hh
 refine and5 hh fun hk hkl loc ci cells=>?_
 clear hh
 refine⟨hk,_,⟨_,ci.ch,rfl⟩,?_⟩
 have hck:=chl k
 cases hq:(chAt (RULES rs) pl k)[k]? with
 | none=>
  rw[show(itemsM it (chAt (RULES rs) pl k))[k]?=none by unfold itemsM; rw[List.getElem?_map,hq]; rfl]
  refine WpS.cons (WpS1.ret (WpE.callB (bn_sorted g) (WpEs.cons (WpE.loc loc.2.2.1 (WpEs.nil ?_)))))
  exact so (n+6) μ1 _ se _ ci.se (by omega) (chAt_ok hv0 k).2 fun l' hp' ho' cc hcc=>q cc l' k _ (by
   cases z:μ cc with
   | none=>rfl
   | some mo=>rw[hup ci.le _ _ z] at hcc; cases hcc) (upd_same _ _ _) ho' hq hp' ((hup ci.le).trans (Le.upd hcc))
 | some qq=>
  have hklt:k<(chAt (RULES rs) pl k).length:=(List.getElem?_eq_some_iff.mp hq).1
  rw[show(itemsM it (chAt (RULES rs) pl k))[k]?=some (mvItem it qq) by unfold itemsM; rw[List.getElem?_map,hq]; rfl]
  refine ex1_5 ((chAt_ok hv0 k).1 qq (List.mem_of_getElem? hq)) fun r hr hd hle hhi h00=>?_
  obtain⟨i,d,lo,hi⟩:=qq
  dsimp only at hr hd hle hhi h00
  obtain⟨v1,w1⟩:=cells (L'+1) (by simp)
  obtain⟨v2,w2⟩:=cells (L'+1+1) (by simp)
  obtain⟨v3,w3⟩:=cells (L'+1+1+1) (by simp)
  have w2':upd μ1 (L'+1) (.cell (some (.int lo))) (L'+1+1)=some (.cell v2):=by rw[upd_ne _ _ (Ne.symm ne12)]; exact w2
  refine⟨ω270 hklt hck,WpA.tup (WpAs.cons (WpA.name (WpAs.cons (WpA.cell w1 (WpAs.cons (WpA.cell w2' (WpAs.nil ?_) (by rfl))) (by rfl)))))⟩
  have lY:LeE [L'+1,L'+1+1,L'+1+1+1] μ1 (upd (upd μ1 (L'+1) (.cell (some (.int lo)))) (L'+1+1) (.cell (some (.int hi)))):=(LeE.upd (by simp) _ _).trans (LeE.upd (by simp) _ _)
  have ci2:=ci.to lY hYX ych yse ywa yen
  have g1:upd (upd μ1 (L'+1) (.cell (some (.int lo)))) (L'+1+1) (.cell (some (.int hi))) (L'+1)=some (.cell (some (.int lo))):=by rw[upd_ne _ _ ne12,upd_same]
  have g2:upd (upd μ1 (L'+1) (.cell (some (.int lo)))) (L'+1+1) (.cell (some (.int hi))) (L'+1+1)=some (.cell (some (.int hi))):=upd_same _ _ _
  have g3:upd (upd μ1 (L'+1) (.cell (some (.int lo)))) (L'+1+1) (.cell (some (.int hi))) (L'+1+1+1)=some (.cell v3):=by rw[upd_ne _ _ (Ne.symm ne23),upd_ne _ _ (Ne.symm ne13)]; exact w3
  have loc2:LocC pa ch se wa en ((("item":Str),MV.ref (it i d))::ρ):=loc
  show WpS G (n+7) _ (upd (upd μ1 (L'+1) (.cell (some (.int lo)))) (L'+1+1) (.cell (some (.int hi)))) _ _
  clear lY w1 w2 w3 w2' cells ci
  generalize upd (upd μ1 (L'+1) (.cell (some (.int lo)))) (L'+1+1) (.cell (some (.int hi)))=μ2 at ci2 g1 g2 g3
  refine ex2_2 (hitem i d r hr hd) fun dd fs ip inx=>?_
  have ip2:=ip.le (hup ci2.le)
  refine WpS.cons (WpS1.assignC (WpE.attr (WpE.loc rfl (o_getattr ip2.inst ip2.flds inx (gI_lr_next g) ⟨⟨_,g3⟩,?_⟩))) (by rfl))
  have ci3:=ci2.to (LeE.upd (l:=[L'+1,L'+1+1,L'+1+1+1]) (c:=L'+1+1+1) (by simp) μ2 (.cell (some (if d<r.2.length then MV.ref (it i (d+1)) else MV.none)))) hYX ych yse ywa yen
  have e1:upd μ2 (L'+1+1+1) (.cell (some (if d<r.2.length then MV.ref (it i (d+1)) else MV.none))) (L'+1)=some (.cell (some (.int lo))):=by rw[upd_ne _ _ ne13]; exact g1
  have e2:upd μ2 (L'+1+1+1) (.cell (some (if d<r.2.length then MV.ref (it i (d+1)) else MV.none))) (L'+1+1)=some (.cell (some (.int hi))):=by rw[upd_ne _ _ ne23]; exact g2
  have e3:upd μ2 (L'+1+1+1) (.cell (some (if d<r.2.length then MV.ref (it i (d+1)) else MV.none))) (L'+1+1+1)=some (.cell (some (if d<r.2.length then MV.ref (it i (d+1)) else MV.none))):=upd_same _ _ _
  generalize upd μ2 (L'+1+1+1) (.cell (some (if d<r.2.length then MV.ref (it i (d+1)) else MV.none)))=μ3 at ci3 e1 e2 e3
  clear ci2 g1 g2 g3 ip2
  have hT:((chAt (RULES rs) pl k).take k).length≤127:=by rw[List.length_take]; exact ω271 hck
  have hTk:(chAt (RULES rs) pl k).take (k+1)=(chAt (RULES rs) pl k).take k++[(i,d,lo,hi)]:=take_snoc hq
  have hcells:∀{μ':Mem}{v:Option MV},μ' (L'+1)=some (.cell (some (.int lo)))→μ' (L'+1+1)=some (.cell (some (.int hi)))→μ' (L'+1+1+1)=some (.cell v)→∀ c∈[L'+1,L'+1+1,L'+1+1+1],∃ d,μ' c=some (.cell d):=fun {μ' v} h1 h2 h3 c hc=>by
   have:c=L'+1∨c=L'+1+1∨c=L'+1+1+1:=by simpa using hc
   rcases this with rfl | rfl | rfl
   · exact⟨_,h1⟩
   · exact⟨_,h2⟩
   · exact⟨_,h3⟩
  have hXt:∀{seq:List Quad}{b:Nat}{μ':Mem},CI (RULES rs) it X μb ch se wa en (chAt (RULES rs) pl k) seq b μ'→(∀ c∈[L'+1,L'+1+1,L'+1+1+1],∃ d,μ' c=some (.cell d))→∀ y∈X,μ' y≠none:=fun {seq b μ'} c h y hy=>by
   rw[hXd] at hy
   have hy':y∈[ch,se,wa,en]++[L'+1,L'+1+1,L'+1+1+1]:=hy
   rcases List.mem_append.mp hy' with hy | hy
   · have:y=ch∨y=se∨y=wa∨y=en:=by simpa using hy
     obtain⟨_,a1,_⟩:=c.wa
     obtain⟨_,b1,_⟩:=c.en
     rcases this with rfl | rfl | rfl | rfl
     · rw[c.ch]; exact nofun
     · rw[c.se]; exact nofun
     · rw[a1]; exact nofun
     · rw[b1]; exact nofun
   · obtain⟨d,h⟩:=h y hy
     rw[h]; exact nofun
  refine WpS.cut (fun ρ' μ'=>LocC pa ch se wa en ρ'∧∃ f,Lk ρ' "fresh" (.ref f)∧f∉X∧μ' f=some (.list (itemsM it (freshOf (RULES rs) pl ((chAt (RULES rs) pl k).take k) (i,d,lo,hi))))∧CI (RULES rs) it X μb ch se wa en (chAt (RULES rs) pl k) ((chAt (RULES rs) pl k).take (k+1)) (k+1) μ'∧∀ c∈[L'+1,L'+1+1,L'+1+1+1],∃ d,μ' c=some (.cell d)) (WpS1.ite (WpT.cmp (WpE.cellv (.inl rfl) (c:=L'+1+1+1) rfl e3 (WpE.none (o_isNone ⟨_,rfl,?_⟩)) rfl))) ?_
  · by_cases hdl:d<r.2.length
    · rw[if_pos hdl] at e3 inx ⊢
      refine ite_f (by show ¬ (false=true); decide) ?_
      refine ex2_2 (hitem i (d+1) r hr (ω55 hdl)) fun dd1 fs1 ip1 inx1=>?_
      have hbef:atM fs1 "lr_before" = some (.str (r.2.getD d "")):=ip1.before ω10
      have hF:freshOf (RULES rs) pl ((chAt (RULES rs) pl k).take k) (i,d,lo,hi)=(idxs (RULES rs) (r.2.getD d "")).map (fun j=>(j,0,hi,hi))++(Eof (RULES rs) ((chAt (RULES rs) pl k).take k) (r.2.getD d "") hi).map (fun e=>(i,d+1,lo,e))++(if hi<pl.length∧r.2.getD d ""∈pl.getD hi [] then [(i,d+1,lo,hi+1)] else []):=by
       unfold freshOf; dsimp only; rw[hr]; dsimp only; rw[if_pos hdl]
      obtain⟨x,hx⟩:∃ x,x=r.2.getD d "":=⟨_,rfl⟩
      rw[← hx] at hbef hF
      have hE:(Eof (RULES rs) ((chAt (RULES rs) pl k).take k) x hi).length≤127:=Nat.le_trans (len_fm _ _) hT
      have hI:(idxs (RULES rs) x).length≤1000:=by
       have h1:(idxs (RULES rs) x).length≤(RULES rs).length:=by unfold idxs; exact Nat.le_trans (List.length_filter_le _ _) (by rw[List.length_range]; exact Nat.le_refl _)
       have h2:∀ l:List Rule,l.length≤(l.map fun r=>4+10*r.2.length).sum:=by
        intro l
        induction l with
        | nil=>simp
        | cons a l ih=>rw[List.length_cons,List.map_cons,List.sum_cons]; exact ω272 ih
       have:=h2 (RULES rs)
       exact ω273 hsum h1 this
      have ip1':=ip1.le (hup ci3.le)
      refine WpS.cons (WpS1.assign (WpE.attr (WpE.cellv (.inl rfl) (c:=L'+1+1+1) rfl e3 (o_getattr ip1'.inst ip1'.flds hbef (gI_lr_before g) ?_) rfl)))
      have ip3:=ip.le (hup ci3.le)
      obtain⟨La,hla,hLa⟩:=ip3.after
      rw[if_pos hdl,← hx] at hLa
      refine WpS.cons (WpS1.assignComp [("high",L'+1+1)] (WpIt.list (WpE.attr (WpE.loc rfl (o_getattr ip3.inst ip3.flds hla (gI_lr_after g) ⟨La,_,rfl,hLa,.inr ⟨rfl,fun _ _=>rfl⟩,(idxs (RULES rs) x).length,(fun m ds μ'=>m≤(idxs (RULES rs) x).length∧ds=itemsM it (((idxs (RULES rs) x).map (fun j=>(j,0,hi,hi))).take m)∧μ3=μ'),ω110 hI,⟨ω50,rfl,rfl⟩,?_⟩)))) ?_)
      · rintro m ds _ ⟨hm,rfl,rfl⟩
        refine⟨hm,_,⟨_,hLa,rfl⟩,?_⟩
        rw[sel_at (p0:=p0) hlen,List.map_map,List.getElem?_map]
        cases hw:(idxs (RULES rs) x)[m]? with
        | some j=>
         have hmlt:=(List.getElem?_eq_some_iff.mp hw).1
         obtain⟨hj1,r',hr',_⟩:=mem_idxs.mp (List.mem_of_getElem? hw)
         have hpj:(p0::pas)[j]?=some ((p0::pas).getD j 0):=by rw[List.getD_eq_getElem?_getD,List.getElem?_eq_getElem (by have:=(List.getElem?_eq_some_iff.mp hr').1; simp at this ⊢; exact ω268 this hlen)]; rfl
         obtain⟨dp,pr⟩:=(hL j _ r' hpj hr').1
         have pr':=pr.le (hup ci3.le)
         obtain⟨q1,ps,q2,q3,q4⟩:=pr'
         refine⟨hmlt,fun ρ'=>WpA.name (WpIfs.nil ?_)⟩
         refine ite_t rfl (WpE.tuple (WpEs.cons (WpE.attr (WpE.loc rfl (o_getattr q1 q2 q4.2.2.2.1 (gP_lr_next g) ?_)))))
         refine WpEs.cons (WpE.cellv (.inl rfl) (c:=L'+1+1) rfl e2 (WpEs.cons (WpE.cellv (.inl rfl) (c:=L'+1+1) rfl e2 (WpEs.nil ⟨by simp,⟨ω55 hmlt,?_,rfl⟩⟩) rfl)) rfl)
         rw[← itemsM_snoc (q:=(j,0,hi,hi)) (by rw[List.getElem?_map,hw]; rfl)]
         rfl
        | none=>
         have hmn:(idxs (RULES rs) x).length≤m:=List.getElem?_eq_none_iff.mp hw
         intro f hf
         rw[List.take_of_length_le (show((idxs (RULES rs) x).map (fun j=>((j,0,hi,hi):Quad))).length≤m by rw[List.length_map]; exact hmn)]
         have lf:=Le.upd (mo:=.list (itemsM it ((idxs (RULES rs) x).map (fun j=>(j,0,hi,hi))))) hf
         have ci5:=ci3.up lf
         have f1:=lf _ _ e1
         have f2:=lf _ _ e2
         have f3:=lf _ _ e3
         have ef:upd μ3 f (.list (itemsM it ((idxs (RULES rs) x).map (fun j=>(j,0,hi,hi))))) f=some (.list (itemsM it ((idxs (RULES rs) x).map (fun j=>(j,0,hi,hi))))):=upd_same _ _ _
         show WpS G (n+7) _ (upd μ3 f (.list (itemsM it ((idxs (RULES rs) x).map (fun j=>(j,0,hi,hi)))))) _ _
         clear lf hLa ip3 ip1' hf
         generalize upd μ3 f (.list (itemsM it ((idxs (RULES rs) x).map (fun j=>(j,0,hi,hi)))))=μ5 at *
         clear ci3 e1 e2 e3
         refine ex1_3 (ci5.en) fun es een hel ten=>?_
         refine WpS.cons (WpS1.assign (WpE.bin (WpE.loc rfl (WpE.comp [("low",L'+1),("after",L'+1+1+1)] (WpIt.list (WpE.methB (id:="dict.get") _ (WpE.loc (show Lk (_::_::_::ρ) "ended" (.ref en) from loc.2.2.2.2) ?_))) ?_))))
         · refine⟨gets_tdict een PySem.F.slot_dict_get PySem.F.type_dict_get,WpEs.cons (WpE.tuple (WpEs.cons (WpE.loc rfl ?_)))⟩
           refine WpEs.cons (WpE.cellv (.inl rfl) (c:=L'+1+1) rfl f2 (WpEs.nil ⟨by simp,?_⟩) rfl)
           refine WpEs.cons (WpE.list (WpEs.nil ⟨by simp,fun e he=>WpEs.nil ?_⟩))
           refine ex1_3 (ten.get x hi he (hXt ci5 (hcells f1 f2 f3))) fun A a1 a2 a3=>?_
           refine o_getT2' [.inl x,.inr (hi:Int)] (Le.upd he _ _ een) a1 ?_
           refine⟨A,_,rfl,a2,.inr ⟨rfl,fun _ _=>rfl⟩,(Eof (RULES rs) ((chAt (RULES rs) pl k).take k) x hi).length,(fun m ds μ'=>m≤(Eof (RULES rs) ((chAt (RULES rs) pl k).take k) x hi).length∧ds=itemsM it (((Eof (RULES rs) ((chAt (RULES rs) pl k).take k) x hi).map (fun e=>(i,d+1,lo,e))).take m)∧upd μ5 e (.list [])=μ'),ω274 hE,⟨ω50,rfl,rfl⟩,?_⟩
           have le:=Le.upd (mo:=.list []) he
           have ci6:=ci5.up le
           have g1:=le _ _ f1
           have g2:=le _ _ f2
           have g3:=le _ _ f3
           have gf:=le _ _ ef
           clear le ten een ci5 f1 f2 f3 ef a1
           generalize upd μ5 e (.list [])=μ6 at *
           rintro m ds _ ⟨hm,rfl,rfl⟩
           refine⟨hm,_,⟨_,a2,rfl⟩,?_⟩
           unfold natsM
           rw[List.getElem?_map]
           cases hw2:(Eof (RULES rs) ((chAt (RULES rs) pl k).take k) x hi)[m]? with
           | some w=>
            have hmlt:=(List.getElem?_eq_some_iff.mp hw2).1
            refine⟨hmlt,fun ρ'=>WpA.name (WpIfs.nil ?_)⟩
            refine ite_t rfl (WpE.tuple (WpEs.cons (WpE.cellv (.inl rfl) (c:=L'+1+1+1) rfl g3 ?_ rfl)))
            refine WpEs.cons (WpE.cellv (.inl rfl) (c:=L'+1) rfl g1 (WpEs.cons (WpE.loc rfl (WpEs.nil ⟨by simp,⟨ω55 hmlt,?_,rfl⟩⟩))) rfl)
            rw[← itemsM_snoc (q:=(i,d+1,lo,w)) (by rw[List.getElem?_map,hw2]; rfl)]
            rfl
           | none=>
            have hmn2:(Eof (RULES rs) ((chAt (RULES rs) pl k).take k) x hi).length≤m:=List.getElem?_eq_none_iff.mp hw2
            intro f2' hf2
            rw[List.take_of_length_le (show((Eof (RULES rs) ((chAt (RULES rs) pl k).take k) x hi).map (fun e=>((i,d+1,lo,e):Quad))).length≤m by rw[List.length_map]; exact hmn2)]
            refine o_addL (Le.upd hf2 _ _ gf) (upd_same _ _ _) (by simp[itemsM]; exact ω275 hI hE) fun F hFn=>?_
            have le7:=(Le.upd (mo:=.list (itemsM it ((Eof (RULES rs) ((chAt (RULES rs) pl k).take k) x hi).map (fun e=>(i,d+1,lo,e))))) hf2).trans (Le.upd (mo:=.list (itemsM it ((idxs (RULES rs) x).map (fun j=>(j,0,hi,hi)))++itemsM it ((Eof (RULES rs) ((chAt (RULES rs) pl k).take k) x hi).map (fun e=>(i,d+1,lo,e))))) hFn)
            have ci7:=ci6.up le7
            have h1:=le7 _ _ g1
            have h2:=le7 _ _ g2
            have h3:=le7 _ _ g3
            have FX:F∉X:=fun z=>by
             have le6:=Le.upd (mo:=.list (itemsM it ((Eof (RULES rs) ((chAt (RULES rs) pl k).take k) x hi).map (fun e=>(i,d+1,lo,e))))) hf2
             exact hXt (ci6.up le6) (hcells (le6 _ _ g1) (le6 _ _ g2) (le6 _ _ g3)) _ z hFn
            have hF7:upd (upd μ6 f2' (.list (itemsM it ((Eof (RULES rs) ((chAt (RULES rs) pl k).take k) x hi).map (fun e=>(i,d+1,lo,e)))))) F (.list (itemsM it ((idxs (RULES rs) x).map (fun j=>(j,0,hi,hi)))++itemsM it ((Eof (RULES rs) ((chAt (RULES rs) pl k).take k) x hi).map (fun e=>(i,d+1,lo,e))))) F=some (.list (itemsM it ((idxs (RULES rs) x).map (fun j=>(j,0,hi,hi))++(Eof (RULES rs) ((chAt (RULES rs) pl k).take k) x hi).map (fun e=>(i,d+1,lo,e))))):=by
             rw[upd_same]; unfold itemsM; rw[List.map_append]
            refine WpS.gen (P:=fun μ'=>CI (RULES rs) it X μb ch se wa en (chAt (RULES rs) pl k) ((chAt (RULES rs) pl k).take k) k μ'∧μ' (L'+1)=some (.cell (some (.int lo)))∧μ' (L'+1+1)=some (.cell (some (.int hi)))∧μ' (L'+1+1+1)=some (.cell (some (.ref (it i (d+1)))))∧μ' F=some (.list (itemsM it ((idxs (RULES rs) x).map (fun j=>(j,0,hi,hi))++(Eof (RULES rs) ((chAt (RULES rs) pl k).take k) x hi).map (fun e=>(i,d+1,lo,e)))))∧∃ ν:Mem,ν F=none∧CI (RULES rs) it X μb ch se wa en (chAt (RULES rs) pl k) ((chAt (RULES rs) pl k).take k) k ν∧Le ν μ') ⟨ci7,h1,h2,h3,hF7,_,hFn,ci6.up (Le.upd hf2),Le.upd hFn⟩ ?_
            clear hF7 h1 h2 h3 ci7 le7 hf2 hFn g1 g2 g3 ci6 gf a2 a3
            intro μ7 hh_
            refine and6 hh_ fun ci7 h1 h2 h3 hF7 hν=>?_
            clear hh_
            refine ex1_3 (hp.le (hup ci7.le)) fun bs hb1 hb2 hb3=>?_
            refine WpS.cut (fun ρ' μ'=>ρ'=((("fresh":Str),MV.ref F)::(("fresh":Str),MV.ref f)::(("x":Str),MV.str x)::(("item":Str),MV.ref (it i d))::ρ)∧CI (RULES rs) it X μb ch se wa en (chAt (RULES rs) pl k) ((chAt (RULES rs) pl k).take k) k μ'∧μ' (L'+1)=some (.cell (some (.int lo)))∧μ' (L'+1+1)=some (.cell (some (.int hi)))∧μ' (L'+1+1+1)=some (.cell (some (.ref (it i (d+1)))))∧μ' F=some (.list (itemsM it (freshOf (RULES rs) pl ((chAt (RULES rs) pl k).take k) (i,d,lo,hi))))) (WpS1.ite (WpT.and (WpT.cmp (WpE.cellv (.inl rfl) (c:=L'+1+1) rfl h2 (WpE.callB (bn_len g) (WpEs.cons (WpE.loc (show Lk (_::_::_::_::ρ) "places" (.ref pa) from loc.1) (WpEs.nil ?_)))) rfl)))) ?_
            · refine o_len_list hb1 (by simp; omega) (o_ltI ⟨_,rfl,?_⟩)
              rw[List.length_map,hb2]
              have noF:¬ (hi<pl.length∧x∈pl.getD hi [])→freshOf (RULES rs) pl ((chAt (RULES rs) pl k).take k) (i,d,lo,hi)=(idxs (RULES rs) x).map (fun j=>(j,0,hi,hi))++(Eof (RULES rs) ((chAt (RULES rs) pl k).take k) x hi).map (fun e=>(i,d+1,lo,e)):=fun h=>by rw[hF,if_neg h,List.append_nil]
              by_cases hh:hi<pl.length
              · refine ite_t (by simp; omega) ?_
                obtain⟨tb,htb⟩:∃ b,bs[hi]?=some b:=⟨_,List.getElem?_eq_getElem (ω103 hh hb2)⟩
                have htp:pl[hi]?=some (pl.getD hi []):=by rw[List.getD_eq_getElem?_getD,List.getElem?_eq_getElem hh]; rfl
                have htt:=htok _ (List.mem_of_getElem? htp)
                refine WpT.and (WpT.cmp (WpE.loc rfl (WpE.sub (WpE.loc (show Lk (_::_::_::_::ρ) "places" (.ref pa) from loc.1) (WpE.cellv (.inl rfl) (c:=L'+1+1) rfl h2 ?_ rfl)))))
                refine o_item_list (d:=.ref tb) hb1 ω34 (by omega) (by rw[List.getElem?_map,Int.toNat_natCast,htb]; rfl) ?_
                have hxs:x∈SYMS:=by rw[hx]; exact(hrow r (List.mem_of_getElem? hr)).2 _ (by simp[List.getD,hdl])
                refine o_inL (d:=.str x) (hb3 hi tb _ htb htp) (oks_strs fun y hy=>tok_ok (htt.2 y hy)) (by exact(len5 x hxs).1) (by simp[MV.deep]) fun c' hc'=>⟨c',rfl,?_⟩
                cases c' with
                | false=>
                 have hnx:x∉pl.getD hi []:=fun z=>by
                  have:=hc'.mpr (List.mem_map.mpr ⟨x,z,rfl⟩)
                  cases this
                 refine ite_f (by decide) (ite_f (by decide) (WpS.nil ⟨rfl,rfl,ci7,h1,h2,h3,?_⟩))
                 rw[noF (fun z=>hnx z.2)]; exact hF7
                | true=>
                 have hxm:x∈pl.getD hi []:=by
                  obtain⟨y,hy,e⟩:=List.mem_map.mp (hc'.mp rfl)
                  injection e with e
                  exact e▸hy
                 refine ite_t rfl (WpT.and_nil (ite_t rfl ?_))
                 refine WpS.cons (WpS1.expr (WpE.methB (id:="list.append") _ (WpE.loc rfl ?_)))
                 refine⟨gets_list hF7 PySem.F.slot_list_append PySem.F.type_list_append,WpEs.cons (WpE.tuple (WpEs.cons (WpE.cellv (.inl rfl) (c:=L'+1+1+1) rfl h3 ?_ rfl)))⟩
                 refine WpEs.cons (WpE.cellv (.inl rfl) (c:=L'+1) rfl h1 ?_ rfl)
                 refine WpEs.cons (WpE.bin (WpE.cellv (.inl rfl) (c:=L'+1+1) rfl h2 (WpE.int (o_add (WpEs.nil ⟨by simp,WpEs.nil ?_⟩))) rfl))
                 have lb:LeB F μ7 (upd μ7 F (.list (itemsM it ((idxs (RULES rs) x).map (fun j=>(j,0,hi,hi))++(Eof (RULES rs) ((chAt (RULES rs) pl k).take k) x hi).map (fun e=>(i,d+1,lo,e)))++[.tup [.ref (it i (d+1)),.int lo,.int ((hi:Int)+1)]]))):=LeB.upd _ _ _
                 have nF:∀{y:Addr},y∈X→y≠F:=fun h z=>FX (z▸h)
                 refine o_append hF7 (by simp[itemsM]; exact ω275 hI hE) ⟨rfl,WpS.nil ⟨rfl,rfl,?_,lb _ _ (nF (hYX _ (by simp))) h1,lb _ _ (nF (hYX _ (by simp))) h2,lb _ _ (nF (hYX _ (by simp))) h3,?_⟩⟩
                 · refine ex1_3 (hν) fun ν ν1 ν2 ν3=>?_
                   exact ν2.up fun b mo e=>lb _ _ (fun z=>by(rw[z,ν1] at e; cases e)) (ν3 _ _ e)
                 · rw[upd_same,hF,if_pos ⟨hh,hxm⟩]
                   have ia:∀ A q,itemsM it (A++[q])=itemsM it A++[mvItem it q]:=fun A q=>by unfold itemsM; rw[List.map_append]; rfl
                   rw[ia]
                   rfl
              · refine ite_f (by simp; exact ω85 hh) (ite_f (by decide) (WpS.nil ⟨rfl,rfl,ci7,h1,h2,h3,?_⟩))
                rw[noF (fun z=>hh z.1)]; exact hF7
            · clear hF7 h1 h2 h3 ci7 hb1 hb2 hb3
              intro _ μ8 hh_
              refine and6 hh_ fun zr0 ci8 h1 h2 h3 hF8=>?_
              obtain rfl:=zr0
              clear hh_
              refine ex1_3 (ci8.wa) fun ws ewa hwl twa=>?_
              refine WpS.cons (WpS1.setitem (WpE.bin (WpE.methB (id:="dict.get") _ (WpE.loc (show Lk (_::_::_::_::ρ) "waiting" (.ref wa) from loc.2.2.2.1) ?_))))
              refine⟨gets_tdict ewa PySem.F.slot_dict_get PySem.F.type_dict_get,WpEs.cons (WpE.tuple (WpEs.cons (WpE.loc rfl ?_)))⟩
              refine WpEs.cons (WpE.cellv (.inl rfl) (c:=L'+1+1) rfl h2 (WpEs.nil ⟨by simp,?_⟩) rfl)
              refine WpEs.cons (WpE.list (WpEs.nil ⟨by simp,fun e he=>WpEs.nil ?_⟩))
              refine ex1_3 (twa.get x hi he (hXt ci8 (hcells h1 h2 h3))) fun B b1 b2 b3=>?_
              refine o_getT2' [.inl x,.inr (hi:Int)] (Le.upd he _ _ ewa) b1 ?_
              refine WpE.list (WpEs.cons (WpE.tuple (WpEs.cons (WpE.loc rfl (WpEs.cons (WpE.cellv (.inl rfl) (c:=L'+1) rfl (Le.upd he _ _ h1) (WpEs.nil ⟨by simp,WpEs.nil ⟨by simp,fun b hb=>?_⟩⟩) rfl))))))
              have hW:(Wof (RULES rs) ((chAt (RULES rs) pl k).take k) x hi).length≤127:=Nat.le_trans (len_fm _ _) hT
              refine o_addL (Le.upd hb _ _ b2) (upd_same _ _ _) (by simp; exact ω277 hW) fun L hL=>?_
              have le7:=((Le.upd (mo:=.list []) he).trans (Le.upd (mo:=.list [mvW it (i,d,lo)]) hb)).trans (Le.upd (mo:=.list ((Wof (RULES rs) ((chAt (RULES rs) pl k).take k) x hi).map (mvW it)++[mvW it (i,d,lo)])) hL)
              have LX:L∉X:=fun z=>by
               have le6:=(Le.upd (mo:=.list []) he).trans (Le.upd (mo:=.list [mvW it (i,d,lo)]) hb)
               exact hXt (ci8.up le6) (hcells (le6 _ _ h1) (le6 _ _ h2) (le6 _ _ h3)) _ z hL
              refine WpE.gen (P:=fun μ'=>μ' L=some (.list ((Wof (RULES rs) ((chAt (RULES rs) pl k).take k) x hi).map (mvW it)++[mvW it (i,d,lo)]))∧CI (RULES rs) it X μb ch se wa en (chAt (RULES rs) pl k) ((chAt (RULES rs) pl k).take k) k μ'∧μ' (L'+1)=some (.cell (some (.int lo)))∧μ' (L'+1+1)=some (.cell (some (.int hi)))∧μ' (L'+1+1+1)=some (.cell (some (.ref (it i (d+1)))))∧μ' F=some (.list (itemsM it (freshOf (RULES rs) pl ((chAt (RULES rs) pl k).take k) (i,d,lo,hi))))∧μ' wa=some (.tdict ws)) ⟨upd_same _ _ _,ci8.up le7,le7 _ _ h1,le7 _ _ h2,le7 _ _ h3,le7 _ _ hF8,le7 _ _ ewa⟩ ?_
              clear le7 hL hb b2 b1 he twa ewa ci8 h1 h2 h3 hF8
              intro μ9 hh_
              refine and7 hh_ fun eL ci9 h1 h2 h3 hF9 ewa=>?_
              clear hh_
              refine WpE.loc (show Lk (_::_::_::_::ρ) "waiting" (.ref wa) from loc.2.2.2.1) (WpE.tuple (WpEs.cons (WpE.loc rfl ?_)))
              refine WpEs.cons (WpE.cellv (.inl rfl) (c:=L'+1+1) rfl h2 (WpEs.nil ⟨by simp,?_⟩) rfl)
              have hl5:ws.length≤16777216:=ω278 hklt hck hwl
              refine o_setT (ks:=[.inl x,.inr (hi:Int)]) ewa hl5 (WpS.nil ⟨rfl,loc,F,rfl,FX,?_,?_,fun c hc=>?_⟩)
              · rw[upd_ne _ _ (fun z=>FX (by rw[z]; exact xwa))]; exact hF9
              · rw[hTk]
                refine ci9.setW ewa xwa ⟨nw.1,nw.2,Ne.symm nn.2.2⟩ (fun y p=>?_) (fun y p=>?_) LX eL
                · unfold waitsFor; dsimp only; rw[hr]; dsimp only
                  by_cases hy:y=x∧p=hi
                  · rw[if_pos ⟨hdl,by rw[hy.1,hx],hy.2.symm⟩,if_pos hy]
                  · rw[if_neg (fun z=>hy ⟨by rw[hx]; exact z.2.1.symm,z.2.2.symm⟩),if_neg hy]
                · unfold endsAs; dsimp only; rw[hr]; dsimp only; rw[if_neg (fun z=>z.1 hdl)]
              · obtain⟨d',h'⟩:=hcells h1 h2 h3 c hc
                exact⟨d',by rw[upd_ne _ _ (fun z=>ywa (by rw[← z]; exact hc))]; exact h'⟩
         · intro env _ h
           obtain⟨sc,lo,gl,ce,qu,fu,co,fr,bu⟩:=env
           simp only at h
           subst h
           rfl
      · intro env _ h
        obtain⟨sc,lo,gl,ce,qu,fu,co,fr,bu⟩:=env
        simp only at h
        subst h
        rfl
    · rw[if_neg hdl] at e3 inx ⊢
      refine ite_t rfl ?_
      refine ex1_3 (ci3.wa) fun ws ewa hwl twa=>?_
      have ip3:=ip.le (hup ci3.le)
      have cells3:=hcells e1 e2 e3
      have hW:(Wof (RULES rs) ((chAt (RULES rs) pl k).take k) r.1 lo).length≤127:=Nat.le_trans (len_fm _ _) hT
      have hF:freshOf (RULES rs) pl ((chAt (RULES rs) pl k).take k) (i,d,lo,hi)=(Wof (RULES rs) ((chAt (RULES rs) pl k).take k) r.1 lo).map fun w=>(w.1,w.2.1+1,w.2.2,hi):=by
       unfold freshOf; dsimp only; rw[hr]; dsimp only; rw[if_neg hdl]
      refine WpS.cons (WpS1.assignComp [("high",L'+1+1)] (WpIt.list (WpE.methB (id:="dict.get") _ (WpE.loc loc2.2.2.2.1 ?_))) ?_)
      · refine⟨gets_tdict ewa PySem.F.slot_dict_get PySem.F.type_dict_get,WpEs.cons (WpE.tuple (WpEs.cons (WpE.attr (WpE.loc rfl (o_getattr ip3.inst ip3.flds ip3.name (gI_name g) ?_)))))⟩
        refine WpEs.cons (WpE.cellv (.inl rfl) (c:=L'+1) rfl e1 (WpEs.nil ⟨by simp,?_⟩) rfl)
        refine WpEs.cons (WpE.list (WpEs.nil ⟨by simp,fun e he=>WpEs.nil ?_⟩))
        refine ex1_3 (twa.get r.1 lo he (hXt ci3 cells3)) fun A a1 a2 a3=>?_
        refine o_getT2' [.inl r.1,.inr (lo:Int)] (Le.upd he _ _ ewa) a1 ?_
        refine⟨A,_,rfl,a2,.inl ⟨_,_,_,rfl⟩,(Wof (RULES rs) ((chAt (RULES rs) pl k).take k) r.1 lo).length,(fun m ds μ'=>m≤(Wof (RULES rs) ((chAt (RULES rs) pl k).take k) r.1 lo).length∧ds=itemsM it ((freshOf (RULES rs) pl ((chAt (RULES rs) pl k).take k) (i,d,lo,hi)).take m)∧upd μ3 e (.list [])=μ'),ω274 hW,⟨ω50,rfl,rfl⟩,?_⟩
        have ci4:=ci3.up (Le.upd (mo:=.list []) he)
        have e1':=Le.upd (mo:=.list []) he _ _ e1
        have e2':=Le.upd (mo:=.list []) he _ _ e2
        have e3':=Le.upd (mo:=.list []) he _ _ e3
        clear twa ewa ci3 e1 e2 e3 ip3 cells3
        generalize upd μ3 e (.list [])=μ4 at *
        rintro m ds _ ⟨hm,rfl,rfl⟩
        refine⟨hm,_,⟨_,a2,rfl⟩,?_⟩
        rw[List.getElem?_map]
        cases hw:(Wof (RULES rs) ((chAt (RULES rs) pl k).take k) r.1 lo)[m]? with
        | some w=>
         have hmlt:=(List.getElem?_eq_some_iff.mp hw).1
         refine ex1_4 (mem_Wof.mp (List.mem_of_getElem? hw)) fun r' hr' hd' _ hmem=>?_
         refine ex2_2 (hitem w.1 w.2.1 r' hr' (ω89 hd')) fun dd' fs' ip' inx'=>?_
         rw[if_pos hd'] at inx'
         have ip'':=ip'.le (hup ci4.le)
         refine⟨hmlt,fun ρ'=>WpA.tup (WpAs.cons (WpA.name (WpAs.cons (WpA.name (WpAs.nil (WpIfs.nil ?_))))))⟩
         refine ite_t rfl (WpE.tuple (WpEs.cons (WpE.attr (WpE.loc rfl (o_getattr ip''.inst ip''.flds inx' (gI_lr_next g) ?_)))))
         refine WpEs.cons (WpE.loc rfl (WpEs.cons (WpE.cellv (.inl rfl) (c:=L'+1+1) rfl e2' (WpEs.nil ⟨by simp,⟨ω55 hmlt,?_,rfl⟩⟩) rfl)))
         rw[← itemsM_snoc (q:=(w.1,w.2.1+1,w.2.2,hi)) (by rw[hF,List.getElem?_map,hw]; rfl)]
         rfl
        | none=>
         have hmn:(Wof (RULES rs) ((chAt (RULES rs) pl k).take k) r.1 lo).length≤m:=List.getElem?_eq_none_iff.mp hw
         intro f hf
         rw[List.take_of_length_le (show(freshOf (RULES rs) pl ((chAt (RULES rs) pl k).take k) (i,d,lo,hi)).length≤m by rw[hF,List.length_map]; exact hmn)]
         have fX:f∉X:=fun z=>hXt ci4 (hcells e1' e2' e3') _ z hf
         have ci5:=ci4.up (Le.upd (mo:=.list (itemsM it (freshOf (RULES rs) pl ((chAt (RULES rs) pl k).take k) (i,d,lo,hi)))) hf)
         have e1:=Le.upd (mo:=.list (itemsM it (freshOf (RULES rs) pl ((chAt (RULES rs) pl k).take k) (i,d,lo,hi)))) hf _ _ e1'
         have e2:=Le.upd (mo:=.list (itemsM it (freshOf (RULES rs) pl ((chAt (RULES rs) pl k).take k) (i,d,lo,hi)))) hf _ _ e2'
         have e3:=Le.upd (mo:=.list (itemsM it (freshOf (RULES rs) pl ((chAt (RULES rs) pl k).take k) (i,d,lo,hi)))) hf _ _ e3'
         have ef:upd μ4 f (.list (itemsM it (freshOf (RULES rs) pl ((chAt (RULES rs) pl k).take k) (i,d,lo,hi)))) f=some (.list (itemsM it (freshOf (RULES rs) pl ((chAt (RULES rs) pl k).take k) (i,d,lo,hi)))):=upd_same _ _ _
         show WpS G (n+7) _ (upd μ4 f (.list (itemsM it (freshOf (RULES rs) pl ((chAt (RULES rs) pl k).take k) (i,d,lo,hi))))) _ _
         clear ci4 e1' e2' e3' a1 a2 a3
         generalize upd μ4 f (.list (itemsM it (freshOf (RULES rs) pl ((chAt (RULES rs) pl k).take k) (i,d,lo,hi))))=μ5 at *
         refine ex1_3 (ci5.en) fun es een hel ten=>?_
         have ip5:=ip.le (hup ci5.le)
         refine WpS.cons (WpS1.setitem (WpE.bin (WpE.methB (id:="dict.get") _ (WpE.loc (show Lk (_::_::ρ) "ended" (.ref en) from loc.2.2.2.2) ?_))))
         refine⟨gets_tdict een PySem.F.slot_dict_get PySem.F.type_dict_get,WpEs.cons (WpE.tuple (WpEs.cons (WpE.attr (WpE.loc rfl (o_getattr ip5.inst ip5.flds ip5.name (gI_name g) ?_)))))⟩
         refine WpEs.cons (WpE.cellv (.inl rfl) (c:=L'+1) rfl e1 (WpEs.nil ⟨by simp,?_⟩) rfl)
         refine WpEs.cons (WpE.list (WpEs.nil ⟨by simp,fun e he=>WpEs.nil ?_⟩))
         refine ex1_3 (ten.get r.1 lo he (hXt ci5 (hcells e1 e2 e3))) fun B b1 b2 b3=>?_
         refine o_getT2' [.inl r.1,.inr (lo:Int)] (Le.upd he _ _ een) b1 ?_
         refine WpE.list (WpEs.cons (WpE.cellv (.inl rfl) (c:=L'+1+1) rfl (Le.upd he _ _ e2) (WpEs.nil ⟨by simp,fun b hb=>?_⟩) rfl))
         have hE:(Eof (RULES rs) ((chAt (RULES rs) pl k).take k) r.1 lo).length≤127:=Nat.le_trans (len_fm _ _) hT
         refine o_addL (Le.upd hb _ _ b2) (upd_same _ _ _) (by simp[natsM]; exact ω277 hE) fun L hL=>?_
         have le7:=((Le.upd (mo:=.list []) he).trans (Le.upd (mo:=.list [MV.int hi]) hb)).trans (Le.upd (mo:=.list (natsM (Eof (RULES rs) ((chAt (RULES rs) pl k).take k) r.1 lo)++[MV.int hi])) hL)
         have eL:upd (upd (upd μ5 e (.list [])) b (.list [MV.int hi])) L (.list (natsM (Eof (RULES rs) ((chAt (RULES rs) pl k).take k) r.1 lo)++[MV.int hi])) L=some (.list (natsM (Eof (RULES rs) ((chAt (RULES rs) pl k).take k) r.1 lo)++[MV.int hi])):=upd_same _ _ _
         have LX:L∉X:=fun z=>by
          have le6:=(Le.upd (mo:=.list []) he).trans (Le.upd (mo:=.list [MV.int hi]) hb)
          exact hXt (ci5.up le6) (hcells (le6 _ _ e1) (le6 _ _ e2) (le6 _ _ e3)) _ z hL
         have ci7:=ci5.up le7
         have g1:=le7 _ _ e1
         have g2:=le7 _ _ e2
         have g3:=le7 _ _ e3
         have gf:=le7 _ _ ef
         have gen:=le7 _ _ een
         refine WpE.gen (P:=fun μ'=>μ' L=some (.list (natsM (Eof (RULES rs) ((chAt (RULES rs) pl k).take k) r.1 lo)++[MV.int hi]))∧CI (RULES rs) it X μb ch se wa en (chAt (RULES rs) pl k) ((chAt (RULES rs) pl k).take k) k μ'∧μ' (L'+1)=some (.cell (some (.int lo)))∧μ' (L'+1+1)=some (.cell (some (.int hi)))∧μ' (L'+1+1+1)=some (.cell (some .none))∧μ' f=some (.list (itemsM it (freshOf (RULES rs) pl ((chAt (RULES rs) pl k).take k) (i,d,lo,hi))))∧μ' en=some (.tdict es)) ⟨eL,ci7,g1,g2,g3,gf,gen⟩ ?_
         clear eL ci7 g1 g2 g3 gf gen le7 hL hb b2 b1 he ten een ip5 ci5 e1 e2 e3 ef
         intro μ7 hh_
         refine and7 hh_ fun eL ci7 g1 g2 g3 gf gen=>?_
         clear hh_
         have ip7:=ip.le (hup ci7.le)
         refine WpE.loc (show Lk (_::_::ρ) "ended" (.ref en) from loc.2.2.2.2) (WpE.tuple (WpEs.cons (WpE.attr (WpE.loc rfl (o_getattr ip7.inst ip7.flds ip7.name (gI_name g) ?_)))))
         refine WpEs.cons (WpE.cellv (.inl rfl) (c:=L'+1) rfl g1 (WpEs.nil ⟨by simp,?_⟩) rfl)
         have hl5:es.length≤16777216:=ω278 hklt hck hel
         refine o_setT (ks:=[.inl r.1,.inr (lo:Int)]) gen hl5 (WpS.nil ⟨rfl,loc,f,rfl,fX,?_,?_,fun c hc=>?_⟩)
         · rw[upd_ne _ _ (fun z=>fX (by rw[z]; exact xen))]; exact gf
         · rw[hTk]
           refine ci7.setE gen xen nn (fun x p=>?_) (fun x p=>?_) LX eL
           · unfold waitsFor; dsimp only; rw[hr]; dsimp only; rw[if_neg (fun z=>hdl z.1)]
           · unfold endsAs; dsimp only; rw[hr]; dsimp only
             by_cases hx:x=r.1∧p=lo
             · rw[if_pos ⟨hdl,hx.1.symm,hx.2.symm⟩,if_pos hx]
             · rw[if_neg (fun z=>hx ⟨z.2.1.symm,z.2.2.symm⟩),if_neg hx]
         · obtain⟨d',h'⟩:=hcells g1 g2 g3 c hc
           exact⟨d',by rw[upd_ne _ _ (fun z=>yen (by rw[← z]; exact hc))]; exact h'⟩
      · intro env _ h
        obtain⟨sc,lo,gl,ce,qu,fu,co,fr,bu⟩:=env
        simp only at h
        subst h
        rfl
  · clear ip inx e1 e2 e3 hXt hcells hTk ci3
    rintro ρ3 μ5 ⟨loc3,f,lf,fX,ef,ci5,cells5⟩
    have hqv:Valid (RULES rs) pl (i,d,lo,hi):=⟨r,hr,hd,hle,hhi,h00⟩
    have cok:=chAt_ok hv0 k
    obtain⟨FR,hFR⟩:∃ FR,FR=freshOf (RULES rs) pl ((chAt (RULES rs) pl k).take k) (i,d,lo,hi):=⟨_,rfl⟩
    have hFv:∀ q'∈FR,Valid (RULES rs) pl q':=by
     rw[hFR]; exact fresh_valid (fun p hp=>cok.1 p (List.mem_of_mem_take hp)) hqv
    have hnext:chAt (RULES rs) pl (k+1)=FR.foldl ins (chAt (RULES rs) pl k):=by
     show chStep _ _ _ _ = _
     unfold chStep
     rw[hq,hFR]
    rw[← hFR] at ef
    have seenOk:∀ m,(∀ q'∈(FR.take m).foldl ins (chAt (RULES rs) pl k),Valid (RULES rs) pl q')∧((FR.take m).foldl ins (chAt (RULES rs) pl k)).length≤127:=fun m=>by
     have v:∀ q'∈(FR.take m).foldl ins (chAt (RULES rs) pl k),Valid (RULES rs) pl q':=fun q' h=>by
      rcases(mem_insAll _ _).mp h with h | h
      · exact cok.1 _ h
      · exact hFv _ (List.mem_of_mem_take h)
     exact⟨v,valid_len v (nodup_insAll _ _ cok.2) h3 hsum⟩
    refine WpS.cons (WpS1.for_ (WpIt.list (WpE.loc lf ⟨f,_,rfl,ef,.inl ⟨_,_,_,rfl⟩,FR.length,
     (fun m ρ μ'=>m≤FR.length∧LocC pa ch se wa en ρ∧μ' f=some (.list (itemsM it FR))∧CI (RULES rs) it X μb ch se wa en ((FR.take m).foldl ins (chAt (RULES rs) pl k)) ((chAt (RULES rs) pl k).take (k+1)) (k+1) μ'∧∀ c∈[L'+1,L'+1+1,L'+1+1+1],∃ d,μ' c=some (.cell d)),⟨ω50,loc3,ef,ci5,cells5⟩,?_⟩)))
    clear loc3 lf ef ci5 cells5
    intro m ρ4 μ6 hh
    refine and5 hh fun hm loc ef ci cells=>?_
    clear hh
    refine⟨hm,_,⟨_,ef,rfl⟩,?_⟩
    rw[itemsM_get]
    cases hw:FR[m]? with
    | none=>
     have hmn:FR.length≤m:=List.getElem?_eq_none_iff.mp hw
     rw[List.take_of_length_le hmn,← hnext] at ci
     obtain⟨t,ht⟩:=chAt_prefix (rules:=RULES rs) (pl:=pl) k
     have hl1:k+1≤(chAt (RULES rs) pl (k+1)).length:=by rw[ht,List.length_append]; exact ω279 hklt
     have htk:(chAt (RULES rs) pl (k+1)).take (k+1)=(chAt (RULES rs) pl k).take (k+1):=by
      rw[ht,List.take_append_of_le_length (ω55 hklt)]
     rw[← htk] at ci
     exact WpS.nil ⟨ω270 hklt hck,hl1,loc,ci,cells⟩
    | some w=>
     have hmlt:=(List.getElem?_eq_some_iff.mp hw).1
     refine⟨hmlt,WpA.tup (WpAs.cons (WpA.name (WpAs.cons (WpA.name (WpAs.cons (WpA.name (WpAs.nil ?_)))))))⟩
     refine ex1_5 (hFv w (List.mem_of_getElem? hw)) fun r' hr' hd' _ _ _=>?_
     refine ex2_2 (hitem w.1 w.2.1 r' hr' hd') fun dd' fs' ip' _=>?_
     have ip'':=ip'.le (hup ci.le)
     refine WpS.cons (WpS1.assign (WpE.tuple (WpEs.cons (WpE.attr (WpE.loc rfl (o_getattr ip''.inst ip''.flds ip''.number (gI_number g) ?_))))))
     refine WpEs.cons (WpE.attr (WpE.loc rfl (o_getattr ip''.inst ip''.flds ip''.index (gI_lr_index g) ?_)))
     refine WpEs.cons (WpE.loc rfl (WpEs.cons (WpE.loc rfl (WpEs.nil ⟨by simp,?_⟩))))
     have loc4:LocC pa ch se wa en ((("row":Str),mvQuad w)::(("end":Str),MV.int w.2.2.2)::(("begin":Str),MV.int w.2.2.1)::(("other":Str),MV.ref (it w.1 w.2.1))::ρ4):=loc
     have hsl:=(seenOk m).2
     have htake:(FR.take (m+1)).foldl ins (chAt (RULES rs) pl k)=ins ((FR.take m).foldl ins (chAt (RULES rs) pl k)) w:=by
      rw[take_snoc hw,List.foldl_append]; rfl
     refine WpS.cons (WpS1.ite (WpT.cmp (WpE.loc rfl (WpE.loc loc4.2.2.1 ?_))))
     refine o_notinL (d:=mvQuad w) ci.se (oks_quadsM _) rfl (by simp[mvQuad,MV.deep,MV.deeps]) fun c' hc'=>⟨c',rfl,?_⟩
     cases c' with
     | false=>
      have hin:w∈(FR.take m).foldl ins (chAt (RULES rs) pl k):=by
       by_cases z:mvQuad w∈quadsM ((FR.take m).foldl ins (chAt (RULES rs) pl k))
       · exact mem_quadsM.mp z
       · have:=hc'.mpr z
         cases this
      refine ite_f (by decide) (WpS.nil (WpS.nil ⟨ω55 hmlt,loc,ef,?_,cells⟩))
      rw[htake,ins,if_pos hin]
      exact ci
     | true=>
      have hin:w∉(FR.take m).foldl ins (chAt (RULES rs) pl k):=fun z=>hc'.mp rfl (mem_quadsM.mpr z)
      refine ite_t rfl ?_
      refine WpS.cons (WpS1.expr (WpE.methB (id:="list.append") _ (WpE.loc loc4.2.2.1 ?_)))
      refine⟨gets_list ci.se PySem.F.slot_list_append PySem.F.type_list_append,WpEs.cons (WpE.loc rfl (WpEs.nil ?_))⟩
      refine o_append ci.se (by rw[quadsM_length]; exact ω274 hsl) ⟨rfl,?_⟩
      have ch1:upd μ6 se (.list (quadsM ((FR.take m).foldl ins (chAt (RULES rs) pl k))++[mvQuad w])) ch=some (.list (itemsM it ((FR.take m).foldl ins (chAt (RULES rs) pl k)))):=by rw[upd_ne _ _ (Ne.symm nse)]; exact ci.ch
      refine WpS.cons (WpS1.expr (WpE.methB (id:="list.append") _ (WpE.loc loc4.2.1 ?_)))
      refine⟨gets_list ch1 PySem.F.slot_list_append PySem.F.type_list_append,WpEs.cons (WpE.tuple (WpEs.cons (WpE.loc rfl (WpEs.cons (WpE.loc rfl (WpEs.cons (WpE.loc rfl (WpEs.nil ⟨by simp,WpEs.nil ?_⟩))))))))⟩
      refine o_append ch1 (by simp[itemsM]; exact ω274 hsl) ⟨rfl,WpS.nil (WpS.nil ⟨ω55 hmlt,loc,?_,?_,fun c hc=>?_⟩)⟩
      · rw[upd_ne _ _ (fun z=>fX (by rw[z]; exact xch)),upd_ne _ _ (fun z=>fX (by rw[z]; exact xse))]; exact ef
      · rw[htake,ins,if_neg hin]
        have lx:LeE X μ6 (upd (upd μ6 se (.list (quadsM ((FR.take m).foldl ins (chAt (RULES rs) pl k))++[mvQuad w]))) ch (.list (itemsM it ((FR.take m).foldl ins (chAt (RULES rs) pl k))++[mvItem it w]))):=(LeE.upd xse _ _).trans (LeE.upd xch _ _)
        refine ex1_3 (ci.wa) fun ws w1 w2 w3=>?_
        refine ex1_3 (ci.en) fun es s1 s2 s3=>?_
        refine⟨ci.le.trans lx,?_,?_,⟨ws,?_,w2,w3.to lx⟩,⟨es,?_,s2,s3.to lx⟩⟩
        · rw[upd_same]; unfold itemsM; rw[List.map_append]; rfl
        · rw[upd_ne _ _ nse,upd_same]; unfold quadsM; rw[List.map_append]; rfl
        · rw[upd_ne _ _ nw.1,upd_ne _ _ nw.2]; exact w1
        · rw[upd_ne _ _ nn.1,upd_ne _ _ nn.2.1]; exact s1
      · obtain⟨d',h'⟩:=cells c hc
        exact⟨d',by rw[upd_ne _ _ (fun z=>ych (by rw[← z]; exact hc)),upd_ne _ _ (fun z=>yse (by rw[← z]; exact hc))]; exact h'⟩
end
section
variable {rs:List Rule}{pl:List (List Str)}{sp:Str→List Pair}
theorem chAt_stop {rules:List Rule}{p:Nat} (h:(chAt rules pl p)[p]?=none):∀ m,chAt rules pl (p+m)=chAt rules pl p
 | 0=>rfl
 | m+1=>by
  have ih:=chAt_stop h m
  show chStep rules pl (chAt rules pl (p+m)) (p+m) = _
  rw[ih]
  unfold chStep
  rw[List.getElem?_eq_none_iff.mpr (by have:=List.getElem?_eq_none_iff.mp h; exact ω280 this)]
theorem chAt_pre {rules:List Rule} (p:Nat):∀ m,∃ t,chAt rules pl (p+m)=chAt rules pl p++t
 | 0=>⟨[],by simp⟩
 | m+1=>by
  obtain⟨t,h⟩:=chAt_pre p m
  obtain⟨u,h2⟩:=chAt_prefix (rules:=rules) (pl:=pl) (p+m)
  exact⟨t++u,by rw[← Nat.add_assoc,h2,h,List.append_assoc]⟩
theorem chAt_closed {rules:List Rule}{k:Nat} (h:(chAt rules pl k)[k]?=none) {p:Nat}{q:Quad} (hq:(chAt rules pl k)[p]?=some q):∀ f∈freshOf rules pl ((chAt rules pl k).take p) q,f∈chAt rules pl k:=by
 have hp:=(List.getElem?_eq_some_iff.mp hq).1
 have hk:=List.getElem?_eq_none_iff.mp h
 obtain⟨m,rfl⟩:∃ m,k=p+(m+1):=⟨k-p-1,ω281 hp hk⟩
 have hs:(chAt rules pl p)[p]?=some q:=by
  cases z:(chAt rules pl p)[p]? with
  | none=>
   rw[chAt_stop z (m+1),z] at hq
   cases hq
  | some q'=>
   obtain⟨t,ht⟩:=chAt_pre (rules:=rules) (pl:=pl) p (m+1)
   rw[ht,List.getElem?_append_left (List.getElem?_eq_some_iff.mp z).1,z] at hq
   exact hq
 obtain⟨t,ht⟩:=chAt_pre (rules:=rules) (pl:=pl) p (m+1)
 obtain⟨t',ht'⟩:=chAt_pre (rules:=rules) (pl:=pl) (p+1) m
 have htk:(chAt rules pl (p+(m+1))).take p=(chAt rules pl p).take p:=by
  rw[ht,List.take_append_of_le_length (Nat.le_of_lt (List.getElem?_eq_some_iff.mp hs).1)]
 intro f hf
 rw[htk] at hf
 rw[show p+(m+1)=p+1+m by exact ω282,ht',List.mem_append]
 left
 show f∈chStep rules pl (chAt rules pl p) p
 unfold chStep
 rw[hs]
 exact(mem_insAll _ _).mpr (.inr hf)
theorem tail_at {r:Rule} (h:r∈(RULES rs).tail):∃ j,1≤j∧(RULES rs)[j]?=some r:=by
 obtain⟨j,hj⟩:=List.getElem?_of_mem (show r∈rs from h)
 exact⟨j+1,ω10,by simpa using hj⟩
theorem at_tail {r:Rule}{j:Nat} (h1:1≤j) (h:(RULES rs)[j]?=some r):r∈rs:=by
 obtain⟨i,rfl⟩:∃ i,j=i+1:=⟨j-1,ω283 h1⟩
 exact List.mem_of_getElem? (show rs[i]?=some r by simpa using h)
structure LawIn (rs:List Rule) (pl:List (List Str)):Prop where
 name:∀ r∈rs,r.1∈NAMES
 syms:∀ r∈rs,∀ x∈r.2,x∈SYMS
 tok:∀ t∈pl,∀ x∈t,x∈TOKENS
theorem start_out:START∉SYMS∧START∉NAMES:=by decide +kernel
theorem LawIn.sym (L:LawIn rs pl) {i:Nat}{r:Rule} (hr:(RULES rs)[i]?=some r) {d:Nat} (hd:d<r.2.length):r.2.getD d ""∈SYMS:=by
 have hm:r.2.getD d ""∈r.2:=by simp[List.getD,hd]
 match i,hr with
 | 0,hr=>
  simp at hr
  subst hr
  have:d=0:=by simpa using hd
  subst this
  decide +kernel
 | i+1,hr=>exact L.syms r (at_tail (Nat.succ_le_succ (Nat.zero_le _)) hr) _ hm
theorem LawIn.pos (L:LawIn rs pl) {i:Nat}{r:Rule} (hr:(RULES rs)[i]?=some r) (h:r.1∈SYMS∨r.1∈NAMES):1≤i:=by
 match i,hr with
 | 0,hr=>
  simp at hr
  subst hr
  rcases h with h | h
  · exact absurd h start_out.1
  · exact absurd h start_out.2
 | i+1,_=>exact Nat.succ_le_succ (Nat.zero_le _)
theorem fresh_due (L:LawIn rs pl) (hs:∀ x,Small pl.length (sp x)) (hc:Closed (RULES rs) pl.length sp) (ht:∀ x∈TOKENS,sp x=tokSp pl x) {l:List Quad}{q:Quad} (hv:∀ p∈l,Valid (RULES rs) pl p) (hvq:Valid (RULES rs) pl q) (hl:∀ p∈l,Due (RULES rs) sp pl.length p) (hq:Due (RULES rs) sp pl.length q):∀ p∈freshOf (RULES rs) pl l q,Due (RULES rs) sp pl.length p:=by
 intro p hp
 obtain⟨r,h1,h2,h3,h4⟩:=hq
 obtain⟨i,d,lo,hi⟩:=q
 dsimp only at h1 h2 h3 h4
 unfold freshOf at hp
 dsimp only at hp
 rw[h1] at hp
 dsimp only at hp
 have hsm:hi≤pl.length:=((frontAt_ok hs d).2 _ h4).2
 split at hp
 · rename_i hd
   have hsy:=L.sym h1 hd
   rcases List.mem_append.mp hp with hp | hp
   · rcases List.mem_append.mp hp with hp | hp
     · obtain⟨j,hj,rfl⟩:=List.mem_map.mp hp
       obtain⟨hj1,r',h6,h7⟩:=mem_idxs.mp hj
       refine⟨r',h6,?_,Nat.zero_le _,mem_diag.mpr ⟨rfl,hsm⟩⟩
       rw[h7]
       exact Aw.step h1 h2 hd (h7▸L.name _ (at_tail hj1 h6)) h4
     · obtain⟨e,he,rfl⟩:=List.mem_map.mp hp
       obtain⟨i',r',g1,g2,d',g3,g4⟩:=mem_Eof.mp he
       obtain⟨r'',k1,k2,k3,k4⟩:=hl _ g4
       rw[g1] at k1; cases k1
       have hd':d'=r'.2.length:=by dsimp only at k3; exact ω57 k3 g3
       subst hd'
       refine⟨r,h1,h2,hd,mem_joined.mpr ⟨hi,h4,?_⟩⟩
       rw[← g2]
       exact hc r' (at_tail (L.pos g1 (.inl (g2▸hsy))) g1) _ k4
   · split at hp
     · rename_i hc'
       rw[List.mem_singleton.mp hp]
       refine⟨r,h1,h2,hd,mem_joined.mpr ⟨hi,h4,?_⟩⟩
       have hpm:pl[hi]?=some (pl.getD hi []):=by rw[List.getD_eq_getElem?_getD,List.getElem?_eq_getElem hc'.1]; rfl
       rw[ht _ (L.tok _ (List.mem_of_getElem? hpm) _ hc'.2)]
       exact tokSp_mem.mpr ⟨rfl,_,hpm,hc'.2⟩
     · cases hp
 · rename_i hd
   have hd':d=r.2.length:=ω57 h3 hd
   subst hd'
   obtain⟨w,hw,rfl⟩:=List.mem_map.mp hp
   obtain⟨r',g1,g2,g3,g4⟩:=mem_Wof.mp hw
   obtain⟨r'',k1,k2,k3,k4⟩:=hl _ g4
   dsimp only at k1 k2 k3 k4
   rw[g1] at k1; cases k1
   refine⟨r',g1,k2,g2,mem_joined.mpr ⟨lo,k4,?_⟩⟩
   rw[g3]
   exact hc r (at_tail (L.pos h1 (.inl (g3▸L.sym g1 g2))) h1) _ h4
theorem chAt_due (L:LawIn rs pl) (hs:∀ x,Small pl.length (sp x)) (hc:Closed (RULES rs) pl.length sp) (ht:∀ x∈TOKENS,sp x=tokSp pl x) (hv0:Valid (RULES rs) pl (0,0,0,0)):∀ k,∀ q∈chAt (RULES rs) pl k,Due (RULES rs) sp pl.length q
 | 0,q,hq=>by
  rw[List.mem_singleton.mp hq]
  exact⟨_,rfl,Aw.start,Nat.zero_le _,mem_diag.mpr ⟨rfl,Nat.zero_le _⟩⟩
 | k+1,q,hq=>by
  have ih:=chAt_due L hs hc ht hv0 k
  have ok:=(chAt_ok hv0 k).1
  have hq':q∈chStep (RULES rs) pl (chAt (RULES rs) pl k) k:=hq
  unfold chStep at hq'
  split at hq'
  · rename_i p hp
    rcases(mem_insAll _ _).mp hq' with h | h
    · exact ih q h
    · exact fresh_due L hs hc ht (fun p hp=>ok p (List.mem_of_mem_take hp)) (ok p (List.mem_of_getElem? hp)) (fun p hp=>ih p (List.mem_of_mem_take hp)) (ih p (List.mem_of_getElem? hp)) q h
  · exact ih q hq'
structure Cls (rs:List Rule) (pl:List (List Str)) (S:Quad→Prop):Prop where
 first:S (0,0,0,0)
 predict:∀{i d lo hi r j r'},S (i,d,lo,hi)→(RULES rs)[i]?=some r→d<r.2.length→1≤j→(RULES rs)[j]?=some r'→r'.1=r.2.getD d ""→S (j,0,hi,hi)
 scan:∀{i d lo hi r t},S (i,d,lo,hi)→(RULES rs)[i]?=some r→d<r.2.length→pl[hi]?=some t→r.2.getD d ""∈t→S (i,d+1,lo,hi+1)
 complete:∀{i d lo m r i' r' hi},S (i,d,lo,m)→(RULES rs)[i]?=some r→d<r.2.length→S (i',r'.2.length,m,hi)→(RULES rs)[i']?=some r'→r'.1=r.2.getD d ""→S (i,d+1,lo,hi)
theorem chAt_cls {k:Nat} (h:(chAt (RULES rs) pl k)[k]?=none):Cls rs pl (fun q=>q∈chAt (RULES rs) pl k) where
 first:=by
  obtain⟨t,ht⟩:=chAt_pre (rules:=RULES rs) (pl:=pl) 0 k
  rw[Nat.zero_add] at ht
  rw[ht]
  exact List.mem_append_left _ (.head _)
 predict:=fun {i d lo hi r j r'} hS hr hd hj hr' hn=>by
  obtain⟨p,hp⟩:=List.getElem?_of_mem hS
  refine chAt_closed h hp _ ?_
  unfold freshOf; dsimp only; rw[hr]; dsimp only; rw[if_pos hd]
  exact List.mem_append_left _ (List.mem_append_left _ (List.mem_map.mpr ⟨j,mem_idxs.mpr ⟨hj,r',hr',hn⟩,rfl⟩))
 scan:=fun {i d lo hi r t} hS hr hd ht hx=>by
  obtain⟨p,hp⟩:=List.getElem?_of_mem hS
  refine chAt_closed h hp _ ?_
  unfold freshOf; dsimp only; rw[hr]; dsimp only; rw[if_pos hd]
  refine List.mem_append_right _ ?_
  rw[if_pos ⟨(List.getElem?_eq_some_iff.mp ht).1,by rw[List.getD_eq_getElem?_getD,ht]; exact hx⟩]
  exact List.mem_singleton.mpr rfl
 complete:=fun {i d lo m r i' r' hi} hS hr hd hS' hr' hn=>by
  obtain⟨p,hp⟩:=List.getElem?_of_mem hS
  obtain⟨p',hp'⟩:=List.getElem?_of_mem hS'
  have hne:p≠p':=fun z=>by
   rw[z,hp'] at hp
   cases hp
   rw[hr] at hr'; cases hr'
   exact ω284 hd
  rcases Nat.lt_or_gt_of_ne hne with hlt | hlt
  · refine chAt_closed h hp' _ ?_
    unfold freshOf; dsimp only; rw[hr']; dsimp only; rw[if_neg (Nat.lt_irrefl _)]
    exact List.mem_map.mpr ⟨(i,d,lo),mem_Wof.mpr ⟨r,hr,hd,hn.symm,List.mem_of_getElem? (i:=p) (by rw[List.getElem?_take,if_pos hlt]; exact hp)⟩,rfl⟩
  · refine chAt_closed h hp _ ?_
    unfold freshOf; dsimp only; rw[hr]; dsimp only; rw[if_pos hd]
    exact List.mem_append_left _ (List.mem_append_right _ (List.mem_map.mpr ⟨hi,mem_Eof.mpr ⟨i',r',hr',hn,r'.2.length,Nat.lt_irrefl _,List.mem_of_getElem? (i:=p') (by rw[List.getElem?_take,if_pos hlt]; exact hp')⟩,rfl⟩))
section
variable {S:Quad→Prop}
theorem Cls.der (C:Cls rs pl S) {x:Str}{p:Pair} (h:Der (RULES rs) pl x p):∀(i:Nat) (r:Rule) (d a:Nat),(RULES rs)[i]?=some r→d<r.2.length→r.2.getD d "" = x→S (i,d,a,p.1)→S (i,d+1,a,p.2):=by
 refine Der.rec (motive_1:=fun x p _=>∀(i:Nat) (r:Rule) (d a:Nat),(RULES rs)[i]?=some r→d<r.2.length→r.2.getD d "" = x→S (i,d,a,p.1)→S (i,d+1,a,p.2)) (motive_2:=fun row p _=>∀(j:Nat) (r:Rule) (rest:List Str),(RULES rs)[j]?=some r→r.2=row++rest→S (j,0,p.1,p.1)→S (j,row.length,p.1,p.2)) ?_ ?_ ?_ ?_ h
 · exact fun _ h2 h3 i r d a hr hd hx hS=>C.scan hS hr hd h2 (hx▸h3)
 · intro r' p h1 _ ih i r d a hr hd hx hS
   refine ex1_2 (tail_at h1) fun j hj hjr=>C.complete hS hr hd (ih j r' [] hjr (List.append_nil _).symm (C.predict hS hr hd hj hjr hx.symm)) hjr hx.symm
 · exact fun _ j r _ hr _ hS=>hS
 · intro row x a m b _ _ ih1 ih2 j r rest hr he hS
   rw[List.length_append]
   refine ih2 j r row.length _ hr (by rw[he]; simp) ?_ (ih1 j r ([x]++rest) hr (by rw[he,List.append_assoc]) hS)
   rw[he,List.getD_eq_getElem?_getD,List.append_assoc,List.getElem?_append_right (Nat.le_refl _)]; simp
theorem Cls.front (C:Cls rs pl S) (hd:∀ x p,p∈sp x→Der (RULES rs) pl x p) {i:Nat}{r:Rule} (hr:(RULES rs)[i]?=some r) {a:Nat} (h0:S (i,0,a,a)):∀ d h,d≤r.2.length→(a,h)∈frontAt sp pl.length r.2 d→S (i,d,a,h)
 | 0,h,_,hm=>by
  have:=(mem_diag.mp hm).1
  dsimp only at this
  rw[← this]; exact h0
 | d+1,h,hle,hm=>by
  obtain⟨m,h1,h2⟩:=mem_joined.mp hm
  exact C.der (hd _ _ h2) i r d a hr hle rfl (C.front hd hr h0 d m (ω89 hle) h1)
theorem Cls.aw (C:Cls rs pl S) (L:LawIn rs pl) (hd:∀ x p,p∈sp x→Der (RULES rs) pl x p) {x:Str}{b:Nat} (h:Aw (RULES rs) sp pl.length x b):∀ i r,(RULES rs)[i]?=some r→r.1=x→S (i,0,b,b):=by
 induction h with
 | start=>
  intro i r hr hx
  match i,hr with
  | 0,_=>exact C.first
  | i+1,hr=>exact absurd (hx▸L.name r (at_tail (Nat.succ_le_succ (Nat.zero_le _)) hr)) start_out.2
 | step h1 h2 h3 h4 h5 ih=>
  intro j r' hr' hx
  have h0:=ih _ _ h1 rfl
  have h6:=C.front hd h1 h0 _ _ (Nat.le_of_lt h3) h5
  exact C.predict h6 h1 h3 (L.pos hr' (.inr (hx▸h4))) hr' hx
end
theorem chart_is_due (L:LawIn rs pl) (hs:∀ x,Small pl.length (sp x)) (hc:Closed (RULES rs) pl.length sp) (ht:∀ x∈TOKENS,sp x=tokSp pl x) (hd:∀ x p,p∈sp x→Der (RULES rs) pl x p) (hv0:Valid (RULES rs) pl (0,0,0,0)) {k:Nat} (h:(chAt (RULES rs) pl k)[k]?=none) (q:Quad):q∈chAt (RULES rs) pl k↔Due (RULES rs) sp pl.length q:=by
 refine⟨chAt_due L hs hc ht hv0 k q,fun z=>z.elim fun r z=>?_⟩
 have C:=chAt_cls h
 exact C.front hd z.1 (C.aw L hd z.2.1 _ _ z.1 rfl) _ _ z.2.2.1 z.2.2.2
end
noncomputable def qblt (a b:Quad):Bool:=decide (a.1<b.1∨a.1=b.1∧(a.2.1<b.2.1∨a.2.1=b.2.1∧(a.2.2.1<b.2.2.1∨a.2.2.1=b.2.2.1∧a.2.2.2<b.2.2.2)))
theorem qblt_iff {a b:Quad}:qblt a b=true↔(a.1<b.1∨a.1=b.1∧(a.2.1<b.2.1∨a.2.1=b.2.1∧(a.2.2.1<b.2.2.1∨a.2.2.1=b.2.2.1∧a.2.2.2<b.2.2.2))):=by unfold qblt; rw[decide_eq_true_eq]
theorem qblt_trans {a b c:Quad} (h:qblt a b=true) (h':qblt b c=true):qblt a c=true:=
 qblt_iff.mpr (lex_trans (qblt_iff.mp h) (qblt_iff.mp h') fun p q=>lex_trans p q fun p q=>lex_trans p q Nat.lt_trans)
theorem qblt_tri {a b:Quad} (h:qblt a b=false) (h':qblt b a=false):a=b:=
 lex_all (fun z=>by have:=(qblt_iff (a:=a) (b:=b)).mpr z; rw[h] at this; cases this) (fun z=>by have:=(qblt_iff (a:=b) (b:=a)).mpr z; rw[h'] at this; cases this)
noncomputable def IsQ (h:Heap) (v:Value) (q:Quad):Prop:=∃ a t1 t2 t3 t4 k,v=.ref a∧h.get? a=some ({ cls:=.type "tuple",data:=.seq #[.int q.1 t1,.int q.2.1 t2,.int q.2.2.1 t3,.int q.2.2.2 t4] k }:Obj)
theorem IsQ.to {h h':Heap}{v:Value}{q:Quad} (a:IsQ h v q) (k:∀ x xs n,h.get? x=some ({ cls:=.type "tuple",data:=.seq xs n }:Obj)→h'.get? x=some ({ cls:=.type "tuple",data:=.seq xs n }:Obj)):IsQ h' v q:=by
 obtain⟨x,t1,t2,t3,t4,n,e,g⟩:=a
 exact⟨x,t1,t2,t3,t4,n,e,k _ _ _ g⟩
section
variable {prog:Program}{w:World}{A:Around}{E:Value→Shared→Prop}{s:Shared}
theorem oneLt_int2 {b:Bool}{x y:Int}{t u:Tok}{Q:Bool→Shared→Prop} (h:Q (decide (x<y)) s):wpAny (model prog w) A (oneLt' b (.int x t) (.int y u)) Q E s:=by
 cases b with
 | true=>exact oneLt_int h
 | false=>
  rw[oneLt'_eq]
  simp only[Bool.false_eq_true,if_false]
  refine wpAny_bind (lt_int ?_)
  exact wpAny_truthy_bool h
theorem keyLt'_tuples (x y:Value) (f:Bool):keyLt' (tuples' f) x y=(do
 let xs ← Builtin.List.listItems x; let ys ← Builtin.List.listItems y
 for ((p,q),i) in (xs.toList.zip ys.toList).zipIdx do
  if !(← eqBool p q) then return ← oneLt' (f && i == 0) p q
 return xs.size<ys.size):=rfl
theorem keyLt_quads {x y:Value}{a b:Quad}{f:Bool}{Q:Bool→Shared→Prop} (hx:IsQ s.heap x a) (hy:IsQ s.heap y b) (h:Q (qblt a b) s):wpAny (model prog w) A (keyLt' (tuples' f) x y) Q E s:=by
 obtain⟨xa,t1,t2,t3,t4,k,rfl,hx⟩:=hx
 obtain⟨ya,u1,u2,u3,u4,j,rfl,hy⟩:=hy
 rw[keyLt'_tuples]
 refine wpAny_bind (listItems_at hx rfl (wpAny_bind (listItems_at hy rfl ?_)))
 have e:((#[Value.int (a.1:Int) t1,.int (a.2.1:Int) t2,.int (a.2.2.1:Int) t3,.int (a.2.2.2:Int) t4]:Array Value).toList.zip (#[Value.int (b.1:Int) u1,.int (b.2.1:Int) u2,.int (b.2.2.1:Int) u3,.int (b.2.2.2:Int) u4]:Array Value).toList).zipIdx =
  [((.int (a.1:Int) t1,.int (b.1:Int) u1),0),((.int (a.2.1:Int) t2,.int (b.2.1:Int) u2),1),((.int (a.2.2.1:Int) t3,.int (b.2.2.1:Int) u3),2),((.int (a.2.2.2:Int) t4,.int (b.2.2.2:Int) u4),3)]:=rfl
 rw[e]
 have fin:∀{x y:Nat}{m:Bool},decide ((x:Int)<(y:Int))=m→m=qblt a b→Q m s:=fun _ h2=>h2▸h
 have nb:∀{x y:Nat},((x:Int) == (y:Int))=true↔x=y:=fun {x y}=>by rw[beq_iff_eq]; exact ω285
 refine wpAny_bind ?_
 rw[List.forIn_cons]
 refine wpAny_bind (wpAny_bind (wpAny_eqBool_int ?_))
 by_cases h1:a.1=b.1
 · rw[nb.mpr h1]
   refine wpAny_pure ?_
   dsimp only
   rw[List.forIn_cons]
   refine wpAny_bind (wpAny_bind (wpAny_eqBool_int ?_))
   by_cases h2:a.2.1=b.2.1
   · rw[nb.mpr h2]
     refine wpAny_pure ?_
     dsimp only
     rw[List.forIn_cons]
     refine wpAny_bind (wpAny_bind (wpAny_eqBool_int ?_))
     by_cases h3:a.2.2.1=b.2.2.1
     · rw[nb.mpr h3]
       refine wpAny_pure ?_
       dsimp only
       rw[List.forIn_cons]
       refine wpAny_bind (wpAny_bind (wpAny_eqBool_int ?_))
       by_cases h4:a.2.2.2=b.2.2.2
       · rw[nb.mpr h4]
         refine wpAny_pure ?_
         dsimp only
         rw[List.forIn_nil]
         refine wpAny_pure (wpAny_pure ?_)
         have:qblt a b=false:=by
          cases z:qblt a b with
          | false=>rfl
          | true=>have:=qblt_iff.mp z; exact(ω286 this h1 h2 h3 h4).elim
         rw[this] at h
         exact h
       · rw[show((a.2.2.2:Int) == (b.2.2.2:Int))=false by cases z:((a.2.2.2:Int) == (b.2.2.2:Int)) with | false=>rfl | true=>exact absurd (nb.mp z) h4]
         refine wpAny_bind (oneLt_int2 (wpAny_pure (wpAny_pure (wpAny_pure ?_))))
         refine fin rfl ?_
         unfold qblt
         exact decide_eq_decide.mpr (ω287 h1 h2 h3)
     · rw[show((a.2.2.1:Int) == (b.2.2.1:Int))=false by cases z:((a.2.2.1:Int) == (b.2.2.1:Int)) with | false=>rfl | true=>exact absurd (nb.mp z) h3]
       refine wpAny_bind (oneLt_int2 (wpAny_pure (wpAny_pure (wpAny_pure ?_))))
       refine fin rfl ?_
       unfold qblt
       exact decide_eq_decide.mpr (ω288 h1 h2 h3)
   · rw[show((a.2.1:Int) == (b.2.1:Int))=false by cases z:((a.2.1:Int) == (b.2.1:Int)) with | false=>rfl | true=>exact absurd (nb.mp z) h2]
     refine wpAny_bind (oneLt_int2 (wpAny_pure (wpAny_pure (wpAny_pure ?_))))
     refine fin rfl ?_
     unfold qblt
     exact decide_eq_decide.mpr (ω289 h1 h2)
 · rw[show((a.1:Int) == (b.1:Int))=false by cases z:((a.1:Int) == (b.1:Int)) with | false=>rfl | true=>exact absurd (nb.mp z) h1]
   refine wpAny_bind (oneLt_int2 (wpAny_pure (wpAny_pure (wpAny_pure ?_))))
   refine fin rfl ?_
   unfold qblt
   exact decide_eq_decide.mpr (ω290 h1)
structure OkS (f:Bool) (st:SortSt):Prop where
 kind:kindOf st=tuples' f
 failed:failedOf st=none
theorem wpS_lt {f:Bool}{st:SortSt}{x y:Keyed}{a b:Quad}{Q:Option Bool→SortSt→Prop} (ok:OkS f st) (hx:IsQ s.heap x.1 a) (hy:IsQ s.heap y.1 b) (h:Q (some (qblt a b)) st):wpS (model prog w) A E s (lt' x y) Q st:=by
 rw[lt'_eq]
 refine wpS_bind (wpS_get ?_)
 rw[ok.kind]
 refine wpS_bind (wpS_lift (wpAny_attempt (keyLt_quads hx hy ⟨rfl,?_⟩)))
 exact wpS_pure h
theorem wpS_elem {st:SortSt}{xs:Array Keyed}{i:Nat}{x:Keyed}{Q:Keyed→SortSt→Prop} (hi:xs[i]?=some x) (h:Q x st):wpS (model prog w) A E s (elem' xs i) Q st:=by
 rw[elem'_eq,hi]
 exact wpS_pure h
theorem wpS_ltAt2 {f:Bool}{st:SortSt}{i j:Nat}{x y:Keyed}{a b:Quad}{Q:Option Bool→SortSt→Prop} (ok:OkS f st) (hi:(arrOf st)[i]?=some x) (hj:(arrOf st)[j]?=some y) (hx:IsQ s.heap x.1 a) (hy:IsQ s.heap y.1 b) (h:Q (some (qblt a b)) st):wpS (model prog w) A E s (ltAt' i j) Q st:=by
 rw[ltAt'_eq]
 refine wpS_bind (wpS_get ?_)
 show wpS _ _ _ _ (do let x ← elem' (arrOf st) i; let y ← elem' (arrOf st) j; lt' x y) Q st
 exact wpS_bind (wpS_elem hi (wpS_bind (wpS_elem hj (wpS_lt ok hx hy h))))
end
noncomputable def gallop':Bool→Keyed→Array Keyed→Nat→Nat→Nat→StateT SortSt Sem (Option Nat):=sortPriv% PySem.Builtin.gallop
noncomputable def bey (left:Bool) (key:Keyed) (arr:Array Keyed) (base:Nat) (i:Nat):StateT SortSt Sem (Option Bool):=do
 let x ← elem' arr (base+i)
 if left then lt' x key else return (← lt' key x).map (!·)
theorem gallop'_eq (left:Bool) (key:Keyed) (arr:Array Keyed) (base n hint:Nat):gallop' left key arr base n hint=(do
 let mut lastofs:=0
 let mut ofs:=1
 let mut lo:=0
 let mut hi:=0
 let some right ← bey left key arr base hint | return none
 if right then
  let maxofs:=n-hint
  for _ in [0:n] do
   if ofs≥maxofs then break
   let some more ← bey left key arr base (hint+ofs) | return none
   if !more then break
   lastofs:=ofs
   ofs:=2*ofs+1
  lo:=hint+lastofs+1
  hi:=hint+min ofs maxofs
 else
  let maxofs:=hint+1
  for _ in [0:n] do
   if ofs≥maxofs then break
   let some found ← bey left key arr base (hint-ofs) | return none
   if found then break
   lastofs:=ofs
   ofs:=2*ofs+1
  lo:=hint+1-min ofs maxofs
  hi:=hint-lastofs
 for _ in [0:n] do
  if lo≥hi then break
  let m:=lo+(hi-lo) / 2
  let some more ← bey left key arr base m | return none
  if more then lo:=m+1 else hi:=m
 return some hi):=rfl
noncomputable def bsTail (left:Bool) (key:Keyed) (arr:Array Keyed) (base n lo0 hi0:Nat):StateT SortSt Sem (Option Nat):=do
 let mut lo:=lo0
 let mut hi:=hi0
 for _ in [0:n] do
  if lo≥hi then break
  let m:=lo+(hi-lo) / 2
  let some more ← bey left key arr base m | return none
  if more then lo:=m+1 else hi:=m
 return some hi
section
variable {prog:Program}{w:World}{A:Around}{E:Value→Shared→Prop}{s:Shared}
theorem wpS_bs {left:Bool}{key:Keyed}{arr:Array Keyed}{base n lo hi:Nat}{st:SortSt}{Q:Option Nat→SortSt→Prop} (b:Nat→Bool)
 (hb:∀ i,i<n→∀(R:Option Bool→SortSt→Prop),R (some (b i)) st→wpS (model prog w) A E s (bey left key arr base i) R st) (mono:∀ i j,i≤j→j<n→b j=true→b i=true)
 (h0:lo≤hi) (h1:hi≤n) (hl:∀ i,i<lo→b i=true) (hr:∀ i,hi≤i→i<n→b i=false)
 (h:∀ k,k≤n→(∀ i,i<k→b i=true)→(∀ i,k≤i→i<n→b i=false)→Q (some k) st):wpS (model prog w) A E s (bsTail left key arr base n lo hi) Q st:=by
 unfold bsTail
 refine wpS_bind (wpS_mono (wpS_forRange
  (I:=fun x c st'=>st'=st∧∃ lo hi,c=(none,lo,hi)∧lo≤hi∧hi≤n∧hi-lo≤n-x∧(∀ i,i<lo→b i=true)∧(∀ i,hi≤i→i<n→b i=false))
  (Q:=fun c st'=>st'=st∧∃ hi,c=(none,hi,hi)∧hi≤n∧(∀ i,i<hi→b i=true)∧(∀ i,hi≤i→i<n→b i=false)) ?step ?fin ?init) ?post)
 case init=>exact⟨rfl,lo,hi,rfl,h0,h1,ω291 h1,hl,hr⟩
 case fin=>
  rintro c st' ⟨rfl,lo,hi,rfl,g1,g2,g3,g4,g5⟩
  have:lo=hi:=ω292 g3 g1
  subst this
  exact⟨rfl,lo,rfl,g2,g4,g5⟩
 case post=>
  rintro c st' ⟨rfl,hi,rfl,g2,g4,g5⟩
  exact wpS_pure (h hi g2 g4 g5)
 case step=>
  rintro x c st' _ hx ⟨rfl,lo,hi,rfl,g1,g2,g3,g4,g5⟩
  dsimp only
  by_cases hge:lo≥hi
  · rw[if_pos hge]
    have:lo=hi:=ω61 g1 hge
    subst this
    exact wpS_pure ⟨rfl,lo,rfl,g2,g4,g5⟩
  · rw[if_neg hge]
    refine wpS_bind (hb _ (ω293 g2 hge) _ ?_)
    dsimp only
    cases hm:b (lo+(hi-lo) / 2)
    · rw[if_neg (by decide)]
      refine wpS_pure ⟨rfl,lo,_,rfl,ω294,ω295 g2 hge,ω296 g3,g4,fun i h2 h3=>?_⟩
      cases z:b i with
      | false=>rfl
      | true=>rw[mono _ i h2 h3 z] at hm; cases hm
    · rw[if_pos rfl]
      exact wpS_pure ⟨rfl,_,hi,rfl,ω297 hge,by omega,ω298 g3,fun i h2=>mono i (lo+(hi-lo) / 2) (ω299 h2) (ω293 g2 hge) hm,g5⟩
theorem wpS_gallop {left:Bool}{key:Keyed}{arr:Array Keyed}{base n hint:Nat}{st:SortSt}{Q:Option Nat→SortSt→Prop} (b:Nat→Bool) (hh:hint<n)
 (hb:∀ i,i<n→∀(R:Option Bool→SortSt→Prop),R (some (b i)) st→wpS (model prog w) A E s (bey left key arr base i) R st) (mono:∀ i j,i≤j→j<n→b j=true→b i=true)
 (h:∀ k,k≤n→(∀ i,i<k→b i=true)→(∀ i,k≤i→i<n→b i=false)→Q (some k) st):wpS (model prog w) A E s (gallop' left key arr base n hint) Q st:=by
 have up:∀{i j},i≤j→j<n→b i=false→b j=false:=fun {i j} h1 h2 h3=>by
  cases z:b j with
  | false=>rfl
  | true=>rw[mono i j h1 h2 z] at h3; cases h3
 rw[gallop'_eq]
 refine wpS_bind (hb hint hh _ ?_)
 dsimp only
 cases hr:b hint
 · simp only[Bool.false_eq_true,if_false]
   refine wpS_bind (wpS_mono (wpS_forRange
    (I:=fun x c st'=>st'=st∧∃ lastofs ofs,c=(none,lastofs,ofs)∧x+1≤ofs∧lastofs<ofs∧lastofs≤hint∧b (hint-lastofs)=false)
    (Q:=fun c st'=>st'=st∧∃ lastofs ofs,c=(none,lastofs,ofs)∧lastofs<ofs∧lastofs≤hint∧b (hint-lastofs)=false∧(hint+1≤ofs∨(ofs≤hint∧b (hint-ofs)=true))) ?step ?fin ⟨rfl,0,1,rfl,ω300,ω300,ω50,hr⟩) ?post)
   case fin=>
    rintro c st' ⟨rfl,l,o,rfl,g1,g2,g3,g4⟩
    exact⟨rfl,l,o,rfl,g2,g3,g4,.inl (ω301 hh g1)⟩
   case step=>
    rintro x c st' _ hx ⟨rfl,l,o,rfl,g1,g2,g3,g4⟩
    dsimp only
    by_cases hge:o≥hint+1
    · rw[if_pos hge]
      exact wpS_pure ⟨rfl,l,o,rfl,g2,g3,g4,.inl hge⟩
    · rw[if_neg hge]
      refine wpS_bind (hb _ (ω302 hh) _ ?_)
      dsimp only
      cases hm:b (hint-o)
      · rw[if_neg (by decide)]
        exact wpS_pure ⟨rfl,o,2*o+1,rfl,ω303 g1,ω304,ω85 hge,hm⟩
      · rw[if_pos rfl]
        exact wpS_pure ⟨rfl,l,o,rfl,g2,g3,g4,.inr ⟨ω85 hge,hm⟩⟩
   case post=>
    rintro c st' ⟨rfl,l,o,rfl,g2,g3,g4,g5⟩
    dsimp only
    refine wpS_bs b hb mono ?_ ?_ ?_ ?_ h
    · exact ω305 g2
    · exact ω306 hh
    · intro i hi
      rcases g5 with g5 | ⟨g5,g6⟩
      · exact(ω307 g5 hi).elim
      · exact mono i (hint-o) (ω308 hi) (ω302 hh) g6
    · intro i h1 h2
      exact up h1 h2 g4
 · simp only[if_true]
   refine wpS_bind (wpS_mono (wpS_forRange
    (I:=fun x c st'=>st'=st∧∃ lastofs ofs,c=(none,lastofs,ofs)∧x+1≤ofs∧lastofs<ofs∧hint+lastofs<n∧b (hint+lastofs)=true)
    (Q:=fun c st'=>st'=st∧∃ lastofs ofs,c=(none,lastofs,ofs)∧lastofs<ofs∧hint+lastofs<n∧b (hint+lastofs)=true∧(n-hint≤ofs∨(ofs<n-hint∧b (hint+ofs)=false))) ?step ?fin ⟨rfl,0,1,rfl,ω300,ω300,by omega,hr⟩) ?post)
   case fin=>
    rintro c st' ⟨rfl,l,o,rfl,g1,g2,g3,g4⟩
    exact⟨rfl,l,o,rfl,g2,g3,g4,.inl (ω309 g1)⟩
   case step=>
    rintro x c st' _ hx ⟨rfl,l,o,rfl,g1,g2,g3,g4⟩
    dsimp only
    by_cases hge:o≥n-hint
    · rw[if_pos hge]
      exact wpS_pure ⟨rfl,l,o,rfl,g2,g3,g4,.inl hge⟩
    · rw[if_neg hge]
      refine wpS_bind (hb _ (ω310 hge) _ ?_)
      dsimp only
      cases hm:b (hint+o)
      · rw[if_pos (show(!false)=true from rfl)]
        exact wpS_pure ⟨rfl,l,o,rfl,g2,g3,g4,.inr ⟨ω311 hge,hm⟩⟩
      · rw[if_neg (by decide)]
        exact wpS_pure ⟨rfl,o,2*o+1,rfl,ω303 g1,ω304,ω310 hge,hm⟩
   case post=>
    rintro c st' ⟨rfl,l,o,rfl,g2,g3,g4,g5⟩
    dsimp only
    refine wpS_bs b hb mono ?_ ?_ ?_ ?_ h
    · exact ω312 g3 g2
    · exact ω313 hh
    · intro i hi
      exact mono i (hint+l) (ω314 hi) g3 g4
    · intro i h1 h2
      rcases g5 with g5 | ⟨g5,g6⟩
      · exact(ω315 h1 g5 h2).elim
      · exact up (i:=hint+o) (ω316 h1 g5) h2 g6
end
noncomputable def setMinGallop':Nat→StateT SortSt Sem Unit:=sortPriv% PySem.Builtin.setMinGallop
noncomputable def mergeLo':Array Keyed→Array Keyed→StateT SortSt Sem (Array Keyed):=sortPriv% PySem.Builtin.mergeLo
noncomputable def mergeHi':Array Keyed→Array Keyed→StateT SortSt Sem (Array Keyed):=sortPriv% PySem.Builtin.mergeHi
theorem setMinGallop'_eq (g:Nat):setMinGallop' g=modify fun st=>SortSt.mk' (kindOf st) (arrOf st) (pendingOf st) g (failedOf st):=rfl
noncomputable abbrev LoSt:=Option (Array Keyed)×Array Keyed×Nat×Nat×Nat×Nat×Nat
noncomputable def loP3 (a b out:Array Keyed) (ia ib mg ac bc:Nat):StateT SortSt Sem (ForInStep LoSt):=do
 let x ← elem' a ia
 if ia+1+1 == a.size then pure (.done (some (out.push x++b.extract ib b.size++a.extract (ia+1) a.size),out.push x,ia+1,ib,mg,ac,bc))
 else if (decide (ac<7) && decide (bc<7))=true then pure (.done (none,out.push x,ia+1,ib,mg,ac,bc)) else pure (.yield (none,out.push x,ia+1,ib,mg,ac,bc))
noncomputable def loP2 (a b out:Array Keyed) (ia ib mg ac bc:Nat):StateT SortSt Sem (ForInStep LoSt):=do
 let y ← elem' b ib
 if ib+1 == b.size then pure (.done (some (out.push y++a.extract ia a.size++b.extract (ib+1) b.size),out.push y,ia,ib+1,mg,ac,bc))
 else do
  let x ← elem' a ia
  let r ← gallop' true x b (ib+1) (b.size-(ib+1)) 0
  match r with
  | some k=>(if k>0 then(if ib+1+k == b.size then pure (.done (some (out.push y++b.extract (ib+1) (ib+1+k)++a.extract ia a.size++b.extract (ib+1+k) b.size),out.push y++b.extract (ib+1) (ib+1+k),ia,ib+1+k,mg,ac,k))
   else loP3 a b (out.push y++b.extract (ib+1) (ib+1+k)) ia (ib+1+k) mg ac k)
   else loP3 a b (out.push y) ia (ib+1) mg ac k)
  | _=>pure (.done (some (out.push y++a.extract ia a.size++b.extract (ib+1) b.size),out.push y,ia,ib+1,mg,ac,bc))
noncomputable def loP1 (a b out:Array Keyed) (ia ib mg ac bc:Nat):StateT SortSt Sem (ForInStep LoSt):=do
 setMinGallop' mg
 let y ← elem' b ib
 let r ← gallop' false y a ia (a.size-ia) 0
 match r with
 | some k=>(if k>0 then
  (if ia+k+1 == a.size then pure (.done (some (out++a.extract ia (ia+k)++b.extract ib b.size++a.extract (ia+k) a.size),out++a.extract ia (ia+k),ia+k,ib,mg,k,bc))
  else if ia+k == a.size then pure (.done (some (out++a.extract ia (ia+k)++a.extract (ia+k) a.size++b.extract ib b.size),out++a.extract ia (ia+k),ia+k,ib,mg,k,bc))
  else loP2 a b (out++a.extract ia (ia+k)) (ia+k) ib mg k bc)
  else loP2 a b out ia ib mg k bc)
 | _=>pure (.done (some (out++a.extract ia a.size++b.extract ib b.size),out,ia,ib,mg,ac,bc))
noncomputable abbrev Lo0:=Option (Array Keyed)×Array Keyed×Nat×Nat×Nat×Nat
noncomputable abbrev Lo1:=Option (Array Keyed)×Array Keyed×Nat×Nat×Nat
noncomputable def lo0b (a b:Array Keyed) (mg:Nat) (out:Array Keyed) (ia ib ac bc:Nat):StateT SortSt Sem (ForInStep Lo0):=
 if ib == b.size then pure (.done (some (out++a.extract ia a.size++b.extract ib b.size),out,ia,ib,ac,bc))
 else if bc≥mg then pure (.done (none,out,ia,ib,ac,bc)) else pure (.yield (none,out,ia,ib,ac,bc))
noncomputable def lo0a (a b:Array Keyed) (mg:Nat) (out:Array Keyed) (ia ib ac bc:Nat):StateT SortSt Sem (ForInStep Lo0):=
 if ia+1 == a.size then pure (.done (some (out++b.extract ib b.size++a.extract ia a.size),out,ia,ib,ac,bc))
 else if ac≥mg then pure (.done (none,out,ia,ib,ac,bc)) else pure (.yield (none,out,ia,ib,ac,bc))
noncomputable def lo0 (a b:Array Keyed) (mg:Nat) (d:Lo0):StateT SortSt Sem (ForInStep Lo0):=do
 let y ← elem' b d.2.2.2.1
 let x ← elem' a d.2.2.1
 let w ← lt' y x
 match w with
 | some w=>(if w then elem' b d.2.2.2.1 >>= fun y=>lo0b a b mg (d.2.1.push y) d.2.2.1 (d.2.2.2.1+1) 0 (d.2.2.2.2.2+1)
  else elem' a d.2.2.1 >>= fun x=>lo0a a b mg (d.2.1.push x) (d.2.2.1+1) d.2.2.2.1 (d.2.2.2.2.1+1) 0)
 | _=>pure (.done (some (d.2.1++a.extract d.2.2.1 a.size++b.extract d.2.2.2.1 b.size),d.2.1,d.2.2.1,d.2.2.2.1,d.2.2.2.2.1,d.2.2.2.2.2))
noncomputable def lo1 (a b:Array Keyed) (d:LoSt):StateT SortSt Sem (ForInStep LoSt):=
 if d.2.2.2.2.1>1 then loP1 a b d.2.1 d.2.2.1 d.2.2.2.1 (d.2.2.2.2.1-1) d.2.2.2.2.2.1 d.2.2.2.2.2.2 else loP1 a b d.2.1 d.2.2.1 d.2.2.2.1 d.2.2.2.2.1 d.2.2.2.2.2.1 d.2.2.2.2.2.2
noncomputable def loE (s:LoSt):StateT SortSt Sem (ForInStep Lo1):=match s.1 with
 | some r=>pure (.done (some r,s.2.1,s.2.2.1,s.2.2.2.1,s.2.2.2.2.1))
 | none=>do
  setMinGallop' (s.2.2.2.2.1+1)
  pure (.yield (none,s.2.1,s.2.2.1,s.2.2.2.1,s.2.2.2.2.1+1))
noncomputable def loM (a b:Array Keyed) (mg:Nat) (s:Lo0):StateT SortSt Sem (ForInStep Lo1):=match s.1 with
 | some r=>pure (.done (some r,s.2.1,s.2.2.1,s.2.2.2.1,mg))
 | none=>do
  rule "list.sort.gallop"
  let s ← forIn [0:a.size+b.size] (none,s.2.1,s.2.2.1,s.2.2.2.1,mg+1,s.2.2.2.2.1,s.2.2.2.2.2) fun _ d=>lo1 a b d
  loE s
noncomputable def lo2 (a b:Array Keyed) (c:Lo1):StateT SortSt Sem (ForInStep Lo1):=do
 let s ← forIn [0:a.size+b.size] (none,c.2.1,c.2.2.1,c.2.2.2.1,0,0) fun _ d=>lo0 a b c.2.2.2.2 d
 loM a b c.2.2.2.2 s
noncomputable def loR (s:Lo1):StateT SortSt Sem (Array Keyed):=match s.1 with
 | some r=>pure r
 | none=>unsupported "internal:list.sort.merge-bound"
noncomputable def lo3 (a b out:Array Keyed):StateT SortSt Sem (Array Keyed):=
 if 1 == b.size then pure (out++a.extract 0 a.size++b.extract 1 b.size)
 else if 0+1 == a.size then pure (out++b.extract 1 b.size++a.extract 0 a.size)
 else do
  let st ← get
  let s ← forIn [0:a.size+b.size] (none,out,0,1,gallopOf st) fun _ c=>lo2 a b c
  loR s
theorem mergeLo'_eq (a b:Array Keyed):mergeLo' a b=(do
 rule "list.sort.merge-lo"
 let y ← elem' b 0
 lo3 a b #[y]):=by kernel_rfl
noncomputable def KLt (key:Keyed→Quad) (x y:Keyed):Prop:=qblt (key x) (key y)=true
noncomputable def Fin (key:Keyed→Quad) (A B r:List Keyed):Prop:=r.Perm (A++B)∧r.Pairwise (KLt key)
structure MInv (key:Keyed→Quad) (A B out:List Keyed) (ia ib:Nat):Prop where
 la:ia≤A.length
 lb:ib≤B.length
 perm:out.Perm (A.take ia++B.take ib)
 sorted:out.Pairwise (KLt key)
 lessA:∀ x∈out,∀ y∈A.drop ia,KLt key x y
 lessB:∀ x∈out,∀ y∈B.drop ib,KLt key x y
section
variable {key:Keyed→Quad}{A B out:List Keyed}{ia ib:Nat}
theorem KLt.trans {x y z:Keyed} (h:KLt key x y) (h':KLt key y z):KLt key x z:=qblt_trans h h'
theorem take_add' {α:Type} (l:List α) (i k:Nat):l.take (i+k)=l.take i++(l.drop i).take k:=by
 rw[List.take_add]
theorem MInv.takeA (m:MInv key A B out ia ib) (sA:A.Pairwise (KLt key)) {k:Nat} (hk:ia+k≤A.length) (h:∀ x∈(A.drop ia).take k,∀ y∈B.drop ib,KLt key x y):MInv key A B (out++(A.drop ia).take k) (ia+k) ib where
 la:=hk
 lb:=m.lb
 perm:=by
  rw[take_add',List.append_assoc]
  refine(m.perm.append_right _).trans ?_
  rw[List.append_assoc]
  exact List.Perm.append_left _ List.perm_append_comm
 sorted:=List.pairwise_append.mpr ⟨m.sorted,(sA.sublist (List.drop_sublist _ _)).sublist (List.take_sublist _ _),fun x hx y hy=>m.lessA x hx y (List.mem_of_mem_take hy)⟩
 lessA:=fun x hx y hy=>by
  have hd:A.drop (ia+k)=(A.drop ia).drop k:=by rw[List.drop_drop]
  rw[hd] at hy
  rcases List.mem_append.mp hx with hx | hx
  · exact m.lessA x hx y (List.mem_of_mem_drop hy)
  · have:=(sA.sublist (List.drop_sublist ia _))
    rw[← List.take_append_drop k (A.drop ia)] at this
    exact(List.pairwise_append.mp this).2.2 x hx y hy
 lessB:=fun x hx y hy=>by
  rcases List.mem_append.mp hx with hx | hx
  · exact m.lessB x hx y hy
  · exact h x hx y hy
theorem MInv.symm (m:MInv key A B out ia ib):MInv key B A out ib ia:=⟨m.lb,m.la,m.perm.trans List.perm_append_comm,m.sorted,m.lessB,m.lessA⟩
theorem MInv.takeB (m:MInv key A B out ia ib) (sB:B.Pairwise (KLt key)) {k:Nat} (hk:ib+k≤B.length) (h:∀ x∈(B.drop ib).take k,∀ y∈A.drop ia,KLt key x y):MInv key A B (out++(B.drop ib).take k) ia (ib+k):=(m.symm.takeA sB hk h).symm
theorem Fin.symm {r:List Keyed} (f:Fin key A B r):Fin key B A r:=⟨f.1.trans List.perm_append_comm,f.2⟩
theorem MInv.doneA (m:MInv key A B out ia ib) (sB:B.Pairwise (KLt key)) (h:ia=A.length):Fin key A B (out++B.drop ib):=by
 refine⟨?_,List.pairwise_append.mpr ⟨m.sorted,sB.sublist (List.drop_sublist _ _),m.lessB⟩⟩
 have:=m.perm.append_right (B.drop ib)
 rwa [h,List.take_length,List.append_assoc,List.take_append_drop] at this
theorem MInv.doneB (m:MInv key A B out ia ib) (sA:A.Pairwise (KLt key)) (h:ib=B.length):Fin key A B (out++A.drop ia):=(m.symm.doneA sA h).symm
theorem MInv.thenA (m:MInv key A B out ia ib) (sA:A.Pairwise (KLt key)) (sB:B.Pairwise (KLt key)) (h:∀ x∈B.drop ib,∀ y∈A.drop ia,KLt key x y):Fin key A B (out++B.drop ib++A.drop ia):=by
 have e:(B.drop ib).take (B.length-ib)=B.drop ib:=List.take_of_length_le (by simp)
 have m2:=m.takeB sB (k:=B.length-ib) (by have:=m.lb; exact ω317 this) (by rw[e]; exact h)
 rw[e] at m2
 exact m2.doneB sA (by have:=m.lb; exact ω260 this)
theorem drop_one {α:Type}{l:List α}{i:Nat}{x:α} (h:l[i]?=some x):(l.drop i).take 1=[x]:=by
 have hi:=(List.getElem?_eq_some_iff.mp h).1
 rw[List.drop_eq_getElem_cons hi]
 have:=(List.getElem?_eq_some_iff.mp h).2
 simp[this]
theorem drop_head {l:List Keyed}{i:Nat}{x y:Keyed} (h:l[i]?=some x) (s:l.Pairwise (KLt key)) (hy:y∈l.drop i):y=x∨KLt key x y:=by
 have hi:=(List.getElem?_eq_some_iff.mp h).1
 have e:=(List.getElem?_eq_some_iff.mp h).2
 rw[List.drop_eq_getElem_cons hi,e] at hy
 rcases List.mem_cons.mp hy with rfl | hy
 · exact .inl rfl
 · right
   have:=s.sublist (List.drop_sublist i l)
   rw[List.drop_eq_getElem_cons hi,e] at this
   exact(List.pairwise_cons.mp this).1 y hy
theorem sorted_at {l:List Keyed} (s:l.Pairwise (KLt key)) {i j:Nat}{x y:Keyed} (hi:l[i]?=some x) (hj:l[j]?=some y) (h:i<j):KLt key x y:=by
 obtain⟨h1,e1⟩:=List.getElem?_eq_some_iff.mp hi
 obtain⟨h2,e2⟩:=List.getElem?_eq_some_iff.mp hj
 rw[← e1,← e2]
 exact List.pairwise_iff_getElem.mp s i j h1 h2 h
theorem mem_seg {l:List Keyed}{i k:Nat}{x:Keyed} (h:x∈(l.drop i).take k):∃ j,j<k∧l[i+j]?=some x:=by
 obtain⟨j,hj⟩:=List.getElem?_of_mem h
 rw[List.getElem?_take] at hj
 split at hj
 · rename_i hlt
   rw[List.getElem?_drop] at hj
   exact⟨j,hlt,hj⟩
 · cases hj
theorem mem_rest {l:List Keyed}{i:Nat}{x:Keyed} (h:x∈l.drop i):∃ j,l[i+j]?=some x:=by
 obtain⟨j,hj⟩:=List.getElem?_of_mem h
 rw[List.getElem?_drop] at hj
 exact⟨j,hj⟩
end
theorem ext_list {xs:Array Keyed} (i k:Nat):(xs.extract i (i+k)).toList=(xs.toList.drop i).take k:=by
 rw[Array.toList_extract]
 simp[List.extract_eq_drop_take]
theorem ext_all {xs:Array Keyed} (i:Nat):(xs.extract i xs.size).toList=xs.toList.drop i:=by
 rw[Array.toList_extract,List.extract_eq_drop_take]
 exact List.take_of_length_le (by simp)
structure SG (st st':SortSt):Prop where
 kind:kindOf st'=kindOf st
 arr:arrOf st'=arrOf st
 pend:pendingOf st'=pendingOf st
 failed:failedOf st'=failedOf st
theorem SG.refl (st:SortSt):SG st st:=⟨rfl,rfl,rfl,rfl⟩
theorem SG.trans {a b c:SortSt} (x:SG a b) (y:SG b c):SG a c:=⟨y.kind.trans x.kind,y.arr.trans x.arr,y.pend.trans x.pend,y.failed.trans x.failed⟩
theorem SG.ok {f:Bool}{st st':SortSt} (x:SG st st') (o:OkS f st):OkS f st':=⟨x.kind.trans o.kind,x.failed.trans o.failed⟩
structure MC (h:Heap) (key:Keyed→Quad) (a b:Array Keyed):Prop where
 qa:∀ x∈a.toList,IsQ h x.1 (key x)
 qb:∀ x∈b.toList,IsQ h x.1 (key x)
 sa:a.toList.Pairwise (KLt key)
 sb:b.toList.Pairwise (KLt key)
 dist:∀ x∈a.toList,∀ y∈b.toList,key x≠key y
theorem at_list {xs:Array Keyed}{i:Nat}{x:Keyed} (h:xs[i]?=some x):xs.toList[i]?=some x:=by rw[Array.getElem?_toList]; exact h
theorem list_at {xs:Array Keyed}{i:Nat}{x:Keyed} (h:xs.toList[i]?=some x):xs[i]?=some x:=by rw[← Array.getElem?_toList]; exact h
theorem at_some {xs:Array Keyed}{i:Nat} (h:i<xs.size):∃ x,xs[i]?=some x:=⟨_,Array.getElem?_eq_getElem h⟩
theorem not_lt_gt {key:Keyed→Quad}{x y:Keyed} (h:qblt (key x) (key y)=false) (n:key x≠key y):KLt key y x:=by
 unfold KLt
 cases z:qblt (key y) (key x) with
 | true=>rfl
 | false=>exact absurd (qblt_tri h z) n
theorem wpS_pos {σ α:Type}{M:Model}{A:Around}{E:Value→Shared→Prop}{s:Shared}{c:Prop} [Decidable c] {x y:StateT σ Sem α}{Q:α→σ→Prop}{st:σ} (h:c) (k:wpS M A E s x Q st):wpS M A E s (if c then x else y) Q st:=by rw[if_pos h]; exact k
theorem wpS_neg {σ α:Type}{M:Model}{A:Around}{E:Value→Shared→Prop}{s:Shared}{c:Prop} [Decidable c] {x y:StateT σ Sem α}{Q:α→σ→Prop}{st:σ} (h:¬ c) (k:wpS M A E s y Q st):wpS M A E s (if c then x else y) Q st:=by rw[if_neg h]; exact k
theorem wpS_beq {σ α:Type}{M:Model}{A:Around}{E:Value→Shared→Prop}{s:Shared}{i j:Nat}{x y:StateT σ Sem α}{Q:α→σ→Prop}{st:σ} (h:i=j→wpS M A E s x Q st) (k:i≠j→wpS M A E s y Q st):wpS M A E s (if (i == j)=true then x else y) Q st:=by
 by_cases e:i=j
 · exact wpS_pos (beq_iff_eq.mpr e) (h e)
 · exact wpS_neg (fun z=>e (beq_iff_eq.mp z)) (k e)
theorem wpS_two {σ α:Type}{M:Model}{A:Around}{E:Value→Shared→Prop}{s:Shared}{c:Prop} [Decidable c] {x y:StateT σ Sem α}{Q:α→σ→Prop}{st:σ} (h:wpS M A E s x Q st) (k:wpS M A E s y Q st):wpS M A E s (if c then x else y) Q st:=by split <;> assumption
theorem drop_all {xs:Array Keyed}{i:Nat} (h:i=xs.size):xs.toList.drop i=[]:=by rw[h]; exact List.drop_eq_nil_of_le (by simp)
section
variable {key:Keyed→Quad}{a b out:Array Keyed}{ia ib:Nat}
theorem MInv.oneA {x:Keyed} (m:MInv key a.toList b.toList out.toList ia ib) (sA:a.toList.Pairwise (KLt key)) (hx:a[ia]?=some x) (h:∀ y∈b.toList.drop ib,KLt key x y):MInv key a.toList b.toList (out.push x).toList (ia+1) ib:=by
 have e:=drop_one (at_list hx)
 have m1:=m.takeA sA (k:=1) (List.getElem?_eq_some_iff.mp (at_list hx)).1 (by rw[e]; intro z hz y hy; rw[List.mem_singleton.mp hz]; exact h y hy)
 rw[e] at m1
 rw[Array.toList_push]
 exact m1
theorem MInv.oneB {x:Keyed} (m:MInv key a.toList b.toList out.toList ia ib) (sB:b.toList.Pairwise (KLt key)) (hx:b[ib]?=some x) (h:∀ y∈a.toList.drop ia,KLt key x y):MInv key a.toList b.toList (out.push x).toList ia (ib+1):=(m.symm.oneA sB hx h).symm
theorem MInv.endB (m:MInv key a.toList b.toList out.toList ia ib) (sA:a.toList.Pairwise (KLt key)) (h:ib=b.size):Fin key a.toList b.toList (out++a.extract ia a.size++b.extract ib b.size).toList:=by
 rw[Array.toList_append,Array.toList_append,ext_all,ext_all,drop_all h,List.append_nil]
 exact m.doneB sA (by rw[Array.length_toList]; exact h)
theorem MInv.endA (m:MInv key a.toList b.toList out.toList ia ib) (sA:a.toList.Pairwise (KLt key)) (sB:b.toList.Pairwise (KLt key)) (hlast:∀ x∈a.toList.drop (a.size-1),∀ y∈b.toList,KLt key y x) (h:ia+1=a.size):Fin key a.toList b.toList (out++b.extract ib b.size++a.extract ia a.size).toList:=by
 rw[Array.toList_append,Array.toList_append,ext_all,ext_all]
 exact m.thenA sA sB fun y hy z hz=>hlast z (by rw[← h]; exact hz) y (List.mem_of_mem_drop hy)
end
structure LoI (key:Keyed→Quad) (a b out:Array Keyed) (ia ib x0:Nat):Prop where
 inv:MInv key a.toList b.toList out.toList ia ib
 ha:ia+1<a.size
 hb:ib<b.size
 run:x0≤ia+ib
noncomputable def RStep (key:Keyed→Quad) (a b:Array Keyed) (st0:SortSt) (x0:Nat) (r:ForInStep LoSt) (st':SortSt):Prop:=SG st0 st'∧match r with
 | .done c=>(∃ v,c.1=some v∧Fin key a.toList b.toList v.toList)∨(c.1=none∧LoI key a b c.2.1 c.2.2.1 c.2.2.2.1 x0)
 | .yield c=>c.1=none∧LoI key a b c.2.1 c.2.2.1 c.2.2.2.1 x0
section
variable {prog:Program}{w:World}{A:Around}{E:Value→Shared→Prop}{s:Shared}{key:Keyed→Quad}{a b out:Array Keyed}{ia ib x0 mg ac bc:Nat}{st0 st:SortSt}{f:Bool}
theorem wpS_loP3 (C:MC s.heap key a b) (hlast:∀ x∈a.toList.drop (a.size-1),∀ y∈b.toList,KLt key y x) (ok:OkS f st0) (sg:SG st0 st) (m:MInv key a.toList b.toList out.toList ia ib) (h1:ia+1<a.size) (h2:ib<b.size) {x:Keyed} (hx:a[ia]?=some x) (hlt:∀ y∈b.toList.drop ib,KLt key x y) (hr:x0≤ia+1+ib) :
 wpS (model prog w) A E s (loP3 a b out ia ib mg ac bc) (RStep key a b st0 x0) st:=by
 refine wpS_bind (wpS_elem hx ?_)
 have m1:=m.oneA C.sa hx hlt
 refine wpS_beq (fun hs=>wpS_pure ⟨sg,.inl ⟨_,rfl,m1.endA C.sa C.sb hlast hs⟩⟩) fun hs=>?_
 have li:LoI key a b (out.push x) (ia+1) ib x0:=⟨m1,Nat.lt_of_le_of_ne h1 hs,h2,hr⟩
 exact wpS_two (wpS_pure ⟨sg,.inr ⟨rfl,li⟩⟩) (wpS_pure ⟨sg,rfl,li⟩)
theorem wpS_loP2 (C:MC s.heap key a b) (hlast:∀ x∈a.toList.drop (a.size-1),∀ y∈b.toList,KLt key y x) (ok:OkS f st0) (sg:SG st0 st) (m:MInv key a.toList b.toList out.toList ia ib) (h1:ia+1<a.size) (h2:ib<b.size) {y:Keyed} (hy:b[ib]?=some y) (hlt:∀ z∈a.toList.drop ia,KLt key y z) (hr:x0≤ia+ib+1) :
 wpS (model prog w) A E s (loP2 a b out ia ib mg ac bc) (RStep key a b st0 x0) st:=by
 refine wpS_bind (wpS_elem hy ?_)
 have m1:=m.oneB C.sb hy hlt
 refine wpS_beq (fun hs=>wpS_pure ⟨sg,.inl ⟨_,rfl,m1.endB C.sa hs⟩⟩) fun hs=>?_
 · obtain⟨x,hx⟩:=at_some (xs:=a) (i:=ia) (ω318 h1)
   have hxm:=List.mem_of_getElem? (at_list hx)
   refine wpS_bind (wpS_elem hx ?_)
   refine wpS_bind (wpS_gallop (fun i=>match b[ib+1+i]? with | some z=>qblt (key z) (key x) | none=>false) (ω321 h2 hs) ?_ ?_ ?_)
   · intro i hi R hR
     obtain⟨z,hz⟩:=at_some (xs:=b) (i:=ib+1+i) (ω322 hi)
     unfold bey
     refine wpS_bind (wpS_elem hz ?_)
     rw[if_pos rfl]
     rw[hz] at hR
     exact wpS_lt (sg.ok ok) (C.qb z (List.mem_of_getElem? (at_list hz))) (C.qa x hxm) hR
   · intro i j hij hj hbj
     obtain⟨z,hz⟩:=at_some (xs:=b) (i:=ib+1+i) (ω323 hj hij)
     obtain⟨u,hu⟩:=at_some (xs:=b) (i:=ib+1+j) (ω322 hj)
     skip
     rw[hu] at hbj
     rw[hz]
     by_cases he:i=j
     · subst he; rw[hz] at hu; cases hu; exact hbj
     · exact qblt_trans (sorted_at C.sb (at_list hz) (at_list hu) (ω324 hij he)) hbj
   · intro k hk h3 h4
     dsimp only
     have hseg2:∀ z∈(b.toList.drop (ib+1)).take k,KLt key z x:=fun z hz=>by
      obtain⟨j,hj,e⟩:=mem_seg hz
      have:=h3 j hj
      rw[list_at e] at this
      exact this
     have m2:=m1.takeB C.sb (k:=k) (by rw[Array.length_toList]; exact ω325 h2 hk) (fun z hz u hu=>by
      rcases drop_head (at_list hx) C.sa hu with rfl | h
      · exact hseg2 z hz
      · exact(hseg2 z hz).trans h)
     have hrest:∀ z∈b.toList.drop (ib+1+k),KLt key x z:=fun z hz=>by
      obtain⟨j,e⟩:=mem_rest hz
      have hjl:=(List.getElem?_eq_some_iff.mp e).1
      rw[Array.length_toList] at hjl
      have:=h4 (k+j) ω117 (ω326 hjl)
      rw[← Nat.add_assoc,list_at e] at this
      exact not_lt_gt this (Ne.symm (C.dist x hxm z (List.mem_of_getElem? e)))
     by_cases hk0:k>0
     · rw[if_pos hk0]
       have e2:(out.push y++b.extract (ib+1) (ib+1+k)).toList=(out.push y).toList++(b.toList.drop (ib+1)).take k:=by rw[Array.toList_append,ext_list]
       rw[← e2] at m2
       exact wpS_beq (fun hs2=>wpS_pure ⟨sg,.inl ⟨_,rfl,m2.endB C.sa hs2⟩⟩) fun hs2=>wpS_loP3 C hlast ok sg m2 h1 (ω327 h2 hk hs2) hx hrest (ω328 hr)
     · rw[if_neg hk0]
       have:k=0:=ω329 hk0
       subst this
       exact wpS_loP3 C hlast ok sg m1 h1 (ω330 h2 hs) hx hrest (ω331 hr)
theorem wpS_loP1 (C:MC s.heap key a b) (hlast:∀ x∈a.toList.drop (a.size-1),∀ y∈b.toList,KLt key y x) (ok:OkS f st0) (sg:SG st0 st) (m:LoI key a b out ia ib x0) :
 wpS (model prog w) A E s (loP1 a b out ia ib mg ac bc) (RStep key a b st0 (x0+1)) st:=by
 obtain⟨m,h1,h2,hr⟩:=m
 refine wpS_bind ?_
 rw[setMinGallop'_eq]
 refine wpS_modify ?_
 have sg':SG st0 (SortSt.mk' (kindOf st) (arrOf st) (pendingOf st) mg (failedOf st)):=sg.trans ⟨rfl,rfl,rfl,rfl⟩
 generalize SortSt.mk' (kindOf st) (arrOf st) (pendingOf st) mg (failedOf st)=st' at sg'
 obtain⟨y,hy⟩:=at_some h2
 have hym:=List.mem_of_getElem? (at_list hy)
 refine wpS_bind (wpS_elem hy ?_)
 refine wpS_bind (wpS_gallop (fun i=>match a[ia+i]? with | some z=>!(qblt (key y) (key z)) | none=>false) (ω332 h1) ?_ ?_ ?_)
 · intro i hi R hR
   obtain⟨z,hz⟩:=at_some (xs:=a) (i:=ia+i) (ω333 hi)
   unfold bey
   refine wpS_bind (wpS_elem hz ?_)
   rw[if_neg (by decide)]
   skip
   rw[hz] at hR
   refine wpS_bind (wpS_lt (sg'.ok ok) (C.qb y hym) (C.qa z (List.mem_of_getElem? (at_list hz))) ?_)
   exact wpS_pure hR
 · intro i j hij hj hbj
   obtain⟨z,hz⟩:=at_some (xs:=a) (i:=ia+i) (ω334 hj hij)
   obtain⟨u,hu⟩:=at_some (xs:=a) (i:=ia+j) (ω333 hj)
   skip
   rw[hu] at hbj
   rw[hz]
   by_cases he:i=j
   · subst he; rw[hz] at hu; cases hu; exact hbj
   · have hzu:=sorted_at C.sa (at_list hz) (at_list hu) (ω335 hij he)
     dsimp only
     cases q:qblt (key y) (key z) with
     | false=>rfl
     | true=>
      have:=qblt_trans q hzu
      have hbj':(!(qblt (key y) (key u)))=true:=hbj
      rw[this] at hbj'; cases hbj'
 · intro k hk h3 h4
   dsimp only
   have hseg2:∀ z∈(a.toList.drop ia).take k,KLt key z y:=fun z hz=>by
    obtain⟨j,hj,e⟩:=mem_seg hz
    have:=h3 j hj
    rw[list_at e] at this
    exact not_lt_gt (by simpa using this) (Ne.symm (C.dist z (List.mem_of_getElem? e) y hym))
   have m2:=m.takeA C.sa (k:=k) (by rw[Array.length_toList]; exact ω336 h1 hk) (fun z hz u hu=>by
    rcases drop_head (at_list hy) C.sb hu with rfl | h
    · exact hseg2 z hz
    · exact(hseg2 z hz).trans h)
   have hrest:∀ z∈a.toList.drop (ia+k),KLt key y z:=fun z hz=>by
    obtain⟨j,e⟩:=mem_rest hz
    have hjl:=(List.getElem?_eq_some_iff.mp e).1
    rw[Array.length_toList] at hjl
    have:=h4 (k+j) ω117 (ω337 hjl)
    rw[← Nat.add_assoc,list_at e] at this
    simpa[KLt] using this
   by_cases hk0:k>0
   · rw[if_pos hk0]
     have e2:(out++a.extract ia (ia+k)).toList=out.toList++(a.toList.drop ia).take k:=by rw[Array.toList_append,ext_list]
     rw[← e2] at m2
     refine wpS_beq (fun hs1=>wpS_pure ⟨sg',.inl ⟨_,rfl,m2.endA C.sa C.sb hlast hs1⟩⟩) fun hs1=>wpS_beq (fun hs2=>wpS_pure ⟨sg',.inl ⟨_,rfl,?_⟩⟩) fun hs2=>?_
     · rw[Array.toList_append,Array.toList_append,ext_all,ext_all,drop_all hs2,List.append_nil]
       exact m2.doneA C.sb (by rw[Array.length_toList]; exact hs2)
     · exact wpS_loP2 C hlast ok sg' m2 (ω339 h1 hk hs1 hs2) h2 hy hrest (ω340 hr)
   · rw[if_neg hk0]
     have:k=0:=ω329 hk0
     subst this
     exact wpS_loP2 C hlast ok sg' m h1 h2 hy hrest (ω341 hr)
noncomputable def StP {β:Type} (D Y:β→SortSt→Prop) (r:ForInStep β) (st:SortSt):Prop:=match r with
 | .done c=>D c st
 | .yield c=>Y c st
noncomputable def LoF (key:Keyed→Quad) (a b:Array Keyed) (st:SortSt) (r:Option (Array Keyed)) (st':SortSt):Prop:=SG st st'∧∃ v,r=some v∧Fin key a.toList b.toList v.toList
noncomputable def LoY (key:Keyed→Quad) (a b:Array Keyed) (st:SortSt) (x:Nat) (r:Option (Array Keyed)) (out:Array Keyed) (ia ib:Nat) (st':SortSt):Prop:=SG st st'∧r=none∧LoI key a b out ia ib x
noncomputable def LoD (key:Keyed→Quad) (a b:Array Keyed) (st:SortSt) (x:Nat) (r:Option (Array Keyed)) (out:Array Keyed) (ia ib:Nat) (st':SortSt):Prop:=SG st st'∧((∃ v,r=some v∧Fin key a.toList b.toList v.toList)∨(r=none∧LoI key a b out ia ib x))
theorem LoI.to {x y:Nat} (l:LoI key a b out ia ib x) (h:y≤x):LoI key a b out ia ib y:=⟨l.inv,l.ha,l.hb,Nat.le_trans h l.run⟩
theorem LoI.no (l:LoI key a b out ia ib (x0+max 0 (a.size+b.size))):False:=by
 have h1:=l.ha; have h2:=l.hb; have h3:=l.run
 rw[Nat.zero_max] at h3
 exact Nat.lt_irrefl _ (Nat.lt_of_lt_of_le (Nat.add_lt_add (Nat.lt_of_succ_lt h1) h2) (Nat.le_trans (Nat.le_add_left _ x0) h3))
noncomputable abbrev lo0P (key:Keyed→Quad) (a b:Array Keyed) (st:SortSt) (x z:Nat):ForInStep Lo0→SortSt→Prop:=StP (fun c=>LoD key a b st x c.1 c.2.1 c.2.2.1 c.2.2.2.1) fun c=>LoY key a b st z c.1 c.2.1 c.2.2.1 c.2.2.2.1
theorem wpS_lo0b {x z:Nat} (C:MC s.heap key a b) (sg:SG st0 st) (m:MInv key a.toList b.toList out.toList ia ib) (h1:ia+1<a.size) (h2:ib≤b.size) (hz:x≤z) (hr:z≤ia+ib):wpS (model prog w) A E s (lo0b a b mg out ia ib ac bc) (lo0P key a b st0 x z) st:=
 wpS_beq (fun hs=>wpS_pure ⟨sg,.inl ⟨_,rfl,m.endB C.sa hs⟩⟩) fun hs=>have l:LoI key a b out ia ib z:=⟨m,h1,Nat.lt_of_le_of_ne h2 hs,hr⟩
  wpS_two (wpS_pure ⟨sg,.inr ⟨rfl,l.to hz⟩⟩) (wpS_pure ⟨sg,rfl,l⟩)
theorem wpS_lo0a {x z:Nat} (C:MC s.heap key a b) (hlast:∀ x∈a.toList.drop (a.size-1),∀ y∈b.toList,KLt key y x) (sg:SG st0 st) (m:MInv key a.toList b.toList out.toList ia ib) (h1:ia+1≤a.size) (h2:ib<b.size) (hz:x≤z) (hr:z≤ia+ib):wpS (model prog w) A E s (lo0a a b mg out ia ib ac bc) (lo0P key a b st0 x z) st:=
 wpS_beq (fun hs=>wpS_pure ⟨sg,.inl ⟨_,rfl,m.endA C.sa C.sb hlast hs⟩⟩) fun hs=>have l:LoI key a b out ia ib z:=⟨m,Nat.lt_of_le_of_ne h1 hs,h2,hr⟩
  wpS_two (wpS_pure ⟨sg,.inr ⟨rfl,l.to hz⟩⟩) (wpS_pure ⟨sg,rfl,l⟩)
theorem wpS_lo0 {x y:Nat}{d:Lo0} (C:MC s.heap key a b) (hlast:∀ x∈a.toList.drop (a.size-1),∀ y∈b.toList,KLt key y x) (ok:OkS f st0) (h:LoY key a b st0 (x+y) d.1 d.2.1 d.2.2.1 d.2.2.2.1 st):wpS (model prog w) A E s (lo0 a b mg d) (lo0P key a b st0 x (x+(y+1))) st:=by
 obtain⟨r,out,ia,ib,ac,bc⟩:=d
 refine and3 h fun sg _ l=>ex1_1 (at_some l.hb) fun u hu=>ex1_1 (at_some (xs:=a) (i:=ia) (Nat.lt_of_succ_lt l.ha)) fun z hz=>?_
 have hum:=List.mem_of_getElem? (at_list hu)
 have hzm:=List.mem_of_getElem? (at_list hz)
 refine wpS_bind (wpS_elem hu (wpS_bind (wpS_elem hz (wpS_bind (wpS_lt (sg.ok ok) (C.qb u hum) (C.qa z hzm) ?_)))))
 cases hl:qblt (key u) (key z) with
 | true=>exact wpS_bind (wpS_elem hu (wpS_lo0b C sg (l.inv.oneB C.sb hu fun q hq=>(drop_head (at_list hz) C.sa hq).elim (fun e=>e▸hl) (KLt.trans (show KLt key u z from hl))) l.ha l.hb (Nat.le_add_right _ _) (Nat.succ_le_succ l.run)))
 | false=>
  have hzu:KLt key z u:=not_lt_gt hl (Ne.symm (C.dist z hzm u hum))
  exact wpS_bind (wpS_elem hz (wpS_lo0a C hlast sg (l.inv.oneA C.sa hz fun q hq=>(drop_head (at_list hu) C.sb hq).elim (fun e=>e▸hzu) hzu.trans) l.ha l.hb (Nat.le_add_right _ _) (Nat.le_trans (Nat.succ_le_succ l.run) (Nat.le_of_eq (Nat.succ_add ia ib).symm))))
theorem wpS_lo1 {x y:Nat}{d:LoSt} (C:MC s.heap key a b) (hlast:∀ x∈a.toList.drop (a.size-1),∀ y∈b.toList,KLt key y x) (ok:OkS f st0) (h:LoY key a b st0 (x+y) d.1 d.2.1 d.2.2.1 d.2.2.2.1 st):wpS (model prog w) A E s (lo1 a b d) (StP (fun c=>LoD key a b st0 (x+1) c.1 c.2.1 c.2.2.1 c.2.2.2.1) fun c=>LoY key a b st0 (x+(y+1)) c.1 c.2.1 c.2.2.1 c.2.2.2.1) st:=by
 have k:∀ mg,wpS (model prog w) A E s (loP1 a b d.2.1 d.2.2.1 d.2.2.2.1 mg d.2.2.2.2.2.1 d.2.2.2.2.2.2) (StP (fun c=>LoD key a b st0 (x+1) c.1 c.2.1 c.2.2.1 c.2.2.2.1) fun c=>LoY key a b st0 (x+(y+1)) c.1 c.2.1 c.2.2.1 c.2.2.2.1) st:=fun mg=>
  wpS_mono (wpS_loP1 C hlast ok h.1 h.2.2) fun r st' hr=>by
   cases r with
   | done c=>exact⟨hr.1,hr.2.imp id fun q=>⟨q.1,q.2.to (Nat.succ_le_succ (Nat.le_add_right x y))⟩⟩
   | yield c=>exact hr
 exact wpS_two (k _) (k _)
noncomputable abbrev lo2P (key:Keyed→Quad) (a b:Array Keyed) (st:SortSt) (x:Nat):ForInStep Lo1→SortSt→Prop:=StP (fun c=>LoF key a b st c.1) fun c=>LoY key a b st x c.1 c.2.1 c.2.2.1 c.2.2.2.1
theorem wpS_loE {d:LoSt} (h:LoD key a b st0 x0 d.1 d.2.1 d.2.2.1 d.2.2.2.1 st):wpS (model prog w) A E s (loE d) (lo2P key a b st0 x0) st:=by
 obtain⟨r,out,ia,ib,q⟩:=d
 rcases h with ⟨sg,⟨v,rfl,fi⟩ | ⟨rfl,l⟩⟩
 · exact wpS_pure ⟨sg,v,rfl,fi⟩
 · refine wpS_bind ?_
   rw[setMinGallop'_eq]
   exact wpS_modify (wpS_pure ⟨sg.trans ⟨rfl,rfl,rfl,rfl⟩,rfl,l⟩)
theorem wpS_loM {x:Nat}{d:Lo0} (C:MC s.heap key a b) (hlast:∀ x∈a.toList.drop (a.size-1),∀ y∈b.toList,KLt key y x) (ok:OkS f st0) (h:LoD key a b st0 x d.1 d.2.1 d.2.2.1 d.2.2.2.1 st):wpS (model prog w) A E s (loM a b mg d) (lo2P key a b st0 (x+1)) st:=by
 obtain⟨r,out,ia,ib,q⟩:=d
 rcases h with ⟨sg,⟨v,rfl,fi⟩ | ⟨rfl,l⟩⟩
 · exact wpS_pure ⟨sg,v,rfl,fi⟩
 · exact wpS_bind (wpS_lift (wpAny_rule ⟨rfl,wpS_bind (wpS_mono (wpS_forRange (I:=fun y d=>LoY key a b st0 (x+y) d.1 d.2.1 d.2.2.1 d.2.2.2.1) (Q:=fun d=>LoD key a b st0 (x+1) d.1 d.2.1 d.2.2.1 d.2.2.2.1) (fun y d st' _ _ h=>wpS_lo1 C hlast ok h) (fun d st' h=>h.2.2.no.elim) ⟨sg,rfl,l⟩) fun d st' h=>wpS_loE h)⟩))
theorem wpS_lo2 {x:Nat}{c:Lo1} (C:MC s.heap key a b) (hlast:∀ x∈a.toList.drop (a.size-1),∀ y∈b.toList,KLt key y x) (ok:OkS f st0) (h:LoY key a b st0 x c.1 c.2.1 c.2.2.1 c.2.2.2.1 st):wpS (model prog w) A E s (lo2 a b c) (lo2P key a b st0 (x+1)) st:=
 wpS_bind (wpS_mono (wpS_forRange (I:=fun y d=>LoY key a b st0 (x+y) d.1 d.2.1 d.2.2.1 d.2.2.2.1) (Q:=fun d=>LoD key a b st0 x d.1 d.2.1 d.2.2.1 d.2.2.2.1) (fun y d st' _ _ h=>wpS_lo0 C hlast ok h) (fun d st' h=>h.2.2.no.elim) ⟨h.1,rfl,h.2.2⟩) fun d st' h=>wpS_loM C hlast ok h)
theorem wpS_mergeLo (C:MC s.heap key a b) (hlast:∀ x∈a.toList.drop (a.size-1),∀ y∈b.toList,KLt key y x) (hfirst:∀ y,b[0]?=some y→∀ x∈a.toList,KLt key y x) (ok:OkS f st) (ha:0<a.size) (hb:0<b.size) {Q:Array Keyed→SortSt→Prop}
 (h:∀ v st',SG st st'→Fin key a.toList b.toList v.toList→Q v st'):wpS (model prog w) A E s (mergeLo' a b) Q st:=by
 rw[mergeLo'_eq]
 refine ex1_1 (at_some hb) fun y hy=>wpS_bind (wpS_lift (wpAny_rule ⟨rfl,wpS_bind (wpS_elem hy ?_)⟩))
 have m0:MInv key a.toList b.toList (#[]:Array Keyed).toList 0 0:=⟨Nat.zero_le _,Nat.zero_le _,.nil,.nil,(fun _ h=>nomatch h),fun _ h=>nomatch h⟩
 have m1:MInv key a.toList b.toList (#[y]:Array Keyed).toList 0 1:=m0.oneB C.sb hy fun x hx=>hfirst y hy x hx
 refine wpS_beq (fun hs=>wpS_pure (h _ st (SG.refl _) (m1.endB C.sa hs))) fun hs=>wpS_beq (fun hs1=>wpS_pure (h _ st (SG.refl _) (m1.endA C.sa C.sb hlast hs1))) fun hs1=>wpS_bind (wpS_get (wpS_bind (wpS_mono (wpS_forRange (I:=fun x c=>LoY key a b st x c.1 c.2.1 c.2.2.1 c.2.2.2.1) (Q:=fun c=>LoF key a b st c.1) (fun x c st' _ _ h=>wpS_lo2 C hlast ok h)
  (fun c st' h=>((h.2.2.to (Nat.le_of_eq (Nat.zero_add _))).no (x0:=0)).elim) ⟨SG.refl _,rfl,m1,Nat.lt_of_le_of_ne ha hs1,Nat.lt_of_le_of_ne hb hs,Nat.zero_le _⟩) ?_)))
 rintro⟨r,q⟩ st' ⟨sg,v,rfl,fi⟩
 exact wpS_pure (h v st' sg fi)
end
noncomputable abbrev HiSt:=Option (Array Keyed)×Nat×Nat×Array Keyed×Nat×Nat×Nat
noncomputable def hiP3 (a b:Array Keyed) (na nb:Nat) (out:Array Keyed) (mg ac bc:Nat):StateT SortSt Sem (ForInStep HiSt):=do
 let x ← elem' a (na-1)
 if na-1 == 0 then pure (.done (some (a.extract 0 (na-1)++b.extract 0 nb++(out.push x).reverse),na-1,nb,out.push x,mg,ac,bc))
 else if (decide (ac<7) && decide (bc<7))=true then pure (.done (none,na-1,nb,out.push x,mg,ac,bc)) else pure (.yield (none,na-1,nb,out.push x,mg,ac,bc))
noncomputable def hiP2 (a b:Array Keyed) (na nb:Nat) (out:Array Keyed) (mg ac bc:Nat):StateT SortSt Sem (ForInStep HiSt):=do
 let y ← elem' b (nb-1)
 if nb-1 == 1 then pure (.done (some (b.extract 0 (nb-1)++a.extract 0 na++(out.push y).reverse),na,nb-1,out.push y,mg,ac,bc))
 else do
  let x ← elem' a (na-1)
  let r ← gallop' true x b 0 (nb-1) (nb-1-1)
  match r with
  | some at_=>(if nb-1-at_>0 then(if at_ == 1 then pure (.done (some (b.extract 0 at_++a.extract 0 na++(out.push y++(b.extract at_ (nb-1)).reverse).reverse),na,at_,out.push y++(b.extract at_ (nb-1)).reverse,mg,ac,nb-1-at_))
   else(if at_ == 0 then pure (.done (some (a.extract 0 na++b.extract 0 at_++(out.push y++(b.extract at_ (nb-1)).reverse).reverse),na,at_,out.push y++(b.extract at_ (nb-1)).reverse,mg,ac,nb-1-at_))
   else hiP3 a b na at_ (out.push y++(b.extract at_ (nb-1)).reverse) mg ac (nb-1-at_)))
   else hiP3 a b na (nb-1) (out.push y) mg ac (nb-1-at_))
  | _=>pure (.done (some (a.extract 0 na++b.extract 0 (nb-1)++(out.push y).reverse),na,nb-1,out.push y,mg,ac,bc))
noncomputable def hiP1 (a b:Array Keyed) (na nb:Nat) (out:Array Keyed) (mg ac bc:Nat):StateT SortSt Sem (ForInStep HiSt):=do
 setMinGallop' mg
 let y ← elem' b (nb-1)
 let r ← gallop' false y a 0 na (na-1)
 match r with
 | some at_=>(if na-at_>0 then(if at_ == 0 then pure (.done (some (a.extract 0 at_++b.extract 0 nb++(out++(a.extract at_ na).reverse).reverse),at_,nb,out++(a.extract at_ na).reverse,mg,na-at_,bc))
  else hiP2 a b at_ nb (out++(a.extract at_ na).reverse) mg (na-at_) bc)
  else hiP2 a b na nb out mg (na-at_) bc)
 | _=>pure (.done (some (a.extract 0 na++b.extract 0 nb++out.reverse),na,nb,out,mg,ac,bc))
noncomputable abbrev Hi0:=Option (Array Keyed)×Nat×Nat×Array Keyed×Nat×Nat
noncomputable abbrev Hi1:=Option (Array Keyed)×Nat×Nat×Array Keyed×Nat
noncomputable def hi0a (a b:Array Keyed) (mg na nb:Nat) (out:Array Keyed) (ac bc:Nat):StateT SortSt Sem (ForInStep Hi0):=
 if na == 0 then pure (.done (some (a.extract 0 na++b.extract 0 nb++out.reverse),na,nb,out,ac,bc))
 else if ac≥mg then pure (.done (none,na,nb,out,ac,bc)) else pure (.yield (none,na,nb,out,ac,bc))
noncomputable def hi0b (a b:Array Keyed) (mg na nb:Nat) (out:Array Keyed) (ac bc:Nat):StateT SortSt Sem (ForInStep Hi0):=
 if nb == 1 then pure (.done (some (b.extract 0 nb++a.extract 0 na++out.reverse),na,nb,out,ac,bc))
 else if bc≥mg then pure (.done (none,na,nb,out,ac,bc)) else pure (.yield (none,na,nb,out,ac,bc))
noncomputable def hi0 (a b:Array Keyed) (mg:Nat) (d:Hi0):StateT SortSt Sem (ForInStep Hi0):=do
 let y ← elem' b (d.2.2.1-1)
 let x ← elem' a (d.2.1-1)
 let w ← lt' y x
 match w with
 | some w=>(if w then elem' a (d.2.1-1) >>= fun x=>hi0a a b mg (d.2.1-1) d.2.2.1 (d.2.2.2.1.push x) (d.2.2.2.2.1+1) 0
  else elem' b (d.2.2.1-1) >>= fun y=>hi0b a b mg d.2.1 (d.2.2.1-1) (d.2.2.2.1.push y) 0 (d.2.2.2.2.2+1))
 | _=>pure (.done (some (a.extract 0 d.2.1++b.extract 0 d.2.2.1++d.2.2.2.1.reverse),d.2.1,d.2.2.1,d.2.2.2.1,d.2.2.2.2.1,d.2.2.2.2.2))
noncomputable def hi1 (a b:Array Keyed) (d:HiSt):StateT SortSt Sem (ForInStep HiSt):=
 if d.2.2.2.2.1>1 then hiP1 a b d.2.1 d.2.2.1 d.2.2.2.1 (d.2.2.2.2.1-1) d.2.2.2.2.2.1 d.2.2.2.2.2.2 else hiP1 a b d.2.1 d.2.2.1 d.2.2.2.1 d.2.2.2.2.1 d.2.2.2.2.2.1 d.2.2.2.2.2.2
noncomputable def hiE (s:HiSt):StateT SortSt Sem (ForInStep Hi1):=match s.1 with
 | some r=>pure (.done (some r,s.2.1,s.2.2.1,s.2.2.2.1,s.2.2.2.2.1))
 | none=>do
  setMinGallop' (s.2.2.2.2.1+1)
  pure (.yield (none,s.2.1,s.2.2.1,s.2.2.2.1,s.2.2.2.2.1+1))
noncomputable def hiM (a b:Array Keyed) (mg:Nat) (s:Hi0):StateT SortSt Sem (ForInStep Hi1):=match s.1 with
 | some r=>pure (.done (some r,s.2.1,s.2.2.1,s.2.2.2.1,mg))
 | none=>do
  rule "list.sort.gallop"
  let s ← forIn [0:a.size+b.size] (none,s.2.1,s.2.2.1,s.2.2.2.1,mg+1,s.2.2.2.2.1,s.2.2.2.2.2) fun _ d=>hi1 a b d
  hiE s
noncomputable def hi2 (a b:Array Keyed) (c:Hi1):StateT SortSt Sem (ForInStep Hi1):=do
 let s ← forIn [0:a.size+b.size] (none,c.2.1,c.2.2.1,c.2.2.2.1,0,0) fun _ d=>hi0 a b c.2.2.2.2 d
 hiM a b c.2.2.2.2 s
noncomputable def hiR (s:Hi1):StateT SortSt Sem (Array Keyed):=match s.1 with
 | some r=>pure r
 | none=>unsupported "internal:list.sort.merge-bound"
noncomputable def hi3 (a b out:Array Keyed):StateT SortSt Sem (Array Keyed):=
 if a.size-1 == 0 then pure (a.extract 0 (a.size-1)++b.extract 0 b.size++out.reverse)
 else if b.size == 1 then pure (b.extract 0 b.size++a.extract 0 (a.size-1)++out.reverse)
 else do
  let st ← get
  let s ← forIn [0:a.size+b.size] (none,a.size-1,b.size,out,gallopOf st) fun _ c=>hi2 a b c
  hiR s
theorem mergeHi'_eq (a b:Array Keyed):mergeHi' a b=(do
 rule "list.sort.merge-hi"
 let x ← elem' a (a.size-1)
 hi3 a b #[x]):=by kernel_rfl
structure HInv (key:Keyed→Quad) (A B T:List Keyed) (na nb:Nat):Prop where
 la:na≤A.length
 lb:nb≤B.length
 perm:T.Perm (A.drop na++B.drop nb)
 sorted:T.Pairwise (KLt key)
 lessA:∀ x∈A.take na,∀ y∈T,KLt key x y
 lessB:∀ x∈B.take nb,∀ y∈T,KLt key x y
section
variable {key:Keyed→Quad}{A B T:List Keyed}{na nb:Nat}
theorem drop_seg {α:Type}{l:List α}{n i:Nat} (hn:n≤l.length) (hi:i≤n):l.drop i=(l.take n).drop i++l.drop n:=by
 conv=>lhs; rw[← List.take_append_drop n l]
 rw[List.drop_append_of_le_length (by rw[List.length_take]; exact ω354 hi hn)]
theorem take_seg {α:Type}{l:List α}{n i:Nat} (hi:i≤n):l.take n=l.take i++(l.take n).drop i:=by
 conv=>lhs; rw[← List.take_append_drop i (l.take n)]
 rw[List.take_take,Nat.min_eq_left hi]
theorem HInv.takeA (m:HInv key A B T na nb) (sA:A.Pairwise (KLt key)) {i:Nat} (hi:i≤na) (h:∀ y∈(A.take na).drop i,∀ x∈B.take nb,KLt key x y):HInv key A B ((A.take na).drop i++T) i nb where
 la:=Nat.le_trans hi m.la
 lb:=m.lb
 perm:=by
  rw[drop_seg m.la hi,List.append_assoc]
  exact List.Perm.append_left _ m.perm
 sorted:=List.pairwise_append.mpr ⟨(sA.sublist (List.take_sublist _ _)).sublist (List.drop_sublist _ _),m.sorted,fun x hx y hy=>m.lessA x (List.mem_of_mem_drop hx) y hy⟩
 lessA:=fun x hx y hy=>by
  have hx':x∈A.take na:=by rw[take_seg hi]; exact List.mem_append_left _ hx
  rcases List.mem_append.mp hy with hy | hy
  · have:=sA.sublist (List.take_sublist na A)
    rw[take_seg hi] at this
    exact(List.pairwise_append.mp this).2.2 x hx y hy
  · exact m.lessA x hx' y hy
 lessB:=fun x hx y hy=>by
  rcases List.mem_append.mp hy with hy | hy
  · exact h y hy x hx
  · exact m.lessB x hx y hy
theorem HInv.symm (m:HInv key A B T na nb):HInv key B A T nb na:=⟨m.lb,m.la,m.perm.trans List.perm_append_comm,m.sorted,m.lessB,m.lessA⟩
theorem HInv.takeB (m:HInv key A B T na nb) (sB:B.Pairwise (KLt key)) {i:Nat} (hi:i≤nb) (h:∀ y∈(B.take nb).drop i,∀ x∈A.take na,KLt key x y):HInv key A B ((B.take nb).drop i++T) na i:=(m.symm.takeA sB hi h).symm
theorem HInv.doneA (m:HInv key A B T na nb) (sB:B.Pairwise (KLt key)) (h:na=0):Fin key A B (B.take nb++T):=by
 refine⟨?_,List.pairwise_append.mpr ⟨sB.sublist (List.take_sublist _ _),m.sorted,m.lessB⟩⟩
 have h1:=m.perm
 rw[h,List.drop_zero] at h1
 have h2:=(h1.append_left (B.take nb))
 refine h2.trans ?_
 refine(List.perm_append_comm_assoc _ _ _).trans ?_
 rw[List.take_append_drop]
theorem HInv.doneB (m:HInv key A B T na nb) (sA:A.Pairwise (KLt key)) (h:nb=0):Fin key A B (A.take na++T):=(m.symm.doneA sA h).symm
theorem HInv.thenB (m:HInv key A B T na nb) (sA:A.Pairwise (KLt key)) (sB:B.Pairwise (KLt key)) (h:∀ x∈B.take nb,∀ y∈A.take na,KLt key x y):Fin key A B (B.take nb++A.take na++T):=by
 have m2:=m.takeA sA (i:=0) (Nat.zero_le _) (fun y hy x hx=>h x hx y (by simpa using hy))
 rw[List.drop_zero] at m2
 rw[List.append_assoc]
 exact m2.doneA sB rfl
theorem last_seg {l:List Keyed}{n:Nat}{x:Keyed} (h:l[n]?=some x):(l.take (n+1)).drop n=[x]:=by
 rw[take_snoc h,List.drop_append_of_le_length (by rw[List.length_take]; have:=(List.getElem?_eq_some_iff.mp h).1; exact ω355 this),List.drop_eq_nil_of_le (by rw[List.length_take]; exact ω180)]
 rfl
theorem mem_take' {l:List Keyed}{n:Nat}{x:Keyed} (h:x∈l.take n):∃ j,j<n∧l[j]?=some x:=by
 obtain⟨j,hj⟩:=List.getElem?_of_mem h
 rw[List.getElem?_take] at hj
 split at hj
 · rename_i hlt; exact⟨j,hlt,hj⟩
 · cases hj
theorem mem_mid {l:List Keyed}{n i:Nat}{x:Keyed} (h:x∈(l.take n).drop i):∃ j,i≤j∧j<n∧l[j]?=some x:=by
 obtain⟨j,hj⟩:=List.getElem?_of_mem h
 rw[List.getElem?_drop,List.getElem?_take] at hj
 split at hj
 · rename_i hlt; exact⟨i+j,ω117,hlt,hj⟩
 · cases hj
theorem take_last {l:List Keyed}{n:Nat}{x y:Keyed} (h:l[n]?=some x) (s:l.Pairwise (KLt key)) (hy:y∈l.take (n+1)):y=x∨KLt key y x:=by
 obtain⟨j,hj,e⟩:=mem_take' hy
 by_cases z:j=n
 · subst z; rw[h] at e; cases e; exact .inl rfl
 · exact .inr (sorted_at s e h (ω251 hj z))
end
theorem ext_td {xs:Array Keyed} (i j:Nat):(xs.extract i j).toList=(xs.toList.take j).drop i:=by
 rw[Array.toList_extract,List.extract_eq_take_drop,List.drop_take]
theorem ext_0 {xs:Array Keyed} (j:Nat):(xs.extract 0 j).toList=xs.toList.take j:=by rw[ext_td,List.drop_zero]
theorem rev_push {out:Array Keyed}{x:Keyed}:(out.push x).toList.reverse=x::out.toList.reverse:=by simp
theorem rev_app {out seg:Array Keyed}:(out++seg.reverse).toList.reverse=seg.toList++out.toList.reverse:=by simp
structure HiI (key:Keyed→Quad) (a b:Array Keyed) (na nb:Nat) (out:Array Keyed) (x0:Nat):Prop where
 inv:HInv key a.toList b.toList out.toList.reverse na nb
 ha:1≤na
 hb:2≤nb
 run:x0+na+nb≤a.size+b.size
noncomputable def RStepH (key:Keyed→Quad) (a b:Array Keyed) (st0:SortSt) (x0:Nat) (r:ForInStep HiSt) (st':SortSt):Prop:=SG st0 st'∧match r with
 | .done c=>(∃ v,c.1=some v∧Fin key a.toList b.toList v.toList)∨(c.1=none∧HiI key a b c.2.1 c.2.2.1 c.2.2.2.1 x0)
 | .yield c=>c.1=none∧HiI key a b c.2.1 c.2.2.1 c.2.2.2.1 x0
section
variable {prog:Program}{w:World}{A:Around}{E:Value→Shared→Prop}{s:Shared}{key:Keyed→Quad}{a b out:Array Keyed}{na nb x0 mg ac bc:Nat}{st0 st:SortSt}{f:Bool}
theorem HInv.oneA {x:Keyed} (m:HInv key a.toList b.toList out.toList.reverse na nb) (sA:a.toList.Pairwise (KLt key)) (h1:1≤na) (hx:a[na-1]?=some x) (h:∀ z∈b.toList.take nb,KLt key z x):HInv key a.toList b.toList (out.push x).toList.reverse (na-1) nb:=by
 obtain⟨n,rfl⟩:∃ n,na=n+1:=⟨na-1,ω283 h1⟩
 have e:=last_seg (at_list hx)
 have m1:=m.takeA sA (i:=n) (Nat.le_succ n) (by rw[show n+1-1=n from rfl] at e; rw[e]; intro y hy z hz; rw[List.mem_singleton.mp hy]; exact h z hz)
 rw[show n+1-1=n from rfl] at e
 rw[e] at m1
 rw[rev_push]
 exact m1
theorem HInv.oneB {x:Keyed} (m:HInv key a.toList b.toList out.toList.reverse na nb) (sB:b.toList.Pairwise (KLt key)) (h1:1≤nb) (hx:b[nb-1]?=some x) (h:∀ z∈a.toList.take na,KLt key z x):HInv key a.toList b.toList (out.push x).toList.reverse na (nb-1):=(m.symm.oneA sB h1 hx h).symm
theorem HInv.endA (m:HInv key a.toList b.toList out.toList.reverse na nb) (sB:b.toList.Pairwise (KLt key)) (h:na=0):Fin key a.toList b.toList (a.extract 0 na++b.extract 0 nb++out.reverse).toList:=by
 rw[Array.toList_append,Array.toList_append,ext_0,ext_0,h,List.take_zero,Array.toList_reverse]
 exact m.doneA sB h
theorem HInv.endB (m:HInv key a.toList b.toList out.toList.reverse na nb) (sA:a.toList.Pairwise (KLt key)) (sB:b.toList.Pairwise (KLt key)) (hfirst:∀ x∈b.toList.take 1,∀ y∈a.toList,KLt key x y) (h:nb=1):Fin key a.toList b.toList (b.extract 0 nb++a.extract 0 na++out.reverse).toList:=by
 rw[Array.toList_append,Array.toList_append,ext_0,ext_0,Array.toList_reverse]
 exact m.thenB sA sB fun x hx y hy=>hfirst x (by rw[← h]; exact hx) y (List.mem_of_mem_take hy)
theorem HInv.last {x:Keyed} (sA:a.toList.Pairwise (KLt key)) (h1:1≤na) (hx:a[na-1]?=some x):∀ z∈a.toList.take na,z=x∨KLt key z x:=fun z hz=>take_last (n:=na-1) (at_list hx) sA (by rw[show na-1+1=na from Nat.sub_add_cancel h1]; exact hz)
theorem HInv.ls (m:HInv key a.toList b.toList out.toList.reverse na nb):na≤a.size∧nb≤b.size:=⟨Array.length_toList▸m.la,Array.length_toList▸m.lb⟩
theorem wpS_hiP3 (C:MC s.heap key a b) (ok:OkS f st0) (sg:SG st0 st) (m:HInv key a.toList b.toList out.toList.reverse na nb) (h1:1≤na) (h2:2≤nb) {x:Keyed} (hx:a[na-1]?=some x) (hlt:∀ z∈b.toList.take nb,KLt key z x) (hr:x0+(na-1)+nb≤a.size+b.size) :
 wpS (model prog w) A E s (hiP3 a b na nb out mg ac bc) (RStepH key a b st0 x0) st:=by
 refine wpS_bind (wpS_elem hx ?_)
 have m1:=m.oneA C.sa h1 hx hlt
 refine wpS_beq (fun hs=>wpS_pure ⟨sg,.inl ⟨_,rfl,m1.endA C.sb hs⟩⟩) fun hs=>?_
 have li:HiI key a b (na-1) nb (out.push x) x0:=⟨m1,ω239 hs,h2,hr⟩
 exact wpS_two (wpS_pure ⟨sg,.inr ⟨rfl,li⟩⟩) (wpS_pure ⟨sg,rfl,li⟩)
theorem wpS_hiP2 (C:MC s.heap key a b) (hfirst:∀ x∈b.toList.take 1,∀ y∈a.toList,KLt key x y) (ok:OkS f st0) (sg:SG st0 st) (m:HInv key a.toList b.toList out.toList.reverse na nb) (h1:1≤na) (h2:2≤nb) {y:Keyed} (hy:b[nb-1]?=some y) (hlt:∀ z∈a.toList.take na,KLt key z y) (hr:x0+na+nb≤a.size+b.size+1) :
 wpS (model prog w) A E s (hiP2 a b na nb out mg ac bc) (RStepH key a b st0 x0) st:=by
 refine wpS_bind (wpS_elem hy ?_)
 have hna:=m.ls.1
 have hnb:=m.ls.2
 have m1:=m.oneB C.sb (Nat.le_of_lt h2) hy hlt
 refine wpS_beq (fun hs=>wpS_pure ⟨sg,.inl ⟨_,rfl,m1.endB C.sa C.sb hfirst hs⟩⟩) fun hs=>?_
 · obtain⟨n,rfl⟩:∃ n,nb=n+1:=⟨nb-1,ω356 h2⟩
   rw[Nat.add_sub_cancel] at *
   obtain⟨x,hx⟩:=at_some (xs:=a) (i:=na-1) (ω357 h1 hna)
   have hxm:=List.mem_of_getElem? (at_list hx)
   have hxl:=HInv.last C.sa h1 hx
   refine wpS_bind (wpS_elem hx ?_)
   refine wpS_bind (wpS_gallop (fun i=>match b[i]? with | some z=>qblt (key z) (key x) | none=>false) (ω359 h2) ?_ ?_ ?_)
   · intro i hi R hR
     obtain⟨z,hz⟩:=at_some (xs:=b) (i:=i) (ω360 hi hnb)
     unfold bey
     refine wpS_bind (wpS_elem (by rw[Nat.zero_add]; exact hz) ?_)
     rw[if_pos rfl]
     have hR':=hR
     rw[hz] at hR'
     exact wpS_lt (sg.ok ok) (C.qb z (List.mem_of_getElem? (at_list hz))) (C.qa x hxm) hR'
   · intro i j hij hj hbj
     obtain⟨z,hz⟩:=at_some (xs:=b) (i:=i) (ω361 hnb hj hij)
     obtain⟨u,hu⟩:=at_some (xs:=b) (i:=j) (ω360 hj hnb)
     rw[hu] at hbj
     rw[hz]
     by_cases he:i=j
     · subst he; rw[hz] at hu; cases hu; exact hbj
     · exact qblt_trans (sorted_at C.sb (at_list hz) (at_list hu) (ω362 hij he)) hbj
   · intro k hk h3 h4
     dsimp only
     have hseg2:∀ z∈(b.toList.take n).drop k,KLt key x z:=fun z hz=>by
      obtain⟨j,hj1,hj2,e⟩:=mem_mid hz
      have:=h4 j hj1 hj2
      rw[list_at e] at this
      exact not_lt_gt this (Ne.symm (C.dist x hxm z (List.mem_of_getElem? e)))
     have m2:=m1.takeB C.sb (i:=k) hk (fun z hz u hu=>by
      rcases hxl u hu with rfl | h
      · exact hseg2 z hz
      · exact h.trans (hseg2 z hz))
     have hrest:∀ z∈b.toList.take k,KLt key z x:=fun z hz=>by
      obtain⟨j,hj,e⟩:=mem_take' hz
      have:=h3 j hj
      rw[list_at e] at this
      exact this
     by_cases hk0:n-k>0
     · rw[if_pos hk0]
       have e2:(out.push y++(b.extract k n).reverse).toList.reverse=(b.toList.take n).drop k++(out.push y).toList.reverse:=by rw[rev_app,ext_td]
       rw[← e2] at m2
       refine wpS_beq (fun hs1=>wpS_pure ⟨sg,.inl ⟨_,rfl,m2.endB C.sa C.sb hfirst hs1⟩⟩) fun hs1=>wpS_beq (fun hs2=>wpS_pure ⟨sg,.inl ⟨_,rfl,?_⟩⟩) fun hs2=>?_
       · have:=m2.doneB C.sa hs2
         rw[Array.toList_append,Array.toList_append,ext_0,ext_0,Array.toList_reverse,hs2,List.take_zero,List.append_nil]
         rw[hs2] at this
         exact this
       · exact wpS_hiP3 C ok sg m2 h1 (ω363 hs2 hs1) hx hrest (ω364 hr hk)
     · rw[if_neg hk0]
       have:k=n:=ω365 hk hk0
       subst this
       exact wpS_hiP3 C ok sg m1 h1 (ω366 h2 hs) hx hrest (ω367 hr)
theorem wpS_hiP1 (C:MC s.heap key a b) (hfirst:∀ x∈b.toList.take 1,∀ y∈a.toList,KLt key x y) (ok:OkS f st0) (sg:SG st0 st) (m:HiI key a b na nb out x0) :
 wpS (model prog w) A E s (hiP1 a b na nb out mg ac bc) (RStepH key a b st0 (x0+1)) st:=by
 obtain⟨m,h1,h2,hr⟩:=m
 have hna:=m.ls.1
 have hnb:=m.ls.2
 refine wpS_bind ?_
 rw[setMinGallop'_eq]
 refine wpS_modify ?_
 have sg':SG st0 (SortSt.mk' (kindOf st) (arrOf st) (pendingOf st) mg (failedOf st)):=sg.trans ⟨rfl,rfl,rfl,rfl⟩
 generalize SortSt.mk' (kindOf st) (arrOf st) (pendingOf st) mg (failedOf st)=st' at sg'
 obtain⟨y,hy⟩:=at_some (xs:=b) (i:=nb-1) (ω368 h2 hnb)
 have hym:=List.mem_of_getElem? (at_list hy)
 have hyl:=HInv.last C.sb (Nat.le_of_lt h2) hy
 refine wpS_bind (wpS_elem hy ?_)
 refine wpS_bind (wpS_gallop (fun i=>match a[i]? with | some z=>!(qblt (key y) (key z)) | none=>false) (ω370 h1) ?_ ?_ ?_)
 · intro i hi R hR
   obtain⟨z,hz⟩:=at_some (xs:=a) (i:=i) (ω115 hi hna)
   unfold bey
   refine wpS_bind (wpS_elem (by rw[Nat.zero_add]; exact hz) ?_)
   rw[if_neg (by decide)]
   have hR':=hR
   rw[hz] at hR'
   refine wpS_bind (wpS_lt (sg'.ok ok) (C.qb y hym) (C.qa z (List.mem_of_getElem? (at_list hz))) ?_)
   exact wpS_pure hR'
 · intro i j hij hj hbj
   obtain⟨z,hz⟩:=at_some (xs:=a) (i:=i) (ω371 hj hij hna)
   obtain⟨u,hu⟩:=at_some (xs:=a) (i:=j) (ω115 hj hna)
   rw[hu] at hbj
   rw[hz]
   by_cases he:i=j
   · subst he; rw[hz] at hu; cases hu; exact hbj
   · have hzu:=sorted_at C.sa (at_list hz) (at_list hu) (ω362 hij he)
     dsimp only
     cases q:qblt (key y) (key z) with
     | false=>rfl
     | true=>
      have:=qblt_trans q hzu
      have hbj':(!(qblt (key y) (key u)))=true:=hbj
      rw[this] at hbj'; cases hbj'
 · intro k hk h3 h4
   dsimp only
   have hseg2:∀ z∈(a.toList.take na).drop k,KLt key y z:=fun z hz=>by
    obtain⟨j,hj1,hj2,e⟩:=mem_mid hz
    have:=h4 j hj1 hj2
    rw[list_at e] at this
    simpa[KLt] using this
   have m2:=m.takeA C.sa (i:=k) hk (fun z hz u hu=>by
    rcases hyl u hu with rfl | h
    · exact hseg2 z hz
    · exact h.trans (hseg2 z hz))
   have hrest:∀ z∈a.toList.take k,KLt key z y:=fun z hz=>by
    obtain⟨j,hj,e⟩:=mem_take' hz
    have:=h3 j hj
    rw[list_at e] at this
    exact not_lt_gt (by simpa using this) (Ne.symm (C.dist z (List.mem_of_getElem? e) y hym))
   by_cases hk0:na-k>0
   · rw[if_pos hk0]
     have e2:(out++(a.extract k na).reverse).toList.reverse=(a.toList.take na).drop k++out.toList.reverse:=by rw[rev_app,ext_td]
     rw[← e2] at m2
     exact wpS_beq (fun hs1=>wpS_pure ⟨sg',.inl ⟨_,rfl,m2.endA C.sb hs1⟩⟩) fun hs1=>wpS_hiP2 C hfirst ok sg' m2 (ω239 hs1) h2 hy hrest (ω372 hr hk)
   · rw[if_neg hk0]
     have:k=na:=ω365 hk hk0
     subst this
     exact wpS_hiP2 C hfirst ok sg' m h1 h2 hy hrest (ω373 hr)
noncomputable def HiY (key:Keyed→Quad) (a b:Array Keyed) (st:SortSt) (x:Nat) (r:Option (Array Keyed)) (na nb:Nat) (out:Array Keyed) (st':SortSt):Prop:=SG st st'∧r=none∧HiI key a b na nb out x
noncomputable def HiD (key:Keyed→Quad) (a b:Array Keyed) (st:SortSt) (x:Nat) (r:Option (Array Keyed)) (na nb:Nat) (out:Array Keyed) (st':SortSt):Prop:=SG st st'∧((∃ v,r=some v∧Fin key a.toList b.toList v.toList)∨(r=none∧HiI key a b na nb out x))
theorem HiI.to {x y:Nat} (l:HiI key a b na nb out x) (h:y≤x):HiI key a b na nb out y:=⟨l.inv,l.ha,l.hb,Nat.le_trans (Nat.add_le_add_right (Nat.add_le_add_right h _) _) l.run⟩
theorem HiI.no (l:HiI key a b na nb out (x0+max 0 (a.size+b.size))):False:=by
 have h1:=l.ha; have h3:=l.run
 rw[Nat.zero_max] at h3
 exact Nat.lt_irrefl _ (Nat.lt_of_lt_of_le (Nat.lt_of_le_of_lt (Nat.le_add_left _ x0) (Nat.lt_add_of_pos_right h1)) (Nat.le_trans (Nat.le_add_right _ nb) h3))
noncomputable abbrev hi0P (key:Keyed→Quad) (a b:Array Keyed) (st:SortSt) (x z:Nat):ForInStep Hi0→SortSt→Prop:=StP (fun c=>HiD key a b st x c.1 c.2.1 c.2.2.1 c.2.2.2.1) fun c=>HiY key a b st z c.1 c.2.1 c.2.2.1 c.2.2.2.1
theorem wpS_hi0a {x z:Nat} (C:MC s.heap key a b) (sg:SG st0 st) (m:HInv key a.toList b.toList out.toList.reverse na nb) (h2:2≤nb) (hz:x≤z) (hr:z+na+nb≤a.size+b.size):wpS (model prog w) A E s (hi0a a b mg na nb out ac bc) (hi0P key a b st0 x z) st:=
 wpS_beq (fun hs=>wpS_pure ⟨sg,.inl ⟨_,rfl,m.endA C.sb hs⟩⟩) fun hs=>have l:HiI key a b na nb out z:=⟨m,ω239 hs,h2,hr⟩
  wpS_two (wpS_pure ⟨sg,.inr ⟨rfl,l.to hz⟩⟩) (wpS_pure ⟨sg,rfl,l⟩)
theorem wpS_hi0b {x z:Nat} (C:MC s.heap key a b) (hfirst:∀ x∈b.toList.take 1,∀ y∈a.toList,KLt key x y) (sg:SG st0 st) (m:HInv key a.toList b.toList out.toList.reverse na nb) (h1:1≤na) (h2:1≤nb) (hz:x≤z) (hr:z+na+nb≤a.size+b.size):wpS (model prog w) A E s (hi0b a b mg na nb out ac bc) (hi0P key a b st0 x z) st:=
 wpS_beq (fun hs=>wpS_pure ⟨sg,.inl ⟨_,rfl,m.endB C.sa C.sb hfirst hs⟩⟩) fun hs=>have l:HiI key a b na nb out z:=⟨m,h1,Nat.lt_of_le_of_ne h2 (Ne.symm hs),hr⟩
  wpS_two (wpS_pure ⟨sg,.inr ⟨rfl,l.to hz⟩⟩) (wpS_pure ⟨sg,rfl,l⟩)
theorem hiA {x y c d:Nat} (h:1≤c) (r:x+y+c+d≤na):x+(y+1)+(c-1)+d≤na:=by
 obtain⟨e,rfl⟩:∃ e,c=e+1:=⟨c-1,(Nat.sub_add_cancel h).symm⟩
 rw[Nat.add_sub_cancel,← Nat.add_assoc,Nat.add_right_comm (x+y) 1 e]
 exact r
theorem hiB {x y c d:Nat} (h:2≤d) (r:x+y+c+d≤na):x+(y+1)+c+(d-1)≤na:=by
 obtain⟨e,rfl⟩:∃ e,d=e+1:=⟨d-1,(Nat.sub_add_cancel (Nat.le_of_lt h)).symm⟩
 rw[Nat.add_sub_cancel,← Nat.add_assoc,Nat.add_right_comm (x+y) 1 c,Nat.add_right_comm _ 1 e]
 exact r
theorem wpS_hi0 {x y:Nat}{d:Hi0} (C:MC s.heap key a b) (hfirst:∀ x∈b.toList.take 1,∀ y∈a.toList,KLt key x y) (ok:OkS f st0) (h:HiY key a b st0 (x+y) d.1 d.2.1 d.2.2.1 d.2.2.2.1 st):wpS (model prog w) A E s (hi0 a b mg d) (hi0P key a b st0 x (x+(y+1))) st:=by
 obtain⟨r,na,nb,out,ac,bc⟩:=d
 obtain⟨sg,_,m,h1,h2,hr⟩:=h
 dsimp only at m h1 h2 hr
 refine ex1_1 (at_some (xs:=b) (i:=nb-1) (ω368 h2 m.ls.2)) fun u hu=>ex1_1 (at_some (xs:=a) (i:=na-1) (ω357 h1 m.ls.1)) fun z hz=>?_
 have hum:=List.mem_of_getElem? (at_list hu)
 have hzm:=List.mem_of_getElem? (at_list hz)
 refine wpS_bind (wpS_elem hu (wpS_bind (wpS_elem hz (wpS_bind (wpS_lt (sg.ok ok) (C.qb u hum) (C.qa z hzm) ?_)))))
 cases hl:qblt (key u) (key z) with
 | true=>exact wpS_bind (wpS_elem hz (wpS_hi0a C sg (m.oneA C.sa h1 hz fun q hq=>(HInv.last C.sb (Nat.le_of_lt h2) hu q hq).elim (fun e=>e▸hl) fun k=>k.trans (show KLt key u z from hl)) h2 (Nat.le_add_right _ _) (hiA h1 hr)))
 | false=>
  have hzu:KLt key z u:=not_lt_gt hl (Ne.symm (C.dist z hzm u hum))
  exact wpS_bind (wpS_elem hu (wpS_hi0b C hfirst sg (m.oneB C.sb (Nat.le_of_lt h2) hu fun q hq=>(HInv.last C.sa h1 hz q hq).elim (fun e=>e▸hzu) fun k=>k.trans hzu) h1 (Nat.le_sub_of_add_le h2) (Nat.le_add_right _ _) (hiB h2 hr)))
theorem wpS_hi1 {x y:Nat}{d:HiSt} (C:MC s.heap key a b) (hfirst:∀ x∈b.toList.take 1,∀ y∈a.toList,KLt key x y) (ok:OkS f st0) (h:HiY key a b st0 (x+y) d.1 d.2.1 d.2.2.1 d.2.2.2.1 st):wpS (model prog w) A E s (hi1 a b d) (StP (fun c=>HiD key a b st0 (x+1) c.1 c.2.1 c.2.2.1 c.2.2.2.1) fun c=>HiY key a b st0 (x+(y+1)) c.1 c.2.1 c.2.2.1 c.2.2.2.1) st:=by
 have k:∀ mg,wpS (model prog w) A E s (hiP1 a b d.2.1 d.2.2.1 d.2.2.2.1 mg d.2.2.2.2.2.1 d.2.2.2.2.2.2) (StP (fun c=>HiD key a b st0 (x+1) c.1 c.2.1 c.2.2.1 c.2.2.2.1) fun c=>HiY key a b st0 (x+(y+1)) c.1 c.2.1 c.2.2.1 c.2.2.2.1) st:=fun mg=>
  wpS_mono (wpS_hiP1 C hfirst ok h.1 h.2.2) fun r st' hr=>by
   cases r with
   | done c=>exact⟨hr.1,hr.2.imp id fun q=>⟨q.1,q.2.to (Nat.succ_le_succ (Nat.le_add_right x y))⟩⟩
   | yield c=>exact hr
 exact wpS_two (k _) (k _)
noncomputable abbrev hi2P (key:Keyed→Quad) (a b:Array Keyed) (st:SortSt) (x:Nat):ForInStep Hi1→SortSt→Prop:=StP (fun c=>LoF key a b st c.1) fun c=>HiY key a b st x c.1 c.2.1 c.2.2.1 c.2.2.2.1
theorem wpS_hiE {d:HiSt} (h:HiD key a b st0 x0 d.1 d.2.1 d.2.2.1 d.2.2.2.1 st):wpS (model prog w) A E s (hiE d) (hi2P key a b st0 x0) st:=by
 obtain⟨r,na,nb,out,q⟩:=d
 rcases h with ⟨sg,⟨v,rfl,fi⟩ | ⟨rfl,l⟩⟩
 · exact wpS_pure ⟨sg,v,rfl,fi⟩
 · refine wpS_bind ?_
   rw[setMinGallop'_eq]
   exact wpS_modify (wpS_pure ⟨sg.trans ⟨rfl,rfl,rfl,rfl⟩,rfl,l⟩)
theorem wpS_hiM {x:Nat}{d:Hi0} (C:MC s.heap key a b) (hfirst:∀ x∈b.toList.take 1,∀ y∈a.toList,KLt key x y) (ok:OkS f st0) (h:HiD key a b st0 x d.1 d.2.1 d.2.2.1 d.2.2.2.1 st):wpS (model prog w) A E s (hiM a b mg d) (hi2P key a b st0 (x+1)) st:=by
 obtain⟨r,na,nb,out,q⟩:=d
 rcases h with ⟨sg,⟨v,rfl,fi⟩ | ⟨rfl,l⟩⟩
 · exact wpS_pure ⟨sg,v,rfl,fi⟩
 · exact wpS_bind (wpS_lift (wpAny_rule ⟨rfl,wpS_bind (wpS_mono (wpS_forRange (I:=fun y d=>HiY key a b st0 (x+y) d.1 d.2.1 d.2.2.1 d.2.2.2.1) (Q:=fun d=>HiD key a b st0 (x+1) d.1 d.2.1 d.2.2.1 d.2.2.2.1) (fun y d st' _ _ h=>wpS_hi1 C hfirst ok h) (fun d st' h=>h.2.2.no.elim) ⟨sg,rfl,l⟩) fun d st' h=>wpS_hiE h)⟩))
theorem wpS_hi2 {x:Nat}{c:Hi1} (C:MC s.heap key a b) (hfirst:∀ x∈b.toList.take 1,∀ y∈a.toList,KLt key x y) (ok:OkS f st0) (h:HiY key a b st0 x c.1 c.2.1 c.2.2.1 c.2.2.2.1 st):wpS (model prog w) A E s (hi2 a b c) (hi2P key a b st0 (x+1)) st:=
 wpS_bind (wpS_mono (wpS_forRange (I:=fun y d=>HiY key a b st0 (x+y) d.1 d.2.1 d.2.2.1 d.2.2.2.1) (Q:=fun d=>HiD key a b st0 x d.1 d.2.1 d.2.2.1 d.2.2.2.1) (fun y d st' _ _ h=>wpS_hi0 C hfirst ok h) (fun d st' h=>h.2.2.no.elim) ⟨h.1,rfl,h.2.2⟩) fun d st' h=>wpS_hiM C hfirst ok h)
theorem wpS_mergeHi (C:MC s.heap key a b) (hlast:∀ x,a[a.size-1]?=some x→∀ y∈b.toList,KLt key y x) (hfirst:∀ x∈b.toList.take 1,∀ y∈a.toList,KLt key x y) (ok:OkS f st) (ha:0<a.size) (hb:0<b.size) {Q:Array Keyed→SortSt→Prop}
 (h:∀ v st',SG st st'→Fin key a.toList b.toList v.toList→Q v st'):wpS (model prog w) A E s (mergeHi' a b) Q st:=by
 rw[mergeHi'_eq]
 refine ex1_1 (at_some (xs:=a) (i:=a.size-1) (ω374 ha)) fun x hx=>wpS_bind (wpS_lift (wpAny_rule ⟨rfl,wpS_bind (wpS_elem hx ?_)⟩))
 have m0:HInv key a.toList b.toList (#[]:Array Keyed).toList.reverse a.size b.size:=⟨by simp,by simp,by simp,.nil,(fun _ _ _ h=>nomatch h),fun _ _ _ h=>nomatch h⟩
 have m1:HInv key a.toList b.toList (#[x]:Array Keyed).toList.reverse (a.size-1) b.size:=m0.oneA C.sa ha hx fun z hz=>hlast x hx z (List.mem_of_mem_take hz)
 refine wpS_beq (fun hs=>wpS_pure (h _ st (SG.refl _) (m1.endA C.sb hs))) fun hs=>wpS_beq (fun hs1=>wpS_pure (h _ st (SG.refl _) (m1.endB C.sa C.sb hfirst hs1))) fun hs1=>wpS_bind (wpS_get (wpS_bind (wpS_mono (wpS_forRange (I:=fun x c=>HiY key a b st x c.1 c.2.1 c.2.2.1 c.2.2.2.1) (Q:=fun c=>LoF key a b st c.1) (fun x c st' _ _ h=>wpS_hi2 C hfirst ok h)
  (fun c st' h=>((h.2.2.to (Nat.le_of_eq (Nat.zero_add _))).no (x0:=0)).elim) ⟨SG.refl _,rfl,m1,ω239 hs,Nat.lt_of_le_of_ne hb (Ne.symm hs1),(Nat.zero_add (a.size-1)).symm▸Nat.add_le_add_right (Nat.sub_le _ _) _⟩) ?_)))
 rintro⟨r,q⟩ st' ⟨sg,v,rfl,fi⟩
 exact wpS_pure (h v st' sg fi)
end
structure AB (f:Bool) (a₀:Array Keyed) (st:SortSt):Prop where
 perm:(arrOf st).Perm a₀
 ok:OkS f st
structure QArr (h:Heap) (key:Keyed→Quad) (a₀:Array Keyed):Prop where
 q:∀ x∈a₀.toList,IsQ h x.1 (key x)
 nd:(a₀.toList.map key).Nodup
noncomputable def SegS (key:Keyed→Quad) (xs:Array Keyed) (lo hi:Nat):Prop:=∀ i j x y,lo≤i→i<j→j<hi→xs[i]?=some x→xs[j]?=some y→KLt key x y
noncomputable def SegD (key:Keyed→Quad) (xs:Array Keyed) (lo hi:Nat):Prop:=∀ i j x y,lo≤i→i<j→j<hi→xs[i]?=some x→xs[j]?=some y→KLt key y x
noncomputable def SameOut (xs ys:Array Keyed) (lo hi:Nat):Prop:=∀ i,(i<lo∨hi≤i)→ys[i]?=xs[i]?
theorem SameOut.trans {xs ys zs:Array Keyed}{lo hi:Nat} (a:SameOut xs ys lo hi) (b:SameOut ys zs lo hi):SameOut xs zs lo hi:=fun i h=>(b i h).trans (a i h)
section
variable {h:Heap}{key:Keyed→Quad}{f:Bool}{a₀:Array Keyed}{st:SortSt}
theorem AB.size (b:AB f a₀ st):(arrOf st).size=a₀.size:=b.perm.size_eq
theorem AB.get (b:AB f a₀ st) (q:QArr h key a₀) {i:Nat} (hi:i<a₀.size):∃ x,(arrOf st)[i]?=some x∧IsQ h x.1 (key x):=by
 have hi':i<(arrOf st).size:=by rw[b.size]; exact hi
 refine⟨_,Array.getElem?_eq_getElem hi',q.q _ ?_⟩
 exact(Array.perm_iff_toList_perm.mp b.perm).mem_iff.mp (by simp)
theorem AB.ne (b:AB f a₀ st) (q:QArr h key a₀) {i j:Nat}{x y:Keyed} (hi:(arrOf st)[i]?=some x) (hj:(arrOf st)[j]?=some y) (n:i≠j):key x≠key y:=by
 have nd:((arrOf st).toList.map key).Nodup:=((Array.perm_iff_toList_perm.mp b.perm).map key).nodup_iff.mpr q.nd
 have h1:=at_list hi
 have h2:=at_list hj
 obtain⟨l1,e1⟩:=List.getElem?_eq_some_iff.mp h1
 obtain⟨l2,e2⟩:=List.getElem?_eq_some_iff.mp h2
 have nd':=List.pairwise_iff_getElem.mp nd
 intro z
 rcases Nat.lt_or_gt_of_ne n with hlt | hlt
 · have:=nd' i j (by simpa using l1) (by simpa using l2) hlt
   simp only[List.getElem_map] at this
   exact this (by rw[e1,e2]; exact z)
 · have:=nd' j i (by simpa using l2) (by simpa using l1) hlt
   simp only[List.getElem_map] at this
   exact this (by rw[e1,e2]; exact z.symm)
theorem AB.set (b:AB f a₀ st) {xs:Array Keyed} (p:xs.Perm (arrOf st)):AB f a₀ (setArr st xs):=⟨p.trans b.perm,⟨b.ok.kind,b.ok.failed⟩⟩
theorem SegS.ext {xs:Array Keyed}{lo hi:Nat} (s:SegS key xs lo hi) (h1:lo<hi) {x y:Keyed} (hx:xs[hi-1]?=some x) (hy:xs[hi]?=some y) (l:KLt key x y):SegS key xs lo (hi+1):=fun i j u v g1 g2 g3 hu hv=>by
 by_cases hj:j=hi
 · subst hj
   rw[hy] at hv; cases hv
   by_cases hi':i=j-1
   · subst hi'; rw[hx] at hu; cases hu; exact l
   · exact(s i (j-1) u x g1 (ω388 g2 hi') (ω389 g2) hu hx).trans l
 · exact s i j u v g1 g2 (ω251 g3 hj) hu hv
theorem SegD.ext {xs:Array Keyed}{lo hi:Nat} (s:SegD key xs lo hi) (h1:lo<hi) {x y:Keyed} (hx:xs[hi-1]?=some x) (hy:xs[hi]?=some y) (l:KLt key y x):SegD key xs lo (hi+1):=fun i j u v g1 g2 g3 hu hv=>by
 by_cases hj:j=hi
 · subst hj
   rw[hy] at hv; cases hv
   by_cases hi':i=j-1
   · subst hi'; rw[hx] at hu; cases hu; exact l
   · exact l.trans (s i (j-1) u x g1 (ω388 g2 hi') (ω389 g2) hu hx)
 · exact s i j u v g1 g2 (ω251 g3 hj) hu hv
theorem SegS.one {xs:Array Keyed}{lo:Nat}:SegS key xs lo (lo+1):=fun i j x y h1 h2 h3=>(ω390 h2 h3 h1).elim
theorem SegD.one {xs:Array Keyed}{lo:Nat}:SegD key xs lo (lo+1):=fun i j x y h1 h2 h3=>(ω390 h2 h3 h1).elim
end
noncomputable def ascL (lo n0 nrem:Nat):StateT SortSt Sem (Option (Option Nat)×Nat):=
 forIn [n0:nrem] ((none,n0):Option (Option Nat)×Nat) fun _ c=>do
  let x ← ltAt' (lo+c.2) (lo+c.2-1)
  match x with
  | some smaller=>if smaller=true then pure (.done (none,c.2)) else pure (.yield (none,c.2+1))
  | _=>pure (.done (some none,c.2))
section
variable {prog:Program}{w:World}{A:Around}{E:Value→Shared→Prop}{s:Shared}{key:Keyed→Quad}{f:Bool}{a₀:Array Keyed}{st:SortSt}
theorem wpS_asc (q:QArr s.heap key a₀) (ab:AB f a₀ st) {lo n0 nrem:Nat} (h1:1≤n0) (h2:n0≤nrem) (h3:lo+nrem≤a₀.size) (hs:SegS key (arrOf st) lo (lo+n0)) {Q:Option (Option Nat)×Nat→SortSt→Prop}
 (h:∀ n,n0≤n→n≤nrem→SegS key (arrOf st) lo (lo+n)→(n=nrem∨∀ x y,(arrOf st)[lo+n-1]?=some x→(arrOf st)[lo+n]?=some y→KLt key y x)→Q (none,n) st):wpS (model prog w) A E s (ascL lo n0 nrem) Q st:=by
 unfold ascL
 refine wpS_forRange (I:=fun x c st'=>st'=st∧c=(none,x)∧SegS key (arrOf st) lo (lo+x)) ?step ?fin ⟨rfl,rfl,hs⟩
 case fin=>
  rintro c st' ⟨rfl,rfl,hs'⟩
  rw[Nat.max_eq_right h2] at hs' ⊢
  exact h nrem h2 (Nat.le_refl _) hs' (.inl rfl)
 case step=>
  rintro x c st' hax hxn ⟨rfl,rfl,hs'⟩
  dsimp only
  obtain⟨u,hu,qu⟩:=ab.get q (i:=lo+x) (ω392 h3 hxn)
  obtain⟨v,hv,qv⟩:=ab.get q (i:=lo+x-1) (ω393 h3 hxn)
  refine wpS_bind (wpS_ltAt2 ab.ok hu hv qu qv ?_)
  dsimp only
  cases hl:qblt (key u) (key v) with
  | true=>
   rw[if_pos rfl]
   refine wpS_pure (h x hax (ω89 hxn) hs' (.inr fun a b ha hb=>?_))
   rw[hv] at ha; rw[hu] at hb; cases ha; cases hb
   exact hl
  | false=>
   rw[if_neg (by decide)]
   exact wpS_pure ⟨rfl,rfl,hs'.ext (ω394 h1 hax) hv hu (not_lt_gt hl (ab.ne q hu hv (ω395 h1 hax)))⟩
theorem wpS_countRunX (q:QArr s.heap key a₀) (ab:AB f a₀ st) {lo nrem:Nat} (h1:1≤nrem) (h3:lo+nrem≤a₀.size) {Q:Option Nat→SortSt→Prop}
 (h:∀ n st',AB f a₀ st'→pendingOf st'=pendingOf st→1≤n→n≤nrem→SegS key (arrOf st') lo (lo+n)→SameOut (arrOf st) (arrOf st') lo (lo+nrem)→Q (some n) st'):wpS (model prog w) A E s (countRun' lo nrem) Q st:=by
 rw[countRun'_eq]
 dsimp only
 refine wpS_bind (wpS_asc q ab (Nat.le_refl 1) h1 h3 SegS.one fun n hn1 hn2 hsn hor=>?_)
 dsimp only
 by_cases hnn:n=nrem
 · rw[if_pos (by simpa using hnn)]
   exact wpS_pure (h n st ab rfl hn1 hn2 hsn fun _ _=>rfl)
 · rw[if_neg (by simpa using hnn)]
   have hlt:=hor.resolve_left hnn
   by_cases hgt:n>1
   · rw[if_pos hgt]
     obtain⟨u,hu,qu⟩:=ab.get q (i:=lo) (ω396 h1 h3)
     obtain⟨v,hv,qv⟩:=ab.get q (i:=lo+n-1) (ω397 hgt h3 hn2)
     refine wpS_bind (wpS_ltAt2 ab.ok hu hv qu qv ?_)
     dsimp only
     have:qblt (key u) (key v)=true:=hsn lo (lo+n-1) u v (Nat.le_refl _) (ω398 hgt) (ω399 hgt) hu hv
     rw[if_pos this]
     exact wpS_pure (h n st ab rfl hn1 hn2 hsn fun _ _=>rfl)
   · rw[if_neg hgt]
     have hn:n=1:=ω400 hn1 hgt
     subst hn
     refine wpS_bind (wpS_lift (wpAny_rule ⟨rfl,?_⟩))
     refine wpS_bind (wpS_mono (wpS_forRange (I:=fun x c st'=>st'=st∧c=(none,x,0)∧SegD key (arrOf st) lo (lo+x))
      (Q:=fun c st'=>st'=st∧∃ x,c=(none,x,0)∧2≤x∧x≤nrem∧SegD key (arrOf st) lo (lo+x)) ?step ?fin ⟨rfl,rfl,?init⟩) ?post)
     case init=>
      obtain⟨u,hu,_⟩:=ab.get q (i:=lo) (ω396 h1 h3)
      obtain⟨v,hv,_⟩:=ab.get q (i:=lo+1) (ω401 h1 h3 hnn)
      exact(SegD.one (key:=key) (xs:=arrOf st) (lo:=lo)).ext ω112 hu hv (hlt u v hu hv)
     case fin=>
      rintro c st' ⟨rfl,rfl,hd⟩
      rw[Nat.max_eq_right (show 1+1≤nrem from Nat.lt_of_le_of_ne h1 hnn)] at hd ⊢
      exact⟨rfl,nrem,rfl,ω403 h1 hnn,Nat.le_refl _,hd⟩
     case step=>
      rintro x c st' hax hxn ⟨rfl,rfl,hd⟩
      dsimp only
      obtain⟨u,hu,qu⟩:=ab.get q (i:=lo+x) (ω392 h3 hxn)
      obtain⟨v,hv,qv⟩:=ab.get q (i:=lo+x-1) (ω393 h3 hxn)
      refine wpS_bind (wpS_ltAt2 ab.ok hu hv qu qv ?_)
      dsimp only
      cases hl:qblt (key u) (key v) with
      | true=>
       rw[if_pos rfl,if_neg (by decide)]
       exact wpS_pure ⟨rfl,rfl,hd.ext (ω404 hax) hv hu hl⟩
      | false=>
       rw[if_neg (by decide)]
       refine wpS_bind (wpS_ltAt2 ab.ok hv hu qv qu ?_)
       dsimp only
       rw[if_pos (show qblt (key v) (key u)=true from not_lt_gt hl (ab.ne q hu hv (ω405 hax)))]
       exact wpS_pure ⟨rfl,x,rfl,by omega,ω89 hxn,hd⟩
     case post=>
      rintro c st' ⟨rfl,x,rfl,g1,g2,hd⟩
      dsimp only
      rw[if_neg (by decide)]
      have hsz:lo+x≤(arrOf st').size:=by rw[ab.size]; exact ω406 h3 g2
      refine wpS_bind (wpS_reverse ?_)
      have ab2:AB f a₀ (setArr st' (mirror (arrOf st') lo (lo+x) ((lo+x-lo) / 2))):=ab.set (mirror_perm _ _ _ _)
      have gm:=fun k=>getElem?_mirror_all (i:=lo) hsz k
      have hs2:SegS key (mirror (arrOf st') lo (lo+x) ((lo+x-lo) / 2)) lo (lo+x):=fun i j u v k1 k2 k3 hu hv=>by
       rw[gm,if_pos ⟨k1,Nat.lt_trans k2 k3⟩] at hu
       rw[gm,if_pos ⟨Nat.le_trans k1 (Nat.le_of_lt k2),k3⟩] at hv
       exact hd _ _ v u (ω409 k3) (ω410 k2 k3) (ω411 k3 k1) hv hu
      refine wpS_bind (wpS_asc q ab2 (ω412 g1) g2 h3 hs2 fun n hn1 hn2 hsn _=>wpS_pure (h n _ ab2 rfl (ω413 g1 hn1) hn2 hsn fun i hi=>?_))
      show(mirror (arrOf st') lo (lo+x) ((lo+x-lo) / 2))[i]? = _
      rw[gm,if_neg (ω414 hi g2)]
end
section
variable {prog:Program}{w:World}{A:Around}{E:Value→Shared→Prop}{s:Shared}{key:Keyed→Quad}{f:Bool}{a₀:Array Keyed}{st:SortSt}
theorem wpS_binX (q:QArr s.heap key a₀) (ab:AB f a₀ st) {lo n ok:Nat} (h1:1≤ok) (h2:ok≤n) (h3:lo+n≤a₀.size) (hs:SegS key (arrOf st) lo (lo+ok)) {Q:Bool→SortSt→Prop}
 (h:∀ st',AB f a₀ st'→pendingOf st'=pendingOf st→SegS key (arrOf st') lo (lo+n)→SameOut (arrOf st) (arrOf st') lo (lo+n)→Q true st'):wpS (model prog w) A E s (binarySort' lo n ok) Q st:=by
 rw[binarySort'_eq]
 refine wpS_bind (wpS_mono (wpS_forRange (I:=fun k c st'=>c=(none,())∧AB f a₀ st'∧pendingOf st'=pendingOf st∧SegS key (arrOf st') lo (lo+k)∧SameOut (arrOf st) (arrOf st') lo (lo+n))
  (Q:=fun c st'=>c=(none,())∧AB f a₀ st'∧pendingOf st'=pendingOf st∧SegS key (arrOf st') lo (lo+n)∧SameOut (arrOf st) (arrOf st') lo (lo+n)) ?step ?fin ?init) ?post)
 case post=>
  rintro c st' ⟨rfl,ab',hp,hs',so⟩
  exact wpS_pure (h st' ab' hp hs' so)
 case init=>
  rw[show max ok 1=ok by exact ω415 h1]
  exact⟨rfl,ab,rfl,hs,fun _ _=>rfl⟩
 case fin=>
  rintro c st' ⟨hc,ab',hp,hs',so⟩
  rw[show max (max ok 1) n=n by exact ω416 h1 h2] at hs'
  exact⟨hc,ab',hp,hs',so⟩
 case step=>
  rintro k c st' hak hkn ⟨rfl,ab',hp,hs',so⟩
  obtain⟨u,hu,qu⟩:=ab'.get q (i:=lo+k) (ω392 h3 hkn)
  refine wpS_bind (wpS_mono (wpS_forRange (I:=fun x c st''=>st''=st'∧∃ l r,c=(none,l,r)∧l≤r∧r≤k∧r-l≤k-x∧
   (∀ i v,i<l→(arrOf st')[lo+i]?=some v→KLt key v u)∧(∀ i v,r≤i→i<k→(arrOf st')[lo+i]?=some v→KLt key u v))
   (Q:=fun c st''=>st''=st'∧∃ l r,c=(none,l,r)∧l≤k∧
    (∀ i v,i<l→(arrOf st')[lo+i]?=some v→KLt key v u)∧(∀ i v,l≤i→i<k→(arrOf st')[lo+i]?=some v→KLt key u v)) ?istep ?ifin ?iinit) ?ipost)
  case iinit=>exact⟨rfl,0,k,rfl,ω50,ω417,ω418,fun i v hi=>absurd hi (Nat.not_lt_zero _),fun i v h1 h2=>(ω419 h2 h1).elim⟩
  case ifin=>
   rintro c st'' ⟨rfl,l,r,rfl,hlr,hrk,hm,hlo,hhi⟩
   have:l=r:=ω292 hm hlr
   subst this
   exact⟨rfl,l,l,rfl,hrk,hlo,hhi⟩
  case istep=>
   rintro x c st'' _ hxk ⟨rfl,l,r,rfl,hlr,hrk,hm,hlo,hhi⟩
   dsimp only
   by_cases hge:l≥r
   · rw[if_pos hge]
     have:l=r:=ω61 hlr hge
     subst this
     exact wpS_pure ⟨rfl,l,l,rfl,hrk,hlo,hhi⟩
   · rw[if_neg hge]
     obtain⟨v,hv,qv⟩:=ab'.get q (i:=lo+(l+r) / 2) (ω420 h3 hkn hrk hge)
     refine wpS_bind (wpS_ltAt2 ab'.ok hu hv qu qv ?_)
     dsimp only
     cases hless:qblt (key u) (key v) with
     | true=>
      rw[if_pos rfl]
      refine wpS_pure ⟨rfl,l,(l+r) / 2,rfl,ω421 hge,ω422 hrk hge,ω423 hm,hlo,fun i z h1 h2 hz=>?_⟩
      by_cases he:i=(l+r) / 2
      · subst he; rw[hv] at hz; cases hz; exact hless
      · exact KLt.trans (show KLt key u v from hless) (hs' (lo+(l+r) / 2) (lo+i) v z ω424 (ω425 h1 he) (ω426 h2) hv hz)
     | false=>
      rw[if_neg (by decide)]
      have hvu:KLt key v u:=not_lt_gt hless (ab'.ne q hu hv (ω427 hrk hge))
      refine wpS_pure ⟨rfl,(l+r) / 2+1,r,rfl,ω428 hge,by omega,ω429 hm,fun i z h1 hz=>?_,hhi⟩
      by_cases he:i=(l+r) / 2
      · subst he; rw[hv] at hz; cases hz; exact hvu
      · exact(hs' (lo+i) (lo+(l+r) / 2) z v ω117 (ω430 h1 he) (ω431 hrk hge) hz hv).trans hvu
  case ipost=>
   rintro c st'' ⟨rfl,l,r,rfl,hlk,hlo,hhi⟩
   show wpS _ _ _ _ (do moveDown' (lo+k) (lo+l); pure (ForInStep.yield (none,()))) _ _
   rw[moveDown'_eq]
   have hks:lo+k<(arrOf st'').size:=by rw[ab'.size]; exact ω392 h3 hkn
   have gb:=fun j=>getElem?_bubble hks (lo+k-(lo+l)) ω432 j
   refine wpS_bind (wpS_modify (wpS_pure ⟨rfl,ab'.set (bubble_perm _ _ _),hp,?_,fun i hi=>?_⟩))
   · intro i j x y g1 g2 g3 hx hy
     have hx':(bubble (arrOf st'') (lo+k) (lo+k-(lo+l)))[i]?=some x:=hx
     have hy':(bubble (arrOf st'') (lo+k) (lo+k-(lo+l)))[j]?=some y:=hy
     rw[gb,show lo+k-(lo+k-(lo+l))=lo+l from Nat.sub_sub_self (Nat.add_le_add_left hlk lo)] at hx' hy'
     by_cases hi1:i=lo+l
     · rw[if_pos hi1,hu] at hx'
       cases hx'
       rw[if_neg (ω434 g2 hi1),if_pos (ω435 g2 g3 hi1)] at hy'
       exact hhi (j-1-lo) y (by exact ω436 g2 hi1) (by exact ω437 g2 g3 hi1) (by rw[show lo+(j-1-lo)=j-1 by exact ω438 g2 hi1]; exact hy')
     · rw[if_neg hi1] at hx'
       by_cases hj1:j=lo+l
       · rw[if_pos hj1,hu] at hy'
         cases hy'
         rw[if_neg (ω439 g2 hj1)] at hx'
         exact hlo (i-lo) x (by exact ω440 g2 hj1 g1) (by rw[show lo+(i-lo)=i by exact ω260 g1]; exact hx')
       · rw[if_neg hj1] at hy'
         by_cases hi2:lo+l<i∧i≤lo+k
         · rw[if_pos hi2] at hx'
           rw[if_pos (ω441 hi2 g2 g3)] at hy'
           exact hs' _ _ _ _ (ω442 hi2) (ω443 hi2 g2) (ω444 hi2 g3) hx' hy'
         · rw[if_neg hi2] at hx'
           by_cases hj2:lo+l<j∧j≤lo+k
           · rw[if_pos hj2] at hy'
             exact hs' _ _ _ _ (by omega) (ω445 hj2 g2 hi2 hi1) (ω446 g2 g3) hx' hy'
           · rw[if_neg hj2] at hy'
             exact hs' _ _ _ _ (by omega) (by omega) (ω447 g3 hlk hj2 hj1) hx' hy'
   · show(bubble (arrOf st'') (lo+k) (lo+k-(lo+l)))[i]? = _
     rw[gb,if_neg (ω448 hkn hi),if_neg (ω449 hkn hi)]
     exact so i hi
end
theorem mergeAt'_eq (i:Nat):mergeAt' i=(do
 let s ← get
 let (some (sa,na,power),some (sb,nb,_)):=((pendingOf s)[i]?,(pendingOf s)[i+1]?) | unsupported "internal:list.sort.pending"
 set (setPending s (((pendingOf s).setIfInBounds i (sa,na+nb,power)).eraseIdxIfInBounds (i+1)))
 let some k ← gallop' false (← elem' (arrOf s) sb) (arrOf s) sa na 0 | return false
 let (sa,na):=(sa+k,na-k)
 if na == 0 then return true
 let some nb ← gallop' true (← elem' (arrOf s) (sa+na-1)) (arrOf s) sb nb (nb-1) | return false
 if nb == 0 then return true
 let x:=(arrOf s).extract sa sb
 let y:=(arrOf s).extract sb (sb+nb)
 let merged ← if na≤nb then mergeLo' x y else mergeHi' x y
 modify fun s=>setArr s (merged.toList.zipIdx.foldl (fun a (p,j)=>a.setIfInBounds (sa+j) p) (arrOf s))
 return (failedOf (← get)).isNone):=rfl
theorem fold_set (k:Nat):∀(l:List Keyed) (m:Nat) (xs:Array Keyed),k+m+l.length≤xs.size→
 ((l.zipIdx m).foldl (fun a (p,j)=>a.setIfInBounds (k+j) p) xs).toList=xs.toList.take (k+m)++l++xs.toList.drop (k+m+l.length)
 | [],m,xs,h=>by simp
 | p::l,m,xs,h=>by
  rw[List.zipIdx_cons,List.foldl_cons]
  dsimp only
  rw[List.length_cons] at h
  have hsz:(xs.setIfInBounds (k+m) p).size=xs.size:=by simp
  rw[fold_set k l (m+1) _ (by rw[hsz]; exact ω450 h)]
  have hlt:k+m<xs.toList.length:=by rw[Array.length_toList]; exact ω451 h
  have e:(xs.setIfInBounds (k+m) p).toList=xs.toList.set (k+m) p:=by simp
  rw[e]
  have e1:(xs.toList.set (k+m) p).take (k+(m+1))=xs.toList.take (k+m)++[p]:=by
   rw[show k+(m+1)=k+m+1 by exact ω452,take_snoc (x:=p) (by rw[List.getElem?_set_self hlt]),List.take_set_of_le (Nat.le_refl _)]
  have e2:(xs.toList.set (k+m) p).drop (k+(m+1)+l.length)=xs.toList.drop (k+m+(l.length+1)):=by
   rw[show k+(m+1)+l.length=k+m+(l.length+1) by exact ω453,List.drop_set_of_lt (by exact ω454)]
  rw[e1,e2,List.length_cons]
  simp
theorem seg_list {key:Keyed→Quad}{xs:Array Keyed}{lo hi:Nat} (s:SegS key xs lo hi):((xs.toList.take hi).drop lo).Pairwise (KLt key):=by
 rw[List.pairwise_iff_getElem]
 intro i j hi' hj' hlt
 have h1:((xs.toList.take hi).drop lo)[i]?=some ((xs.toList.take hi).drop lo)[i]:=List.getElem?_eq_getElem hi'
 have h2:((xs.toList.take hi).drop lo)[j]?=some ((xs.toList.take hi).drop lo)[j]:=List.getElem?_eq_getElem hj'
 rw[List.getElem?_drop,List.getElem?_take] at h1 h2
 split at h1
 · split at h2
   · exact s (lo+i) (lo+j) _ _ ω117 (ω426 hlt) (by assumption) (list_at h1) (list_at h2)
   · cases h2
 · cases h1
theorem list_seg {key:Keyed→Quad}{xs:Array Keyed} (s:xs.toList.Pairwise (KLt key)):SegS key xs 0 xs.size:=fun i j x y _ h2 _ hx hy=>sorted_at s (at_list hx) (at_list hy) h2
section
variable {prog:Program}{w:World}{A:Around}{E:Value→Shared→Prop}{s:Shared}{key:Keyed→Quad}{f:Bool}{a₀:Array Keyed}{st:SortSt}
theorem wpS_mergeAt (q:QArr s.heap key a₀) (ab:AB f a₀ st) {n1 n2 p1 p2:Nat} (hp:pendingOf st = #[(0,n1,p1),(n1,n2,p2)]) (h1:1≤n1) (h2:1≤n2) (hn:n1+n2=a₀.size) (s1:SegS key (arrOf st) 0 n1) (s2:SegS key (arrOf st) n1 a₀.size) {Q:Bool→SortSt→Prop}
 (h:∀ st',AB f a₀ st'→(pendingOf st').size=1→SegS key (arrOf st') 0 a₀.size→Q true st'):wpS (model prog w) A E s (mergeAt' 0) Q st:=by
 rw[mergeAt'_eq]
 refine wpS_bind (wpS_get ?_)
 rw[hp]
 dsimp only
 refine wpS_bind (wpS_modify (f:=fun _=>setPending st ((#[(0,n1,p1),(n1,n2,p2)]:Array (Nat×Nat×Nat)).setIfInBounds 0 (0,n1+n2,p1) |>.eraseIdxIfInBounds (0+1))) ?_)
 have ps:(pendingOf (setPending st ((#[(0,n1,p1),(n1,n2,p2)]:Array (Nat×Nat×Nat)).setIfInBounds 0 (0,n1+n2,p1) |>.eraseIdxIfInBounds (0+1)))).size=1:=by
  show(((#[(0,n1,p1),(n1,n2,p2)]:Array (Nat×Nat×Nat)).setIfInBounds 0 (0,n1+n2,p1)).eraseIdxIfInBounds (0+1)).size=1
  simp[Array.eraseIdxIfInBounds]
 have ab1:AB f a₀ (setPending st ((#[(0,n1,p1),(n1,n2,p2)]:Array (Nat×Nat×Nat)).setIfInBounds 0 (0,n1+n2,p1) |>.eraseIdxIfInBounds (0+1))):=⟨ab.perm,⟨ab.ok.kind,ab.ok.failed⟩⟩
 have ea:arrOf (setPending st ((#[(0,n1,p1),(n1,n2,p2)]:Array (Nat×Nat×Nat)).setIfInBounds 0 (0,n1+n2,p1) |>.eraseIdxIfInBounds (0+1)))=arrOf st:=rfl
 generalize setPending st ((#[(0,n1,p1),(n1,n2,p2)]:Array (Nat×Nat×Nat)).setIfInBounds 0 (0,n1+n2,p1) |>.eraseIdxIfInBounds (0+1))=st1 at ps ab1 ea
 have hsz:=ab.size
 have hL:(arrOf st).toList.length=n1+n2:=by rw[Array.length_toList]; exact ω455 hn hsz
 have r1:((arrOf st).toList.take n1).Pairwise (KLt key):=seg_list s1
 have r2:((arrOf st).toList.drop n1).Pairwise (KLt key):=by
  have:=seg_list s2
  rwa [List.take_of_length_le (by rw[hL]; exact ω456 hn)] at this
 have hq:∀ x∈(arrOf st).toList,IsQ s.heap x.1 (key x):=fun x hx=>q.q x ((Array.perm_iff_toList_perm.mp ab.perm).mem_iff.mp hx)
 obtain⟨y,hy,qy⟩:=ab.get q (i:=n1) (ω457 h2 hn)
 obtain⟨x,hx,qx⟩:=ab.get q (i:=n1-1) (ω458 h2 hn)
 have hyl:∀ c∈(arrOf st).toList.drop n1,c=y∨KLt key y c:=fun c hc=>by
  have:=drop_head (l:=(arrOf st).toList.drop n1) (i:=0) (x:=y) (by rw[List.getElem?_drop]; exact at_list hy) r2 (by simpa using hc)
  exact this
 have hxl:∀ c∈(arrOf st).toList.take n1,c=x∨KLt key c x:=fun c hc=>by
  refine take_last (l:=(arrOf st).toList.take n1) (n:=n1-1) (x:=x) (by rw[List.getElem?_take,if_pos (ω370 h1)]; exact at_list hx) r1 ?_
  rw[List.take_take,show min (n1-1+1) n1=n1 by exact ω459]; exact hc
 have whole:(∀ a∈(arrOf st).toList.take n1,∀ c∈(arrOf st).toList.drop n1,KLt key a c)→SegS key (arrOf st1) 0 a₀.size:=fun hc=>by
  rw[ea]
  have:(arrOf st).toList.Pairwise (KLt key):=by
   rw[← List.take_append_drop n1 (arrOf st).toList]
   exact List.pairwise_append.mpr ⟨r1,r2,hc⟩
  rw[← hsz]
  exact list_seg this
 refine wpS_bind (wpS_elem hy ?_)
 refine wpS_bind (wpS_gallop (fun i=>match (arrOf st)[i]? with | some z=>!(qblt (key y) (key z)) | none=>false) (ω460 h1) ?_ ?_ ?_)
 · intro i hi R hR
   obtain⟨z,hz,qz⟩:=ab.get q (i:=i) (ω461 hn hi)
   unfold bey
   refine wpS_bind (wpS_elem (by rw[Nat.zero_add]; exact hz) ?_)
   rw[if_neg (by decide)]
   have hR':=hR
   rw[hz] at hR'
   exact wpS_bind (wpS_lt ab1.ok qy qz (wpS_pure hR'))
 · intro i j hij hj hbj
   obtain⟨z,hz,qz⟩:=ab.get q (i:=i) (ω462 hn hj hij)
   obtain⟨u,hu,qu⟩:=ab.get q (i:=j) (ω461 hn hj)
   rw[hu] at hbj
   rw[hz]
   by_cases he:i=j
   · subst he; rw[hz] at hu; cases hu; exact hbj
   · have hzu:=s1 i j z u (Nat.zero_le _) (ω362 hij he) hj hz hu
     dsimp only
     cases w:qblt (key y) (key z) with
     | false=>rfl
     | true=>
      have:=qblt_trans w hzu
      have hbj':(!(qblt (key y) (key u)))=true:=hbj
      rw[this] at hbj'; cases hbj'
 · intro k hk g1 g2
   dsimp only
   have F1:∀ c∈(arrOf st).toList.take k,KLt key c y:=fun c hc=>by
    obtain⟨j,hj,e⟩:=mem_take' hc
    have:=g1 j hj
    rw[list_at e] at this
    exact not_lt_gt (by simpa using this) (ab.ne q hy (list_at e) (ω463 hj hk))
   have F2:∀ c∈((arrOf st).toList.take n1).drop k,KLt key y c:=fun c hc=>by
    obtain⟨j,hj1,hj2,e⟩:=mem_mid hc
    have:=g2 j hj1 hj2
    rw[list_at e] at this
    simpa[KLt] using this
   by_cases hk0:n1-k=0
   · rw[if_pos (by simpa using hk0)]
     have hkn:k=n1:=ω464 hk0 hk
     subst hkn
     refine wpS_pure (h st1 ab1 ps (whole fun a ha c hc=>?_))
     rcases hyl c hc with rfl | hh
     · exact F1 a ha
     · exact(F1 a ha).trans hh
   · rw[if_neg (by simpa using hk0)]
     refine wpS_bind (wpS_elem (x:=x) (by rw[show 0+k+(n1-k)-1=n1-1 by exact ω465 hk]; exact hx) ?_)
     refine wpS_bind (wpS_gallop (fun i=>match (arrOf st)[n1+i]? with | some z=>qblt (key z) (key x) | none=>false) (ω370 h2) ?_ ?_ ?_)
     · intro i hi R hR
       obtain⟨z,hz,qz⟩:=ab.get q (i:=n1+i) (ω466 hn hi)
       unfold bey
       refine wpS_bind (wpS_elem hz ?_)
       rw[if_pos rfl]
       have hR':=hR
       rw[hz] at hR'
       exact wpS_lt ab1.ok qz qx hR'
     · intro i j hij hj hbj
       obtain⟨z,hz,qz⟩:=ab.get q (i:=n1+i) (ω467 hn hj hij)
       obtain⟨u,hu,qu⟩:=ab.get q (i:=n1+j) (ω466 hn hj)
       rw[hu] at hbj
       rw[hz]
       by_cases he:i=j
       · subst he; rw[hz] at hu; cases hu; exact hbj
       · exact qblt_trans (s2 (n1+i) (n1+j) z u ω117 (ω335 hij he) (ω466 hn hj) hz hu) hbj
     · intro m hm g3 g4
       dsimp only
       have F3:∀ c∈((arrOf st).toList.drop n1).take m,KLt key c x:=fun c hc=>by
        obtain⟨j,hj,e⟩:=mem_seg hc
        have:=g3 j hj
        rw[list_at e] at this
        exact this
       have F4:∀ c∈((arrOf st).toList.drop n1).drop m,KLt key x c:=fun c hc=>by
        rw[List.drop_drop] at hc
        obtain⟨j,e⟩:=mem_rest hc
        have hjl:=(List.getElem?_eq_some_iff.mp e).1
        rw[hL] at hjl
        have:=g4 (m+j) ω117 (ω468 hjl)
        rw[← Nat.add_assoc,list_at e] at this
        exact not_lt_gt this (ab.ne q (list_at e) hx (ω469 h1))
       by_cases hm0:m=0
       · rw[if_pos (by simpa using hm0)]
         refine wpS_pure (h st1 ab1 ps (whole fun a ha c hc=>?_))
         rw[hm0,List.drop_zero] at F4
         rcases hxl a ha with rfl | hh
         · exact F4 c hc
         · exact hh.trans (F4 c hc)
       · rw[if_neg (by simpa using hm0)]
         have eX:((arrOf st).extract (0+k) n1).toList=((arrOf st).toList.take n1).drop k:=by rw[Nat.zero_add,ext_td]
         have eY:((arrOf st).extract n1 (n1+m)).toList=((arrOf st).toList.drop n1).take m:=ext_list _ _
         have zX:((arrOf st).extract (0+k) n1).size=n1-k:=by rw[← Array.length_toList,eX,List.length_drop,List.length_take]; exact ω470 hL
         have zY:((arrOf st).extract n1 (n1+m)).size=m:=by rw[← Array.length_toList,eY,List.length_take,List.length_drop]; exact ω471 hL hm
         have C:MC s.heap key ((arrOf st).extract (0+k) n1) ((arrOf st).extract n1 (n1+m)):=by
          refine⟨fun c hc=>?_,fun c hc=>?_,?_,?_,fun c hc d hd=>?_⟩
          · rw[eX] at hc; exact hq c (List.mem_of_mem_take (List.mem_of_mem_drop hc))
          · rw[eY] at hc; exact hq c (List.mem_of_mem_drop (List.mem_of_mem_take hc))
          · rw[eX]; exact r1.sublist (List.drop_sublist _ _)
          · rw[eY]; exact r2.sublist (List.take_sublist _ _)
          · rw[eX] at hc; rw[eY] at hd
            obtain⟨i,_,hi,e1⟩:=mem_mid hc
            obtain⟨j,_,e2⟩:=mem_seg hd
            exact ab.ne q (list_at e1) (list_at e2) (ω472 hi)
         have fin:∀(v:Array Keyed) (st':SortSt),SG st1 st'→Fin key ((arrOf st).extract (0+k) n1).toList ((arrOf st).extract n1 (n1+m)).toList v.toList→wpS (model prog w) A E s (do
          modify fun s=>setArr s (v.toList.zipIdx.foldl (fun a (p,j)=>a.setIfInBounds (0+k+j) p) (arrOf s))
          return (failedOf (← get)).isNone:StateT SortSt Sem Bool) Q st':=by
          intro v st' sg fi
          rw[eX,eY] at fi
          have hv:v.toList.length=n1-k+m:=by
           rw[fi.1.length_eq,List.length_append,List.length_drop,List.length_take,List.length_take,List.length_drop]; exact ω473 hL hm
          have hvm:∀ c∈v.toList,c∈((arrOf st).toList.take n1).drop k∨c∈((arrOf st).toList.drop n1).take m:=fun c hc=>List.mem_append.mp (fi.1.mem_iff.mp hc)
          refine wpS_bind (wpS_modify ?_)
          have e0:arrOf st'=arrOf st:=sg.arr.trans ea
          have ev:((v.toList.zipIdx.foldl (fun a (p,j)=>a.setIfInBounds (0+k+j) p) (arrOf st'))).toList=(arrOf st).toList.take k++v.toList++((arrOf st).toList.drop n1).drop m:=by
           rw[e0,fold_set (0+k) v.toList 0 (arrOf st) (by rw[Array.length_toList] at hL; exact ω474 hn hsz hv hk hm),hv,List.drop_drop,show 0+k+0=k by exact ω475,show k+(n1-k+m)=n1+m by exact ω476 hk]
          have hparts:(arrOf st).toList=(arrOf st).toList.take k++(((arrOf st).toList.take n1).drop k++((arrOf st).toList.drop n1).take m)++((arrOf st).toList.drop n1).drop m:=by
           rw[List.append_assoc,List.append_assoc,List.take_append_drop,← List.append_assoc,← take_seg hk,List.take_append_drop]
          have ab2:AB f a₀ (setArr st' (v.toList.zipIdx.foldl (fun a (p,j)=>a.setIfInBounds (0+k+j) p) (arrOf st'))):=by
           refine⟨Array.Perm.trans ?_ ab.perm,⟨sg.kind.trans ab1.ok.kind,sg.failed.trans ab1.ok.failed⟩⟩
           refine Array.perm_iff_toList_perm.mpr ?_
           show(v.toList.zipIdx.foldl (fun a (p,j)=>a.setIfInBounds (0+k+j) p) (arrOf st')).toList.Perm _
           rw[ev]
           refine((fi.1.append_left _).append_right _).trans ?_
           rw[← hparts]
          refine wpS_bind (wpS_get (wpS_pure ?_))
          have hf:(failedOf (setArr st' (v.toList.zipIdx.foldl (fun a (p,j)=>a.setIfInBounds (0+k+j) p) (arrOf st')))).isNone=true:=by rw[ab2.ok.failed]; rfl
          rw[hf]
          refine h _ ab2 (by show(pendingOf st').size=1; rw[sg.pend]; exact ps) ?_
          rw[← ab2.size]
          refine list_seg ?_
          show(v.toList.zipIdx.foldl (fun a (p,j)=>a.setIfInBounds (0+k+j) p) (arrOf st')).toList.Pairwise _
          rw[ev]
          have yv:∀ c∈v.toList,c=y∨KLt key y c:=fun c hc=>by
           rcases hvm c hc with hc | hc
           · exact .inr (F2 c hc)
           · exact hyl c (List.mem_of_mem_take hc)
          have vx:∀ c∈v.toList,c=x∨KLt key c x:=fun c hc=>by
           rcases hvm c hc with hc | hc
           · exact hxl c (List.mem_of_mem_drop hc)
           · exact .inr (F3 c hc)
          have tk:∀ c∈(arrOf st).toList.take k,∀ d,(d=y∨KLt key y d)→KLt key c d:=fun c hc d hd=>by
           rcases hd with rfl | hd
           · exact F1 c hc
           · exact(F1 c hc).trans hd
          refine List.pairwise_append.mpr ⟨List.pairwise_append.mpr ⟨?_,fi.2,fun c hc d hd=>tk c hc d (yv d hd)⟩,r2.sublist (List.drop_sublist _ _),fun c hc d hd=>?_⟩
          · have:=r1.sublist (List.take_sublist k _)
            rwa [List.take_take,Nat.min_eq_left hk] at this
          · rcases List.mem_append.mp hc with hc | hc
            · exact tk c hc d (hyl d (List.mem_of_mem_drop hd))
            · rcases vx c hc with rfl | hcx
              · exact F4 d hd
              · exact hcx.trans (F4 d hd)
         have hxY:∀ d∈((arrOf st).extract n1 (n1+m)).toList,KLt key d x:=fun d hd=>by rw[eY] at hd; exact F3 d hd
         have hyX:∀ d∈((arrOf st).extract (0+k) n1).toList,KLt key y d:=fun d hd=>by rw[eX] at hd; exact F2 d hd
         have lastX:∀ c,((arrOf st).extract (0+k) n1)[((arrOf st).extract (0+k) n1).size-1]?=some c→c=x:=fun c hc=>by
          have:=at_list hc
          rw[zX,eX,List.getElem?_drop,List.getElem?_take,if_pos (by exact ω477 hk0),show k+(n1-k-1)=n1-1 by exact ω478 hk0,at_list hx] at this
          cases this; rfl
         have firstY:∀ c,((arrOf st).extract n1 (n1+m))[0]?=some c→c=y:=fun c hc=>by
          have:=at_list hc
          rw[eY,List.getElem?_take,if_pos (ω479 hm0),List.getElem?_drop,Nat.add_zero,at_list hy] at this
          cases this; rfl
         by_cases hmm:n1-k≤m
         · rw[if_pos hmm]
           refine wpS_bind (wpS_mergeLo C ?_ ?_ ab1.ok (ω480 zX hk0) (ω481 zY hm0) fin)
           · intro c hc d hd
             obtain⟨j,e⟩:=mem_rest hc
             have hjl:=(List.getElem?_eq_some_iff.mp e).1
             rw[Array.length_toList] at hjl
             have hj0:j=0:=ω482 hjl
             subst hj0
             rw[lastX c (list_at e)]
             exact hxY d hd
           · intro c hc d hd
             rw[firstY c hc]
             exact hyX d hd
         · rw[if_neg hmm]
           refine wpS_bind (wpS_mergeHi C ?_ ?_ ab1.ok (ω483 zX hmm) (ω481 zY hm0) fin)
           · intro c hc d hd
             rw[lastX c hc]
             exact hxY d hd
           · intro c hc d hd
             obtain⟨j,hj,e⟩:=mem_take' hc
             have hj0:j=0:=ω484 hj
             subst hj0
             rw[firstY c (list_at e)]
             exact hyX d hd
end
theorem minRun_le {n:Nat} (h2:2≤n) (h:n≤127):minRun' n n 0≤n∧n≤2*minRun' n n 0∧1≤minRun' n n 0:=by
 obtain⟨m,rfl⟩:∃ m,n=m+1:=⟨n-1,ω356 h2⟩
 rw[minRun'_succ]
 split
 · exact ω485
 · rename_i hm
   obtain⟨k,rfl⟩:∃ k,m=k+1:=⟨m-1,(Nat.sub_add_cancel (Nat.le_trans (show 1≤63 by decide) (Nat.le_of_succ_le_succ (Nat.le_of_not_lt hm)))).symm⟩
   rw[minRun'_succ,if_pos (ω487 h)]
   exact ω488
noncomputable abbrev SrSt:=Option Unit×Nat
noncomputable abbrev SrU:=Option Unit×Unit
noncomputable def sr0 (pw:Nat):StateT SortSt Sem (ForInStep SrU):=do
 let st ← get
 match (if (pendingOf st).size>1 then(pendingOf st)[(pendingOf st).size-2]? else none) with
 | some (_,_,older)=>(if older≤pw then pure (.done (none,())) else mergeAt' ((pendingOf st).size-2) >>= fun ok=>if (!ok)=true then pure (.done (some (),())) else pure (.yield (none,())))
 | _=>pure (.done (none,()))
noncomputable def sr1 (lo n:Nat):StateT SortSt Sem (ForInStep SrSt):=do
 modify fun s=>setPending s ((pendingOf s).push (lo,n,0))
 pure (.yield (none,lo+n))
noncomputable def sr2 (size lo n:Nat):StateT SortSt Sem (ForInStep SrSt):=do
 let st ← get
 match (pendingOf st).back? with
 | some (s1,n1,_)=>do
  let d ← forIn [0:size] (none,()) fun _ _=>sr0 (power' size (2*s1+n1) (2*s1+n1+n1+n) size)
  match d.1 with
  | some r=>pure (.done (some r,lo))
  | none=>do
   modify fun s=>setPending s ((pendingOf s).modify ((pendingOf s).size-1) fun (st,len,_)=>(st,len,power' size (2*s1+n1) (2*s1+n1+n1+n) size))
   sr1 lo n
 | _=>sr1 lo n
noncomputable def sr3 (size mr lo n:Nat):StateT SortSt Sem (ForInStep SrSt):=
 if n<mr then do
  rule "list.sort.binary-insertion"
  let ok ← binarySort' lo (min (size-lo) mr) n
  if (!ok)=true then pure (.done (some (),lo)) else sr2 size lo (min (size-lo) mr)
 else sr2 size lo n
noncomputable def sr4 (size mr:Nat) (c:SrSt):StateT SortSt Sem (ForInStep SrSt):=
 if c.2≥size then pure (.done (none,c.2)) else do
  let r ← countRun' c.2 (size-c.2)
  match r with
  | some n=>sr3 size mr c.2 n
  | _=>pure (.done (some (),c.2))
noncomputable def srIx (p:Array (Nat×Nat×Nat)):Nat:=if (if p.size-2>0 then p[p.size-2-1]?.map (·.2.1) else none).any (· < (p[p.size-2+1]?.elim 0 (·.2.1))) then p.size-2-1 else p.size-2
noncomputable def sr5:StateT SortSt Sem (ForInStep SrU):=do
 let st ← get
 if (pendingOf st).size≤1 then pure (.done (none,())) else mergeAt' (srIx (pendingOf st)) >>= fun ok=>if (!ok)=true then pure (.done (some (),())) else pure (.yield (none,()))
noncomputable def sr6 (size:Nat) (r:Option Unit):StateT SortSt Sem Unit:=match r with
 | some r=>pure r
 | none=>do
  let d ← forIn [0:size] (none,()) fun _ _=>sr5
  match d.1 with
  | some r=>pure r
  | none=>pure ()
noncomputable def sr7 (size:Nat):StateT SortSt Sem Unit:=do
 let c ← forIn [0:size] (none,0) fun _ c=>sr4 size (minRun' size size 0) c
 sr6 size c.1
theorem sortRuns'_my:sortRuns'=(do
 let st ← get
 sr7 (arrOf st).size):=by kernel_rfl
section
variable {prog:Program}{w:World}{A:Around}{E:Value→Shared→Prop}{s:Shared}{key:Keyed→Quad}{f:Bool}{a₀:Array Keyed}{st:SortSt}{lo n mr x:Nat}
noncomputable def Runs (key:Keyed→Quad) (n:Nat) (st:SortSt):Prop:=((pendingOf st).size=1∧SegS key (arrOf st) 0 n)∨
 ∃ n1 n2 p,pendingOf st = #[(0,n1,p),(n1,n2,0)]∧1≤n1∧1≤n2∧n1+n2=n∧SegS key (arrOf st) 0 n1∧SegS key (arrOf st) n1 n
noncomputable def SrI (key:Keyed→Quad) (f:Bool) (a₀:Array Keyed) (mr x:Nat) (c:SrSt) (st:SortSt):Prop:=AB f a₀ st∧c.1=none∧((x=0∧c.2=0∧pendingOf st = #[])∨(x=1∧c.2<a₀.size∧mr≤c.2∧pendingOf st = #[(0,c.2,0)]∧SegS key (arrOf st) 0 c.2)∨(1≤x∧c.2=a₀.size∧Runs key a₀.size st))
noncomputable def SrQ (key:Keyed→Quad) (f:Bool) (a₀:Array Keyed) (c:SrSt) (st:SortSt):Prop:=AB f a₀ st∧c.1=none∧Runs key a₀.size st
noncomputable abbrev SrP (key:Keyed→Quad) (f:Bool) (a₀:Array Keyed) (mr x:Nat):ForInStep SrSt→SortSt→Prop:=StP (SrQ key f a₀) (SrI key f a₀ mr x)
theorem wpS_srA (ab:AB f a₀ st) (hp:pendingOf st = #[]) (h1:n≤a₀.size) (h2:min a₀.size mr≤n) (hs:SegS key (arrOf st) 0 n):wpS (model prog w) A E s (sr2 a₀.size 0 n) (SrP key f a₀ mr 1) st:=by
 refine wpS_bind (wpS_get ?_)
 rw[hp]
 have e:pendingOf (setPending st ((pendingOf st).push (0,n,0))) = #[(0,n,0)]:=by
  show(pendingOf st).push (0,n,0) = _
  rw[hp]; rfl
 refine wpS_bind (wpS_modify (wpS_pure ⟨⟨ab.perm,⟨ab.ok.kind,ab.ok.failed⟩⟩,rfl,?_⟩))
 dsimp only
 rw[Nat.zero_add]
 by_cases hn:n=a₀.size
 · exact .inr (.inr ⟨Nat.le_refl 1,hn,.inl ⟨by rw[e]; rfl,by rw[hn] at hs; exact hs⟩⟩)
 · exact .inr (.inl ⟨rfl,Nat.lt_of_le_of_ne h1 hn,(Nat.le_total a₀.size mr).elim (fun k=>absurd (Nat.le_antisymm h1 (by rw[Nat.min_eq_left k] at h2; exact h2)) hn) fun k=>by rw[Nat.min_eq_right k] at h2; exact h2,e,hs⟩)
theorem wpS_srB (ab:AB f a₀ st) (hp:pendingOf st = #[(0,lo,0)]) (h0:1≤lo) (h1:1≤n) (h2:lo+n=a₀.size) (hs0:SegS key (arrOf st) 0 lo) (hs:SegS key (arrOf st) lo (lo+n)):wpS (model prog w) A E s (sr2 a₀.size lo n) (SrP key f a₀ mr 2) st:=by
 refine wpS_bind (wpS_get ?_)
 rw[hp]
 refine wpS_bind (wpS_mono (wpS_forRange (I:=fun y d st6=>st6=st∧d=((none,()):SrU)) (Q:=fun d st6=>st6=st∧d=((none,()):SrU)) ?_ (fun _ _ hh=>hh) ⟨rfl,rfl⟩) ?_)
 · intro y d st6 _ _ h
   rw[h.1]
   refine wpS_bind (wpS_get ?_)
   rw[hp]
   exact wpS_pure ⟨rfl,rfl⟩
 · intro d st6 h
   rw[h.1,h.2]
   refine wpS_bind (wpS_modify (wpS_bind (wpS_modify (wpS_pure ⟨⟨ab.perm,⟨ab.ok.kind,ab.ok.failed⟩⟩,rfl,.inr (.inr ⟨Nat.le_succ 1,h2,.inr ⟨lo,n,power' a₀.size (2*0+lo) (2*0+lo+lo+n) a₀.size,?_,h0,h1,h2,hs0,h2▸hs⟩⟩)⟩))))
   show((pendingOf st).modify ((pendingOf st).size-1) _).push (lo,n,0) = _
   rw[hp]
   rfl
theorem wpS_sr4 (q:QArr s.heap key a₀) (ab:AB f a₀ st) (h1:lo<a₀.size) (hm:1≤mr) {Q:ForInStep SrSt→SortSt→Prop}
 (h:∀ n st',AB f a₀ st'→pendingOf st'=pendingOf st→1≤n→lo+n≤a₀.size→min (a₀.size-lo) mr≤n→SegS key (arrOf st') lo (lo+n)→SameOut (arrOf st) (arrOf st') lo a₀.size→wpS (model prog w) A E s (sr2 a₀.size lo n) Q st'):wpS (model prog w) A E s (sr4 a₀.size mr (none,lo)) Q st:=by
 have e:lo+(a₀.size-lo)=a₀.size:=Nat.add_sub_cancel' (Nat.le_of_lt h1)
 have l:∀{k},k≤a₀.size-lo→lo+k≤a₀.size:=fun {k} z=>e▸Nat.add_le_add_left z lo
 refine wpS_neg (Nat.not_le.mpr h1) (wpS_bind (wpS_countRunX q ab (Nat.sub_pos_of_lt h1) (Nat.le_of_eq e) fun n st3 a3 p3 n1 n2 s3 o3=>?_))
 rw[e] at o3
 by_cases hlt:n<mr
 · refine wpS_pos hlt (wpS_bind (wpS_lift (wpAny_rule ⟨rfl,wpS_bind (wpS_binX q a3 n1 (Nat.le_min.mpr ⟨n2,Nat.le_of_lt hlt⟩) (l (Nat.min_le_left _ _)) s3 fun st4 a4 p4 s4 o4=>wpS_neg (by decide) ?_)⟩)))
   exact h _ st4 a4 (p4.trans p3) (Nat.le_min.mpr ⟨Nat.sub_pos_of_lt h1,hm⟩) (l (Nat.min_le_left _ _)) (Nat.le_refl _) s4 (o3.trans fun i hi=>o4 i (hi.imp id fun z=>Nat.le_trans (l (Nat.min_le_left _ _)) z))
 · exact wpS_neg hlt (h n st3 a3 p3 n1 (l n2) (Nat.le_trans (Nat.min_le_right _ _) (Nat.le_of_not_lt hlt)) s3 o3)
theorem srC {n m l:Nat} (h:n≤2*m) (k:m≤l):n-l≤m:=Nat.sub_le_of_le_add (Nat.le_trans h (Nat.two_mul m▸Nat.add_le_add_left k m))
theorem wpS_srStep (q:QArr s.heap key a₀) (hm:a₀.size≤2*mr) (h1:1≤mr) (h2:1≤a₀.size) {c:SrSt} (h:SrI key f a₀ mr x c st):wpS (model prog w) A E s (sr4 a₀.size mr c) (SrP key f a₀ mr (x+1)) st:=by
 obtain⟨r,lo⟩:=c
 rcases h with ⟨ab,hc,⟨rfl,hlo,hp⟩ | ⟨rfl,hlo,hmr,hp,hs⟩ | ⟨hx,hlo,hr⟩⟩
 · cases hc; cases hlo
   exact wpS_sr4 q ab h2 h1 fun n st' a' p' n1 n2 n3 s' _=>wpS_srA a' (p'.trans hp) (Nat.zero_add n▸n2) n3 (Nat.zero_add n▸s')
 · cases hc
   refine wpS_sr4 q ab hlo h1 fun n st' a' p' n1 n2 n3 s' o'=>wpS_srB a' (p'.trans hp) (Nat.le_trans h1 hmr) n1 (Nat.le_antisymm n2 (Nat.le_trans (Nat.le_of_eq (Nat.add_sub_cancel' (Nat.le_of_lt hlo)).symm) (Nat.add_le_add_left ?_ lo))) (fun i j u v g1 g2 g3 hu hv=>?_) s'
   · rw[Nat.min_eq_left (srC hm hmr)] at n3
     exact n3
   · rw[o' i (.inl (Nat.lt_trans g2 g3))] at hu
     rw[o' j (.inl g3)] at hv
     exact hs i j u v g1 g2 g3 hu hv
 · cases hc
   exact wpS_pos (Nat.le_of_eq hlo.symm) (wpS_pure ⟨ab,rfl,hr⟩)
noncomputable def Sr6 (key:Keyed→Quad) (f:Bool) (a₀:Array Keyed) (x:Nat) (c:SrU) (st:SortSt):Prop:=c=(none,())∧AB f a₀ st∧((x=0∧Runs key a₀.size st)∨(pendingOf st).size=1∧SegS key (arrOf st) 0 a₀.size)
noncomputable def SrF (key:Keyed→Quad) (f:Bool) (a₀:Array Keyed) (c:SrU) (st:SortSt):Prop:=c=(none,())∧AB f a₀ st∧SegS key (arrOf st) 0 a₀.size
theorem wpS_sr5 (q:QArr s.heap key a₀) {c:SrU} (h:Sr6 key f a₀ x c st):wpS (model prog w) A E s sr5 (StP (SrF key f a₀) (Sr6 key f a₀ (x+1))) st:=by
 refine wpS_bind (wpS_get ?_)
 have fin:(pendingOf st).size=1→SegS key (arrOf st) 0 a₀.size→wpS (model prog w) A E s (if (pendingOf st).size≤1 then pure (.done (none,())) else mergeAt' (srIx (pendingOf st)) >>= fun ok=>if (!ok)=true then pure (.done (some (),())) else pure (.yield (none,()))) (StP (SrF key f a₀) (Sr6 key f a₀ (x+1))) st:=fun z s=>wpS_pos (Nat.le_of_eq z) (wpS_pure ⟨rfl,h.2.1,s⟩)
 rcases h.2.2 with ⟨_,⟨h1,h3⟩ | ⟨n1,n2,p,e,g1,g2,g3,g4,g5⟩⟩ | ⟨h1,h3⟩
 · exact fin h1 h3
 · refine wpS_neg (by rw[e]; show ¬ (2≤1); decide) (wpS_bind ?_)
   rw[show srIx (pendingOf st)=0 by rw[e]; rfl]
   exact wpS_mergeAt q h.2.1 e g1 g2 g3 g4 g5 fun st3 b1 b2 b3=>wpS_neg (by decide) (wpS_pure ⟨rfl,b1,.inr ⟨b2,b3⟩⟩)
 · exact fin h1 h3
theorem wpS_sortRunsX (q:QArr s.heap key a₀) (ab:AB f a₀ st) (hp:pendingOf st = #[]) (h2:2≤a₀.size) (h127:a₀.size≤127) {Q:Unit→SortSt→Prop}
 (h:∀ st',AB f a₀ st'→SegS key (arrOf st') 0 a₀.size→Q () st'):wpS (model prog w) A E s sortRuns' Q st:=by
 rw[sortRuns'_my]
 refine wpS_bind (wpS_get ?_)
 rw[ab.size]
 refine and3 (minRun_le h2 h127) fun _ r2 r3=>wpS_bind (wpS_mono (wpS_forRange (I:=SrI key f a₀ (minRun' a₀.size a₀.size 0)) (Q:=SrQ key f a₀) (fun x c st' _ _ hh=>wpS_srStep q r2 r3 (Nat.le_of_lt h2) hh) (fun c st' hh=>?_) ⟨ab,rfl,.inl ⟨rfl,rfl,hp⟩⟩) ?_)
 · rw[Nat.zero_max] at hh
   exact⟨hh.1,hh.2.1,hh.2.2.elim (fun z=>absurd (z.1▸h2) (by decide)) fun z=>z.elim (fun z=>absurd (z.1▸h2) (by decide)) fun z=>z.2.2⟩
 · rintro⟨r,lo⟩ st' ⟨ab',hc,hr⟩
   cases hc
   refine wpS_bind (wpS_mono (wpS_forRange (I:=Sr6 key f a₀) (Q:=SrF key f a₀) (fun x c st'' _ _ hh=>wpS_sr5 q hh) (fun c st'' hh=>?_) ⟨rfl,ab',.inl ⟨rfl,hr⟩⟩) ?_)
   · rw[Nat.zero_max] at hh
     exact⟨hh.1,hh.2.1,hh.2.2.elim (fun z=>absurd (z.1▸h2) (by decide)) fun z=>z.2⟩
   · rintro c st'' ⟨rfl,ab2,h3⟩
     exact wpS_pure (h st'' ab2 h3)
end
theorem IsQ.uniq {h:Heap}{v:Value}{q q':Quad} (a:IsQ h v q) (b:IsQ h v q'):q=q':=by
 obtain⟨x,t1,t2,t3,t4,k,rfl,g⟩:=a
 obtain⟨y,u1,u2,u3,u4,j,e,g'⟩:=b
 cases e
 rw[g] at g'
 obtain⟨q1,q2,q3,q4⟩:=q
 obtain⟨p1,p2,p3,p4⟩:=q'
 injection g' with g'
 injection g' with _ _ g' _
 injection g' with g' _
 have g2:=congrArg Array.toList g'
 simp only[List.cons.injEq,Value.int.injEq,and_true] at g2
 obtain⟨⟨e1,_⟩,⟨e2,_⟩,⟨e3,_⟩,⟨e4,_⟩⟩:=g2
 have h1:q1=p1:=ω121 e1
 have h2:q2=p2:=ω121 e2
 have h3:q3=p3:=ω121 e3
 have h4:q4=p4:=ω121 e4
 rw[h1,h2,h3,h4]
open Classical in
noncomputable def keyQ (h:Heap) (p:Keyed):Quad:=if hq:∃ q,IsQ h p.1 q then hq.choose else(0,0,0,0)
theorem keyQ_of {h:Heap}{p:Keyed}{q:Quad} (a:IsQ h p.1 q):keyQ h p=q:=by
 have hq:∃ q,IsQ h p.1 q:=⟨q,a⟩
 unfold keyQ
 rw[dif_pos hq]
 exact hq.choose_spec.uniq a
theorem VR.isQ {μ:Mem}{h:Heap}{v:Value}{q:Quad} (r:VR μ h v (mvQuad q)):IsQ h v q:=by
 obtain⟨a,vs,n,rfl,_,g,rs⟩:=r.isTup
 cases rs with | cons r1 rs=>cases rs with | cons r2 rs=>cases rs with | cons r3 rs=>cases rs with | cons r4 rs=>cases rs with | nil=>
 obtain⟨t1,rfl⟩:=r1.isInt
 obtain⟨t2,rfl⟩:=r2.isInt
 obtain⟨t3,rfl⟩:=r3.isInt
 obtain⟨t4,rfl⟩:=r4.isInt
 exact⟨a,t1,t2,t3,t4,n,rfl,g⟩
inductive QsAre (h:Heap):List Value→List Quad→Prop
 | nil:QsAre h [] []
 | cons {v:Value}{q:Quad}{vs:List Value}{l:List Quad}:IsQ h v q→QsAre h vs l→QsAre h (v::vs) (q::l)
theorem VRs.qs {μ:Mem}{h:Heap}{vs:List Value}{l:List Quad} (r:VRs μ h vs (quadsM l)):QsAre h vs l:=by
 induction l generalizing vs with
 | nil=>cases r; exact .nil
 | cons q l ih=>cases r with | cons a r=>exact .cons a.isQ (ih r)
theorem QsAre.zip {h:Heap}{vs:List Value}{l:List Quad} (r:QsAre h vs l):(vs.zip vs).map (keyQ h)=l:=by
 induction r with
 | nil=>rfl
 | @cons v _ _ _ a r ih=>rw[List.zip_cons_cons,List.map_cons,keyQ_of (p:=(v,v)) a,ih]
theorem QsAre.mem {h:Heap}{vs:List Value}{l:List Quad} (r:QsAre h vs l):∀ v∈vs,∃ q,IsQ h v q:=by
 induction r with
 | nil=>exact fun v hv=>nomatch hv
 | cons a r ih=>exact fun v hv=>(List.mem_cons.mp hv).elim (fun e=>⟨_,e▸a⟩) (ih v)
theorem QsAre.to {h h':Heap} (k:∀ v q,IsQ h v q→IsQ h' v q) {vs:List Value}{l:List Quad} (r:QsAre h vs l):QsAre h' vs l:=by
 induction r with
 | nil=>exact .nil
 | cons a _ ih=>exact .cons (k _ _ a) ih
theorem QsAre.len {h:Heap}{vs:List Value}{l:List Quad} (r:QsAre h vs l):vs.length=l.length:=by
 induction r with
 | nil=>rfl
 | cons _ _ ih=>rw[List.length_cons,List.length_cons,ih]
theorem firstOfTuple'_eq (v:Value):firstOfTuple' v=(do
 if (← typeOf v) != .type "tuple" then return none
 return (← Builtin.List.listItems v)[0]?):=rfl
section
variable {prog:Program}{w:World}{A:Around}{E:Value→Shared→Prop}{s:Shared}
theorem first_quad {v:Value}{q:Quad}{Q:Option Value→Shared→Prop} (hq:IsQ s.heap v q) (h:∀ t,Q (some (.int q.1 t)) s):wpAny (model prog w) A (firstOfTuple' v) Q E s:=by
 obtain⟨a,t1,t2,t3,t4,k,rfl,g⟩:=hq
 rw[firstOfTuple'_eq]
 have hT:s.TypeIs (.ref a) "tuple":=⟨_,g,rfl⟩
 refine wpAny_bind (wpAny_typeOf hT ?_)
 rw[if_neg (by decide)]
 exact wpAny_bind (listItems_at g rfl (wpAny_pure (h t1)))
theorem firsts_quads {vs:List Value}{l:List Quad}{Q:List (Option Value)→Shared→Prop} (r:QsAre s.heap vs l) (h:∀ r:List (Option Value),r.length=vs.length→(∀ x∈r,∃ n t,x=some (.int n t))→Q r s):wpAny (model prog w) A (vs.mapM firstOfTuple') Q E s:=by
 induction r generalizing Q with
 | nil=>
  rw[List.mapM_nil]
  exact wpAny_pure (h [] rfl fun x hx=>nomatch hx)
 | cons a r ih=>
  rw[List.mapM_cons]
  exact wpAny_bind (first_quad a fun t=>wpAny_bind (ih fun r' hl hr=>wpAny_pure (h _ (congrArg (· + 1) hl) fun x hx=>(List.mem_cons.mp hx).elim (fun e=>⟨_,_,e⟩) (hr x))))
theorem keyKind_quads {vs:List Value}{l:List Quad}{Q:SortKind→Shared→Prop} (hq:QsAre s.heap vs l) (h2:2≤vs.length) (h:Q (tuples' true) s):wpAny (model prog w) A (keyKind' vs.toArray) Q E s:=by
 rw[keyKind'_eq,List.mapM_toArray,map_eq_pure_bind,bind_assoc]
 refine wpAny_bind (firsts_quads hq fun r hl hr=>?_)
 rw[pure_bind]
 have hall:(r.toArray.all fun x=>x.isSome)=true:=by
  simp only[List.all_toArray,List.all_eq_true]
  intro x hx
  obtain⟨n,t,rfl⟩:=hr x hx
  rfl
 rw[if_pos hall]
 refine wpAny_bind (wpAny_rule ?_)
 have hf:r.toArray.filterMap id=(r.filterMap id).toArray:=by simp
 have hi:IntsAre (r.filterMap id) ((r.filterMap id).map numOf):=intsAre_map _ fun v hv=>by
  obtain⟨x,hx,e⟩:=List.mem_filterMap.mp hv
  obtain⟨n,t,rfl⟩:=hr x hx
  cases e
  exact⟨n,t,rfl⟩
 have hne:r.filterMap id≠[]:=by
  obtain⟨x,r',rfl⟩:∃ x r',r=x::r':=by
   cases r with
   | nil=>simp at hl; exact(ω520 hl h2).elim
   | cons x r'=>exact⟨x,r',rfl⟩
  obtain⟨n,t,rfl⟩:=hr x (.head _)
  simp
 rw[hf]
 generalize r.filterMap id=us at hi hne
 rw[oneTypeOnly'_eq,List.mapM_toArray,mapM_typeOf_ints hi]
 simp only[map_pure,pure_bind]
 have hall2:((us.map fun _=>Value.type "int").toArray.all fun x=>x == Value.type "int")=true:=by
  simp only[List.all_toArray,List.all_map,List.all_eq_true]
  intro _ _
  rfl
 have h0:(us.map fun _=>Value.type "int").toArray[0]?=some (Value.type "int"):=by
  cases us with
  | nil=>exact absurd rfl hne
  | cons a b=>simp
 rw[h0]
 simp only[hall2,if_true,pure_bind]
 exact wpAny_pure h
end
section
variable {prog:Program}{w:World}{A:Around}{E:Value→Shared→Prop}{s:Shared}
theorem qarr {h h':Heap}{vs:List Value}{l:List Quad} (hq:QsAre h vs l) (hq':QsAre h' vs l) (nd:l.Nodup):QArr h' (keyQ h) (pairsOf vs):=by
 refine⟨fun x hx=>?_,?_⟩
 · rw[pairsOf_toList] at hx
   obtain⟨_,hm⟩:=mem_zip_self hx
   have:∀{vs:List Value}{l:List Quad},QsAre h vs l→QsAre h' vs l→∀ v∈vs,∃ q,IsQ h v q∧IsQ h' v q:=by
    intro vs l a
    induction a with
    | nil=>intro _ v hv; cases hv
    | cons a r ih=>
     intro b v hv
     cases b with
     | cons b r'=>
      rcases List.mem_cons.mp hv with rfl | hv
      · exact⟨_,a,b⟩
      · exact ih r' v hv
   obtain⟨q,a,b⟩:=this hq hq' x.1 hm
   rw[keyQ_of a]; exact b
 · rw[pairsOf_toList,hq.zip]; exact nd
theorem sorted_quads {h:Heap}{vs:List Value}{l:List Quad} (hq:QsAre h vs l) {xs:Array Keyed} (hp:xs.Perm (pairsOf vs)) (hs:SegS (keyQ h) xs 0 (pairsOf vs).size) :
 (xs.toList.map (keyQ h)).Perm l∧Ordered (xs.toList.map (keyQ h)):=by
 have hl:xs.toList.Perm (vs.zip vs):=by rw[← pairsOf_toList]; exact Array.perm_iff_toList_perm.mp hp
 refine⟨?_,?_⟩
 · have:=hl.map (keyQ h)
   rwa [hq.zip] at this
 · unfold Ordered
   rw[List.pairwise_map]
   have hsz:xs.size=(pairsOf vs).size:=hp.size_eq
   have:=seg_list hs
   rw[List.drop_zero,List.take_of_length_le (by rw[Array.length_toList,hsz]; exact Nat.le_refl _)] at this
   refine this.imp fun {a b} hab hba=>?_
   have h1:=qblt_iff.mp (show qblt (keyQ h a) (keyQ h b)=true from hab)
   unfold qlt at hba
   exact ω521 hba h1
theorem list_sort_quads {a:Addr}{vs:List Value}{l:List Quad}{n:Nat}{P:PySem.Fin→Shared→Prop} (ho:s.heap.get? a=some (seqObj "list" vs.toArray n)) (hq:QsAre s.heap vs l) (nd:l.Nodup) (h127:l.length≤127)
 (h:∀ xs:Array Keyed,xs.Perm (pairsOf vs)→(xs.toList.map (keyQ s.heap)).Perm l→Ordered (xs.toList.map (keyQ s.heap))→P (.done (.ret .none)) { s with heap:=sortedHeap s.heap a vs (xs.map (·.2)) }) :
 wpAny (model prog w) A (Builtin.«list.sort» ⟨[.ref a],[]⟩) P E s:=by
 have hlen:=hq.len
 rw[list_sort_plain]
 have ha:a<s.heap.objs.size:=Heap.lt_size ho
 refine wpAny_bind (listItems_at ho rfl ?_)
 refine wpAny_bind (listUpdate_at ho rfl ?_)
 obtain⟨e1,ho1⟩:∃ e1,(s.heap.update a (Obj.mapSeq fun _=>#[])).get? a=some (seqObj "list" #[] e1):=⟨_,get?_update_seq ho (fun _=>#[])⟩
 refine wpAny_bind (seqEpoch_at ho1 rfl ?_)
 refine wpAny_bind (wpAny_newTuple ?_)
 refine wpAny_bind (wpAny_newList ?_)
 refine wpAny_holding ?_
 have keep:∀ b o,b≠a→s.heap.get? b=some o→(((s.heap.update a (Obj.mapSeq fun _=>#[])).push (seqObj "tuple" vs.toArray 0)).push (seqObj "list" #[] 0)).get? b=some o:=fun b o hb hg=>by
  have hlt:=Heap.lt_size hg
  rw[Heap.get?_push_ne _ _ _ (by rw[size_push',Heap.size_update]; exact Nat.ne_of_lt (Nat.lt_succ_of_lt hlt)),Heap.get?_push_ne _ _ _ (by rw[Heap.size_update]; exact Nat.ne_of_lt hlt)]
  rw[Heap.get?_update_ne _ _ _ _ hb]
  exact hg
 have ho6:(((s.heap.update a (Obj.mapSeq fun _=>#[])).push (seqObj "tuple" vs.toArray 0)).push (seqObj "list" #[] 0)).get? a=some (seqObj "list" #[] e1):=by
  rw[Heap.get?_push_ne _ _ _ (by rw[size_push',Heap.size_update]; exact Nat.ne_of_lt (Nat.lt_succ_of_lt ha)),Heap.get?_push_ne _ _ _ (by rw[Heap.size_update]; exact Nat.ne_of_lt ha)]
  exact ho1
 show wpAny (model prog w) A _ P E { s with heap:=((s.heap.update a (Obj.mapSeq fun _=>#[])).push (seqObj "tuple" vs.toArray 0)).push (seqObj "list" #[] 0) }
 dsimp only
 have hq6:QsAre (((s.heap.update a (Obj.mapSeq fun _=>#[])).push (seqObj "tuple" vs.toArray 0)).push (seqObj "list" #[] 0)) vs l:=hq.to fun v q a=>a.to fun x xs n g=>keep x _ (fun z=>by rw[z,ho] at g; injection g with g; injection g with g; exact absurd g (by decide)) g
 by_cases h2:vs.toArray.size<2
 · rw[if_pos h2,if_pos h2]
   refine wpAny_bind (wpAny_pure ?_)
   rw[StateT.run_pure]
   refine wpAny_bind (wpAny_pure ?_)
   dsimp only
   refine wpAny_bind (seqEpoch_at ho6 rfl ?_)
   refine wpAny_bind (listUpdate_at ho6 rfl ?_ (hsz2:=by rw[Array.size_map]; show(pairsOf vs).size≤_; rw[pairsOf_size,sizeLine_eq]; exact ω523 hlen h127))
   simp only[bne_self_eq_false,Bool.false_eq_true,if_false]
   have sg:SegS (keyQ s.heap) (pairsOf vs) 0 (pairsOf vs).size:=fun i j x y _ h1 h3=>by
    rw[pairsOf_size] at h3; simp at h2; exact(ω524 h2 h3 h1).elim
   obtain⟨p1,p2⟩:=sorted_quads hq (Array.Perm.refl _) sg
   exact wpAny_pure (h _ (Array.Perm.refl _) p1 p2)
 · rw[if_neg h2,if_neg h2]
   have h2':2≤vs.length:=by simp at h2; omega
   refine wpAny_bind (keyKind_quads hq6 h2' ?_)
   refine wpAny_bind (wpAny_mono (wpS_sortRunsX (f:=true) (key:=keyQ s.heap) (a₀:=pairsOf vs) (st:=SortSt.mk' (tuples' true) (vs.toArray.zip vs.toArray) #[] 7 none)
    (Q:=fun _ st'=>AB true (pairsOf vs) st'∧SegS (keyQ s.heap) (arrOf st') 0 (pairsOf vs).size)
    (qarr hq hq6 nd) ⟨Array.Perm.refl _,⟨rfl,rfl⟩⟩ rfl (by rw[pairsOf_size]; exact h2') (by rw[pairsOf_size,hlen]; exact h127) fun st' a1 a2=>⟨a1,a2⟩) ?_ fun _ _ e=>e)
   rintro⟨⟨⟩,st'⟩ s' ⟨rfl,ab,hs⟩
   dsimp only at ab hs ⊢
   refine wpAny_bind (seqEpoch_at ho6 rfl ?_)
   refine wpAny_bind (listUpdate_at ho6 rfl ?_ (hsz2:=by refine Nat.le_trans (Nat.le_of_eq ((Array.size_map ..).trans (ab.size.trans (pairsOf_size _)))) ?_; rw[sizeLine_eq]; exact ω523 hlen h127))
   rw[ab.ok.failed]
   simp only[bne_self_eq_false,Bool.false_eq_true,if_false]
   obtain⟨p1,p2⟩:=sorted_quads hq ab.perm hs
   exact wpAny_pure (h _ ab.perm p1 p2)
theorem call_sorted_quads {l:Addr}{vs:List Value}{qs:List Quad}{Q:Value→Shared→Prop} (hl:s.heap.IsList l vs.toArray) (hq:QsAre s.heap vs qs) (nd:qs.Nodup) (h127:qs.length≤127)
 (h:∀(key:Keyed→Quad) (xs:Array Keyed),xs.Perm (pairsOf vs)→(xs.toList.map key).Perm qs→Ordered (xs.toList.map key)→(∀ p∈vs.zip vs,IsQ s.heap p.1 (key p))→Q (.ref (s.heap.objs.size+1)) { s with heap:=sortedAll s.heap vs (xs.map (·.2)) }) :
 wpAny (model prog w) A (call (.builtin "sorted") [.ref l]) Q E s:=by
 have hlen:=hq.len
 refine Calls.call_function_entry kind_sorted plain_sorted entry_sorted (args_sorted1 _) ?_
 unfold Builtin.«sorted»
 refine wpAny_bind (m:=checkCount "sorted" 1 1 _) (wpAny_pure ?_)
 refine wpAny_bind (collect_list hl ?_)
 refine wpAny_bind (wpAny_newList ?_)
 have hsz:((s.heap.push (seqObj "list" #[] 0)).update s.heap.objs.size (Obj.mapSeq (· ++ vs.toArray))).objs.size=s.heap.objs.size+1:=by
  rw[Heap.size_update,size_push']
 have hoL:(((s.heap.push (seqObj "list" #[] 0)).update s.heap.objs.size (Obj.mapSeq (· ++ vs.toArray))).push (seqObj "list" vs.toArray 0)).get? (s.heap.objs.size+1)=some (seqObj "list" vs.toArray 0):=by
  rw[← hsz]; exact Heap.get?_push_size _ rfl
 have keep:∀ b o,s.heap.get? b=some o→(((s.heap.push (seqObj "list" #[] 0)).update s.heap.objs.size (Obj.mapSeq (· ++ vs.toArray))).push (seqObj "list" vs.toArray 0)).get? b=some o:=fun b o hg=>by
  have hlt:=Heap.lt_size hg
  refine Heap.get?_push_of_some _ ?_
  rw[Heap.get?_update_ne _ _ _ _ (Nat.ne_of_lt hlt)]
  exact Heap.get?_push_of_some _ hg
 have up:∀ v q,IsQ s.heap v q→IsQ (((s.heap.push (seqObj "list" #[] 0)).update s.heap.objs.size (Obj.mapSeq (· ++ vs.toArray))).push (seqObj "list" vs.toArray 0)) v q:=fun v q a=>a.to fun x xs n g=>keep x _ g
 show wpAny _ _ _ _ _ { s with heap:=((s.heap.push (seqObj "list" #[] 0)).update s.heap.objs.size (Obj.mapSeq (· ++ vs.toArray))).push (seqObj "list" vs.toArray 0) }
 rw[hsz]
 refine wpAny_bind (wpAny_holding (wpAny_call_entry slot_list_sort ⟨_,hoL,rfl⟩ entry_list_sort (list_sort_quads hoL (hq.to up) nd h127 fun xs a1 a2 a3=>⟨_,rfl,?_⟩) (args_list_sort _)))
 refine wpAny_pure ⟨_,rfl,h _ xs a1 a2 a3 fun p hp=>?_⟩
 obtain⟨q,hq'⟩:=hq.mem p.1 (mem_zip_self hp).2
 rw[keyQ_of (p:=p) (up _ _ hq')]
 exact hq'
end
theorem VR.ofQ {μ:Mem}{h:Heap}{v:Value}{q q':Quad} (r:VR μ h v (mvQuad q)) (a:IsQ h v q'):VR μ h v (mvQuad q'):=by rw[← r.isQ.uniq a]; exact r
theorem vrs_mem {μ:Mem}{h:Heap}{vs:List Value}{l:List Quad} (r:VRs μ h vs (quadsM l)):∀ v∈vs,∃ q,VR μ h v (mvQuad q):=by
 induction l generalizing vs with
 | nil=>cases r; exact fun v hv=>nomatch hv
 | cons q l ih=>cases r with | cons a r=>exact fun v hv=>(List.mem_cons.mp hv).elim (fun e=>⟨q,e▸a⟩) (ih r v)
theorem vrs_of {μ:Mem}{h:Heap}{key:Keyed→Quad}:∀(ps:List Keyed),(∀ p∈ps,VR μ h p.2 (mvQuad (key p)))→VRs μ h (ps.map (·.2)) (quadsM (ps.map key))
 | [],_=>.nil
 | p::ps,hp=>.cons (hp p (.head _)) (vrs_of ps fun q hq=>hp q (.tail _ hq))
theorem sortOk (G:Gd):SortOk G:=fun n μ Φ a l e h127 nd q A fenv h₀ L s am i vs rs=>by
 cases rs with | cons ra rs=>cases rs with | nil=>
 rw[ra.isRef]
 obtain⟨us,k,g,r⟩:=i.list e
 have hl:s.heap.IsList a us.toArray:=isList_of g
 refine call_sorted_quads hl r.qs nd h127 fun key xs hp h1 h2 h3=>?_
 obtain⟨j,gj⟩:=sortedAll_at s.heap us (xs.map (·.2))
 have hmem:∀ p∈xs.toList,p.1=p.2∧p.1∈us∧p∈us.zip us:=fun p hp'=>by
  have hl:xs.toList.Perm (us.zip us):=by rw[← pairsOf_toList]; exact Array.perm_iff_toList_perm.mp hp
  have:=hl.mem_iff.mp hp'
  exact⟨(mem_zip_self this).1,(mem_zip_self this).2,this⟩
 have hv:VRs μ s.heap (xs.map (·.2)).toList (quadsM (xs.toList.map key)):=by
  rw[Array.toList_map]
  refine vrs_of xs.toList fun p hp'=>?_
  obtain⟨m1,m2,m3⟩:=hmem p hp'
  obtain⟨q',hq'⟩:=vrs_mem r p.1 m2
  have:=hq'.ofQ (h3 p m3)
  rwa [m1] at this
 refine post_list (tk:=s.toks) (vs:=(xs.map (·.2)).toList) i.sim (fun b o hb=>sortedAll_old hb) ?_ (by exact gj) hv fun c hc=>q _ h1 h2 c hc
 cases z:s.heap.get? (s.heap.objs.size+1) with
 | none=>rfl
 | some o=>exact absurd (show(s.heap.objs.size+1:Nat)<s.heap.objs.size from Heap.lt_size z) ω525
theorem intsVR {μ:Mem}{h:Heap}{vs:List Value}{ns:List Int} (r:IntsAre vs ns):VRs μ h vs (ns.map .int):=by
 induction r with
 | nil=>exact .nil
 | cons n t _ ih=>exact .cons (.int n t) ih
theorem WpE.sliceUptoB {G:Gd}{n:Nat}{cx:Cx}{μ:Mem}{Φ:MV→Mem→Prop}{value hi:Expr}{p pos:Pos}{k:Nat} (q:WpE G n cx μ value fun d μ₁=>WpE G n cx μ₁ hi fun a μ₂=>∃ l vs ns,d=.ref l∧G.base.IsList l (List.toArray vs)∧IntsAre vs ns∧a=.int k∧ns.length≤16777216∧∀ a,μ₂ a=Option.none→Φ (.ref a) (upd μ₂ a (.list ((ns.map MV.int).take k))))
 (ht:∀ o r,letTemporaryGo value o r=pure ():=by intro _ _; rfl) (hlo:∀ env,evalPart (some hi) env=eval hi env:=by intro _; rfl):WpE G n cx μ (.Subscript value (.Slice Option.none (some hi) Option.none p) pos) Φ:=fun A fenv h₀ L env s H=>by
 refine wpAny_Subscript_list_slice (wpAny_mono (q A fenv h₀ L env s H) (fun v s₁ q=>?_) fun _ _ f=>f) ht
 refine q.elim fun d μ₁ h₁ tk₁ x₁ S₁ r₁ q₁=>?_
 rw[evalPart_none,hlo]
 have H₁:=H.ext x₁ S₁
 refine wpAny_pure (wpAny_mono (q₁ A fenv h₀ L env { s with heap:=h₁,toks:=tk₁ } H₁) (fun v₂ s₂ q₂=>?_) fun _ _ f=>f)
 refine q₂.elim fun d₂ μ₂ h₂ tk₂ x₂ S₂ r₂ qq=>?_
 clear q₂
 obtain⟨l,vs,ns,rfl,gb,hI,rfl,hl,q₂⟩:=qq
 obtain⟨tk,rfl⟩:=r₂.isInt
 have H₂:=H₁.ext x₂ S₂
 obtain⟨mm,F⟩:=H₂.inv.fr
 have g:h₂.IsList l vs.toArray:=by
  obtain⟨o,g1,g2⟩:=gb
  exact⟨o,F.keep _ _ g1,g2⟩
 have r:VRs μ₂ h₂ vs (ns.map .int):=intsVR hI
 have hsz:vs.toArray.size≤sizeLine:=by rw[List.size_toArray,r.length,List.length_map]; exact hl
 refine⟨l,vs.toArray,Option.none,some (k:Int),r₁.isRef,g,hsz,.none,.int _ _,?_⟩
 have e1:slicePick vs.toArray Option.none (some (k:Int)) Option.none=(vs.take k).toArray:=slicePick_upto' _ _
 rw[e1]
 refine PostE.after (tk:=tk₂) (x₁.trans x₂) (post_list (j:=0) (s:={ s with heap:=h₂,toks:=tk₂ }) (tk:=tk₂) S₂ (fun b o e=>Heap.get?_push_of_some _ (Heap.get?_push_of_some _ e)) (Heap.get?_none_of_le (Nat.le_succ _)) ?_ (r.take k) q₂)
 have:=Heap.get?_push_size (h₂.push { cls:=.type "slice",data:=.fields #[.none,.int (k:Int) tk,.none] }) (o:={ cls:=.type "list",data:=.seq (vs.take k).toArray }) rfl
 rw[Heap.size_push] at this
 exact this
noncomputable def restr (S:List Addr) (μ:Mem):Mem:=fun b=>if b∈S then μ b else none
noncomputable def hideS (S:List Addr) (μ:Mem):Mem:=fun b=>if b∈S then none else μ b
theorem restr_in {S:List Addr}{μ:Mem}{b:Addr} (h:b∈S):restr S μ b=μ b:=if_pos h
theorem restr_out {S:List Addr}{μ:Mem}{b:Addr} (h:b∉S):restr S μ b=none:=if_neg h
theorem hide_in {S:List Addr}{μ:Mem}{b:Addr} (h:b∈S):hideS S μ b=none:=if_pos h
theorem hide_out {S:List Addr}{μ:Mem}{b:Addr} (h:b∉S):hideS S μ b=μ b:=if_neg h
theorem restr_le (S:List Addr) (μ:Mem):Le (restr S μ) μ:=fun b mo e=>by
 by_cases h:b∈S
 · rwa [restr_in h] at e
 · rw[restr_out h] at e; cases e
theorem hideS_le (S:List Addr) (μ:Mem):Le (hideS S μ) μ:=fun b mo e=>by
 by_cases h:b∈S
 · rw[hide_in h] at e; cases e
 · rwa [hide_out h] at e
theorem sub_restr {S:List Addr}{μ:Mem} (h:∀ b∈S,μ b≠none) (μ':Mem):sub (restr S μ) μ'=hideS S μ':=by
 funext b
 by_cases hb:b∈S
 · rw[hide_in hb,sub_in (by rw[restr_in hb]; exact h b hb)]
 · rw[hide_out hb,sub_out (restr_out hb)]
theorem restr_kept {S:List Addr}{μ μ':Mem} (h:∀ b∈S,μ b≠none) (l:Le (restr S μ) μ'):∀ b∈S,μ' b=μ b:=fun b hb=>by
 cases z:μ b with
 | none=>exact absurd z (h b hb)
 | some mo=>exact l _ _ (by rw[restr_in hb]; exact z)
theorem hideS_leB {S:List Addr}{μ μ':Mem}{c:Addr} (l:LeB c μ μ') (h:c∈S):Le (hideS S μ) (hideS S μ'):=fun b mo e=>by
 by_cases hb:b∈S
 · rw[hide_in hb] at e; cases e
 · rw[hide_out hb] at e ⊢
   exact l _ _ (fun z=>hb (z▸h)) e
theorem hideS_mono {S:List Addr}{μ μ':Mem} (l:Le μ μ'):Le (hideS S μ) (hideS S μ'):=fun b mo e=>by
 by_cases hb:b∈S
 · rw[hide_in hb] at e; cases e
 · rw[hide_out hb] at e ⊢
   exact l _ _ e
theorem hideS_cons {S:List Addr}{μ:Mem}{l:Addr}:Le (hideS (l::S) μ) (hideS S μ):=fun b mo e=>by
 by_cases hb:b∈l::S
 · rw[hide_in hb] at e; cases e
 · rw[hide_out hb] at e
   rw[hide_out (fun z=>hb (.tail _ z))]
   exact e
theorem hideS_fresh {S:List Addr}{μ:Mem}{l:Addr}{mo:MO} (h:μ l=none):hideS (l::S) (upd μ l mo)=hideS S μ:=by
 funext b
 by_cases hl:b=l
 · subst hl
   rw[hide_in (.head _)]
   by_cases hb:b∈S
   · rw[hide_in hb]
   · rw[hide_out hb,h]
 · by_cases hb:b∈S
   · rw[hide_in hb,hide_in (.tail _ hb)]
   · rw[hide_out hb,hide_out (fun z=>by rcases List.mem_cons.mp z with z | z; exact hl z; exact hb z),upd_ne _ _ hl]
noncomputable def Plain (μ:Mem) (S:List Addr):Prop:=∀ b∈S,(∃ l,μ b=some (.list l))∨∃ d,μ b=some (.cell d)
theorem Plain.some {μ:Mem}{S:List Addr} (p:Plain μ S):∀ b∈S,μ b≠none:=fun b hb=>by
 rcases p b hb with ⟨l,e⟩ | ⟨l,e⟩ <;> rw[e] <;> exact nofun
theorem Plain.noDict {μ:Mem}{S:List Addr} (p:Plain μ S):∀ b mo,restr S μ b=Option.some mo→NoDict mo:=fun b mo e=>by
 by_cases hb:b∈S
 · rw[restr_in hb] at e
   rcases p b hb with ⟨l,e'⟩ | ⟨l,e'⟩ <;> rw[e'] at e <;> cases e <;> trivial
 · rw[restr_out hb] at e; cases e
theorem mvRule_inj {r r':Rule} (h:mvRule r=mvRule r'):r=r':=by
 unfold mvRule at h
 injection h with h
 simp only[List.cons.injEq,MV.str.injEq,MV.tup.injEq,and_true] at h
 obtain⟨h1,h2⟩:=h
 refine Prod.ext h1 ?_
 unfold strsM at h2
 exact List.map_inj_right (fun a b e=>by injection e) |>.mp h2
theorem mem_rules {r:Rule}{l:List Rule}:mvRule r∈l.map mvRule↔r∈l:=by
 rw[List.mem_map]
 exact⟨fun ⟨r',h,e⟩=>mvRule_inj e▸h,fun h=>⟨r,h,rfl⟩⟩
theorem rule_ok {r:Rule} (h1:PyData.strOk r.1=true) (h2:∀ x∈r.2,PyData.strOk x=true):(mvRule r).ok=true:=by
 have h3:=oks_strs h2
 show((MV.str r.1).ok && ((MV.tup (strsM r.2)).ok && true))=true
 have e1:(MV.str r.1).ok=PyData.strOk r.1:=by simp[MV.ok]
 have e2:(MV.tup (strsM r.2)).ok=MV.oks (strsM r.2):=by simp[MV.ok]
 rw[e1,e2,h1]
 show(true && (MV.oks (strsM r.2) && true))=true
 unfold strsM
 rw[h3]; rfl
theorem deeps_strs (l:List Str):MV.deeps (strsM l)=0:=by
 induction l with
 | nil=>rfl
 | cons x l ih=>unfold strsM at *; simp[MV.deeps,MV.deep,ih]
theorem rule_deep (r:Rule):(mvRule r).deep≤30:=by
 have:=deeps_strs r.2
 simp[mvRule,MV.deep,MV.deeps,this]
theorem symsOf_syms (k:Nat) (t:List Nat):∀ x∈symsOf k t,x∈SYMS:=fun x hx=>by
 unfold symsOf at hx
 obtain⟨j,_,rfl⟩:=List.mem_map.mp hx
 unfold symAt
 have:∀ k,k<8→SYMBOLS.getD k "a"∈SYMS:=by decide +kernel
 exact this _ (Nat.mod_lt _ (by decide))
theorem rowOf_len (t:List Nat) (name:Str) (most:Nat):(rowOf t name most).2.length≤most:=by
 unfold rowOf symsOf
 rw[List.length_map,List.length_range]
 have:=Nat.mod_lt (nextP t) (show 0<most+1 by exact ω46)
 exact ω526 this
theorem rowOf_syms (t:List Nat) (name:Str) (most:Nat):∀ x∈(rowOf t name most).2,x∈SYMS:=symsOf_syms _ _
noncomputable def bodyOf:Option Obj→List Stmt
 | some o=>match o.data with
  | .func fd=>match fd.body with
   | .stmts b=>b
   | _=>[]
  | _=>[]
 | none=>[]
noncomputable def scopeOf:Option Obj→Scope
 | some o=>match o.data with
  | .func fd=>fd.scope
  | _=>default
 | none=>default
section
variable {G:Gd}{n:Nat}{cx:Cx}{μ:Mem}{Φ:MF→List (Str×MV)→Mem→Prop}
theorem law_intro {P:Params}{cl:List (Str×Addr)}{ρ:List (Str×MV)}{name qual:Str}{params:Arguments}{body:List Stmt}{scope:Scope}{dV kV doc pm cdv ct oc:Value}{an od:Option Addr}{osl:Array (Option Value)}
 (ho:List.lookup 351 (hd.heap_39 P)=some ⟨oc,od,.func (fnX name qual params body scope [] dV kV doc pm an cdv ct),osl⟩) (p:WpS G n ⟨scope,cl,ρ⟩ μ body Φ):WpS G n ⟨scopeOf (List.lookup 351 (hd.heap_39 P)),cl,ρ⟩ μ (bodyOf (List.lookup 351 (hd.heap_39 P))) Φ:=by
 rw[ho]; exact p
noncomputable def tapeOf (ns:List Int):List Nat:=(ns.take 22).map fun k=>(Int.fmod k 720720).toNat
theorem natsM_len (l:List Nat):(natsM l).length=l.length:=by unfold natsM; rw[List.length_map]
noncomputable def PlS (μ:Mem) (pa:Addr) (bs:List Addr) (pl:List (List Str)):Prop:=μ pa=some (.list (bs.map .ref))∧bs.length=pl.length∧∀(j:Nat) (b:Addr) (t:List Str),bs[j]?=some b→pl[j]?=some t→μ b=some (.list (strsM t))
theorem PlS.at {μ:Mem}{pa:Addr}{bs:List Addr}{pl:List (List Str)} (p:PlS μ pa bs pl):PlacesAt μ pa pl:=⟨bs,p⟩
theorem PlS.to {μ μ':Mem}{pa:Addr}{bs:List Addr}{pl:List (List Str)} (p:PlS μ pa bs pl) (h:∀ b∈pa::bs,μ' b=μ b):PlS μ' pa bs pl:=⟨(h _ (.head _)).trans p.1,p.2.1,fun j b t h1 h2=>(h _ (.tail _ (List.mem_of_getElem? h1))).trans (p.2.2 j b t h1 h2)⟩
theorem PlS.leB {μ μ':Mem}{pa u:Addr}{bs:List Addr}{pl:List (List Str)} (p:PlS μ pa bs pl) (l:LeB u μ μ') (h:u∉pa::bs):PlS μ' pa bs pl:=by
 obtain⟨p1,p2,p3⟩:=p
 refine⟨l _ _ (fun z=>h (by rw[← z]; exact .head _)) p1,p2,fun j b t h1 h2=>l _ _ (fun z=>h (by rw[← z]; exact .tail _ (List.mem_of_getElem? h1))) (p3 j b t h1 h2)⟩
theorem PlS.le {μ μ':Mem}{pa:Addr}{bs:List Addr}{pl:List (List Str)} (p:PlS μ pa bs pl) (l:Le μ μ'):PlS μ' pa bs pl:=
 ⟨l _ _ p.1,p.2.1,fun j b t h1 h2=>l _ _ (p.2.2 j b t h1 h2)⟩
theorem PlS.some {μ:Mem}{pa:Addr}{bs:List Addr}{pl:List (List Str)} (p:PlS μ pa bs pl):∀ b∈pa::bs,∃ l,μ b=Option.some (.list l):=fun b hb=>by
 rcases List.mem_cons.mp hb with rfl | hb
 · exact⟨_,p.1⟩
 · obtain⟨j,hj⟩:=List.getElem?_of_mem hb
   obtain⟨t,ht⟩:∃ t,pl[j]?=Option.some t:=⟨_,List.getElem?_eq_getElem (by have h1:=(List.getElem?_eq_some_iff.mp hj).1; rw[p.2.1] at h1; exact h1)⟩
   exact⟨_,p.2.2 j b t hj ht⟩
theorem PlS.snoc {μ:Mem}{pa b:Addr}{bs:List Addr}{pl:List (List Str)}{l:List Str} (p:PlS μ pa bs pl) (hb:μ b=Option.some (.list (strsM l))) (h:pa∉b::bs):PlS (upd μ pa (.list (bs.map .ref++[.ref b]))) pa (bs++[b]) (pl++[l]):=by
 obtain⟨p1,p2,p3⟩:=p
 refine⟨by rw[upd_same,List.map_append]; rfl,by simp[p2],fun j b' t h1 h2=>?_⟩
 by_cases hj:j<bs.length
 · rw[List.getElem?_append_left hj] at h1
   rw[List.getElem?_append_left (ω527 hj p2)] at h2
   rw[upd_ne _ _ (fun z=>h (by rw[← z]; exact .tail _ (List.mem_of_getElem? h1)))]
   exact p3 j b' t h1 h2
 · have:j=bs.length:=by have:=(List.getElem?_eq_some_iff.mp h1).1; simp at this; exact ω113 this hj
   subst this
   rw[List.getElem?_append_right (Nat.le_refl _)] at h1
   rw[p2,List.getElem?_append_right (Nat.le_refl _)] at h2
   simp at h1 h2
   subst h1 h2
   rw[upd_ne _ _ (fun z=>h (by rw[← z]; exact .head _))]
   exact hb
theorem noPy (x:Int):∀ k,k<4→Builtin.divisionGoesByPylong x ((2:Int) ^ k)=false∧(2:Int) ^ k≠0:=
 upto3 ⟨by rfl,by decide⟩ ⟨by rfl,by decide⟩ ⟨by rfl,by decide⟩ ⟨by rfl,by decide⟩
theorem rowRest_len (t:List Nat) (most:Nat):(rowRest t most).length≤t.length-1:=by
 unfold rowRest
 rw[List.length_drop,List.length_tail]
 exact ω528
structure RuOk (rs:List Rule):Prop where
 name:∀ r∈rs,r.1∈NAMES
 syms:∀ r∈rs,∀ x∈r.2,x∈SYMS
 len:∀ r∈rs,r.2.length≤3
 nodup:rs.Nodup
 size:3≤rs.length∧rs.length≤4
 weight:((RULES rs).map fun r=>4+10*r.2.length).sum≤96+24*(rs.length-3)
 S:∃ r∈rs,r.1="S"
theorem RuOk.first (t t1 t2:List Nat):RuOk [rowOf t "S" 3,rowOf t1 "A" 2,rowOf t2 "B" 2] where
 name:=fun r hr=>by
  simp only[List.mem_cons,List.not_mem_nil,or_false] at hr
  rcases hr with rfl | rfl | rfl
  · show("S":Str)∈NAMES; decide +kernel
  · show("A":Str)∈NAMES; decide +kernel
  · show("B":Str)∈NAMES; decide +kernel
 syms:=fun r hr=>by
  simp only[List.mem_cons,List.not_mem_nil,or_false] at hr
  rcases hr with rfl | rfl | rfl <;> exact rowOf_syms _ _ _
 len:=fun r hr=>by
  simp only[List.mem_cons,List.not_mem_nil,or_false] at hr
  rcases hr with rfl | rfl | rfl
  · exact rowOf_len _ _ _
  · exact Nat.le_succ_of_le (rowOf_len _ _ _)
  · exact Nat.le_succ_of_le (rowOf_len _ _ _)
 nodup:=by
  refine List.nodup_cons.mpr ⟨fun h=>?_,List.nodup_cons.mpr ⟨fun h=>?_,List.nodup_cons.mpr ⟨by simp,.nil⟩⟩⟩
  · simp only[List.mem_cons,List.not_mem_nil,or_false] at h
    rcases h with h | h
    · exact absurd (show("S":Str)="A" from congrArg Prod.fst h) (by decide)
    · exact absurd (show("S":Str)="B" from congrArg Prod.fst h) (by decide)
  · simp only[List.mem_cons,List.not_mem_nil,or_false] at h
    exact absurd (show("A":Str)="B" from congrArg Prod.fst h) (by decide)
 size:=by simp
 weight:=by
  have h1:=rowOf_len t "S" 3
  have h2:=rowOf_len t1 "A" 2
  have h3:=rowOf_len t2 "B" 2
  simp only[List.map_cons,List.map_nil,List.sum_cons,List.sum_nil,List.length_cons,List.length_nil]
  exact ω529 h2 h3 h1
 S:=⟨_,.head _,rfl⟩
theorem RuOk.add {rs:List Rule} (o:RuOk rs) (h3:rs.length=3) {r:Rule} (h1:r.1∈NAMES) (h2:∀ x∈r.2,x∈SYMS) (hl:r.2.length≤2) (hn:r∉rs):RuOk (rs++[r]) where
 name:=fun r' hr=>by
  rcases List.mem_append.mp hr with h | h
  · exact o.name _ h
  · rw[List.mem_singleton.mp h]; exact h1
 syms:=fun r' hr=>by
  rcases List.mem_append.mp hr with h | h
  · exact o.syms _ h
  · rw[List.mem_singleton.mp h]; exact h2
 len:=fun r' hr=>by
  rcases List.mem_append.mp hr with h | h
  · exact o.len _ h
  · rw[List.mem_singleton.mp h]; exact ω530 hl
 nodup:=nodup_snoc o.nodup hn
 size:=by simp; exact ω531 h3
 weight:=by
  have:=o.weight
  simp only[List.map_cons,List.map_append,List.map_nil,List.sum_cons,List.sum_append,List.sum_nil,List.length_append,List.length_cons,List.length_nil] at this ⊢
  exact ω532 this h3 hl
 S:=let ⟨r',h,e⟩:=o.S; ⟨r',List.mem_append_left _ h,e⟩
theorem RuOk.fresh {rs:List Rule} (o:RuOk rs) {k:Nat}{r:Rule} (hk:rs[k]?=some r):∀ r'∈rs.take k,mapKey r'≠mapKey r:=fun r' hr' e=>by
 have hm:=List.mem_of_mem_take hr'
 have hr:=List.mem_of_getElem? hk
 have:=mapKey_inj (o.len _ hm) (o.syms _ hm) (o.name _ hm) (o.len _ hr) (o.syms _ hr) (o.name _ hr) e
 subst this
 exact not_mem_take o.nodup hk hr'
structure LSt (tp ru c pa:Addr) (bs:List Addr) (t:List Nat) (pl:List (List Str)) (rs:List Rule) (μ:Mem):Prop where
 et:μ tp=some (.list (natsM t))
 er:μ ru=some (.list ((RULES rs).map mvRule))
 em:∃ d,μ c=some (.cell d)
 hp:PlS μ pa bs pl
theorem LSt.plain {tp ru c pa:Addr}{bs:List Addr}{t:List Nat}{pl:List (List Str)}{rs:List Rule}{μ:Mem} (s:LSt tp ru c pa bs t pl rs μ):Plain μ (tp::ru::c::pa::bs):=fun b hb=>by
 rcases List.mem_cons.mp hb with rfl | hb
 · exact .inl ⟨_,s.et⟩
 · rcases List.mem_cons.mp hb with rfl | hb
   · exact .inl ⟨_,s.er⟩
   · rcases List.mem_cons.mp hb with rfl | hb
     · exact .inr s.em
     · exact .inl (s.hp.some b hb)
theorem LSt.le {tp ru c pa:Addr}{bs:List Addr}{t:List Nat}{pl:List (List Str)}{rs:List Rule}{μ μ':Mem} (s:LSt tp ru c pa bs t pl rs μ) (l:Le μ μ'):LSt tp ru c pa bs t pl rs μ':=
 ⟨l _ _ s.et,l _ _ s.er,let ⟨d,h⟩:=s.em; ⟨d,l _ _ h⟩,s.hp.le l⟩
theorem LSt.kept {tp ru c pa:Addr}{bs:List Addr}{t:List Nat}{pl:List (List Str)}{rs:List Rule}{μ μ':Mem} (s:LSt tp ru c pa bs t pl rs μ) (h:∀ b∈tp::ru::c::pa::bs,μ' b=μ b):LSt tp ru c pa bs t pl rs μ':=
 ⟨(h _ (.head _)).trans s.et,(h _ (.tail _ (.head _))).trans s.er,let ⟨d,e⟩:=s.em; ⟨d,(h _ (.tail _ (.tail _ (.head _)))).trans e⟩,s.hp.to fun b hb=>h b (.tail _ (.tail _ (.tail _ hb)))⟩
theorem LSt.tape {tp ru c pa:Addr}{bs:List Addr}{t t':List Nat}{pl:List (List Str)}{rs:List Rule}{μ μ':Mem} (s:LSt tp ru c pa bs t pl rs μ) (nd:(tp::ru::c::pa::bs).Nodup) (l:LeB tp μ μ') (e:μ' tp=some (.list (natsM t'))):LSt tp ru c pa bs t' pl rs μ':=by
 have h:=(List.nodup_cons.mp nd).1
 exact⟨e,l _ _ (fun z=>h (by rw[← z]; exact .head _)) s.er,let ⟨d,h'⟩:=s.em; ⟨d,l _ _ (fun z=>h (by rw[← z]; exact .tail _ (.head _))) h'⟩,s.hp.leB l (fun z=>h (.tail _ (.tail _ z)))⟩
theorem syms_keys:∀ x∈SYMS,x∈KEYS:=by decide +kernel
theorem der_le {rules:List Rule}{pl:List (List Str)}{x:Str}{p:Pair} (h:Der rules pl x p):p.1≤p.2:=
 Der.rec (motive_1:=fun _ p _=>p.1≤p.2) (motive_2:=fun _ p _=>p.1≤p.2) (fun _ _ _=>Nat.le_succ _) (fun _ _ k=>k) (fun _=>Nat.le_refl _) (fun _ _ a b=>Nat.le_trans a b) h
theorem front_le {rules:List Rule}{pl:List (List Str)}{sp:Str→List Pair} (hd:∀ x p,p∈sp x→Der rules pl x p) {r:List Str}:∀ d p,p∈frontAt sp pl.length r d→p.1≤p.2
 | 0,p,h=>Nat.le_of_eq (mem_diag.mp h).1
 | d+1,p,h=>by
  obtain⟨m,h1,h2⟩:=mem_joined.mp h
  have a:=front_le hd d _ h1
  have b:=der_le (hd _ _ h2)
  dsimp only at a b
  exact ω171 a b
theorem due_valid {rules:List Rule}{pl:List (List Str)}{sp:Str→List Pair} (hs:∀ x,Small pl.length (sp x)) (hd:∀ x p,p∈sp x→Der rules pl x p) {q:Quad} (h:Due rules sp pl.length q):Valid rules pl q:=by
 refine ex1_4 (h) fun r h1 _ h3 h4=>?_
 refine⟨r,h1,h3,front_le hd _ _ h4,((frontAt_ok hs _).2 _ h4).2,fun z=>?_⟩
 rw[z] at h4
 exact(mem_diag.mp h4).1
theorem GS.off {μ μ':Mem}{a:GA}{head:MV}{pas:List Addr}{rs:List Rule}{c b c0:Nat}{p0 dp0:Addr}{r0:Rule}{nx0:MV} (x:GS μ a head pas rs c b) (pr:ProdAt μ p0 dp0 c0 0 r0 nx0) (h:∀ y,y≠p0→y≠dp0→μ' y=μ y):GS μ' a head pas rs c b:=by
 obtain⟨q1,ps,q2,_,_,q3,q4,_⟩:=pr
 have keep:∀{y:Addr}{mo:MO},μ y=some mo→mo≠.inst 100 dp0→(∀ fs,mo=.idict fs→atM fs "number"≠some (.int ((0:Nat):Int))∨atM fs "prod" = none)→μ' y=some mo:=fun {y mo} e h1 h2=>by
  rw[h y (fun z=>by rw[z,q1] at e; cases e; exact h1 rfl) (fun z=>by
   rw[z,q2] at e; cases e
   rcases h2 ps rfl with h3 | h3
   · exact h3 q4
   · rw[q3] at h3; cases h3)]
  exact e
 have ct:∀{D:Addr}{ok:Str→Prop},Counts μ D b ok→Counts μ' D b ok:=fun {D ok} ⟨es,h1,h2,h3⟩=>
  ⟨es,keep h1 nofun nofun,h2,fun y v hy=>let ⟨h4,l,k,h5,h6,h7⟩:=h3 y v hy; ⟨h4,l,k,h5,keep h6 nofun nofun,h7⟩⟩
 refine ex1_3 (x.flds) fun fs f1 f2 f3=>?_
 refine ex2_4 (x.names) fun es adr n1 n2 n3 n4=>?_
 obtain⟨ms,m1,m2⟩:=x.map
 refine⟨keep x.inst (fun z=>by injection z with z; exact absurd z (by decide)) nofun,⟨fs,keep f1 nofun (fun fs' z=>by cases z; exact .inr f2.m4),f2,f3⟩,keep x.prods nofun nofun,x.len,fun j p r h1 h2=>?_,⟨es,adr,keep n1 nofun nofun,n2,fun y=>?_,n4⟩,⟨ms,keep m1 nofun nofun,m2⟩,ct x.terms,ct x.nons,keep x.prec nofun nofun,fun r hr=>?_,x.sep⟩
 · obtain⟨dp,nx,g1,fs',g2,g3,g4,g5,g6⟩:=x.each j p r h1 h2
   have nd:dp≠dp0:=fun z=>by
    rw[z,q2] at g2; cases g2
    rw[q4] at g6
    have:=g6.1
    injection this with this; injection this with this
    omega
   refine⟨dp,nx,keep g1 (fun z=>nd (by injection z)) nofun,fs',keep g2 nofun (fun fs2 z=>by cases z; exact .inl (by rw[g6.1]; exact num_ne ω240)),g3,g4,g5,g6⟩
 · have:=n3 y
   split
   · rename_i hz; rw[if_pos hz] at this; exact this
   · rename_i hz; rw[if_neg hz] at this; exact⟨this.1,keep this.2.1 nofun nofun,this.2.2⟩
 · refine ex2_2 (x.start r hr) fun es v h1 h2=>?_
   exact⟨es,v,keep h1 nofun nofun,h2⟩
theorem ProdL.le {μ μ':Mem}{pas:List Addr}{rs:List Rule}{it:Nat→Addr}{p:Addr}{c j:Nat}{r:Rule} (x:ProdL μ pas rs it p c j r) (l:Le μ μ'):ProdL μ' pas rs it p c j r:=by
 obtain⟨⟨dp,h1⟩,h2⟩:=x
 refine⟨⟨dp,h1.le l⟩,fun k hk=>?_⟩
 refine ex2_2 (h2 k hk) fun dd fs h3 h4=>?_
 exact⟨dd,fs,h3.le l,h4⟩
theorem quads_deep (l:List Quad):MV.deeps (quadsM l)≤30:=by
 have:∀ l:List Quad,MV.deeps (quadsM l)≤1:=by
  intro l
  induction l with
  | nil=>simp[quadsM,MV.deeps]
  | cons q l ih=>
   unfold quadsM at *
   simp only[List.map_cons,MV.deeps,mvQuad,MV.deep] at *
   exact ω533 ih
 exact Nat.le_trans (this l) (by decide)
theorem law_walk (g:Law G) {P:Params}{c a:Addr}{vs:List Value}{ns:List Int} (hmask:μ c=some (.cell none)) (hb:G.base.IsList a vs.toArray) (hI:IntsAre vs ns) (hlen:ns.length≤63) :
 WpS G (n+10) ⟨scopeOf (List.lookup 351 (hd.heap_39 P)),[("mask",c)],[("script",.ref a)]⟩ μ (bodyOf (List.lookup 351 (hd.heap_39 P))) (fun f _ _=>f=.ret (.bool true)):=by
 refine law_intro (by rfl) ?_
 have tl:(tapeOf ns).length≤22:=by unfold tapeOf; rw[List.length_map,List.length_take]; exact ω534
 refine WpS.cut (fun ρ μ'=>Lk ρ "script" (.ref a)∧∃ tp,Lk ρ "tape" (.ref tp)∧μ' tp=some (.list (natsM (tapeOf ns)))∧μ' c=some (.cell none)∧tp≠c) (WpS1.assignComp [] (WpIt.list (WpE.sliceUptoB (k:=22) (WpE.loc rfl (WpE.int ?_)))) (closure_nil rfl)) ?_
 · refine⟨a,vs,ns,rfl,hb,hI,rfl,ω536 hlen,fun l hl=>⟨l,_,rfl,upd_same _ _ _,.inr ⟨rfl,fun _ _=>rfl⟩,22,(fun k ds μ'=>k≤(tapeOf ns).length∧ds=natsM ((tapeOf ns).take k)∧upd μ l (.list ((ns.map MV.int).take 22))=μ'),by decide,⟨Nat.zero_le _,rfl,rfl⟩,?_⟩⟩
   rintro k ds _ ⟨hk,rfl,rfl⟩
   refine⟨ω537 tl hk,_,⟨_,upd_same _ _ _,rfl⟩,?_⟩
   have e:((ns.map MV.int).take 22)[k]?=((ns.take 22)[k]?).map MV.int:=by rw[← List.map_take,List.getElem?_map]
   rw[e]
   cases hx:(ns.take 22)[k]? with
   | some x=>
    have hklt:=(List.getElem?_eq_some_iff.mp hx).1
    have hkt:k<(tapeOf ns).length:=by unfold tapeOf; rw[List.length_map]; exact hklt
    refine⟨ω538 hkt tl,fun ρ=>WpA.name (WpIfs.nil ?_)⟩
    refine ite_t rfl (WpE.bin (WpE.loc rfl (WpE.int (o_mod (by decide) ⟨ω55 hkt,?_,rfl⟩))))
    have h1:(tapeOf ns)[k]?=some (Int.fmod x 720720).toNat:=by unfold tapeOf; rw[List.getElem?_map,hx]; rfl
    rw[take_snoc h1]
    unfold natsM
    rw[List.map_append]
    have h2:0≤Int.fmod x 720720:=Int.fmod_nonneg_of_pos _ (by decide)
    show _ = _++[MV.int (((Int.fmod x 720720).toNat:Nat):Int)]
    rw[Int.toNat_of_nonneg h2]
   | none=>
    have hkn:(tapeOf ns).length≤k:=by unfold tapeOf; rw[List.length_map]; exact List.getElem?_eq_none_iff.mp hx
    intro tp htp
    rw[List.take_of_length_le hkn]
    have nc:tp≠c:=fun z=>by
     rw[z] at htp
     have:=Le.upd (mo:=.list ((ns.map MV.int).take 22)) hl _ _ hmask
     rw[this] at htp; cases htp
    refine⟨rfl,rfl,tp,rfl,upd_same _ _ _,?_,nc⟩
    rw[upd_ne _ _ (Ne.symm nc)]
    exact Le.upd hl _ _ hmask
 rintro ρ1 μ1 ⟨_,tp,l1,et,em,ntc⟩
 clear hb hI hlen hmask
 generalize tapeOf ns=t0 at tl et
 refine WpS.cons (WpS1.assign (WpE.list (WpEs.nil ⟨by simp,fun pa hpa=>?_⟩)))
 change μ1 pa=none at hpa
 have et2:=Le.upd (mo:=.list []) hpa _ _ et
 have em2:=Le.upd (mo:=.list []) hpa _ _ em
 have ep2:upd μ1 pa (.list []) pa=some (.list []):=upd_same _ _ _
 have np:pa≠tp∧pa≠c:=⟨fun z=>by(rw[z,et] at hpa; cases hpa),fun z=>by(rw[z,em] at hpa; cases hpa)⟩
 have k1:Lk ((("places":Str),MV.ref pa)::ρ1) "tape" (.ref tp):=l1
 have k2:Lk ((("places":Str),MV.ref pa)::ρ1) "places" (.ref pa):=rfl
 show WpS G (n+10) _ (upd μ1 pa (.list [])) _ _
 generalize upd μ1 pa (.list [])=μ2 at et2 em2 ep2
 clear et em hpa
 refine WpS.cut (fun ρ μ'=>∃ t pl bs,Lk ρ "tape" (.ref tp)∧Lk ρ "places" (.ref pa)∧μ' tp=some (.list (natsM t))∧t.length≤22∧PlS μ' pa bs pl∧pl.length≤3∧(∀ t∈pl,t.length≤10∧∀ x∈t,x∈TOKENS)∧(∃ d,μ' c=some (.cell d))∧(tp::c::pa::bs).Nodup) (WpS1.for_ (WpIt.range (bn_range g) (WpE.bin (WpE.callG (gn__law_next g) (gk__law_next g) (WpEs.cons (WpE.loc k1 (WpEs.nil ?_))))))) ?_
 · refine c_nextN g et2 (ω539 tl) fun μ3 e3 l3 _=>WpE.int (o_mod (by decide) ?_)
   have h4:Int.fmod (nextP t0:Int) 4=((nextP t0 % 4:Nat):Int):=fmod_nat _ 4
   have hc3:nextP t0 % 4≤3:=by have:=Nat.mod_lt (nextP t0) (show 0<4 by decide); exact ω540
   rw[h4]
   generalize nextP t0 % 4=cnt at hc3
   refine⟨_,rfl,ω34,ω101 hc3,.inr ⟨rfl,fun _ _=>rfl⟩,cnt,(fun k ρ μ'=>k≤cnt∧∃ t pl bs,Lk ρ "tape" (.ref tp)∧Lk ρ "places" (.ref pa)∧μ' tp=some (.list (natsM t))∧t.length≤22∧PlS μ' pa bs pl∧pl.length=k∧(∀ t∈pl,t.length≤10∧∀ x∈t,x∈TOKENS)∧(∃ d,μ' c=some (.cell d))∧(tp::c::pa::bs).Nodup),
    ⟨Nat.zero_le _,t0.tail,[],[],k1,k2,e3,by rw[List.length_tail]; exact ω541 tl,⟨l3 _ _ np.1 ep2,rfl,fun j b t h=>by simp at h⟩,rfl,by simp,⟨_,l3 _ _ (Ne.symm ntc) em2⟩,?_⟩,?_⟩
   · refine List.nodup_cons.mpr ⟨?_,List.nodup_cons.mpr ⟨?_,by simp⟩⟩
     · intro z
       simp only[List.mem_cons,List.not_mem_nil,or_false] at z
       rcases z with z | z
       · exact ntc z
       · exact np.1 z.symm
     · intro z
       simp only[List.mem_cons,List.not_mem_nil,or_false] at z
       exact np.2 z.symm
   · clear e3 l3 et2 em2 ep2 k1 k2 tl
     rintro k ρ μ4 ⟨hk,t,pl,bs,k1,k2,et,tl,hp,hpl,htok,⟨dm,em⟩,nd⟩
     refine⟨hk,_,rfl,?_⟩
     by_cases hlt:k<cnt
     · rw[if_pos (ω51 hlt)]
       refine⟨hlt,WpA.name ?_⟩
       have ne1:tp∉c::pa::bs:=(List.nodup_cons.mp nd).1
       have nd1:=(List.nodup_cons.mp nd).2
       have ne2:c∉pa::bs:=(List.nodup_cons.mp nd1).1
       have nd2:=(List.nodup_cons.mp nd1).2
       have ne3:pa∉bs:=(List.nodup_cons.mp nd2).1
       refine WpS.cons (WpS1.assignC (WpE.bin (WpE.callG (gn__law_next g) (gk__law_next g) (WpEs.cons (WpE.loc (show Lk (_::ρ) "tape" (.ref tp) from k1) (WpEs.nil ?_))))) (by rfl))
       refine c_nextN g et (ω539 tl) fun μ5 e5 l5 _=>WpE.int (o_mod (by decide) ?_)
       have em5:μ5 c=some (.cell dm):=l5 _ _ (fun z=>ne1 (by rw[z]; exact .head _)) em
       refine⟨⟨_,em5⟩,?_⟩
       have hp5:=hp.leB l5 (fun z=>ne1 (.tail _ z))
       have lc:LeB c μ5 (upd μ5 c (.cell (some (.int (Int.fmod (nextP t) 16))))):=LeB.upd _ _ _
       have hp6:=hp5.leB lc ne2
       have e6:=lc _ _ (fun z=>ne1 (by rw[z]; exact .head _)) e5
       have em6:upd μ5 c (.cell (some (.int (Int.fmod (nextP t) 16)))) c=some (.cell (some (.int (Int.fmod (nextP t) 16)))):=upd_same _ _ _
       show WpS G (n+10) _ (upd μ5 c (.cell (some (.int (Int.fmod (nextP t) 16))))) _ _
       generalize Int.fmod (nextP t:Int) 16=mk at em6 e6 hp6 lc
       generalize upd μ5 c (.cell (some (.int mk)))=μ6 at em6 e6 hp6
       clear hp5 lc em5 l5 e5 em et hp
       refine WpS.cons (WpS1.expr (WpE.methB (id:="list.append") _ (WpE.loc (show Lk (_::ρ) "places" (.ref pa) from k2) ?_)))
       refine⟨gets_list hp6.1 PySem.F.slot_list_append PySem.F.type_list_append,WpEs.cons (WpE.comp [("mask",c)] (WpIt.enum (bn_enumerate g) (WpE.callG0 (gn__law_TOKENS g) (gk__law_TOKENS g) (c_TOKENS g fun q hq=>?_))) ?_)⟩
       · refine⟨q,_,rfl,upd_same _ _ _,.inl ⟨_,_,_,rfl⟩,4,(fun k ds μ'=>k≤4∧(∃ l:List Str,ds=strsM l∧l.length≤k∧∀ x∈l,x∈TOKENS)∧upd μ6 q (.list (strsM TOKENS))=μ'),by decide,⟨ω96,⟨[],rfl,by simp,by simp⟩,rfl⟩,?_⟩
         have lq:=Le.upd (mo:=.list (strsM TOKENS)) hq
         have eq7:upd μ6 q (.list (strsM TOKENS)) q=some (.list (strsM TOKENS)):=upd_same _ _ _
         have em7:=lq _ _ em6
         have e7:=lq _ _ e6
         have hp7:=hp6.le lq
         clear em6 e6 hp6 lq hq
         generalize upd μ6 q (.list (strsM TOKENS))=μ7 at *
         rintro j ds _ ⟨hj,⟨l,rfl,hl1,hl2⟩,rfl⟩
         refine⟨hj,_,⟨_,eq7,rfl⟩,?_⟩
         cases hx:TOKENS[j]? with
         | some x=>
          have hj4:j<4:=(List.getElem?_eq_some_iff.mp hx).1
          rw[show(strsM TOKENS)[j]?=some (.str x) by unfold strsM; rw[List.getElem?_map,hx]; rfl]
          refine⟨hj4,fun ρ'=>WpA.tup (WpAs.cons (WpA.name (WpAs.cons (WpA.name (WpAs.nil (WpIfs.one ?_))))))⟩
          refine WpT.cmp (WpE.bin (WpE.bin (WpE.cellv (.inl rfl) (c:=c) rfl em7 ?_ rfl)))
          refine WpE.bin (WpE.int (WpE.loc rfl (o_pow ω34 (ω542 hj4) (by decide) ?_)))
          rw[Int.toNat_natCast]
          obtain⟨py1,py2⟩:=noPy mk j hj4
          refine o_fdiv py2 py1 (WpE.int (o_mod (by decide) (WpE.int (o_eqI ⟨_,rfl,?_⟩))))
          have hxt:x∈TOKENS:=List.mem_of_getElem? hx
          cases (Int.fmod (Int.fdiv mk (2 ^ j)) 2 == 1) with
          | true=>
           refine ite_t rfl (WpE.loc rfl ⟨ω98 hj4,⟨l++[x],by simp[strsM],by simp; omega,fun y hy=>?_⟩,rfl⟩)
           rcases List.mem_append.mp hy with h | h
           · exact hl2 y h
           · rw[List.mem_singleton.mp h]; exact hxt
          | false=>exact ite_f (by decide) ⟨ω98 hj4,⟨l,rfl,ω15 hl1,hl2⟩,rfl⟩
         | none=>
          rw[show(strsM TOKENS)[j]?=none by unfold strsM; rw[List.getElem?_map,hx]; rfl]
          intro b hb
          have lb:=Le.upd (mo:=.list (strsM l)) hb
          have hp8:=hp7.le lb
          have hbs:=hp7.some
          have nb:b∉tp::c::pa::bs:=fun z=>by
           rcases List.mem_cons.mp z with z | z
           · rw[z,e7] at hb; cases hb
           · rcases List.mem_cons.mp z with z | z
             · rw[z,em7] at hb; cases hb
             · obtain⟨_,e⟩:=hbs b z
               rw[e] at hb; cases hb
          have npb:pa∉b::bs:=fun z=>by
           rcases List.mem_cons.mp z with z | z
           · exact nb (by rw[← z]; exact .tail _ (.tail _ (.head _)))
           · exact ne3 z
          have bl:bs.length=pl.length:=hp7.2.1
          refine WpEs.nil (o_append hp8.1 (by rw[List.length_map]; exact ω543 hlt bl hpl hc3) ⟨rfl,WpS.nil ⟨ω55 hlt,t.tail,pl++[l],bs++[b],k1,k2,?_,by rw[List.length_tail]; exact ω541 tl,hp8.snoc (upd_same _ _ _) npb,by simp[hpl],fun u hu=>?_,⟨some (.int mk),?_⟩,?_⟩⟩)
          · rw[upd_ne _ _ (fun z=>ne1 (by rw[z]; exact .tail _ (.head _)))]; exact lb _ _ e7
          · rcases List.mem_append.mp hu with h | h
            · exact htok u h
            · rw[List.mem_singleton.mp h]; exact⟨ω544 hj hl1,hl2⟩
          · rw[upd_ne _ _ (fun z=>ne2 (by rw[z]; exact .head _))]; exact lb _ _ em7
          · have:tp::c::pa::(bs++[b])=(tp::c::pa::bs)++[b]:=rfl
            rw[this]
            exact nodup_snoc nd nb
       · intro env _ h
         obtain⟨sc,lo,gl,ce,qu,fu,co,fr,bu⟩:=env
         simp only at h
         subst h
         rfl
     · rw[if_neg (ω56 hlt)]
       exact⟨rfl,t,pl,bs,k1,k2,et,tl,hp,ω545 hpl hc3 hk,htok,⟨dm,em⟩,nd⟩
 clear k1 k2 et2 em2 ep2 np tl l1 ntc
 intro ρ2 μ3 hh_
 refine ex3_9 hh_ fun t pl bs k1 k2 et tl hp hpl htok hem nd=>?_
 clear hh_
 refine WpS.cut (fun ρ μ'=>∃ t ru rs,Lk ρ "tape" (.ref tp)∧Lk ρ "places" (.ref pa)∧Lk ρ "rules" (.ref ru)∧t.length≤22∧LSt tp ru c pa bs t pl rs μ'∧(tp::ru::c::pa::bs).Nodup∧RuOk rs∧rs.length=3) (WpS1.assign ?_) ?_
 · refine WpE.list (WpEs.cons (WpE.tuple (WpEs.cons (WpE.str (WpEs.cons (WpE.tuple (WpEs.cons (WpE.str (WpEs.nil ⟨by simp,WpEs.nil ⟨by simp,?_⟩⟩)))))))))
   refine WpEs.cons (WpE.callG (gn__law_row g) (gk__law_row g) (WpEs.cons (WpE.loc k1 (WpEs.cons (WpE.str (WpEs.cons (WpE.int (WpEs.nil ?_))))))))
   have hS3:=(List.nodup_cons.mp nd).1
   have hc3:c∉pa::bs:=(List.nodup_cons.mp (List.nodup_cons.mp nd).2).1
   have mv:∀{μ μ':Mem},PlS μ pa bs pl→(∃ d,μ c=some (.cell d))→LeB tp μ μ'→PlS μ' pa bs pl∧∃ d,μ' c=some (.cell d):=fun h ⟨d,h'⟩ l=>⟨h.leB l (fun z=>hS3 (.tail _ z)),d,l _ _ (fun z=>hS3 (by rw[← z]; exact .head _)) h'⟩
   refine c_row g et (ω546 tl) (most:=3) (by decide) fun μ4 e4 l4=>?_
   obtain⟨hp4,em4⟩:=mv hp hem l4
   have t4:=rowRest_len t 3
   refine WpEs.cons (WpE.callG (gn__law_row g) (gk__law_row g) (WpEs.cons (WpE.loc k1 (WpEs.cons (WpE.str (WpEs.cons (WpE.int (WpEs.nil ?_))))))))
   refine c_row g e4 (ω547 tl t4) (most:=2) (by decide) fun μ5 e5 l5=>?_
   obtain⟨hp5,em5⟩:=mv hp4 em4 l5
   have t5:=rowRest_len (rowRest t 3) 2
   refine WpEs.cons (WpE.callG (gn__law_row g) (gk__law_row g) (WpEs.cons (WpE.loc k1 (WpEs.cons (WpE.str (WpEs.cons (WpE.int (WpEs.nil ?_))))))))
   refine c_row g e5 (ω548 tl t5 t4) (most:=2) (by decide) fun μ6 e6 l6=>?_
   obtain⟨hp6,em6⟩:=mv hp5 em5 l6
   have t6:=rowRest_len (rowRest (rowRest t 3) 2) 2
   refine WpEs.nil ⟨by simp,fun ru hru=>⟨rfl,rowRest (rowRest (rowRest t 3) 2) 2,ru,[rowOf t "S" 3,rowOf (rowRest t 3) "A" 2,rowOf (rowRest (rowRest t 3) 2) "B" 2],k1,k2,rfl,ω549 tl t6 t5 t4,?_,?_,RuOk.first _ _ _,rfl⟩⟩
   · have lr:=Le.upd (mo:=.list [mvRule (START,["S"]),mvRule (rowOf t "S" 3),mvRule (rowOf (rowRest t 3) "A" 2),mvRule (rowOf (rowRest (rowRest t 3) 2) "B" 2)]) hru
     exact⟨lr _ _ e6,upd_same _ _ _,let ⟨d,h⟩:=em6; ⟨d,lr _ _ h⟩,hp6.le lr⟩
   · have h1:ru∉tp::c::pa::bs:=fun z=>by
      obtain⟨d6,h6⟩:=em6
      rcases List.mem_cons.mp z with z | z
      · rw[z,e6] at hru; cases hru
      · rcases List.mem_cons.mp z with z | z
        · rw[z,h6] at hru; cases hru
        · obtain⟨_,e⟩:=hp6.some ru z
          rw[e] at hru; cases hru
     refine List.nodup_cons.mpr ⟨fun z=>?_,List.nodup_cons.mpr ⟨fun z=>h1 (.tail _ z),(List.nodup_cons.mp nd).2⟩⟩
     rcases List.mem_cons.mp z with z | z
     · exact h1 (by rw[z]; exact .head _)
     · exact hS3 z
 clear k1 k2 et tl hp hem nd
 intro ρ3 μ4 hh_
 refine ex3_8 hh_ fun t ru rs k1 k2 k3 tl st nd ro rl=>?_
 clear hh_
 obtain⟨S,hS⟩:∃ S,S=tp::ru::c::pa::bs:=⟨_,rfl⟩
 have pln:∀{t rs μ},LSt tp ru c pa bs t pl rs μ→Plain μ S:=fun s=>by rw[hS]; exact s.plain
 have kept:∀{t rs}{μ μ':Mem},LSt tp ru c pa bs t pl rs μ→(∀ b∈S,μ' b=μ b)→LSt tp ru c pa bs t pl rs μ':=fun s h=>s.kept (by rw[← hS]; exact h)
 have htpS:tp∈S:=by rw[hS]; exact .head _
 have hruS:ru∈S:=by rw[hS]; exact .tail _ (.head _)
 refine WpS.cut (fun ρ μ'=>∃ a:GA,Lk ρ "tape" (.ref tp)∧Lk ρ "places" (.ref pa)∧Lk ρ "rules" (.ref ru)∧Lk ρ "grammar" (.ref a.gr)∧LSt tp ru c pa bs t pl rs μ'∧GS (hideS S μ') a .none [] [] 20 3) (WpS1.assign ?_) ?_
 · refine WpE.callG (gn_Grammar g) (gk_Grammar g) (WpEs.cons (WpE.list (WpEs.cons (WpE.str (WpEs.cons (WpE.str (WpEs.nil ⟨by simp,fun l hl=>WpEs.nil ?_⟩)))))))
   refine c_gram g (upd_same _ _ _) fun a fs μ5 ow gf fl h1 h2 h3 h4 h5 h6 h7 h8=>?_
   have st4:=st.le (Le.upd (mo:=.list [.str "a",.str "b"]) hl)
   have pl4:=pln st4
   have nS:∀ y,upd μ4 l (.list [.str "a",.str "b"]) y=none→y∉S:=fun y hy z=>pl4.some y z hy
   refine⟨rfl,a,k1,k2,k3,rfl,st4.le ow.le,GS.init (fs:=fs) ?_ ?_ gf fl ?_ ?_ ?_ ?_ ?_ ?_ h8⟩
   · rw[hide_out (nS _ ow.np)]; exact ow.inst
   · rw[hide_out (nS _ ow.nd)]; exact ow.flds
   · rw[hide_out (nS _ (h7 a.P (by simp)).1)]; exact h1
   · rw[hide_out (nS _ (h7 a.N (by simp)).1)]; exact h2
   · rw[hide_out (nS _ (h7 a.M (by simp)).1)]; exact h3
   · obtain⟨es,c1,c2,c3⟩:=h4
     refine⟨es,by rw[hide_out (nS _ (h7 a.T (by simp)).1)]; exact c1,c2,fun x v hv=>?_⟩
     obtain⟨c4,l',k,c5,c6,c7⟩:=c3 x v hv
     refine⟨c4,l',k,c5,?_,c7⟩
     rw[hide_out (fun z=>?_)]
     · exact c6
     · rcases pl4 l' z with ⟨_,e⟩ | ⟨_,e⟩ <;> rw[ow.le _ _ e] at c6 <;> cases c6
   · rw[hide_out (nS _ (h7 a.X (by simp)).1)]; exact h5
   · rw[hide_out (nS _ (h7 a.R (by simp)).1)]; exact h6
 clear k1 k2 k3 st
 intro ρ4 μ5 hh_
 refine ex1_6 hh_ fun a k1 k2 k3 k4 st gs=>?_
 clear hh_
 refine WpS.cut (fun ρ μ'=>Lk ρ "tape" (.ref tp)∧Lk ρ "places" (.ref pa)∧Lk ρ "rules" (.ref ru)∧Lk ρ "grammar" (.ref a.gr)∧LSt tp ru c pa bs t pl rs μ'∧∃ pas,GS (hideS S μ') a .none pas rs 20 63) (WpS1.for_ (WpIt.list (WpE.sliceFrom (k:=1) (WpE.loc k3 (WpE.int ?_))))) ?_
 · refine⟨ru,_,rfl,st.er,rfl,by simp,by simp; exact ω550 rl,fun l hl=>⟨l,_,rfl,upd_same _ _ _,.inr ⟨rfl,fun _ _=>rfl⟩,3,(fun k ρ μ'=>k≤3∧Lk ρ "tape" (.ref tp)∧Lk ρ "places" (.ref pa)∧Lk ρ "rules" (.ref ru)∧Lk ρ "grammar" (.ref a.gr)∧LSt tp ru c pa bs t pl rs μ'∧μ' l=some (.list (rs.map mvRule))∧∃ pas,GS (hideS (l::S) μ') a .none pas (rs.take k) 20 (3+20*k)),
    ⟨ω551,k1,k2,k3,k4,st.le (Le.upd hl),upd_same _ _ _,[],by rw[hideS_fresh hl]; exact gs⟩,?_⟩⟩
   clear k1 k2 k3 k4 st gs
   rintro k ρ μ6 ⟨hk,k1,k2,k3,k4,st,el,pas,gs⟩
   refine⟨hk,_,⟨_,el,rfl⟩,?_⟩
   rw[List.getElem?_map]
   cases hr:rs[k]? with
   | some r=>
    have hklt:=(List.getElem?_eq_some_iff.mp hr).1
    have hrm:=List.mem_of_getElem? hr
    refine⟨ω552 hklt rl,WpA.name ?_⟩
    have pl6:Plain μ6 (l::S):=fun b hb=>by
     rcases List.mem_cons.mp hb with rfl | hb
     · exact .inl ⟨_,el⟩
     · exact pln st b hb
    refine WpS.cons (WpS1.expr (WpE.callG (gn__law_add g) (gk__law_add g) (WpEs.cons (WpE.loc (show Lk (_::ρ) "grammar" (.ref a.gr) from k4) (WpEs.cons (WpE.loc rfl (WpEs.nil ?_)))))))
    have pasl:=gs.len
    rw[List.length_take] at pasl
    refine c_ladd g (κ:=restr (l::S) μ6) (restr_le _ _) (by rw[sub_restr pl6.some]; exact gs) (ro.name r hrm) (ro.syms r hrm) (ro.len r hrm) (ω553 hk) (ω554 pasl hk) ω555 ω556 (ro.fresh hr) fun p μ7 hp7 l7 gs7=>⟨rfl,WpS.nil ⟨ω552 hklt rl,k1,k2,k3,k4,?_,?_,pas++[p],?_⟩⟩
    · exact kept st fun b hb=>restr_kept pl6.some l7 b (.tail _ hb)
    · exact(restr_kept pl6.some l7 l (.head _)).trans el
    · rw[sub_restr pl6.some] at gs7
      rw[take_snoc hr]
      exact gs7
   | none=>
    have hkn:rs.length≤k:=List.getElem?_eq_none_iff.mp hr
    rw[List.take_of_length_le hkn] at gs
    refine⟨rfl,k1,k2,k3,k4,st,pas,(gs.le hideS_cons).grow (ω557 hk)⟩
 clear k1 k2 k3 k4 st gs
 rintro ρ5 μ6 ⟨k1,k2,k3,k4,st,pas,gs⟩
 refine WpS.cut (fun ρ μ'=>ρ=ρ5∧LSt tp ru c pa bs t pl rs μ'∧∃ p0 dp,ProdAt (hideS S μ') p0 dp 20 0 (START,["S"]) .none∧GS (hideS S μ') a (.ref p0) pas rs 21 64) (WpS1.expr ?_) ?_
 · refine ex1_3 (gs.flds) fun fs hfs gf hfl=>?_
   refine WpE.methF _ (gk_set_start g) (WpE.loc k4 ⟨gets_inst (hideS_le _ _ _ _ gs.inst) (hideS_le _ _ _ _ hfs) (mg_set_start g) (mf_set_start g) (mt_set_start g) gf.m2,WpEs.cons (WpE.str (WpEs.nil ?_))⟩)
   refine WpC.frame (κ:=restr S μ6) (pln st).noDict (restr_le _ _) ?_
   rw[sub_restr (pln st).some]
   have pasl:=gs.len
   refine c_start g (nx:=.none) gs ro.S ω558 (ω559 rl pasl) ω555 fun p dp ν hp hpr gs2 μ7 l7 e7=>?_
   rw[sub_restr (pln st).some] at e7
   subst e7
   exact⟨rfl,rfl,rfl,kept st (restr_kept (pln st).some l7),p,dp,hpr,gs2⟩
 clear st gs
 rintro ρ6 μ7 ⟨rfl,st,p0,dp0,pr0,gs⟩
 refine WpS.cut (fun ρ μ'=>ρ=ρ6∧LSt tp ru c pa bs t pl rs μ'∧(∃ dp nx,ProdAt (hideS S μ') p0 dp 23 0 (START,["S"]) nx)∧GS (hideS S μ') a (.ref p0) pas rs 23 64) (WpS1.expr ?_) ?_
 · refine ex1_3 (gs.flds) fun fs hfs gf hfl=>?_
   refine WpE.methF0 _ (gk_build_lritems g) (WpE.loc k4 ⟨gets_inst (hideS_le _ _ _ _ gs.inst) (hideS_le _ _ _ _ hfs) (mg_build_lritems g) (mf_build_lritems g) (mt_build_lritems g) gf.m3,?_⟩)
   refine WpC.frame (κ:=restr S μ7) (pln st).noDict (restr_le _ _) ?_
   rw[sub_restr (pln st).some]
   have pasl:=gs.len
   refine c_build g gs ⟨dp0,_,pr0.to rfl rfl ω560⟩ ro.len ω561 (ω562 rl pasl) fun it ν gs2 pl2 _ μ8 l8 e8=>?_
   rw[sub_restr (pln st).some] at e8
   subst e8
   obtain⟨⟨dp,h1⟩,_⟩:=pl2 0 p0 (START,["S"]) rfl rfl
   exact⟨rfl,rfl,rfl,kept st (restr_kept (pln st).some l8),⟨dp,_,h1⟩,gs2⟩
 clear st gs pr0
 intro ρ7 μ8 hh_
 refine and4 hh_ fun zr0 st pr0 gs=>?_
 obtain rfl:=zr0
 clear hh_
 refine WpS.cut (fun ρ μ'=>∃ t rs pas b,Lk ρ "tape" (.ref tp)∧Lk ρ "places" (.ref pa)∧Lk ρ "rules" (.ref ru)∧Lk ρ "grammar" (.ref a.gr)∧LSt tp ru c pa bs t pl rs μ'∧RuOk rs∧(∃ dp nx,ProdAt (hideS S μ') p0 dp 23 0 (START,["S"]) nx)∧GS (hideS S μ') a (.ref p0) pas rs 23 b∧b≤84) (WpS1.while_ (fun q ρ μ'=>∃ t rs pas b,q=t.length∧t.length≤22∧Lk ρ "tape" (.ref tp)∧Lk ρ "places" (.ref pa)∧Lk ρ "rules" (.ref ru)∧Lk ρ "grammar" (.ref a.gr)∧LSt tp ru c pa bs t pl rs μ'∧RuOk rs∧(∃ dp nx,ProdAt (hideS S μ') p0 dp 23 0 (START,["S"]) nx)∧GS (hideS S μ') a (.ref p0) pas rs 23 b∧b+60≤64+20*rs.length) t.length ⟨t,rs,pas,64,rfl,tl,k1,k2,k3,k4,st,ro,pr0,gs,ω563 rl⟩ ?_) ?_
 · clear st gs pr0 k1 k2 k3 k4 ro rl tl
   rintro _ ρ μ9 ⟨t,rs,pas,b,rfl,tl,k1,k2,k3,k4,st,ro,pr0,gs,hb⟩
   have stop:∃ t rs pas b,Lk ρ "tape" (.ref tp)∧Lk ρ "places" (.ref pa)∧Lk ρ "rules" (.ref ru)∧Lk ρ "grammar" (.ref a.gr)∧LSt tp ru c pa bs t pl rs μ9∧RuOk rs∧(∃ dp nx,ProdAt (hideS S μ9) p0 dp 23 0 (START,["S"]) nx)∧GS (hideS S μ9) a (.ref p0) pas rs 23 b∧b≤84:=⟨t,rs,pas,b,k1,k2,k3,k4,st,ro,pr0,gs,by have:=ro.size; exact ω564 this hb⟩
   refine WpT.and (WpT.val (WpE.loc k1 (o_truthL st.et (by rw[natsM_len]; exact ω565 tl) ?_)))
   cases t with
   | nil=>exact ite_f (by decide) (ite_f (by decide) ⟨rfl,stop⟩)
   | cons x t=>
    refine ite_t rfl (WpT.and (WpT.cmp (WpE.callB (bn_len g) (WpEs.cons (WpE.loc k3 (WpEs.nil ?_))))))
    have hsz:=ro.size
    refine o_len_list st.er (by simp; exact ω566 hsz) (WpE.int (o_ltI ⟨_,rfl,?_⟩))
    by_cases h5:rs.length=4
    · refine ite_f (by simp; exact ω567 h5) (ite_f (by decide) ⟨rfl,stop⟩)
    · clear stop
      have r3:rs.length=3:=ω568 hsz h5
      refine ite_t (by simp; exact ω569 r3) (WpT.and_nil (ite_t rfl ?_))
      refine WpS.cut (fun ρ' μ'=>∃ t' row,ρ'=((("row":Str),mvRule row)::ρ)∧t'.length<(x::t).length∧row.1∈NAMES∧(∀ y∈row.2,y∈SYMS)∧row.2.length≤2∧LSt tp ru c pa bs t' pl rs μ'∧(∃ dp nx,ProdAt (hideS S μ') p0 dp 23 0 (START,["S"]) nx)∧GS (hideS S μ') a (.ref p0) pas rs 23 b) (WpS1.assign (WpE.callG (gn__law_row g) (gk__law_row g) (WpEs.cons (WpE.loc k1 (WpEs.cons (WpE.sub (WpE.callG0 (gn__law_NAMES g) (gk__law_NAMES g) (c_NAMES g fun q hq=>?_))) ))))) ?_
      · have st1:=st.le (Le.upd (mo:=.list (strsM NAMES)) hq)
        have gs1:=gs.le (hideS_mono (Le.upd (mo:=.list (strsM NAMES)) hq))
        obtain⟨dp,nx,pr1⟩:=pr0
        have pr2:=pr1.le (hideS_mono (Le.upd (mo:=.list (strsM NAMES)) hq))
        have eq1:upd μ9 q (.list (strsM NAMES)) q=some (.list (strsM NAMES)):=upd_same _ _ _
        have nq:q≠tp:=fun z=>by rw[z,st.et] at hq; cases hq
        clear pr1 gs st hq
        generalize upd μ9 q (.list (strsM NAMES))=μ10 at *
        refine WpE.bin (WpE.callG (gn__law_next g) (gk__law_next g) (WpEs.cons (WpE.loc k1 (WpEs.nil ?_))))
        refine c_nextN g st1.et (by simp at tl ⊢; exact ω570 tl) fun μ11 e11 l11 _=>WpE.int (o_mod (by decide) ?_)
        have h3:Int.fmod (nextP (x::t):Int) 3=((nextP (x::t) % 3:Nat):Int):=fmod_nat _ 3
        rw[h3]
        have hk3:nextP (x::t) % 3<3:=Nat.mod_lt _ (by decide)
        generalize nextP (x::t) % 3=k at hk3
        have hnm:(strsM NAMES)[k]?=some (.str (NAMES.getD k "")):=strsM_get (by show k<4; exact ω571 hk3)
        have hnN:NAMES.getD k ""∈NAMES:=by
         have:∀ k,k<3→NAMES.getD k ""∈NAMES:=by decide +kernel
         exact this k hk3
        refine o_item_list (l11 _ _ nq eq1) ω34 (ω572 hk3) (by rw[Int.toNat_natCast]; exact hnm) ?_
        refine WpEs.cons (WpE.int (WpEs.nil ?_))
        have st2:=st1.tape nd l11 e11
        have gs2:=gs1.le (hideS_leB l11 htpS)
        have pr3:=pr2.le (hideS_leB l11 htpS)
        refine c_row g e11 (by simp at tl ⊢; exact ω573 tl) (most:=2) (by decide) fun μ12 e12 l12=>⟨rfl,rowRest t 2,rowOf t (NAMES.getD k "") 2,rfl,?_,hnN,rowOf_syms _ _ _,rowOf_len _ _ _,st2.tape nd l12 e12,⟨dp,nx,pr3.le (hideS_leB l12 htpS)⟩,gs2.le (hideS_leB l12 htpS)⟩
        have:=rowRest_len t 2
        simp
        exact ω574 this
      · clear st gs pr0
        intro ρ8 μ10 hh_
        refine ex2_8 hh_ fun t' row zr2 tlt rn rsy rle st pr0 gs=>?_
        obtain rfl:=zr2
        clear hh_
        have oks:MV.oks ((RULES rs).map mvRule)=true:=oks_iff.mpr fun d hd=>by
         obtain⟨r,hr,rfl⟩:=List.mem_map.mp hd
         rcases List.mem_cons.mp hr with rfl | hr
         · exact rule_ok (by decide +kernel) (fun x hx=>by rw[List.mem_singleton.mp hx]; decide +kernel)
         · exact rule_ok (name5 _ (ro.name _ hr)).1 fun y hy=>(len5 y (ro.syms _ hr y hy)).1
        refine WpS.cons (WpS1.ite (WpT.cmp (WpE.loc rfl (WpE.loc (show Lk (_::ρ) "rules" (.ref ru) from k3) ?_))))
        refine o_notinL (d:=mvRule row) st.er oks (rule_ok (name5 _ rn).1 fun y hy=>(len5 y (rsy y hy)).1) (rule_deep row) fun c' hc'=>⟨c',rfl,?_⟩
        have tl':t'.length≤22:=ω575 tlt tl
        cases c' with
        | false=>exact ite_f (by decide) (WpS.nil (WpS.nil ⟨t'.length,tlt,t',rs,pas,b,rfl,tl',k1,k2,k3,k4,st,ro,pr0,gs,hb⟩))
        | true=>
         have hnr:row∉rs:=fun z=>hc'.mp rfl (mem_rules.mpr (.tail _ z))
         refine ite_t rfl ?_
         refine WpS.cons (WpS1.expr (WpE.methB (id:="list.append") _ (WpE.loc (show Lk (_::ρ) "rules" (.ref ru) from k3) ?_)))
         refine⟨gets_list st.er PySem.F.slot_list_append PySem.F.type_list_append,WpEs.cons (WpE.loc rfl (WpEs.nil ?_))⟩
         refine o_append st.er (by simp; exact ω550 r3) ⟨rfl,?_⟩
         have lru:LeB ru μ10 (upd μ10 ru (.list ((RULES rs).map mvRule++[mvRule row]))):=LeB.upd _ _ _
         have st2:LSt tp ru c pa bs t' pl (rs++[row]) (upd μ10 ru (.list ((RULES rs).map mvRule++[mvRule row]))):=by
          have n1:=(List.nodup_cons.mp nd).1
          have n2:=(List.nodup_cons.mp (List.nodup_cons.mp nd).2).1
          refine⟨lru _ _ (fun z=>n1 (by rw[z]; exact .head _)) st.et,by rw[upd_same]; simp,let ⟨d,h⟩:=st.em; ⟨d,lru _ _ (fun z=>n2 (by rw[← z]; exact .head _)) h⟩,st.hp.leB lru (fun z=>n2 (.tail _ z))⟩
         have gs2:=gs.le (hideS_leB lru hruS)
         obtain⟨dp,nx,pr1⟩:=pr0
         have pr2:=pr1.le (hideS_leB lru hruS)
         show WpS G (n+10) _ (upd μ10 ru (.list ((RULES rs).map mvRule++[mvRule row]))) _ _
         clear lru st gs pr1
         generalize upd μ10 ru (.list ((RULES rs).map mvRule++[mvRule row]))=μ11 at *
         have pasl:=gs2.len
         refine WpS.cons (WpS1.expr (WpE.callG (gn__law_add g) (gk__law_add g) (WpEs.cons (WpE.loc (show Lk (_::ρ) "grammar" (.ref a.gr) from k4) (WpEs.cons (WpE.loc rfl (WpEs.nil ?_)))))))
         have tr:∀ b∈p0::dp::S,μ11 b≠none:=fun b hb=>by
          rcases List.mem_cons.mp hb with rfl | hb
          · rw[hideS_le _ _ _ _ pr2.inst]; exact nofun
          · rcases List.mem_cons.mp hb with rfl | hb
            · obtain⟨_,fs',e,_⟩:=pr2; rw[hideS_le _ _ _ _ e]; exact nofun
            · exact(pln st2).some b hb
         have gs3:GS (hideS (p0::dp::S) μ11) a (.ref p0) pas rs 23 b:=gs2.off pr2 fun y h1 h2=>by
          by_cases hy:y∈S
          · rw[hide_in hy,hide_in (.tail _ (.tail _ hy))]
          · rw[hide_out hy,hide_out (fun z=>by
             rcases List.mem_cons.mp z with z | z
             · exact h1 z
             · rcases List.mem_cons.mp z with z | z
               · exact h2 z
               · exact hy z)]
         have nS0:p0∉S:=fun z=>by have:=pr2.inst; rw[hide_in z] at this; cases this
         have nSd:dp∉S:=fun z=>by obtain⟨_,fs',e,_⟩:=pr2; rw[hide_in z] at e; cases e
         refine c_ladd g (κ:=restr (p0::dp::S) μ11) (restr_le _ _) (by rw[sub_restr tr]; exact gs3) rn rsy (ω530 rle) (ω576 hb r3) (ω562 r3 pasl) ω577 ω578 (fun r' hr' e=>?_) fun p μ12 hp12 l12 gs12=>⟨rfl,WpS.nil (WpS.nil ⟨t'.length,tlt,t',rs++[row],pas++[p],b+20,rfl,tl',k1,k2,k3,k4,kept st2 (fun b hb=>restr_kept tr l12 b (.tail _ (.tail _ hb))),ro.add r3 rn rsy rle hnr,⟨dp,nx,?_⟩,?_,by simp; exact ω579 hb⟩)⟩
         · exact hnr (by rw[← mapKey_inj (ro.len _ hr') (ro.syms _ hr') (ro.name _ hr') (ω530 rle) rsy rn e]; exact hr')
         · have kp:=restr_kept tr l12
           exact pr2.to (by rw[hide_out nS0,hide_out nS0]; exact kp _ (.head _)) (by rw[hide_out nSd,hide_out nSd]; exact kp _ (.tail _ (.head _))) (Nat.le_refl _)
         · rw[sub_restr tr] at gs12
           exact(gs12.le hideS_cons).le hideS_cons
 clear st gs pr0 k1 k2 k3 k4 ro rl tl
 rintro ρ9 μ9 ⟨t,rs,pas,b,k1,k2,k3,k4,st,ro,⟨dp0,nx0,pr0⟩,gs,hb⟩
 have rsz:=ro.size
 refine WpS.cut (fun ρ μ'=>ρ=ρ9∧LSt tp ru c pa bs t pl rs μ'∧GS (hideS S μ') a (.ref p0) pas rs 25 b∧∃ it:Nat→Nat→Addr,∀ j p r,(p0::pas)[j]?=some p→(RULES rs)[j]?=some r→ProdL μ' pas rs (it j) p 25 j r) (WpS1.expr ?_) ?_
 · refine ex1_3 (gs.flds) fun fs hfs gf hfl=>?_
   refine WpE.methF0 _ (gk_build_lritems g) (WpE.loc k4 ⟨gets_inst (hideS_le _ _ _ _ gs.inst) (hideS_le _ _ _ _ hfs) (mg_build_lritems g) (mf_build_lritems g) (mt_build_lritems g) gf.m3,?_⟩)
   refine WpC.frame (κ:=restr S μ9) (pln st).noDict (restr_le _ _) ?_
   rw[sub_restr (pln st).some]
   have pasl:=gs.len
   refine c_build g gs ⟨dp0,nx0,pr0⟩ ro.len ω577 (ω580 rsz pasl) fun it ν gs2 pl2 _ μ8 l8 e8=>?_
   rw[sub_restr (pln st).some] at e8
   subst e8
   exact⟨rfl,rfl,rfl,kept st (restr_kept (pln st).some l8),gs2,it,fun j p r h1 h2=>(pl2 j p r h1 h2).le (hideS_le _ _)⟩
 clear st gs pr0
 rintro ρ10 μ10 ⟨rfl,st,gs,it,hit⟩
 refine ex1_3 (gs.flds) fun fs hfs gf hfl=>?_
 have up:=hideS_le S μ10
 obtain⟨⟨dp1,q1,ps,q2,_,_,_,_,q3,_⟩,_⟩:=hit 0 p0 (START,["S"]) rfl rfl
 have wgt:((RULES rs).map fun r=>4+10*r.2.length).sum≤127:=by have:=ro.weight; exact ω581 rsz this
 have hrow:∀ r∈RULES rs,r.2.length≤3∧∀ x∈r.2,x∈SYMS:=fun r hr=>by
  rcases List.mem_cons.mp hr with rfl | hr
  · exact⟨by decide,fun x hx=>by rw[List.mem_singleton.mp hx]; decide +kernel⟩
  · exact⟨ro.len r hr,ro.syms r hr⟩
 have hv0:Valid (RULES rs) pl (0,0,0,0):=⟨_,rfl,Nat.zero_le _,Nat.le_refl _,Nat.zero_le _,fun _=>rfl⟩
 refine WpS.cons (WpS1.ret (WpE.cmp (WpE.callG (gn__law_chart g) (gk__law_chart g) (WpEs.cons (WpE.attr (WpE.sub (WpE.attr (WpE.loc k4 (o_getattr (up _ _ gs.inst) (up _ _ hfs) gf.P (gR_Productions g) (WpE.int ?_))))))))))
 refine o_item_list (d:=.ref p0) (up _ _ gs.prods) (by decide) (by decide) rfl (o_getattr q1 q2 q3 (gP_lr_next g) (WpEs.cons (WpE.loc k2 (WpEs.nil ?_))))
 refine c_chart g (sortOk G) hit gs.len st.hp.at hpl hrow htok wgt fun cc l kk μ11 hcc ecc ord hend perm l11=>?_
 have st2:=st.le l11
 refine WpE.callG (gn__law_due g) (gk__law_due g) (WpEs.cons (WpE.loc k3 (WpEs.cons (WpE.loc k2 (WpEs.nil ?_)))))
 refine c_due g (sortOk G) (rules:=RULES rs) (pl:=pl) st2.er st2.hp.at hpl (by simp; exact ω582 rsz) (by simp) (fun r hr=>⟨by have:=(hrow r hr).1; exact ω198 this,fun x hx=>syms_keys x ((hrow r hr).2 x hx)⟩) (fun r hr=>ro.name r hr) htok (fun l sp hn hd hs hde=>valid_len (fun q hq=>due_valid hs hde (hd q hq)) hn hpl wgt) fun c2 l2 sp μ12 hc2 e2 ord2 nd2 sml hmem der clo tok l12=>?_
 refine o_eqL (l12 _ _ ecc) e2 (oks_quadsM _) (oks_quadsM _) (quads_deep _) fun cb hcb=>?_
 have L:LawIn rs pl:=⟨ro.name,ro.syms,fun t ht=>(htok t ht).2⟩
 have same:l=l2:=ordered_unique ord ord2 (perm.nodup_iff.mpr (chAt_ok hv0 kk).2) nd2 fun q=>by
  rw[perm.mem_iff,chart_is_due L sml clo tok der hv0 hend,hmem]
 have:cb=true:=hcb.mpr (by rw[same])
 rw[this]
end
theorem law_end {w:World}{p:Program}{prog:Program}{loose:List Str}{s₁:Shared}{mean:ExcName→Option Value}{mg mb:Str→Option Value}{fa a:Addr}{qual:Str}{cd:Value}{h₁:Heap}{tk₁:Nat}{m:Str→Option Value}{vs:List Value}{ns:List Int}{ov:Option Value}
 (KX:(hd.heap_39 w.params).In s₁.heap) (T:Top p loose mean mg mb s₁.heap) (F:Fr s₁.heap s₁.heap.objs.size h₁ m) (hm:m "script" = some (.ref a)) (hcell:h₁.IsCell (s₁.heap.objs.size+1) ov) (hov:ov=none) (hL:s₁.heap.IsList a vs.toArray) (hI:IntsAre vs ns) (hlen:ns.length≤63) :
 wpAny (model prog w) (callerA.deeper (envOfC qual (scopeOf (List.lookup 351 (hd.heap_39 w.params))) s₁.heap.objs.size fa cd)) (execs (bodyOf (List.lookup 351 (hd.heap_39 w.params))) (envOfC qual (scopeOf (List.lookup 351 (hd.heap_39 w.params))) s₁.heap.objs.size fa cd))
  (fun f s'=>f=.ret (.bool true)∧s'.os=s₁.os∧s'.gens=s₁.gens∧∀ b o,s₁.heap.get? b=some o→s'.heap.get? b=some o) NoE { s₁ with heap:=h₁,toks:=tk₁ }:=by
 subst hov
 let G:Gd:=⟨s₁.heap,prog,w,hd.heap_39 w.params,p,loose⟩
 have g:Law G:=rfl
 let μ:Mem:=upd (fun _=>none) (s₁.heap.objs.size+1) (.cell none)
 have W:=law_walk (n:=0) (G:=G) (P:=w.params) (μ:=μ) (c:=s₁.heap.objs.size+1) (a:=a) g (upd_same _ _ _) hL hI hlen
 have H:HereS G 10 ⟨scopeOf (List.lookup 351 (hd.heap_39 w.params)),[("mask",s₁.heap.objs.size+1)],[("script",.ref a)]⟩ μ (callerA.deeper (envOfC qual (scopeOf (List.lookup 351 (hd.heap_39 w.params))) s₁.heap.objs.size fa cd)) [] (envOfC qual (scopeOf (List.lookup 351 (hd.heap_39 w.params))) s₁.heap.objs.size fa cd) h₁:=by
  refine⟨⟨⟨[],rfl,(fun env h=>by cases h)⟩,rfl,by rfl,KX,⟨mean,mg,mb,T⟩,fun _=>rfl,(show callerA.depth+1+10<recursionLimit by decide),(show callerA.units+3+40*10<cLine by decide),rfl⟩,⟨rfl,by rfl,rfl,rfl,by rfl⟩,⟨⟨m,F⟩,fun b hb=>?_,(fun b hb=>by cases hb),fun b mo e=>?_⟩,⟨m,F.ns,fun x d e=>?_⟩⟩
  · by_cases z:b=s₁.heap.objs.size+1
    · subst z
      exact⟨Heap.get?_none_of_le (Nat.le_succ _),Nat.ne_of_gt (Nat.lt_succ_self _)⟩
    · exact absurd (upd_ne _ _ z) hb
  · by_cases z:b=s₁.heap.objs.size+1
    · subst z
      have:=(upd_same (fun _=>none) (s₁.heap.objs.size+1) (MO.cell none)).symm.trans e
      cases this
      exact⟨none,hcell,trivial⟩
    · have:=(upd_ne (fun _=>none) (.cell none) z).symm.trans e
      cases this
  · by_cases z:x="script"
    · subst z
      have:some (MV.ref a)=some d:=e
      cases this
      exact⟨_,hm,.ref a⟩
    · have:List.lookup x [(("script":Str),MV.ref a)]=none:=by
       rw[List.lookup_cons]
       have:(x == ("script":Str))=false:=by
        cases q:x == ("script":Str) with
        | false=>rfl
        | true=>exact absurd (beq_iff_eq.mp q) z
       rw[this]; rfl
      rw[this] at e; cases e
 refine wpAny_mono (W _ _ _ { s₁ with heap:=h₁,toks:=tk₁ } H) (fun f s' q=>?_) fun _ _ f=>f
 obtain⟨mf,ρ',μ',h',tk,rfl,x,c',S',l',r',rfl⟩:=q
 cases r' with
 | ret rv=>
  cases rv with
  | bool b=>
   refine⟨rfl,rfl,rfl,fun b o e=>?_⟩
   have e1:=F.keep b o e
   have n1:b≠s₁.heap.objs.size:=Nat.ne_of_lt (Heap.lt_size e)
   have n2:μ b=none:=upd_ne _ _ (Nat.ne_of_lt (Nat.lt_succ_of_lt (Heap.lt_size e)))
   exact(x b o n1 n2 e1).1.ground e
end Mine
local macro_rules
 | `(tactic| k_qdec)=>`(tactic| decide +kernel)
theorem PySem.Challenge.cw_rp0001_05_holds : PySem.Challenge.rw_rp0001_05.Holds := by
  w_on
  refine holds_law Mine.hd.said fun said=>?_
  refine holds_open (q:=Mine.hd.view_39) (loose:=[Str.ofString "Production",Str.ofString "Grammar",Str.ofString "_law_SYMBOLS"]) (Xt:=fun s=>xlAt Mine.hd.view_39 [] s && recOk [] s) (XP:=XL Mine.hd.view_39 []) (Yf:=Hook.obs (kHook Mine.hd.heap_39 Mine.hd.as Mine.hd.keys)) (Ya:=Hook.val (kHook Mine.hd.heap_39 Mine.hd.as Mine.hd.keys)) (YP:=Hook.says (kHook Mine.hd.heap_39 Mine.hd.as Mine.hd.keys)) (N:=4784) Mine.hd.left (Hook.of (kHook Mine.hd.heap_39 Mine.hd.as Mine.hd.keys)) (Hook.keeps (kHook Mine.hd.heap_39 Mine.hd.as Mine.hd.keys)) (fun s e=>xl_of s (Bool.and_eq_true_iff.mp e).1) XL.keeps (by rfl) (by rfl) (by rfl) (fun s e=>recFacts_of (Bool.and_eq_true_iff.mp e).2) (by rfl) (by first | assumption | decide +kernel) (by decide +kernel) ⟨rfl,rfl,rfl,rfl,rfl,by decide +kernel⟩ ?hw ?hc
  case hw=>w_witness2
  case hc=>
    k_go0
    refine wpAny_mono (Mine.law_end (by assumption) (by assumption) (by assumption) (by rfl) ⟨_,?_,by assumption⟩ (by rfl) (by assumption) (by assumption) (by omega)) ?_ (fun _ _ f=>f.elim)
    · rename_i N0 X0
      exact(News.get N0 (.head _))
    · rintro f s' ⟨rfl,h1,h2,h3⟩
      refine⟨.inl ⟨.bool true,.bool true,[],rfl,fun _=>rfl,.bool _,?_,fun _=>⟨.nil,fun _ h=>by cases h⟩⟩,h3,h1,h2.trans (by assumption)⟩
      refine' postW_of ?q1 ?q2 ?q3
      (case q1=>o_shape)
      (case q2=>wtm_val)
      (case q3=>w_fin)
