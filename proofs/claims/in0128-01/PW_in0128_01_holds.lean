import PyProof.Rows.All
import Wide.All
import OpenK.AllK
import Wide.FinOn
import PySem.Challenge.RW_in0128_01
set_option Elab.async false
set_option linter.all false
namespace Mine
set_option tactic.hygienic false
theorem xa {p0:Prop}{p1:Prop}{C:Prop}(h:p0∧p1)(k:p0→p1→C):C:=by obtain⟨b0,b1⟩:=h;exact k b0 b1
theorem xe {t0:Sort _}{p1:t0→Prop}{C:Prop}(h:∃a0:t0,p1 a0)(k:∀a0:t0,p1 a0→C):C:=by obtain⟨b0,b1⟩:=h;exact k b0 b1
theorem b9 {p0:Prop}{p1:Prop}{p2:Prop}{C:Prop}(h:p0∧p1∧p2)(k:p0→p1→p2→C):C:=by obtain⟨b0,b1,b2⟩:=h;exact k b0 b1 b2
theorem ah {t0:Sort _}{p1:t0→Prop}{p2:t0→Prop}{C:Prop}(h:∃a0:t0,p1 a0∧p2 a0)(k:∀a0:t0,p1 a0→p2 a0→C):C:=by obtain⟨b0,b1,b2⟩:=h;exact k b0 b1 b2
theorem aV {t0:Sort _}{t1:Sort _}{p2:t0→t1→Prop}{C:Prop}(h:∃a0:t0,∃a1:t1,p2 a0 a1)(k:∀a0:t0,∀a1:t1,p2 a0 a1→C):C:=by obtain⟨b0,b1,b2⟩:=h;exact k b0 b1 b2
theorem mo {p0:Prop}{p1:Prop}{p2:Prop}{p3:Prop}{C:Prop}(h:p0∧p1∧p2∧p3)(k:p0→p1→p2→p3→C):C:=by obtain⟨b0,b1,b2,b3⟩:=h;exact k b0 b1 b2 b3
theorem cn {p0:Prop}{t1:Sort _}{p2:t1→Prop}{p3:t1→Prop}{C:Prop}(h:p0∧∃a1:t1,p2 a1∧p3 a1)(k:p0→∀a1:t1,p2 a1→p3 a1→C):C:=by obtain⟨b0,b1,b2,b3⟩:=h;exact k b0 b1 b2 b3
theorem aR {t0:Sort _}{p1:t0→Prop}{p2:t0→Prop}{p3:t0→Prop}{C:Prop}(h:∃a0:t0,p1 a0∧p2 a0∧p3 a0)(k:∀a0:t0,p1 a0→p2 a0→p3 a0→C):C:=by obtain⟨b0,b1,b2,b3⟩:=h;exact k b0 b1 b2 b3
theorem aA {t0:Sort _}{t1:Sort _}{p2:t0→t1→Prop}{p3:t0→t1→Prop}{C:Prop}(h:∃a0:t0,∃a1:t1,p2 a0 a1∧p3 a0 a1)(k:∀a0:t0,∀a1:t1,p2 a0 a1→p3 a0 a1→C):C:=by obtain⟨b0,b1,b2,b3⟩:=h;exact k b0 b1 b2 b3
theorem pE {t0:Sort _}{t1:Sort _}{t2:Sort _}{p3:t0→t1→t2→Prop}{C:Prop}(h:∃a0:t0,∃a1:t1,∃a2:t2,p3 a0 a1 a2)(k:∀a0:t0,∀a1:t1,∀a2:t2,p3 a0 a1 a2→C):C:=by obtain⟨b0,b1,b2,b3⟩:=h;exact k b0 b1 b2 b3
theorem eN {t0:Sort _}{p1:t0→Prop}{p2:t0→Prop}{p3:t0→Prop}{p4:t0→Prop}{C:Prop}(h:∃a0:t0,p1 a0∧p2 a0∧p3 a0∧p4 a0)(k:∀a0:t0,p1 a0→p2 a0→p3 a0→p4 a0→C):C:=by obtain⟨b0,b1,b2,b3,b4⟩:=h;exact k b0 b1 b2 b3 b4
theorem aX {t0:Sort _}{t1:Sort _}{p2:t0→t1→Prop}{p3:t0→t1→Prop}{p4:t0→t1→Prop}{C:Prop}(h:∃a0:t0,∃a1:t1,p2 a0 a1∧p3 a0 a1∧p4 a0 a1)(k:∀a0:t0,∀a1:t1,p2 a0 a1→p3 a0 a1→p4 a0 a1→C):C:=by obtain⟨b0,b1,b2,b3,b4⟩:=h;exact k b0 b1 b2 b3 b4
theorem iJ {t0:Sort _}{t1:Sort _}{t2:Sort _}{p3:t0→t1→t2→Prop}{p4:t0→t1→t2→Prop}{C:Prop}(h:∃a0:t0,∃a1:t1,∃a2:t2,p3 a0 a1 a2∧p4 a0 a1 a2)(k:∀a0:t0,∀a1:t1,∀a2:t2,p3 a0 a1 a2→p4 a0 a1 a2→C):C:=by obtain⟨b0,b1,b2,b3,b4⟩:=h;exact k b0 b1 b2 b3 b4
theorem kI {p0:Prop}{t1:Sort _}{t2:Sort _}{p3:t1→t2→Prop}{p4:t1→t2→Prop}{p5:t1→t2→Prop}{C:Prop}(h:p0∧∃a1:t1,∃a2:t2,p3 a1 a2∧p4 a1 a2∧p5 a1 a2)(k:p0→∀a1:t1,∀a2:t2,p3 a1 a2→p4 a1 a2→p5 a1 a2→C):C:=by obtain⟨b0,b1,b2,b3,b4,b5⟩:=h;exact k b0 b1 b2 b3 b4 b5
theorem qL {t0:Sort _}{p1:t0→Prop}{p2:t0→Prop}{p3:t0→Prop}{p4:t0→Prop}{p5:t0→Prop}{C:Prop}(h:∃a0:t0,p1 a0∧p2 a0∧p3 a0∧p4 a0∧p5 a0)(k:∀a0:t0,p1 a0→p2 a0→p3 a0→p4 a0→p5 a0→C):C:=by obtain⟨b0,b1,b2,b3,b4,b5⟩:=h;exact k b0 b1 b2 b3 b4 b5
theorem nl {t0:Sort _}{t1:Sort _}{p2:t0→t1→Prop}{p3:t0→t1→Prop}{p4:t0→t1→Prop}{p5:t0→t1→Prop}{C:Prop}(h:∃a0:t0,∃a1:t1,p2 a0 a1∧p3 a0 a1∧p4 a0 a1∧p5 a0 a1)(k:∀a0:t0,∀a1:t1,p2 a0 a1→p3 a0 a1→p4 a0 a1→p5 a0 a1→C):C:=by obtain⟨b0,b1,b2,b3,b4,b5⟩:=h;exact k b0 b1 b2 b3 b4 b5
theorem ck {t0:Sort _}{t1:Sort _}{t2:Sort _}{p3:t0→t1→t2→Prop}{p4:t0→t1→t2→Prop}{p5:t0→t1→t2→Prop}{C:Prop}(h:∃a0:t0,∃a1:t1,∃a2:t2,p3 a0 a1 a2∧p4 a0 a1 a2∧p5 a0 a1 a2)(k:∀a0:t0,∀a1:t1,∀a2:t2,p3 a0 a1 a2→p4 a0 a1 a2→p5 a0 a1 a2→C):C:=by obtain⟨b0,b1,b2,b3,b4,b5⟩:=h;exact k b0 b1 b2 b3 b4 b5
theorem lM {t0:Sort _}{t1:Sort _}{t2:Sort _}{t3:Sort _}{p4:t0→t1→t2→t3→Prop}{p5:t0→t1→t2→t3→Prop}{C:Prop}(h:∃a0:t0,∃a1:t1,∃a2:t2,∃a3:t3,p4 a0 a1 a2 a3∧p5 a0 a1 a2 a3)(k:∀a0:t0,∀a1:t1,∀a2:t2,∀a3:t3,p4 a0 a1 a2 a3→p5 a0 a1 a2 a3→C):C:=by obtain⟨b0,b1,b2,b3,b4,b5⟩:=h;exact k b0 b1 b2 b3 b4 b5
theorem kH {p0:Prop}{t1:Sort _}{t2:Sort _}{p3:t1→t2→Prop}{p4:t1→t2→Prop}{p5:t1→t2→Prop}{p6:t1→t2→Prop}{C:Prop}(h:p0∧∃a1:t1,∃a2:t2,p3 a1 a2∧p4 a1 a2∧p5 a1 a2∧p6 a1 a2)(k:p0→∀a1:t1,∀a2:t2,p3 a1 a2→p4 a1 a2→p5 a1 a2→p6 a1 a2→C):C:=by obtain⟨b0,b1,b2,b3,b4,b5,b6⟩:=h;exact k b0 b1 b2 b3 b4 b5 b6
theorem qK {t0:Sort _}{p1:t0→Prop}{p2:t0→Prop}{p3:t0→Prop}{p4:t0→Prop}{p5:t0→Prop}{p6:t0→Prop}{C:Prop}(h:∃a0:t0,p1 a0∧p2 a0∧p3 a0∧p4 a0∧p5 a0∧p6 a0)(k:∀a0:t0,p1 a0→p2 a0→p3 a0→p4 a0→p5 a0→p6 a0→C):C:=by obtain⟨b0,b1,b2,b3,b4,b5,b6⟩:=h;exact k b0 b1 b2 b3 b4 b5 b6
theorem nj {t0:Sort _}{t1:Sort _}{t2:Sort _}{p3:t0→t1→t2→Prop}{p4:t0→t1→t2→Prop}{p5:t0→t1→t2→Prop}{p6:t0→t1→t2→Prop}{C:Prop}(h:∃a0:t0,∃a1:t1,∃a2:t2,p3 a0 a1 a2∧p4 a0 a1 a2∧p5 a0 a1 a2∧p6 a0 a1 a2)(k:∀a0:t0,∀a1:t1,∀a2:t2,p3 a0 a1 a2→p4 a0 a1 a2→p5 a0 a1 a2→p6 a0 a1 a2→C):C:=by obtain⟨b0,b1,b2,b3,b4,b5,b6⟩:=h;exact k b0 b1 b2 b3 b4 b5 b6
theorem lW {α:Type}{a:α}(h:some a=none):False:=by cases h
theorem cb (h:true=false):False:=by cases h
theorem jW {α:Type}{c:Prop} [Decidable c] {a b x:α}(h:(if c then a else b)=x):c∧a=x∨¬c∧b=x:=if z:c then .inl ⟨z,(if_pos z).symm.trans h⟩else .inr ⟨z,(if_neg z).symm.trans h⟩
theorem xn {α:Type}{c:Prop} [Decidable c] {a:Option α}{x:α}(h:(if c then a else none)=some x):c∧a=some x:=(jW h).elim id fun z=>nomatch z.2
end Mine
namespace Mine
open PySem PySem.W PyProof.Rows
set_option maxRecDepth 100000
set_option backward.match.sparseCases false
noncomputable def fx (n:Nat):Stmt:=PySem.Challenge.pw_in0128_01.main.body.getD n default
noncomputable def mM (n:Nat)(x:Str):Stmt:=match fx n with
 | .ClassDef _ _ _ b _ _ _ _ _ _ _=>(b.find? fun s=>match s with | .FunctionDef y _ _ _ _ _ _ _ _ _=>y==x |_=>false).getD default
 |_=>default
noncomputable def hv (s:Str) (t:Nat):Value:=.str s t
noncomputable def hn (n:Int):Value:=.int n 0
noncomputable def he (P:Params)(s:Str) (t:Nat)(v:Value):DictEntry:={hash:=PyData.keyHash P s,key:=.str s t,val:=v}
noncomputable def hi (n:Int) (t:Nat)(v:Value):DictEntry:={hash:=n,key:=.int n t,val:=v}
noncomputable def ht (l:List Value):Obj:={cls:=.type "tuple",data:=.seq l.toArray}
noncomputable def hx (c:String)(l:List Value):Obj:={cls:=.type c,data:=.fields l.toArray}
noncomputable def uh (l:List DictEntry) (n:Nat):Obj:={cls:=.type "dict",data:=.dict l.toArray n}
noncomputable def hf (s:Stmt)(q:Str)(m:Value)(c:Addr)(df:Value:=.none):Obj:=match s with
 | .FunctionDef n a b _ _ _ sc _ _ _=>{cls:=.type "function",data:=.func {name:=n,qualname:=q,params:=a,body:=.stmts b,scope:=sc,globals:=3,closure:=[],defaults:=df,kwdefaults:=.none,pyModule:=m,code:=.ref c}}
 |_=>default
noncomputable def hk (P:Params):Frag:=[
(3,uh [he P "__name__" 165 (hv "law_in0128_01" 721),he P "__doc__" 166 (.none),he P "__package__" 167 (.none),he P "__loader__" 168 (.builtin "__main__.__loader__#opaque"),he P "__spec__" 169 (.none),he P "__annotations__" 170 (.ref 6),he P "__builtins__" 171 (.ref 4),he P "__file__" 173 (hv "/claim/cut.py" 172),he P "__cached__" 174 (.none),he P "_sre" 275 (.ref 12),he P "_wall" 288 (.ref 38),he P "_twin_re_1" 326 (.ref 43),he P "_special_chars_map" 474 (.ref 45),he P "escape" 481 (.ref 55),he P "_translate" 502 (.ref 62),he P "_NODE_OUT" 507 (PySem.Value.int (-1) 506),he P "_NODE_DONE" 510 (PySem.Value.int (-2) 509),he P "_NodeInfo" 547 (.ref 81),he P "CycleError" 565 (.ref 96),he P "TopologicalSorter" 684 (.ref 178),he P "_MAX_STRING_SIZE" 688 (.int 40 687),he P "_MOVE_COST" 690 (.int 2 689),he P "_CASE_COST" 692 (.int 1 691),he P "_substitution_cost" 700 (.ref 189),he P "_levenshtein_distance" 720 (.ref 196),he P "_law_name" 729 (.ref 203),he P "_law_pattern" 736 (.ref 210),he P "_law_jobs" 742 (.ref 215),he P "_law_takes" 750 (.ref 222),he P "_law_fits" 762 (.ref 229),he P "_law_price" 768 (.ref 234),he P "_law_sorter" 774 (.ref 239),he P "_law_needs" 780 (.ref 244),he P "_law_run" 786 (.ref 249),he P "_law_due" 792 (.ref 254),he P "_law_told" 798 (.ref 259),he P "law" 804 (.ref 264)] 37),
(45,uh [hi 40 330 (hv "\\(" 334),hi 41 336 (hv "\\)" 340),hi 91 342 (hv "\\[" 346),hi 93 348 (hv "\\]" 352),hi 123 354 (hv "\\{" 358),hi 125 360 (hv "\\}" 364),hi 63 366 (hv "\\?" 370),hi 42 372 (hv "\\*" 376),hi 43 378 (hv "\\+" 382),hi 45 384 (hv "\\-" 388),hi 124 390 (hv "\\|" 394),hi 94 396 (hv "\\^" 400),hi 36 402 (hv "\\$" 406),hi 92 408 (hv "\\\\" 412),hi 46 414 (hv "\\." 418),hi 38 420 (hv "\\&" 424),hi 126 426 (hv "\\~" 430),hi 35 432 (hv "\\#" 436),hi 32 438 (hv "\\ " 442),hi 9 444 (hv "\\\t" 448),hi 10 450 (hv "\\\n" 454),hi 13 456 (hv "\\\x0d" 460),hi 11 462 (hv "\\\x0b" 466),hi 12 468 (hv "\\\x0c" 472)] 24),
(54,hx "code" [hv "escape" 475,hv "escape" 476,hv "/claim/cut.py" 477,hn 8,hn 1,hn 0,hn 0,hn 3,.ref 49,.bool true,hn 276,.ref 50,.none,.ref 51,.ref 52,.ref 53,hn 479,hn 8,hv "/claim/cut.py" 480]),
(55,hf (fx 5) "escape" (hv "re" 327) 54),
(61,hx "code" [hv "_translate" 484,hv "_translate" 485,hv "/claim/cut.py" 486,hn 15,hn 3,hn 0,hn 0,hn 3,.ref 56,.bool true,hn 276,.ref 57,.none,.ref 58,.ref 59,.ref 60,hn 500,hn 15,hv "/claim/cut.py" 501]),
(62,hf (fx 7) "_translate" (hv "cpy313.fnmatch" 482) 61),
(76,hx "code" [hv "__init__" 527,hv "_NodeInfo.__init__" 528,hv "/claim/cut.py" 529,hn 83,hn 2,hn 0,hn 0,hn 3,.ref 71,.bool true,hn 276,.ref 72,.none,.ref 73,.ref 74,.ref 75,hn 532,hn 83,hv "/claim/cut.py" 533]),
(77,hf (mM 11 "__init__") "_NodeInfo.__init__" (hv "cpy313.graphlib" 503) 76),
(80,uh [he P "__module__" 518 (hv "cpy313.graphlib" 503),he P "__firstlineno__" 522 (.int 80 521),he P "__slots__" 526 (.ref 70),he P "__init__" 534 (.ref 77),he P "__static_attributes__" 538 (.ref 78),he P "node" 540 (.ref 82),he P "npredecessors" 542 (.ref 83),he P "successors" 544 (.ref 84),he P "__doc__" 545 (.none)] 5),
(81,{cls:=.type "type",data:=.cls {name:= "_NodeInfo",bases:=[.type "object"],mro:=[.ref 81,.type "object"],ns:=80,qualname:= "_NodeInfo",hasDict:=false,slotNames:=["node", "npredecessors", "successors"]},slots:= #[none,none,some (hv "_NodeInfo" 511),some (hv "_NodeInfo" 519),some (.builtin "object.__new__"),some (.bool false)]}),
(82,hx "member_descriptor" [hv "node" 539,.ref 81,.builtin "proto.slot",.builtin "proto.slot#set",hn 2]),
(83,hx "member_descriptor" [hv "npredecessors" 541,.ref 81,.builtin "proto.slot",.builtin "proto.slot#set",hn 1]),
(84,hx "member_descriptor" [hv "successors" 543,.ref 81,.builtin "proto.slot",.builtin "proto.slot#set",hn 0]),
(87,ht [.type "ValueError"]),
(95,uh [he P "__module__" 555 (hv "cpy313.graphlib" 503),he P "__firstlineno__" 559 (.int 87 558),he P "__static_attributes__" 560 (.ref 94),he P "__weakref__" 562 (.ref 97),he P "__doc__" 563 (.none)] 3),
(96,{cls:=.type "type",data:=.cls {name:= "CycleError",bases:=[.type "ValueError"],mro:=[.ref 96,.type "ValueError",.type "Exception",.type "BaseException",.type "object"],ns:=95,qualname:= "CycleError" },slots:= #[some (.ref 87),none,some (hv "CycleError" 548),some (hv "CycleError" 556),some (.builtin "ValueError.__new__"),some (.bool true)]}),
(97,hx "getset_descriptor" [hv "__weakref__" 561,.ref 96,.builtin "ExceptionGroup.__weakref__",.none]),
(107,ht [.none]),
(113,hx "code" [hv "__init__" 578,hv "TopologicalSorter.__init__" 579,hv "/claim/cut.py" 580,hn 91,hn 2,hn 0,hn 0,hn 3,.ref 108,.bool true,hn 276,.ref 109,.none,.ref 110,.ref 111,.ref 112,hn 585,hn 91,hv "/claim/cut.py" 586]),
(114,hf (mM 13 "__init__") "TopologicalSorter.__init__" (hv "cpy313.graphlib" 503) 113 (.ref 107)),
(120,hx "code" [hv "_get_nodeinfo" 588,hv "TopologicalSorter._get_nodeinfo" 589,hv "/claim/cut.py" 590,hn 100,hn 2,hn 0,hn 0,hn 3,.ref 115,.bool true,hn 276,.ref 116,.none,.ref 117,.ref 118,.ref 119,hn 594,hn 100,hv "/claim/cut.py" 595]),
(121,hf (mM 13 "_get_nodeinfo") "TopologicalSorter._get_nodeinfo" (hv "cpy313.graphlib" 503) 120),
(127,hx "code" [hv "add" 597,hv "TopologicalSorter.add" 598,hv "/claim/cut.py" 599,hn 105,hn 2,hn 0,hn 0,hn 7,.ref 122,.bool true,hn 276,.ref 123,.none,.ref 124,.ref 125,.ref 126,hn 606,hn 105,hv "/claim/cut.py" 607]),
(128,hf (mM 13 "add") "TopologicalSorter.add" (hv "cpy313.graphlib" 503) 127),
(132,hx "code" [hv "prepare" 609,hv "TopologicalSorter.prepare" 610,hv "/claim/cut.py" 611,hn 114,hn 1,hn 0,hn 0,hn 3,.ref 129,.bool true,hn 276,.ref 130,.none,.none,.none,.ref 131,hn 612,hn 114,hv "/claim/cut.py" 613]),
(133,hf (mM 13 "prepare") "TopologicalSorter.prepare" (hv "cpy313.graphlib" 503) 132),
(139,hx "code" [hv "get_ready" 615,hv "TopologicalSorter.get_ready" 616,hv "/claim/cut.py" 617,hn 122,hn 1,hn 0,hn 0,hn 3,.ref 134,.bool true,hn 276,.ref 135,.none,.ref 136,.ref 137,.ref 138,hn 622,hn 122,hv "/claim/cut.py" 623]),
(140,hf (mM 13 "get_ready") "TopologicalSorter.get_ready" (hv "cpy313.graphlib" 503) 139),
(160,hx "code" [hv "done" 639,hv "TopologicalSorter.done" 640,hv "/claim/cut.py" 641,hn 141,hn 1,hn 0,hn 0,hn 7,.ref 155,.bool true,hn 276,.ref 156,.none,.ref 157,.ref 158,.ref 159,hn 650,hn 141,hv "/claim/cut.py" 651]),
(161,hf (mM 13 "done") "TopologicalSorter.done" (hv "cpy313.graphlib" 503) 160),
(167,hx "code" [hv "_find_cycle" 653,hv "TopologicalSorter._find_cycle" 654,hv "/claim/cut.py" 655,hn 164,hn 1,hn 0,hn 0,hn 3,.ref 162,.bool true,hn 276,.ref 163,.none,.ref 164,.ref 165,.ref 166,hn 663,hn 164,hv "/claim/cut.py" 664]),
(168,hf (mM 13 "_find_cycle") "TopologicalSorter._find_cycle" (hv "cpy313.graphlib" 503) 167),
(177,uh [he P "__module__" 573 (hv "cpy313.graphlib" 503),he P "__firstlineno__" 577 (.int 89 576),he P "__init__" 587 (.ref 114),he P "_get_nodeinfo" 596 (.ref 121),he P "add" 608 (.ref 128),he P "prepare" 614 (.ref 133),he P "get_ready" 624 (.ref 140),he P "is_active" 631 (.ref 147),he P "__bool__" 638 (.ref 154),he P "done" 652 (.ref 161),he P "_find_cycle" 665 (.ref 168),he P "static_order" 672 (.ref 175),he P "__static_attributes__" 677 (.ref 176),he P "__dict__" 679 (.ref 179),he P "__weakref__" 681 (.ref 180),he P "__doc__" 682 (.none)] 4),
(178,{cls:=.type "type",data:=.cls {name:= "TopologicalSorter",bases:=[.type "object"],mro:=[.ref 178,.type "object"],ns:=177,qualname:= "TopologicalSorter" },slots:= #[none,none,some (hv "TopologicalSorter" 566),some (hv "TopologicalSorter" 574),some (.builtin "object.__new__"),some (.bool true)]}),
(179,hx "getset_descriptor" [hv "__dict__" 678,.ref 178,.builtin "function.__dict__",.builtin "function.__dict__#set"]),
(180,hx "getset_descriptor" [hv "__weakref__" 680,.ref 178,.builtin "ExceptionGroup.__weakref__",.none]),
(188,hx "code" [hv "_substitution_cost" 693,hv "_substitution_cost" 694,hv "/claim/cut.py" 695,hn 199,hn 2,hn 0,hn 0,hn 3,.ref 183,.bool true,hn 276,.ref 184,.none,.ref 185,.ref 186,.ref 187,hn 698,hn 199,hv "/claim/cut.py" 699]),
(189,hf (fx 18) "_substitution_cost" (hv "cpy313.traceback" 685) 188),
(195,hx "code" [hv "_levenshtein_distance" 701,hv "_levenshtein_distance" 702,hv "/claim/cut.py" 703,hn 205,hn 3,hn 0,hn 0,hn 3,.ref 190,.bool true,hn 276,.ref 191,.none,.ref 192,.ref 193,.ref 194,hn 718,hn 205,hv "/claim/cut.py" 719]),
(196,hf (fx 19) "_levenshtein_distance" (hv "cpy313.traceback" 685) 195),
(202,hx "code" [hv "_law_name" 723,hv "_law_name" 724,hv "/claim/cut.py" 725,hn 244,hn 1,hn 0,hn 0,hn 3,.ref 197,.bool true,hn 276,.ref 198,.none,.ref 199,.ref 200,.ref 201,hn 727,hn 244,hv "/claim/cut.py" 728]),
(203,hf (fx 21) "_law_name" (hv "law_in0128_01" 721) 202),
(209,hx "code" [hv "_law_pattern" 730,hv "_law_pattern" 731,hv "/claim/cut.py" 732,hn 246,hn 1,hn 0,hn 0,hn 3,.ref 204,.bool true,hn 276,.ref 205,.none,.ref 206,.ref 207,.ref 208,hn 734,hn 246,hv "/claim/cut.py" 735]),
(210,hf (fx 22) "_law_pattern" (hv "law_in0128_01" 721) 209),
(214,hx "code" [hv "_law_jobs" 737,hv "_law_jobs" 738,hv "/claim/cut.py" 739,hn 248,hn 2,hn 0,hn 0,hn 3,.ref 211,.bool true,hn 276,.ref 212,.none,.none,.none,.ref 213,hn 740,hn 248,hv "/claim/cut.py" 741]),
(215,hf (fx 23) "_law_jobs" (hv "law_in0128_01" 721) 214),
(221,hx "code" [hv "_law_takes" 743,hv "_law_takes" 744,hv "/claim/cut.py" 745,hn 253,hn 2,hn 0,hn 0,hn 3,.ref 216,.bool true,hn 276,.ref 217,.none,.ref 218,.ref 219,.ref 220,hn 748,hn 253,hv "/claim/cut.py" 749]),
(222,hf (fx 24) "_law_takes" (hv "law_in0128_01" 721) 221),
(228,hx "code" [hv "_law_fits" 751,hv "_law_fits" 752,hv "/claim/cut.py" 753,hn 259,hn 2,hn 0,hn 0,hn 3,.ref 223,.bool true,hn 276,.ref 224,.none,.ref 225,.ref 226,.ref 227,hn 760,hn 259,hv "/claim/cut.py" 761]),
(229,hf (fx 25) "_law_fits" (hv "law_in0128_01" 721) 228),
(233,hx "code" [hv "_law_price" 763,hv "_law_price" 764,hv "/claim/cut.py" 765,hn 263,hn 2,hn 0,hn 0,hn 3,.ref 230,.bool true,hn 276,.ref 231,.none,.none,.none,.ref 232,hn 766,hn 263,hv "/claim/cut.py" 767]),
(234,hf (fx 26) "_law_price" (hv "law_in0128_01" 721) 233),
(238,hx "code" [hv "_law_sorter" 769,hv "_law_sorter" 770,hv "/claim/cut.py" 771,hn 268,hn 1,hn 0,hn 0,hn 3,.ref 235,.bool true,hn 276,.ref 236,.none,.none,.none,.ref 237,hn 772,hn 268,hv "/claim/cut.py" 773]),
(239,hf (fx 27) "_law_sorter" (hv "law_in0128_01" 721) 238),
(243,hx "code" [hv "_law_needs" 775,hv "_law_needs" 776,hv "/claim/cut.py" 777,hn 280,hn 1,hn 0,hn 0,hn 3,.ref 240,.bool true,hn 276,.ref 241,.none,.none,.none,.ref 242,hn 778,hn 280,hv "/claim/cut.py" 779]),
(244,hf (fx 28) "_law_needs" (hv "law_in0128_01" 721) 243),
(248,hx "code" [hv "_law_run" 781,hv "_law_run" 782,hv "/claim/cut.py" 783,hn 283,hn 1,hn 0,hn 0,hn 3,.ref 245,.bool true,hn 276,.ref 246,.none,.none,.none,.ref 247,hn 784,hn 283,hv "/claim/cut.py" 785]),
(249,hf (fx 29) "_law_run" (hv "law_in0128_01" 721) 248),
(253,hx "code" [hv "_law_due" 787,hv "_law_due" 788,hv "/claim/cut.py" 789,hn 290,hn 1,hn 0,hn 0,hn 3,.ref 250,.bool true,hn 276,.ref 251,.none,.none,.none,.ref 252,hn 790,hn 290,hv "/claim/cut.py" 791]),
(254,hf (fx 30) "_law_due" (hv "law_in0128_01" 721) 253),
(258,hx "code" [hv "_law_told" 793,hv "_law_told" 794,hv "/claim/cut.py" 795,hn 298,hn 2,hn 0,hn 0,hn 3,.ref 255,.bool true,hn 276,.ref 256,.none,.none,.none,.ref 257,hn 796,hn 298,hv "/claim/cut.py" 797]),
(259,hf (fx 31) "_law_told" (hv "law_in0128_01" 721) 258),
(263,hx "code" [hv "law" 799,hv "law" 800,hv "/claim/cut.py" 801,hn 303,hn 1,hn 0,hn 0,hn 3,.ref 260,.bool true,hn 276,.ref 261,.none,.none,.none,.ref 262,hn 802,hn 303,hv "/claim/cut.py" 803]),
(264,hf (fx 32) "law" (hv "law_in0128_01" 721) 263)]
noncomputable def dI:Program:={PySem.Challenge.pw_in0128_01 with main:={PySem.Challenge.pw_in0128_01.main with body:=[0,1,2,4,5,7,9,10,11,12,13,15,16,17,18,19,21,22,23,24,25,26,27,28,29,30,31,32].map fx}}
noncomputable def fY:List Str:=["_twin_re_1", "_special_chars_map", "_NodeInfo"]
noncomputable def Ef:List Addr:=[3,45,54,55,61,62,76,77,80,81,82,83,84,87,95,96,97,107,113,114,120,121,127,128,132,133,139,140,160,161,167,168,177,178,179,180,188,189,195,196,202,203,209,210,214,215,221,222,228,229,233,234,238,239,243,244,248,249,253,254,258,259,263,264]
theorem Dk (P:Params):Ef=(hk P).map (·.1):=by kernel_rfl
noncomputable def ei:Hook:=kHook hk Ef Dk
theorem Be:PySem.Challenge.rw_in0128_01.wellSaid=true:=by kernel_rfl
set_option backward.match.sparseCases true
noncomputable abbrev hR:RowW:=PySem.Challenge.rw_in0128_01.row.toRowW
noncomputable abbrev hX (s:Shared):Bool:=xlAt dI [] s&&recOk (RowW.records hR) s
noncomputable abbrev hQ (w:World):Prop:=(openEnds treeTable hR.prog w 5946).map (fun s=>(openSeen dI fY (importedModules hR.prog.main.body) hX true s,ei.obs s))=some (openGood dI fY,ei.val w)
noncomputable def wb (tb:String→Option Builtin)(tr:(String→Option Builtin)→Program→World→Nat→Option Value→Nat→Shared→Thread→Option Shared)(im:List Stmt→List Str)(p:Program)(w:World) (N:Nat)(s₀:Shared):Option Shared:=
 match s₀.heap.isNs mainGlobals&&s₀.gens.size==0 with
 |true=>(tr tb p w s₀.heap.objs.size (s₀.heap.nsMap mainGlobals "__annotations__") N s₀ (topStub p)).bind fun s₁=>match staticsOk (im p.main.body) s₀.heap s₁.heap&&namesBound p s₁.heap&&gensDone s₁&&laidKept s₀.heap s₁.heap with
   |true=>some s₁
   |false=>none
 |false=>none
noncomputable def wc {γ:Type}(tb:String→Option Builtin)(imp:(String→Option Builtin)→Program→World→Nat→Shared→Thread→Option Shared)(st:Program→Shared×Thread)(fm:Program→Shared→Option Shared)
  (tr:(String→Option Builtin)→Program→World→Nat→Option Value→Nat→Shared→Thread→Option Shared)(im:List Stmt→List Str)(sn:Program→List Str→List Str→(Shared→Bool)→Bool→Shared→γ)(w:World):Option (γ×ei.α):=
 (((imp tb (opening hR.prog) w 5946 (st (opening hR.prog)).1 (st (opening hR.prog)).2).bind (fm hR.prog)).bind (wb tb tr im hR.prog w 5946)).map (fun s=>(sn dI fY (im hR.prog.main.body) hX true s,ei.obs s))
theorem Dl (w:World):(openEnds treeTable hR.prog w 5946).map (fun s=>(openSeen dI fY (importedModules hR.prog.main.body) hX true s,ei.obs s))=wc treeTable importEnds start fenceModules? topRun importedModules openSeen w:=by
 unfold wc openEnds fencedOpening;have e:topFrom treeTable hR.prog w 5946=wb treeTable topRun importedModules hR.prog w 5946:=by
  funext s;unfold topFrom wb;rfl
 rw [e]
theorem rW (w:World)(h:wc PySem.W.Fast.tw14364793385576792824 PySem.W.Fast.tw10274390034422433532 PySem.W.Fast.tw1435165496053646825 PySem.W.Fast.tw14289696077712309145 PySem.W.Fast.tw14082659384304107361 PySem.W.Fast.tw5923862056798008813 PySem.W.Fast.tw4187177175401517315 w=some (openGood dI fY,ei.val w)):hQ w:=by
 unfold hQ;rw [Dl,PySem.W.Fast.te14364793385576792824,PySem.W.Fast.te10274390034422433532,PySem.W.Fast.te1435165496053646825,PySem.W.Fast.te14289696077712309145,PySem.W.Fast.te14082659384304107361,PySem.W.Fast.te5923862056798008813,PySem.W.Fast.te4187177175401517315];exact h
theorem EA (w:World):hQ ((w.withFollow "special-get-raises" false).withFollow "comprehension-iter-twice" false):=rW _ (by kernel_rfl)
theorem Ey (w:World):hQ ((w.withFollow "special-get-raises" true).withFollow "comprehension-iter-twice" false):=rW _ (by kernel_rfl)
theorem Ez (w:World):hQ ((w.withFollow "special-get-raises" false).withFollow "comprehension-iter-twice" true):=rW _ (by kernel_rfl)
theorem Ex (w:World):hQ ((w.withFollow "special-get-raises" true).withFollow "comprehension-iter-twice" true):=rW _ (by kernel_rfl)
theorem Bf (w:World):hQ w:=byRow2 "comprehension-iter-twice" (P:=hQ)
 (byRow2 "special-get-raises" (P:=fun w=>hQ (w.withFollow "comprehension-iter-twice" false)) EA Ey)
 (byRow2 "special-get-raises" (P:=fun w=>hQ (w.withFollow "comprehension-iter-twice" true)) Ez Ex) w
theorem hd {d:DefRec}{kwd:List (Str×PySem.Expr)}(hdef:defOf dI PySem.Challenge.rw_in0128_01.row.name=some (d,kwd))(hp:PySem.Challenge.rw_in0128_01.row.prog.theDef PySem.Challenge.rw_in0128_01.row.name=some (d.params,d.body,d.scope))(hk:kwWritten? d.params.kwonlyargs d.params.kw_defaults=some kwd)
  (call:WalkO dI fY (XL dI []) ei.says PySem.Challenge.rw_in0128_01.row.toRowW d kwd fun f vs=>PySem.call f vs):PySem.Challenge.rw_in0128_01.Holds:=
 holds_law Be fun said=>holds_open (q:=dI) (loose:=fY) (Xt:=hX) (XP:=XL dI []) (Yf:=Hook.obs ei) (Ya:=Hook.val ei) (YP:=Hook.says ei) (N:=5946) Bf (Hook.of ei) (Hook.keeps ei)
  (fun s e=>xl_of s (Bool.and_eq_true_iff.mp e).1) XL.keeps hdef hp hk (fun s e=>recFacts_of (Bool.and_eq_true_iff.mp e).2) (by kernel_rfl) said (by kernel_rfl) ⟨rfl,rfl,rfl,rfl,rfl,by kernel_rfl⟩ ⟨[.list []],by decide+kernel,by decide+kernel⟩ call
set_option backward.match.sparseCases false
set_option genSizeOf false
set_option tactic.hygienic false
noncomputable abbrev Kn:=Addr→Option Obj
noncomputable def Kn.In (G:Kn)(h:Heap):Prop:= ∀a o,G a=some o→h.get? a=some o
noncomputable def Kn.Le (G G':Kn):Prop:= ∀a o,G a=some o→G' a=some o
noncomputable def Kn.add (G:Kn)(a:Addr)(o:Obj):Kn:=fun b=>if b=a then some o else G b
inductive D where
 |none
 |bool (b:Bool)
 |int (i:Int)
 |str (s:List Nat)
 |typ (n:String)
 |adr (a:Nat)
 |list (l:List D)
 |tup (l:List D)
 |dict (l:List (List Nat×D))
noncomputable abbrev mk (s:List Nat):Str:=⟨s.toArray⟩
noncomputable abbrev aB (vs:List Value) (n:Nat):Obj:={cls:=.type "list",data:=.seq vs.toArray n}
noncomputable abbrev cB (vs:List Value) (n:Nat):Obj:={cls:=.type "tuple",data:=.seq vs.toArray n}
noncomputable abbrev cR (es:List DictEntry) (n:Nat):Obj:={cls:=.type "dict",data:=.dict es.toArray n}
mutual
inductive Rd (P:Params)(G:Kn):Value→D→Prop
 |none:Rd P G .none .none
 |bool (b):Rd P G (.bool b) (.bool b)
 |int (i t):Rd P G (.int i t) (.int i)
 |str (x t):Rd P G (.str (mk x) t) (.str x)
 |typ (n):Rd P G (.type n) (.typ n)
 |adr (a:Nat):Rd P G (.ref a) (.adr a)
 |list {a n vs ds}:G a=some (aB vs n)→ai P G vs ds→Rd P G (.ref a) (.list ds)
 |tup {a n vs ds}:G a=some (cB vs n)→ai P G vs ds→Rd P G (.ref a) (.tup ds)
 |dict {a n es ks}:G a=some (cR es n)→(a==sysModules)=false∧(ks.map (·.1)).Nodup→dt P G es ks→Rd P G (.ref a) (.dict ks)
inductive ai (P:Params)(G:Kn):List Value→List D→Prop
 |nil:ai P G [] []
 |cons {v vs d ds}:Rd P G v d→ai P G vs ds→ai P G (v::vs) (d::ds)
inductive dt (P:Params)(G:Kn):List DictEntry→List (List Nat×D)→Prop
 |nil:dt P G [] []
 |cons {h k t v es d ks}:h=PyData.keyHash P (mk k)→Rd P G v d→dt P G es ks→dt P G (⟨h,.str (mk k) t,v⟩::es) ((k,d)::ks)
end
theorem aa {α:Type}{a:α}(h:none=some a):False:=by cases h
theorem aj (h:false=true):False:=by cases h
theorem Kn.Le.refl (G:Kn):G.Le G:=fun Z Z e=>e
theorem Kn.Le.trans {G G' G'':Kn}(a:G.Le G')(b:G'.Le G''):G.Le G'':=fun x o e=>b x o (a x o e)
section
variable {P:Params}{G G':Kn}{v:Value}{d:D}{vs ws:List Value}{ds es:List D}
theorem ai.ind {m:List Value→List D→Prop}(nil:m [] [])(cons:∀v vs d ds,Rd P G v d→ai P G vs ds→m vs ds→m (v::vs) (d::ds))(h:ai P G vs ds):m vs ds:=
 ai.rec (motive_1:=fun Z Z Z=>True) (motive_2:=fun vs ds Z=>m vs ds) (motive_3:=fun Z Z Z=>True) .intro (fun Z=>.intro) (fun Z Z=>.intro) (fun Z Z=>.intro) (fun Z=>.intro) (fun Z=>.intro) (fun Z Z Z=>.intro) (fun Z Z Z=>.intro) (fun Z Z Z Z=>.intro)
  nil (fun a r Z ih=>cons _ _ _ _ a r ih) .intro (fun Z Z Z Z Z=>.intro) h
noncomputable def Rd.Inv (P:Params)(G:Kn)(v:Value):D→Prop
 | .none=>v=.none
 | .bool b=>v=.bool b
 | .int i=> ∃t,v=.int i t
 | .str x=> ∃t,v=.str (mk x) t
 | .typ n=>v=.type n
 | .adr a=>v=.ref a
 | .list ds=> ∃a n vs,v=.ref a∧G a=some (aB vs n)∧ai P G vs ds
 | .tup ds=> ∃a n vs,v=.ref a∧G a=some (cB vs n)∧ai P G vs ds
 | .dict ks=> ∃a n es,v=.ref a∧G a=some (cR es n)∧((a==sysModules)=false∧(ks.map (·.1)).Nodup)∧dt P G es ks
theorem Rd.inv (h:Rd P G v d):Rd.Inv P G v d:=
 Rd.casesOn (motive_1:=fun v d Z=>Rd.Inv P G v d) h rfl (fun Z=>rfl) (fun Z Z=>⟨_,rfl⟩) (fun Z Z=>⟨_,rfl⟩) (fun Z=>rfl) (fun Z=>rfl) (fun e r=>⟨_,_,_,rfl,e,r⟩) (fun e r=>⟨_,_,_,rfl,e,r⟩) fun e x r=>⟨_,_,_,rfl,e,x,r⟩
noncomputable def ai.Inv (P:Params)(G:Kn)(vs:List Value):List D→Prop
 | []=>vs=[]
 |d::ds=> ∃v vs',vs=v::vs'∧Rd P G v d∧ai P G vs' ds
theorem ai.inv (h:ai P G vs ds):ai.Inv P G vs ds:=
 ai.casesOn (motive_2:=fun vs ds Z=>ai.Inv P G vs ds) h rfl fun a r=>⟨_,_,rfl,a,r⟩
theorem Rd.mono (hs:G.Le G')(h:Rd P G v d):Rd P G' v d:=
 Rd.rec (motive_1:=fun v d Z=>Rd P G' v d) (motive_2:=fun vs ds Z=>ai P G' vs ds) (motive_3:=fun es ks Z=>dt P G' es ks) .none .bool .int .str .typ .adr (fun e Z r=>.list (hs _ _ e) r) (fun e Z r=>.tup (hs _ _ e) r) (fun e x Z r=>.dict (hs _ _ e) x r)
  .nil (fun Z Z a r=>.cons a r) .nil (fun e Z Z a r=>.cons e a r) h
theorem ai.mono (hs:G.Le G')(h:ai P G vs ds):ai P G' vs ds:=h.ind .nil fun Z Z Z Z a Z ih=>.cons (a.mono hs) ih
theorem dt.mono {es:List DictEntry}{ks:List (List Nat×D)}(hs:G.Le G')(h:dt P G es ks):dt P G' es ks:=
 dt.rec (motive_1:=fun Z Z Z=>True) (motive_2:=fun Z Z Z=>True) (motive_3:=fun es ks Z=>dt P G' es ks) .intro (fun Z=>.intro) (fun Z Z=>.intro) (fun Z Z=>.intro) (fun Z=>.intro) (fun Z=>.intro) (fun Z Z Z=>.intro) (fun Z Z Z=>.intro) (fun Z Z Z Z=>.intro)
  .intro (fun Z Z Z Z=>.intro) .nil (fun e a Z Z r=>.cons e (a.mono hs) r) h
theorem ai.length (h:ai P G vs ds):vs.length=ds.length:=h.ind (m:=fun vs ds=>vs.length=ds.length) rfl fun Z Z Z Z Z Z e=>congrArg Nat.succ e
theorem ai.append (h:ai P G vs ds)(k:ai P G ws es):ai P G (vs++ws) (ds++es):=h.ind (m:=fun vs ds=>ai P G (vs++ws) (ds++es)) k fun Z Z Z Z a Z ih=>.cons a ih
theorem ai.get (h:ai P G vs ds):∀{k:Nat}{d:D},ds[k]? =some d→∃v,vs[k]? =some v∧Rd P G v d:=
 h.ind (m:=fun vs ds=> ∀{k:Nat} {d:D},ds[k]? =some d→∃v,vs[k]? =some v∧Rd P G v d) (fun e=>(aa e).elim) fun v _ d _ a _ ih {k d'} e=>by
  cases k with
  |zero=>exact⟨v,rfl,Option.some.inj (show some d=some d' from e)▸a⟩
  |succ k=>exact ih e
theorem ai.drop (n:Nat)(h:ai P G vs ds):ai P G (vs.drop n) (ds.drop n):=by
 refine h.ind (m:=fun vs ds=> ∀n:Nat,ai P G (vs.drop n) (ds.drop n)) (fun n=>?_) (fun Z Z Z Z a r ih n=>?_) n<;>cases n
 ·exact .nil
 ·exact .nil
 ·exact .cons a r
 ·exact ih _
theorem ai.take (n:Nat)(h:ai P G vs ds):ai P G (vs.take n) (ds.take n):=by
 refine h.ind (m:=fun vs ds=> ∀n:Nat,ai P G (vs.take n) (ds.take n)) (fun n=>?_) (fun Z Z Z Z a r ih n=>?_) n<;>cases n
 ·exact .nil
 ·exact .nil
 ·exact .nil
 ·exact .cons a (ih _)
theorem ai.set (n:Nat){v:Value}{d:D}(h:ai P G vs ds)(k:Rd P G v d):ai P G (vs.set n v) (ds.set n d):=by
 refine h.ind (m:=fun vs ds=> ∀n:Nat,ai P G (vs.set n v) (ds.set n d)) (fun n=>.nil) (fun Z Z Z Z a r ih n=>?_) n
 cases n
 ·exact .cons k r
 ·exact .cons a (ih _)
end
theorem cM (h:Heap)(a:Addr)(f:Obj→Obj):(h.update a f).objs.size=h.objs.size:=by
 obtain⟨o,l⟩:=h;simp [Heap.update]
theorem ms {M:Model}{Γ:Ctx}{p:Pos}{t:Sem Fin}{fs:List Frame}{s s':Shared}{e:End}(h:Runs M Γ p t fs s e s'):s.heap.objs.size≤s'.heap.objs.size:=by
 induction h<;>first |exact Nat.le_refl _ |assumption |exact Nat.le_trans ‹_› ‹_› |((try simp only [Shared.setGen,cM,Heap.size_push]at*)<;>lia)
theorem qM {M:Model}{Γ:Ctx}{p:Pos}{g:Nat}{r:Resume}{s s':Shared}{res:GenResult}(h:Wakes M Γ p g r s res s'):s.heap.objs.size≤s'.heap.objs.size:=by
 have run:∀{c t fs} {p0:Pos},(∃e1 s₁,Runs M (Γ.wake c p) p0 t fs (s.setGen g .running) e1 s₁∧e1.quiet=true∧res=e1.result∧s'=s₁.setGen g e1.genState)→s.heap.objs.size≤s'.heap.objs.size:=fun h=>by
  refine nl h fun e1 s₁ hr Z Z e=>?_;rw [e];exact(ms hr:(s.setGen g .running).heap.objs.size≤s₁.heap.objs.size)
 have same:∀{t},t=s∨t=s.setGen g .finished→s'=t→s.heap.objs.size≤s'.heap.objs.size:=fun z e=>by
  rw [e];exact z.elim (fun z=>z▸Nat.le_refl _) fun z=>z▸Nat.le_refl _
 unfold Wakes at h;cases q:s.gens[g]? with
 |none=>rw [q]at h;exact h.elim
 |some st=>
  rw [q]at h;cases st with
  |fresh c=>
   cases r with
   |send v=>
    cases v with
    |none=>exact run h
    |_=>exact same (.inl rfl) h.2
   |throw x=>exact same (.inr rfl) h.2
  |suspended k0 l c₀ p0 fs cl=>exact run h
  |running=>exact same (.inl rfl) h.2
  |finished=>exact same (.inl rfl) h.2
theorem pF {α:Type}(M:Model)(Γ:Ctx) (n:Nat)(t:Sem α):∀(Q:α→Pos→Shared→Prop)(E:Value→Pos→Shared→Prop)(p:Pos)(s:Shared),n≤s.heap.objs.size→Sem.wp M Γ t Q E p s→
  Sem.wp M Γ t (fun a p' s'=>n≤s'.heap.objs.size∧Q a p' s') (fun e p' s'=>n≤s'.heap.objs.size∧E e p' s') p s:=by
 induction t with
 |pure a=>intro Q E p s hn h;exact⟨hn,h⟩
 |raise e=>intro Q E p s hn h;exact⟨hn,h⟩
 |unsupported _=>intro Q E p s _ h;exact h
 |finish _=>intro Q E p s _ h;exact h
 |rule _ k ih=>intro Q E p s hn h;exact ih () Q E p s hn h
 |«at» p' k ih=>intro Q E p s hn h;exact ih () Q E p' s hn h
 |load a _ k ih=>intro Q E p s hn h;refine ah h fun o ho h=>?_;exact⟨o,ho,ih o Q E p s hn h⟩
 |update a _ f k ih=>intro Q E p s hn h;exact⟨h.1,ih () Q E p _ (by rw [cM];exact hn) h.2⟩
 |loadIfAlive a k ih=>intro Q E p s hn h;exact ih _ Q E p s hn h
 |point _ k ih=>intro Q E p s hn h;exact ih () Q E p s hn h
 |register _ _=>intro Q E p s _ h;exact h
 |alloc o k ih=>intro Q E p s hn h;exact ih _ Q E p _ (by rw [Heap.size_push];lia) h
 |fresh k ih=>intro Q E p s hn h;exact ih _ Q E p _ hn h
 |ask k ih=>intro Q E p s hn h;exact ih _ Q E p s hn h
 |choose src m k ih=>intro Q E p s hn h;exact⟨h.1,ih _ Q E p _ hn h.2⟩
 |os q _ k ih=>intro Q E p s hn h;exact ih _ Q E p _ hn h
 |call c hd _ _ k ih=>intro Q E p s hn h;refine aA h fun r s' hr h=>?_;exact⟨r,s',hr,ih r Q E p s' (Nat.le_trans hn (ms hr)) h⟩
 |handled own k ih=>intro Q E p s hn h;exact ih _ Q E p s hn h
 |genState g k ih=>intro Q E p s hn h;refine ah h fun st hs h=>?_;exact⟨st,hs,ih _ Q E p s hn h⟩
 |newGen c k ih=>intro Q E p s hn h;exact ih _ Q E p _ hn h
 |resume g r _ k ih=>intro Q E p s hn h;refine aA h fun res s' hw h=>?_;exact⟨res,s',hw,ih res Q E p s' (Nat.le_trans hn (qM hw)) h⟩
 |yield _ _ _ _=>intro Q E p s _ h;exact h
 |stack k ih=>intro Q E p s hn h;exact ih _ Q E p s hn h
 |fork _ _=>intro Q E p s _ h;exact h
 |thread k ih=>intro Q E p s hn h;exact ih _ Q E p s hn h
 |await _ _ _ _ _=>intro Q E p s _ h;exact h
theorem aK {α:Type}{M:Model}{A:Around}{s:Shared}{t:Sem α}{Q:α→Shared→Prop}{E:Value→Shared→Prop}
  (h:wpAny M A t (fun a s'=>s.heap.objs.size≤s'.heap.objs.size∧s.toks≤s'.toks→Q a s') E s):wpAny M A t Q E s:=
 wpAny_mono (wpAny_toks (show wpAny M A t (fun a s'=>s.toks≤s'.toks→Q a s') E s from fun Γ p hΓ=>Sem.wp_mono M Γ t (fun Z Z Z x y=>x.2 ⟨x.1,y⟩) (fun Z Z Z x=>x.2) p s (pF M Γ _ t _ _ p s (Nat.le_refl _) (h Γ p hΓ)))) (fun Z Z x=>x.2 x.1) fun Z Z x=>x.2
structure ae (s:Shared)(G:Kn)(s':Shared)(G':Kn):Prop where
 same:∃h' tk,s'={s with heap:=h',toks:=tk}
 size:s.heap.objs.size≤s'.heap.objs.size
 tk:s.toks≤s'.toks
 keep:∀b o,s.heap.get? b=some o→s'.heap.get? b=some o
 le:G.Le G'
 inn:G'.In s'.heap
 fresh:∀a o,G' a=some o→G a=some o∨s.heap.objs.size≤a
theorem ae.refl {s:Shared}{G:Kn}(h:G.In s.heap):ae s G s G:=⟨⟨s.heap,s.toks,rfl⟩,Nat.le_refl _,Nat.le_refl _,fun Z Z e=>e,.refl G,h,fun Z Z e=>.inl e⟩
theorem ae.toks {s:Shared}{G:Kn}(h:G.In s.heap) (t:Nat)(ht:s.toks≤t):ae s G {s with toks:=t} G:=⟨⟨s.heap,t,rfl⟩,Nat.le_refl _,ht,fun Z Z e=>e,.refl G,h,fun Z Z e=>.inl e⟩
theorem nK {n:Nat}:n≤n+1+1:=Nat.le_add_right n 2
theorem ae.trans {s s' s'':Shared}{G G' G'':Kn}(a:ae s G s' G')(b:ae s' G' s'' G''):ae s G s'' G'':=by
 refine aV a.same fun h' tk z1=>?_;subst z1
 refine aV b.same fun h'' tk' z2=>?_;subst z2
 refine⟨⟨h'',tk',rfl⟩,Nat.le_trans a.size b.size,Nat.le_trans a.tk b.tk,fun x o e=>b.keep x o (a.keep x o e),a.le.trans b.le,b.inn,fun x o e=>?_⟩
 rcases b.fresh x o e with q |q
 ·exact a.fresh x o q
 ·exact .inr (Nat.le_trans a.size q)
theorem ae.same_known {s:Shared}{G:Kn}{h':Heap}{t:Nat}(I:G.In s.heap)(hs:s.heap.objs.size≤h'.objs.size)(k:∀b o,s.heap.get? b=some o→h'.get? b=some o)(ht:s.toks≤t):
  ae s G {s with heap:=h',toks:=t} G:=⟨⟨_,t,rfl⟩,hs,ht,k,.refl G,fun a o e=>k a o (I a o e),fun Z Z e=>.inl e⟩
theorem ae.push {s:Shared}{G:Kn}(h:G.In s.heap)(o:Obj) (t:Nat)(ht:s.toks≤t):ae s G {s with heap:=s.heap.push o,toks:=t} G:=
 .same_known h (by rw [Heap.size_push];lia) (fun Z Z e=>Heap.get?_push_of_some _ e) ht
theorem fH (h:Heap):h.get? h.objs.size=none:=by
 cases e:h.get? h.objs.size with
 |none=>rfl
 |some o=>exact absurd (Heap.lt_size e) (Nat.lt_irrefl _)
theorem Kn.none_of {G:Kn}{h:Heap}(i:G.In h){a:Addr}(e:h.get? a=none):G a=none:=by
 cases q:G a with
 |none=>rfl
 |some o=>rw [i a o q]at e;exact(lW e).elim
theorem Kn.none_ge {G:Kn}{h:Heap}(i:G.In h){a:Addr}(e:h.objs.size≤a):G a=none:=by
 cases q:G a with
 |none=>rfl
 |some o=>exact absurd (Heap.lt_size (i a o q)) (Nat.not_lt.mpr e)
theorem Kn.le_add {G:Kn}{a:Addr}{o:Obj}(e:G a=none):G.Le (G.add a o):=fun b ob q=>by
 by_cases z:b=a
 ·rw [z,e]at q;exact(aa q).elim
 ·exact(if_neg z).trans q
theorem Kn.add_i {G:Kn}{a b:Addr}{o ob:Obj}(q:G.add a o b=some ob):(b=a∧o=ob)∨(b≠a∧G b=some ob):=by
 by_cases z:b=a
 ·exact .inl ⟨z,Option.some.inj ((if_pos z).symm.trans q)⟩
 ·exact .inr ⟨z,(if_neg z).symm.trans q⟩
theorem ae.learn {s s':Shared}{G G':Kn}(g:ae s G s' G'){a:Addr}{o:Obj}(e:s'.heap.get? a=some o)(hn:s.heap.objs.size≤a)(hk:G' a=none):ae s G s' (G'.add a o):=
 ⟨g.same,g.size,g.tk,g.keep,g.le.trans (Kn.le_add hk),fun b ob q=>(Kn.add_i q).elim (fun z=>by rw [z.1,←z.2];exact e) fun z=>g.inn b ob z.2,fun b ob q=>(Kn.add_i q).elim (fun z=>.inr (z.1▸hn)) fun z=>g.fresh b ob z.2⟩
theorem ae.own {s s':Shared}{G G':Kn}{C:Addr}{h':Heap}{t:Nat}(g:ae s G s' G')(hs:Heap.SameBut C s'.heap h')(hC:s.heap.objs.size≤C)(oC:G' C=none)(ht:s'.toks≤t):ae s G {s' with heap:=h',toks:=t} G':=by
 refine aV g.same fun h1 t1 e=>?_;refine⟨⟨h',t,by rw [e]⟩,Nat.le_trans g.size (Nat.le_of_eq hs.1.symm),Nat.le_trans g.tk ht,fun b o e=>(hs.2 b fun z=>?_).trans (g.keep b o e),g.le,fun a o e=>(hs.2 a fun z=>?_).trans (g.inn a o e),g.fresh⟩
 ·rw [z]at e;exact absurd (Heap.lt_size e) (Nat.not_lt.mpr hC)
 ·rw [z,oC]at e;exact aa e
theorem ae.alloc {s:Shared}{G:Kn}(h:G.In s.heap)(o:Obj) (t:Nat)(hf:o.isFreed=false)(ht:s.toks≤t):
  ae s G {s with heap:=s.heap.push o,toks:=t} (G.add s.heap.objs.size o):=
 (ae.push h o t ht).learn (Heap.get?_push_size _ hf) (Nat.le_refl _) (Kn.none_of h (fH _))
theorem Kn.add_self {G:Kn}{a:Addr}{o:Obj}:G.add a o a=some o:=if_pos rfl
noncomputable def aQ (P:Params)(s:Shared)(G:Kn)(d:D):Value→Shared→Prop:=fun v s'=> ∃G',ae s G s' G'∧Rd P G' v d
noncomputable def gN (s:Shared)(G:Kn)(b:Bool):Bool→Shared→Prop:=fun c s'=>c=b∧∃G',ae s G s' G'
section
variable {α:Type}{M:Model}{A:Around}{E:Value→Shared→Prop}{s:Shared}{G:Kn}{P:Params}
theorem vf {m:Sem Value}{d:D}{f:Value→Sem α}{Q:α→Shared→Prop}(h:wpAny M A m (aQ P s G d) E s)
  (k:∀v s' G',ae s G s' G'→Rd P G' v d→wpAny M A (f v) Q E s'):wpAny M A (m>>=f) Q E s:=
 wpAny_bind (wpAny_mono h (fun v s' h=>h.elim fun G' h=>k v s' G' h.1 h.2) fun Z Z x=>x)
theorem bI {m:Sem Value}{d:D}{Q:Value→Shared→Prop}(h:wpAny M A m (aQ P s G d) E s)
  (k:∀v s' G',ae s G s' G'→Rd P G' v d→Q v s'):wpAny M A m Q E s:=
 wpAny_mono h (fun v s' h=>h.elim fun G' h=>k v s' G' h.1 h.2) fun Z Z x=>x
theorem aQ.trans {s':Shared}{G':Kn}{d:D}{v:Value}{t:Shared}(g:ae s G s' G')(h:aQ P s' G' d v t):aQ P s G d v t:=
 h.elim fun G'' h=>⟨G'',g.trans h.1,h.2⟩
theorem dW {s':Shared}{G':Kn}{d:D}{m:Sem Value}(g:ae s G s' G')(h:wpAny M A m (aQ P s' G' d) E s'):wpAny M A m (aQ P s G d) E s':=
 wpAny_mono h (fun Z Z x=>x.trans g) fun Z Z x=>x
theorem gN.trans {s':Shared}{G':Kn}{b c:Bool}{t:Shared}(g:ae s G s' G')(h:gN s' G' b c t):gN s G b c t:=
 ⟨h.1,h.2.elim fun G'' h=>⟨G'',g.trans h⟩⟩
theorem uL {s':Shared}{G':Kn}{b:Bool}{m:Sem Bool}(g:ae s G s' G')(h:wpAny M A m (gN s' G' b) E s'):wpAny M A m (gN s G b) E s':=
 wpAny_mono h (fun Z Z x=>x.trans g) fun Z Z x=>x
theorem Am {m:Sem Bool}{b:Bool}{f:Bool→Sem α}{Q:α→Shared→Prop}(h:wpAny M A m (gN s G b) E s)
  (k:∀s' G',ae s G s' G'→wpAny M A (f b) Q E s'):wpAny M A (m>>=f) Q E s:=
 wpAny_bind (wpAny_mono h (fun c s' h=>by obtain⟨e,G',g⟩:=h;rw [e];exact k s' G' g) fun Z Z x=>x)
theorem jT {m:Sem Bool}{b:Bool}{Q:Bool→Shared→Prop}(h:wpAny M A m (gN s G b) E s)
  (k:∀s' G',ae s G s' G'→Q b s'):wpAny M A m Q E s:=
 wpAny_mono h (fun c s' h=>by obtain⟨e,G',g⟩:=h;rw [e];exact k s' G' g) fun Z Z x=>x
theorem a6 {d:D}{v:Value}(i:G.In s.heap)(r:Rd P G v d):aQ P s G d v s:=⟨G,.refl i,r⟩
theorem cg {d:D}{v:Value}{t:Nat}(i:G.In s.heap)(r:Rd P G v d)(ht:s.toks≤t):aQ P s G d v {s with toks:=t}:=⟨G,.toks i t ht,r⟩
end
inductive em (h:Heap)(env:Env)(x:Str)(v:Value):Prop
 |loc {m}:env.kindOf x=some .local→h.Ns env.locals m→m x=some v→em h env x v
 |cell {c}:env.kindOf x=some .cell→env.cells.lookup x=some c→h.IsCell c (some v)→em h env x v
 |free {c}:env.kindOf x=some .free→env.cells.lookup x=some c→h.IsCell c (some v)→(x==("__classdict__" :Str))=false→em h env x v
theorem em.keeps {h h':Heap}{env:Env}{x:Str}{v:Value}(r:em h env x v)(k:∀b o,h.get? b=some o→h'.get? b=some o):em h' env x v:=by
 cases r with
 |loc a b c=>exact .loc a (b.keeps k) c
 |cell a b c=>exact .cell a b (c.keeps k)
 |free a b c d=>exact .free a b (c.keeps k) d
theorem dR {M:Model}{A:Around}{E:Value→Shared→Prop}{s:Shared}{env:Env}{x:Str}{pos:Pos}{v:Value}{Q:Value→Shared→Prop}(hk:env.scope.kind=.function)
  (r:em s.heap env x v)(hd:(x==("__debug__" :Str))=false)(h:Q v s):wpAny M A (eval (.Name x pos) env) Q E s:=by
 refine wpAny_Name ?_ hd;cases r with
 |loc a b c=>exact wpAny_loadName_local hk a b c h
 |cell a b c=>exact wpAny_loadName_cell hk a b c h
 |free a b c d=>exact wpAny_loadName_free hk a b c h d
section
variable {P:Params}{G:Kn}{v:Value}{i:Int}{b:Bool}{x:List Nat}{n:String}{a:Nat}{ds:List D}{ks:List (List Nat×D)}{d:D}{vs:List Value}{es:List DictEntry}{k:List Nat}
theorem Rd.none_i (h:Rd P G v .none):v=.none:=h.inv
theorem Rd.bool_i (h:Rd P G v (.bool b)):v=.bool b:=h.inv
theorem Rd.int_i (h:Rd P G v (.int i)):∃t,v=.int i t:=h.inv
theorem Rd.str_i (h:Rd P G v (.str x)):∃t,v=.str (mk x) t:=h.inv
theorem Rd.typ_i (h:Rd P G v (.typ n)):v=.type n:=h.inv
theorem Rd.adr_i (h:Rd P G v (.adr a)):v=.ref a:=h.inv
theorem Rd.list_i (h:Rd P G v (.list ds)):∃a n vs,v=.ref a∧G a=some (aB vs n)∧ai P G vs ds:=h.inv
theorem Rd.tup_i (h:Rd P G v (.tup ds)):∃a n vs,v=.ref a∧G a=some (cB vs n)∧ai P G vs ds:=h.inv
theorem Rd.dict_i (h:Rd P G v (.dict ks)):∃a n es,v=.ref a∧G a=some (cR es n)∧((a==sysModules)=false∧(ks.map (·.1)).Nodup)∧dt P G es ks:=h.inv
theorem ai.nil_i (h:ai P G vs []):vs=[]:=h.inv
theorem ai.cons_i (h:ai P G vs (d::ds)):∃v vs',vs=v::vs'∧Rd P G v d∧ai P G vs' ds:=h.inv
end
theorem ez {α:Type}{M:Model}{A:Around}{m:Sem α}{Q:α→Shared→Prop}{E:Value→Shared→Prop}{s:Shared}(h:∀(Q1:α→Shared→Prop)(E1:Value→Shared→Prop),(∀f s',Q f s'→Q1 f s')→wpAny M A m Q1 E1 s):wpAny M A m Q E s:=h Q E fun Z Z z=>z
theorem dC {α:Type}{M:Model}{A:Around}{m:Sem α}{Q:α→Shared→Prop}{E:Value→Shared→Prop}{s:Shared}(h:∀Q1:α→Shared→Prop,(∀f s',Q f s'→Q1 f s')→wpAny M A m Q1 E s):wpAny M A m Q E s:=h Q fun Z Z z=>z
set_option genInjectivity false
noncomputable def aF:List Nat→List Nat→Bool
 | [],[]=>true
 | [],_::_=>false
 |_::_,[]=>false
 |a::r,b::t=>match Nat.beq a b with
  |true=>aF r t
  |false=>false
theorem bf (a:List Nat):∀b:List Nat,aF a b=true↔a=b:=by
 induction a with
 |nil=>
  intro b;cases b with
  |nil=>exact⟨fun Z=>rfl,fun Z=>rfl⟩
  |cons _ _=>exact⟨fun h=>(aj h).elim,fun h=>(List.cons_ne_nil _ _ h.symm).elim⟩
 |cons x r ih=>
  intro b;cases b with
  |nil=>exact⟨fun h=>(aj h).elim,fun h=>(List.cons_ne_nil _ _ h).elim⟩
  |cons y t=>
   show(match Nat.beq x y with |true=>aF r t |false=>false)=true↔_
   cases h:Nat.beq x y with
   |true=>exact(ih t).trans ⟨fun e=>by rw [Nat.eq_of_beq_eq_true h,e],fun e=>(List.cons.inj e).2⟩
   |false=>exact⟨fun q=>(aj q).elim,fun e=>absurd (List.cons.inj e).1 (Nat.ne_of_beq_eq_false h)⟩
theorem qw (a b:List Nat):aF a b=(mk a==mk b):=by
 rw [Bool.eq_iff_iff,bf,beq_iff_eq];constructor
 ·intro h;rw [h]
 ·intro h;have:=congrArg (fun s:Str=>s.cps.toList) h
  simpa using this
noncomputable def fg (f:D→D→Bool):List D→List D→Bool
 | [],[]=>true
 |a::r,b::t=>match f a b with
  |true=>fg f r t
  |false=>false
 |_,_=>false
noncomputable def cF:Nat→D→D→Bool
 |0,_,_=>false
 |n+1,a,b=>match a with
  | .none=>match b with | .none=>true |_=>false
  | .bool x=>match b with | .bool y=>x==y | .int j=>(if x then 1 else 0)==j |_=>false
  | .int i=>match b with | .bool y=>i==(if y then 1 else 0) | .int j=>i==j |_=>false
  | .str x=>match b with | .str y=>aF x y |_=>false
  | .list x=>match b with | .list y=>fg (cF n) x y |_=>false
  | .tup x=>match b with | .tup y=>fg (cF n) x y |_=>false
  |_=>false
noncomputable def bS (f:D→Bool):List D→Bool
 | []=>true
 |a::r=>match f a with
  |true=>bS f r
  |false=>false
noncomputable def cD:List Nat→Bool
 | []=>true
 |a::r=>match Nat.ble a 1114111 with
  |true=>cD r
  |false=>false
theorem yl (l:List Nat)(h:cD l=true):PyData.strOk (mk l)=true:=by
 suffices q:∀x∈l,x≤1114111 by
  unfold PyData.strOk;rw [Array.all_eq_true'];intro x hx;exact decide_eq_true (Nat.lt_succ_of_le (q x (List.mem_toArray.mp hx)))
 induction l with
 |nil=>exact fun x hx=>(List.not_mem_nil hx).elim
 |cons a r ih=>
  obtain⟨q,h⟩:Nat.ble a 1114111=true∧cD r=true:=by
   revert h
   show(match Nat.ble a 1114111 with |true=>cD r |false=>false)=true→_
   cases Nat.ble a 1114111 with
   |false=>exact fun h=>(aj h).elim
   |true=>exact fun h=>⟨rfl,h⟩
  exact fun x hx=>(List.mem_cons.mp hx).elim (fun e=>e▸Nat.le_of_ble_eq_true q) (ih h x)
noncomputable def ba:Nat→D→Bool
 |0,_=>false
 |n+1,a=>match a with
  | .none=>true
  | .bool _=>true
  | .int _=>true
  | .str x=>cD x
  | .list x=>bS (ba n) x
  | .tup x=>bS (ba n) x
  |_=>false
mutual
noncomputable def cO:D→PyData
 | .none=>.none
 | .bool b=>.bool b
 | .int i=>.int i
 | .str x=>.str (mk x)
 | .list l=>.list (cH l)
 | .tup l=>.tuple (cH l)
 | .dict _=>.dict []
 | .typ _=>.dict []
 | .adr _=>.dict []
noncomputable def cH:List D→List PyData
 | []=>[]
 |d::r=>cO d::cH r
end
theorem e7 {f:D→Bool}{a:D}{r:List D}(h:bS f (a::r)=true):f a=true∧bS f r=true:=by
 revert h
 show(match f a with |true=>bS f r |false=>false)=true→_
 cases f a with
 |false=>exact fun h=>(aj h).elim
 |true=>exact fun h=>⟨rfl,h⟩
theorem eR {f:D→Bool}{l:List D}(h:∀d∈l,f d=true):bS f l=true:=by
 induction l with
 |nil=>rfl
 |cons a r ih=>
  show(match f a with |true=>bS f r |false=>false)=true
  rw [h a (.head _)];exact ih fun d hd=>h d (.tail _ hd)
theorem dL {P:Params}{G:Kn}{h:Heap}(I:G.In h):∀(n:Nat),
  (∀(d:D)(v:Value),Rd P G v d→ba n d=true→∃as,Reads h v (cO d) as)∧
  (∀(ds:List D)(vs:List Value),ai P G vs ds→bS (ba n) ds=true→∃as,ReadsAll h vs (cH ds) as):=by
 have all:∀n,(∀(d:D) (v:Value),Rd P G v d→ba n d=true→∃as,Reads h v (cO d) as)→
   ∀(ds:List D) (vs:List Value),ai P G vs ds→bS (ba n) ds=true→∃as,ReadsAll h vs (cH ds) as:=
  fun n hn ds vs r=>r.ind (m:=fun vs ds=>bS (ba n) ds=true→∃as,ReadsAll h vs (cH ds) as) (fun Z=>⟨_,.nil⟩) fun Z Z d Z a Z ih ok=>
   have ok':=e7 ok
   (hn d _ a ok'.1).elim fun Z q=>(ih ok'.2).elim fun Z q'=>⟨_,.cons q q'⟩
 intro n
 induction n with
 |zero=>exact⟨fun d v Z ok=>(aj ok).elim,all 0 fun d v Z ok=>(aj ok).elim⟩
 |succ n ih=>
  have one:∀(d:D) (v:Value),Rd P G v d→ba (n+1) d=true→∃as,Reads h v (cO d) as:=by
   intro d v r ok;cases r with
   |none=>exact⟨_,.none⟩
   |bool b=>exact⟨_,.bool b⟩
   |int i t=>exact⟨_,.int i t⟩
   |str x t=>exact⟨_,.str _ t⟩
   |typ n=>exact(aj ok).elim
   |adr n=>exact(aj ok).elim
   |list e r=>
    obtain⟨as,q⟩:=ih.2 _ _ r ok;exact⟨_,.list (I _ _ e) rfl rfl q⟩
   |tup e r=>
    obtain⟨as,q⟩:=ih.2 _ _ r ok;exact⟨_,.tuple (I _ _ e) rfl rfl q⟩
   |dict e r=>exact(aj ok).elim
  exact⟨one,all (n+1) one⟩
theorem fW:∀(n:Nat),
  (∀(d:D),ba n d=true→(cO d).canLay0=true∧(cO d).depth≤n)∧
  (∀(ds:List D),bS (ba n) ds=true→PyData.canLayAll0 (cH ds)=true∧PyData.depthAll (cH ds)≤n):=by
 have all:∀n,(∀(d:D),ba n d=true→(cO d).canLay0=true∧(cO d).depth≤n)→
   ∀(ds:List D),bS (ba n) ds=true→PyData.canLayAll0 (cH ds)=true∧PyData.depthAll (cH ds)≤n:=by
  intro n hn ds
  induction ds with
  |nil=>intro _;exact⟨rfl,Nat.zero_le _⟩
  |cons d ds ih=>
   intro ok;have ok':=e7 ok;have a:=hn d ok'.1;have b:=ih ok'.2;exact⟨Bool.and_eq_true_iff.mpr ⟨a.1,b.1⟩,Nat.max_le.mpr ⟨a.2,b.2⟩⟩
 intro n
 induction n with
 |zero=>exact⟨fun d ok=>(aj ok).elim,all 0 fun d ok=>(aj ok).elim⟩
 |succ n ih=>
  have one:∀(d:D),ba (n+1) d=true→(cO d).canLay0=true∧(cO d).depth≤n+1:=by
   intro d ok;cases d with
   |none=>exact⟨rfl,Nat.zero_le _⟩
   |bool b=>exact⟨rfl,Nat.zero_le _⟩
   |int i=>exact⟨rfl,Nat.zero_le _⟩
   |str x=>exact⟨yl x ok,Nat.zero_le _⟩
   |typ n=>exact(aj ok).elim
   |adr n=>exact(aj ok).elim
   |dict l=>exact(aj ok).elim
   |list l=>
    have q:=ih.2 l ok;exact⟨q.1,Nat.succ_le_succ q.2⟩
   |tup l=>
    have q:=ih.2 l ok;exact⟨q.1,Nat.succ_le_succ q.2⟩
  exact⟨one,all (n+1) one⟩
theorem oJ:∀(n:Nat),
  (∀(d e:D),ba n d=true→ba n e=true→PyData.eqv (cO d) (cO e)=cF n d e)∧
  (∀(ds es:List D),bS (ba n) ds=true→bS (ba n) es=true→PyData.eqvAll (cH ds) (cH es)=fg (cF n) ds es):=by
 have all:∀n,(∀(d e:D),ba n d=true→ba n e=true→PyData.eqv (cO d) (cO e)=cF n d e)→
   ∀(ds es:List D),bS (ba n) ds=true→bS (ba n) es=true→PyData.eqvAll (cH ds) (cH es)=fg (cF n) ds es:=by
  intro n hn ds
  induction ds with
  |nil=>intro es _ _;cases es<;>rfl
  |cons d ds ih=>
   intro es ok ok2;cases es with
   |nil=>rfl
   |cons e es=>
    have ok':=e7 ok;have ok2':=e7 ok2;have a:=hn d e ok'.1 ok2'.1;have b:=ih es ok'.2 ok2'.2;show(PyData.eqv (cO d) (cO e)&&PyData.eqvAll (cH ds) (cH es))=_
    rw [a,b];show(cF n d e&&fg (cF n) ds es)=(match cF n d e with |true=>fg (cF n) ds es |false=>false)
    cases cF n d e<;>rfl
 intro n
 induction n with
 |zero=>exact⟨fun d e ok=>(aj ok).elim,all 0 fun d e ok=>(aj ok).elim⟩
 |succ n ih=>
  have one:∀(d e:D),ba (n+1) d=true→ba (n+1) e=true→PyData.eqv (cO d) (cO e)=cF (n+1) d e:=by
   intro d e ok ok2;cases d<;>first |exact(aj ok).elim |skip
   all_goals cases e<;>first |exact(aj ok2).elim |rfl |exact ih.2 _ _ ok ok2 |exact(qw _ _).symm |exact qw _ _
  exact⟨one,all (n+1) one⟩
theorem uJ {n:Nat}{x:D}(hx:ba n x=true)(ds:List D)(ok:bS (ba n) ds=true):(cH ds).any (fun y=>PyData.eqv y (cO x))=ds.any fun y=>cF n y x:=by
 induction ds with
 |nil=>rfl
 |cons d ds ih=>
  have ok':=e7 ok;show(PyData.eqv (cO d) (cO x)||_)=(cF n d x||_)
  rw [(oJ n).1 d x ok'.1 hx];exact congrArg _ (ih ok'.2)
noncomputable def small (i:Int):Bool:=decide (-1000000000000000000<i)&&decide (i<1000000000000000000)
noncomputable def eC:D→Option Bool
 | .none=>some false
 | .bool b=>some b
 | .int i=>some (i !=0)
 | .str x=>if x.length≤1000000 then some (match x with | []=>false |_::_=>true)else none
 | .list x=>if x.length≤1000000 then some (match x with | []=>false |_::_=>true)else none
 |_=>none
noncomputable def ig:D→Option D
 | .str x=>if x.length≤1000000 then some (.int x.length)else none
 | .list x=>if x.length≤1000000 then some (.int x.length)else none
 |_=>none
theorem b8 {α:Type}{X:Int→Option α}{a:D}{d:α}(e:(match a with | .int i=>X i |_=>none)=some d):∃i,a=.int i∧X i=some d:=by
 cases a<;>first |exact⟨_,rfl,e⟩ |exact(aa e).elim
theorem kN {α:Type}{X:List Nat→Option α}{a:D}{d:α}(e:(match a with | .str i=>X i |_=>none)=some d):∃i,a=.str i∧X i=some d:=by
 cases a<;>first |exact⟨_,rfl,e⟩ |exact(aa e).elim
theorem yv {α:Type}{X:List D→Option α}{a:D}{d:α}(e:(match a with | .list i=>X i |_=>none)=some d):∃i,a=.list i∧X i=some d:=by
 cases a<;>first |exact⟨_,rfl,e⟩ |exact(aa e).elim
theorem cP {β:Type}{o:Option D}{X:D→Option β}{d:β}(e:(match o with |none=>none |some x=>X x)=some d):∃x,o=some x∧X x=some d:=by
 cases o with
 |none=>exact(aa e).elim
 |some x=>exact⟨x,rfl,e⟩
theorem iu {β:Type}{o:Option D}{X:D→Option β}{d:β}(e:(match o with |some x=>X x |none=>none)=some d):∃x,o=some x∧X x=some d:=by
 cases o with
 |none=>exact(aa e).elim
 |some x=>exact⟨x,rfl,e⟩
theorem Ag {β:Type}{o:Option D}{X:Int→Option β}{d:β}(e:(match o with |some (.int i)=>X i |_=>none)=some d):∃i,o=some (.int i)∧X i=some d:=by
 cases o with
 |none=>exact(aa e).elim
 |some x=>cases x<;>first |exact⟨_,rfl,e⟩ |exact(aa e).elim
theorem kP {β:Type}{o:Option (List D)}{X:List D→Option β}{d:β}(e:(match o with |none=>none |some x=>X x)=some d):∃x,o=some x∧X x=some d:=by
 cases o with
 |none=>exact(aa e).elim
 |some x=>exact⟨x,rfl,e⟩
theorem eg {β:Type}{o:Option (List D)}{X:List D→Option β}{d:β}(e:(match o with |some x=>X x |none=>none)=some d):∃x,o=some x∧X x=some d:=by
 cases o with
 |none=>exact(aa e).elim
 |some x=>exact⟨x,rfl,e⟩
theorem ec {β:Type}{c:Bool}{X:Option β}{d:β}(e:(match c with |true=>X |false=>none)=some d):c=true∧X=some d:=by
 cases c with
 |true=>exact⟨rfl,e⟩
 |false=>exact(aa e).elim
theorem zG {β:Type}{c:Bool}{X:Option β}{d:β}(e:(match c with |false=>none |true=>X)=some d):c=true∧X=some d:=by
 cases c with
 |true=>exact⟨rfl,e⟩
 |false=>exact(aa e).elim
theorem jY {β:Type}{c:Bool}{X:Option β}{d:β}(e:(match c with |true=>none |false=>X)=some d):c=false∧X=some d:=by
 cases c with
 |true=>exact(aa e).elim
 |false=>exact⟨rfl,e⟩
theorem qS {β:Type}{c:Bool}{X Y:Option β}{d:Option β}(e:(match c with |true=>X |false=>Y)=d):(c=true∧X=d)∨(c=false∧Y=d):=by
 cases c with
 |true=>exact .inl ⟨rfl,e⟩
 |false=>exact .inr ⟨rfl,e⟩
theorem nu {α:Type}{c:Prop} [Decidable c] {X:Option α}{d:α}(e:(if c then X else none)=some d):c∧X=some d:=by
 by_cases h:c
 ·rw [if_pos h]at e;exact⟨h,e⟩
 ·rw [if_neg h]at e;exact(aa e).elim
theorem iD {α:Type}{c:Prop} [Decidable c] {X Y:Option α}{d:α}(e:(if c then X else Y)=some d):(c∧X=some d)∨(¬c∧Y=some d):=by
 by_cases h:c
 ·rw [if_pos h]at e;exact .inl ⟨h,e⟩
 ·rw [if_neg h]at e;exact .inr ⟨h,e⟩
theorem Cu {β:Type}{c:Bool}{o:Option (List D)}{X:Option β}{d:β}(e:(match c,o with |true,none=>X |_,_=>none)=some d):c=true∧o=none∧X=some d:=by
 cases c
 ·exact(aa e).elim
 ·cases o with
  |none=>exact⟨rfl,rfl,e⟩
  |some=>exact(aa e).elim
theorem w6 {β:Type}{c:Bool}{o:Option (List D)}{X:List D→Option β}{d:β}(e:(match c,o with |true,some l=>X l |_,_=>none)=some d):∃l,c=true∧o=some l∧X l=some d:=by
 cases c
 ·exact(aa e).elim
 ·cases o with
  |none=>exact(aa e).elim
  |some l=>exact⟨l,rfl,rfl,e⟩
theorem Eu {α:Type}{l:List α}{m:Nat}(h:l.length=m)(e:m=0):l=[]:=List.length_eq_zero_iff.mp (h.trans e)
theorem vU {α:Type}{l:List α}{m n:Nat}(h:l.length=m)(e:m=n+1):∃a r,l=a::r∧r.length=n:=by
 cases l with
 |nil=>exact nomatch h.trans e
 |cons a r=>exact⟨a,r,rfl,Nat.succ.inj (h.trans e)⟩
theorem l4 {α:Type}{l:List α}{m:Nat}(h:l.length=m)(e:m=1):∃a,l=[a]:=by
 refine aA (vU h e) fun a r z1 h2=>?_;subst z1
 obtain rfl:=Eu h2 rfl;exact⟨_,rfl⟩
theorem iY {α:Type}{l:List α}{m:Nat}(h:l.length=m)(e:m=2):∃a b,l=[a,b]:=by
 refine aA (vU h e) fun a r z2 h2=>?_;subst z2
 refine xe (l4 h2 rfl) fun b z3=>?_;subst z3
 exact⟨_,_,rfl⟩
theorem A5 {α:Type}{l:List α}{m:Nat}(h:l.length=m)(e:m=3):∃a b c,l=[a,b,c]:=by
 refine aA (vU h e) fun a r z4 h2=>?_;subst z4
 refine aV (iY h2 rfl) fun b c z5=>?_;subst z5
 exact⟨_,_,_,rfl⟩
theorem aL {α:Type}{c:Prop} [Decidable c] {a d:α}(e:(if c then some a else none)=some d):c∧a=d:=by
 by_cases h:c
 ·rw [if_pos h]at e;exact⟨h,Option.some.inj e⟩
 ·rw [if_neg h]at e;exact(aa e).elim
noncomputable def dq (op:Operator)(a b:D):Option D:=
 match op with
 | .Add=>match a with
  | .int i=>match b with | .int j=>some (.int (i+j)) |_=>none
  | .str x=>match b with | .str y=>if x.length+y.length≤1000000 then some (.str (x++y))else none |_=>none
  | .list x=>match b with | .list y=>if x.length+y.length≤1000000 then some (.list (x++y))else none |_=>none
  |_=>none
 | .Sub=>match a with
  | .int i=>match b with | .int j=>some (.int (i - j)) |_=>none
  |_=>none
 | .Mult=>match a with
  | .int i=>match b with | .int j=>if small i&&small j then some (.int (i*j))else none |_=>none
  | .list x=>match b with
   | .int j=>if j==3&&decide (x.length≤1000)then some (.list (x++(x++x)))else none
   |_=>none
  |_=>none
 | .FloorDiv=>match a with
  | .int i=>match b with | .int j=>if decide (0<j)&&decide (j<1000)then some (.int (i.fdiv j))else none |_=>none
  |_=>none
 | .Mod=>match a with
  | .int i=>match b with | .int j=>if j !=0 then some (.int (i.fmod j))else none |_=>none
  |_=>none
 |_=>none
noncomputable def bg (op:CmpOp)(a b:D):Option Bool:=
 match op with
 | .Eq=>if ba 9 a&&ba 9 b then some (cF 9 a b)else none
 | .NotEq=>if ba 9 a&&ba 9 b then some (!cF 9 a b)else none
 | .Lt=>match a with | .int i=>(match b with | .int j=>some (decide (i<j)) |_=>none) |_=>none
 | .LtE=>match a with | .int i=>(match b with | .int j=>some (decide (i≤j)) |_=>none) |_=>none
 | .Gt=>match a with | .int i=>(match b with | .int j=>some (decide (i >j)) |_=>none) |_=>none
 | .GtE=>match a with | .int i=>(match b with | .int j=>some (decide (i≥j)) |_=>none) |_=>none
 | .In=>match b with
  | .list y=>if ba 9 a&&bS (ba 9) y then some (y.any fun z=>cF 9 z a)else none
  | .str y=>match a with | .str x=>some (Txt.contains (mk y) (mk x)) |_=>none
  |_=>none
 | .NotIn=>match b with
  | .list y=>if ba 9 a&&bS (ba 9) y then some (!y.any fun z=>cF 9 z a)else none
  | .str y=>match a with | .str x=>some (!Txt.contains (mk y) (mk x)) |_=>none
  |_=>none
 | .Is=>match b with
  | .none=>(match a with | .none=>some true |_=>some false)
  |_=>none
 | .IsNot=>match b with
  | .none=>(match a with | .none=>some false |_=>some true)
  | .typ y=>(match a with | .typ x=>some (!(x==y)) |_=>none)
  |_=>none
noncomputable def gk (o i:D):Option D:=match i with
 | .int k=>match o with
  | .str x=>if small k then(match seqIndex? k x.length with |some j=>(x[j]?).map fun c=>.str [c] |none=>none)else none
  | .list x=>if small k&&decide (x.length≤1000000)then(match seqIndex? k x.length with |some j=>x[j]? |none=>none)else none
  |_=>none
 |_=>none
section
variable {prog:Program}{w:World}{A:Around}{E:Value→Shared→Prop}{s:Shared}{G:Kn}
theorem cY {h:Heap}{l:Addr}{vs:List Value}{n:Nat}(I:G.In h)(e:G l=some (aB vs n)):h.IsList l vs.toArray:=⟨_,I _ _ e,rfl,n,rfl⟩
set_option tactic.hygienic true in
theorem nY {v:Value}{d:D}{b:Bool}(I:G.In s.heap)(r:Rd w.params G v d)(e:eC d=some b):wpAny (model prog w) A (truthy v) (gN s G b) E s:=by
 cases r with
 |none=>obtain rfl:=Option.some.inj e;exact truthy_none ⟨rfl,G,.refl I⟩
 |bool b=>obtain rfl:=Option.some.inj e;exact wpAny_truthy_bool ⟨rfl,G,.refl I⟩
 |int i t=>obtain rfl:=Option.some.inj e;exact P.truthy_int ⟨rfl,G,.refl I⟩
 |str x t=>
  unfold eC at e;dsimp only at e
  split at e
  ·obtain rfl:=Option.some.inj e;refine P.truthy_str (by simp [Str.length];lia) ⟨?_,G,.toks I _ nK⟩
   cases x with
   |nil=>rfl
   |cons a r=>simp [Str.length];lia
  ·exact(aa e).elim
 |typ n=>exact(aa e).elim
 |adr n=>exact(aa e).elim
 |list q r=>
  unfold eC at e;dsimp only at e;have hl:=r.length
  split at e
  ·obtain rfl:=Option.some.inj e;refine wpAny_truthy_list (cY I q) (by simp;lia) ⟨?_,G,.toks I _ nK⟩
   rename_i vs ds _ _;cases r with
   |nil=>rfl
   |cons _ _=>rfl
  ·exact(aa e).elim
 |tup=>exact(aa e).elim
 |dict=>exact(aa e).elim
theorem AK {v:Value}{d r:D}(I:G.In s.heap)(h:Rd w.params G v d)(e:ig d=some r):wpAny (model prog w) A (call (.builtin "len") [v]) (aQ w.params s G r) E s:=by
 cases h with
 |str x t=>
  unfold ig at e;dsimp only at e
  split at e
  ·obtain rfl:=Option.some.inj e;refine P.len_str (by simp [Str.length];lia) ⟨G,.toks I _ nK,?_⟩
   have:((mk x).length:Int)=(x.length:Int):=by simp [Str.length]
   rw [this];exact .int _ _
  ·exact(aa e).elim
 |list q r=>
  unfold ig at e;dsimp only at e;have hl:=r.length
  split at e
  ·obtain rfl:=Option.some.inj e;refine Calls.call_len_list (cY I q) (by simp;lia) ⟨G,.toks I _ nK,?_⟩
   rw [List.size_toArray,hl];exact .int _ _
  ·exact(aa e).elim
 |_=>exact(aa e).elim
theorem tN (x y:List Nat):mk x++mk y=mk (x++y):=by
 show(⟨_⟩:Str)=⟨_⟩
 rw [Str.mk.injEq];show(mk x++mk y).cps=_
 rw [Str.cps_append];simp
theorem tA (i j:Int)(h0:0<j)(h1:j<1000):¬(Builtin.divisionGoesByPylong i j)=true:=by
 have:(if j==0 then 0 else j.natAbs.log2 / 30+1)≤300:=by
  have hj:j.natAbs<2 ^ 10:=by omega
  have hz:(j==0)=false:=by simp;omega
  rw [hz];have:j.natAbs.log2<10:=(Nat.log2_lt (by omega)).mpr hj
  simp only [Bool.false_eq_true,if_false];omega
 unfold Builtin.divisionGoesByPylong;dsimp only;rw [Bool.and_eq_true,decide_eq_true_eq];omega
theorem Et {l:Addr}{items:List Value}{k:Nat}{u:Tok}{Q:Value→Shared→Prop}(hl:s.heap.get? l=some (aB items k))(hsz:items.length≤1000)
  (h:Q (.ref s.heap.objs.size) {s with heap:=s.heap.push (aB (items++(items++items)) 0)}):wpAny (model prog w) A (binaryOp .Mult (.ref l) (.int 3 u)) Q E s:=by
 have e:List.foldl (fun x1 x2=>x1++x2) #[] (List.replicate (if items.toArray.isEmpty=true then 0 else(3:Int).toNat) items.toArray)=(items++(items++items)).toArray:=by
  cases items with
  |nil=>rfl
  |cons a r=>
   show List.foldl (fun x1 x2=>x1++x2) #[] (List.replicate 3 (a::r).toArray)=_
   simp [List.replicate]
 exact wpAny_binaryOp_repeat_ref (T:= "list") (U:= "int") (by decide) ⟨_,hl,rfl⟩ (fun s'=>typeIs_int s' 3 u) noFill_list_mul F.fills_int_mul F.slot_int_rmul repeat_list F.slot_int_index.lookup
  (call_meets F.slot_int_rmul (typeIs_int s 3 u) F.entry_int_rmul (F.args_int_rmul_2 _ _) (int___rmul___int_list 3 u l items.toArray k)
   ⟨hl,rfl,⟨_,hl,rfl⟩,call_meets F.slot_list_mul ⟨_,hl,rfl⟩ F.entry_list_mul (F.args_list_mul_2 _ _)
    (AutoListH.list___mul___list_int_3 l items.toArray k 3 u (by simp [Builtin.List.listFitsIndex]) (by simp;lia) (by simp [Builtin.List.listTooLong,sizeLine];lia))
    ⟨hl,by rw [e];exact h⟩⟩)
theorem tD {op:Operator}{u v:Value}{a b d:D}(I:G.In s.heap)(ra:Rd w.params G u a)(rb:Rd w.params G v b)(e:dq op a b=some d):
  wpAny (model prog w) A (binaryOp op u v) (aQ w.params s G d) E s:=by
 cases op with
 |Add=>
  cases a<;>first |exact(aa e).elim |skip
  ·refine ah (b8 e) fun j z6 e=>?_;subst z6
   refine xe ra.int_i fun Z z7=>?_;subst z7
   refine xe rb.int_i fun Z z8=>?_;subst z8
   obtain rfl:=Option.some.inj e;exact P.add_int (cg I (.int _ _) (Nat.le_add_right _ _))
  ·refine ah (kN e) fun y z9 e=>?_;subst z9
   refine xa (aL e) fun h z10=>?_;subst z10
   refine xe ra.str_i fun Z z11=>?_;subst z11
   refine xe rb.str_i fun Z z12=>?_;subst z12
   refine aK (SB.add (fun t' k hz=>?_) (by rw [sizeLine_eq];simp [Str.length];lia))
   rw [tN];exact cg I (.str _ _) hz.2
  ·refine ah (yv e) fun y z13 e=>?_;subst z13
   refine xa (aL e) fun h z14=>?_;subst z14
   refine ck ra.list_i fun Z Z Z z15 qa r1=>?_;subst z15
   refine ck rb.list_i fun Z Z Z z16 qb r2=>?_;subst z16
   have h1:=r1.length;have h2:=r2.length;refine P.add_list (I _ _ qa) (I _ _ qb) ?_ (by rw [sizeLine_eq];simp;lia)
   refine⟨_,ae.alloc I _ s.toks rfl (Nat.le_refl _),.list (n:=0) ?_ ((r1.append r2).mono (Kn.le_add (Kn.none_of I (fH _))))⟩;rw [Kn.add_self];simp
 |Sub=>
  refine ah (b8 e) fun i z17 e=>?_;subst z17
  refine ah (b8 e) fun j z18 e=>?_;subst z18
  refine xe ra.int_i fun Z z19=>?_;subst z19
  refine xe rb.int_i fun Z z20=>?_;subst z20
  obtain rfl:=Option.some.inj e;exact P.sub_int (cg I (.int _ _) (Nat.le_add_right _ _))
 |Mult=>
  cases a<;>first |exact(aa e).elim |skip
  ·refine ah (b8 e) fun j z21 e=>?_;subst z21
   refine xa (aL e) fun h z22=>?_;subst z22
   refine xe ra.int_i fun Z z23=>?_;subst z23
   refine xe rb.int_i fun Z z24=>?_;subst z24
   simp only [small,Bool.and_eq_true,decide_eq_true_eq]at h;exact P.mul_int (cg I (.int _ _) (Nat.le_add_right _ _)) (IntMulOk.of_left (intBits_le_64 (by lia) (by lia)))
  ·refine ah (b8 e) fun j z25 e=>?_;subst z25
   refine xa (aL e) fun h z26=>?_;subst z26
   refine ck ra.list_i fun Z Z Z z27 qa r1=>?_;subst z27
   refine xe rb.int_i fun Z z28=>?_;subst z28
   simp only [Bool.and_eq_true,beq_iff_eq,decide_eq_true_eq]at h;refine xa h fun h0 h1=>?_;subst h0;have hl:=r1.length;refine Et (I _ _ qa) (by lia) ?_
   refine⟨_,ae.alloc I _ s.toks rfl (Nat.le_refl _),.list (n:=0) Kn.add_self ((r1.append (r1.append r1)).mono (Kn.le_add (Kn.none_of I (fH _))))⟩
 |FloorDiv=>
  refine ah (b8 e) fun i z29 e=>?_;subst z29
  refine ah (b8 e) fun j z30 e=>?_;subst z30
  refine xa (aL e) fun h z31=>?_;subst z31
  refine xe ra.int_i fun Z z32=>?_;subst z32
  refine xe rb.int_i fun Z z33=>?_;subst z33
  simp only [Bool.and_eq_true,decide_eq_true_eq]at h;exact AutoIntOps.floordiv_1 (by simp;lia) (tA _ _ h.1 h.2) (cg I (.int _ _) (Nat.le_add_right _ _))
 |Mod=>
  refine ah (b8 e) fun i z34 e=>?_;subst z34
  refine ah (b8 e) fun j z35 e=>?_;subst z35
  refine xa (aL e) fun h z36=>?_;subst z36
  refine xe ra.int_i fun Z z37=>?_;subst z37
  refine xe rb.int_i fun Z z38=>?_;subst z38
  exact AutoIntOps.mod_1 (by simpa using h) (cg I (.int _ _) (Nat.le_add_right _ _))
 |_=>exact(aa e).elim
end
section
variable {prog:Program}{w:World}{A:Around}{E:Value→Shared→Prop}{s:Shared}{G:Kn}
theorem CV {u v:Value}{a b:D}(I:G.In s.heap)(ra:Rd w.params G u a)(rb:Rd w.params G v b)(hu:A.units+100<cLine)(oa:ba 9 a=true)(ob:ba 9 b=true):
  wpAny (model prog w) A (compareOp .Eq u v) (aQ w.params s G (.bool (cF 9 a b))) E s:=by
 refine xe ((dL I 9).1 a u ra oa) fun as qa=>?_;refine xe ((dL I 9).1 b v rb ob) fun bs qb=>?_;have la:=(fW 9).1 a oa;have lb:=(fW 9).1 b ob;refine eq_dataH qa qb ?_ ?_ (by omega) ?_
 ·unfold SeqAt.shaped;rw [la.1,Bool.true_and];exact decide_eq_true (Nat.le_trans la.2 (by decide))
 ·unfold SeqAt.shaped;rw [lb.1,Bool.true_and];exact decide_eq_true (Nat.le_trans lb.2 (by decide))
 ·rw [(oJ 9).1 a b oa ob];exact a6 I (.bool _)
theorem CT {u v:Value}{a b:D}(I:G.In s.heap)(ra:Rd w.params G u a)(rb:Rd w.params G v b)(hu:A.units+100<cLine)(oa:ba 9 a=true)(ob:ba 9 b=true):
  wpAny (model prog w) A (compareOp .NotEq u v) (aQ w.params s G (.bool (!cF 9 a b))) E s:=by
 refine xe ((dL I 9).1 a u ra oa) fun as qa=>?_;refine xe ((dL I 9).1 b v rb ob) fun bs qb=>?_;have la:=(fW 9).1 a oa;have lb:=(fW 9).1 b ob;refine ne_dataH qa qb ?_ ?_ (by omega) ?_
 ·unfold SeqAt.shaped;rw [la.1,Bool.true_and];exact decide_eq_true (Nat.le_trans la.2 (by decide))
 ·unfold SeqAt.shaped;rw [lb.1,Bool.true_and];exact decide_eq_true (Nat.le_trans lb.2 (by decide))
 ·rw [(oJ 9).1 a b oa ob];exact a6 I (.bool _)
theorem CU {u v:Value}{a:D}{ds:List D}(I:G.In s.heap)(ra:Rd w.params G u a)(rb:Rd w.params G v (.list ds))(hu:A.units+100<cLine)(oa:ba 9 a=true)(ob:bS (ba 9) ds=true):
  wpAny (model prog w) A (compareOp .In u v) (aQ w.params s G (.bool (ds.any fun z=>cF 9 z a))) E s:=by
 refine xe ((dL I 9).1 a u ra oa) fun as qa=>?_;refine ck rb.list_i fun Z Z Z z q r=>?_;subst z
 refine xe ((dL I 9).2 _ _ r ob) fun bs qb=>?_;have lb:=(fW 9).2 _ ob;refine SeqAt.in_list_reads (.list (I _ _ q) rfl rfl (by simpa using qb)) qa lb.1 ((fW 9).1 a oa).1 (by have:=Nat.min_le_left (PyData.depthAll (cH ds)) (cO a).depth;have:=lb.2;omega) ?_
 rw [uJ oa _ ob];exact a6 I (.bool _)
theorem vz {u v:Value}{a:D}{ds:List D}(I:G.In s.heap)(ra:Rd w.params G u a)(rb:Rd w.params G v (.list ds))(hu:A.units+100<cLine)(oa:ba 9 a=true)(ob:bS (ba 9) ds=true):
  wpAny (model prog w) A (compareOp .NotIn u v) (aQ w.params s G (.bool (!ds.any fun z=>cF 9 z a))) E s:=by
 refine xe ((dL I 9).1 a u ra oa) fun as qa=>?_;refine ck rb.list_i fun Z Z Z z q r=>?_;subst z
 refine xe ((dL I 9).2 _ _ r ob) fun bs qb=>?_;have lb:=(fW 9).2 _ ob;refine SeqAt.notIn_list_reads (.list (I _ _ q) rfl rfl (by simpa using qb)) qa lb.1 ((fW 9).1 a oa).1 (by have:=Nat.min_le_left (PyData.depthAll (cH ds)) (cO a).depth;have:=lb.2;omega) ?_
 rw [uJ oa _ ob];exact a6 I (.bool _)
set_option tactic.hygienic true in
theorem kY {op:CmpOp}{u v:Value}{a b:D}{c:Bool}(I:G.In s.heap)(ra:Rd w.params G u a)(rb:Rd w.params G v b)(hu:A.units+100<cLine)(e:bg op a b=some c):
  wpAny (model prog w) A (compareOp op u v) (aQ w.params s G (.bool c)) E s:=by
 have two:∀{x y:Bool},(x&&y)=true→x=true∧y=true:=fun h=>Bool.and_eq_true_iff.mp h
 cases op with
 |Eq=>
  refine xa (aL e) fun h z1=>?_;subst z1
  exact CV I ra rb hu (two h).1 (two h).2
 |NotEq=>
  refine xa (aL e) fun h z2=>?_;subst z2
  exact CT I ra rb hu (two h).1 (two h).2
 |In=>
  cases b<;>first |exact(aa e).elim |skip
  ·refine ah (kN e) fun x z3 e=>?_;subst z3
   refine xe ra.str_i fun Z z4=>?_;subst z4
   refine xe rb.str_i fun Z z5=>?_;subst z5
   obtain rfl:=Option.some.inj e;exact SB.contains (a6 I (.bool _))
  ·refine xa (aL e) fun h z6=>?_;subst z6
   exact CU I ra rb hu (two h).1 (two h).2
 |NotIn=>
  cases b<;>first |exact(aa e).elim |skip
  ·refine ah (kN e) fun x z7 e=>?_;subst z7
   refine xe ra.str_i fun Z z8=>?_;subst z8
   refine xe rb.str_i fun Z z9=>?_;subst z9
   obtain rfl:=Option.some.inj e;exact SB.notContains (a6 I (.bool _))
  ·refine xa (aL e) fun h z10=>?_;subst z10
   exact vz I ra rb hu (two h).1 (two h).2
 |Lt=>
  refine ah (b8 e) fun i z11 e=>?_;subst z11
  refine ah (b8 e) fun j z12 e=>?_;subst z12
  refine xe ra.int_i fun Z z13=>?_;subst z13
  refine xe rb.int_i fun Z z14=>?_;subst z14
  obtain rfl:=Option.some.inj e;exact P.lt_int (a6 I (.bool _))
 |LtE=>
  refine ah (b8 e) fun i z15 e=>?_;subst z15
  refine ah (b8 e) fun j z16 e=>?_;subst z16
  refine xe ra.int_i fun Z z17=>?_;subst z17
  refine xe rb.int_i fun Z z18=>?_;subst z18
  obtain rfl:=Option.some.inj e;exact P.le_int (a6 I (.bool _))
 |Gt=>
  refine ah (b8 e) fun i z19 e=>?_;subst z19
  refine ah (b8 e) fun j z20 e=>?_;subst z20
  refine xe ra.int_i fun Z z21=>?_;subst z21
  refine xe rb.int_i fun Z z22=>?_;subst z22
  obtain rfl:=Option.some.inj e;exact P.gt_int (a6 I (.bool _))
 |GtE=>
  refine ah (b8 e) fun i z23 e=>?_;subst z23
  refine ah (b8 e) fun j z24 e=>?_;subst z24
  refine xe ra.int_i fun Z z25=>?_;subst z25
  refine xe rb.int_i fun Z z26=>?_;subst z26
  obtain rfl:=Option.some.inj e;exact P.ge_int (a6 I (.bool _))
 |Is=>
  cases b<;>first |exact(aa e).elim |skip
  obtain rfl:=rb.none_i;cases ra<;>(obtain rfl:=Option.some.inj e)<;>exact is_none (a6 I (.bool _))
 |IsNot=>
  cases b<;>first |exact(aa e).elim |skip
  ·obtain rfl:=rb.none_i;cases ra<;>(obtain rfl:=Option.some.inj e)<;>exact isNot_none (a6 I (.bool _))
  ·cases a<;>first |exact(aa e).elim |skip
   obtain rfl:=rb.typ_i;obtain rfl:=ra.typ_i;obtain rfl:=Option.some.inj e;refine isnot_type ?_;rename_i y x;have:(Value.type x==Value.type y)=(x==y):=by
    rw [Bool.eq_iff_iff,beq_iff_eq,beq_iff_eq];simp
   rw [this];exact a6 I (.bool _)
theorem pp {k:Int}{n j:Nat}(h:seqIndex? k n=some j):j<n∧(j:Int)=(if k<0 then k+n else k):=by
 unfold seqIndex? at h;dsimp only at h;by_cases q:(decide (0≤(if k<0 then k+(n:Int)else k))&&decide ((if k<0 then k+(n:Int)else k)<(n:Int)))=true
 ·rw [if_pos q]at h;simp only [Bool.and_eq_true,decide_eq_true_eq]at q;have:=Option.some.inj h;omega
 ·rw [if_neg q]at h;exact(aa h).elim
theorem pX {u v:Value}{a i d:D}(I:G.In s.heap)(ra:Rd w.params G u a)(ri:Rd w.params G v i)(e:gk a i=some d):
  wpAny (model prog w) A (getItem u v) (aQ w.params s G d) E s:=by
 cases i with
 |int k=>
  refine xe ri.int_i fun t z=>?_;subst z
  cases a with
  |str x=>
   refine xe ra.str_i fun t z=>?_;subst z
   refine xa (xn e) fun hs e=>?_;cases hj:seqIndex? k x.length with
   |none=>rw [hj]at e;exact(aa e).elim
   |some j=>
    rw [hj]at e;refine ah (Option.map_eq_some_iff.mp e) fun c q z=>?_;subst z
    have hs:=Bool.and_eq_true_iff.mp hs;have h1:=of_decide_eq_true hs.1;have h2:=of_decide_eq_true hs.2;refine P.getItem_str (c:=c) (by clear I ra ri e hj q;simp;omega) ?_ (cg I (.str [c] _) (Nat.le_add_right _ _))
    have:(mk x).length=x.length:=by simp [Str.length]
    rw [this,hj]
    simpa using q
  |list ds=>
   refine ck ra.list_i fun a n vs z q r=>?_;subst z
   refine xa (xn e) fun hs e=>?_;cases hj:seqIndex? k ds.length with
   |none=>rw [hj]at e;exact(aa e).elim
   |some j=>
    rw [hj]at e;refine ah (r.get e) fun v hv rv=>?_;have hl:=r.length;have z:=pp hj;have hs:=Bool.and_eq_true_iff.mp hs;have hd:=of_decide_eq_true hs.2;have hs:=Bool.and_eq_true_iff.mp hs.1;have h1:=of_decide_eq_true hs.1;have h2:=of_decide_eq_true hs.2;have hv':vs.toArray[j]? =some v:=by simpa using hv
    clear hs ra ri e hj hv;by_cases hk:k<0
    ·rw [if_pos hk]at z;refine wpAny_getItem_list_neg (x:=v) (cY I q) hk (by simp;omega) (by omega) ?_ (a6 I rv)
     have:(k+((vs.toArray).size:Nat)).toNat=j:=by simp;omega
     rw [this];exact hv'
    ·rw [if_neg hk]at z;refine wpAny_getItem_list (x:=v) (cY I q) (by omega) (by omega) ?_ (a6 I rv)
     have:k.toNat=j:=by omega
     rw [this];exact hv'
  |_=>exact(aa e).elim
 |_=>exact(aa e).elim
end
noncomputable def ar (x y:Str):Bool:=aF x.cps.toList y.cps.toList
theorem ao (x y:Str):ar x y=true↔x=y:=by
 unfold ar;rw [bf];constructor
 ·intro h;obtain⟨⟨a⟩⟩:=x;obtain⟨⟨b⟩⟩:=y;simp at h;rw [h]
 ·intro h;rw [h]
theorem iw (x y:Str):ar x y=(x==y):=by
 rw [Bool.eq_iff_iff,ao,beq_iff_eq]
noncomputable def aE:List (Str×NameKind)→Str→Option NameKind
 | [],_=>none
 |p::r,x=>match ar x p.1 with
  |true=>some p.2
  |false=>aE r x
theorem eS:∀(l:List (Str×NameKind))(x:Str),aE l x=l.lookup x
 | [],_=>rfl
 |(n,k)::r,x=>by
  unfold aE;rw [List.lookup_cons,←iw];cases ar x n with
  |true=>rfl
  |false=>exact eS r x
noncomputable def ca (x:Str):Bool:= !ar x ("__debug__" :Str)&& !ar x ("__classdict__" :Str)
theorem cI {x:Str}(h:ca x=true):(x==("__debug__" :Str))=false:=by
 unfold ca at h;rw [←iw];simp only [Bool.and_eq_true,Bool.not_eq_true']at h;exact h.1
theorem tF {x:Str}(h:ca x=true):(x==("__classdict__" :Str))=false:=by
 unfold ca at h;rw [←iw];simp only [Bool.and_eq_true,Bool.not_eq_true']at h;exact h.2
noncomputable abbrev Ro:=Str→Option D
noncomputable def ad (ρ:Ro)(x:Str)(d:D):Ro:=fun y=>match ar y x with
 |true=>some d
 |false=>ρ y
noncomputable def aT:Ro:=fun Z=>none
structure Mv (X:Addr→Prop)(s:Shared)(G:Kn)(s':Shared)(G':Kn):Prop where
 same:∃h' tk,s'={s with heap:=h',toks:=tk}
 size:s.heap.objs.size≤s'.heap.objs.size
 tk:s.toks≤s'.toks
 keep:∀b o,¬X b→s.heap.get? b=some o→s'.heap.get? b=some o
 le:G.Le G'
 inn:G'.In s'.heap
 fresh:∀a o,G' a=some o→G a=some o∨s.heap.objs.size≤a
theorem ae.mv {X:Addr→Prop}{s s':Shared}{G G':Kn}(g:ae s G s' G'):Mv X s G s' G':=⟨g.same,g.size,g.tk,fun b o Z e=>g.keep b o e,g.le,g.inn,g.fresh⟩
theorem iB {X:Addr→Prop}{s:Shared}{G:Kn}{a:Addr}{h':Heap}{t:Nat}(I:G.In s.heap)(hs:Heap.SameBut a s.heap h')(hx:X a)(hn:G a=none)(ht:s.toks≤t):Mv X s G {s with heap:=h',toks:=t} G:=
 ⟨⟨_,_,rfl⟩,Nat.le_of_eq hs.1.symm,ht,fun b o n e=>(hs.2 b fun z=>n (z▸hx)).trans e,.refl G,fun b o e=>(hs.2 b fun z=>aa (hn.symm.trans (z▸e))).trans (I b o e),fun Z Z e=>.inl e⟩
theorem Mv.learn {X:Addr→Prop}{s s':Shared}{G G':Kn}(g:Mv X s G s' G'){a:Addr}{o:Obj}(e:s'.heap.get? a=some o)(hn:s.heap.objs.size≤a)(hk:G' a=none):Mv X s G s' (G'.add a o):=
 ⟨g.same,g.size,g.tk,g.keep,g.le.trans (Kn.le_add hk),fun b ob q=>(Kn.add_i q).elim (fun z=>by rw [z.1,←z.2];exact e) fun z=>g.inn b ob z.2,fun b ob q=>(Kn.add_i q).elim (fun z=>.inr (z.1▸hn)) fun z=>g.fresh b ob z.2⟩
theorem Mv.none_lt {X:Addr→Prop}{s s':Shared}{G G':Kn}(g:Mv X s G s' G'){a:Addr}(h:G a=none)(l:a<s.heap.objs.size):G' a=none:=by
 cases q:G' a with
 |none=>rfl
 |some o=>exact(g.fresh a o q).elim (fun z=>(aa (h.symm.trans z)).elim) fun z=>absurd l (Nat.not_lt.mpr z)
theorem Mv.trans {X:Addr→Prop}{s s' s'':Shared}{G G' G'':Kn}(a:Mv X s G s' G')(b:Mv X s' G' s'' G''):Mv X s G s'' G'':=by
 refine aV a.same fun h' tk z1=>?_;subst z1
 refine aV b.same fun h'' tk' z2=>?_;subst z2
 refine⟨⟨h'',tk',rfl⟩,Nat.le_trans a.size b.size,Nat.le_trans a.tk b.tk,fun x o n e=>b.keep x o n (a.keep x o n e),a.le.trans b.le,b.inn,fun x o e=>?_⟩
 rcases b.fresh x o e with q |q
 ·exact a.fresh x o q
 ·exact .inr (Nat.le_trans a.size q)
theorem Mv.weak {X Y:Addr→Prop}{s s':Shared}{G G':Kn}(a:Mv X s G s' G')(h:∀b,X b→Y b):Mv Y s G s' G':=
 ⟨a.same,a.size,a.tk,fun b o n e=>a.keep b o (fun x=>n (h b x)) e,a.le,a.inn,a.fresh⟩
theorem Mv.refl {X:Addr→Prop}{s:Shared}{G:Kn}(h:G.In s.heap):Mv X s G s G:=(ae.refl h).mv
structure Fv (B:Heap)(env:Env)(own:List (Str×Addr))(m cm:Str→Option Value)(h:Heap):Prop where
 ns:h.Ns env.locals m
 newL:B.get? env.locals=none
 cell:∀n c,own.lookup n=some c→h.IsCell c (cm n)
 newC:∀n c,(n,c)∈own→B.get? c=none∧c≠env.locals
 apart:own.Pairwise fun x y=>x.2≠y.2
 nd:∀n c,(n,c)∈own→own.lookup n=some c
 at_:∀n c,own.lookup n=some c→env.cells.lookup n=some c
 keep:∀b o,B.get? b=some o→h.get? b=some o
 kind:env.scope.kind=.function
noncomputable def Mine (env:Env)(own:List (Str×Addr))(b:Addr):Prop:=b=env.locals∨∃n,(n,b)∈own
structure Fr (G:Kn)(env:Env)(own:List (Str×Addr)):Prop where
 loc:G env.locals=none
 cel:∀n c,(n,c)∈own→G c=none
inductive nC (B:Heap)(env:Env)(own:List (Str×Addr))(m cm:Str→Option Value)(x:Str)(v:Value):Prop
 |loc:env.kindOf x=some .local→m x=some v→nC B env own m cm x v
 |cell {c}:env.kindOf x=some .cell→own.lookup x=some c→cm x=some v→nC B env own m cm x v
 |capt {c}:(env.kindOf x=some .cell∨env.kindOf x=some .free)→own.lookup x=none→env.cells.lookup x=some c→B.IsCell c (some v)→nC B env own m cm x v
structure a7 (P:Params)(B:Heap)(env:Env)(own:List (Str×Addr))(G:Kn)(h:Heap)(ρ:Ro):Prop where
 ex:∃m cm,Fv B env own m cm h∧∀x d,ρ x=some d→ca x=true∧∃v,nC B env own m cm x v∧Rd P G v d
 off:Fr G env own
 inn:G.In h
structure aP (P:Params)(G:Kn)(h:Heap)(env:Env)(ρ:Ro):Prop where
 vars:∀x d,ρ x=some d→ca x=true∧∃v,em h env x v∧Rd P G v d
 kind:env.scope.kind=.function
 inn:G.In h
theorem a7.env {P:Params}{B:Heap}{env:Env}{own:List (Str×Addr)}{G:Kn}{h:Heap}{ρ:Ro}(S:a7 P B env own G h ρ):aP P G h env ρ:=by
 refine aA S.ex fun m cm F hv=>?_;refine⟨fun x d e=>?_,F.kind,S.inn⟩
 refine cn (hv x d e) fun ok v r rd=>?_;refine⟨ok,v,?_,rd⟩;cases r with
 |loc a b=>exact .loc a F.ns b
 |cell a b c=>exact .cell a (F.at_ _ _ b) (c▸F.cell _ _ b)
 |capt a _ b c=>
  have c':=c.keeps F.keep;rcases a with a |a
  ·exact .cell a b c'
  ·exact .free a b c' (tF ok)
theorem aP.grew {P:Params}{s s':Shared}{G G':Kn}{env:Env}{ρ:Ro}(S:aP P G s.heap env ρ)(g:ae s G s' G'):aP P G' s'.heap env ρ:=
 ⟨fun x d e=>let⟨ok,v,r,rd⟩:=S.vars x d e;⟨ok,v,r.keeps g.keep,rd.mono g.le⟩,S.kind,g.inn⟩
theorem a7.grew {P:Params}{B:Heap}{env:Env}{own:List (Str×Addr)}{s s':Shared}{G G':Kn}{ρ:Ro}(S:a7 P B env own G s.heap ρ)(g:ae s G s' G'):a7 P B env own G' s'.heap ρ:=by
 refine aA S.ex fun m cm F hv=>?_;have no:∀a,G a=none→(∃o,s.heap.get? a=some o)→G' a=none:=fun a h ⟨o,q⟩=>by
  cases z:G' a with
  |none=>rfl
  |some o'=>
   rcases g.fresh a o' z with y |y
   ·exact(aa (h.symm.trans y)).elim
   ·exact absurd (Heap.lt_size q) (Nat.not_lt.mpr y)
 refine⟨⟨m,cm,⟨F.ns.keeps g.keep,F.newL,fun n c e=>(F.cell n c e).keeps g.keep,F.newC,F.apart,F.nd,F.at_,fun b o e=>g.keep b o (F.keep b o e),F.kind⟩,fun x d e=>?_⟩,⟨?_,fun n c hm=>?_⟩,g.inn⟩
 ·refine cn (hv x d e) fun ok v r rd=>?_;exact⟨ok,v,r,rd.mono g.le⟩
 ·refine iJ F.ns fun o Z Z ho Z=>?_;exact no _ S.off.loc ⟨o,ho⟩
 ·refine ah (F.cell n c (F.nd n c hm)) fun o ho Z=>?_;exact no _ (S.off.cel n c hm) ⟨o,ho⟩
theorem bN {α:Type}:∀{l:List (Str×α)}{n:Str}{c:α},l.lookup n=some c→(n,c)∈l
 |(k,v)::r,n,c,h=>by
  rw [List.lookup_cons]at h;cases hb:n==k with
  |true=>rw [hb]at h;obtain rfl:=Option.some.inj h;rw [beq_iff_eq.mp hb];exact List.mem_cons_self
  |false=>rw [hb]at h;exact List.mem_cons_of_mem _ (bN h)
noncomputable def pi (env:Env)(own:List (Str×Addr))(x:Str):Prop:=env.kindOf x=some .local∨(env.kindOf x=some .cell∧(own.lookup x).isSome=true)
theorem pc:∀{own:List (Str×Addr)}(_:own.Pairwise fun x y=>x.2≠y.2){n n':Str}{c:Addr},(n,c)∈own→(n',c)∈own→n=n'
 |x::r,hp,n,n',c,h,h'=>by
  obtain⟨h1,h2⟩:=List.pairwise_cons.mp hp;rcases List.mem_cons.mp h with e |h<;>rcases List.mem_cons.mp h' with e' |h'
  ·rw [←e']at e;exact(Prod.mk.inj e).1
  ·exact absurd (by rw [←e]) (h1 _ h')
  ·exact absurd (by rw [←e']) (h1 _ h)
  ·exact pc h2 h h'
theorem iO {M:Model}{A:Around}{E:Value→Shared→Prop}{s:Shared}{P:Params}{B:Heap}{env:Env}{own:List (Str×Addr)}{G:Kn}{ρ:Ro}{x:Str}{v:Value}{d:D}
  (S:a7 P B env own G s.heap ρ)(r:Rd P G v d)(ok:ca x=true)(c:pi env own x):
  wpAny M A (storeName env x v) (fun Z s'=>a7 P B env own G s'.heap (ad ρ x d)∧Mv (Mine env own) s G s' G) E s:=by
 refine aA S.ex fun m cm F hv=>?_;have bnd:∀y e,ad ρ x d y=some e→(y=x∧e=d)∨(y≠x∧ρ y=some e):=by
  intro y e h;unfold ad at h;cases q:ar y x with
  |true=>rw [q]at h;obtain rfl:=Option.some.inj h;exact .inl ⟨(ao _ _).mp q,rfl⟩
  |false=>
   rw [q]at h;exact .inr ⟨fun z=>(by rw [(ao y x).mpr z]at q;exact(cb q).elim),h⟩
 rcases c with hl |⟨hl,hc⟩
 ·refine wpAny_storeName_local hl F.ns (fun h' hn' hs'=>?_) (by rw [F.kind];rfl)
  have neL:∀b o,B.get? b=some o→b≠env.locals:=fun b o e z=>by rw [z,F.newL]at e;exact(aa e).elim
  have cells:∀n c,own.lookup n=some c→h'.IsCell c (cm n):=fun n c e=>(F.cell n c e).sameBut hs' (F.newC n c (bN e)).2
  have inn':G.In h':=fun a o e=>(hs'.2 a fun z=>by rw [z,S.off.loc]at e;exact(aa e).elim).trans (S.inn a o e)
  refine⟨⟨⟨fun y=>if y=x then some v else m y,cm,⟨hn',F.newL,cells,F.newC,F.apart,F.nd,F.at_,fun b o e=>(hs'.2 b (neL b o e)).trans (F.keep b o e),F.kind⟩,fun y e h=>?_⟩,S.off,inn'⟩,
   ⟨⟨_,_,rfl⟩,Nat.le_of_eq hs'.1.symm,Nat.le_succ _,fun b o n e=>(hs'.2 b fun z=>n (.inl z)).trans e,.refl G,inn',fun Z Z e=>.inl e⟩⟩
  ·rcases bnd y e h with⟨rfl,rfl⟩ |⟨ne,h⟩
   ·exact⟨ok,v,.loc hl (by simp),r⟩
   ·refine cn (hv y e h) fun ok' v' q rd=>?_;refine⟨ok',v',?_,rd⟩;cases q with
    |loc a b=>exact .loc a (by simp [ne,b])
    |cell a b c=>exact .cell a b c
    |capt a b c d=>exact .capt a b c d
 ·refine xe (Option.isSome_iff_exists.mp hc) fun c hc=>?_;have hm:=bN hc;refine wpAny_storeName_cell F.kind hl (F.at_ _ _ hc) (F.cell _ _ hc) fun h' hc' hs'=>?_;have neC:∀b o,B.get? b=some o→b≠c:=fun b o e z=>by rw [z,(F.newC _ _ hm).1]at e;exact(aa e).elim
  have inn':G.In h':=fun a o e=>(hs'.2 a fun z=>by rw [z,S.off.cel _ _ hm]at e;exact(aa e).elim).trans (S.inn a o e)
  have cells:∀n c',own.lookup n=some c'→h'.IsCell c' (if n=x then some v else cm n):=fun n c' e=>by
   by_cases hn:n=x
   ·subst hn;rw [hc]at e;obtain rfl:=Option.some.inj e;rw [if_pos rfl];exact hc'
   ·rw [if_neg hn];exact(F.cell n c' e).sameBut hs' fun z=>hn (pc F.apart (bN e) (z▸hm))
  refine⟨⟨⟨m,fun y=>if y=x then some v else cm y,⟨F.ns.sameBut hs' (F.newC _ _ hm).2.symm,F.newL,cells,F.newC,F.apart,F.nd,F.at_,fun b o e=>(hs'.2 b (neC b o e)).trans (F.keep b o e),F.kind⟩,fun y e h=>?_⟩,S.off,inn'⟩,
   ⟨⟨_,_,rfl⟩,Nat.le_of_eq hs'.1.symm,Nat.le_refl _,fun b o n e=>(hs'.2 b fun z=>n (.inr ⟨x,z▸hm⟩)).trans e,.refl G,inn',fun Z Z e=>.inl e⟩⟩
  ·rcases bnd y e h with⟨rfl,rfl⟩ |⟨ne,h⟩
   ·exact⟨ok,v,.cell hl hc (by simp),r⟩
   ·refine cn (hv y e h) fun ok' v' q rd=>?_;refine⟨ok',v',?_,rd⟩;cases q with
    |loc a b=>exact .loc a b
    |cell a b c=>exact .cell a b (by simp [ne,c])
    |capt a b c d=>exact .capt a b c d
set_option backward.match.sparseCases true
structure c7 (prog:Program)(w:World)(A:Around)(target:PySem.Expr)(I:Addr)(wr:Addr→Prop)(items:List D)(G₀:Kn)(St:Nat→Heap→Prop):Prop where
 frame:∀i h h',St i h→(∀b o,(wr b∨∃ob,G₀ b=some ob)→h.get? b=some o→h'.get? b=some o)→St i h'
 item:∀i d (s:Shared) (G:Kn) (E:Value→Shared→Prop),items[i]? =some d→St i s.heap→G.In s.heap→G₀.Le G→(∀b,wr b→G b=none)→
  wpAny (model prog w) A (pyNext (.ref I)) (fun r s₁=> ∃v,r=some v∧wpAny (model prog w) A (letOwnedTupleGo target (.ref I) v)
   (fun Z s2=> ∃G',Mv wr s G s2 G'∧Rd w.params G' v d∧St (i+1) s2.heap) E s₁) E s
 done:∀(s:Shared) (G:Kn) (E:Value→Shared→Prop),St items.length s.heap→G.In s.heap→G₀.Le G→(∀b,wr b→G b=none)→
  wpAny (model prog w) A (pyNext (.ref I)) (fun r s₁=>r=none∧Mv wr s G s₁ G) E s
 self:∀i (s:Shared) (Q:Value→Shared→Prop) (E:Value→Shared→Prop),St i s.heap→Q (.ref I) s→wpAny (model prog w) A (pyIter (.ref I)) Q E s
theorem c7.move {prog:Program}{w:World}{A:Around}{t:PySem.Expr}{I:Addr}{wr Y:Addr→Prop}{items:List D}{G₀ G G':Kn}{St:Nat→Heap→Prop}{i:Nat}{s s':Shared}(T:c7 prog w A t I wr items G₀ St)(st:St i s.heap)(m:Mv Y s G s' G')(I:G.In s.heap)(le:G₀.Le G)(hY:∀b,wr b→¬Y b):St i s'.heap:=
 T.frame _ _ _ st fun b o hb e=>hb.elim (fun hb=>m.keep b o (hY b hb) e) fun⟨ob,hb⟩=>Option.some.inj ((I b ob (le b ob hb)).symm.trans e)▸m.inn b ob (m.le b ob (le b ob hb))
noncomputable def pg (X:Addr→Prop)(G:Kn)(s:Shared):Prop:= ∀b,X b→G b=none∧b<s.heap.objs.size
theorem pg.mv {X Y:Addr→Prop}{G G':Kn}{s s':Shared}(h:pg X G s)(m:Mv Y s G s' G'):pg X G' s':=fun b hb=>⟨m.none_lt (h b hb).1 (h b hb).2,Nat.lt_of_lt_of_le (h b hb).2 m.size⟩
theorem pz {M:Model}{A:Around}{E:Value→Shared→Prop}{s:Shared}{target:PySem.Expr}{I:Addr}{v:Value}{Q:Unit→Shared→Prop}{o:Obj}{n:String}
  (ho:s.heap.get? I=some o)(hc:o.cls=.type n)(hn:["enumerate", "zip", "dict_itemiterator", "dict_reverseitemiterator", "odict_iterator", "itertools.zip_longest", "itertools.pairwise"].contains n=false)(h:Q () s):
  wpAny M A (letOwnedTupleGo target (.ref I) v) Q E s:=by
 have go:wpAny M A (do
   let(.ref r,.ref a):=((Value.ref I),v) |return
   let o ←load r
   match o.cls,o.data with
   | .type n,.fields vs=>
    if ["enumerate", "zip", "dict_itemiterator", "dict_reverseitemiterator", "odict_iterator", "itertools.zip_longest", "itertools.pairwise"].contains n&&vs[0]? ==some (rawInt a)then
     rule "for.unpacks-the-owned-tuple"
     updateField r 0 .none
   |_,_=>pure ():Sem Unit) Q E s:=by
  cases v with
  |ref a=>
   refine wpAny_bind (wpAny_load ho ?_);rw [hc];cases hd:o.data with
   |fields vs=>
    dsimp only;rw [hn];exact wpAny_pure h
   |_=>exact wpAny_pure h
  |_=>exact wpAny_pure h
 unfold letOwnedTupleGo;cases target with
 |Tuple=>exact go
 |List=>exact go
 |_=>exact wpAny_pure h
theorem c7.ofWalks {prog:Program}{w:World}{A:Around}{I:Addr}{fp wr:List Addr}{n:Nat}{Pt:Nat→Value→Prop}{St:Nat→Heap→Prop}{items:List D}{G₀:Kn}(target:PySem.Expr)
  (W:Walks prog w A I fp wr n Pt St)(hl:items.length=n)(hP:∀i v d,Pt i v→items[i]? =some d→Rd w.params G₀ v d)(hfp:∀b∈fp,b∈wr∨∃ob,G₀ b=some ob)
  (hcls:∀i h,St i h→∃o nm,h.get? I=some o∧o.cls=.type nm∧["enumerate", "zip", "dict_itemiterator", "dict_reverseitemiterator", "odict_iterator", "itertools.zip_longest", "itertools.pairwise"].contains nm=false):
  c7 prog w A target I (· ∈wr) items G₀ St where
 frame:=fun i h h' st k=>W.frame i h h' st fun b hb o e=>k b o (hfp b hb) e
 item:=fun i d s G E hi st inn le off=>by
  have hlt:i<n:=by rw [←hl];exact(List.getElem?_eq_some_iff.mp hi).1
  refine aK (W.item i s _ _ hlt st fun v h' tk hv st' hk hsz=>?_)
  refine aX (hcls _ _ st') fun o nm ho hc hn=>?_;refine⟨v,rfl,pz (s:={s with heap:=h',toks:=tk}) ho hc hn ⟨G,⟨⟨h',tk,rfl⟩,hsz.1,hsz.2,hk,.refl G,fun a ob e=>?_,fun Z Z e=>.inl e⟩,(hP i v d hv hi).mono le,st'⟩⟩
  refine hk a ob (fun hm=>?_) (inn a ob e)
  rw [off a hm]at e;exact(aa e).elim
 done:=fun s G E st inn le off=>by
  refine aK (W.done s _ _ (hl▸st) fun h' tk hk hsz=>⟨rfl,⟨h',tk,rfl⟩,hsz.1,hsz.2,hk,.refl G,fun a ob e=>?_,fun Z Z e=>.inl e⟩)
  exact hk a ob (fun hm=>by rw [off a hm]at e;exact(aa e).elim) (inn a ob e)
 self:=W.self
noncomputable def eo (prog:Program)(w:World)(A:Around)(target:PySem.Expr)(s:Shared)(G:Kn)(items:List D)(it:Value)(s':Shared):Prop:=
 ∃I wr St,it=.ref I∧ae s G s' G∧c7 prog w A target I wr items G St∧St 0 s'.heap∧∀b,wr b→s.heap.objs.size≤b∧b<s'.heap.objs.size
noncomputable def bn:D→Option (List D)
 | .list l=>if l.length≤1000000 then some l else none
 | .str x=>if x.length≤1000000 then some (x.map fun c=>.str [c])else none
 | .dict ks=>if ks.length≤1000000 then some (ks.map fun p=>.str p.1)else none
 |_=>none
section
variable {prog:Program}{w:World}{A:Around}{E:Value→Shared→Prop}{s:Shared}{G:Kn}
theorem gW {l:Addr}{vs:List Value}{n:Nat}{ds:List D}(target:PySem.Expr)(hh:A.handled=none)(I:G.In s.heap)(e:G l=some (aB vs n))(r:ai w.params G vs ds):
  wpAny (model prog w) A (pyIter (.ref l)) (eo prog w A target s G ds) E s:=by
 have hne:l≠s.heap.objs.size:=Nat.ne_of_lt (Heap.lt_size (I _ _ e))
 refine wpAny_pyIter_list (cY I e) ⟨s.heap.objs.size,(· ∈ [s.heap.objs.size]),_,rfl,ae.push I _ s.toks (Nat.le_refl _),
  c7.ofWalks target (Walks.list (prog:=prog) (w:=w) hh s.heap.objs.size l hne vs.toArray) (by simp [r.length]) (fun i v d hv hd=>?_) (fun b hb=>?_) (fun i h st=>?_),⟨⟨_,Heap.get?_push_size _ rfl,rfl,rfl⟩,?_⟩,fun b hb=>?_⟩
 ·refine ah (r.get hd) fun v' hv' rd=>?_;have:v'=v:=by
   have hv2:vs[i]? =some v:=by simpa using hv
   rw [hv']at hv2;exact Option.some.inj hv2
  exact this▸rd
 ·simp only [List.mem_cons,List.not_mem_nil,or_false]at hb⊢;rcases hb with rfl |rfl
  ·exact .inl rfl
  ·exact .inr ⟨_,e⟩
 ·refine xa st fun z1 Z=>?_;obtain⟨o,ho,hc,_⟩:=z1
  exact⟨o,_,ho,hc,by decide⟩
 ·exact⟨_,Heap.get?_push_of_some _ (I _ _ e),rfl,n,rfl⟩
 ·simp only [List.mem_cons,List.not_mem_nil,or_false]at hb;exact⟨Nat.le_of_eq hb.symm,by rw [hb];show s.heap.objs.size<(s.heap.push _).objs.size;rw [Heap.size_push];exact Nat.lt_succ_self _⟩
theorem v7 {x:List Nat}{t:Tok}(target:PySem.Expr)(hh:A.handled=none)(I:G.In s.heap):
  wpAny (model prog w) A (pyIter (.str (mk x) t)) (eo prog w A target s G (x.map fun c=>.str [c])) E s:=by
 have sg:∀i v d,SignAt (mk x) i v→(x.map fun c=>D.str [c])[i]? =some d→Rd w.params G v d:=by
  rintro i v d ⟨c,u,hc,rfl⟩ hd
  have hc':x[i]? =some c:=by simpa using hc
  rw [List.getElem?_map,hc']at hd;obtain rfl:=Option.some.inj hd;exact .str [c] u
 cases ha:(mk x).cps.all (· <128)
 ·refine wpAny_pyIter_wide ha ⟨s.heap.objs.size,(· ∈ [s.heap.objs.size]),_,rfl,ae.push I _ s.toks (Nat.le_refl _),
   c7.ofWalks target (Walks.strWide (prog:=prog) (w:=w) hh s.heap.objs.size (mk x) t) (by simp) sg (fun b hb=>.inl hb) (fun i h st=>?_),⟨_,Heap.get?_push_size _ rfl,rfl,rfl⟩,fun b hb=>?_⟩
  ·refine aR st fun o ho hc Z=>?_;exact⟨o,_,ho,hc,by decide⟩
  ·simp only [List.mem_cons,List.not_mem_nil,or_false]at hb;exact⟨Nat.le_of_eq hb.symm,by rw [hb];show s.heap.objs.size<(s.heap.push _).objs.size;rw [Heap.size_push];exact Nat.lt_succ_self _⟩
 ·refine wpAny_pyIter_ascii ha ⟨s.heap.objs.size,(· ∈ [s.heap.objs.size]),_,rfl,ae.push I _ s.toks (Nat.le_refl _),
   c7.ofWalks target (Walks.strAscii (prog:=prog) (w:=w) hh s.heap.objs.size (mk x) t) (by simp) sg (fun b hb=>.inl hb) (fun i h st=>?_),⟨_,Heap.get?_push_size _ rfl,rfl,rfl⟩,fun b hb=>?_⟩
  ·refine aR st fun o ho hc Z=>?_;exact⟨o,_,ho,hc,by decide⟩
  ·simp only [List.mem_cons,List.not_mem_nil,or_false]at hb;exact⟨Nat.le_of_eq hb.symm,by rw [hb];show s.heap.objs.size<(s.heap.push _).objs.size;rw [Heap.size_push];exact Nat.lt_succ_self _⟩
set_option tactic.hygienic true in
theorem om (prog:Program){ks:List (List Nat×D)}:∀{es:List DictEntry},dt w.params G es ks→∃kvs:List (Str×Value),Pairs (strKind prog w) es kvs∧kvs.map (·.1)=ks.map (fun p=>mk p.1)∧
  ai w.params G (kvs.map (·.2)) (ks.map (·.2))∧∀e∈es,∃k,(strKind prog w).is k e.key=true∧e.hash=(strKind prog w).hash k:=by
 induction ks with
 |nil=>intro es r;cases r;exact⟨[],.nil,rfl,.nil,fun e h=>(nomatch h)⟩
 |cons p ks ih=>
  intro es r;cases r with
  |cons hh hd hr=>
   rename_i h k t v es' d;refine eN (ih hr) fun kvs a b c f=>?_;refine⟨(mk k,v)::kvs,.cons (strKind_is prog w _ _) rfl a,by simp [b],.cons hd c,fun e he=>?_⟩
   rcases List.mem_cons.mp he with rfl |he
   ·exact⟨mk k,strKind_is prog w _ _,hh⟩
   ·exact f e he
theorem iC {a b:List Nat}(h:mk a=mk b):a=b:=by
 have:=congrArg (fun s:Str=>s.cps.toList) h
 simpa using this
theorem iU:∀{l:List (List Nat)},l.Nodup→(l.map mk).Nodup
 | [],_=>.nil
 |a::r,h=>by
  refine xa (List.nodup_cons.mp h) fun h1 h2=>?_;rw [List.map_cons,List.nodup_cons];refine⟨fun hm=>?_,iU h2⟩
  refine ah (List.mem_map.mp hm) fun b hb e=>?_;exact h1 (iC e▸hb)
theorem iE (prog:Program){a:Addr}{es:List DictEntry}{n:Nat}{ks:List (List Nat×D)}{h:Heap}(I:G.In h)(e:G a=some (cR es n))(hn:(ks.map (·.1)).Nodup)(r:dt w.params G es ks):
  ∃kvs:List (Str×Value),h.DictAt (strKind prog w) a kvs n∧kvs.map (·.1)=ks.map (fun p=>mk p.1)∧ai w.params G (kvs.map (·.2)) (ks.map (·.2)):=by
 refine eN (om prog r) fun kvs x y z f=>?_;refine⟨kvs,⟨_,es.toArray,I _ _ e,⟨rfl,rfl,rfl⟩,rfl,fun q hq=>f q (by simpa using hq),by simpa using x,?_⟩,y,z⟩
 rw [y];have:=iU hn;rw [List.map_map]at this;exact this
theorem mL {a:Addr}{es:List DictEntry}{n:Nat}{ks:List (List Nat×D)}(target:PySem.Expr)(hh:A.handled=none)(I:G.In s.heap)(e:G a=some (cR es n))(hs:(a==sysModules)=false)
  (hn:(ks.map (·.1)).Nodup)(r:dt w.params G es ks):wpAny (model prog w) A (pyIter (.ref a)) (eo prog w A target s G (ks.map fun p=>.str p.1)) E s:=by
 have hne:a≠s.heap.objs.size:=Nat.ne_of_lt (Heap.lt_size (I _ _ e));refine aR (iE prog I e hn r) fun kvs hd hk hv=>?_;refine aR (iE prog (h:=s.heap.push {cls:=.type "dict_keyiterator",data:=.fields #[.ref a,.int 0 0,.int kvs.length 0,.int n 0]}) (fun b o q=>Heap.get?_push_of_some _ (I b o q)) e hn r) fun kvs' hd' Z Z=>?_
 have hl:kvs.length=ks.length:=by have:=congrArg List.length hk;simpa using this
 refine wpAny_pyIter_dict hs hd ⟨s.heap.objs.size,(· ∈ [s.heap.objs.size]),_,rfl,ae.push I _ s.toks (Nat.le_refl _),
  c7.ofWalks target (Walks.dictKeys (prog:=prog) (w:=w) (knd:=strKind prog w) hh s.heap.objs.size a hne kvs n) (by simp [hl]) (fun i v d ht hi=>?_) (fun b hb=>?_) (fun i h st=>?_),⟨⟨_,Heap.get?_push_size _ rfl,rfl,rfl⟩,?_⟩,fun b hb=>?_⟩
 ·refine aA ht fun k x hx hki=>?_;rw [List.getElem?_map]at hi;cases q:ks[i]? with
  |none=>rw [q]at hi;cases hi
  |some p=>
   rw [q]at hi;obtain rfl:=Option.some.inj hi;have h1:(kvs.map (·.1))[i]? =some k:=by rw [List.getElem?_map,hx];rfl
   rw [hk,List.getElem?_map,q]at h1;obtain rfl:=Option.some.inj h1;refine xe (Value.isStrOf_shape hki) fun t z2=>?_;subst z2
   exact .str p.1 t
 ·simp only [List.mem_cons,List.not_mem_nil,or_false]at hb⊢;rcases hb with rfl |rfl
  ·exact .inl rfl
  ·exact .inr ⟨_,e⟩
 ·refine xa st fun z3 Z=>?_;obtain⟨o,ho,hc,_⟩:=z3
  exact⟨o,_,ho,hc,by decide⟩
 ·refine aA hd fun o es' ho hx=>?_;exact⟨o,es',Heap.get?_push_of_some _ ho,hx⟩
 ·simp only [List.mem_cons,List.not_mem_nil,or_false]at hb;exact⟨Nat.le_of_eq hb.symm,by rw [hb];show s.heap.objs.size<(s.heap.push _).objs.size;rw [Heap.size_push];exact Nat.lt_succ_self _⟩
theorem yj {v:Value}{d:D}{items:List D}(target:PySem.Expr)(hh:A.handled=none)(I:G.In s.heap)(r:Rd w.params G v d)(e:bn d=some items):
  wpAny (model prog w) A (pyIter v) (eo prog w A target s G items) E s:=by
 cases r with
 |list q r=>
  unfold bn at e;dsimp only at e
  split at e
  ·obtain rfl:=Option.some.inj e;exact gW target hh I q r
  ·exact(aa e).elim
 |str x t=>
  unfold bn at e;dsimp only at e
  split at e
  ·obtain rfl:=Option.some.inj e;exact v7 target hh I
  ·exact(aa e).elim
 |dict q l r=>
  unfold bn at e;dsimp only at e
  split at e
  ·obtain rfl:=Option.some.inj e;exact mL target hh I q l.1 l.2 r
  ·exact(aa e).elim
 |_=>exact(aa e).elim
end
set_option backward.match.sparseCases false
structure be (sc:List (Str×NameKind))(env:Env)(own:List (Str×Addr)):Prop where
 loc:∀x,aE sc x=some .local→env.kindOf x=some .local
 cel:∀x,aE sc x=some .cell→env.kindOf x=some .cell∧(own.lookup x).isSome=true
 fre:∀x,aE sc x=some .free→(env.kindOf x=some .cell∨env.kindOf x=some .free)∧own.lookup x=none∧(env.cells.lookup x).isSome=true
 glo:∀x,aE sc x=some .globalImplicit→env.kindOf x=some .globalImplicit
noncomputable def bF (sc:List (Str×NameKind))(x:Str):Bool:=ca x&&(match aE sc x with |some .local=>true |some .cell=>true |_=>false)
theorem cL {sc:List (Str×NameKind)}{x:Str}(h:bF sc x=true):ca x=true:=(Bool.and_eq_true_iff.mp h).1
theorem eP {sc:List (Str×NameKind)}{env:Env}{own:List (Str×Addr)}{x:Str}(c:be sc env own)(h:bF sc x=true):pi env own x:=by
 have:=(Bool.and_eq_true_iff.mp h).2;cases q:aE sc x with
 |none=>rw [q]at this;exact(aj this).elim
 |some k=>
  cases k with
  |«local»=>exact .inl (c.loc x q)
  |cell=>exact .inr (c.cel x q)
  |_=>rw [q]at this;exact(aj this).elim
noncomputable def eX:D→Option (List D)
 | .list l=>some l
 | .tup l=>some l
 | .str x=>some (x.map fun c=>D.str [c])
 |_=>none
noncomputable def aU (sc:List (Str×NameKind)):Ro→List PySem.Expr→List D→Option Ro
 |ρ,[],[]=>some ρ
 |ρ,e::es,d::ds=>match e with
  | .Name x _=>match bF sc x with
   |true=>aU sc (ad ρ x d) es ds
   |false=>none
  |_=>none
 |_,_,_=>none
noncomputable def aG (sc:List (Str×NameKind))(ρ:Ro)(t:PySem.Expr)(d:D):Option Ro:=match t with
 | .Name x _=>match bF sc x with
  |true=>some (ad ρ x d)
  |false=>none
 | .Tuple es _ _=>match eX d with
  |some ds=>aU sc ρ es ds
  |none=>none
 |_=>none
section
variable {prog:Program}{w:World}{A:Around}{E:Value→Shared→Prop}{s:Shared}{G:Kn}
theorem mQ {I:Addr}{fp wr:List Addr}{n:Nat}{Pt:Nat→Value→Prop}{St:Nat→Heap→Prop}(W:Walks prog w A I fp wr n Pt St):∀(k i:Nat)(s:Shared)(Q:List Value→Shared→Prop),i+k≤n→St i s.heap→
  (∀vs h' tk,vs.length=k→(∀j v,vs[j]? =some v→Pt (i+j) v)→St (i+k) h'→(∀b o,b∉wr→s.heap.get? b=some o→h'.get? b=some o)→Q vs {s with heap:=h',toks:=tk})→wpAny (model prog w) A (draw (.ref I) k) Q E s
 |0,i,s,Q,_,st,hQ=>by
  show wpAny _ _ (pure []) Q E s
  exact wpAny_pure (hQ [] s.heap s.toks rfl (fun j v h=>by simp at h) st fun Z Z Z e=>e)
 |k+1,i,s,Q,hle,st,hQ=>by
  show wpAny _ _ (pyNext (.ref I)>>=_) Q E s
  refine wpAny_bind (W.item i s _ _ (by lia) st fun v h1 tk1 hp st1 hk1=>?_)
  refine wpAny_bind (wpAny_holding (mQ W k (i+1) _ _ (by lia) st1 fun vs h2 tk₂ hl hv st2 hk2=>wpAny_pure ?_))
  refine hQ (v::vs) h2 tk₂ (by simp [hl]) (fun j u hj=>?_) (by rw [show i+(k+1)=i+1+k by lia];exact st2) fun b o hb e=>hk2 b o hb (hk1 b o hb e)
  cases j with
  |zero=>simp at hj;subst hj;exact hp
  |succ j=>
   have:=hv j u (by simpa using hj)
   rw [show i+(j+1)=i+1+j by lia];exact this
theorem qP {x:List Nat}{t:Tok}{n:Nat}(hh:A.handled=none)(I:G.In s.heap)(hn:n=x.length):
  wpAny (model prog w) A (unpackItems (.str (mk x) t) n none) (fun vs s'=>ai w.params G vs (x.map fun c=>D.str [c])∧ae s G s' G) E s:=by
 subst hn;refine aK ?_;have fin:∀(o:Obj) (St:Nat→Heap→Prop),(∀A':Around,A'.handled=none→Walks prog w A' s.heap.objs.size [s.heap.objs.size] [s.heap.objs.size] (mk x).cps.size (SignAt (mk x)) St)→St 0 (s.heap.push o)→
   wpAny (model prog w) A (do
    let items ←holding [Value.ref s.heap.objs.size] (draw (.ref s.heap.objs.size) x.length)
    if items.length<x.length then
     rule "unpack.too-few";raiseError "ValueError" s!"not enough values to unpack (expected {x.length}, got {items.length})"
    if(←holding items (pyNext (.ref s.heap.objs.size))).isSome then
     rule "unpack.too-many";raiseError "ValueError" s!"too many values to unpack (expected {x.length})"
    return items:Sem (List Value)) (fun vs s'=>s.heap.objs.size≤s'.heap.objs.size∧s.toks≤s'.toks→ai w.params G vs (x.map fun c=>D.str [c])∧ae s G s' G) E {s with heap:=s.heap.push o}:=by
  intro o St W st;have W':=W A hh;refine wpAny_bind (wpAny_holding (mQ W' x.length 0 _ _ (by simp) st fun vs h1 tk1 hl hv st1 hk1=>?_))
  have hsz:(mk x).cps.size=x.length:=by simp
  rw [if_neg (by rw [hl];lia)]
  refine wpAny_bind (wpAny_holding (W'.done _ _ _ (by rw [hsz];simpa using st1) fun h2 tk₂ hk2=>?_))
  simp only [Option.isSome_none,Bool.false_eq_true,if_false];refine wpAny_pure fun hs2=>⟨?_,?_⟩
  ·have all:∀(y:List Nat) (us:List Value),us.length=y.length→(∀(j:Nat) (v:Value) (c:Nat),us[j]? =some v→y[j]? =some c→∃u,v=Value.str (mk [c]) u)→ai w.params G us (y.map (fun c=>D.str [c])):=by
    intro y
    induction y with
    |nil=>intro us hl _;cases us with |nil=>exact .nil |cons=>cases hl
    |cons c y ih=>
     intro us hl h;cases us with
     |nil=>cases hl
     |cons v us=>
      refine xe (h 0 v c rfl rfl) fun u hu=>?_;exact .cons (hu▸ .str [c] u) (ih us (by simpa using hl) fun j v' c' a b=>h (j+1) v' c' (by simpa using a) (by simpa using b))
   refine all x vs hl fun j v c a b=>?_;refine aA (hv j v a) fun c' u hc hv'=>?_;have hc':x[j]? =some c':=by simpa using hc
   rw [b]at hc';obtain rfl:=Option.some.inj hc';exact⟨u,hv'⟩
  ·have new:∀b ob,s.heap.get? b=some ob→b∉ [s.heap.objs.size]:=fun b ob e hb=>by
    simp only [List.mem_cons,List.not_mem_nil,or_false]at hb;exact absurd (Heap.lt_size e) (by rw [hb];exact Nat.lt_irrefl _)
   exact ae.same_known I hs2.1 (fun b ob e=>hk2 b ob (new b ob e) (hk1 b ob (new b ob e) (Heap.get?_push_of_some _ e))) hs2.2
 unfold unpackItems;refine wpAny_bind ?_;unfold notIterableAtAll;refine wpAny_bind (wpAny_specialOf (typeIs_str _ _ _) F.slot_str_iter.lookup ?_);refine wpAny_pure ?_;simp only [Bool.false_eq_true,if_false];refine wpAny_bind (wpAny_holding ?_);cases ha:(mk x).cps.all (· <128)
 ·exact wpAny_pyIter_wide ha (fin _ _ (fun A' hA=>Walks.strWide hA _ (mk x) t) ⟨_,Heap.get?_push_size _ rfl,rfl,rfl⟩)
 ·exact wpAny_pyIter_ascii ha (fin _ _ (fun A' hA=>Walks.strAscii hA _ (mk x) t) ⟨_,Heap.get?_push_size _ rfl,rfl,rfl⟩)
set_option tactic.hygienic true in
theorem gT {v:Value}{d:D}{ds:List D}{n:Nat}(hh:A.handled=none)(I:G.In s.heap)(r:Rd w.params G v d)(e:eX d=some ds)(hn:n=ds.length):
  wpAny (model prog w) A (unpackItems v n none) (fun vs s'=>ai w.params G vs ds∧ae s G s' G) E s:=by
 have fin:∀{vs:List Value} {ds:List D},ai w.params G vs ds→∀h',Heap.ExtBut s.heap.objs.size s.heap h'→s.heap.objs.size≤h'.objs.size→ai w.params G vs ds∧ae s G {s with heap:=h'} G:=fun r h' he hs=>
  ⟨r,ae.same_known I hs (fun b o e=>he b o (Nat.ne_of_lt (Heap.lt_size e)) e) (Nat.le_refl _)⟩
 cases r<;>first |exact(aa e).elim |skip
 all_goals obtain rfl:=Option.some.inj e
 ·exact qP hh I (by simpa using hn)
 ·rename_i a k vs ds' q r;have:n=vs.toArray.size:=by rw [hn,←r.length];simp
  subst this;refine aK (kun_itemsOf hh (cY I q) fun h' he hs=>?_)
  simpa using fin r h' he hs.1
 ·rename_i a k vs ds' q r;have:n=vs.toArray.size:=by rw [hn,←r.length];simp
  subst this;refine aK (wpAny_unpackItems_tuple hh ⟨_,I _ _ q,rfl,k,rfl⟩ fun h' he hs=>?_)
  simpa using fin r h' he hs.1
theorem vI {sc:List (Str×NameKind)}{e:PySem.Expr}{es:List PySem.Expr}{d:D}{ds:List D}{ρ ρ':Ro}(h:aU sc ρ (e::es) (d::ds)=some ρ'):∃x p,e=.Name x p∧bF sc x=true∧aU sc (ad ρ x d) es ds=some ρ':=by
 obtain⟨x,p,rfl⟩:∃x p,e=.Name x p:=by cases e<;>first |exact(aa h).elim |exact⟨_,_,rfl⟩
 obtain⟨h1,h2⟩:=ec h;exact⟨x,p,rfl,h1,h2⟩
theorem eZ {sc:List (Str×NameKind)}{C:Ro→List PySem.Expr→List D→Ro→Prop}(h0:∀ρ,C ρ [] [] ρ)(h1:∀ρ x p es d ds ρ',bF sc x=true→C (ad ρ x d) es ds ρ'→C ρ (.Name x p::es) (d::ds) ρ'){es:List PySem.Expr}:
  ∀{ds:List D} {ρ ρ':Ro},aU sc ρ es ds=some ρ'→C ρ es ds ρ':=by
 induction es with
 |nil=>
  intro ds ρ ρ' h;cases ds with
  |nil=>obtain rfl:=Option.some.inj h;exact h0 _
  |cons=>exact(aa h).elim
 |cons e es ih=>
  intro ds ρ ρ' h;cases ds with
  |nil=>exact(aa h).elim
  |cons d ds=>
   obtain⟨x,p,rfl,ok,h⟩:=vI h;exact h1 _ _ _ _ _ _ _ ok (ih h)
set_option tactic.hygienic true in
theorem kJ {sc:List (Str×NameKind)}{t:PySem.Expr}{d:D}{ρ ρ':Ro}(h:aG sc ρ t d=some ρ'):(∃x p,t=.Name x p∧bF sc x=true∧ad ρ x d=ρ')∨∃es k p ds,t=.Tuple es k p∧eX d=some ds∧aU sc ρ es ds=some ρ':=by
 cases t<;>first |exact(aa h).elim |skip
 ·rename_i x p;refine xa (ec h) fun h1 h2=>?_;exact .inl ⟨_,_,rfl,h1,Option.some.inj h2⟩
 ·refine ah (eg h) fun ds h1 h2=>?_;exact .inr ⟨_,_,_,ds,rfl,h1,h2⟩
theorem jm {sc:List (Str×NameKind)}{es:List PySem.Expr}{ds:List D}{ρ ρ':Ro}(h:aU sc ρ es ds=some ρ'):es.length=ds.length:=
 eZ (C:=fun Z es ds Z=>es.length=ds.length) (fun Z=>rfl) (fun Z Z Z Z Z Z Z Z h=>congrArg Nat.succ h) h
theorem oN {env:Env}:∀(es:List PySem.Expr),(assignEach es env).length=es.length
 | []=>rfl
 |e::es=>by cases e<;>exact congrArg Nat.succ (oN es)
theorem ut {sc:List (Str×NameKind)}{env:Env}{es:List PySem.Expr}{ds:List D}{ρ ρ':Ro}(h:aU sc ρ es ds=some ρ'):(assignEach es env).findIdx? (·.1)=none:=
 eZ (C:=fun Z es Z Z=>(assignEach es env).findIdx? (·.1)=none) (fun Z=>rfl) (fun Z x p es Z Z Z Z h=>by
  show List.findIdx? (·.1) ((false,_)::assignEach es env)=none
  rw [List.findIdx?_cons,h]
  rfl) h
theorem kh {P:Params}{M:Model}{B:Heap}{env:Env}{own:List (Str×Addr)}{sc:List (Str×NameKind)}{ρ:Ro}{x:Str}{pos:Pos}{v:Value}{d:D}(S:a7 P B env own G s.heap ρ)(C:be sc env own)(r:Rd P G v d)
  (ok:bF sc x=true):wpAny M A (assign (.Name x pos) env v) (fun Z s'=>a7 P B env own G s'.heap (ad ρ x d)∧Mv (Mine env own) s G s' G) E s:=
 wpAny_assign_Name (iO S r (cL ok) (eP C ok))
theorem o9 {P:Params}{M:Model}{B:Heap}{env:Env}{own:List (Str×Addr)}{sc:List (Str×NameKind)}(C:be sc env own)(es:List PySem.Expr)(vs:List Value)(ds:List D)(ρ ρ':Ro)(s:Shared)(r:ai P G vs ds)(h:aU sc ρ es ds=some ρ')
  (S:a7 P B env own G s.heap ρ):wpAny M A (assignInOrder ((assignEach es env).map (·.2)) vs) (fun Z s'=>a7 P B env own G s'.heap ρ'∧Mv (Mine env own) s G s' G) E s:=
 eZ (C:=fun ρ es ds ρ'=> ∀(vs:List Value) (s:Shared),ai P G vs ds→a7 P B env own G s.heap ρ→wpAny M A (assignInOrder ((assignEach es env).map (·.2)) vs) (fun Z s'=>a7 P B env own G s'.heap ρ'∧Mv (Mine env own) s G s' G) E s)
  (fun ρ vs s r S=>by obtain rfl:=r.nil_i;exact wpAny_pure ⟨S,Mv.refl S.inn⟩)
  (fun ρ x p es d ds ρ' q ih vs s r S=>by
   refine aX r.cons_i fun Z Z z2 r1 r2=>?_;subst z2
   show wpAny M A (holding _ (assign (.Name x p) env _)>>=_) _ E s
   refine wpAny_bind (wpAny_holding (wpAny_mono (kh S C r1 q) (fun Z s₁ h1=>?_) fun Z Z z=>z))
   exact wpAny_mono (ih _ s₁ r2 h1.1) (fun Z s2 h2=>⟨h2.1,h1.2.trans h2.2⟩) fun Z Z z=>z) h vs s r S
theorem mx {B:Heap}{env:Env}{own:List (Str×Addr)}{sc:List (Str×NameKind)}{ρ ρ':Ro}{t:PySem.Expr}{v:Value}{d:D}(hh:A.handled=none)(S:a7 w.params B env own G s.heap ρ)(C:be sc env own)(r:Rd w.params G v d)
  (e:aG sc ρ t d=some ρ'):wpAny (model prog w) A (assign t env v) (fun Z s'=>a7 w.params B env own G s'.heap ρ'∧Mv (Mine env own) s G s' G) E s:=by
 rcases kJ e with⟨x,p,rfl,q,rfl⟩ |⟨es,k,p,ds,rfl,q,e⟩
 ·exact kh S C r q
 ·have hl:=jm e;show wpAny _ A (standAt p>>=fun Z=>unpack v (assignEach es env)) _ E s
  refine wpAny_bind (wpAny_standAt ?_);unfold unpack;rw [ut e];refine wpAny_bind (wpAny_holding (wpAny_mono (gT hh S.inn r q (by rw [oN,hl])) (fun vs s₁ h1=>?_) fun Z Z z=>z))
  exact wpAny_mono (o9 C es vs ds ρ ρ' s₁ h1.1 e (S.grew h1.2)) (fun Z s2 h2=>⟨h2.1,h1.2.mv.trans h2.2⟩) fun Z Z z=>z
end
noncomputable abbrev aq:=List (Str×NameKind)
noncomputable abbrev cS:=Str→List D→Option D
structure bm where
 ev:aq→Ro→PySem.Expr→Option D
 ts:aq→Ro→PySem.Expr→Option Bool
noncomputable def uv:Const→Option D
 | .none=>some .none
 | .bool b=>some (.bool b)
 | .int i=>some (.int i)
 | .str x=>some (.str x.cps.toList)
 |_=>none
noncomputable def sv (ev:PySem.Expr→Option D)(op:BoolOp):List PySem.Expr→Option D
 | []=>none
 |e::r=>match r with
  | []=>ev e
  |_::_=>match ev e with
   |none=>none
   |some d=>match eC d with
    |none=>none
    |some t=>match op,t with
     | .And,false=>some d
     | .Or,true=>some d
     |_,_=>sv ev op r
noncomputable def wF (ts:PySem.Expr→Option Bool)(op:BoolOp):List PySem.Expr→Option Bool
 | []=>some (match op with | .And=>true | .Or=>false)
 |e::r=>match ts e with
  |none=>none
  |some t=>match op,t with
   | .And,false=>some false
   | .Or,true=>some true
   |_,_=>wF ts op r
noncomputable def cX:PySem.Expr→Bool
 | .Starred .. =>true
 |_=>false
noncomputable def bx:PySem.Expr→Bool
 | .Set .. =>true
 |_=>false
theorem bO {op:CmpOp}{e:PySem.Expr}(h:bx e=false):behindInMarks op e=false:=by
 cases e<;>first |rfl |exact(cb h).elim
theorem jF {e:PySem.Expr}{env:Env}(h:bx e=false)(x:Value):foldedSetIterable e env x=pure x:=by
 cases e<;>first |rfl |exact(cb h).elim
noncomputable def bi (ev:PySem.Expr→Option D):List PySem.Expr→Option (List D)
 | []=>some []
 |e::r=>match cX e with
  |true=>none
  |false=>match ev e with
   |none=>none
   |some d=>match bi ev r with
    |none=>none
    |some ds=>some (d::ds)
theorem cU {e:PySem.Expr}{es:List PySem.Expr}{env:Env}(h:cX e=false):starEach (e::es) env=(false,eval e env)::starEach es env:=by
 cases e<;>first |rfl |exact(cb h).elim
noncomputable def aY (sc:aq)(f:Str):Bool:=ca f&&(match aE sc f with |some .globalImplicit=>true |_=>false)
noncomputable def dO:List Nat→List Nat→Bool
 | [],[]=>false
 | [],_::_=>true
 |_::_,[]=>false
 |a::r,b::t=>match Nat.blt a b with
  |true=>true
  |false=>match Nat.beq a b with
   |true=>dO r t
   |false=>false
noncomputable def lI:D→Option (Int×List Nat)
 | .list [.int i,.str a]=>some (i,a)
 |_=>none
noncomputable def xi (a b:D):Option Bool:=match a with
 | .int i=>match b with | .int j=>some (decide (i<j)) |_=>none
 |_=>match lI a with
  |some p=>match lI b with |some q=>some (if p.1=q.1 then dO p.2 q.2 else decide (p.1<q.1)) |none=>none
  |none=>none
noncomputable def dD:D→List D→Option D
 |b,[]=>some b
 |b,d::r=>match xi d b with
  |none=>none
  |some true=>dD d r
  |some false=>dD b r
noncomputable def fA:Int→List D→Option Int
 |a,[]=>some a
 |a,.int i::r=>if small a&&small i then fA (a+i) r else none
 |_,_=>none
inductive mW |len |min |max |sum |type
noncomputable def nB (f:Str):Option mW:=
 if ar f "len" then some .len else if ar f "min" then some .min else if ar f "max" then some .max else if ar f "sum" then some .sum else if ar f "type" then some .type else none
noncomputable def ij:mW→List D→Option D
 | .len,[a]=>ig a
 | .min,[.list l]=>match l with |d::r=>if(d::r).length≤100000 then dD d r else none | []=>none
 | .min,[.int i,.int j]=>some (.int (if j<i then j else i))
 | .max,[.int i,.int j]=>some (.int (if j >i then j else i))
 | .sum,[.list l]=>if l.length≤100000 then(fA 0 l).map .int else none
 | .type,[.int _]=>some (.typ "int")
 |_,_=>none
noncomputable def nn (x:Str)(o:D)(args:List D):Option D:=match o with
 | .str s=>match args with
  | []=>if ar x "lower" &&decide ((Txt.lower (mk s)).length≤1000)then some (.str (Txt.lower (mk s)).cps.toList)else none
  |_=>none
 | .dict ks=>match args with
  | [.str k,d]=>if ar x "get" then some (match ks.find? (fun p=>aF p.1 k)with |some p=>p.2 |none=>d)else none
  |_=>none
 |_=>none
noncomputable def wC:PySem.Expr→Option Str
 | .Constant (.str a) _ _=>some a
 |_=>none
set_option tactic.hygienic true in
theorem uG {e:PySem.Expr}{a:Str}(h:wC e=some a):∃k p,e=.Constant (.str a) k p:=by
 cases e<;>first |exact(aa h).elim |skip
 rename_i c _ _;cases c<;>first |exact(aa h).elim |skip
 obtain rfl:=Option.some.inj h;exact⟨_,_,rfl⟩
noncomputable def iQ (x:Str):List PySem.Expr→Option (Str×Str)
 | [e1,e2]=>match wC e1 with
  |some a=>match wC e2 with
   |some b=>if ar x "replace" then some (a,b)else none
   |none=>none
  |none=>none
 |_=>none
theorem tc {β:Type}{o:Option Str}{X:Str→Option β}{d:β}(e:(match o with |some x=>X x |none=>none)=some d):∃x,o=some x∧X x=some d:=by
 cases o with
 |none=>exact(aa e).elim
 |some x=>exact⟨x,rfl,e⟩
theorem xY {x a b:Str}{args:List PySem.Expr}(q:iQ x args=some (a,b)):∃k p k2 p2,args=[.Constant (.str a) k p,.Constant (.str b) k2 p2]∧ar x "replace" =true:=by
 rcases args with _ |⟨e1,_ |⟨e2,_ |⟨_,_⟩⟩⟩
 ·exact(aa q).elim
 ·exact(aa q).elim
 ·refine ah (tc q) fun a' h1 q1=>?_;refine ah (tc q1) fun b' h2 q2=>?_;refine xa (aL q2) fun h e=>?_;refine xa (Prod.mk.inj e) fun z1 z2=>?_;subst z1;subst z2
  refine aV (uG h1) fun Z Z z3=>?_;subst z3
  refine aV (uG h2) fun Z Z z4=>?_;subst z4
  exact⟨_,_,_,_,rfl,h⟩
 ·exact(aa q).elim
noncomputable def rf (o:D)(a b:Str):Option D:=match o with
 | .str s=>if s.length≤1000&&decide (b.length≤1000)&& !ar a b then some (.str (Txt.replace (mk s) a b).cps.toList)else none
 |_=>none
noncomputable def jw:PySem.Expr→Bool
 | .Name .. =>true
 | .Dict .. =>true
 |_=>false
noncomputable def vd (x:List Nat)(l u:Option Int):List Nat:=
 if(Builtin.Str.strSliceIndices l u 1 x.length).length==x.length then x else(Builtin.Str.strSliceIndices l u 1 x.length).filterMap (x[·]?)
noncomputable def Ai (x:List D)(l u:Option Int):Option (List D):=match l,u with
 |some (.ofNat k),none=>some (x.drop k)
 |none,some (.ofNat k)=>some (x.take k)
 |_,_=>none
noncomputable def kX (ev:PySem.Expr→Option D):Option PySem.Expr→Option (Option Int)
 |none=>some none
 |some e=>match ev e with
  |some (.int i)=>if small i then some (some i)else none
  |some .none=>some none
  |_=>none
noncomputable def gz (o:D)(l u:Option Int):Option D:=match o with
 | .str x=>if x.length≤1000 then some (.str (vd x l u))else none
 | .list x=>if x.length≤1000 then(Ai x l u).map .list else none
 |_=>none
noncomputable def aH (sc:aq)(ρ:Ro):Ro:=fun x=>match aE sc x with
 |some .free=>ρ x
 |_=>none
noncomputable def lz (out:aq):aq→Bool
 | []=>true
 |p::r=>(match p.2 with
  | .free=>match aE out p.1 with
   |some .free=>true
   |some .cell=>true
   |_=>false
  |_=>true)&&lz out r
noncomputable def fT:List Str→Bool
 | []=>true
 |x::r=>r.all (fun y=> !ar x y)&&fT r
noncomputable def bG (out:aq)(sc:Scope):Bool:=lz out sc.names&&fT (sc.names.map (·.1))&&(match sc.kind with | .function=>true |_=>false)
noncomputable def aM (ts:PySem.Expr→Option Bool):List PySem.Expr→Option Bool
 | []=>some true
 | [c]=>ts c
 |_=>none
noncomputable def bA (sc:aq)(t:PySem.Expr)(ts:Ro→Option Bool)(f:Ro→Option (List D))(ρ:Ro):List D→Option (List D)
 | []=>some []
 |d::r=>match aG sc ρ t d with
  |none=>none
  |some ρ'=>match ts ρ' with
   |none=>none
   |some true=>match f ρ' with
    |none=>none
    |some y=>match bA sc t ts f ρ r with
     |none=>none
     |some ys=>some (y++ys)
   |some false=>bA sc t ts f ρ r
noncomputable def bp:Option D→Option (List D)
 |some d=>some [d]
 |none=>none
noncomputable def kU:List D→Option (List D)
 | [.int n]=>if decide (0≤n)&&decide (n≤100000)then some ((List.range n.toNat).map fun(k:Nat)=>D.int (k:Int))else none
 |_=>none
noncomputable def jp:List Nat→List Nat→List D
 |a::r,b::t=>.tup [.str [a],.str [b]] ::jp r t
 |_,_=>[]
noncomputable def iZ:PySem.Expr→Bool
 | .Tuple .. =>true
 |_=>false
noncomputable def eH:List Nat→Bool
 | []=>true
 |a::r=>match Nat.blt a 128 with
  |true=>eH r
  |false=>false
noncomputable def iF:PySem.Expr→Option (Str×List PySem.Expr)
 | .Call (.Name f _) args [] _=>some (f,args)
 |_=>none
noncomputable def gy:D→Option (List Nat)
 | .str x=>some x
 |_=>none
noncomputable def qQ:List D→Option (List Nat×List Nat)
 | [x,y]=>match gy x with
  |none=>none
  |some a=>match gy y with
   |none=>none
   |some b=>some (a,b)
 |_=>none
noncomputable def bb (R:bm)(sc:aq)(ρ:Ro)(t e:PySem.Expr):Option (List D):=match iF e with
 |none=>match R.ev sc ρ e with |some d=>bn d |none=>none
 |some q=>
  if aY sc q.1&&ar q.1 "range" then(match bi (R.ev sc ρ) q.2 with |some ds=>kU ds |none=>none)
  else if aY sc q.1&&ar q.1 "zip" then(match bi (R.ev sc ρ) q.2 with
   |some l=>match qQ l with
    |none=>none
    |some p=>if iZ t&&eH p.1&&eH p.2&&Nat.beq p.1.length p.2.length&&Nat.ble p.1.length 1000 then some (jp p.1 p.2)else none
   |none=>none)
  else(match R.ev sc ρ e with |some d=>bn d |none=>none)
noncomputable def lq (k:Option D)(v:Option D):Option (List D):=match k,v with
 |some (.str x),some d=>some [.tup [.str x,d]]
 |_,_=>none
noncomputable def BG:D→Option (List Nat×D)
 | .tup l=>match l with
  | [x,d]=>match gy x with
   |none=>none
   |some y=>some (y,d)
  |_=>none
 |_=>none
noncomputable def iN:List D→Option (List (List Nat×D))
 | []=>some []
 |a::r=>match BG a with
  |none=>none
  |some p=>match iN r with
   |some ks=>if ks.all (fun q=> !aF q.1 p.1)then some (p::ks)else none
   |none=>none
noncomputable def nz (ev:PySem.Expr→Option D):List (Option PySem.Expr)→List PySem.Expr→Option (List (List Nat×D))
 | [],[]=>some []
 |some k::ks,v::vs=>match ev k,ev v with
  |some (.str x),some d=>match nz ev ks vs with
   |some r=>if r.all (fun p=> !aF p.1 x)then some ((x,d)::r)else none
   |none=>none
  |_,_=>none
 |_,_=>none
noncomputable def eU:Option (List D)→Option (List D)
 |some ys=>if ys.length≤100000 then some ys else none
 |none=>none
noncomputable def fQ (R:bm)(sc:aq)(ρ:Ro)(gens:List Comprehension)(scope:Scope)(f:Ro→Option (List D)):Option (List D):=match gens with
 | [⟨t,it,ifs,0⟩]=>match bG sc scope&& !bx it,bb R sc ρ t it with
  |true,some items=>eU (bA scope.names t (fun ρ'=>aM (R.ts scope.names ρ') ifs) f (aH scope.names ρ) items)
  |_,_=>none
 |_=>none
noncomputable def jC (R:bm)(sc:aq)(y:Str)(p:Pos)(it:PySem.Expr)(elt:PySem.Expr)(ρ':Ro):Option (List D):=match ρ' y with
 |some _=>none
 |none=>match bb R sc ρ' (.Name y p) it with
  |some items=>bA sc (.Name y p) (fun ρ''=>aM (R.ts sc ρ'') []) (fun ρ''=>bp (R.ev sc ρ'' elt)) ρ' items
  |none=>none
noncomputable def db (R:bm)(sc:aq)(ρ:Ro)(gens:List Comprehension)(scope:Scope)(elt:PySem.Expr):Option (List D):=match gens with
 | [g]=>fQ R sc ρ [g] scope fun ρ'=>bp (R.ev scope.names ρ' elt)
 | [⟨t,it,ifs,0⟩,⟨.Name y p,it2,[],0⟩]=>match bG sc scope&& !bx it&& !bx it2,bb R sc ρ t it with
  |true,some items=>eU (bA scope.names t (fun ρ'=>aM (R.ts scope.names ρ') ifs) (jC R scope.names y p it2 elt) (aH scope.names ρ) items)
  |_,_=>none
 |_=>none
noncomputable def jZ (Φ:cS)(sc:aq)(f:Str)(args:List D):Option D:=match aY sc f with
 |true=>match nB f with
  |some b=>ij b args
  |none=>Φ f args
 |false=>none
noncomputable def eL (o i:D):Option D:=match o with
 | .dict ks=>match i with
  | .str k=>(ks.find? (fun p=>aF p.1 k)).map (·.2)
  |_=>none
 |_=>gk o i
noncomputable def xb (Φ:cS)(gc:Str→Option D)(R:bm)(sc:aq)(ρ:Ro)(e:PySem.Expr):Option D:=match e with
 | .Constant c _ _=>uv c
 | .Name x _=>match ρ x with
  |some d=>some d
  |none=>match aY sc x with
   |true=>gc x
   |false=>none
 | .BoolOp op vs _=>sv (R.ev sc ρ) op vs
 | .BinOp l op r _=>match R.ev sc ρ l with
  |none=>none
  |some a=>match R.ev sc ρ r with
   |none=>none
   |some b=>dq op a b
 | .UnaryOp .USub x _=>match R.ev sc ρ x with
  |some (.int i)=>if small i then some (.int (-i))else none
  |_=>none
 | .IfExp t b o _=>match R.ts sc ρ t with
  |none=>none
  |some true=>R.ev sc ρ b
  |some false=>R.ev sc ρ o
 | .List es _=>match bi (R.ev sc ρ) es with
  |some ds=>if ds.length≤1000 then some (.list ds)else none
  |none=>none
 | .Tuple es _ _=>match bi (R.ev sc ρ) es with
  |some ds=>if ds.length≤1000 then some (.tup ds)else none
  |none=>none
 | .Dict ks vs _=>match vs with
  | []=>none
  |_::_=>if vs.length≤2 then(nz (R.ev sc ρ) ks vs).map .dict else none
 | .Compare l [op] [r] _=>match bx r with
  |true=>none
  |false=>match R.ev sc ρ l with
   |none=>none
   |some a=>match R.ev sc ρ r with
    |none=>none
    |some b=>(bg op a b).map .bool
 | .Subscript v s _=>match R.ev sc ρ v with
  |none=>none
  |some o=>match s with
   | .Slice l u none _=>match kX (R.ev sc ρ) l with
    |none=>none
    |some lo=>match kX (R.ev sc ρ) u with
     |none=>none
     |some hi=>gz o lo hi
   |_=>match R.ev sc ρ s with
    |none=>none
    |some i=>eL o i
 | .ListComp elt gens scope _=>(db R sc ρ gens scope elt).map .list
 | .DictComp k v gens scope _=>match fQ R sc ρ gens scope fun ρ'=>lq (R.ev scope.names ρ' k) (R.ev scope.names ρ' v)with
  |some l=>(iN l).map .dict
  |none=>none
 | .Call (.Name f _) args [] _=>match bi (R.ev sc ρ) args with
  |none=>none
  |some ds=>jZ Φ sc f ds
 | .Call (.Attribute o x apos) args [] pos=>match jw o&&Nat.beq apos.endLine pos.line&&Nat.ble args.length 20 with
  |false=>none
  |true=>match R.ev sc ρ o with
   |none=>none
   |some d=>match iQ x args with
    |some (a,b)=>(match (gc "str").isSome with |true=>rf d a b |false=>none)
    |none=>match bi (R.ev sc ρ) args with
     |none=>none
     |some ds=>nn x d ds
 |_=>none
noncomputable def w9 (R:bm)(sc:aq)(ρ:Ro)(e:PySem.Expr):Option Bool:=match e with
 | .UnaryOp .Not x _=>(R.ts sc ρ x).map (!·)
 | .BoolOp op vs _=>wF (R.ts sc ρ) op vs
 | .Compare l [op] [r] _=>match bx r with
  |true=>none
  |false=>match R.ev sc ρ l with
   |none=>none
   |some a=>match R.ev sc ρ r with
    |none=>none
    |some b=>bg op a b
 | .Compare .. =>none
 | .IfExp .. =>none
 | .UnaryOp .. =>none
 |_=>match R.ev sc ρ e with
  |none=>none
  |some d=>eC d
noncomputable def av (Φ:cS)(gc:Str→Option D):Nat→bm
 |0=>⟨fun Z Z Z=>none,fun Z Z Z=>none⟩
 |n+1=>⟨xb Φ gc (av Φ gc n),w9 (av Φ gc n)⟩
theorem ke {R:bm}{sc:aq}{ρ:Ro}{gens:List Comprehension}{scope:Scope}{f:Ro→Option (List D)}{ys:List D}(q:fQ R sc ρ gens scope f=some ys):∃t it ifs,gens=[⟨t,it,ifs,0⟩]:=by
 rcases gens with _ |⟨⟨t,it,ifs,(_ |a) |a⟩,_ |⟨_,_⟩⟩
 ·exact(aa q).elim
 ·exact⟨t,it,ifs,rfl⟩
 all_goals exact(aa q).elim
noncomputable def Ba:PySem.Expr→Bool
 | .Name .. =>true
 |_=>false
theorem ue {e:PySem.Expr}(h:Ba e=true):∃x p,e=.Name x p:=by
 cases e<;>first |exact(aj h).elim |exact⟨_,_,rfl⟩
theorem vQ {R:bm}{sc:aq}{ρ:Ro}{t it t2 it2 elt:PySem.Expr}{ifs ifs2:List PySem.Expr}{a a2:Int}{r:List Comprehension}{scope:Scope}{ys:List D}(q:db R sc ρ (⟨t,it,ifs,a⟩::⟨t2,it2,ifs2,a2⟩::r) scope elt=some ys):Ba t2=true:=by
 cases t2<;>first |exact(aa q).elim |rfl
theorem tX {R:bm}{sc:aq}{ρ:Ro}{t it it2 elt:PySem.Expr}{y:Str}{p:Pos}{ifs ifs2:List PySem.Expr}{a a2:Int}{r:List Comprehension}{scope:Scope}{ys:List D}(q:db R sc ρ (⟨t,it,ifs,a⟩::⟨.Name y p,it2,ifs2,a2⟩::r) scope elt=some ys):a=0∧ifs2=[]∧a2=0∧r=[]:=by
 rcases ifs2 with _ |_
 all_goals first |exact(aa q).elim |skip
 all_goals rcases r with _ |_
 all_goals first |exact(aa q).elim |skip
 all_goals rcases a with(_ |a) |a
 all_goals first |exact(aa q).elim |skip
 all_goals rcases a2 with(_ |a2) |a2
 all_goals first |exact(aa q).elim |exact⟨rfl,rfl,rfl,rfl⟩
theorem ka {R:bm}{sc:aq}{ρ:Ro}{gens:List Comprehension}{scope:Scope}{elt:PySem.Expr}{ys:List D}(q:db R sc ρ gens scope elt=some ys):
  (∃t it ifs,gens=[⟨t,it,ifs,0⟩])∨∃t it ifs y p it2,gens=[⟨t,it,ifs,0⟩,⟨.Name y p,it2,[],0⟩]:=by
 rcases gens with _ |⟨⟨t,it,ifs,a⟩,_ |⟨⟨t2,it2,ifs2,a2⟩,r⟩⟩
 ·exact(aa q).elim
 ·exact .inl (ke q)
 ·refine aV (ue (vQ q)) fun y p z5=>?_;subst z5
  refine mo (tX q) fun z6 z7 z8 z9=>?_;subst z6;subst z7;subst z8;subst z9
  exact .inr ⟨_,_,_,_,_,_,rfl⟩
structure am (k:Nat)(A:Around):Prop where
 hh:A.handled=none
 hd:A.depth+k<recursionLimit
 hu:A.units+20*k+200<cLine
noncomputable def jO:List (Str×Value):=[("len",.builtin "len"),("min",.builtin "min"),("max",.builtin "max"),("sum",.builtin "sum"),("type",.type "type"),("range",.type "range"),("zip",.type "zip"),("list",.type "list"),("isinstance",.builtin "isinstance"),("str",.type "str"),("int",.type "int"),("iter",.builtin "iter"),("tuple",.type "tuple"),("set",.type "set"),("StopIteration",.type "StopIteration")]
noncomputable def fO (K:Frag):Bool:=match K.reverse with
 |a::b::_=>Nat.beq a.1 b.1
 |_=>false
structure Cx (K:Frag)(mg mb:Str→Option Value)(s:Shared):Prop where
 kin:K.In s.heap
 g:s.heap.Ns mainGlobals mg
 b:s.heap.Ns builtinsNs mb
 nolim:s.heap.NoLimit
 blt:∀p∈jO,mg p.1=none∧mb p.1=some p.2
 tk:fO K=true→0<s.toks
theorem Cx.keeps {K:Frag}{mg mb:Str→Option Value}{s s':Shared}(C:Cx K mg mb s)(k:∀b o,s.heap.get? b=some o→s'.heap.get? b=some o)(t:s.toks≤s'.toks):Cx K mg mb s':=
 ⟨fun a o e=>k a o (C.kin a o e),C.g.keeps k,C.b.keeps k,C.nolim.keeps k,C.blt,fun f=>Nat.lt_of_lt_of_le (C.tk f) t⟩
theorem Cx.grew {K:Frag}{mg mb:Str→Option Value}{s s':Shared}{G G':Kn}(C:Cx K mg mb s)(g:ae s G s' G'):Cx K mg mb s':=C.keeps g.keep g.tk
structure aD (sc:aq)(env:Env):Prop where
 glo:∀x,aE sc x=some .globalImplicit→env.kindOf x=some .globalImplicit
 cel:∀x,aE sc x=some .cell∨aE sc x=some .free→(env.kindOf x=some .cell∨env.kindOf x=some .free)∧(env.cells.lookup x).isSome=true
 kind:env.scope.kind=.function
 gl:env.globals=mainGlobals
 bl:env.builtins=builtinsNs
noncomputable def gM (prog:Program)(w:World)(K:Frag)(mg mb:Str→Option Value) (k:Nat)(a:Addr)(args:List D)(d:D):Prop:=
 ∀(A:Around) (s:Shared) (G:Kn) (vs:List Value) (E:Value→Shared→Prop),am k A→Cx K mg mb s→G.In s.heap→ai w.params G vs args→wpAny (model prog w) A (call (.ref a) vs) (aQ w.params s G d) E s
noncomputable def fi (prog:Program)(w:World)(K:Frag)(mg mb:Str→Option Value) (k:Nat)(Φ:cS):Prop:=
 ∀f args d,Φ f args=some d→∃a,mg f=some (.ref a)∧(∀s,Cx K mg mb s→∃o fd,s.heap.get? a=some o∧o.data=.func fd)∧gM prog w K mg mb k a args d
noncomputable def fq (w:World)(mg mb:Str→Option Value)(gc:Str→Option D):Prop:= ∀x d,gc x=some d→∃v,(mg x=some v∨(mg x=none∧mb x=some v))∧∀G,Rd w.params G v d
structure aw (prog:Program)(w:World)(K:Frag)(mg mb:Str→Option Value) (k:Nat)(R:bm):Prop where
 ev:∀sc ρ e d,R.ev sc ρ e=some d→∀(A:Around) (env:Env) (s:Shared) (G:Kn) (E:Value→Shared→Prop),am k A→Cx K mg mb s→aD sc env→aP w.params G s.heap env ρ→
  wpAny (model prog w) A (eval e env) (aQ w.params s G d) E s
 ts:∀sc ρ e b,R.ts sc ρ e=some b→∀(A:Around) (env:Env) (s:Shared) (G:Kn) (E:Value→Shared→Prop),am k A→Cx K mg mb s→aD sc env→aP w.params G s.heap env ρ→
  wpAny (model prog w) A (isTrue e env (eval e env)) (gN s G b) E s
section
variable {prog:Program}{w:World}{K:Frag}{mg mb:Str→Option Value}{k:Nat}{R:bm}{A:Around}{env:Env}{s:Shared}{G:Kn}{E:Value→Shared→Prop}{sc:aq}{ρ:Ro}
theorem xU {c:Const} {x1 x2}{d:D}(I:G.In s.heap)(e:uv c=some d):wpAny (model prog w) A (eval (.Constant c x1 x2) env) (aQ w.params s G d) E s:=by
 cases c with
 |none=>obtain rfl:=Option.some.inj e;exact wpAny_Constant_none (a6 I .none)
 |bool b=>obtain rfl:=Option.some.inj e;exact wpAny_Constant_bool (a6 I (.bool _))
 |int i=>obtain rfl:=Option.some.inj e;exact wpAny_Constant_int (cg I (.int _ _) (Nat.le_add_right _ _))
 |str x=>
  obtain rfl:=Option.some.inj e;exact wpAny_Constant_str (cg I (Rd.str (P:=w.params) (G:=G) x.cps.toList s.toks) (Nat.le_add_right _ _))
 |_=>exact(aa e).elim
theorem eE {x:Str}(g:aY sc x=true):ca x=true∧aE sc x=some .globalImplicit:=by
 refine xa (Bool.and_eq_true_iff.mp g) fun ok g=>?_;refine⟨ok,?_⟩;cases z:aE sc x with
 |none=>rw [z]at g;exact(aj g).elim
 |some kk=>rw [z]at g;cases kk<;>first |rfl |exact(aj g).elim
theorem Aq {gc:Str→Option D}{x:Str}{pos:Pos}{d:D}(hgc:fq w mg mb gc)(hx:Cx K mg mb s)(hs:aD sc env)(S:aP w.params G s.heap env ρ)
  (e:(match ρ x with |some d=>some d |none=>match aY sc x with |true=>gc x |false=>none)=some d):wpAny (model prog w) A (eval (.Name x pos) env) (aQ w.params s G d) E s:=by
 cases q:ρ x with
 |some d'=>
  rw [q]at e;obtain rfl:=Option.some.inj e;refine cn (S.vars x d' q) fun ok v r rd=>?_;exact dR S.kind r (cI ok) (a6 S.inn rd)
 |none=>
  rw [q]at e;refine xa (ec e) fun g e=>?_;refine ah (hgc x d e) fun v hv rd=>?_;refine xa (eE g) fun ok kd=>?_;exact Calls.Name_function_global hs.kind (hs.glo x kd) (hv.elim (fun hv=>Calls.loadGlobal_global (by rw [hs.gl];exact hx.g) hv (a6 S.inn (rd G))) fun hv=>Calls.loadGlobal_builtin (by rw [hs.gl];exact hx.g) hv.1 (by rw [hs.bl];exact hx.b) hv.2 (a6 S.inn (rd G))) (cI ok)
theorem um {ev:PySem.Expr→Option D}{e:PySem.Expr}{es:List PySem.Expr}{ds:List D}(h:bi ev (e::es)=some ds):∃d ds',cX e=false∧ev e=some d∧bi ev es=some ds'∧ds=d::ds':=by
 refine xa (jY h) fun st h=>?_;refine ah (cP h) fun d q h=>?_;refine ah (kP h) fun ds' q2 h=>?_;exact⟨d,ds',st,q,q2,(Option.some.inj h).symm⟩
theorem dH (H:aw prog w K mg mb k R)(rm:am k A)(hs:aD sc env)(p:Pos)(es:List PySem.Expr):∀(ds:List D)(s:Shared)(G:Kn){Q:List Value→Shared→Prop},bi (R.ev sc ρ) es=some ds→Cx K mg mb s→aP w.params G s.heap env ρ→
  (∀vs s' G',ae s G s' G'→ai w.params G' vs ds→Q vs s')→wpAny (model prog w) A (spliced (backTo p (starEach es env))) Q E s:=by
 induction es with
 |nil=>
  intro ds s G Q e _ S h;obtain rfl:=Option.some.inj e;exact wpAny_items_nil (h [] s G (.refl S.inn) .nil)
 |cons e es ih=>
  intro ds s G Q h hx S hQ;refine nl (um h) fun d ds' st q q2 z1=>?_;subst z1
  exact wpAny_items_cons (bI (H.ev sc ρ e d q A env s G E rm hx hs S) fun v s₁ G₁ g1 r1=>ih ds' s₁ G₁ q2 (hx.grew g1) (S.grew g1) fun vs s2 G2 g2 r2=>hQ _ s2 G2 (g1.trans g2) (.cons (r1.mono g2.le) r2)) (cU st)
theorem tZ {n m:Nat}(h:n=m)(hl:m≤1000):n≤sizeLine:=by rw [h,sizeLine_eq];exact Nat.le_trans hl (by decide)
theorem As (H:aw prog w K mg mb k R)(rm:am k A)(hs:aD sc env)(hx:Cx K mg mb s)(S:aP w.params G s.heap env ρ){es:List PySem.Expr}{pos:Pos}{d:D}
  (e:(match bi (R.ev sc ρ) es with |some ds=>if ds.length≤1000 then some (.list ds)else none |none=>none)=some d):wpAny (model prog w) A (eval (.List es pos) env) (aQ w.params s G d) E s:=by
 refine ah (eg e) fun ds q e=>?_;refine xa (aL e) fun hl z2=>?_;subst z2
 exact wpAny_List (dH H rm hs pos es ds s G q hx S fun vs s' G' g r=>⟨tZ r.length hl,_,g.trans (ae.alloc g.inn (aB vs 0) s'.toks rfl (Nat.le_refl _)),.list Kn.add_self (r.mono (Kn.le_add (Kn.none_of g.inn (fH _))))⟩)
theorem xQ (H:aw prog w K mg mb k R)(rm:am k A)(hs:aD sc env)(hx:Cx K mg mb s)(S:aP w.params G s.heap env ρ){es:List PySem.Expr}{x:Nat}{pos:Pos}{d:D}
  (e:(match bi (R.ev sc ρ) es with |some ds=>if ds.length≤1000 then some (.tup ds)else none |none=>none)=some d):wpAny (model prog w) A (eval (.Tuple es x pos) env) (aQ w.params s G d) E s:=by
 refine ah (eg e) fun ds q e=>?_;refine xa (aL e) fun hl z3=>?_;subst z3
 exact wpAny_Tuple (dH H rm hs pos es ds s G q hx S fun vs s' G' g r=>⟨tZ r.length hl,_,g.trans (ae.alloc g.inn (cB vs 0) s'.toks rfl (Nat.le_refl _)),.tup Kn.add_self (r.mono (Kn.le_add (Kn.none_of g.inn (fH _))))⟩)
theorem CO (H:aw prog w K mg mb k R)(rm:am k A)(hs:aD sc env)(hx:Cx K mg mb s)(S:aP w.params G s.heap env ρ){l r:PySem.Expr}{op:Operator}{pos:Pos}{d:D}
  (e:(match R.ev sc ρ l with |none=>none |some a=>match R.ev sc ρ r with |none=>none |some b=>dq op a b)=some d):wpAny (model prog w) A (eval (.BinOp l op r pos) env) (aQ w.params s G d) E s:=by
 refine ah (cP e) fun a q e=>?_;refine ah (cP e) fun b q2 e=>?_;refine wpAny_BinOp (bI (H.ev sc ρ l a q A env s G E rm hx hs S) fun u s₁ G₁ g1 r1=>?_)
 refine bI (H.ev sc ρ r b q2 A env s₁ G₁ E rm (hx.grew g1) hs (S.grew g1)) fun v s2 G2 g2 r2=>?_;exact dW (g1.trans g2) (tD g2.inn (r1.mono g2.le) r2 e)
theorem tx (H:aw prog w K mg mb k R)(rm:am k A)(hs:aD sc env)(hx:Cx K mg mb s)(S:aP w.params G s.heap env ρ){l r:PySem.Expr}{op:CmpOp}{c:Bool}{a b:D}
  (q:R.ev sc ρ l=some a)(q2:R.ev sc ρ r=some b)(e:bg op a b=some c):
  wpAny (model prog w) A (eval l env) (fun u s₁=>wpAny (model prog w) A (eval r env) (fun v s2=>wpAny (model prog w) A (compareOp op u v) (aQ w.params s G (.bool c)) E s2) E s₁) E s:=by
 refine bI (H.ev sc ρ l a q A env s G E rm hx hs S) fun u s₁ G₁ g1 r1=>?_;refine bI (H.ev sc ρ r b q2 A env s₁ G₁ E rm (hx.grew g1) hs (S.grew g1)) fun v s2 G2 g2 r2=>?_;exact dW (g1.trans g2) (kY g2.inn (r1.mono g2.le) r2 (by have:=rm.hu;lia) e)
theorem tm {β:Type}{o:Option Bool}{X:Bool→Option β}{d:β}(e:(match o with |none=>none |some x=>X x)=some d):∃x,o=some x∧X x=some d:=by
 cases o with
 |none=>exact(aa e).elim
 |some x=>exact⟨x,rfl,e⟩
theorem vg (H:aw prog w K mg mb k R)(rm:am k A)(hs:aD sc env)(op:BoolOp)(pos:Pos)(es:List PySem.Expr):∀(d:D)(s:Shared)(G:Kn),sv (R.ev sc ρ) op es=some d→Cx K mg mb s→aP w.params G s.heap env ρ→
  wpAny (model prog w) A (boolOp pos op (evalEach es env)) (aQ w.params s G d) E s:=by
 induction es with
 |nil=>exact fun Z Z Z e=>(aa e).elim
 |cons e es ih=>
  intro d s G h hx S;cases es with
  |nil=>exact H.ev sc ρ e d h A env s G E rm hx hs S
  |cons e2 es=>
   refine ah (cP h) fun d1 q h=>?_;refine ah (tm h) fun t q2 h=>?_;refine vf (H.ev sc ρ e d1 q A env s G E rm hx hs S) fun v s₁ G₁ g1 r1=>wpAny_bind (wpAny_standAt (wpAny_bind (wpAny_holding (jT (nY g1.inn r1 q2) fun s2 G2 g2=>?_))))
   have g12:=g1.trans g2;have rest:=fun h'=>dW g12 (ih d s2 G2 h' (hx.grew g12) (S.grew g12))
   have now:=fun h':some d1=some d=>wpAny_pure (M:=model prog w) (A:=A) (E:=E) (Q:=aQ w.params s G d) ⟨G2,g12,Option.some.inj h'▸r1.mono g2.le⟩
   cases op<;>cases t
   ·exact now h
   ·exact rest h
   ·exact rest h
   ·exact now h
theorem CQ (H:aw prog w K mg mb k R)(rm:am k A)(hs:aD sc env)(op:BoolOp)(es:List PySem.Expr):∀(b:Bool)(s:Shared)(G:Kn),wF (R.ts sc ρ) op es=some b→Cx K mg mb s→aP w.params G s.heap env ρ→
  wpAny (model prog w) A (allTrue op es env) (gN s G b) E s:=by
 induction es with
 |nil=>
  intro b s G e _ S;obtain rfl:=Option.some.inj e;cases op
  ·exact wpAny_allTrue_And_nil ⟨rfl,G,.refl S.inn⟩
  ·exact wpAny_allTrue_Or_nil ⟨rfl,G,.refl S.inn⟩
 |cons e es ih=>
  intro b s G h hx S;refine ah (tm h) fun t q h=>?_;refine Am (H.ts sc ρ e t q A env s G E rm hx hs S) fun s₁ G₁ g1=>?_;have rest:=fun h'=>uL g1 (ih b s₁ G₁ h' (hx.grew g1) (S.grew g1))
  have now:=fun{c} (h':some c=some b)=>wpAny_pure (M:=model prog w) (A:=A) (E:=E) (Q:=gN s G b) (a:=c) ⟨Option.some.inj h',G₁,g1⟩
  cases op<;>cases t
  ·exact now h
  ·exact rest h
  ·exact rest h
  ·exact now h
theorem xT (H:aw prog w K mg mb k R)(rm:am k A)(hs:aD sc env)(hx:Cx K mg mb s)(S:aP w.params G s.heap env ρ){t b o:PySem.Expr}{pos:Pos}{d:D}
  (e:(match R.ts sc ρ t with |none=>none |some true=>R.ev sc ρ b |some false=>R.ev sc ρ o)=some d):wpAny (model prog w) A (eval (.IfExp t b o pos) env) (aQ w.params s G d) E s:=by
 cases q:R.ts sc ρ t with
 |none=>rw [q]at e;cases e
 |some c=>
  rw [q]at e;rw [arm_eval_IfExp];refine Am (H.ts sc ρ t c q A env s G E rm hx hs S) fun s₁ G₁ g1=>?_;cases c with
  |true=>exact dW g1 (H.ev sc ρ b d e A env s₁ G₁ E rm (hx.grew g1) hs (S.grew g1))
  |false=>exact dW g1 (H.ev sc ρ o d e A env s₁ G₁ E rm (hx.grew g1) hs (S.grew g1))
end
section
variable {prog:Program}{w:World}{K:Frag}{mg mb:Str→Option Value}{k:Nat}{R:bm}{A:Around}{env:Env}{s:Shared}{G:Kn}{E:Value→Shared→Prop}{sc:aq}{ρ:Ro}
theorem iq {value slice:PySem.Expr}{o i:Value}{T id:String}{Q:Value→Shared→Prop}(hT:s.TypeIs o T)
  (hl:typeLookup (.type T) "__getitem__" =pure (some (.builtin id)))(h:wpAny (model prog w) A (getItem o i) Q E s):wpAny (model prog w) A (subscriptTail value slice o i) Q E s:=by
 unfold subscriptTail;refine wpAny_bind ?_;rw [getitemInPython_of_ne hT.not_modules];refine wpAny_bind (wpAny_specialOf hT hl ?_);have fin:wpAny (model prog w) A (subscripted slice false o i) (fun r s3=>wpAny (model prog w) A (letTemporaryGo value o r>>=fun Z=>pure r) Q E s3) E s:=by
  have op:∀{l:List Value},wpAny (model prog w) A (operate l (getItem o i)) (fun r s3=>wpAny (model prog w) A (letTemporaryGo value o r>>=fun Z=>pure r) Q E s3) E s:=
   fun{l}=>wpAny_operating (wpAny_mono h (fun r s3 h3=>wpAny_bind (wpAny_letTemporaryGo (wpAny_pure h3))) fun Z Z x=>x)
  unfold subscripted;cases slice with
  |Slice a b c p=>cases c<;>exact op
  |_=>exact op
 first
  |exact wpAny_pure (wpAny_bind fin)
  |exact wpAny_bind (wpAny_pure (wpAny_bind fin))
  |exact wpAny_bind fin
theorem nI {v:Value}{d:D}(I:G.In s.heap)(r:Rd w.params G v d):(∀x,d=.str x→s.TypeIs v "str")∧(∀x,d=.list x→s.TypeIs v "list")∧(∀x,d=.dict x→s.TypeIs v "dict"):=by
 cases r with
 |str x t=>exact⟨fun Z Z=>typeIs_str _ _ _,fun Z h=>(nomatch h),fun Z h=>(nomatch h)⟩
 |list q r=>exact⟨fun Z h=>(nomatch h),fun Z Z=>⟨_,I _ _ q,rfl⟩,fun Z h=>(nomatch h)⟩
 |dict q l r=>exact⟨fun Z h=>(nomatch h),fun Z h=>(nomatch h),fun Z Z=>⟨_,I _ _ q,rfl⟩⟩
 |_=>exact⟨fun Z h=>(nomatch h),fun Z h=>(nomatch h),fun Z h=>(nomatch h)⟩
theorem ja {ks:List (List Nat×D)}:∀{kvs:List (Str×Value)}(x:List Nat),kvs.map (·.1)=ks.map (fun p=>mk p.1)→ai w.params G (kvs.map (·.2)) (ks.map (·.2))→
  match ks.find? (fun p=>aF p.1 x)with
  |some p=> ∃v,valueAt kvs (mk x)=some v∧Rd w.params G v p.2
  |none=>valueAt kvs (mk x)=none:=by
 induction ks with
 |nil=>
  intro kvs x e r;cases kvs with
  |nil=>rfl
  |cons=>simp at e
 |cons q ks ih=>
  intro kvs x e r;cases kvs with
  |nil=>simp at e
  |cons kv kvs=>
   simp only [List.map_cons,List.cons.injEq]at e r;cases r with
   |cons r1 r2=>
    rw [List.find?_cons];have step:valueAt (kv::kvs) (mk x)=if kv.1=mk x then some kv.2 else valueAt kvs (mk x):=by
     unfold valueAt;rw [List.find?_cons];by_cases c:kv.1=mk x
     ·simp [c]
     ·simp [c]
    cases c:aF q.1 x with
    |true=>
     have:q.1=x:=(bf _ _).mp c;dsimp only;refine⟨kv.2,?_,r1⟩;rw [step,if_pos (by rw [e.1,this])]
    |false=>
     have:¬kv.1=mk x:=fun z=>by
      rw [e.1]at z;rw [(bf _ _).mpr (iC z)]at c;exact(cb c).elim
     dsimp only;rw [step,if_neg this];exact ih x e.2 r2
theorem vA {v u:Value}{ks:List (List Nat×D)}{x:List Nat}{d:D}(I:G.In s.heap)(r:Rd w.params G v (.dict ks))(rx:Rd w.params G u (.str x))(e:(ks.find? (fun p=>aF p.1 x)).map (·.2)=some d):
  wpAny (model prog w) A (getItem v u) (aQ w.params s G d) E s:=by
 refine nj r.dict_i fun a n es z1 q l rk=>?_;subst z1
 refine xe rx.str_i fun t z2=>?_;subst z2
 refine ah (Option.map_eq_some_iff.mp e) fun p f z3=>?_;subst z3
 refine aR (iE prog I q l.2 rk) fun kvs hd hk hv=>?_;have hof:s.heap.DictOf (strKind prog w) a kvs:=by
  obtain⟨o,es',ho,x1,x2,x3,x4,x5⟩:=hd;exact⟨o,es',n,ho,x1,x2,x3,x4,x5⟩
 have fv:=ja (G:=G) (w:=w) x hk hv;rw [f]at fv;refine ah fv fun v hv rv=>?_;exact wpAny_getItem_of (knd:=strKind prog w) (k:=mk x) (strKind_is prog w _ _) hof.mapOf hv (cg I rv (Nat.le_add_right _ _))
theorem qU {value slice:PySem.Expr}{o i:Value}{a b d:D}(I:G.In s.heap)(ra:Rd w.params G o a)(ri:Rd w.params G i b)(e:gk a b=some d):
  wpAny (model prog w) A (subscriptTail value slice o i) (aQ w.params s G d) E s:=by
 have t:=nI (s:=s) I ra;have e':=e;refine ah (b8 e') fun k z4 Z=>?_;subst z4
 cases a with
 |str x=>exact iq (t.1 x rfl) F.slot_str_getitem.lookup (pX I ra ri e)
 |list x=>exact iq (t.2.1 x rfl) slot_list_getitem.lookup (pX I ra ri e)
 |_=>exact(aa e).elim
theorem sV {value slice:PySem.Expr}{o i:Value}{a b d:D}(I:G.In s.heap)(ra:Rd w.params G o a)(ri:Rd w.params G i b)(e:eL a b=some d):
  wpAny (model prog w) A (subscriptTail value slice o i) (aQ w.params s G d) E s:=by
 cases a with
 |dict ks=>
  cases b with
  |str x=>exact iq ((nI (s:=s) I ra).2.2 ks rfl) slot_dict_getitem.lookup (vA I ra ri e)
  |_=>exact(aa e).elim
 |_=>exact qU I ra ri e
theorem u7 {x:List Nat}{t:Tok}{l u:Option (Int×Tok)}{sl:Addr}(I:G.In s.heap)(hs:s.heap.IsSlice sl l u none)(hx:x.length≤1000):
  wpAny (model prog w) A (getItem (.str (mk x) t) (.ref sl)) (aQ w.params s G (.str (vd x (l.map (·.1)) (u.map (·.1))))) E s:=by
 refine wpAny_getItem_str_slice hs rfl ?_;have hl:(mk x).length=x.length:=by simp [Str.length]
 unfold sliceMade vd slicePicked;rw [hl];by_cases c:((Builtin.Str.strSliceIndices (l.map (·.1)) (u.map (·.1)) 1 x.length).length==x.length)=true
 ·rw [if_pos (by simpa using c),if_pos c]
  exact a6 I (.str x t)
 ·rw [if_neg (by simpa using c),if_neg c]
  refine⟨?_,?_⟩
  ·rw [sizeLine_eq];show(List.filterMap _ _).toArray.size≤_
   rw [List.size_toArray];refine Nat.le_trans (List.length_filterMap_le _ _) (Nat.le_trans (sliceIndices_le _ _ _) (by lia))
  ·have e:(List.filterMap (fun x_1=>(mk x).cps[x_1]?) (Builtin.Str.strSliceIndices (l.map (·.1)) (u.map (·.1)) ((Option.map (·.1) (none:Option (Int×Tok))).getD 1) x.length))=(Builtin.Str.strSliceIndices (l.map (·.1)) (u.map (·.1)) 1 x.length).filterMap (x[·]?):=by
    congr 1
    funext j;simp
   exact cg I (by
    have r:=Rd.str (P:=w.params) (G:=G) ((Builtin.Str.strSliceIndices (l.map (·.1)) (u.map (·.1)) 1 x.length).filterMap (x[·]?)) s.toks;rw [←e]at r⊢
    exact r) (Nat.le_add_right _ _)
theorem tW {l sl:Addr}{vs:List Value}{n:Nat}{ds r:List D}{lo hi:Option Int}{vl vu:Value}(I:G.In s.heap)(q:G l=some (aB vs n))(rd:ai w.params G vs ds)(hs:s.heap.IsSliceOf sl vl vu .none)(pl:IsPart vl lo)(pu:IsPart vu hi)
  (e:Ai ds lo hi=some r)(hx:ds.length≤1000):wpAny (model prog w) A (getItem (.ref l) (.ref sl)) (aQ w.params s G (.list r)) E s:=by
 have hl:=rd.length;have fin:∀(us:List Value) (r:List D),slicePick vs.toArray lo hi none=us.toArray→ai w.params G us r→aQ w.params s G (.list r) (.ref s.heap.objs.size) {s with heap:=s.heap.push {cls:=.type "list",data:=.seq (slicePick vs.toArray lo hi none)}}:=by
  intro us r e' rd';rw [e'];exact⟨_,ae.alloc I (aB us 0) s.toks rfl (Nat.le_refl _),.list Kn.add_self (rd'.mono (Kn.le_add (Kn.none_of I (fH _))))⟩
 refine wpAny_getItem_list_slice (cY I q) hs pl pu .none (by simp) ?_ (by rw [sizeLine_eq];simp;lia)
 cases lo with
 |some a=>
  cases a with
  |negSucc _=>cases hi<;>exact(aa e).elim
  |ofNat a=>
   cases hi with
   |some _=>exact(aa e).elim
   |none=>
    rw [←Option.some.inj e];exact fin (vs.drop a) _ (by simpa using slicePick_from' vs.toArray a) (rd.drop _)
 |none=>
  cases hi with
  |none=>exact(aa e).elim
  |some a=>
   cases a with
   |negSucc _=>exact(aa e).elim
   |ofNat a=>
    rw [←Option.some.inj e];exact fin (vs.take a) _ (by simpa using slicePick_upto' vs.toArray a) (rd.take _)
theorem ye {o:Option D}{r:Option Int}(e:(match o with |some (.int i)=>if small i then some (some i)else none |some .none=>some none |_=>none)=some r):(∃i,o=some (.int i)∧some i=r)∨(o=some .none∧none=r):=by
 rcases o with _ |d
 ·exact(aa e).elim
 cases d<;>first |exact(aa e).elim |skip
 ·exact .inr ⟨rfl,Option.some.inj e⟩
 ·exact .inl ⟨_,rfl,(aL e).2⟩
set_option tactic.hygienic true in
theorem vc {β:Type}{v:PySem.Expr}{X:Option PySem.Expr→Option PySem.Expr→Option β}{Y:Option β}{d:β}(e:(match v with | .Slice l u none _=>X l u |_=>Y)=some d):(∃l u p,v=.Slice l u none p∧X l u=some d)∨Y=some d:=by
 cases v<;>first |exact .inr e |skip
 rename_i l u st p;cases st with
 |none=>exact .inl ⟨_,_,_,rfl,e⟩
 |some=>exact .inr e
theorem tj {β:Type}{o:Option (Option Int)}{X:Option Int→Option β}{d:β}(e:(match o with |none=>none |some x=>X x)=some d):∃x,o=some x∧X x=some d:=by
 cases o with
 |none=>exact(aa e).elim
 |some x=>exact⟨x,rfl,e⟩
theorem tv (H:aw prog w K mg mb k R)(rm:am k A)(hs:aD sc env){p:Option PySem.Expr}{i:Option Int}{s:Shared}{G:Kn}{Q:Value→Shared→Prop}(hx:Cx K mg mb s)(S:aP w.params G s.heap env ρ)(e:kX (R.ev sc ρ) p=some i)
  (h:∀v s' G',ae s G s' G'→(∃t,v=partValue (i.map fun j=>(j,t)))→Q v s'):wpAny (model prog w) A (evalPart p env) Q E s:=by
 cases p with
 |none=>
  obtain rfl:=Option.some.inj e;exact wpAny_pure (h .none s G (.refl S.inn) ⟨0,rfl⟩)
 |some x=>
  rcases ye e with⟨j,q,rfl⟩ |⟨q,rfl⟩
  ·refine bI (H.ev sc ρ x _ q A env s G E rm hx hs S) fun v s₁ G₁ g1 r1=>h v s₁ G₁ g1 ?_
   obtain⟨_,rfl⟩:=r1.int_i;exact⟨_,rfl⟩
  ·refine bI (H.ev sc ρ x _ q A env s G E rm hx hs S) fun v s₁ G₁ g1 r1=>h v s₁ G₁ g1 ?_
   obtain rfl:=r1.none_i;exact⟨0,rfl⟩
theorem pW {i:Option Int}{t:Tok}:IsPart (partValue (i.map fun j=>(j,t))) i:=by
 cases i with
 |none=>exact .none
 |some j=>exact .int j t
theorem pq (H:aw prog w K mg mb k R)(rm:am k A)(hs:aD sc env)(hx:Cx K mg mb s)(S:aP w.params G s.heap env ρ){v sl:PySem.Expr}{pos:Pos}{d:D}
  (e:(match R.ev sc ρ v with
  |none=>none
  |some o=>match sl with
   | .Slice l u none _=>match kX (R.ev sc ρ) l with
    |none=>none
    |some lo=>match kX (R.ev sc ρ) u with
     |none=>none
     |some hi=>gz o lo hi
   |_=>match R.ev sc ρ sl with
    |none=>none
    |some i=>eL o i)=some d):wpAny (model prog w) A (eval (.Subscript v sl pos) env) (aQ w.params s G d) E s:=by
 obtain⟨o,q,e⟩:=cP e;refine Subscript_ (bI (H.ev sc ρ v o q A env s G E rm hx hs S) fun ov s₁ G₁ g1 r1=>?_)
 rcases vc e with⟨l,u,p,rfl,e⟩ |e
 ·obtain⟨lo,q1,e⟩:=tj e;obtain⟨hi,q2,e⟩:=tj e;refine wpAny_Slice (tv H rm hs (hx.grew g1) (S.grew g1) q1 fun vl s2 G2 g2 hl=>tv H rm hs (hx.grew (g1.trans g2)) ((S.grew g1).grew g2) q2 fun vu s3 G3 g3 hu=>?_)
  refine wpAny_pure ?_;obtain⟨tl,rfl⟩:=hl;obtain⟨tu,rfl⟩:=hu;have g4:=ae.push g3.inn {cls:=.type "slice",data:=.fields #[partValue (lo.map fun j=>(j,tl)),partValue (hi.map fun j=>(j,tu)),.none]} s3.toks (Nat.le_refl _)
  have g:=((g1.trans g2).trans g3).trans g4;have ra:=r1.mono (g2.le.trans g3.le);cases o with
  |str x=>
   obtain⟨hlen,rfl⟩:=aL e;obtain⟨t,rfl⟩:=ra.str_i;have:=u7 (prog:=prog) (w:=w) (A:=A) (E:=E) (t:=t) g4.inn (x:=x) (l:=lo.map fun j=>(j,tl)) (u:=hi.map fun j=>(j,tu)) (sl:=s3.heap.objs.size) ⟨_,Heap.get?_push_size _ rfl,rfl,rfl⟩ hlen
   have e1:Option.map (fun x=>x.1) (Option.map (fun j=>(j,tl)) lo)=lo:=by cases lo<;>rfl
   have e2:Option.map (fun x=>x.1) (Option.map (fun j=>(j,tu)) hi)=hi:=by cases hi<;>rfl
   rw [e1,e2]at this;exact iq (typeIs_str _ _ _) F.slot_str_getitem.lookup (dW g this)
  |list x=>
   obtain⟨hlen,e⟩:=nu e;obtain⟨r,q3,rfl⟩:=Option.map_eq_some_iff.mp e;obtain⟨_,_,_,rfl,qa,ra⟩:=ra.list_i;exact iq ⟨_,g4.inn _ _ qa,rfl⟩ slot_list_getitem.lookup (dW g (tW g4.inn qa ra (.new _ _ _ _) pW pW q3 hlen))
  |_=>exact(aa e).elim
 ·obtain⟨i,q2,e⟩:=cP e;refine bI (H.ev sc ρ sl i q2 A env s₁ G₁ E rm (hx.grew g1) hs (S.grew g1)) fun iv s2 G2 g2 r2=>?_;exact dW (g1.trans g2) (sV g2.inn (r1.mono g2.le) r2 e)
end
section
variable {prog:Program}{w:World}{K:Frag}{mg mb:Str→Option Value}{k:Nat}{R:bm}{A:Around}{env:Env}{s:Shared}{G:Kn}{E:Value→Shared→Prop}{sc:aq}{ρ:Ro}
theorem fB:∀(es:List PySem.Expr)(ds:List D)(pos:Pos),bi (R.ev sc ρ) es=some ds→(backTo pos (starEach es env)).any (·.1)=false
 | [],_,_,_=>rfl
 |e::es,ds,pos,h=>by
  unfold bi at h;cases st:cX e with
  |true=>rw [st]at h;cases h
  |false=>
   rw [st]at h;dsimp only at h;cases q:R.ev sc ρ e with
   |none=>rw [q]at h;cases h
   |some d=>
    rw [q]at h;dsimp only at h;cases q2:bi (R.ev sc ρ) es with
    |none=>rw [q2]at h;cases h
    |some ds'=>
     have:=fB es ds' pos q2;rw [cU st]
     simpa [backTo] using this
theorem fP {M:Model}{f:Value}{pos:Pos}{args:List PySem.Expr}{ds:List D}{Q:Args→Shared→Prop}(q:bi (R.ev sc ρ) args=some ds)
  (h:wpAny M A (spliced (backTo pos (starEach args env))) (fun vs s₁=>Q ⟨vs,[]⟩ s₁) E s):wpAny M A (evalArgs f true (backTo pos (starEach args env)) []) Q E s:=by
 cases args with
 |nil=>
  show wpAny M A (evalArgs f true [] []) Q E s
  unfold evalArgs;show wpAny M A (spliced [] >>=_) Q E s
  refine wpAny_bind (wpAny_mono h (fun vs s' h'=>?_) fun Z Z x=>x)
  refine wpAny_holding ?_;exact wpAny_bind (wpAny_pure (wpAny_bind (wpAny_pure (wpAny_pure h'))))
 |cons e es=>
  unfold bi at q;cases st:cX e with
  |true=>rw [st]at q;cases q
  |false=>
   rw [cU st]at h⊢;exact Calls.evalArgs_plain h
theorem w4 {α:Type}{M:Model}{A:Around}{Q:α→Shared→Prop}{E:Value→Shared→Prop}{s:Shared}{c:Prop} [Decidable c] {x y:Sem α}(hc:c)(h:wpAny M A x Q E s):wpAny M A (if c then x else y) Q E s:=(if_pos (t:=x) (e:=y) hc).symm▸h
theorem w5 {α:Type}{M:Model}{A:Around}{Q:α→Shared→Prop}{E:Value→Shared→Prop}{s:Shared}{c:Prop} [Decidable c] {x y:Sem α}(hc:¬c)(h:wpAny M A y Q E s):wpAny M A (if c then x else y) Q E s:=(if_neg (t:=x) (e:=y) hc).symm▸h
theorem Fb {α:Type}{M:Model}{A:Around}{Q:α→Shared→Prop}{E:Value→Shared→Prop}{s:Shared}{c:Prop} [Decidable c] {x y:Sem α}(hx:wpAny M A x Q E s)(hy:wpAny M A y Q E s):wpAny M A (if c then x else y) Q E s:=if h:c then w4 h hx else w5 h hy
theorem fR {M:Model}{a:Addr}{pos:Pos}{args:List PySem.Expr}{ds:List D}{first:List Value}{Q:Value→Shared→Prop}(q:bi (R.ev sc ρ) args=some ds)
  (h:wpAny M A (spliced (backTo pos (starEach args env))) (fun vs s₁=>(∃o fd,s₁.heap.get? a=some o∧o.data=.func fd)∧wpAny M A (call (.ref a) (first++vs)) Q E s₁) E s):
  wpAny M A (callWith pos (.ref a) first (backTo pos (starEach args env)) []) Q E s:=by
 unfold callWith;refine wpAny_bind (wpAny_holding (fP q (wpAny_mono h (fun vs s₁ h1=>wpAny_bind (wpAny_standAt ?_)) fun Z Z z=>z)))
 refine xa h1 fun z1 h2=>?_;obtain⟨o,fd,ho,hd⟩:=z1
 rw [fB args ds pos q];refine wpAny_bind ?_;unfold keeperOf;refine wpAny_bind (wpAny_load ho ?_);rw [hd];refine wpAny_pure ?_;have tail:∀{t:Sem Value},wpAny M A t Q E s₁→wpAny M A (t>>=fun r=>holding [r] point>>=fun Z=>pure r) Q E s₁:=
  fun ht=>wpAny_bind (wpAny_mono ht (fun r s2 hr=>wpAny_bind (wpAny_holding (wpAny_point (wpAny_pure hr)))) fun Z Z x=>x)
 refine Fb ?_ ?_
 ·exact tail h2
 ·exact tail (by unfold callMarked;exact Calls.wpAny_keep h2)
theorem bD {M:Model}{f:Value}{pos:Pos}{args:List PySem.Expr}{ds:List D}{first:List Value}{Q:Value→Shared→Prop}(hf:∀a,f≠ .ref a)(q:bi (R.ev sc ρ) args=some ds)
  (h:wpAny M A (spliced (backTo pos (starEach args env))) (fun vs s₁=>wpAny M A (call f (first++vs)) Q E s₁) E s):
  wpAny M A (callWith pos f first (backTo pos (starEach args env)) []) Q E s:=by
 unfold callWith;refine wpAny_bind (wpAny_holding (fP q (wpAny_mono h (fun vs s₁ h1=>wpAny_bind (wpAny_standAt ?_)) fun Z Z z=>z)))
 rw [fB args ds pos q];have hk:keeperOf f=pure .machine:=by cases f<;>first |rfl |exact absurd rfl (hf _)
 rw [hk];refine wpAny_bind (wpAny_pure ?_);exact wpAny_bind (wpAny_mono h1 (fun r s2 hr=>wpAny_bind (wpAny_holding (wpAny_point (wpAny_pure hr)))) fun Z Z x=>x)
theorem di {M:Model}{x:Str}{pos:Pos}{v:Value}{Q:Value→Shared→Prop}(hx:Cx K mg mb s)(hs:aD sc env)(g:aY sc x=true)(e:mg x=some v)(h:Q v s):wpAny M A (eval (.Name x pos) env) Q E s:=
 Calls.Name_function_global hs.kind (hs.glo x (eE g).2) (Calls.loadGlobal_global (by rw [hs.gl];exact hx.g) e h) (cI (eE g).1)
theorem cE {M:Model}{x:Str}{pos:Pos}{v:Value}{Q:Value→Shared→Prop}(hx:Cx K mg mb s)(hs:aD sc env)(g:aY sc x=true)(e:mg x=none∧mb x=some v)(h:Q v s):wpAny M A (eval (.Name x pos) env) Q E s:=
 Calls.Name_function_global hs.kind (hs.glo x (eE g).2) (Calls.loadGlobal_builtin (by rw [hs.gl];exact hx.g) e.1 (by rw [hs.bl];exact hx.b) e.2 h) (cI (eE g).1)
theorem En {Φ:cS}(hΦ:fi prog w K mg mb k Φ)(H:aw prog w K mg mb k R)(rm:am k A)(hs:aD sc env)(hx:Cx K mg mb s)(S:aP w.params G s.heap env ρ){f:Str}{p pos:Pos}{args:List PySem.Expr}{ds:List D}{d:D}
  (g:aY sc f=true)(q:bi (R.ev sc ρ) args=some ds)(e:Φ f ds=some d):wpAny (model prog w) A (eval (.Call (.Name f p) args [] pos) env) (aQ w.params s G d) E s:=by
 refine aR (hΦ f ds d e) fun a hm hf ok=>?_;refine wpAny_Call_Name_kw (di hx hs g hm ?_);show wpAny _ A (callWith pos (.ref a) [] (backTo pos (starEach args env)) []) _ E s
 refine fR q (dH H rm hs pos args ds s G q hx S fun vs s' G' g r=>⟨hf s' (hx.grew g),?_⟩)
 exact dW g (ok A s' G' vs E rm (hx.grew g) g.inn r)
end
open SeqAt AutoSeq1 MeetsSeq MeetsSeq2 MeetsSeq3 SeqRoads2
set_option maxRecDepth 100000
theorem kt:∀(x y:List Nat),dO x y=decide (x<y)
 | [],[]=>by simp [dO]
 | [],b::t=>by simp [dO]
 |a::r,[]=>by simp [dO]
 |a::r,b::t=>by
  unfold dO;rw [kt r t];cases h:Nat.blt a b with
  |true=>
   have:a<b:=by simpa using (show Nat.blt a b=true from h)
   simp [List.cons_lt_cons_iff,this]
  |false=>
   have n:¬a<b:=by
    intro q;have:Nat.blt a b=true:=by simpa using q
    rw [h]at this;exact(aj this).elim
   cases h2:Nat.beq a b with
   |true=>
    have:a=b:=Nat.eq_of_beq_eq_true h2;subst this;simp [List.cons_lt_cons_iff]
   |false=>
    have n2:a≠b:=Nat.ne_of_beq_eq_false h2;simp [List.cons_lt_cons_iff,n,n2]
theorem CY (l b:Addr)(n n2:Nat)(items items2:Array Value)(i j:Int)(t1 t2 t3 t4:Tok)(x y:List Nat)(p0:items[((0:Int)).toNat]? =some (.int i t1))(p1:items[((1:Int)).toNat]? =some (.str (mk x) t2))(p2:items[((2:Int)).toNat]? =none)
  (q0:items2[((0:Int)).toNat]? =some (.int j t3))(q1:items2[((1:Int)).toNat]? =some (.str (mk y) t4))(hz:items.size=items2.size):
  Meets (Builtin.«list.__eq__.loop» ⟨[.ref l,.ref b,rawInt 0,rawInt 0],[]⟩)
   (fun Z R s=>s.heap.get? l=some {cls:=.type "list",dict:=none,data:=.seq items n,slots:= #[]}∧s.heap.get? b=some {cls:=.type "list",dict:=none,data:=.seq items2 n2,slots:= #[]}∧
    R (.ok (.ret (.bool (if i=j then dO x y else decide (i<j))))) s):=by
 have two:Meets (Builtin.«list.__eq__.loop» ⟨[.ref l,.ref b,rawInt 2,rawInt 0],[]⟩)
   (fun Z R s=>s.heap.get? l=some {cls:=.type "list",dict:=none,data:=.seq items n,slots:= #[]}∧s.heap.get? b=some {cls:=.type "list",dict:=none,data:=.seq items2 n2,slots:= #[]}∧R (.ok (.ret (.bool false))) s):=by
  intro prog w A R s h;obtain⟨hp,g,d,tk,os⟩:=s;refine b9 h fun hl hb h=>?_
  wp_walk using wpAny_loadPart' hl,wpAny_loadPart' hb
  rw [p2]
  wp_walk using wpAny_loadPart' hl,wpAny_loadPart' hb
  show R (.ok (.ret (.bool (decide (items.size<items2.size))))) _
  rw [hz]
  simpa using h
 have one:Meets (Builtin.«list.__eq__.loop» ⟨[.ref l,.ref b,rawInt 1,rawInt 0],[]⟩)
   (fun Z R s=>s.heap.get? l=some {cls:=.type "list",dict:=none,data:=.seq items n,slots:= #[]}∧s.heap.get? b=some {cls:=.type "list",dict:=none,data:=.seq items2 n2,slots:= #[]}∧R (.ok (.ret (.bool (dO x y)))) s):=by
  intro prog w A R s h;obtain⟨hp,g,d,tk,os⟩:=s;refine b9 h fun hl hb h=>?_
  wp_walk using wpAny_loadPart' hl,wpAny_loadPart' hb
  rw [p1,q1];refine wpAny_bind (EqAt.str_str (mk x) t2 (mk y) t4 prog w _ _ ?_);cases hq:(mk x==mk y)with
  |true=>
   wp_walk
   refine⟨plainId_quiet plain_eq_loop _,codeAny_builtin entry_eq_loop (by
    rw [Around.under_plainId plain_eq_loop _];refine two prog w A R _ ⟨hl,hb,?_⟩;have:x=y:=iC (beq_iff_eq.mp hq);subst this;have z:dO x x=false:=by rw [kt];exact decide_eq_false (List.lt_irrefl x)
    rw [z]at h;exact h)⟩
  |false=>
   wp_walk using wpAny_loadPart' hl,wpAny_loadPart' hb
   rw [p1,q1];show wpAny _ _ (compareOp .Lt (.str (mk x) t2) (.str (mk y) t4)>>=_) _ _ _
   refine wpAny_bind (P.lt_str ?_);have:decide ((mk x).cps.toList<(mk y).cps.toList)=dO x y:=by rw [kt]
   rw [this]
   wp_walk
   exact h
 intro prog w A R s h;obtain⟨hp,g,d,tk,os⟩:=s;refine b9 h fun hl hb h=>?_
 wp_walk using wpAny_loadPart' hl,wpAny_loadPart' hb
 rw [p0,q0];refine wpAny_bind (EqAt.int_int i t1 j t3 prog w _ _ ?_);cases hq:(i==j)with
 |true=>
  wp_walk
  have e:i=j:=by simpa using hq
  rw [if_pos e]at h
  exact⟨plainId_quiet plain_eq_loop _,codeAny_builtin entry_eq_loop (by
   rw [Around.under_plainId plain_eq_loop _]
   exact one prog w A R _ ⟨hl,hb,h⟩)⟩
 |false=>
  have e:¬i=j:=by simpa using hq
  rw [if_neg e]at h
  wp_walk using wpAny_loadPart' hl,wpAny_loadPart' hb
  rw [p0,q0];show wpAny _ _ (compareOp .Lt (.int i t1) (.int j t3)>>=_) _ _ _
  refine wpAny_bind (P.lt_int ?_)
  wp_walk
  exact h
theorem yu (l b:Addr)(n n2:Nat)(i j:Int)(t1 t2 t3 t4:Tok)(x y:List Nat):
  Meets (Builtin.«list.__lt__» ⟨[.ref l,.ref b],[]⟩)
   (fun Z R s=>s.heap.get? l=some (aB [.int i t1,.str (mk x) t2] n)∧s.heap.get? b=some (aB [.int j t3,.str (mk y) t4] n2)∧
    R (.ok (.ret (.bool (if i=j then dO x y else decide (i<j))))) s):=by
 intro prog w A R s h;obtain⟨hp,g,d,tk,os⟩:=s;refine b9 h fun hl hb h=>?_;have f3:=AutoSeq1.sub_list_list
 wp_walk using wpAny_loadPart' hl,wpAny_loadPart' hb
 exact⟨plainId_quiet plain_eq_loop _,codeAny_builtin entry_eq_loop (by
  rw [Around.under_plainId plain_eq_loop _]
  exact CY l b n n2 #[.int i t1,.str (mk x) t2] #[.int j t3,.str (mk y) t4] i j t1 t2 t3 t4 x y rfl rfl rfl rfl rfl rfl prog w A R _ ⟨hl,hb,h⟩)⟩
section
variable {prog:Program}{w:World}{A:Around}{s:Shared}{G:Kn}
theorem tg {β:Type}{o:Option (Int×List Nat)}{X:Int×List Nat→Option β}{d:β}(e:(match o with |some x=>X x |none=>none)=some d):∃x,o=some x∧X x=some d:=by
 cases o with
 |none=>exact(aa e).elim
 |some x=>exact⟨x,rfl,e⟩
set_option tactic.hygienic true in
theorem yg {d:D}{p:Int×List Nat}(e:lI d=some p):d=.list [.int p.1,.str p.2]:=by
 cases d<;>first |exact(aa e).elim |skip
 rename_i l;rcases l with _ |⟨a,_ |⟨b,_ |⟨_,_⟩⟩⟩
 ·exact(aa e).elim
 ·cases a<;>exact(aa e).elim
 ·cases a<;>first |exact(aa e).elim |skip
  cases b<;>first |exact(aa e).elim |skip
  obtain rfl:=Option.some.inj e;rfl
 ·cases a<;>first |exact(aa e).elim |skip
  cases b<;>exact(aa e).elim
theorem tC {P:Params}{v:Value}{d:D}{i:Int}{x:List Nat}(r:Rd P G v d)(e:lI d=some (i,x)):∃a n t u,v=.ref a∧G a=some (aB [.int i t,.str (mk x) u] n):=by
 obtain rfl:=yg e;obtain⟨a,n,vs,rfl,q,r⟩:=r.list_i;obtain⟨_,_,rfl,r1,r2⟩:=r.cons_i;obtain⟨_,_,rfl,r3,r4⟩:=r2.cons_i;obtain rfl:=r4.nil_i;obtain⟨t,rfl⟩:=r1.int_i;obtain⟨u,rfl⟩:=r3.str_i;exact⟨a,n,t,u,rfl,q⟩
theorem AJ {u v:Value}{a b:D}{c:Bool}{E:Value→Shared→Prop}{Q:Value→Shared→Prop}(I:G.In s.heap)(ra:Rd w.params G u a)(rb:Rd w.params G v b)(e:xi a b=some c)(hu:A.units<cLine)
  (h:Q (.bool c) s):wpAny (model prog w) A (richCompare .Lt u v) Q E s:=by
 cases a<;>first |exact(aa e).elim |skip
 ·refine ah (b8 e) fun j z6 e=>?_;subst z6
  refine xe ra.int_i fun Z z7=>?_;subst z7
  refine xe rb.int_i fun Z z8=>?_;subst z8
  obtain rfl:=Option.some.inj e;exact P.lt_int h
 ·refine ah (tg e) fun z9 p e=>?_;obtain⟨i,x⟩:=z9
  refine ah (tg e) fun z10 q e=>?_;obtain⟨j,y⟩:=z10
  obtain rfl:=Option.some.inj e;refine lM (tC ra p) fun Z n1 t1 t2 z11 qa=>?_;subst z11
  refine lM (tC rb q) fun Z n2 t3 t4 z12 qb=>?_;subst z12
  refine richCompare_meets_room (T:= "list") (op:=.Lt) ⟨_,I _ _ qa,rfl⟩ ⟨_,I _ _ qb,rfl⟩ F.slot_list_lt F.entry_list_lt (F.args_list_lt_2 _ _) (yu _ _ n1 n2 i j t1 t2 t3 t4 x y) ?_ hu;exact⟨I _ _ qa,I _ _ qb,⟨nofun,h⟩⟩
end
section
variable {prog:Program}{w:World}{A:Around}{I l:Addr}{vs:List Value}{ds:List D}{St:Nat→Heap→Prop}
theorem tO (W:Walks prog w A.in1 I [I,l] [I] vs.length (fun i v=>vs[i]? =some v) St)(hu:A.in1.units<cLine)(S:Addr)(hSI:S≠I)(hSl:S≠l)(G:Kn)(hGI:G I=none)(hGS:G S=none)
  (r:ai w.params G vs ds){m:D}{R:Result→Shared→Prop}:∀(k j:Nat)(b:D)(s:Shared)(vb:Value) (c:Nat),vs.length - j=k→j≤vs.length→St j s.heap→G.In s.heap→Rd w.params G vb b→dD b (ds.drop j)=some m→
  s.heap.get? S=some {cls:=.type "list",dict:=none,data:=.seq #[vb,vb] c,slots:= #[]}→
  (∀v h' tk,Rd w.params G v m→(∀b o,b≠I→b≠S→s.heap.get? b=some o→h'.get? b=some o)→R (.ok (.ret v)) {s with heap:=h',toks:=tk})→
  codeAny (model prog w) A (.builtin "min.loop" ⟨[.ref I,.none,.ref S],[]⟩) R s:=by
 have hSf:S∉ [I,l]:=by simp [hSI,hSl]
 have hSw:S∉ [I]:=by simp [hSI]
 have hname:(toString "min" ++toString ".loop" :String)= "min.loop" :=by decide
 have hlen:=r.length;have kIn:∀{h h':Heap},G.In h→(∀b o,b∉ [I]→h.get? b=some o→h'.get? b=some o)→G.In h':=fun i k a o e=>k a o (by simp only [List.mem_cons,List.not_mem_nil,or_false];rintro rfl;exact(aa (hGI.symm.trans e)).elim) (i a o e)
 intro k
 induction k with
 |zero=>
  intro j b s vb c hk hj hst hG hb hm hS hR;have hin:j=vs.length:=by lia
  have:ds.drop j=[]:=List.drop_eq_nil_iff.mpr (by lia)
  rw [this]at hm;obtain rfl:=Option.some.inj hm;refine codeAny_builtin F.entry_min_loop ?_;rw [Around.under_plainId F.plain_min_loop _];show wpAny _ A.in1 (seqItems? (.ref S)>>=_) _ _ s
  refine wpAny_bind (wpAny_seqItems hS rfl ?_);show wpAny _ A.in1 (tryCatch (pyNext (.ref I)) _>>=_) _ _ s
  refine wpAny_bind (wpAny_tryCatch (W.done s _ _ (hin▸hst) fun h' tk hk'=>?_))
  have hS':=hk' S _ hSw hS;show wpAny _ A.in1 (updateSeq S (fun Z=> #[])>>=_) _ _ _
  refine wpAny_bind ?_;refine wpAny_updateSeq hS' rfl (wpAny_bind (wpAny_letGo (wpAny_pure ?_)));exact hR vb _ tk hb fun b o hbI hbS e=>(Heap.get?_update_other _ _ (Ne.symm hbS)).trans (hk' b o (by simp [hbI]) e)
 |succ k ih=>
  intro j b s vb c hk hj hst hG hb hm hS hR;have hlt:j<vs.length:=by lia
  have hd:ds.drop j=ds[j]'(by lia)::ds.drop (j+1):=List.drop_eq_getElem_cons (by lia)
  rw [hd]at hm;unfold dD at hm;refine codeAny_builtin F.entry_min_loop ?_;rw [Around.under_plainId F.plain_min_loop _];show wpAny _ A.in1 (seqItems? (.ref S)>>=_) _ _ s
  refine wpAny_bind (wpAny_seqItems hS rfl ?_);show wpAny _ A.in1 (tryCatch (pyNext (.ref I)) _>>=_) _ _ s
  refine wpAny_bind (wpAny_tryCatch (W.item j s _ _ hlt hst fun v h' tk hP hst' hk'=>?_))
  have hS':=hk' S _ hSw hS;have hG':G.In h':=kIn hG hk';refine ah (r.get (show ds[j]? =some (ds[j]'(by lia))from List.getElem?_eq_getElem _)) fun v' hv' rd=>?_
  have:v'=v:=by rw [hP]at hv';exact(Option.some.inj hv').symm
  subst this;cases hlt':xi (ds[j]'(by lia)) b with
  |none=>rw [hlt']at hm;cases hm
  |some t=>
   rw [hlt']at hm;show wpAny _ A.in1 (tryCatch (holding [v',v'] (richCompare .Lt v' vb>>=_)) _>>=_) _ _ _
   refine wpAny_bind (wpAny_tryCatch (wpAny_holding (wpAny_bind (AJ (s:={s with heap:=h',toks:=tk}) hG' rd hb hlt' hu ?_))))
   refine wpAny_bind (wpAny_holding (wpAny_truthy_bool ?_));refine wpAny_bind (wpAny_letGo (wpAny_pure ?_));cases t with
   |true=>
    dsimp only at hm;simp only [if_true];refine wpAny_bind ?_;refine wpAny_updateSeq hS' rfl (wpAny_bind (wpAny_letGo ?_));rw [hname];refine wpAny_pure ⟨plainId_quiet F.plain_min_loop _,ih (j+1) _ _ v' _ (by lia) hlt (W.frame _ _ _ hst' fun b hbf o e=>?_) ?_ rd hm (Heap.get?_update_self _ hS' rfl) fun v'' h'' tk'' hP' hk''=>?_⟩
    ·exact(Heap.get?_update_other _ _ (fun h:S=b=>hSf (by rw [h];exact hbf))).trans e
    ·exact fun a o e=>(Heap.get?_update_other _ _ (fun h:S=a=>by rw [←h,hGS]at e;exact(aa e).elim)).trans (hG' a o e)
    ·exact hR v'' h'' tk'' hP' fun b o hbw hbS e=>hk'' b o hbw hbS ((Heap.get?_update_other _ _ (Ne.symm hbS)).trans (hk' b o (by simp [hbw]) e))
   |false=>
    dsimp only at hm;simp only [Bool.false_eq_true,if_false];refine wpAny_bind (wpAny_letGo ?_);rw [hname];refine wpAny_pure ⟨plainId_quiet F.plain_min_loop _,ih (j+1) _ _ vb c (by lia) hlt hst' hG' hb hm hS' fun v'' h'' tk'' hP' hk''=>?_⟩
    exact hR v'' h'' tk'' hP' fun b o hbw hbS e=>hk'' b o hbw hbS (hk' b o (by simp [hbw]) e)
set_option tactic.hygienic true in
theorem tP {E:Value→Shared→Prop}{s:Shared}{G:Kn}{n:Nat}{d m:D}(hh:A.handled=none)(hu:A.in1.units<cLine)(I:G.In s.heap)(q:G l=some (aB vs n))(r:ai w.params G vs (d::ds))(e:dD d ds=some m):
  wpAny (model prog w) A (call (.builtin "min") [.ref l]) (aQ w.params s G m) E s:=by
 have hname:(toString "min" ++toString ".loop" :String)= "min.loop" :=by decide
 have hh1:A.in1.handled=none:=hh;have hql:l<s.heap.objs.size:=Heap.lt_size (I _ _ q);refine aK (call_function_tree F.kind_min F.plain_min F.entry_min (F.args_min1 _) ?_);show wpAny _ A.in1 (Builtin.Builtins.bindParams "min" ["key", "default"] 0 ⟨[],[]⟩>>=_) _ _ s
 refine wpAny_bind (wpAny_of_eq (show Builtin.Builtins.bindParams "min" ["key", "default"] 0 ⟨[],[]⟩=pure [none,none]from rfl) ?_)
 refine wpAny_bind (wpAny_pure ?_);refine wpAny_bind (wpAny_pyIter_list (cY I q) ?_);have W:=Walks.list (prog:=prog) (w:=w) hh1 s.heap.objs.size l (Nat.ne_of_lt hql) vs.toArray;have W':Walks prog w A.in1 s.heap.objs.size [s.heap.objs.size,l] [s.heap.objs.size] vs.length (fun i v=>vs[i]? =some v) (fun i h=>h.IsListIter s.heap.objs.size l i∧h.IsList l vs.toArray):=by simpa using W
 refine wpAny_bind (wpAny_newObj_type ?_);rw [hname];refine wpAny_pure ⟨plainId_quiet F.plain_min_loop _,?_⟩;simp only [Heap.size_push];have hlen:=r.length;have hS:∀{o:Obj} {h:Heap},((h.push o).push {cls:=.type "list",data:=.seq #[]}).get? (h.objs.size+1)=some {cls:=.type "list",dict:=none,data:=.seq #[] 0,slots:= #[]}:=by
  intro o h;have:=Heap.get?_push_size (h:=h.push o) (o:={cls:=.type "list",data:=.seq #[]}) rfl
  rwa [Heap.size_push]at this
 refine codeAny_builtin F.entry_min_loop ?_;rw [Around.under_plainId F.plain_min_loop _];show wpAny _ A.in1 (seqItems? (.ref (s.heap.objs.size+1))>>=_) _ _ _
 refine wpAny_bind (wpAny_seqItems hS rfl ?_);show wpAny _ A.in1 (tryCatch (pyNext (.ref s.heap.objs.size)) _>>=_) _ _ _
 refine wpAny_bind (wpAny_tryCatch (W'.item 0 _ _ _ (by rw [hlen];simp) ⟨⟨_,Heap.get?_push_of_some _ (Heap.get?_push_size _ rfl),rfl,rfl⟩,⟨_,Heap.get?_push_of_some _ (Heap.get?_push_of_some _ (I _ _ q)),rfl,n,rfl⟩⟩ fun v h' tk hP hst' hk'=>?_))
 have hS':=hk' (s.heap.objs.size+1) _ (by simp) hS
 show wpAny _ A.in1 (updateSeq (s.heap.objs.size+1) (fun Z=> #[v,v])>>=_) _ _ _
 refine wpAny_bind ?_;refine wpAny_updateSeq hS' rfl ?_;rw [hname];have hGS:G (s.heap.objs.size+1)=none:=Kn.none_ge I (by lia)
 have hGI:G s.heap.objs.size=none:=Kn.none_ge I (Nat.le_refl _);have dM:∀b o,s.heap.get? b=some o→h'.get? b=some o:=fun b o e=>hk' b o (by simp only [List.mem_cons,List.not_mem_nil,or_false];exact Nat.ne_of_lt (Heap.lt_size e)) (Heap.get?_push_of_some _ (Heap.get?_push_of_some _ e))
 have hG':G.In h':=fun a o e=>dM a o (I a o e)
 cases r with
 |cons r1 r2=>
  rename_i v1 vs;have:v=v1:=by simpa using hP.symm
  subst this;refine wpAny_pure ⟨plainId_quiet F.plain_min_loop _,tO W' hu (s.heap.objs.size+1) (Nat.succ_ne_self _) (Nat.ne_of_gt (Nat.lt_succ_of_lt hql)) G hGI hGS (.cons r1 r2) _ 1 d _ v _ rfl (by simp) (W'.frame _ _ _ hst' fun b hbf o e=>?_) ?_ r1 e (Heap.get?_update_self _ hS' rfl) fun v' h'' tk'' hv hk hsz=>?_⟩
  ·exact(Heap.get?_update_other _ _ (fun h:s.heap.objs.size+1=b=>by simp only [List.mem_cons,List.not_mem_nil,or_false]at hbf;rcases hbf with z |z;(· exact Nat.succ_ne_self _ (h.trans z));(· exact absurd (h.trans z) (Nat.ne_of_gt (Nat.lt_succ_of_lt hql))))).trans e
  ·exact fun a o e=>(Heap.get?_update_other _ _ (fun h:s.heap.objs.size+1=a=>by rw [←h,hGS]at e;exact(aa e).elim)).trans (hG' a o e)
  ·exact⟨G,ae.same_known I hsz.1 (fun b o e=>hk b o (Nat.ne_of_lt (Heap.lt_size e)) (Nat.ne_of_lt (Nat.lt_succ_of_lt (Heap.lt_size e))) ((Heap.get?_update_other _ _ (Nat.ne_of_gt (Nat.lt_succ_of_lt (Heap.lt_size e)))).trans (dM b o e))) hsz.2,hv⟩
end
theorem aQ.of_kept {P:Params}{s:Shared}{G:Kn}{h':Heap}{tk:Nat}{v:Value}{d:D}(I:G.In s.heap)(hk:∀b o,s.heap.get? b=some o→h'.get? b=some o)(hz:s.heap.objs.size≤h'.objs.size∧s.toks≤tk)(r:Rd P G v d):
  aQ P s G d v {s with heap:=h',toks:=tk}:=⟨G,ae.same_known I hz.1 hk hz.2,r⟩
noncomputable def nt:D→Int
 | .int k=>k
 |_=>0
noncomputable def iT (ds:List D) (i:Nat):Int:=match ds[i]? with |some d=>nt d |none=>0
set_option tactic.hygienic true in
theorem pK:∀(ds:List D)(a m:Int),fA a ds=some m→m=a+preSum (iT ds) ds.length∧∀d∈ds,∃k,d=.int k:=by
 have key:∀(ds:List D) (a m:Int),fA a ds=some m→(∀d∈ds,∃k,d=.int k)∧m=a+(ds.map nt).sum:=by
  intro ds
  induction ds with
  |nil=>intro a m h;obtain rfl:=Option.some.inj h;exact⟨fun d h=>(nomatch h),by simp⟩
  |cons d ds ih=>
   intro a m h;cases d<;>simp only [fA,reduceCtorEq]at h
   rename_i i
   split at h
   ·refine xa (ih _ _ h) fun p q=>?_;refine⟨fun d hd=>?_,?_⟩
    ·rcases List.mem_cons.mp hd with rfl |hd
     ·exact⟨i,rfl⟩
     ·exact p d hd
    ·rw [q];simp [nt];lia
   ·exact(aa h).elim
 intro ds a m h;refine xa (key ds a m h) fun p q=>?_;refine⟨?_,p⟩;rw [q]
 congr 1
 have:∀k,k≤ds.length→preSum (iT ds) k=((ds.take k).map nt).sum:=by
  intro k
  induction k with
  |zero=>intro _;simp [preSum]
  |succ k ih=>
   intro hk;have hk':k<ds.length:=hk;rw [preSum,ih (by lia),List.take_add_one]
   have e:ds[k]? =some ds[k]:=by simp [hk']
   rw [e];simp only [iT,e,Option.toList_some,List.map_append,List.map_cons,List.map_nil,List.sum_append,List.sum_cons,List.sum_nil,Int.add_zero]
 rw [this _ (Nat.le_refl _)];simp
section
variable {prog:Program}{w:World}{A:Around}{E:Value→Shared→Prop}{s:Shared}{G:Kn}
theorem sZ {l:Addr}{vs:List Value}{n:Nat}{ds:List D}{m:Int}(hh:A.handled=none)(I:G.In s.heap)(q:G l=some (aB vs n))(r:ai w.params G vs ds)(e:fA 0 ds=some m):
  wpAny (model prog w) A (call (.builtin "sum") [.ref l]) (aQ w.params s G (.int m)) E s:=by
 have hql:l<s.heap.objs.size:=Heap.lt_size (I _ _ q);have hh1:A.in1.handled=none:=hh;refine aK (call_sum_walkG (wpAny_pyIter_list (cY I q) ?_));refine⟨_,_,_,_,_,_,iT ds,rfl,Walks.list (prog:=prog) (w:=w) hh1 s.heap.objs.size l (Nat.ne_of_lt hql) vs.toArray,⟨⟨_,Heap.get?_push_size _ rfl,rfl,rfl⟩,⟨_,Heap.get?_push_of_some _ (I _ _ q),rfl,n,rfl⟩⟩,fun b hb=>?_,fun i v hv=>?_,fun h' tk t' hk hz=>?_⟩
 ·show b<(s.heap.push _).objs.size
  rw [Heap.size_push];simp only [List.mem_cons,List.not_mem_nil,or_false]at hb;rcases hb with rfl |rfl
  ·exact Nat.lt_succ_self _
  ·exact Nat.lt_succ_of_lt hql
 ·have hv2:vs[i]? =some v:=by simpa using hv
  have hl:=r.length;have hi:i<ds.length:=by
   have:=(List.getElem?_eq_some_iff.mp hv2).1;lia
  have hd:ds[i]? =some ds[i]:=by simp [hi]
  refine ah (r.get hd) fun v' hv' rd=>?_;have:v'=v:=by rw [hv2]at hv';exact(Option.some.inj hv').symm
  subst this;refine xe ((pK ds 0 m e).2 _ (List.getElem_mem hi)) fun k hk=>?_;have hn:iT ds i=k:=by unfold iT;rw [hd,hk];rfl
  rw [hn];rw [hk]at rd;cases rd with
  |int _ t=>exact⟨t,rfl⟩
 ·have:=(pK ds 0 m e).1;have hsz:vs.toArray.size=ds.length:=by simp [r.length]
  rw [hsz,show preSum (iT ds) ds.length=m by lia]
  refine aQ.of_kept I (fun b o e=>hk b o ?_ (Heap.get?_push_of_some _ e)) hz (.int m t')
  simp only [List.mem_cons,List.not_mem_nil,or_false];exact Nat.ne_of_lt (Heap.lt_size e)
theorem kT {P:Params}{vs:List Value}{a:D}(r:ai P G vs [a]):∃v,vs=[v]∧Rd P G v a:=by
 cases r with
 |cons h t=>cases t;exact⟨_,rfl,h⟩
theorem nR {P:Params}{vs:List Value}{a b:D}(r:ai P G vs [a,b]):∃v u,vs=[v,u]∧Rd P G v a∧Rd P G u b:=by
 cases r with
 |cons h t=>
  refine ah (kT t) fun u z1 h2=>?_;subst z1
  exact⟨_,_,rfl,h,h2⟩
noncomputable def wy:mW→Value
 | .len=>.builtin "len"
 | .min=>.builtin "min"
 | .max=>.builtin "max"
 | .sum=>.builtin "sum"
 | .type=>.type "type"
theorem y0 {ds:List D}{d:D}(e:ij .len ds=some d):∃a,ds=[a]∧ig a=some d:=by
 rcases ds with _ |⟨a,_ |⟨_,_⟩⟩
 ·exact(aa e).elim
 ·exact⟨_,rfl,e⟩
 ·exact(aa e).elim
theorem yX {ds:List D}{d:D}(e:ij .sum ds=some d):∃l,ds=[.list l]∧(if l.length≤100000 then(fA 0 l).map .int else none)=some d:=by
 rcases ds with _ |⟨a,_ |⟨_,_⟩⟩
 ·exact(aa e).elim
 ·cases a<;>first |exact(aa e).elim |exact⟨_,rfl,e⟩
 ·cases a<;>exact(aa e).elim
theorem wx {ds:List D}{d:D}(e:ij .type ds=some d):∃i,ds=[.int i]∧ .typ "int" =d:=by
 rcases ds with _ |⟨a,_ |⟨_,_⟩⟩
 ·exact(aa e).elim
 ·cases a<;>first |exact(aa e).elim |exact⟨_,rfl,Option.some.inj e⟩
 ·cases a<;>exact(aa e).elim
theorem yZ {ds:List D}{d:D}(e:ij .max ds=some d):∃i j,ds=[.int i,.int j]∧ .int (if j >i then j else i)=d:=by
 rcases ds with _ |⟨a,_ |⟨b,_ |⟨_,_⟩⟩⟩
 ·exact(aa e).elim
 ·cases a<;>exact(aa e).elim
 ·cases a<;>first |exact(aa e).elim |skip
  cases b<;>first |exact(aa e).elim |exact⟨_,_,rfl,Option.some.inj e⟩
 ·cases a<;>first |exact(aa e).elim |skip
  cases b<;>exact(aa e).elim
set_option tactic.hygienic true in
theorem yY {ds:List D}{d:D}(e:ij .min ds=some d):(∃a l,ds=[.list (a::l)]∧(if(a::l).length≤100000 then dD a l else none)=some d)∨∃i j,ds=[.int i,.int j]∧ .int (if j<i then j else i)=d:=by
 rcases ds with _ |⟨a,_ |⟨b,_ |⟨_,_⟩⟩⟩
 ·exact(aa e).elim
 ·cases a<;>first |exact(aa e).elim |skip
  rename_i l;cases l with
  |nil=>exact(aa e).elim
  |cons=>exact .inl ⟨_,_,rfl,e⟩
 ·cases a<;>first |exact(aa e).elim |skip
  cases b<;>first |exact(aa e).elim |exact .inr ⟨_,_,rfl,Option.some.inj e⟩
 ·cases a<;>first |exact(aa e).elim |skip
  cases b<;>exact(aa e).elim
theorem AM {b:mW}{vs:List Value}{ds:List D}{d:D}(hh:A.handled=none)(hu:A.units+2<cLine)(I:G.In s.heap)(r:ai w.params G vs ds)(e:ij b ds=some d):
  wpAny (model prog w) A (call (wy b) vs) (aQ w.params s G d) E s:=by
 have hu1:A.in1.units<cLine:=by show A.units+1<cLine;lia
 cases b with
 |len=>
  obtain⟨a,rfl,e⟩:=y0 e;obtain⟨v,rfl,rd⟩:=kT r;exact AK I rd e
 |min=>
  rcases yY e with⟨a,l,rfl,e⟩ |⟨i,j,rfl,rfl⟩
  ·obtain⟨v,rfl,rd⟩:=kT r;obtain⟨h,e⟩:=nu e;obtain⟨_,_,_,rfl,q,r⟩:=rd.list_i;exact tP hh hu1 I q r e
  ·obtain⟨v,u,rfl,r1,r2⟩:=nR r;obtain⟨_,rfl⟩:=r1.int_i;obtain⟨_,rfl⟩:=r2.int_i;refine aK (min_two_ints hh fun h' tk hk hz=>?_)
   by_cases c:j<i
   ·simp only [if_pos c];exact aQ.of_kept I hk hz (.int _ _)
   ·simp only [if_neg c];exact aQ.of_kept I hk hz (.int _ _)
 |max=>
  obtain⟨i,j,rfl,rfl⟩:=yZ e;obtain⟨v,u,rfl,r1,r2⟩:=nR r;obtain⟨_,rfl⟩:=r1.int_i;obtain⟨_,rfl⟩:=r2.int_i;refine aK (max_two_ints hh fun h' tk hk hz=>?_)
  by_cases c:j >i
  ·simp only [if_pos c];exact aQ.of_kept I hk hz (.int _ _)
  ·simp only [if_neg c];exact aQ.of_kept I hk hz (.int _ _)
 |sum=>
  obtain⟨l,rfl,e⟩:=yX e;obtain⟨v,rfl,rd⟩:=kT r;obtain⟨h,e⟩:=nu e;obtain⟨m,q,rfl⟩:=Option.map_eq_some_iff.mp e;obtain⟨_,_,_,rfl,q',r⟩:=rd.list_i;exact sZ hh I q' r q
 |type=>
  obtain⟨i,rfl,rfl⟩:=wx e;obtain⟨v,rfl,rd⟩:=kT r;obtain⟨_,rfl⟩:=rd.int_i;exact call_type_of (typeIs_int _ _ _) (by decide) (a6 I (.typ "int"))
end
section
variable {prog:Program}{w:World}{K:Frag}{mg mb:Str→Option Value}{k:Nat}{R:bm}{A:Around}{env:Env}{s:Shared}{G:Kn}{E:Value→Shared→Prop}{sc:aq}{ρ:Ro}
theorem sw {f:Str}{b:mW}(h:nB f=some b):(f,wy b)∈jO:=by
 unfold nB at h;have z:∀{y:Str} {c:mW} {r:Option mW},(if ar f y then some c else r)=some b→(f=y∧b=c)∨r=some b:=fun{y c r} q=>by
  by_cases e:ar f y=true
  ·rw [if_pos e]at q;exact .inl ⟨(ao _ _).mp e,(Option.some.inj q).symm⟩
  ·rw [if_neg e]at q;exact .inr q
 rcases z h with⟨rfl,rfl⟩ |h
 ·exact .head _
 rcases z h with⟨rfl,rfl⟩ |h
 ·exact List.mem_of_getElem? (i:=1) rfl
 rcases z h with⟨rfl,rfl⟩ |h
 ·exact List.mem_of_getElem? (i:=2) rfl
 rcases z h with⟨rfl,rfl⟩ |h
 ·exact List.mem_of_getElem? (i:=3) rfl
 rcases z h with⟨rfl,rfl⟩ |h
 ·exact List.mem_of_getElem? (i:=4) rfl
 exact(aa h).elim
theorem CN (H:aw prog w K mg mb k R)(rm:am k A)(hs:aD sc env)(hx:Cx K mg mb s)(S:aP w.params G s.heap env ρ){f:Str}{p pos:Pos}{args:List PySem.Expr}{ds:List D}{d:D}{b:mW}
  (g:aY sc f=true)(q:bi (R.ev sc ρ) args=some ds)(hb:nB f=some b)(e:ij b ds=some d):wpAny (model prog w) A (eval (.Call (.Name f p) args [] pos) env) (aQ w.params s G d) E s:=by
 refine wpAny_Call_Name_kw (cE hx hs g (hx.blt _ (sw hb)) ?_);show wpAny _ A (callWith pos (wy b) [] (backTo pos (starEach args env)) []) _ E s
 refine bD (fun a=>by cases b<;>nofun) q (dH H rm hs pos args ds s G q hx S fun vs s' G' g r=>?_)
 exact dW g (AM rm.hh (by have:=rm.hu;lia) g.inn r e)
end
section
variable {prog:Program}{w:World}{K:Frag}{mg mb:Str→Option Value}{k:Nat}{R:bm}{A:Around}{env:Env}{s:Shared}{G:Kn}{E:Value→Shared→Prop}{sc:aq}{ρ:Ro}
theorem vm {kvs:List (Str×Value)}:∀{es:List DictEntry}{ks:List (List Nat×D)},Pairs (strKind prog w) es kvs→(∀e∈es,∃k,(strKind prog w).is k e.key=true∧e.hash=(strKind prog w).hash k)→
  kvs.map (·.1)=ks.map (fun p=>mk p.1)→ai w.params G (kvs.map (·.2)) (ks.map (·.2))→dt w.params G es ks:=by
 induction kvs with
 |nil=>
  intro es ks p _ e r;cases p;cases ks with
  |nil=>exact .nil
  |cons=>exact(List.cons_ne_nil _ _ e.symm).elim
 |cons kv kvs ih=>
  intro es ks p hk e r;cases ks with
  |nil=>exact(List.cons_ne_nil _ _ e).elim
  |cons q ks=>
   refine xa (List.cons.inj e) fun e1 e2=>?_;have e1:kv.1=mk q.1:=e1;refine aX r.cons_i fun Z Z ev r1 r2=>?_;refine xa (List.cons.inj ev) fun e3 e4=>?_;cases p with
   | @cons en es _ _ h1 h2 h3=>
    refine xe (Value.isStrOf_shape h1) fun t ht=>?_;refine ah (hk _ List.mem_cons_self) fun k' hk1 hk2=>?_;have hh:en.hash=PyData.keyHash w.params (mk q.1):=by
     rw [hk2,Value.isStrOf_inj _ _ _ hk1 h1,e1];rfl
    have he:en=⟨PyData.keyHash w.params (mk q.1),.str (mk q.1) t,kv.2⟩:=by rw [←hh,←h2,←e1,←ht]
    rw [he];exact .cons rfl (by rw [show kv.2=_ from e3];exact r1) (ih h3 (fun e he=>hk e (List.mem_cons_of_mem _ he)) e2 (by rw [show kvs.map (·.2)=_ from e4];exact r2))
theorem lT {h:Heap}{a:Addr}{kvs:List (Str×Value)}{ks:List (List Nat×D)}(m:h.DictOf (strKind prog w) a kvs)(e:kvs.map (·.1)=ks.map (fun p=>mk p.1))(r:ai w.params G (kvs.map (·.2)) (ks.map (·.2))):
  ∃es n,h.get? a=some (cR es n)∧dt w.params G es ks:=by
 obtain⟨o,es,ep,ho,⟨c1,c2,c3⟩,hd,hk,hp,hn⟩:=m;refine⟨es.toList,ep,?_,vm hp (fun e he=>hk e (Array.mem_toList_iff.mp he)) e r⟩
 rw [ho];obtain⟨oc,od,odt,os⟩:=o;cases c1;cases c2;cases c3;cases hd;rfl
theorem sX {a:Addr}(hx:Cx K mg mb s)(h:s.heap.objs.size≤a):(a==sysModules)=false:=by
 refine iJ hx.g fun o Z Z ho Z=>?_;exact beq_eq_false_iff_ne.mpr fun z=>absurd (Nat.lt_of_lt_of_le (show 3<s.heap.objs.size from Heap.lt_size ho) (show s.heap.objs.size≤1 from Nat.le_trans h (Nat.le_of_eq z))) (by decide)
theorem nL (hx:Cx K mg mb s):((s.heap.objs.size:Addr)==sysModules)=false:=sX hx (Nat.le_refl _)
theorem xl {β:Type}{k v:Option D}{X:List Nat→D→Option β}{r:β}(e:(match k,v with |some (.str x),some d=>X x d |_,_=>none)=some r):∃x d,k=some (.str x)∧v=some d∧X x d=some r:=by
 cases k with
 |none=>exact(aa e).elim
 |some k=>
  cases k with
  |str x=>
   cases v with
   |none=>exact(aa e).elim
   |some d=>exact⟨x,d,rfl,rfl,e⟩
  |_=>exact(aa e).elim
theorem th {β:Type}{o:Option (List (List Nat×D))}{X:List (List Nat×D)→Option β}{d:β}(e:(match o with |some x=>X x |none=>none)=some d):∃x,o=some x∧X x=some d:=by
 cases o with
 |none=>exact(aa e).elim
 |some x=>exact⟨x,rfl,e⟩
theorem uK {x:List Nat}{r:List (List Nat×D)}(h:(r.all fun p=> !aF p.1 x)=true):x∉r.map (·.1):=fun hm=>by
 refine ah (List.mem_map.mp hm) fun p hp e=>?_;have:=List.all_eq_true.mp h p hp;rw [(bf _ _).mpr e]at this;exact aj this
inductive kE (ev:PySem.Expr→Option D):List (Option PySem.Expr)→List PySem.Expr→List (List Nat×D)→Prop
 |nil:kE ev [] [] []
 |cons {k ks v vs x d r}:ev k=some (.str x)→ev v=some d→kE ev ks vs r→x∉r.map (·.1)→kE ev (some k::ks) (v::vs) ((x,d)::r)
theorem yM {ev:PySem.Expr→Option D}(ks:List (Option PySem.Expr)):∀{vs:List PySem.Expr}{r:List (List Nat×D)},nz ev ks vs=some r→kE ev ks vs r:=by
 induction ks with
 |nil=>
  intro vs r h;cases vs with
  |nil=>obtain rfl:=Option.some.inj h;exact .nil
  |cons=>exact(aa h).elim
 |cons k ks ih=>
  intro vs r h;cases k with
  |none=>cases vs<;>exact(aa h).elim
  |some k=>
   cases vs with
   |nil=>exact(aa h).elim
   |cons v vs=>
    refine aX (xl h) fun x d q1 q2 h=>?_;refine ah (th h) fun r' hr h=>?_;refine xa (aL h) fun hall z1=>?_;subst z1
    exact .cons q1 q2 (ih hr) (uK hall)
theorem kE.keys {ev:PySem.Expr→Option D}{ks:List (Option PySem.Expr)}{vs:List PySem.Expr}{r:List (List Nat×D)}(h:kE ev ks vs r):vs.length=r.length∧(r.map (·.1)).Nodup:=by
 induction h with
 |nil=>exact⟨rfl,.nil⟩
 |cons _ _ _ n ih=>exact⟨congrArg Nat.succ ih.1,List.nodup_cons.mpr ⟨n,ih.2⟩⟩
noncomputable def rq (env:Env)(pos:Pos)(ks:List (Option PySem.Expr))(vs:List PySem.Expr):List (Sem Value×Sem Value):=(ks.zip vs).map fun p=>(eval (p.1.getD p.2) env,do let x ←eval p.2 env;standAt pos;pure x)
theorem xS (H:aw prog w K mg mb k R)(rm:am k A)(hs:aD sc env)(pos:Pos){ks:List (Option PySem.Expr)}{vs:List PySem.Expr}{r:List (List Nat×D)}(h:kE (R.ev sc ρ) ks vs r):
  (evalEachOpt ks env).zip ((evalEach vs env).map fun v=>do let x ←v;standAt pos;pure x)=(rq env pos ks vs).map (fun p=>(some p.1,p.2))∧(rq env pos ks vs).length=r.length∧
  ∀(s:Shared) (G:Kn) {Q:List (Value×Value)→Shared→Prop},Cx K mg mb s→aP w.params G s.heap env ρ→(∀ps kvs s' G',ae s G s' G'→Carries (strKind prog w) ps kvs→kvs.map (·.1)=r.map (fun p=>mk p.1)→ai w.params G' (kvs.map (·.2)) (r.map (·.2))→Q ps s')→wpAny (model prog w) A (evalPairs (rq env pos ks vs)) Q E s:=by
 induction h with
 |nil=>exact⟨rfl,rfl,fun s G Q hx S hQ=>evalPairs_nil (hQ [] [] s G (.refl S.inn) trivial rfl .nil)⟩
 | @cons e ks v vs x d r q1 q2 _ _ ih=>
  refine⟨congrArg (List.cons _) ih.1,congrArg Nat.succ ih.2.1,fun s G Q hx S hQ=>evalPairs_cons (bI (H.ev sc ρ e _ q1 A env s G E rm hx hs S) fun kv s₁ G₁ g1 r1=>?_)⟩
  refine wpAny_bind (bI (H.ev sc ρ v d q2 A env s₁ G₁ E rm (hx.grew g1) hs (S.grew g1)) fun vv s2 G2 g2 r2=>wpAny_bind (wpAny_standAt (wpAny_pure ?_)))
  refine xe r1.str_i fun t z2=>?_;subst z2
  exact ih.2.2 s2 G2 ((hx.grew g1).grew g2) ((S.grew g1).grew g2) fun ps kvs s3 G3 g3 c e r=>hQ _ ((mk x,vv)::kvs) s3 G3 ((g1.trans g2).trans g3) ⟨strKind_is prog w _ _,rfl,c⟩ (congrArg (List.cons _) e) (.cons (r2.mono g3.le) r)
theorem lc {kvs:List (Str×Value)}{r:List (List Nat×D)}(e:kvs.map (·.1)=r.map (fun p=>mk p.1))(nd:(r.map (·.1)).Nodup):(kvs.map (·.1)).Nodup:=by
 have h:=iU nd;rw [List.map_map]at h;rw [e];exact h
theorem At (H:aw prog w K mg mb k R)(rm:am k A)(hs:aD sc env)(hx:Cx K mg mb s)(S:aP w.params G s.heap env ρ){ks:List (Option PySem.Expr)}{vs:List PySem.Expr}{pos:Pos}{d:D}
  (e:(if vs.length≤2 then(nz (R.ev sc ρ) ks vs).map .dict else none)=some d)(h0:vs≠ []):wpAny (model prog w) A (eval (.Dict ks vs pos) env) (aQ w.params s G d) E s:=by
 refine xa (nu e) fun hl e=>?_;refine ah (Option.map_eq_some_iff.mp e) fun r q z3=>?_;subst z3
 have gp:=ae.push S.inn {cls:=.type "dict",data:=.dict #[]} s.toks (Nat.le_refl _);have q:=yM ks q;refine xa q.keys fun l2 nd=>?_;refine b9 (xS (A:=A) (env:=env) (E:=E) H rm hs pos q) fun hp hlen hw=>?_;refine wpAny_Dict_pairs (knd:=strKind prog w) hp (fun z=>h0 (List.length_eq_zero_iff.mp (l2.trans (hlen.symm.trans (congrArg List.length z))))) (Nat.le_trans (Nat.le_of_eq (hlen.trans l2.symm)) (Nat.le_trans hl (by decide))) (hw _ G (hx.grew gp) (S.grew gp) fun ps kvs s' G' g c e rd=>⟨kvs,c,?_,fun h' hm hs'=>?_⟩)
 ·exact Heap.DictOf.keep ⟨_,_,_,Heap.get?_push_size _ rfl,⟨rfl,rfl,rfl⟩,rfl,fun e he=>(List.not_mem_nil he.val).elim,.nil,.nil⟩ g.keep
 ·rw [merged_nil_of_nodup kvs (lc e nd)]at hm;refine aA (lT (w:=w) (G:=G') hm e rd) fun es n ho rk=>?_;have no:G' s.heap.objs.size=none:=(ae.mv (X:=fun Z=>False) g).none_lt (Kn.none_ge S.inn (Nat.le_refl _)) (by rw [Heap.size_push];exact Nat.lt_succ_self _)
  exact⟨_,((gp.trans g).own hs' (Nat.le_refl _) no (Nat.le_add_right _ _)).learn ho (Nat.le_refl _) no,.dict Kn.add_self ⟨nL hx,nd⟩ (rk.mono (Kn.le_add no))⟩
end
section
variable {prog:Program}{w:World}{K:Frag}{mg mb:Str→Option Value}{k:Nat}{R:bm}{A:Around}{env:Env}{s:Shared}{G:Kn}{E:Value→Shared→Prop}{sc:aq}{ρ:Ro}
set_option tactic.hygienic true in
theorem AL {v u u':Value}{ks:List (List Nat×D)}{x:List Nat}{d:D}(I:G.In s.heap)(r:Rd w.params G v (.dict ks))(rx:Rd w.params G u (.str x))(rd:Rd w.params G u' d):
  wpAny (model prog w) A (call (.builtin "dict.get") [v,u,u']) (aQ w.params s G (match ks.find? (fun p=>aF p.1 x)with |some p=>p.2 |none=>d)) E s:=by
 cases r with
 |dict q l rk=>
  rename_i a n es;cases rx with
  |str _ t=>
   refine aR (iE prog I q l.2 rk) fun kvs hd hk hv=>?_;have hof:s.heap.DictOf (strKind prog w) a kvs:=by
    obtain⟨o,es',ho,x1,x2,x3,x4,x5⟩:=hd;exact⟨o,es',n,ho,x1,x2,x3,x4,x5⟩
   have fv:=ja (G:=G) (w:=w) x hk hv;refine call_meetsIn F.slot_dict_get hof.typeIs F.entry_dict_get (F.args_dict_get_3 _ _ _) (meets_dict_get_default (strKind prog w) (k:=mk x) a (strKind_is prog w _ _) l.1 u') ⟨_,hof.mapOf,?_⟩;cases f:ks.find? (fun p=>aF p.1 x)with
   |some p=>
    rw [f]at fv;refine ah fv fun v hv rv=>?_;rw [hv];exact cg I rv (Nat.le_succ _)
   |none=>
    rw [f]at fv;dsimp only at fv;rw [fv];exact cg I rd (Nat.le_succ _)
theorem Fl (args:List PySem.Expr)(ds:List D)(pos:Pos)(q:bi (R.ev sc ρ) args=some ds)(h:args.length≤20):((backTo pos (starEach args env)).all (fun x=> !x.1)&&(backToKw pos (keywordEach [] env)).all (fun x=>x.1.isSome)
   &&decide (args.length+([]:List Keyword).length+(if([]:List Keyword).isEmpty then 0 else 1)<30))=true:=by
 have h1:=fB (env:=env) args ds pos q;have h2:(backTo pos (starEach args env)).all (fun x=> !x.1)=true:=by
  rw [List.all_eq_true];intro x hx;have:=List.any_eq_false.mp h1 x hx
  simpa using this
 rw [h2];show(true&&true&&decide (args.length+0+0<30))=true
 have:args.length+0+0<30:=by lia
 rw [decide_eq_true this];rfl
theorem qE {o:PySem.Expr}{x:Str}(h:jw o=true):attributeBase o x env (eval o env)=eval o env:=by
 cases o<;>first |rfl |exact(aj h).elim
theorem yr {x:Str}{od d:D}{ds:List D}(e:nn x od ds=some d):(∃y,od=.str y∧ds=[]∧(ar x "lower" &&decide ((Txt.lower (mk y)).length≤1000))=true∧ .str (Txt.lower (mk y)).cps.toList=d)∨
  ∃ks k d',od=.dict ks∧ds=[.str k,d']∧ar x "get" =true∧(match ks.find? (fun p=>aF p.1 k)with |some p=>p.2 |none=>d')=d:=by
 cases od<;>first |exact(aa e).elim |skip
 ·cases ds with
  |nil=>exact .inl ⟨_,rfl,rfl,aL e⟩
  |cons=>exact(aa e).elim
 ·rcases ds with _ |⟨a,r⟩
  ·exact(aa e).elim
  obtain⟨k,rfl⟩:∃k,a=D.str k:=by cases a<;>first |exact(aa e).elim |exact⟨_,rfl⟩
  rcases r with _ |⟨b,_ |⟨_,_⟩⟩
  ·exact(aa e).elim
  ·exact .inr ⟨_,_,_,rfl,rfl,aL e⟩
  ·exact(aa e).elim
theorem Ar (H:aw prog w K mg mb k R)(rm:am k A)(hs:aD sc env)(hx:Cx K mg mb s)(S:aP w.params G s.heap env ρ){o:PySem.Expr}{x:Str}{apos pos:Pos}{args:List PySem.Expr}{od:D}{ds:List D}{d:D}
  (pl:jw o=true)(hl:Nat.beq apos.endLine pos.line=true)(ha:args.length≤20)(qo:R.ev sc ρ o=some od)(q:bi (R.ev sc ρ) args=some ds)(e:nn x od ds=some d):
  wpAny (model prog w) A (eval (.Call (.Attribute o x apos) args [] pos) env) (aQ w.params s G d) E s:=by
 refine wpAny_Call_method_lateS (qE pl) (Fl args ds pos q ha) (by simpa using Nat.eq_of_beq_eq_true hl) (bI (H.ev sc ρ o od qo A env s G E rm hx hs S) fun ov s₁ G₁ g1 r1=>?_)
 rcases yr e with⟨y,rfl,rfl,h,rfl⟩ |⟨ks,kk,dd,rfl,rfl,h,rfl⟩
 ·refine xa (Bool.and_eq_true_iff.mp h) fun h1 h2=>?_;obtain rfl:=(ao _ _).mp h1;refine xe r1.str_i fun t z1=>?_;subst z1
  refine⟨"str", "str.lower",F.plainAttrs_str,F.slot_str_lower,F.type_str_lower,typeIs_str _ _ _,nofun,?_⟩;refine bD (by nofun) q (dH H rm hs pos args _ s₁ G₁ q (hx.grew g1) (S.grew g1) fun vs s' G' g r=>?_)
  obtain rfl:=r.nil_i;refine SC.lower ?_ ?_
  ·have:(Txt.lower (mk y)).length≤1000:=of_decide_eq_true h2;unfold Builtin.Str.tooLong;rw [sizeLine_eq];simp;lia
  ·refine aQ.trans (g1.trans g) ?_;have r:=Rd.str (P:=w.params) (G:=G') (Txt.lower (mk y)).cps.toList s'.toks;have:mk (Txt.lower (mk y)).cps.toList=Txt.lower (mk y):=by simp [mk]
   rw [this]at r;exact cg g.inn r (Nat.le_succ _)
 ·obtain rfl:=(ao _ _).mp h;refine nj r1.dict_i fun a n es z2 qa l rk=>?_;subst z2
  refine⟨"dict", "dict.get",F.plainAttrs_dict,F.slot_dict_get,F.type_dict_get,⟨_,g1.inn _ _ qa,rfl⟩,fun b hb=>by obtain rfl:=Value.ref.inj hb;exact⟨_,g1.inn _ _ qa,rfl⟩,?_⟩
  refine bD (by nofun) q (dH H rm hs pos args _ s₁ G₁ q (hx.grew g1) (S.grew g1) fun vs s' G' g r=>?_)
  refine aX (nR r) fun u u' z3 ru ru'=>?_;subst z3
  exact dW (g1.trans g) (AL g.inn (r1.mono g.le) ru ru')
theorem Ap (fl:fO K=true)(H:aw prog w K mg mb k R)(rm:am k A)(hs:aD sc env)(hx:Cx K mg mb s)(S:aP w.params G s.heap env ρ){o:PySem.Expr}{x a b:Str}{apos pos:Pos}{args:List PySem.Expr}{od:D}{d:D}
  (pl:jw o=true)(hl:Nat.beq apos.endLine pos.line=true)(qo:R.ev sc ρ o=some od)(q:iQ x args=some (a,b))(e:rf od a b=some d):
  wpAny (model prog w) A (eval (.Call (.Attribute o x apos) args [] pos) env) (aQ w.params s G d) E s:=by
 refine lM (xY q) fun p1 p2 p3 p4 z4 h=>?_;subst z4
 obtain rfl:=(ao _ _).mp h;refine wpAny_Call_method_lateS (qE pl) rfl (by simpa using Nat.eq_of_beq_eq_true hl) (bI (H.ev sc ρ o od qo A env s G E rm hx hs S) fun ov s₁ G₁ g1 r1=>?_)
 refine ah (kN e) fun y z5 e=>?_;subst z5
 refine xa (aL e) fun hc z6=>?_;subst z6
 simp only [Bool.and_eq_true,decide_eq_true_eq,Bool.not_eq_true']at hc;refine xe r1.str_i fun t z7=>?_;subst z7
 refine⟨"str", "str.replace",F.plainAttrs_str,F.slot_str_replace,F.type_str_replace,typeIs_str _ _ _,nofun,?_⟩;have hx1:=hx.grew g1;show wpAny _ A (callWith pos (.builtin "str.replace") [.str (mk y) t] [(false,eval (.Constant (.str a) p1 p2) env),(false,eval (.Constant (.str b) p3 p4) env)] []) _ E s₁
 refine aK (Calls.callWith_builtin rfl (Calls.evalArgs_plain (Calls.spliced_cons (wpAny_Constant_str (Calls.spliced_cons (wpAny_Constant_str (Calls.spliced_nil ?_)))))));have t0:=hx1.tk fl;refine SC.replace (Nat.ne_of_gt t0) (Nat.ne_of_gt (Nat.lt_succ_of_lt t0)) (Nat.ne_of_lt (Nat.lt_succ_self _)) ?_ ?_ fun t' k hz=>?_
 ·rw [←iw];exact hc.2
 ·have:(mk y).length=y.length:=by simp [Str.length]
  rw [this];have h1:(y.length+1)*b.length≤1001*1000:=Nat.mul_le_mul (by lia) hc.1.2
  lia
 ·refine aQ.trans g1 ?_;have r:=Rd.str (P:=w.params) (G:=G₁) (Txt.replace (mk y) a b).cps.toList t';have:mk (Txt.replace (mk y) a b).cps.toList=Txt.replace (mk y) a b:=by simp [mk]
  rw [this]at r;exact⟨G₁,ae.same_known g1.inn (Nat.le_refl _) (fun Z Z e=>e) hz.2,r⟩
end
section
variable {prog:Program}{w:World}{K:Frag}{mg mb:Str→Option Value}{k:Nat}{R:bm}{A:Around}{env:Env}{s:Shared}{G:Kn}{E:Value→Shared→Prop}{sc:aq}{ρ:Ro}
theorem tw (H:aw prog w K mg mb k R)(rm:am k A)(hs:aD sc env)(hx:Cx K mg mb s)(S:aP w.params G s.heap env ρ){l r:PySem.Expr}{op:CmpOp}{pos:Pos}{d:D}
  (e:(match bx r with |true=>none |false=>match R.ev sc ρ l with |none=>none |some a=>match R.ev sc ρ r with |none=>none |some b=>(bg op a b).map .bool)=some d):
  wpAny (model prog w) A (eval (.Compare l [op] [r] pos) env) (aQ w.params s G d) E s:=by
 refine xa (jY e) fun z e=>?_;refine ah (cP e) fun a q e=>?_;refine ah (cP e) fun b q2 e=>?_;refine ah (Option.map_eq_some_iff.mp e) fun c q3 z1=>?_;subst z1
 exact wpAny_Compare1 (tx H rm hs hx S q q2 q3) (bO z)
theorem sW (H:aw prog w K mg mb k R)(rm:am k A)(hs:aD sc env)(hx:Cx K mg mb s)(S:aP w.params G s.heap env ρ){l r:PySem.Expr}{op:CmpOp}{pos:Pos}{c:Bool}{whole:Sem Value}
  (e:(match bx r with |true=>none |false=>match R.ev sc ρ l with |none=>none |some a=>match R.ev sc ρ r with |none=>none |some b=>bg op a b)=some c):
  wpAny (model prog w) A (isTrue (.Compare l [op] [r] pos) env whole) (gN s G c) E s:=by
 refine xa (jY e) fun z e=>?_;refine ah (cP e) fun a q e=>?_;refine ah (cP e) fun b q2 e=>?_;refine wpAny_isTrue_Compare1 (wpAny_mono (tx H rm hs hx S q q2 e) (fun u s₁ h1=>wpAny_mono h1 (fun v s2 h2=>wpAny_mono h2 (fun x s3 h3=>?_) fun Z Z z=>z) fun Z Z z=>z) fun Z Z z=>z) (bO z)
 refine ah h3 fun G' g r=>?_;rw [r.bool_i];exact wpAny_truthy_bool ⟨rfl,G',g⟩
theorem xG (e:PySem.Expr){d:D}{b:Bool}(he:isTrue e env (eval e env)=(do let v ←eval e env;standAt e.pos;holding [v] (truthy v)))(h:wpAny (model prog w) A (eval e env) (aQ w.params s G d) E s)(t:eC d=some b):
  wpAny (model prog w) A (isTrue e env (eval e env)) (gN s G b) E s:=
 wpAny_isTrue_value (bI h fun Z Z Z g r=>uL g (nY g.inn r t)) he
theorem Ao (H:aw prog w K mg mb k R)(rm:am k A)(hs:aD sc env)(hx:Cx K mg mb s)(S:aP w.params G s.heap env ρ){x:PySem.Expr}{pos:Pos}{d:D}
  (e:(match R.ev sc ρ x with |some (.int i)=>if small i then some (.int (-i))else none |_=>none)=some d):wpAny (model prog w) A (eval (.UnaryOp .USub x pos) env) (aQ w.params s G d) E s:=by
 refine ah (Ag e) fun i q e=>?_;refine xa (aL e) fun Z z2=>?_;subst z2
 refine wpAny_UnaryOp (bI (H.ev sc ρ x _ q A env s G E rm hx hs S) fun v s₁ G₁ g1 r1=>?_)
 refine xe r1.int_i fun Z z3=>?_;subst z3
 exact P.neg_int (aQ.trans g1 (cg g1.inn (.int _ _) (Nat.le_add_right _ _)))
end
noncomputable def qB (env:Env)(cs:List (Str×Addr))(p:Str×NameKind):List (Str×Addr):=if p.2== .free then(match env.cells.lookup p.1 with |some a=>(p.1,a)::cs |none=>cs)else cs
noncomputable def qC (names:aq)(env:Env):List (Str×Addr):=names.foldl (qB env) []
theorem sq {M:Model}{env:Env}(f:Str×NameKind→List (Str×Addr)→Sem (ForInStep (List (Str×Addr))))
  (hf:∀n k cs,f (n,k) cs=if k== .free then(do let a ←cellOf env n;pure (.yield ((n,a)::cs)))else pure (.yield cs))(names:aq):
  ∀(cs:List (Str×Addr)),(∀p∈names,p.2=.free→(env.cells.lookup p.1).isSome=true)→forIn names cs f=pure (names.foldl (qB env) cs):=by
 induction names with
 |nil=>exact fun Z Z=>rfl
 |cons p r ih=>
  intro cs h;have hr:=fun q hq=>h q (List.mem_cons_of_mem _ hq)
  rw [List.forIn_cons,hf,List.foldl_cons];unfold qB;by_cases c:(p.2==NameKind.free)=true
  ·rw [if_pos c,if_pos c];refine xe (Option.isSome_iff_exists.mp (h p List.mem_cons_self (beq_iff_eq.mp c))) fun a ha=>?_;rw [show cellOf env p.1=pure a by unfold cellOf;rw [ha],ha]
   exact ih _ hr
  ·rw [if_neg c,if_neg c];exact ih _ hr
theorem sm {M:Model}{scope:Scope}{env:Env}(h:∀p∈scope.names,p.2=.free→(env.cells.lookup p.1).isSome=true):closureFor scope env=pure (qC scope.names env):=by
 unfold closureFor qC;show(forIn (m:=Sem) scope.names ([]:List (Str×Addr)) (fun x cs=>match x with |(name,kind)=>if(kind== .free)=true then(do let a ←cellOf env name;pure (.yield ((name,a)::cs)))else pure (.yield cs))>>=fun cs=>pure cs)=_
 rw [sq (M:=M) _ (fun n k cs=>by cases k<;>rfl) scope.names [] h]
 rfl
theorem sr {env:Env}{x:Str}{a:Addr}(ha:env.cells.lookup x=some a)(names:aq):∀(cs:List (Str×Addr)),(cs.lookup x=some a∨(x,NameKind.free)∈names)→(∀b,cs.lookup x=some b→b=a)→(names.foldl (qB env) cs).lookup x=some a:=by
 induction names with
 |nil=>exact fun cs h Z=>h.resolve_right List.not_mem_nil
 |cons p r ih=>
  intro cs h hb;rw [List.foldl_cons];have rest:∀{cs'},(cs.lookup x=some a→List.lookup x cs'=some a)→((x,NameKind.free)=p→List.lookup x cs'=some a)→(∀b,cs'.lookup x=some b→b=a)→(r.foldl (qB env) cs').lookup x=some a:=fun h1 h2 h3=>
   ih _ (h.elim (fun z=>.inl (h1 z)) fun z=>(List.mem_cons.mp z).elim (fun z=>.inl (h2 z)) .inr) h3
  unfold qB;by_cases c:(p.2==NameKind.free)=true
  ·rw [if_pos c];by_cases hx:x=p.1
   ·rw [←hx,ha];have e:List.lookup x ((x,a)::cs)=some a:=by rw [List.lookup_cons,beq_self_eq_true]
    exact rest (fun Z=>e) (fun Z=>e) fun b q=>Option.some.inj (q.symm.trans e)
   ·cases q:env.cells.lookup p.1 with
    |none=>exact rest id (fun z=>absurd (congrArg Prod.fst z) hx) hb
    |some c=>
     have e:List.lookup x ((p.1,c)::cs)=cs.lookup x:=by rw [List.lookup_cons,beq_eq_false_iff_ne.mpr hx]
     exact rest (fun z=>e.trans z) (fun z=>absurd (congrArg Prod.fst z) hx) fun b q=>hb b (e.symm.trans q)
  ·rw [if_neg c];exact rest id (fun z=>absurd (by rw [←z];rfl) c) hb
theorem hV (names:aq):∀(n:Nat)(acc:List (Str×Addr)),cellsFrom n names acc=cellsFrom n names [] ++acc:=by
 induction names with
 |nil=>exact fun Z Z=>rfl
 |cons p r ih=>
  intro n acc;show(if _ then _ else _)=(if _ then _ else _)++acc
  by_cases c:(p.2==NameKind.cell)=true
  ·rw [if_pos c,if_pos c,ih (n+1) ((p.1,n)::acc),ih (n+1) [(p.1,n)],List.append_assoc];rfl
  ·rw [if_neg c,if_neg c];exact ih n acc
theorem fL {p:Str×NameKind}{r:aq}{n:Nat}:((p.2==NameKind.cell)=true∧cellsFrom n (p::r) []=cellsFrom (n+1) r [] ++ [(p.1,n)])∨((p.2==NameKind.cell)=false∧cellsFrom n (p::r) []=cellsFrom n r []):=by
 by_cases c:(p.2==NameKind.cell)=true
 ·exact .inl ⟨c,(if_pos c).trans (hV ..)⟩
 ·exact .inr ⟨eq_false_of_ne_true c,if_neg c⟩
theorem jK {x:Str}{c:Addr}(names:aq):∀(n:Nat),(x,c)∈cellsFrom n names []→(x,NameKind.cell)∈names∧n≤c:=by
 induction names with
 |nil=>exact fun Z h=>(List.not_mem_nil h).elim
 |cons p r ih=>
  intro n h;rcases fL (p:=p) (r:=r) (n:=n)with⟨q,e⟩ |⟨_,e⟩<;>rw [e]at h
  ·rcases List.mem_append.mp h with h |h
   ·exact⟨List.mem_cons_of_mem _ (ih _ h).1,Nat.le_of_succ_le (ih _ h).2⟩
   ·have z:=List.mem_singleton.mp h;rw [show x=p.1 from congrArg Prod.fst z,show c=n from congrArg Prod.snd z,←beq_iff_eq.mp q]
    exact⟨List.mem_cons_self,Nat.le_refl _⟩
  ·exact⟨List.mem_cons_of_mem _ (ih _ h).1,(ih _ h).2⟩
theorem jl (names:aq) (n:Nat){x:Str}{c:Addr}(h:(x,c)∈cellsFrom n names []):(x,NameKind.cell)∈names:=(jK names n h).1
theorem hW (names:aq) (n:Nat){x:Str}{c:Addr}(h:(x,c)∈cellsFrom n names []):n≤c:=(jK names n h).2
theorem iW {x:Str}{acc:List (Str×Addr)}(l:List (Str×Addr)):(l++acc).lookup x=(match l.lookup x with |some v=>some v |none=>acc.lookup x):=by
 induction l with
 |nil=>rfl
 |cons a l ih=>
  rw [List.cons_append,List.lookup_cons,List.lookup_cons];cases x==a.1
  ·exact ih
  ·rfl
theorem rN {x:Str}{c:Addr}(l:List (Str×Addr))(h:(x,c)∈l):(l.lookup x).isSome=true:=by
 induction l with
 |nil=>exact(List.not_mem_nil h).elim
 |cons a l ih=>
  rw [List.lookup_cons];cases q:x==a.1 with
  |true=>rfl
  |false=>exact ih ((List.mem_cons.mp h).resolve_left fun z=>by rw [←z,beq_self_eq_true]at q;exact aj q.symm)
theorem dp {x:Str}(names:aq):∀(n:Nat),(x,NameKind.cell)∈names→((cellsFrom n names []).lookup x).isSome=true:=by
 suffices h:∀n,(x,NameKind.cell)∈names→∃c,(x,c)∈cellsFrom n names []from fun n z=>(h n z).elim fun Z z=>rN _ z
 induction names with
 |nil=>exact fun Z h=>(List.not_mem_nil h).elim
 |cons p r ih=>
  intro n h;rcases fL (p:=p) (r:=r) (n:=n)with⟨q,e⟩ |⟨q,e⟩<;>rw [e]
  ·rcases List.mem_cons.mp h with z |h
   ·exact⟨n,List.mem_append_right _ (by rw [←z];exact List.mem_singleton.mpr rfl)⟩
   ·exact(ih (n+1) h).elim fun c z=>⟨c,List.mem_append_left _ z⟩
  ·exact ih n ((List.mem_cons.mp h).resolve_left fun z=>by rw [←z]at q;exact aj q.symm)
noncomputable def wv (scope:Scope)(cells:List (Str×Addr))(C:Addr)(env:Env):Env:=
 {scope:=relabel scope env,locals:=C,globals:=env.globals,cells:=cells,qual:=env.qual,func:=none,code:=env.code,frame:=env.frame,builtins:=env.builtins}
noncomputable def Dw (scope:Scope)(cells:List (Str×Addr))(C:Addr)(env:Env):Env:=
 {scope:=scope,locals:=C,globals:=env.globals,cells:=cells,qual:=env.qual,func:=none,code:=env.code,frame:=env.frame,builtins:=env.builtins}
theorem kj {M:Model}{A:Around}{E:Value→Shared→Prop}{s:Shared}{scope:Scope}{cl:List (Str×Addr)}{env:Env}{Q:Env→Shared→Prop}
  (h:Q (Dw scope (cellsFrom (s.heap.objs.size+1) scope.names [] ++cl) s.heap.objs.size env) {s with heap:=pushCells (s.heap.push {cls:=.type "dict",data:=.dict #[]}) scope.names}):
  wpAny M A (newFunctionEnv scope env.globals cl [] env.qual none .none (some env)) Q E s:=by
 simp only [newFunctionEnv,Option.isSome_some,if_true];refine wpAny_bind (wpAny_alloc ?_);refine wpAny_bind (wpAny_layCells _ (fun name kind cells=>by cases hkc:kind==NameKind.cell<;>simp) _ _ _ _ ?_)
 rw [show({s with heap:=s.heap.push {cls:=.type "dict",data:=.dict #[]}}:Shared).heap.objs.size=s.heap.objs.size+1 from Heap.size_push ..]
 rw [hV];rw [List.forIn_nil];exact wpAny_bind (wpAny_pure (wpAny_pure h))
theorem uA {sc:aq}{ρ:Ro}{x:Str}{d:D}(h:aH sc ρ x=some d):aE sc x=some .free∧ρ x=some d:=by
 replace h:(match aE sc x with |some .free=>ρ x |_=>none)=some d:=h
 cases q:aE sc x with
 |none=>rw [q]at h;exact(aa h).elim
 |some k=>rw [q]at h;cases k<;>first |exact⟨rfl,h⟩ |exact(aa h).elim
theorem cr {l:aq}{x:Str}{k:NameKind}(h:aE l x=some k):(x,k)∈l:=bN ((eS l x).symm.trans h)
theorem on {p:Str×NameKind}{r:aq}{x:Str}(q:ar x p.1=true):aE (p::r) x=some p.2:=by
 show(match ar x p.1 with |true=>some p.2 |false=>aE r x)=_
 rw [q]
theorem oq {p:Str×NameKind}{r:aq}{x:Str}(q:ar x p.1=false):aE (p::r) x=aE r x:=by
 show(match ar x p.1 with |true=>some p.2 |false=>aE r x)=_
 rw [q]
theorem j7 {x:Str}{r:List Str}(h:fT (x::r)=true):(∀y∈r,ar y x=false)∧fT r=true:=by
 refine xa (Bool.and_eq_true_iff.mp h) fun h1 h2=>?_;refine⟨fun y hy=>?_,h2⟩
 cases q:ar y x with
 |false=>rfl
 |true=>
  have:=List.all_eq_true.mp h1 y hy;rw [(ao _ _).mpr ((ao _ _).mp q).symm]at this;exact(aj this).elim
theorem k8 {x:Str}{k:NameKind}{l:aq}(hn:fT (l.map (·.1))=true)(h:(x,k)∈l):aE l x=some k:=by
 induction l with
 |nil=>exact(List.not_mem_nil h).elim
 |cons p r ih=>
  obtain⟨h1,h2⟩:=j7 hn;rcases List.mem_cons.mp h with h |h
  ·rw [←h];exact on ((ao _ _).mpr rfl)
  ·exact(oq (h1 x (List.mem_map_of_mem h))).trans (ih h2 h)
noncomputable def ju (env:Env)(x:Str)(k:NameKind):NameKind:=if(k== .free&&env.scope.kind== .function&&env.kindOf x==some .cell)then .cell else k
theorem ku {scope:Scope}{env:Env}{cells:List (Str×Addr)}{C:Addr}{x:Str}{k:NameKind}(h:aE scope.names x=some k):(wv scope cells C env).kindOf x=some (ju env x k):=by
 show(scope.names.map fun(n,k)=>if(k== .free&&env.scope.kind== .function&&env.kindOf n==some .cell)then(n,NameKind.cell)else(n,k)).lookup x=_
 rw [show(fun p:Str×NameKind=>match p with |(n,k)=>if(k== .free&&env.scope.kind== .function&&env.kindOf n==some .cell)then(n,NameKind.cell)else(n,k))=fun p=>(p.1,ju env p.1 p.2)from funext fun p=>by
  unfold ju;by_cases c:(p.2== .free&&env.scope.kind== .function&&env.kindOf p.1==some .cell)=true
  ·rw [if_pos c];exact if_pos c
  ·rw [if_neg c];exact if_neg c]
 generalize scope.names=l at h
 induction l with
 |nil=>exact(aa h).elim
 |cons p r ih=>
  rw [List.map_cons,List.lookup_cons,←iw];cases q:ar x p.1 with
  |true=>
   rw [on q]at h;rw [←Option.some.inj h,←(ao _ _).mp q]
  |false=>exact ih ((oq q).symm.trans h)
theorem xZ {env:Env}{x:Str}{k:NameKind}(h:(k== .free)=false):ju env x k=k:=by
 unfold ju;rw [h];rfl
theorem tz {env:Env}{x:Str}:ju env x .free=.cell∨ju env x .free=.free:=by
 unfold ju;by_cases c:(NameKind.free== .free&&env.scope.kind== .function&&env.kindOf x==some .cell)=true
 ·exact .inl (if_pos c)
 ·exact .inr (if_neg c)
theorem iS {x:Str}{c:Addr}{names:aq} (n:Nat)(hn:fT (names.map (·.1))=true)(h:(x,c)∈cellsFrom n names []):(cellsFrom n names []).lookup x=some c:=by
 induction names generalizing n with
 |nil=>exact(List.not_mem_nil h).elim
 |cons p r ih=>
  obtain⟨h1,h2⟩:=j7 hn;rcases fL (p:=p) (r:=r) (n:=n)with⟨q,e⟩ |⟨_,e⟩<;>rw [e]at h⊢
  ·rw [iW];rcases List.mem_append.mp h with h |h
   ·rw [ih (n+1) h2 h]
   ·have z:=List.mem_singleton.mp h;rw [show x=p.1 from congrArg Prod.fst z,show c=n from congrArg Prod.snd z]
    cases q:(cellsFrom (n+1) r []).lookup p.1 with
    |some v=>
     have:=h1 p.1 (List.mem_map.mpr ⟨_,jl r _ (bN q),rfl⟩);rw [(ao _ _).mpr rfl]at this;exact(aj this.symm).elim
    |none=>
     show List.lookup p.1 [(p.1,n)]=_
     rw [List.lookup_cons,beq_self_eq_true]
  ·exact ih n h2 h
theorem kg {out:aq}{l:aq}{x:Str}(h:lz out l=true)(hm:(x,NameKind.free)∈l):aE out x=some .free∨aE out x=some .cell:=by
 induction l with
 |nil=>exact(List.not_mem_nil hm).elim
 |cons p r ih=>
  obtain⟨h1,h2⟩:=Bool.and_eq_true_iff.mp h;rcases List.mem_cons.mp hm with e |hm
  ·rw [←e]at h1;replace h1:(match aE out x with |some .free=>true |some .cell=>true |_=>false)=true:=h1
   cases q:aE out x with
   |none=>rw [q]at h1;exact(aj h1).elim
   |some k=>rw [q]at h1;cases k<;>first |exact .inl rfl |exact .inr rfl |exact(aj h1).elim
  ·exact ih h2 hm
structure FA (P:Params)(B:Heap)(sc:aq)(cenv:Env)(own:List (Str×Addr)):Prop where
 ok:be sc cenv own
 e:aD sc cenv
section
variable {w:World}{P:Params}{G G':Kn}{env:Env}{s:Shared}{sc:aq}{ρ:Ro}{scope:Scope}{B:Heap}
theorem js (h:bG sc scope=true):lz sc scope.names=true∧fT (scope.names.map (·.1))=true∧scope.kind=.function:=by
 refine xa (Bool.and_eq_true_iff.mp h) fun h h3=>?_;refine xa (Bool.and_eq_true_iff.mp h) fun h1 h2=>?_;exact⟨h1,h2,by cases q:scope.kind<;>rw [q]at h3<;>first |rfl |exact(aj h3).elim⟩
theorem mS (hs:aD sc env)(h:bG sc scope=true)(p:Str×NameKind)(hp:p∈scope.names)(hk:p.2=.free):(env.cells.lookup p.1).isSome=true:=
 (kg (js h).1 (show(p.1,NameKind.free)∈scope.names from hk▸hp)).elim (fun q=>(hs.cel _ (.inr q)).2) fun q=>(hs.cel _ (.inl q)).2
theorem dQ {h:Heap}{a:Addr}(ha:h.objs.size≤a):h.get? a=none:=by
 cases e:h.get? a with
 |none=>rfl
 |some o=>exact absurd (Heap.lt_size e) (Nat.not_lt.mpr ha)
theorem xV (hs:aD sc env)(S:aP P G B env ρ)(h:bG sc scope=true)(le:G.Le G')(I:G'.In s.heap)(keep:∀b o,B.get? b=some o→s.heap.get? b=some o):
  let own:=cellsFrom (s.heap.objs.size+1) scope.names []
  let cenv:=wv scope (own++qC scope.names env) s.heap.objs.size env
  let h':=pushCells (s.heap.push {cls:=.type "dict",data:=.dict #[]}) scope.names
  be scope.names cenv own∧aD scope.names cenv∧a7 P B cenv own G' h' (aH scope.names ρ):=by
 intro own cenv h';have hf:=mS hs h;refine b9 (js h) fun h1 h2 hk=>?_;have keep':∀b o,s.heap.get? b=some o→h'.get? b=some o:=fun b o e=>pushCells_keeps _ _ b o (Heap.get?_push_of_some _ e)
 have ok:=cellsFrom_ok scope.names (s.heap.push {cls:=.type "dict",data:=.dict #[]}) (s.heap.objs.size+1) [] ⟨fun Z Z hm=>(List.not_mem_nil hm).elim,List.Pairwise.nil⟩ (by rw [Heap.size_push];exact Nat.le_refl _)
 rw [Heap.size_push]at ok;have newB:∀{a:Addr},s.heap.objs.size≤a→B.get? a=none:=fun{a} ha=>by
  cases e:B.get? a with
  |none=>rfl
  |some o=>exact(aa ((dQ ha).symm.trans (keep a o e))).elim
 have own_free:∀{x:Str},aE scope.names x=some .free→own.lookup x=none:=fun{x} hx=>by
  cases q:own.lookup x with
  |none=>rfl
  |some c=>exact NameKind.noConfusion (Option.some.inj (hx.symm.trans (k8 h2 (jl _ _ (bN q)))))
 have free_cell:∀{x:Str},aE scope.names x=some .free→∃a,env.cells.lookup x=some a∧cenv.cells.lookup x=some a:=fun{x} hx=>by
  refine xe (Option.isSome_iff_exists.mp (hf _ (cr hx) rfl)) fun a ha=>?_;refine⟨a,ha,?_⟩;show(own++qC scope.names env).lookup x=some a
  rw [iW,own_free hx];exact sr ha _ _ (.inr (cr hx)) fun b hb=>(aa hb).elim
 have kr:∀{x:Str} {k:NameKind},(k== .free)=false→aE scope.names x=some k→cenv.kindOf x=some k:=fun n hx=>(ku hx).trans (congrArg some (xZ n))
 have kf:∀{x:Str},aE scope.names x=some .free→cenv.kindOf x=some .cell∨cenv.kindOf x=some .free:=fun hx=>tz.imp (fun e=>(ku hx).trans (congrArg some e)) fun e=>(ku hx).trans (congrArg some e)
 have own_at:∀{x:Str} {c:Addr},own.lookup x=some c→cenv.cells.lookup x=some c:=fun{x c} e=>by
  show(own++qC scope.names env).lookup x=some c
  rw [iW,e]
 have cellx:∀{x:Str},aE scope.names x=some .cell→∃c,own.lookup x=some c:=fun hx=>Option.isSome_iff_exists.mp (dp _ _ (cr hx))
 refine⟨⟨fun x hx=>kr rfl hx,fun x hx=>⟨kr rfl hx,dp _ _ (cr hx)⟩,fun x hx=>?_,fun x hx=>kr rfl hx⟩,⟨fun x hx=>kr rfl hx,fun x hx=>?_,hk,hs.gl,hs.bl⟩,⟨⟨fun Z=>none,fun Z=>none,⟨?_,newB (Nat.le_refl _),fun n c e=>?_,fun n c e=>?_,ok.apart,fun n c e=>iS _ h2 e,fun n c e=>own_at e,fun b o e=>keep' b o (keep b o e),hk⟩,fun x d e=>?_⟩,⟨Kn.none_of I (dQ (Nat.le_refl _)),fun n c e=>Kn.none_of I (dQ (Nat.le_of_succ_le (hW _ _ e)))⟩,fun a o e=>keep' a o (I a o e)⟩⟩
 ·refine ah (free_cell hx) fun c Z hc=>?_;exact⟨kf hx,own_free hx,by rw [hc];rfl⟩
 ·rcases hx with hx |hx
  ·refine xe (cellx hx) fun c hc=>?_;exact⟨.inl (kr rfl hx),by rw [own_at hc];rfl⟩
  ·refine ah (free_cell hx) fun c Z hc=>?_;exact⟨kf hx,by rw [hc];rfl⟩
 ·exact(Heap.Ns.new s.heap (.type "dict")).keeps (pushCells_keeps _ _)
 ·exact(ok.empty n c (bN e)).1
 ·have hc:=(ok.empty n c e).2;exact⟨newB (Nat.le_of_succ_le hc),Nat.ne_of_gt hc⟩
 ·refine xa (uA e) fun hx e=>?_;refine cn (S.vars x d e) fun okn v hv rd=>?_;refine ah (free_cell hx) fun c hc hc'=>?_;refine⟨okn,v,.capt (kf hx) (own_free hx) hc' ?_,rd.mono le⟩;have hk2:env.kindOf x≠some .local:=fun z=>by
   rcases kg h1 (cr hx)with q |q
   ·exact(hs.cel x (.inr q)).1.elim (fun y=>NameKind.noConfusion (Option.some.inj (z.symm.trans y))) fun y=>NameKind.noConfusion (Option.some.inj (z.symm.trans y))
   ·exact(hs.cel x (.inl q)).1.elim (fun y=>NameKind.noConfusion (Option.some.inj (z.symm.trans y))) fun y=>NameKind.noConfusion (Option.some.inj (z.symm.trans y))
  cases hv with
  |loc h _ _=>exact absurd h hk2
  |cell _ h1 h2=>rw [Option.some.inj (hc.symm.trans h1)];exact h2
  |free _ h1 h2 _=>rw [Option.some.inj (hc.symm.trans h1)];exact h2
theorem vi {X:Env→Addr→Heap→Prop}(hs:aD sc env)(S:aP P G B env ρ)(h:bG sc scope=true)(le:G.Le G')(I:G'.In s.heap)(keep:∀b o,B.get? b=some o→s.heap.get? b=some o)
  (k:∀cenv own C H,be scope.names cenv own→aD scope.names cenv→a7 P B cenv own G' H (aH scope.names ρ)→(∀b,Mine cenv own b→C≤b)→(∀b o,s.heap.get? b=some o→H.get? b=some o)→C=s.heap.objs.size→C<H.objs.size→cenv.locals=C→X cenv C H):
  X (wv scope (cellsFrom (s.heap.objs.size+1) scope.names [] ++qC scope.names env) s.heap.objs.size env) s.heap.objs.size (pushCells (s.heap.push {cls:=.type "dict",data:=.dict #[]}) scope.names):=by
 refine b9 (xV hs S h le I keep) fun C he SS=>?_;have keep':∀b o,(s.heap.push {cls:=.type "dict",data:=.dict #[]}).get? b=some o→(pushCells (s.heap.push {cls:=.type "dict",data:=.dict #[]}) scope.names).get? b=some o:=fun b o e=>pushCells_keeps _ _ b o e
 exact k _ _ _ _ C he SS (fun b hb=>hb.elim (fun e=>Nat.le_of_eq e.symm) fun⟨n,hm⟩=>Nat.le_of_succ_le (hW _ _ hm)) (fun b o e=>keep' b o (Heap.get?_push_of_some _ e)) rfl (Heap.lt_size (keep' _ _ (Heap.get?_push_size _ rfl))) rfl
end
theorem a7.mv {P:Params}{B:Heap}{env:Env}{own:List (Str×Addr)}{s s':Shared}{G G':Kn}{ρ:Ro}{Y:Addr→Prop}(S:a7 P B env own G s.heap ρ)(g:Mv Y s G s' G')(hY:∀b,Y b→B.get? b=none∧¬Mine env own b):
  a7 P B env own G' s'.heap ρ:=by
 refine aA S.ex fun m cm F hv=>?_;have kl:∀o,s.heap.get? env.locals=some o→s'.heap.get? env.locals=some o:=fun o e=>g.keep _ o (fun y=>(hY _ y).2 (.inl rfl)) e
 have kc:∀n c,(n,c)∈own→∀o,s.heap.get? c=some o→s'.heap.get? c=some o:=fun n c hm o e=>g.keep _ o (fun y=>(hY _ y).2 (.inr ⟨n,hm⟩)) e
 refine⟨⟨m,cm,⟨F.ns.at' kl,F.newL,fun n c e=>?_,F.newC,F.apart,F.nd,F.at_,fun b o e=>?_,F.kind⟩,fun x d e=>?_⟩,⟨?_,fun n c hm=>?_⟩,g.inn⟩
 ·refine ah (F.cell n c e) fun o ho hd=>?_;exact⟨o,kc n c (bN e) o ho,hd⟩
 ·exact g.keep b o (fun y=>by have:=(hY _ y).1;exact(lW (e.symm.trans this)).elim) (F.keep b o e)
 ·refine cn (hv x d e) fun ok v r rd=>?_;exact⟨ok,v,r,rd.mono g.le⟩
 ·refine iJ F.ns fun o Z Z ho Z=>?_;exact g.none_lt S.off.loc (Heap.lt_size ho)
 ·refine ah (F.cell n c (F.nd n c hm)) fun o ho Z=>?_;exact g.none_lt (S.off.cel n c hm) (Heap.lt_size ho)
theorem a7.weak {P:Params}{B:Heap}{env:Env}{own:List (Str×Addr)}{h:Heap}{G:Kn}{ρ ρ':Ro}(S:a7 P B env own G h ρ')(e:∀x d,ρ x=some d→ρ' x=some d):a7 P B env own G h ρ:=by
 refine aA S.ex fun m cm F hv=>?_;exact⟨⟨m,cm,F,fun x d q=>hv x d (e x d q)⟩,S.off,S.inn⟩
theorem a7.cx {K:Frag}{mg mb:Str→Option Value}{P:Params}{sB s:Shared}{env:Env}{own:List (Str×Addr)}{G:Kn}{ρ:Ro}(S:a7 P sB.heap env own G s.heap ρ)(C:Cx K mg mb sB)(t:sB.toks≤s.toks):Cx K mg mb s:=by
 refine aA S.ex fun m cm F hv=>?_;exact C.keeps F.keep t
theorem a7.mine_lt {P:Params}{B:Heap}{env:Env}{own:List (Str×Addr)}{h:Heap}{G:Kn}{ρ:Ro}(S:a7 P B env own G h ρ){b:Addr}(m:Mine env own b):b<h.objs.size∧B.get? b=none∧G b=none:=by
 refine aA S.ex fun Z cm F hv=>?_;rcases m with rfl |⟨n,hm⟩
 ·refine iJ F.ns fun o Z Z ho Z=>?_;exact⟨Heap.lt_size ho,F.newL,S.off.loc⟩
 ·refine ah (F.cell n b (F.nd n b hm)) fun o ho Z=>?_;exact⟨Heap.lt_size ho,(F.newC n b hm).1,S.off.cel n b hm⟩
theorem lC {sc:aq}{x y:Str}{d:D}{ρ:Ro}(hx:aE sc x=some .free)(q:bF sc y=true):ad ρ y d x=ρ x:=by
 unfold ad;cases z:ar x y with
 |false=>rfl
 |true=>
  obtain rfl:=(ao _ _).mp z;unfold bF at q;rw [hx]at q;simp at q
theorem mc {sc:aq}{x:Str}(hx:aE sc x=some .free){es:List PySem.Expr}{ds:List D}{ρ ρ':Ro}(h:aU sc ρ es ds=some ρ'):ρ' x=ρ x:=
 eZ (C:=fun ρ Z Z ρ'=>ρ' x=ρ x) (fun Z=>rfl) (fun Z Z Z Z Z Z Z q h=>h.trans (lC hx q)) h
theorem oZ {sc:aq}{x:Str}(hx:aE sc x=some .free){t:PySem.Expr}{d:D}{ρ ρ':Ro}(h:aG sc ρ t d=some ρ'):ρ' x=ρ x:=by
 rcases kJ h with⟨y,p,rfl,q,rfl⟩ |⟨es,k,p,ds,rfl,q,e⟩
 ·exact lC hx q
 ·exact mc hx e
noncomputable def wM (sc:aq)(ρ:Ro):Prop:= ∀x d,ρ x=some d→aE sc x=some .free
theorem uB (sc:aq)(ρ:Ro):wM sc (aH sc ρ):=fun Z Z h=>(uA h).1
section
variable {prog:Program}{w:World}{K:Frag}{mg mb:Str→Option Value}{k:Nat}{R:bm}{A:Around}{env:Env}{G:Kn}{E:Value→Shared→Prop}{sc:aq}{ρ:Ro}
theorem xR (H:aw prog w K mg mb k R)(rm:am k A)(hs:aD sc env){s:Shared}(hx:Cx K mg mb s)(S:aP w.params G s.heap env ρ){ifs:List PySem.Expr}{b:Bool}(e:aM (R.ts sc ρ) ifs=some b):
  wpAny (model prog w) A (forIn ifs true fun c r=>if r=true then do let ok ←isTrue c env (eval c env);pure (ForInStep.yield ok)else pure (ForInStep.yield r)) (gN s G b) E s:=by
 cases ifs with
 |nil=>obtain rfl:=Option.some.inj e;exact wpAny_tests_nil ⟨rfl,G,.refl S.inn⟩
 |cons c r=>
  cases r with
  |nil=>exact wpAny_tests_one (H.ts sc ρ c b e A env s G E rm hx hs S)
  |cons=>exact(aa e).elim
theorem rM {sc:aq}{t:PySem.Expr}{ts:Ro→Option Bool}{f:Ro→Option (List D)}{ρ:Ro}{d:D}{r ys:List D}(h:bA sc t ts f ρ (d::r)=some ys):∃ρ' ok,aG sc ρ t d=some ρ'∧ts ρ'=some ok∧
  ((ok=true∧∃y ys',f ρ'=some y∧bA sc t ts f ρ r=some ys'∧ys=y++ys')∨(ok=false∧bA sc t ts f ρ r=some ys)):=by
 replace h:(match aG sc ρ t d with
  |none=>none
  |some ρ'=>match ts ρ' with
   |none=>none
   |some true=>match f ρ' with
    |none=>none
    |some y=>match bA sc t ts f ρ r with
     |none=>none
     |some ys=>some (y++ys)
   |some false=>bA sc t ts f ρ r)=some ys:=h
 cases qb:aG sc ρ t d with
 |none=>rw [qb]at h;exact(aa h).elim
 |some ρ'=>
  rw [qb]at h
  replace h:(match ts ρ' with
   |none=>none
   |some true=>match f ρ' with
    |none=>none
    |some y=>match bA sc t ts f ρ r with
     |none=>none
     |some ys=>some (y++ys)
   |some false=>bA sc t ts f ρ r)=some ys:=h
  cases qt:ts ρ' with
  |none=>rw [qt]at h;exact(aa h).elim
  |some ok=>
   rw [qt]at h;refine⟨ρ',ok,rfl,qt,?_⟩;cases ok with
   |false=>exact .inr ⟨rfl,h⟩
   |true=>
    refine ah (kP h) fun y q1 h=>?_;refine ah (kP h) fun ys' q2 h=>?_;exact .inl ⟨rfl,y,ys',q1,q2,(Option.some.inj h).symm⟩
theorem mR {sB:Shared}{e:PySem.Expr}{depth:Nat}{I:Addr}{acc:Value}{t:PySem.Expr}{ifs:List PySem.Expr}{p:Pos}{BODY:Sem PUnit}{own:List (Str×Addr)}{wr XD:Addr→Prop}{items:List D}{G₀:Kn}{St:Nat→Heap→Prop}
  {f:Ro→Option (List D)}{Ac:List D→Kn→Heap→Prop}{Rr:Result→Shared→Prop}
  (H:aw prog w K mg mb k R)(rm:am k A)(hB:Cx K mg mb sB)(C:be sc env own)(hs:aD sc env)(hρ:∀d ρ',aG sc ρ t d=some ρ'→∀x e,ρ x=some e→ρ' x=some e)
  (hq:(Code.compLoop e depth (.ref I) acc env).quiet=true)(hund:A.under (Code.compLoop e depth (.ref I) acc env)=A)
  (hden:(model prog w).den (Code.compLoop e depth (.ref I) acc env)=(do
   standAt p
   match ←pyNext (.ref I)with
   |none=>pure (.done .next)
   |some v=>
    letOwnedTupleGo t (.ref I) v
    assign t env v
    let ok ←(forIn ifs true fun c r=>if r=true then do let ok ←isTrue c env (eval c env);pure (ForInStep.yield ok)else pure (ForInStep.yield r))
    if ok then BODY
    again (.compLoop e depth (.ref I) acc env):Sem PySem.Fin).onRaise (fun x=>do noteFrame x env;theTreesLotGoes x))
  (T:c7 prog w A t I wr items G₀ St)(hwB:∀b,wr b→sB.heap.get? b=none)(hwM:∀b,wr b→¬Mine env own b)(hwX:∀b,wr b→¬XD b)(hXB:∀b,XD b→sB.heap.get? b=none)(hXM:∀b,XD b→¬Mine env own b)
  (hAc:∀l G h G' h',Ac l G h→G.Le G'→(∀b o,XD b→h.get? b=some o→h'.get? b=some o)→Ac l G' h')
  (hbody:∀(s:Shared)(G:Kn)(l:List D)(ρ':Ro)(y:List D)(E:Value→Shared→Prop),(∀x e,ρ x=some e→ρ' x=some e)→a7 w.params sB.heap env own G s.heap ρ'→Ac l G s.heap→G₀.Le G→sB.toks≤s.toks→(∀b,XD b→G b=none∧b<s.heap.objs.size)→(l++y).length≤100000→f ρ'=some y→
   wpAny (model prog w) A BODY (fun Z s'=> ∃G',Mv (fun b=>Mine env own b∨XD b) s G s' G'∧a7 w.params sB.heap env own G' s'.heap ρ∧Ac (l++y) G' s'.heap) E s):
  ∀(n i:Nat) (s:Shared) (G:Kn) (l ys:List D),items.length - i=n→i≤items.length→St i s.heap→G₀.Le G→a7 w.params sB.heap env own G s.heap ρ→Ac l G s.heap→sB.toks≤s.toks→
   pg wr G s→pg XD G s→bA sc t (fun ρ'=>aM (R.ts sc ρ') ifs) f ρ (items.drop i)=some ys→(l++ys).length≤100000→
   (∀s' G',Mv (fun b=>wr b∨Mine env own b∨XD b) s G s' G'→a7 w.params sB.heap env own G' s'.heap ρ→Ac (l++ys) G' s'.heap→Rr (.ok .next) s')→
   codeAny (model prog w) A (.compLoop e depth (.ref I) acc env) Rr s:=by
 intro n
 induction n with
 |zero=>
  intro i s G l ys hn hi st le S ac tk hw hX hl hll hR;have hil:i=items.length:=Nat.le_antisymm hi (Nat.sub_eq_zero_iff_le.mp hn);rw [List.drop_eq_nil_iff.mpr (Nat.le_of_eq hil.symm)]at hl;obtain rfl:=Option.some.inj hl;refine codeAny_of_tree ?_;rw [hund,hden];refine wpAny_noted (wpAny_bind (wpAny_standAt (wpAny_bind (wpAny_mono (T.done s G _ (hil▸st) S.inn le fun b hb=>(hw b hb).1) (fun r s₁ h1=>?_) fun Z Z z=>z))))
  obtain⟨rfl,g⟩:=h1;exact wpAny_pure (hR s₁ G (g.weak fun b hb=>.inl hb) (S.mv g fun b hb=>⟨hwB b hb,hwM b hb⟩) (by rw [List.append_nil];exact hAc l G s.heap G s₁.heap ac (.refl G) fun b o hb e=>g.keep b o (fun z=>hwX b z hb) e))
 |succ n ih=>
  intro i s G l ys hn hi st le S ac tk hw hX hl hll hR;have hlt:i<items.length:=Nat.lt_of_sub_eq_succ hn;have hn':items.length - (i+1)=n:=by rw [←Nat.sub_sub,hn];rfl
  rw [List.drop_eq_getElem_cons hlt]at hl;obtain⟨ρ',ok,qb,qt,hl⟩:=rM hl;refine codeAny_of_tree ?_;rw [hund,hden];refine ez fun Q1 E1 k1=>?_;refine wpAny_noted (wpAny_bind (wpAny_standAt (wpAny_bind (wpAny_mono (T.item i items[i] s G _ (List.getElem?_eq_getElem hlt) st S.inn le fun b hb=>(hw b hb).1) (fun r s₁ h1=>?_) fun Z Z z=>z))))
  obtain⟨v,rfl,h1⟩:=h1;refine wpAny_bind (wpAny_mono h1 (fun Z s2 h2=>?_) fun Z Z z=>z)
  obtain⟨G2,g2,rd,st2⟩:=h2;have S2:=S.mv g2 fun b hb=>⟨hwB b hb,hwM b hb⟩
  refine wpAny_bind (wpAny_mono (mx rm.hh S2 C rd qb) (fun Z s3 h3=>?_) fun Z Z z=>z)
  obtain⟨S3,g3⟩:=h3;have tk3:sB.toks≤s3.toks:=Nat.le_trans tk (Nat.le_trans g2.tk g3.tk);refine wpAny_bind (wpAny_mono (xR H rm hs (S3.cx hB tk3) S3.env qt) (fun r s4 h4=>?_) fun Z Z z=>z)
  obtain⟨rfl,G4,g4⟩:=h4;have S4:=S3.grew g4;have m24:Mv (Mine env own) s2 G2 s4 G4:=g3.trans (ae.mv g4);have m4:Mv (fun b=>wr b∨Mine env own b) s G s4 G4:=(g2.weak fun b hb=>.inl hb).trans (m24.weak fun b hb=>.inr hb)
  have st4:=T.move st2 m24 g2.inn (le.trans g2.le) hwM;have ac4:Ac l G4 s4.heap:=hAc l G s.heap G4 s4.heap ac m4.le fun b o hb e=>m4.keep b o (fun z=>z.elim (fun z=>hwX b z hb) (hXM b hb)) e
  have le4:G₀.Le G4:=le.trans m4.le;have wk:∀x d,ρ x=some d→ρ' x=some d:=hρ _ ρ' qb;have tk4:sB.toks≤s4.toks:=Nat.le_trans tk3 g4.tk;have mX:Mv (fun b=>wr b∨Mine env own b∨XD b) s G s4 G4:=m4.weak fun b hb=>hb.imp id .inl
  rcases hl with⟨rfl,y,ys',qf,ql,rfl⟩ |⟨rfl,ql⟩
  ·rw [←List.append_assoc]at hll hR;refine wpAny_bind (wpAny_mono (hbody s4 G4 l ρ' y _ wk S4 ac4 le4 tk4 (hX.mv m4) (Nat.le_trans (by rw [List.length_append (as:=l++y)];exact Nat.le_add_right _ _) hll) qf) (fun Z s5 h5=>?_) fun Z Z z=>z)
   obtain⟨G5,m5,S5,ac5⟩:=h5
   exact wpAny_pure (k1 _ _ ⟨hq,ih (i+1) s5 G5 (l++y) ys' hn' hlt (T.move st4 m5 m4.inn le4 fun b hb z=>z.elim (hwM b hb) (hwX b hb)) (le4.trans m5.le) S5 ac5 (Nat.le_trans tk4 m5.tk) ((hw.mv m4).mv m5) ((hX.mv m4).mv m5) ql hll fun s' G' g S' ac'=>
    hR s' G' ((mX.trans (m5.weak fun b hb=>.inr hb)).trans g) S' ac'⟩)
  ·exact wpAny_pure (k1 _ _ ⟨hq,ih (i+1) s4 G4 l ys hn' hlt st4 le4 (S4.weak wk) ac4 tk4 (hw.mv m4) (hX.mv m4) ql hll fun s' G' g S' ac'=>hR s' G' (mX.trans g) S' ac'⟩)
end
section
variable {prog:Program}{w:World}{A:Around}{E:Value→Shared→Prop}{s:Shared}
noncomputable abbrev eb (h:Heap)(I:Addr)(x:List Nat)(t:Tok) (i:Nat):Prop:=h.IsStrIter I "str_ascii_iterator" (mk x) t i
theorem lh {it:Addr}{x:List Nat}{t:Tok}{i c:Nat}{Q:Value→Shared→Prop}(hit:eb s.heap it x t i)(hx:x[i]? =some c)
  (hQ:∀h',eb h' it x t (i+1)→Heap.SameBut it s.heap h'→Q (.str (mk [c]) s.toks) {s with heap:=h',toks:=s.toks+1}):wpAny (model prog w) A (Builtin.SmallTypes.nextOf (.ref it)) Q E s:=by
 refine aR (id hit) fun o ho hc hd=>?_;have hT:s.TypeIs (.ref it) "str_ascii_iterator" :=⟨o,ho,hc⟩;have hx':(mk x).cps[i]? =some c:=by simpa using hx
 unfold Builtin.SmallTypes.nextOf
 refine wpAny_bind (wpAny_callSpecial?_slot (name:=Str.ofString "__next__") hT F.slot_str_ascii_iterator_next
  (wpAny_call_entry F.slot_str_ascii_iterator_next hT F.entry_str_ascii_iterator_next ?_ (F.args_str_ascii_iterator_next_1 _)))
 show wpAny _ _ (field (.ref it) 0>>=_) _ _ s
 refine wpAny_bind (wpAny_field ho hd (x:=.str (mk x) t) rfl ?_);show wpAny _ _ (field (.ref it) 1>>=_) _ _ s
 refine wpAny_bind (wpAny_field ho hd (x:=.int i 0) rfl ?_);simp only [Int.toNat_natCast,hx'];refine wpAny_bind (wpAny_setField ho hd (by simp) (wpAny_bind (wpAny_mkStr (wpAny_pure ⟨_,rfl,wpAny_pure (hQ _ ?_ (Heap.SameBut.update ..))⟩) (by show 1≤sizeLine;decide))))
 exact⟨_,Heap.get?_update_self _ ho (Obj.isFreed_of_fields (Obj.data_mapFields hd _)),(Obj.cls_mapFields ..).trans hc,by
  rw [Obj.data_mapFields hd];simp [rawInt]⟩
theorem rn {α:Type}{M:Model}{Q:α→Shared→Prop}(hh:A.handled=none)(h:∀h' e t,(∀c o,s.heap.get? c=some o→h'.get? c=some o)→h'.get? e=some {cls:=.type "StopIteration",data:=.fields #[.ref t,.none,.none,.none,.bool false,.none]}→s.heap.objs.size≤e→s.heap.objs.size≤h'.objs.size→E (.ref e) {s with heap:=h'}):
  wpAny M A (newExc (.type "StopIteration") [] >>=raiseNew) Q E s:=by
 refine wpAny_bind (wpAny_bind (wpAny_newObj_type ?_ (by size_fits)))
 refine wpAny_bind (m:=firstArgMember _ _) (wpAny_of_eq (a:=Value.none) rfl ?_);refine wpAny_newObj_type ?_ (by size_fits)
 refine wpAny_bind (wpAny_handled ?_);rw [hh];refine wpAny_bind (wpAny_pure (wpAny_throw ?_));have z:=Heap.size_push s.heap {cls:=.type "tuple",data:=.seq #[]};refine h _ _ s.heap.objs.size (fun c o e=>Heap.get?_push_of_some _ (Heap.get?_push_of_some _ e)) (Heap.get?_push_size _ rfl) ?_ ?_
 ·exact Nat.le_trans (Nat.le_succ _) (Nat.le_of_eq z.symm)
 ·rw [Heap.size_push];exact Nat.le_succ_of_le (Nat.le_trans (Nat.le_succ _) (Nat.le_of_eq z.symm))
theorem lY {it:Addr}{x:List Nat}{t:Tok}{i:Nat}{Q:Value→Shared→Prop}(hh:A.handled=none)(hit:eb s.heap it x t i)(hx:x[i]? =none)
  (hE:∀h' e,Heap.ExtBut it s.heap h'→(∃o,h'.get? e=some o∧o.cls=.type "StopIteration")→E (.ref e) {s with heap:=h'}):wpAny (model prog w) A (Builtin.SmallTypes.nextOf (.ref it)) Q E s:=by
 refine aR (id hit) fun o ho hc hd=>?_;have hT:s.TypeIs (.ref it) "str_ascii_iterator" :=⟨o,ho,hc⟩;have hx':(mk x).cps[i]? =none:=by simpa using hx
 unfold Builtin.SmallTypes.nextOf
 refine wpAny_bind (wpAny_callSpecial?_slot (name:=Str.ofString "__next__") hT F.slot_str_ascii_iterator_next
  (wpAny_call_entry F.slot_str_ascii_iterator_next hT F.entry_str_ascii_iterator_next ?_ (F.args_str_ascii_iterator_next_1 _)))
 show wpAny _ _ (field (.ref it) 0>>=_) _ _ s
 refine wpAny_bind (wpAny_field ho hd (x:=.str (mk x) t) rfl ?_);show wpAny _ _ (field (.ref it) 1>>=_) _ _ s
 refine wpAny_bind (wpAny_field ho hd (x:=.int i 0) rfl ?_);simp only [Int.toNat_natCast,hx'];refine wpAny_bind (wpAny_rule (wpAny_bind (wpAny_setField ho hd (by simp) (wpAny_bind (wpAny_letGo ?_)))))
 exact rn hh fun h' e t hk he Z Z=>hE h' e (fun c o n q=>hk c o ((Heap.SameBut.update ..).extBut c o n q)) ⟨_,he,rfl⟩
structure ZA (z TI TO i1 i2:Addr):Prop where
 TIz:TI≠z
 TOz:TO≠z
 i1z:i1≠z
 i2z:i2≠z
 TITO:TI≠TO
 TIi1:TI≠i1
 TIi2:TI≠i2
 TOi1:TO≠i1
 TOi2:TO≠i2
 i12:i1≠i2
theorem uT {z TI TO i1 i2:Addr}{k:Nat}{x y:List Nat}{t u:Tok}{c d:Nat}{a b:Value}{Q:Value→Shared→Prop}(D:ZA z TI TO i1 i2)
  (hz:IsZip s.heap z TI TO .none)(hTI:IsPair s.heap TI (.ref i1) (.ref i2))(hTO:IsPair s.heap TO a b)(h1:eb s.heap i1 x t k)(h2:eb s.heap i2 y u k)(hx:x[k]? =some c)(hy:y[k]? =some d)
  (hQ:∀h' tk v1 v2,IsZip h' z TI TO (rawInt s.heap.objs.size)→IsPair h' TO v1 v2→eb h' i1 x t (k+1)→eb h' i2 y u (k+1)→IsPair h' s.heap.objs.size v1 v2→(∃t1,v1=.str (mk [c]) t1)→(∃t2,v2=.str (mk [d]) t2)→
   (∀e o,e≠z→e≠TO→e≠i1→e≠i2→s.heap.get? e=some o→h'.get? e=some o)→Q (.ref s.heap.objs.size) {s with heap:=h',toks:=tk}):
  wpAny (model prog w) A (Builtin.«zip.__next__» ⟨[.ref z],[]⟩) (fun fin s'=> ∃v,fin=.done (.ret v)∧Q v s') E s:=by
 show wpAny _ _ (field (.ref z) 2>>=_) _ _ _
 refine wpAny_bind (wpAny_field hz rfl (x:=.bool false) rfl ?_);show wpAny _ _ (field (.ref z) 3>>=_) _ _ _
 refine wpAny_bind (wpAny_field hz rfl (x:=.ref TI) rfl ?_);refine wpAny_bind (wpAny_seqItems hTI rfl ?_);show wpAny _ _ (Builtin.SmallTypes.ownedTupleIsFree (.ref z)>>=_) _ _ _
 refine wpAny_bind ?_;unfold Builtin.SmallTypes.ownedTupleIsFree;refine wpAny_bind (wpAny_field hz rfl (x:=.none) rfl (wpAny_pure ?_));simp only [if_true];refine wpAny_bind (wpAny_rule ?_);refine wpAny_bind (wpAny_field hz rfl (x:=.ref TO) rfl ?_);refine wpAny_bind (wpAny_setField_rec hz (by simp) fun h₁ hz1 hs1=>?_)
 replace hz1:IsZip h₁ z TI TO .ellipsis:=hz1;refine wpAny_bind ?_;simp only [List.zipIdx_cons,List.zipIdx_nil,List.forIn_cons,List.forIn_nil];refine wpAny_bind (wpAny_bind (wpAny_onRaise ?_));show wpAny _ _ (Builtin.SmallTypes.nextOf (.ref i1)>>=_) _ _ _
 refine wpAny_bind (lh (h1.extBut hs1.extBut D.i1z) hx fun h₂ h12 hs2=>wpAny_pure ?_)
 have hTO2:IsPair h₂ TO a b:=hs2.extBut _ _ D.TOi1 (hs1.extBut _ _ D.TOz hTO);refine wpAny_bind (wpAny_seqItems hTO2 rfl ?_);refine wpAny_bind (wpAny_updateSeq_pair hTO2 fun h3 hTO3 hs3=>?_)
 replace hTO3:IsPair h3 TO (.str (mk [c]) s.toks) b:=hTO3;refine wpAny_bind (wpAny_letGo (wpAny_pure ?_));refine wpAny_bind (wpAny_bind (wpAny_onRaise ?_));show wpAny _ _ (Builtin.SmallTypes.nextOf (.ref i2)>>=_) _ _ _
 refine wpAny_bind (lh (((h2.extBut hs1.extBut D.i2z).extBut hs2.extBut D.i12.symm).extBut hs3.extBut D.TOi2.symm) hy fun h4 h24 hs4=>wpAny_pure ?_)
 have hTO4:IsPair h4 TO (.str (mk [c]) s.toks) b:=hs4.extBut _ _ D.TOi2 hTO3;refine wpAny_bind (wpAny_seqItems hTO4 rfl ?_);refine wpAny_bind (wpAny_updateSeq_pair hTO4 fun h5 hTO5 hs5=>?_)
 replace hTO5:IsPair h5 TO (.str (mk [c]) s.toks) (.str (mk [d]) (s.toks+1)):=hTO5;refine wpAny_bind (wpAny_letGo (wpAny_pure (wpAny_pure ?_)));refine wpAny_bind (wpAny_seqItems hTO5 rfl ?_);refine wpAny_bind (wpAny_newTuple ?_);have hsz:h5.objs.size=s.heap.objs.size:=by rw [hs5.1,hs4.1,hs3.1,hs2.1,hs1.1]
 have hz5:IsZip h5 z TI TO .ellipsis:=hs5.extBut _ _ D.TOz.symm (hs4.extBut _ _ D.i2z.symm (hs3.extBut _ _ D.TOz.symm (hs2.extBut _ _ D.i1z.symm hz1)));have hk5:∀e o,e≠z→e≠TO→e≠i1→e≠i2→s.heap.get? e=some o→h5.get? e=some o:=fun e o c1 c2 c3 c4 q=>
  hs5.extBut _ _ c2 (hs4.extBut _ _ c4 (hs3.extBut _ _ c2 (hs2.extBut _ _ c3 (hs1.extBut _ _ c1 q))))
 have h15:eb h5 i1 x t (k+1):=((h12.extBut hs3.extBut D.TOi1.symm).extBut hs4.extBut D.i12).extBut hs5.extBut D.TOi1.symm;have h25:eb h5 i2 y u (k+1):=h24.extBut hs5.extBut D.TOi2.symm;have hzlt:z<h5.objs.size:=Heap.lt_size hz5;show wpAny _ _ (Builtin.SmallTypes.ownedTupleHandOut (.ref z) (.ref h5.objs.size)>>=_) _ _ _
 refine wpAny_bind ?_;unfold Builtin.SmallTypes.ownedTupleHandOut;have hz6:IsZip (h5.push {cls:=.type "tuple",data:=.seq #[.str (mk [c]) s.toks,.str (mk [d]) (s.toks+1)]}) z TI TO .ellipsis:=Heap.get?_push_of_some _ hz5;refine wpAny_bind (wpAny_setField_rec hz6 (by simp) fun h7 hz7 hs7=>?_)
 replace hz7:IsZip h7 z TI TO (rawInt h5.objs.size):=hz7;refine wpAny_setField_rec hz7 (by simp) fun h8 hz8 hs8=>?_
 replace hz8:IsZip h8 z TI TO (rawInt h5.objs.size):=hz8;have up:∀e o,e≠z→h5.get? e=some o→h8.get? e=some o:=fun e o c1 q=>hs8.extBut _ _ c1 (hs7.extBut _ _ c1 (Heap.get?_push_of_some _ q))
 have hT8:IsPair h8 h5.objs.size (.str (mk [c]) s.toks) (.str (mk [d]) (s.toks+1)):=hs8.extBut _ _ (Nat.ne_of_gt hzlt) (hs7.extBut _ _ (Nat.ne_of_gt hzlt) (Heap.get?_push_size _ rfl));rw [hsz]at hz8 hT8;refine wpAny_pure ⟨_,rfl,?_⟩;show Q (.ref h5.objs.size) _
 rw [hsz];exact hQ h8 _ _ _ hz8 (up _ _ D.TOz hTO5) (let⟨o,ho,r⟩:=h15;⟨o,up _ o D.i1z ho,r⟩) (let⟨o,ho,r⟩:=h25;⟨o,up _ o D.i2z ho,r⟩) hT8 ⟨_,rfl⟩ ⟨_,rfl⟩ fun e o c1 c2 c3 c4 q=>up e o c1 (hk5 e o c1 c2 c3 c4 q)
theorem xx {z TI TO i1 i2:Addr}{k:Nat}{x:List Nat}{t:Tok}{Q:PySem.Fin→Shared→Prop}(hh:A.handled=none)(D:ZA z TI TO i1 i2)
  (hz:IsZip s.heap z TI TO .none)(hTI:IsPair s.heap TI (.ref i1) (.ref i2))(h1:eb s.heap i1 x t k)(hx:x[k]? =none)
  (hE:∀h' e,(∀c o,c≠z→c≠i1→s.heap.get? c=some o→h'.get? c=some o)→(∃o,h'.get? e=some o∧o.cls=.type "StopIteration")→E (.ref e) {s with heap:=h'}):
  wpAny (model prog w) A (Builtin.«zip.__next__» ⟨[.ref z],[]⟩) Q E s:=by
 show wpAny _ _ (field (.ref z) 2>>=_) _ _ _
 refine wpAny_bind (wpAny_field hz rfl (x:=.bool false) rfl ?_);show wpAny _ _ (field (.ref z) 3>>=_) _ _ _
 refine wpAny_bind (wpAny_field hz rfl (x:=.ref TI) rfl ?_);refine wpAny_bind (wpAny_seqItems hTI rfl ?_);show wpAny _ _ (Builtin.SmallTypes.ownedTupleIsFree (.ref z)>>=_) _ _ _
 refine wpAny_bind ?_;unfold Builtin.SmallTypes.ownedTupleIsFree;refine wpAny_bind (wpAny_field hz rfl (x:=.none) rfl (wpAny_pure ?_));simp only [if_true];refine wpAny_bind (wpAny_rule ?_);refine wpAny_bind (wpAny_field hz rfl (x:=.ref TO) rfl ?_);refine wpAny_bind (wpAny_setField_rec hz (by simp) fun h₁ hz1 hs1=>?_)
 replace hz1:IsZip h₁ z TI TO .ellipsis:=hz1;refine wpAny_bind ?_;simp only [List.zipIdx_cons,List.zipIdx_nil,List.forIn_cons,List.forIn_nil];refine wpAny_bind (wpAny_bind (wpAny_onRaise ?_));show wpAny _ _ (Builtin.SmallTypes.nextOf (.ref i1)>>=_) _ _ _
 refine wpAny_bind (lY hh (h1.extBut hs1.extBut D.i1z) hx fun h2 e hs2 he=>?_)
 refine ah he fun oe hoe hce=>?_;have hz2:IsZip h2 z TI TO .ellipsis:=hs2 _ _ D.i1z.symm hz1;have hez:e≠z:=fun x=>by subst x;rw [hz2]at hoe;obtain rfl:=Option.some.inj hoe;simp at hce
 exact wpAny_setField_rec hz2 (by simp) fun h3 Z hs3=>hE h3 e (fun c o c1 c3 x=>hs3.extBut _ _ c1 (hs2 _ _ c3 (hs1.extBut _ _ c1 x))) ⟨oe,hs3.extBut _ _ hez hoe,hce⟩
end
noncomputable abbrev w3 (h:Heap)(x:List Nat)(t:Tok):Heap:=h.push {cls:=.type "str_ascii_iterator",data:=.fields #[.str (mk x) t,.int 0 0]}
noncomputable abbrev sH (h:Heap)(x y:List Nat)(t u:Tok):Heap:=(w3 h x t).push {cls:=.type "str_ascii_iterator",data:=.fields #[.str (mk y) u,.int 0 0]}
noncomputable abbrev sG (h:Heap)(x y:List Nat)(t u:Tok):Heap:=(sH h x y t u).push {cls:=.type "tuple",data:=.seq #[.ref h.objs.size,.ref (w3 h x t).objs.size]}
noncomputable abbrev sF (h:Heap)(x y:List Nat)(t u:Tok):Heap:=(sG h x y t u).push {cls:=.type "tuple",data:=.seq #[.none,.none]}
noncomputable abbrev nE (h:Heap)(x y:List Nat)(t u:Tok):Heap:=(sF h x y t u).push {cls:=.type "zip",data:=.fields #[.none,.bool false,.bool false,.ref (sH h x y t u).objs.size,.ref (sG h x y t u).objs.size]}
set_option maxHeartbeats 1000000 in
theorem nc (x y:List Nat)(t u:Tok)(hx:(mk x).cps.all (· <128)=true)(hy:(mk y).cps.all (· <128)=true):
  Meets (Builtin.«zip.__new__» ⟨[.type "zip",.str (mk x) t,.str (mk y) u],[]⟩) (fun Z R s=>R (.ok (.ret (.ref (sF s.heap x y t u).objs.size))) {s with heap:=nE s.heap x y t u}):=
 .of_wp fun prog w A R s h=>by
  obtain⟨hp,g,d,tk,os⟩:=s;have hsub:=sub_zip
  wp_walk using wpAny_pyIter_ascii hx,wpAny_pyIter_ascii hy
  exact⟨_,rfl,h⟩
section
variable {prog:Program}{w:World}{A:Around}{E:Value→Shared→Prop}{s:Shared}
theorem za (n:Nat):ZA (n+4) (n+2) (n+3) n (n+1):=by constructor<;>(intro h;have h':(_:Nat)=_:=h;lia)
theorem oS {x y:List Nat}{t u:Tok}{Q:Value→Shared→Prop}(hx:(mk x).cps.all (· <128)=true)(hy:(mk y).cps.all (· <128)=true)
  (h:∀h' z TI TO i1 i2,ZA z TI TO i1 i2→IsZip h' z TI TO .none→IsPair h' TI (.ref i1) (.ref i2)→IsPair h' TO .none .none→eb h' i1 x t 0→eb h' i2 y u 0→(∀c o,s.heap.get? c=some o→h'.get? c=some o)→
   (∀b,b=z∨b=TI∨b=TO∨b=i1∨b=i2→s.heap.objs.size≤b)→Q (.ref z) {s with heap:=h'}):
  wpAny (model prog w) A (call (.type "zip") [.str (mk x) t,.str (mk y) u]) Q E s:=by
 refine callType_new F.called_zip (by decide) (F.typeCall_zip_2 _ _) (F.newCall_zip_2 _ _) (fun obj=>F.args_object_init_3 obj _ _) F.entry_zip_new (nc x y t u hx hy) ?_
 have z1:(w3 s.heap x t).objs.size=s.heap.objs.size+1:=Heap.size_push ..;have z2:(sH s.heap x y t u).objs.size=s.heap.objs.size+2:=by unfold sH;rw [Heap.size_push,z1]
 have z3:(sG s.heap x y t u).objs.size=s.heap.objs.size+3:=by unfold sG;rw [Heap.size_push,z2]
 have z4:(sF s.heap x y t u).objs.size=s.heap.objs.size+4:=by unfold sF;rw [Heap.size_push,z3]
 have g5:(nE s.heap x y t u).get? (sF s.heap x y t u).objs.size=some _:=Heap.get?_push_size _ rfl;have g4:(nE s.heap x y t u).get? (sG s.heap x y t u).objs.size=some _:=Heap.get?_push_of_some _ (Heap.get?_push_size _ rfl);have g3:(nE s.heap x y t u).get? (sH s.heap x y t u).objs.size=some _:=Heap.get?_push_of_some _ (Heap.get?_push_of_some _ (Heap.get?_push_size _ rfl));have g2:(nE s.heap x y t u).get? (w3 s.heap x t).objs.size=some _:=Heap.get?_push_of_some _ (Heap.get?_push_of_some _ (Heap.get?_push_of_some _ (Heap.get?_push_size _ rfl)));have g1:(nE s.heap x y t u).get? s.heap.objs.size=some _:=Heap.get?_push_of_some _ (Heap.get?_push_of_some _ (Heap.get?_push_of_some _ (Heap.get?_push_of_some _ (Heap.get?_push_size _ rfl))));have keep:∀c o,s.heap.get? c=some o→(nE s.heap x y t u).get? c=some o:=fun c o e=>Heap.get?_push_of_some _ (Heap.get?_push_of_some _ (Heap.get?_push_of_some _ (Heap.get?_push_of_some _ (Heap.get?_push_of_some _ e))))
 rw [z2,z3,z4]at g5;rw [z1,z2]at g3;rw [z3]at g4;rw [z1]at g2;show _∧_
 rw [z4];exact⟨⟨_,g5,rfl⟩,h _ (s.heap.objs.size+4) (s.heap.objs.size+2) (s.heap.objs.size+3) s.heap.objs.size (s.heap.objs.size+1) (za _) g5 g3 g4 ⟨_,g1,rfl,rfl⟩ ⟨_,g2,rfl,rfl⟩ keep fun b hb=>by rcases hb with rfl |rfl |rfl |rfl |rfl<;>first |exact Nat.le_refl _ |exact Nat.le_add_right _ _⟩
theorem uV {a:List Nat}:∀{b:List Nat}{i:Nat}{d:D},(jp a b)[i]? =some d→∃c e,a[i]? =some c∧b[i]? =some e∧d=.tup [.str [c],.str [e]]:=by
 induction a with
 |nil=>exact fun h=>(aa h).elim
 |cons a r ih=>
  intro b i d h;cases b with
  |nil=>exact(aa h).elim
  |cons b t=>
   cases i with
   |zero=>exact⟨a,b,rfl,rfl,(Option.some.inj h).symm⟩
   |succ i=>exact ih h
theorem uU {a:List Nat}:∀{b:List Nat},a.length=b.length→(jp a b).length=a.length:=by
 induction a with
 |nil=>exact fun Z=>rfl
 |cons a r ih=>
  intro b h;cases b with
  |nil=>exact(Nat.succ_ne_zero _ h).elim
  |cons b t=>exact congrArg Nat.succ (ih (Nat.succ.inj h))
theorem tup_i {t:PySem.Expr}(h:iZ t=true):∃es k p,t=.Tuple es k p:=by
 cases t with
 |Tuple es k p=>exact⟨_,_,_,rfl⟩
 |_=>exact(aj h).elim
structure Zs (z TI TO i1 i2:Addr)(x y:List Nat)(t u:Tok) (k:Nat)(h:Heap):Prop where
 hz:IsZip h z TI TO .none
 ti:IsPair h TI (.ref i1) (.ref i2)
 to:∃a b,IsPair h TO a b
 a1:eb h i1 x t k
 a2:eb h i2 y u k
theorem eb.of {h h':Heap}{i:Addr}{x:List Nat}{t:Tok}{k:Nat}(a:eb h i x t k)(hk:∀o,h.get? i=some o→h'.get? i=some o):eb h' i x t k:=a.elim fun o r=>⟨o,hk o r.1,r.2⟩
theorem sP {z TI TO i1 i2:Addr}{x y:List Nat}{t u:Tok}{G₀:Kn}{target:PySem.Expr}(ht:iZ target=true)(hh:A.handled=none)(D:ZA z TI TO i1 i2)(hl:x.length=y.length):
  c7 prog w A target z (fun b=>b=z∨b=TI∨b=TO∨b=i1∨b=i2) (jp x y) G₀ (Zs z TI TO i1 i2 x y t u):=by
 have w1:∀{c b:Addr},c=b→(b=z∨b=TI∨b=TO∨b=i1∨b=i2)→(c=z∨c=TI∨c=TO∨c=i1∨c=i2):=fun e h=>e▸h
 have k1:z=z∨z=TI∨z=TO∨z=i1∨z=i2:=.inl rfl;have k2:TI=z∨TI=TI∨TI=TO∨TI=i1∨TI=i2:=.inr (.inl rfl);have k3:TO=z∨TO=TI∨TO=TO∨TO=i1∨TO=i2:=.inr (.inr (.inl rfl));have k4:i1=z∨i1=TI∨i1=TO∨i1=i1∨i1=i2:=.inr (.inr (.inr (.inl rfl)));have k5:i2=z∨i2=TI∨i2=TO∨i2=i1∨i2=i2:=.inr (.inr (.inr (.inr rfl)));refine⟨fun k h h' a hk=>⟨hk z _ (.inl k1) a.hz,hk TI _ (.inl k2) a.ti,a.to.elim fun p q=>q.elim fun q r=>⟨p,q,hk TO _ (.inl k3) r⟩,a.a1.of fun o=>hk i1 o (.inl k4),a.a2.of fun o=>hk i2 o (.inl k5)⟩,fun k d s G E hd st inn le off=>?_,fun s G E st inn le off=>?_,fun k s Q E st hQ=>wpAny_pyIter_zip st.hz hQ⟩
 ·refine aX (uV hd) fun c e hc he z1=>?_;subst z1
  refine aV st.to fun a b hTO=>?_;have hT:s.TypeIs (.ref z) "zip" :=⟨_,st.hz,rfl⟩;refine pE (tup_i ht) fun es tk' tp z2=>?_;subst z2
  refine aK (ez fun Q1 E1 q1=>?_)
  refine wpAny_bind (wpAny_attempt (wpAny_callSpecial?_slot (name:=Str.ofString "__next__") hT F.slot_zip_next (wpAny_call_entry F.slot_zip_next hT F.entry_zip_next
   (uT D st.hz st.ti hTO st.a1 st.a2 hc he fun h' tk v1 v2 b1 b2 b3 b4 b5 b6 b7 bk=>wpAny_pure (q1 _ _ fun hsz=>⟨_,rfl,?_⟩)) (F.args_zip_next_1 _))))
  refine xe b6 fun t1 z3=>?_;subst z3
  refine xe b7 fun t2 z4=>?_;subst z4
  refine wpAny_letOwnedTupleGo_zip b1 fun h'' hz'' hs''=>?_;have hk:∀q o,q≠z→q≠TO→q≠i1→q≠i2→s.heap.get? q=some o→h''.get? q=some o:=fun q o n1 n2 n3 n4 hq=>hs''.extBut q o n1 (bk q o n1 n2 n3 n4 hq)
  have hn:G s.heap.objs.size=none:=Kn.none_ge inn (Nat.le_refl _);have ne:∀{q c:Addr} {o:Obj},G q=some o→(c=z∨c=TI∨c=TO∨c=i1∨c=i2)→q≠c:=fun hq hc e=>aa ((off _ hc).symm.trans (e▸hq))
  have m:Mv (fun b=>b=z∨b=TI∨b=TO∨b=i1∨b=i2) s G {s with heap:=h'',toks:=tk} G:=⟨⟨h'',tk,rfl⟩,Nat.le_trans hsz.1 (Nat.le_of_eq hs''.1.symm),hsz.2,fun q o nq=>hk q o (fun e=>nq (w1 e k1)) (fun e=>nq (w1 e k3)) (fun e=>nq (w1 e k4)) (fun e=>nq (w1 e k5)),.refl G,fun q o hq=>hk q o (ne hq k1) (ne hq k3) (ne hq k4) (ne hq k5) (inn q o hq),fun Z Z e=>.inl e⟩
  exact⟨_,m.learn (hs''.extBut _ _ (Nat.ne_of_gt (Heap.lt_size st.hz)) b5) (Nat.le_refl _) hn,.tup Kn.add_self (.cons (.str [c] t1) (.cons (.str [e] t2) .nil)),hz'',hk TI _ D.TIz D.TITO D.TIi1 D.TIi2 st.ti,⟨_,_,hs''.extBut _ _ D.TOz b2⟩,b3.of fun o=>hs''.extBut _ o D.i1z,b4.of fun o=>hs''.extBut _ o D.i2z⟩
 ·have hT:s.TypeIs (.ref z) "zip" :=⟨_,st.hz,rfl⟩;have hx:x[(jp x y).length]? =none:=by rw [uU hl];exact List.getElem?_eq_none (Nat.le_refl _)
  refine aK (ez fun Q1 E1 q1=>?_)
  refine wpAny_bind (wpAny_attempt (wpAny_callSpecial?_slot (name:=Str.ofString "__next__") hT F.slot_zip_next (wpAny_call_entry F.slot_zip_next hT F.entry_zip_next
   (xx hh D st.hz st.ti st.a1 hx fun h' e hk he=>?_) (F.args_zip_next_1 _))))
  refine ah he fun o ho hc=>?_;refine wpAny_bind (wpAny_isInstance (T:= "StopIteration") (b:=true) ⟨o,ho,hc⟩ isSubtype_stop ?_);have ne:∀{q c:Addr} {o:Obj},G q=some o→(c=z∨c=TI∨c=TO∨c=i1∨c=i2)→q≠c:=fun hq hc e=>aa ((off _ hc).symm.trans (e▸hq))
  exact wpAny_pure (q1 _ _ fun hsz=>⟨rfl,⟨h',s.toks,rfl⟩,hsz.1,Nat.le_refl _,fun q o nq=>hk q o (fun e=>nq (w1 e k1)) (fun e=>nq (w1 e k4)),.refl G,fun q o hq=>hk q o (ne hq k1) (ne hq k4) (inn q o hq),fun Z Z e=>.inl e⟩)
end
section
variable {prog:Program}{w:World}{K:Frag}{mg mb:Str→Option Value}{k:Nat}{R:bm}{A:Around}{env:Env}{s:Shared}{G:Kn}{E:Value→Shared→Prop}{sc:aq}{ρ:Ro}
theorem nh {n i:Nat}{d:D}(hd:((List.range n).map fun(k:Nat)=>D.int (k:Int))[i]? =some d):d=.int (i:Int):=by
 rw [List.getElem?_map]at hd;refine ah (Option.map_eq_some_iff.mp hd) fun j q z1=>?_;subst z1
 refine xe (List.getElem?_eq_some_iff.mp q) fun hl he=>?_;rw [List.getElem_range]at he;rw [he]
theorem ls {r:Addr}{n:Int}{t u v:Tok}(target:PySem.Expr)(hh:A.handled=none)(I:G.In s.heap)(hr:IsRange s.heap r 0 n 1 t u v)(h0:0≤n)(h1:n≤100000):
  wpAny (model prog w) A (pyIter (.ref r)) (eo prog w A target s G ((List.range n.toNat).map fun(k:Nat)=>D.int (k:Int))) E s:=by
 have hz:Builtin.Range.rangeSize 0 n 1=(n.toNat:Int):=by rw [rangeSize_one];split<;>lia
 refine wpAny_pyIter_range hr (small_one (by lia) (by lia) (by lia) (by lia)) ⟨s.heap.objs.size,(· ∈ [s.heap.objs.size]),_,rfl,ae.push I _ s.toks (Nat.le_refl _),
  c7.ofWalks target (Walks.range (prog:=prog) (w:=w) hh s.heap.objs.size 0 1 n.toNat) (by rw [List.length_map,List.length_range]) (fun i v d hv hd=>?_) (fun b hb=>.inl hb) (fun i h st=>⟨_,_,st,rfl,by decide⟩),?_,fun b hb=>?_⟩
 ·obtain⟨t,rfl⟩:=hv;rw [nh hd,Int.mul_one,Int.zero_add];exact .int _ _
 ·have:=Heap.get?_push_size s.heap (o:={cls:=.type "range_iterator",data:=.fields #[rawInt 0,rawInt (Builtin.Range.rangeSize 0 n 1),rawInt 1]}) rfl;rw [hz]at this⊢;show IsRangeIter _ _ (0+((0:Nat):Int)*1) ((n.toNat:Int) - ((0:Nat):Int)) 1
  rw [Int.mul_one,Int.zero_add,show((n.toNat:Int) - ((0:Nat):Int))=n.toNat from Int.sub_zero _]
  exact this
 ·rw [List.mem_singleton.mp hb];exact⟨Nat.le_refl _,by show s.heap.objs.size<(s.heap.push _).objs.size;rw [Heap.size_push];exact Nat.lt_succ_self _⟩
theorem mU {l:List Nat}(h:eH l=true):(mk l).cps.all (· <128)=true:=by
 suffices q:∀x∈l,x<128 by
  rw [Array.all_eq_true'];exact fun x hx=>decide_eq_true (q x (List.mem_toArray.mp hx))
 induction l with
 |nil=>exact fun x hx=>(List.not_mem_nil hx).elim
 |cons a r ih=>
  obtain⟨q,h⟩:Nat.blt a 128=true∧eH r=true:=by
   revert h
   show(match Nat.blt a 128 with |true=>eH r |false=>false)=true→_
   cases Nat.blt a 128 with
   |false=>exact fun h=>(aj h).elim
   |true=>exact fun h=>⟨rfl,h⟩
  exact fun x hx=>(List.mem_cons.mp hx).elim (fun e=>e▸Nat.le_of_ble_eq_true q) (ih h x)
theorem kA {e:PySem.Expr}{f:Str}{args:List PySem.Expr}(h:iF e=some (f,args)):∃p pos,e=.Call (.Name f p) args [] pos:=by
 cases e with
 |Call g as ks pos=>
  cases g with
  |Name x p=>
   cases ks with
   |nil=>obtain⟨rfl,rfl⟩:=Prod.mk.inj (Option.some.inj h);exact⟨_,_,rfl⟩
   |cons=>exact(aa h).elim
  |_=>exact(aa h).elim
 |_=>exact(aa h).elim
theorem nO {d:D}{x:List Nat}(h:gy d=some x):d=.str x:=by
 cases d with
 |str y=>rw [Option.some.inj h]
 |_=>exact(aa h).elim
theorem zE {l:List D}{a b:List Nat}(h:qQ l=some (a,b)):l=[.str a,.str b]:=by
 rcases l with _ |⟨x,_ |⟨y,_ |⟨_,_⟩⟩⟩
 ·exact(aa h).elim
 ·exact(aa h).elim
 ·replace h:(match gy x with |none=>none |some a=>match gy y with |none=>none |some b=>some (a,b))=some (a,b):=h
  cases q1:gy x with
  |none=>rw [q1]at h;exact(aa h).elim
  |some a'=>
   rw [q1]at h;replace h:(match gy y with |none=>none |some b=>some (a',b))=some (a,b):=h
   cases q2:gy y with
   |none=>rw [q2]at h;exact(aa h).elim
   |some b'=>
    rw [q2]at h;refine xa (Prod.mk.inj (Option.some.inj h)) fun z5 z6=>?_;subst z5;subst z6
    rw [nO q1,nO q2]
 ·exact(aa h).elim
theorem yC {t e:PySem.Expr}{items:List D}(q:bb R sc ρ t e=some items):(∃d,R.ev sc ρ e=some d∧bn d=some items)∨
  (∃f p args pos,e=.Call (.Name f p) args [] pos∧aY sc f=true∧f= "range" ∧∃ds,bi (R.ev sc ρ) args=some ds∧kU ds=some items)∨
  ∃f p args pos,e=.Call (.Name f p) args [] pos∧aY sc f=true∧f= "zip" ∧∃a b,bi (R.ev sc ρ) args=some [.str a,.str b]∧iZ t=true∧eH a=true∧eH b=true∧a.length=b.length∧a.length≤1000∧items=jp a b:=by
 replace q:(match iF e with
 |none=>match R.ev sc ρ e with |some d=>bn d |none=>none
 |some q=>
  if aY sc q.1&&ar q.1 "range" then(match bi (R.ev sc ρ) q.2 with |some ds=>kU ds |none=>none)
  else if aY sc q.1&&ar q.1 "zip" then(match bi (R.ev sc ρ) q.2 with
   |some l=>match qQ l with
    |none=>none
    |some p=>if iZ t&&eH p.1&&eH p.2&&Nat.beq p.1.length p.2.length&&Nat.ble p.1.length 1000 then some (jp p.1 p.2)else none
   |none=>none)
  else(match R.ev sc ρ e with |some d=>bn d |none=>none))=some items:=q
 cases c:iF e with
 |none=>
  rw [c]at q;exact .inl (iu q)
 |some r=>
  rw [c]at q;obtain⟨f,args⟩:=r;refine aV (kA c) fun p pos z7=>?_;subst z7
  rcases iD q with⟨hf,q⟩ |⟨_,q⟩
  ·refine xa (Bool.and_eq_true_iff.mp hf) fun g hf=>?_;exact .inr (.inl ⟨f,p,args,pos,rfl,g,(ao _ _).mp hf,eg q⟩)
  rcases iD q with⟨hf,q⟩ |⟨_,q⟩
  ·refine xa (Bool.and_eq_true_iff.mp hf) fun g hf=>?_;refine ah (eg q) fun l q1 q=>?_;refine .inr (.inr ⟨f,p,args,pos,rfl,g,(ao _ _).mp hf,?_⟩);cases z:qQ l with
   |none=>rw [z]at q;exact(aa q).elim
   |some ab=>
    rw [z]at q;refine xa (aL q) fun hc q=>?_;refine xa (Bool.and_eq_true_iff.mp hc) fun hc h5=>?_;refine xa (Bool.and_eq_true_iff.mp hc) fun hc h4=>?_;refine xa (Bool.and_eq_true_iff.mp hc) fun hc h3=>?_;refine xa (Bool.and_eq_true_iff.mp hc) fun h1 h2=>?_;exact⟨ab.1,ab.2,q1.trans (congrArg some (zE z)),h1,h2,h3,Nat.eq_of_beq_eq_true h4,Nat.le_of_ble_eq_true h5,q.symm⟩
  ·exact .inl (iu q)
theorem nS {ds l:List D}(e:kU ds=some l):∃n,ds=[.int n]∧(decide (0≤n)&&decide (n≤100000))=true∧(List.range n.toNat).map (fun(k:Nat)=>D.int (k:Int))=l:=by
 rcases ds with _ |⟨a,_ |⟨_,_⟩⟩
 ·exact(aa e).elim
 ·cases a<;>first |exact(aa e).elim |skip
  obtain⟨h,e⟩:=aL e;exact⟨_,rfl,h,e⟩
 ·cases a<;>exact(aa e).elim
theorem jt (H:aw prog w K mg mb k R)(rm:am k A)(hs:aD sc env)(hx:Cx K mg mb s)(S:aP w.params G s.heap env ρ){e:PySem.Expr}(t:PySem.Expr){items:List D}(q:bb R sc ρ t e=some items):
  wpAny (model prog w) A (eval e env) (fun x s₁=> ∃G₁ s₀,ae s G s₀ G₁∧wpAny (model prog w) A (pyIter x) (eo prog w A t s₀ G₁ items) E s₁) E s:=by
 refine dC fun Q1 k1=>?_;rcases yC q with⟨d,q1,q2⟩ |⟨f,p,args,pos,rfl,g,rfl,ds,q1,q2⟩ |⟨f,p,args,pos,rfl,g,rfl,a,b,q1,ht,ha,hb,hlen,_,rfl⟩
 ·exact bI (H.ev sc ρ e _ q1 A env s G E rm hx hs S) fun v s₁ G₁ g1 r₁=>k1 _ _ ⟨G₁,s₁,g1,yj t rm.hh g1.inn r₁ q2⟩
 ·refine aR (nS q2) fun n z8 hn z9=>?_;subst z8;subst z9
  refine xa (Bool.and_eq_true_iff.mp hn) fun n1 n2=>?_;refine wpAny_Call_Name_kw (cE hx hs g (hx.blt ("range",.type "range") (List.mem_of_getElem? (i:=5) rfl)) (bD (by nofun) q1 (dH H rm hs pos args _ s G q1 hx S fun vs s₁ G₁ g1 r=>?_)))
  refine ah (kT r) fun v z10 rd=>?_;subst z10
  refine xe rd.int_i fun tn z11=>?_;subst z11
  exact call_range_1 (k1 _ _ ⟨G₁,_,g1.trans (ae.push g1.inn {cls:=.type "range",data:=.fields #[.int 0 s₁.toks,.int n tn,.int 1 (s₁.toks+1)]} (s₁.toks+1+1) nK),ls t rm.hh (fun a o e=>Heap.get?_push_of_some _ (g1.inn a o e)) (Heap.get?_push_size _ rfl) (of_decide_eq_true n1) (of_decide_eq_true n2)⟩)
 ·refine wpAny_Call_Name_kw (cE hx hs g (hx.blt ("zip",.type "zip") (List.mem_of_getElem? (i:=6) rfl)) (bD (by nofun) q1 (dH H rm hs pos args _ s G q1 hx S fun vs s₁ G₁ g1 r=>?_)))
  refine aX (nR r) fun v u z12 r1 r2=>?_;subst z12
  refine xe r1.str_i fun Z z13=>?_;subst z13
  refine xe r2.str_i fun Z z14=>?_;subst z14
  refine aK (dC fun Q2 k2=>oS (mU ha) (mU hb) fun h' z TI TO i1 i2 D c1 c2 c3 c4 c5 hk hge=>k2 _ _ fun hsz=>k1 _ _ ⟨G₁,s₁,g1,?_⟩)
  refine wpAny_pyIter_zip c1 ⟨z,_,_,rfl,ae.same_known g1.inn hsz.1 hk (Nat.le_refl _),sP ht rm.hh D hlen,⟨c1,c2,⟨_,_,c3⟩,c4,c5⟩,fun b hb=>⟨hge b hb,?_⟩⟩
  rcases hb with hb |hb |hb |hb |hb<;>rw [hb]
  ·exact Heap.lt_size c1
  ·exact Heap.lt_size c2
  ·exact Heap.lt_size c3
  ·exact c4.elim fun o ho=>Heap.lt_size ho.1
  ·exact c5.elim fun o ho=>Heap.lt_size ho.1
theorem je {e iter:PySem.Expr}{scope:Scope}{pos:Pos}{newAcc:Sem Value}{t:PySem.Expr}{ifs:List PySem.Expr}{gs:List Comprehension}{use:Option (Value→Sem Unit)}{Q:Value→Shared→Prop}
  {Ac:Addr→List D→Kn→Heap→Prop}{f:Ro→Option (List D)}{BODY:Addr→Env→Sem PUnit}{items ys:List D}{o₀:Obj}{p:Pos}
  (H:aw prog w K mg mb k R)(rm:am k A)(hs:aD sc env)(hx:Cx K mg mb s)(S:aP w.params G s.heap env ρ)
  (hcl:clausesOf e=⟨t,iter,ifs,0⟩::gs)(hsc:bG sc scope=true)(hset:bx iter=false)(hq:∀E,wpAny (model prog w) A (eval iter env) (fun x s₁=> ∃G₁ s₀,ae s G s₀ G₁∧wpAny (model prog w) A (pyIter x) (eo prog w A t s₀ G₁ items) E s₁) E s)
  (hnew:newAcc=newObj o₀.cls o₀.data)(ho0:o₀={cls:=o₀.cls,data:=o₀.data})(hty:∃n,o₀.cls=.type n)(hfr:o₀.isFreed=false)(hsz:sizeOk o₀.data)
  (hquiet:∀I D env,(Code.compLoop e 0 (.ref I) (.ref D) env).quiet=true)(hund:∀I D env,A.under (Code.compLoop e 0 (.ref I) (.ref D) env)=A)
  (hden:∀I D env,(model prog w).den (Code.compLoop e 0 (.ref I) (.ref D) env)=(do
   standAt p
   match ←pyNext (.ref I)with
   |none=>pure (.done .next)
   |some v=>
    letOwnedTupleGo t (.ref I) v
    assign t env v
    let ok ←(forIn ifs true fun c r=>if r=true then do let ok ←isTrue c env (eval c env);pure (ForInStep.yield ok)else pure (ForInStep.yield r))
    if ok then BODY D env
    again (.compLoop e 0 (.ref I) (.ref D) env):Sem PySem.Fin).onRaise (fun x=>do noteFrame x env;theTreesLotGoes x))
  (hstart:∀I D env Rr s,codeAny (model prog w) A (.compLoop e 0 (.ref I) (.ref D) env) Rr s→wpAny (model prog w) A (pyIter (.ref I)) (fun it s'=>codeAny (model prog w) A (.compLoop e 0 it (.ref D) env) Rr s') (notedBy (model prog w) A env fun x s'=>Rr (.error x) s') s→
   codeAny (model prog w) A (.compStart e 0 (.ref I) (.ref D) env) Rr s)
  (hAc0:∀D G h,h.get? D=some o₀→Ac D [] G h)
  (hAc:∀D l G h G' h',Ac D l G h→G.Le G'→(∀o,h.get? D=some o→h'.get? D=some o)→Ac D l G' h')
  (hbody:∀(D:Addr)(cenv:Env)(own:List (Str×Addr))(sB:Shared)(ρ0:Ro)(s:Shared)(G:Kn)(l:List Mine.D)(ρ':Ro)(y:List Mine.D)(E:Value→Shared→Prop),ρ0=aH scope.names ρ→be scope.names cenv own→aD scope.names cenv→Cx K mg mb sB→¬Mine cenv own D→sB.heap.get? D=none→
   (∀x e,ρ0 x=some e→ρ' x=some e)→a7 w.params sB.heap cenv own G s.heap ρ'→Ac D l G s.heap→sB.toks≤s.toks→G D=none∧D<s.heap.objs.size→(l++y).length≤100000→f ρ'=some y→
   wpAny (model prog w) A (BODY D cenv) (fun Z s'=> ∃G',Mv (fun b=>Mine cenv own b∨b=D) s G s' G'∧a7 w.params sB.heap cenv own G' s'.heap ρ0∧Ac D (l++y) G' s'.heap) E s)
  (hl:bA scope.names t (fun ρ'=>aM (R.ts scope.names ρ') ifs) f (aH scope.names ρ) items=some ys)(hll:ys.length≤100000)
  (hfin:∀(D C:Addr)(s':Shared)(G':Kn),ae s G s' G'→Ac D ys G' s'.heap→(∃m,s'.heap.Ns C m)→s.heap.objs.size≤C→s.heap.objs.size≤D→G' C=none→G' D=none→D<s'.heap.objs.size→C≠D→compPost (model prog w) A E use Q (.ref D) C (.ok .next) s'):
  wpAny (model prog w) A (comprehension e scope env pos newAcc false (eval iter env) use) Q E s:=by
 refine b9 (js hsc) fun Z hnd hk=>?_;have hnames:∀x∈scope.names,x.2=.local→scope.names.lookup x.1=some .local:=fun x hx hl=>
  (eS _ _).symm.trans (k8 hnd (show(x.1,.local)∈scope.names from hl▸hx))
 refine wpAny_comprehension_free hcl (fun x=>jF hset x) (sm (M:=model prog w) (mS hs hsc)) hk hnames (wpAny_mono (hq _) (fun x s1' h₁=>?_) fun Z Z z=>z)
 refine aA h₁ fun G₁ s₁ g1 h₁=>?_;refine wpAny_mono h₁ (fun it s2 h₂=>?_) fun Z Z z=>z
 obtain⟨I,wr,St,rfl,g2,T,st,hwr⟩:=h₂;rw [hnew];refine xe hty fun nm hnm=>?_;rw [hnm];refine wpAny_newObj_type (hd:=hsz) ?_;rw [←hnm,←ho0];refine kj ?_;have hB:Cx K mg mb s₁:=hx.grew g1;have keep3:∀b o,s₁.heap.get? b=some o→(s2.heap.push o₀).get? b=some o:=fun b o e=>Heap.get?_push_of_some _ (g2.keep b o e)
 refine vi (s:={s2 with heap:=s2.heap.push o₀}) (X:=fun cenv C H=>codeAny (model prog w) A (.compStart e 0 (.ref I) (.ref s2.heap.objs.size) cenv) (compPost (model prog w) A E use Q (.ref s2.heap.objs.size) C) {s2 with heap:=H}) hs (S.grew g1) hsc (Kn.Le.refl G₁) (fun a o e=>keep3 a o (g1.inn a o e)) keep3 fun cenv own CC H4 C he SS mine_ge keep4 hCC lj hloc=>?_
 have hCv:CC=s2.heap.objs.size+1:=hCC.trans (Heap.size_push ..);have ltC:s2.heap.objs.size<CC:=hCv▸Nat.lt_succ_self _;have s12:s₁.heap.objs.size≤s2.heap.objs.size:=g2.size;have off1:∀{a:Addr},s₁.heap.objs.size≤a→G₁ a=none:=fun ha=>Kn.none_ge g1.inn ha
 have body:=fun s G l ρ' y E h1 h2 h3 (_:G₁.Le G) h4 (h5:∀b,b=s2.heap.objs.size→G b=none∧b<s.heap.objs.size) h6 h7=>hbody s2.heap.objs.size cenv own s₁ (aH scope.names ρ) s G l ρ' y E rfl C he hB (fun hb=>Nat.not_lt.mpr (mine_ge _ hb) ltC) (dQ s12) h1 h2 h3 h4 (h5 _ rfl) h6 h7
 have st4:=T.frame _ _ _ st fun b o Z e=>keep4 b o (Heap.get?_push_of_some _ e)
 have loop:=mR (XD:=fun b=>b=s2.heap.objs.size) (acc:=.ref s2.heap.objs.size) (BODY:=BODY s2.heap.objs.size cenv) (Ac:=Ac s2.heap.objs.size) (f:=f) (Rr:=compPost (model prog w) A E use Q (.ref s2.heap.objs.size) CC) H rm hB C he (fun d ρ' hb x e hx=>(oZ (uB scope.names ρ x e hx) hb).trans hx) (hquiet I s2.heap.objs.size cenv)
  (hund I s2.heap.objs.size cenv) (hden I s2.heap.objs.size cenv) T (fun b hb=>dQ (hwr b hb).1) (fun b hb hm=>Nat.not_lt.mpr (mine_ge b hm) (Nat.lt_trans (hwr b hb).2 ltC))
  (fun b hb z=>Nat.lt_irrefl _ (z▸(hwr b hb).2)) (fun b hb=>hb▸dQ s12) (fun b hb hm=>Nat.not_lt.mpr (mine_ge b hm) (hb▸ltC))
  (fun l G h G' h' a b c=>hAc _ l G h G' h' a b (fun o e=>c _ o rfl e)) body items.length 0 {s2 with heap:=H4} G₁ [] ys rfl (Nat.zero_le _) st4 (Kn.Le.refl _) SS (hAc0 _ _ _ (keep4 _ _ (Heap.get?_push_size _ hfr))) g2.tk
  (fun b hb=>⟨off1 (hwr b hb).1,Nat.lt_trans (Nat.lt_trans (hwr b hb).2 ltC) lj⟩) (fun b hb=>hb▸⟨off1 s12,Nat.lt_trans ltC lj⟩) hl hll (fun s' G' m S' ac=>?_)
 ·exact hstart _ _ _ _ _ loop (T.self 0 _ _ _ st4 loop)
 ·refine aA S'.ex fun m' cm F Z=>?_;have sB':s.heap.objs.size≤s2.heap.objs.size:=Nat.le_trans g1.size s12;have s14:s₁.heap.objs.size≤H4.objs.size:=Nat.le_trans s12 (Nat.le_of_lt (Nat.lt_trans ltC lj));refine hfin s2.heap.objs.size CC s' G' (g1.trans ⟨?_,Nat.le_trans s14 m.size,Nat.le_trans g2.tk m.tk,F.keep,m.le,m.inn,fun a o ea=>(m.fresh a o ea).imp id (Nat.le_trans s14)⟩) ac ⟨m',hloc▸F.ns⟩ (Nat.le_trans sB' (Nat.le_of_lt ltC)) sB' (hloc▸S'.off.loc) (m.none_lt (off1 s12) (Nat.lt_trans ltC lj)) (Nat.lt_of_lt_of_le (Nat.lt_trans ltC lj) m.size) (Nat.ne_of_gt ltC)
  refine aV g2.same fun h₂ t2 e2=>?_;refine aV m.same fun h₃ t3 e3=>?_;exact⟨s'.heap,s'.toks,by rw [e3,e2]⟩
end
noncomputable def ct (P:Params)(D:Addr)(l:List Mine.D)(G:Kn)(h:Heap):Prop:= ∃vs n,h.get? D=some (aB vs n)∧ai P G vs l
theorem ai.snoc {P:Params}{G:Kn}{vs:List Value}{l:List D}{v:Value}{d:D}(a:ai P G vs l)(b:Rd P G v d):ai P G (vs++ [v]) (l++ [d]):=a.append (.cons b .nil)
theorem ct.keep {P:Params}{D:Addr}(l:List Mine.D)(G:Kn)(h:Heap)(G':Kn)(h':Heap)(a:ct P D l G h)(le:G.Le G')(k:∀o,h.get? D=some o→h'.get? D=some o):ct P D l G' h':=by
 refine aA a fun vs n ho r=>?_;exact⟨vs,n,k _ ho,r.mono le⟩
section
variable {prog:Program}{w:World}{K:Frag}{mg mb:Str→Option Value}{k:Nat}{R:bm}{A:Around}{env:Env}{s:Shared}{G:Kn}{E:Value→Shared→Prop}{sc:aq}{ρ:Ro}
theorem tE {D:Addr}{l:List Mine.D}{v:Value}{d:Mine.D}(I:G.In s.heap)(a:ct w.params D l G s.heap)(off:G D=none)(hl:l.length≤100000)(r:Rd w.params G v d):
  wpAny (model prog w) A (call (.builtin "list.append") [.ref D,v]) (fun u s'=>u=.none∧Mv (fun b=>b=D) s G s' G∧ct w.params D (l++ [d]) G s'.heap) E s:=by
 refine aA a fun vs n ho rd=>?_;have hlen:=rd.length;refine wpAny_list_append_plain (items:=vs.toArray) ⟨n,ho⟩ (fun h' hp hs=>⟨rfl,⟨⟨h',s.toks,rfl⟩,Nat.le_of_eq hs.1.symm,Nat.le_refl _,fun b o nb e=>(hs.2 b nb).trans e,.refl G,fun b o e=>(hs.2 b fun z=>by rw [z,off]at e;exact(aa e).elim).trans (I b o e),fun Z Z e=>.inl e⟩,?_⟩) (by rw [sizeLine_eq];simp;lia)
 refine xe hp fun n' ho'=>?_;exact⟨vs++ [v],n',by rw [ho'];simp,rd.snoc r⟩
theorem mP (H:aw prog w K mg mb k R)(rm:am k A){D:Addr}{cenv:Env}{own:List (Str×Addr)}{sB:Shared}{ρ0 ρ':Ro}{l y:List Mine.D}{elt:PySem.Expr}(he:aD sc cenv)(hB:Cx K mg mb sB)(hM:¬Mine cenv own D)(hDB:sB.heap.get? D=none)
  (wk:∀x e,ρ0 x=some e→ρ' x=some e)(S:a7 w.params sB.heap cenv own G s.heap ρ')(ac:ct w.params D l G s.heap)(tk:sB.toks≤s.toks)(hD:G D=none∧D<s.heap.objs.size)(hl:l.length≤100000)(q:bp (R.ev sc ρ' elt)=some y):
  wpAny (model prog w) A (do let _ ←call (.builtin "list.append") [.ref D,←eval elt cenv]) (fun(_:PUnit) s'=> ∃G',Mv (fun b=>Mine cenv own b∨b=D) s G s' G'∧a7 w.params sB.heap cenv own G' s'.heap ρ0∧ct w.params D (l++y) G' s'.heap) E s:=by
 cases qe:R.ev sc ρ' elt with
 |none=>rw [qe]at q;cases q
 |some d=>
  rw [qe]at q;obtain rfl:=Option.some.inj q;refine vf (H.ev sc ρ' elt d qe A cenv s G E rm (S.cx hB tk) he S.env) fun v s₁ G₁ g1 r1=>?_;have ac1:=ct.keep l G s.heap G₁ s₁.heap ac g1.le fun o e=>g1.keep _ o e
  have off1:G₁ D=none:=(ae.mv (X:=fun Z=>False) g1).none_lt hD.1 hD.2
  refine wpAny_bind (wpAny_mono (tE g1.inn ac1 off1 hl r1) (fun u s2 h2=>wpAny_pure ?_) fun Z Z z=>z)
  refine b9 h2 fun Z m ac2=>?_;have S2:=(S.grew g1).mv m fun b hb=>by rw [hb];exact⟨hDB,hM⟩
  exact⟨G₁,(ae.mv g1).trans (m.weak fun b hb=>.inr hb),S2.weak wk,ac2⟩
theorem aQ.of_list {D C:Addr}{ys:List Mine.D}{s':Shared}{G':Kn}{h':Heap}(g:ae s G s' G')(ac:ct w.params D ys G' s'.heap)(hC:s.heap.objs.size≤C)(hD:s.heap.objs.size≤D)(oC:G' C=none)(oD:G' D=none)(ne:C≠D)(hs:Heap.SameBut C s'.heap h'):
  aQ w.params s G (.list ys) (.ref D) {s' with heap:=h'}:=by
 refine aA ac fun vs n ho r=>?_;exact⟨_,(g.own hs hC oC (Nat.le_refl _)).learn ((hs.2 D (Ne.symm ne)).trans ho) hD oD,.list Kn.add_self (r.mono (Kn.le_add oD))⟩
set_option tactic.hygienic true in
theorem jL {o:Option (List D)}{ys:List D}(h:eU o=some ys):o=some ys∧ys.length≤100000:=by
 unfold eU at h
 split at h
 ·split at h
  ·rename_i hl;obtain rfl:=Option.some.inj h;exact⟨rfl,hl⟩
  ·exact(aa h).elim
 ·exact(aa h).elim
theorem tY (H:aw prog w K mg mb k R)(rm:am k A)(hs:aD sc env)(hx:Cx K mg mb s)(S:aP w.params G s.heap env ρ){elt t it:PySem.Expr}{ifs:List PySem.Expr}{scope:Scope}{pos pos':Pos}{items ys:List D}{use:Option (Value→Sem Unit)}{Q:Value→Shared→Prop}
  (hsc:bG sc scope=true)(hset:bx it=false)(hq:∀E,wpAny (model prog w) A (eval it env) (fun x s₁=> ∃G₁ s₀,ae s G s₀ G₁∧wpAny (model prog w) A (pyIter x) (eo prog w A t s₀ G₁ items) E s₁) E s)
  (ql:bA scope.names t (fun ρ'=>aM (R.ts scope.names ρ') ifs) (fun ρ'=>bp (R.ev scope.names ρ' elt)) (aH scope.names ρ) items=some ys)(hll:ys.length≤100000)
  (hfin:∀(D C:Addr)(s':Shared)(G':Kn),ae s G s' G'→ct w.params D ys G' s'.heap→(∃m,s'.heap.Ns C m)→s.heap.objs.size≤C→s.heap.objs.size≤D→G' C=none→G' D=none→D<s'.heap.objs.size→C≠D→compPost (model prog w) A E use Q (.ref D) C (.ok .next) s'):
  wpAny (model prog w) A (comprehension (.ListComp elt [⟨t,it,ifs,0⟩] scope pos) scope env pos' (newList []) false (eval it env) use) Q E s:=
 je (o₀:=aB [] 0) (Ac:=ct w.params) (BODY:=fun D cenv=>do let _ ←call (.builtin "list.append") [.ref D,←eval elt cenv]) (f:=fun ρ'=>bp (R.ev scope.names ρ' elt)) (p:=it.pos) H rm hs hx S rfl hsc hset hq rfl rfl ⟨_,rfl⟩ rfl (by size_fits)
   (fun Z Z Z=>rfl) (fun Z Z Z=>rfl) (fun Z Z Z=>rfl) (fun Z Z Z Z Z h0 h1=>codeAny_compStart_list h0 h1) (fun D G h ho=>⟨[],0,ho,.nil⟩) (fun D l G h G' h' a b c=>ct.keep l G h G' h' a b c)
   (fun D cenv own sB ρ0 s G l ρ' y E Z Z he hB hM hDB wk S ac tk hD hl q=>mP H rm he hB hM hDB wk S ac tk hD (by simp at hl;lia) q) ql hll hfin
set_option tactic.hygienic true in
theorem xk (H:aw prog w K mg mb k R)(rm:am k A)(hs:aD sc env)(hx:Cx K mg mb s)(S:aP w.params G s.heap env ρ){elt t it:PySem.Expr}{ifs:List PySem.Expr}{scope:Scope}{pos pos':Pos}{ys:List D}{use:Option (Value→Sem Unit)}{Q:Value→Shared→Prop}
  (q:fQ R sc ρ [⟨t,it,ifs,0⟩] scope (fun ρ'=>bp (R.ev scope.names ρ' elt))=some ys)
  (hfin:∀(D C:Addr)(s':Shared)(G':Kn),ae s G s' G'→ct w.params D ys G' s'.heap→(∃m,s'.heap.Ns C m)→s.heap.objs.size≤C→s.heap.objs.size≤D→G' C=none→G' D=none→D<s'.heap.objs.size→C≠D→compPost (model prog w) A E use Q (.ref D) C (.ok .next) s'):
  wpAny (model prog w) A (comprehension (.ListComp elt [⟨t,it,ifs,0⟩] scope pos) scope env pos' (newList []) false (eval it env) use) Q E s:=by
 replace q:(match bG sc scope&& !bx it,bb R sc ρ t it with |true,some items=>eU (bA scope.names t (fun ρ'=>aM (R.ts scope.names ρ') ifs) (fun ρ'=>bp (R.ev scope.names ρ' elt)) (aH scope.names ρ) items) |_,_=>none)=some ys:=q
 split at q
 ·rename_i _ _ items hsc qi;obtain⟨ql,hll⟩:=jL q;simp only [Bool.and_eq_true,Bool.not_eq_true']at hsc;exact tY H rm hs hx S hsc.1 hsc.2 (fun E=>jt H rm hs hx S _ qi) ql hll hfin
 ·exact(aa q).elim
end
section
variable {prog:Program}{w:World}{K:Frag}{mg mb:Str→Option Value}{k:Nat}{R:bm}{A:Around}{env:Env}{s:Shared}{G:Kn}{E:Value→Shared→Prop}{sc:aq}{ρ:Ro}
theorem tT (A:Around):A.mark none=A:=by
 obtain⟨hd,d,fr,gs,u⟩:=A;cases hd<;>rfl
theorem sj {elt g1 t2 it2 scope pos it acc env}{Rr:Result→Shared→Prop}{s:Shared}
  (h0:codeAny (model prog w) A (.compLoop (.ListComp elt [g1,⟨t2,it2,[],0⟩] scope pos) 1 it acc env) Rr s)
  (h:wpAny (model prog w) A (pyIter it) (fun it' s'=>codeAny (model prog w) A (.compLoop (.ListComp elt [g1,⟨t2,it2,[],0⟩] scope pos) 1 it' acc env) Rr s')
   (notedBy (model prog w) A env fun x s'=>Rr (.error x) s') s):
  codeAny (model prog w) A (.compStart (.ListComp elt [g1,⟨t2,it2,[],0⟩] scope pos) 1 it acc env) Rr s:=by
 refine codeAny_of_tree ?_;show wpAny _ A ((compStart (.ListComp elt [g1,⟨t2,it2,[],0⟩] scope pos) 1 it acc env).onRaise (fun x=>do noteFrame x env;standAt theWindowsPlace)) _ _ s
 refine wpAny_notedAt ?_;unfold compStart;show wpAny _ _ (ask>>=_) _ _ s
 refine wpAny_bind (wpAny_askSetting (wpAny_ite ?_))
 split
 ·first
   |exact wpAny_bind (wpAny_pure (wpAny_pure (And.intro rfl h0)))
   |exact wpAny_pure (And.intro rfl h0)
 ·first
   |exact wpAny_bind (wpAny_rule (wpAny_bind (wpAny_standAt (wpAny_bind (wpAny_mono h (fun it' s' h'=>wpAny_pure (And.intro rfl h')) fun Z Z x=>x)))))
   |(refine wpAny_bind (wpAny_rule ?_);show wpAny _ _ (standAt it2.pos>>=_) _ _ s;exact wpAny_bind (wpAny_standAt (wpAny_bind (wpAny_mono h (fun it' s' h'=>wpAny_pure (And.intro rfl h')) fun Z Z x=>x))))
theorem sx {ρ:Ro}{y:Str}{d:D}(h:ρ y=none):∀x e,ρ x=some e→ad ρ y d x=some e:=fun x e q=>by
 unfold ad;cases z:ar x y with
 |false=>exact q
 |true=>rw [(ao _ _).mp z,h]at q;exact(aa q).elim
set_option tactic.hygienic true in
theorem sd (H:aw prog w K mg mb k R)(rm:am k A){D:Addr}{cenv:Env}{own:List (Str×Addr)}{sB:Shared}{ρ0 ρ':Ro}{l ys:List Mine.D}{elt it2:PySem.Expr}{y:Str}{p:Pos}{g1:Comprehension}{scope:Scope}{pos:Pos}
  (C:be sc cenv own)(he:aD sc cenv)(hB:Cx K mg mb sB)(hM:¬Mine cenv own D)(hDB:sB.heap.get? D=none)
  (wk:∀x e,ρ0 x=some e→ρ' x=some e)(S:a7 w.params sB.heap cenv own G s.heap ρ')(ac:ct w.params D l G s.heap)(tk:sB.toks≤s.toks)(hD:G D=none∧D<s.heap.objs.size)(hset:bx it2=false)(q:jC R sc y p it2 elt ρ'=some ys)(hl:(l++ys).length≤100000):
  wpAny (model prog w) A (do
    let x ←eval it2 cenv
    standAt it2.pos
    let x ←foldedSetIterable it2 cenv x
    let _ ←runOwn (.compStart (.ListComp elt [g1,⟨.Name y p,it2,[],0⟩] scope pos) 1 (←holding [x] (pyIter x)) (.ref D) cenv) cenv)
   (fun(_:PUnit) s'=> ∃G',Mv (fun b=>Mine cenv own b∨b=D) s G s' G'∧a7 w.params sB.heap cenv own G' s'.heap ρ0∧ct w.params D (l++ys) G' s'.heap) E s:=by
 unfold jC at q
 split at q
 ·exact(aa q).elim
 ·rename_i hy
  split at q
  ·rename_i items qi;have hx:=S.cx hB tk;refine wpAny_bind (wpAny_mono (jt H rm he hx S.env (.Name y p) qi) (fun x s1' h₁=>?_) fun Z Z z=>z)
   refine aA h₁ fun G₁ s₁ g₁ h₁=>?_;refine wpAny_bind (wpAny_standAt (wpAny_bind (wpAny_of_eq (jF hset x) (wpAny_bind (wpAny_holding (wpAny_mono h₁ (fun it s2 h₂=>?_) fun Z Z z=>z))))))
   obtain⟨I,wr,St,rfl,g2,T,st,hwr⟩:=h₂;have g:=g₁.trans g2;have S2:=S.grew g;have tk₂:sB.toks≤s2.toks:=Nat.le_trans tk g.tk;have m0:Mv (fun Z=>False) s G s2 G₁:=ae.mv g
   have hD2:G₁ D=none∧D<s2.heap.objs.size:=⟨m0.none_lt hD.1 hD.2,Nat.lt_of_lt_of_le hD.2 g.size⟩;have s1:s.heap.objs.size≤s₁.heap.objs.size:=g₁.size;have notM:∀b,wr b→¬Mine cenv own b:=fun b hb hm=>Nat.lt_irrefl _ (Nat.lt_of_lt_of_le (S.mine_lt hm).1 (Nat.le_trans s1 (hwr b hb).1))
   have notB:∀b,wr b→sB.heap.get? b=none:=fun b hb=>by
    cases z:sB.heap.get? b with
    |none=>rfl
    |some o=>
     refine aA S.ex fun Z Z F Z=>?_;exact absurd (Heap.lt_size (F.keep b o z)) (Nat.not_lt.mpr (Nat.le_trans s1 (hwr b hb).1))
   have hwG:∀b,wr b→G₁ b=none∧b<s2.heap.objs.size:=fun b hb=>⟨Kn.none_ge g₁.inn (hwr b hb).1,(hwr b hb).2⟩
   refine wpAny_bind (wpAny_runOwn ?_);rw [tT];have loop:=mR (e:=.ListComp elt [g1,⟨.Name y p,it2,[],0⟩] scope pos) (depth:=1) (t:=.Name y p) (ifs:=[]) (p:=it2.pos) (XD:=fun b=>b=D) (acc:=.ref D) (BODY:=do let _ ←call (.builtin "list.append") [.ref D,←eval elt cenv]) (Ac:=ct w.params D) (f:=fun ρ''=>bp (R.ev sc ρ'' elt))
    (Rr:=fun r s'=>match r with | .ok f=>wpAny (model prog w) A (pure ⟨⟩:Sem PUnit) (fun(_:PUnit) s'=> ∃G',Mv (fun b=>Mine cenv own b∨b=D) s G s' G'∧a7 w.params sB.heap cenv own G' s'.heap ρ0∧ct w.params D (l++ys) G' s'.heap) E s' | .error e=>cameBackBy (model prog w) A cenv E e s')
    (A:=A) (own:=own) H rm hB C he (fun d ρ'' hb x e hx=>by
     unfold aG at hb;dsimp only at hb
     split at hb
     ·obtain rfl:=Option.some.inj hb;exact sx hy x e hx
     ·exact(aa hb).elim) rfl rfl rfl T notB notM (fun b hb z=>by have:=(hwr b hb).1;rw [z]at this;exact Nat.lt_irrefl _ (Nat.lt_of_lt_of_le hD.2 (Nat.le_trans s1 this))) (fun b hb=>by rw [hb];exact hDB) (fun b hb=>by rw [hb];exact hM)
    (fun l G h G' h' a b c=>ct.keep l G h G' h' a b (fun o e=>c _ o rfl e))
    (fun s G l ρ'' y E h1 h2 h3 Z h4 h5 h6 h7=>mP H rm he hB hM hDB h1 h2 h3 h4 (h5 _ rfl) (by simp at h6;lia) h7)
    items.length 0 s2 G₁ l ys rfl (Nat.zero_le _) st (Kn.Le.refl _) S2 (ct.keep l G s.heap G₁ s2.heap ac g.le fun o e=>g.keep _ o e) tk₂ hwG (fun b hb=>by rw [hb];exact hD2) q hl
    (fun s' G' m S' ac'=>wpAny_pure ⟨G',⟨?_,Nat.le_trans g.size m.size,Nat.le_trans g.tk m.tk,fun b o nb e=>m.keep b o (fun z=>?_) (g.keep b o e),g.le.trans m.le,m.inn,fun a o ea=>?_⟩,S'.weak wk,ac'⟩)
   ·exact sj loop (T.self 0 _ _ _ st loop)
   ·refine aV g.same fun h₁ t1 e1=>?_;refine aV m.same fun h₂ t2 e2=>?_;exact⟨h₂,t2,by rw [e2,e1]⟩
   ·rcases z with z |z
    ·exact absurd (Heap.lt_size e) (Nat.not_lt.mpr (Nat.le_trans s1 (hwr b z).1))
    ·exact nb z
   ·rcases m.fresh a o ea with z |z
    ·exact g.fresh a o z
    ·exact .inr (Nat.le_trans g.size z)
  ·exact(aa q).elim
theorem uw (elt t it it2:PySem.Expr)(ifs:List PySem.Expr)(y:Str)(p:Pos)(scope:Scope)(pos:Pos)(I D:Addr)(cenv:Env):
  compTurn (.ListComp elt [⟨t,it,ifs,0⟩,⟨.Name y p,it2,[],0⟩] scope pos) 0 (.ref I) (.ref D) cenv=(do
   standAt it.pos
   match ←pyNext (.ref I)with
   |none=>pure (.done .next)
   |some v=>
    letOwnedTupleGo t (.ref I) v
    assign t cenv v
    let ok ←(forIn ifs true fun c r=>if r=true then do let ok ←isTrue c cenv (eval c cenv);pure (ForInStep.yield ok)else pure (ForInStep.yield r))
    if ok then(do
     let x ←eval it2 cenv
     standAt it2.pos
     let x ←foldedSetIterable it2 cenv x
     let _ ←runOwn (.compStart (.ListComp elt [⟨t,it,ifs,0⟩,⟨.Name y p,it2,[],0⟩] scope pos) 1 (←holding [x] (pyIter x)) (.ref D) cenv) cenv)
    again (.compLoop (.ListComp elt [⟨t,it,ifs,0⟩,⟨.Name y p,it2,[],0⟩] scope pos) 0 (.ref I) (.ref D) cenv):Sem PySem.Fin):=by
 have h:∀(z:Bool),(if z=true then(do
     let x ←eval it2 cenv
     standAt it2.pos
     let x ←foldedSetIterable it2 cenv x
     let _ ←runOwn (.compStart (.ListComp elt [⟨t,it,ifs,0⟩,⟨.Name y p,it2,[],0⟩] scope pos) 1 (←holding [x] (pyIter x)) (.ref D) cenv) cenv
     again (.compLoop (.ListComp elt [⟨t,it,ifs,0⟩,⟨.Name y p,it2,[],0⟩] scope pos) 0 (.ref I) (.ref D) cenv))else again (.compLoop (.ListComp elt [⟨t,it,ifs,0⟩,⟨.Name y p,it2,[],0⟩] scope pos) 0 (.ref I) (.ref D) cenv):Sem PySem.Fin)=(do
    if z then(do
     let x ←eval it2 cenv
     standAt it2.pos
     let x ←foldedSetIterable it2 cenv x
     let _ ←runOwn (.compStart (.ListComp elt [⟨t,it,ifs,0⟩,⟨.Name y p,it2,[],0⟩] scope pos) 1 (←holding [x] (pyIter x)) (.ref D) cenv) cenv)
    again (.compLoop (.ListComp elt [⟨t,it,ifs,0⟩,⟨.Name y p,it2,[],0⟩] scope pos) 0 (.ref I) (.ref D) cenv):Sem PySem.Fin):=by
  intro z;cases z
  ·rfl
  ·simp only [if_true,bind_assoc,pure_bind]
 show(do
   standAt it.pos
   match ←pyNext (.ref I)with
   |none=>pure (.done .next)
   |some v=>
    letOwnedTupleGo t (.ref I) v
    assign t cenv v
    let ok ←(forIn ifs true fun c r=>if r=true then do let ok ←isTrue c cenv (eval c cenv);pure (ForInStep.yield ok)else pure (ForInStep.yield r))
    if ok then(do
     let x ←eval it2 cenv
     standAt it2.pos
     let x ←foldedSetIterable it2 cenv x
     let _ ←runOwn (.compStart (.ListComp elt [⟨t,it,ifs,0⟩,⟨.Name y p,it2,[],0⟩] scope pos) 1 (←holding [x] (pyIter x)) (.ref D) cenv) cenv
     again (.compLoop (.ListComp elt [⟨t,it,ifs,0⟩,⟨.Name y p,it2,[],0⟩] scope pos) 0 (.ref I) (.ref D) cenv))else again (.compLoop (.ListComp elt [⟨t,it,ifs,0⟩,⟨.Name y p,it2,[],0⟩] scope pos) 0 (.ref I) (.ref D) cenv):Sem PySem.Fin)=_
 simp only [h]
set_option tactic.hygienic true in
theorem xj (H:aw prog w K mg mb k R)(rm:am k A)(hs:aD sc env)(hx:Cx K mg mb s)(S:aP w.params G s.heap env ρ){elt t it it2:PySem.Expr}{ifs:List PySem.Expr}{scope:Scope}{pos pos':Pos}{y:Str}{p:Pos}{ys:List D}{use:Option (Value→Sem Unit)}{Q:Value→Shared→Prop}
  (q:db R sc ρ [⟨t,it,ifs,0⟩,⟨.Name y p,it2,[],0⟩] scope elt=some ys)
  (hfin:∀(D C:Addr)(s':Shared)(G':Kn),ae s G s' G'→ct w.params D ys G' s'.heap→(∃m,s'.heap.Ns C m)→s.heap.objs.size≤C→s.heap.objs.size≤D→G' C=none→G' D=none→D<s'.heap.objs.size→C≠D→compPost (model prog w) A E use Q (.ref D) C (.ok .next) s'):
  wpAny (model prog w) A (comprehension (.ListComp elt [⟨t,it,ifs,0⟩,⟨.Name y p,it2,[],0⟩] scope pos) scope env pos' (newList []) false (eval it env) use) Q E s:=by
 replace q:(match bG sc scope&& !bx it&& !bx it2,bb R sc ρ t it with
  |true,some items=>eU (bA scope.names t (fun ρ'=>aM (R.ts scope.names ρ') ifs) (jC R scope.names y p it2 elt) (aH scope.names ρ) items)
  |_,_=>none)=some ys:=q
 split at q
 ·rename_i _ _ items hsc qi;obtain⟨ql,hll⟩:=jL q;simp only [Bool.and_eq_true,Bool.not_eq_true']at hsc
  exact je (o₀:=aB [] 0) (Ac:=ct w.params) (BODY:=fun D cenv=>do
    let x ←eval it2 cenv
    standAt it2.pos
    let x ←foldedSetIterable it2 cenv x
    let _ ←runOwn (.compStart (.ListComp elt [⟨t,it,ifs,0⟩,⟨.Name y p,it2,[],0⟩] scope pos) 1 (←holding [x] (pyIter x)) (.ref D) cenv) cenv) (f:=jC R scope.names y p it2 elt) (p:=it.pos) H rm hs hx S rfl hsc.1.1 hsc.1.2 (fun E=>jt H rm hs hx S _ qi) rfl rfl ⟨_,rfl⟩ rfl (by size_fits)
   (fun Z Z Z=>rfl) (fun Z Z Z=>rfl) (fun I D cenv=>by show(compTurn _ 0 (.ref I) (.ref D) cenv).onRaise _=_;rw [uw] <;>rfl) (fun Z Z Z Z Z h0 h1=>codeAny_compStart_list h0 h1) (fun D G h ho=>⟨[],0,ho,.nil⟩) (fun D l G h G' h' a b c=>ct.keep l G h G' h' a b c)
   (fun D cenv own sB ρ0 s G l ρ' ys E Z C he hB hM hDB wk S ac tk hD hl q=>sd H rm C he hB hM hDB wk S ac tk hD hsc.2 q hl) ql hll hfin
 ·exact(aa q).elim
end
noncomputable def jx (ks:List (List Nat×D)):List D:=ks.map fun p=>.tup [.str p.1,p.2]
noncomputable def lL (prog:Program)(w:World)(D:Addr)(l:List Mine.D)(G:Kn)(h:Heap):Prop:=
 ∃(ks:List (List Nat×Mine.D)) (kvs:List (Str×Value)),l=jx ks∧kvs.map (·.1)=ks.map (fun p=>mk p.1)∧ai w.params G (kvs.map (·.2)) (ks.map (·.2))∧h.DictOf (strKind prog w) D (merged [] kvs)
theorem xL {β:Type}{o:Option (List Nat×D)}{X:List Nat×D→Option β}{d:β}(e:(match o with |none=>none |some x=>X x)=some d):∃x,o=some x∧X x=some d:=by
 cases o with
 |none=>exact(aa e).elim
 |some x=>exact⟨x,rfl,e⟩
theorem BF {a:D}{p:List Nat×D}(h:BG a=some p):a=.tup [.str p.1,p.2]:=by
 cases a with
 |tup l=>
  rcases l with _ |⟨x,_ |⟨y,_ |⟨_,_⟩⟩⟩
  ·exact(aa h).elim
  ·exact(aa h).elim
  ·replace h:(match gy x with |none=>none |some z=>some (z,y))=some p:=h
   cases q:gy x with
   |none=>rw [q]at h;exact(aa h).elim
   |some z=>rw [q]at h;rw [←Option.some.inj h,nO q]
  ·exact(aa h).elim
 |_=>exact(aa h).elim
theorem rC {a:List (List Nat×D)}:∀{b:List (List Nat×D)},jx a=jx b→a=b:=by
 induction a with
 |nil=>intro b h;cases b with |nil=>rfl |cons _ _=>exact(List.cons_ne_nil _ _ h.symm).elim
 |cons p r ih=>
  intro b h;cases b with
  |nil=>exact(List.cons_ne_nil _ _ h).elim
  |cons q t=>
   refine xa (List.cons.inj h) fun h1 h2=>?_;refine xa (List.cons.inj (D.tup.inj h1)) fun h3 h4=>?_;rw [ih h2,show p=q from Prod.ext (D.str.inj h3) (List.cons.inj h4).1]
theorem sT {l:List D}:∀{ks:List (List Nat×D)},iN l=some ks→l=jx ks∧(ks.map (·.1)).Nodup:=by
 induction l with
 |nil=>intro ks h;obtain rfl:=Option.some.inj h;exact⟨rfl,.nil⟩
 |cons a r ih=>
  intro ks h;refine ah (xL h) fun p hp h=>?_;refine ah (th h) fun ks' hk h=>?_;refine xa (aL h) fun hall z1=>?_;subst z1
  refine xa (ih hk) fun e n=>?_;exact⟨by rw [e,BF hp];rfl,List.nodup_cons.mpr ⟨uK hall,n⟩⟩
section
variable {prog:Program}{w:World}{K:Frag}{mg mb:Str→Option Value}{k:Nat}{R:bm}{A:Around}{env:Env}{s:Shared}{G:Kn}{E:Value→Shared→Prop}{sc:aq}{ρ:Ro}
theorem lL.keep {D:Addr}(l:List Mine.D)(G:Kn)(h:Heap)(G':Kn)(h':Heap)(a:lL prog w D l G h)(le:G.Le G')(k:∀o,h.get? D=some o→h'.get? D=some o):lL prog w D l G' h':=by
 obtain⟨ks,kvs,e1,e2,r,o,es,ep,ho,x⟩:=a;exact⟨ks,kvs,e1,e2,r.mono le,o,es,ep,k _ ho,x⟩
theorem ur (H:aw prog w K mg mb k R)(rm:am k A){D:Addr}{cenv:Env}{own:List (Str×Addr)}{sB:Shared}{ρ0 ρ':Ro}{l y:List Mine.D}{kx vx:PySem.Expr}{p:Pos}(he:aD sc cenv)(hB:Cx K mg mb sB)(hM:¬Mine cenv own D)(hDB:sB.heap.get? D=none)
  (wk:∀x e,ρ0 x=some e→ρ' x=some e)(S:a7 w.params sB.heap cenv own G s.heap ρ')(ac:lL prog w D l G s.heap)(tk:sB.toks≤s.toks)(hD:G D=none∧D<s.heap.objs.size)(hl:l.length≤100000)(q:lq (R.ev sc ρ' kx) (R.ev sc ρ' vx)=some y):
  wpAny (model prog w) A (do
      let kv ←eval kx cenv
      let vv ←holding [kv] (eval vx cenv)
      standAt p
      holding [kv,vv] (dictSet D kv vv)) (fun(_:PUnit) s'=> ∃G',Mv (fun b=>Mine cenv own b∨b=D) s G s' G'∧a7 w.params sB.heap cenv own G' s'.heap ρ0∧lL prog w D (l++y) G' s'.heap) E s:=by
 refine aX (xl q) fun x d q1 q2 q=>?_;obtain rfl:=Option.some.inj q;refine vf (H.ev sc ρ' kx _ q1 A cenv s G E rm (S.cx hB tk) he S.env) fun v s₁ G₁ g1 r1=>?_;have S1:=S.grew g1;refine wpAny_bind (wpAny_holding (bI (H.ev sc ρ' vx _ q2 A cenv s₁ G₁ E rm (S1.cx hB (Nat.le_trans tk g1.tk)) he S1.env) fun u s2 G2 g2 r2=>wpAny_bind (wpAny_standAt (wpAny_holding ?_))))
 have g:=g1.trans g2;refine nl (lL.keep l G s.heap G2 s2.heap ac g.le fun o e=>g.keep _ o e) fun ks kvs e1 e2 rd dof=>?_
 have off:G2 D=none:=(ae.mv (X:=fun Z=>False) g).none_lt hD.1 hD.2
 refine xe r1.str_i fun t z2=>?_;subst z2
 have hlen:(merged ([]:List (Str×Value)) kvs).length≤sizeLine:=by
  have h2:kvs.length=l.length:=by rw [e1];exact(List.length_map ..).symm.trans ((congrArg List.length e2).trans ((List.length_map ..).trans (List.length_map ..).symm))
  have h1:=merged_length_le ([]:List (Str×Value)) kvs;rw [h2,List.length_nil,Nat.zero_add]at h1;rw [sizeLine_eq];exact Nat.le_trans h1 (Nat.le_trans hl (by decide))
 refine wpAny_dictSet_pairs (hsz:=hlen) (k:=mk x) (strKind_is prog w _ _) dof fun h' hd hs=>?_;have m:Mv (fun b=>b=D) s2 G2 {s2 with heap:=h',toks:=s2.toks+1} G2:=iB g2.inn hs rfl off (Nat.le_succ _)
 refine⟨G2,(ae.mv g).trans (m.weak fun Z=>.inr),((S.grew g).mv m fun b hb=>by rw [hb];exact⟨hDB,hM⟩).weak wk,ks++ [(x,d)],kvs++ [(mk x,u)],by rw [e1];unfold jx;rw [List.map_append];rfl,by rw [List.map_append,e2,List.map_append];rfl,?_,?_⟩
 ·rw [List.map_append,List.map_append];exact rd.snoc r2
 ·rw [show merged ([]:List (Str×Value)) (kvs++ [(mk x,u)])=stored (merged [] kvs) (mk x) u from List.foldl_append ..];exact hd
theorem aQ.of_dict {D C:Addr}{ys:List Mine.D}{ks:List (List Nat×Mine.D)}{s':Shared}{G':Kn}{h':Heap}(hx:Cx K mg mb s)(g:ae s G s' G')(ac:lL prog w D ys G' s'.heap)(hk:iN ys=some ks)(hC:s.heap.objs.size≤C)(hD:s.heap.objs.size≤D)(oC:G' C=none)(oD:G' D=none)(ne:C≠D)(hs:Heap.SameBut C s'.heap h'):
  aQ w.params s G (.dict ks) (.ref D) {s' with heap:=h'}:=by
 refine nl ac fun ks' kvs e1 e2 rd dof=>?_;refine xa (sT hk) fun e3 nd=>?_;obtain rfl:=rC (e1.symm.trans e3);rw [merged_nil_of_nodup kvs (lc e2 nd)]at dof;refine aA (lT (w:=w) (G:=G') dof e2 rd) fun es n ho rk=>?_;exact⟨_,(g.own hs hC oC (Nat.le_refl _)).learn ((hs.2 D (Ne.symm ne)).trans ho) hD oD,.dict Kn.add_self ⟨sX hx hD,nd⟩ (rk.mono (Kn.le_add oD))⟩
theorem kS (H:aw prog w K mg mb k R)(rm:am k A)(hs:aD sc env)(hx:Cx K mg mb s)(S:aP w.params G s.heap env ρ){elt:PySem.Expr}{gens:List Comprehension}{scope:Scope}{pos:Pos}{ys:List D}
  (q:db R sc ρ gens scope elt=some ys):wpAny (model prog w) A (eval (.ListComp elt gens scope pos) env) (aQ w.params s G (.list ys)) E s:=by
 have fin:∀(D C:Addr) (s':Shared) (G':Kn),ae s G s' G'→ct w.params D ys G' s'.heap→(∃m,s'.heap.Ns C m)→s.heap.objs.size≤C→s.heap.objs.size≤D→G' C=none→G' D=none→D<s'.heap.objs.size→C≠D→compPost (model prog w) A E none (aQ w.params s G (.list ys)) (.ref D) C (.ok .next) s':=by
  intro D C s' G' g ac ⟨m,hm⟩ hC hD oC oD _ ne;exact⟨m,hm,fun h' hs'=>aQ.of_list g ac hC hD oC oD ne hs'⟩
 rw [eval_ListComp];rcases ka q with⟨t,it,ifs,rfl⟩ |⟨t,it,ifs,y,p,it2,rfl⟩
 ·exact xk H rm hs hx S q fin
 ·exact xj H rm hs hx S q fin
theorem qY (H:aw prog w K mg mb k R)(rm:am k A)(hs:aD sc env)(hx:Cx K mg mb s)(S:aP w.params G s.heap env ρ){kx vx:PySem.Expr}{gens:List Comprehension}{scope:Scope}{pos:Pos}{ys:List D}{ks:List (List Nat×D)}
  (q:fQ R sc ρ gens scope (fun ρ'=>lq (R.ev scope.names ρ' kx) (R.ev scope.names ρ' vx))=some ys)(hk:iN ys=some ks):wpAny (model prog w) A (eval (.DictComp kx vx gens scope pos) env) (aQ w.params s G (.dict ks)) E s:=by
 rw [arm_eval_DictComp];refine pE (ke q) fun t it ifs z3=>?_;subst z3
 refine aR (w6 q) fun items hsc qi q=>?_;refine xa (jL q) fun ql hll=>?_;refine xa (Bool.and_eq_true_iff.mp hsc) fun hsc hse=>?_
 exact je (o₀:={cls:=.type "dict",data:=.dict #[]}) (Ac:=lL prog w) (BODY:=fun D cenv=>do
    let kv ←eval kx cenv
    let vv ←holding [kv] (eval vx cenv)
    standAt {kx.pos with endLine:=vx.pos.endLine,endCol:=vx.pos.endCol}
    holding [kv,vv] (dictSet D kv vv)) (f:=fun ρ'=>lq (R.ev scope.names ρ' kx) (R.ev scope.names ρ' vx)) (p:=it.pos) H rm hs hx S rfl hsc (Bool.not_eq_true' _▸hse) (fun E=>jt H rm hs hx S _ qi) rfl rfl ⟨_,rfl⟩ rfl (by size_fits)
  (fun Z Z Z=>rfl) (fun Z Z Z=>rfl) (fun Z Z Z=>rfl) (fun Z Z Z Z Z h0 h1=>codeAny_compStart_dict h0 h1)
  (fun D G h ho=>⟨[],[],rfl,rfl,.nil,_,_,_,ho,⟨rfl,rfl,rfl⟩,rfl,fun e he=>(List.not_mem_nil he.val).elim,.nil,.nil⟩) (fun D l G h G' h' a b c=>lL.keep l G h G' h' a b c)
  (fun D cenv own sB ρ0 s G l ρ' y E Z Z he hB hM hDB wk S ac tk hD hl q=>ur H rm he hB hM hDB wk S ac tk hD (Nat.le_trans (by rw [List.length_append];exact Nat.le_add_right _ _) hl) q) ql hll
  (fun D C s' G' g ac ⟨m,hm⟩ hC hD oC oD _ ne=>⟨m,hm,fun h' hs'=>aQ.of_dict hx g ac hk hC hD oC oD ne hs'⟩)
end
section
variable {prog:Program}{w:World}{K:Frag}{mg mb:Str→Option Value}{k:Nat}{R:bm}
set_option tactic.hygienic true in
theorem Au (Φ:cS)(hΦ:fi prog w K mg mb k Φ)(H:aw prog w K mg mb k R){A:Around}{env:Env}{s:Shared}{G:Kn}{E:Value→Shared→Prop}{sc:aq}{ρ:Ro}(rm:am k A)(hs:aD sc env)(hx:Cx K mg mb s)(S:aP w.params G s.heap env ρ)
  {f:Str}{p pos:Pos}{args:List PySem.Expr}{d:D}(e:(match bi (R.ev sc ρ) args with |none=>none |some ds=>jZ Φ sc f ds)=some d):wpAny (model prog w) A (eval (.Call (.Name f p) args [] pos) env) (aQ w.params s G d) E s:=by
 split at e
 ·exact(aa e).elim
 ·rename_i ds q;unfold jZ at e
  split at e
  ·rename_i g
   split at e
   ·rename_i b hb;exact CN H rm hs hx S g q hb e
   ·exact En hΦ H rm hs hx S g q e
  ·exact(aa e).elim
set_option tactic.hygienic true in
theorem CP {rp:Bool}(H:aw prog w K mg mb k R){A:Around}{env:Env}{s:Shared}{G:Kn}{E:Value→Shared→Prop}{sc:aq}{ρ:Ro}(rm:am k A)(hs:aD sc env)(hx:Cx K mg mb s)(S:aP w.params G s.heap env ρ)
  {o:PySem.Expr}{x:Str}{apos pos:Pos}{args:List PySem.Expr}{d:D}(e:(match jw o&&Nat.beq apos.endLine pos.line&&Nat.ble args.length 20 with
  |false=>none
  |true=>match R.ev sc ρ o with
   |none=>none
   |some d=>match iQ x args with
    |some (a,b)=>(match rp with |true=>rf d a b |false=>none)
    |none=>match bi (R.ev sc ρ) args with
     |none=>none
     |some ds=>nn x d ds)=some d) (fl:rp=true→fO K=true):wpAny (model prog w) A (eval (.Call (.Attribute o x apos) args [] pos) env) (aQ w.params s G d) E s:=by
 split at e
 ·exact(aa e).elim
 ·rename_i hc;simp only [Bool.and_eq_true]at hc
  split at e
  ·exact(aa e).elim
  ·rename_i od qo
   split at e
   ·rename_i a b qr;cases rp with
    |true=>exact Ap (fl rfl) H rm hs hx S hc.1.1 hc.1.2 qo qr e
    |false=>exact(aa e).elim
   ·split at e
    ·exact(aa e).elim
    ·rename_i ds q;exact Ar H rm hs hx S hc.1.1 hc.1.2 (Nat.le_of_ble_eq_true hc.2) qo q e
theorem qW (Φ:cS)(gc:Str→Option D)(fl:(gc "str").isSome=true→fO K=true)(hΦ:fi prog w K mg mb k Φ)(hgc:fq w mg mb gc)(H:aw prog w K mg mb k R):aw prog w K mg mb k ⟨xb Φ gc R,w9 R⟩:=by
 refine⟨fun sc ρ e d q A env s G E rm hx hs S=>?_,fun sc ρ e b q A env s G E rm hx hs S=>?_⟩
 ·cases e with
  |Constant c _ _=>exact xU S.inn q
  |Name x _=>exact Aq hgc hx hs S q
  |BoolOp op vs _=>exact vg H rm hs _ _ _ d s G q hx S
  |BinOp l op r _=>exact CO H rm hs hx S q
  |UnaryOp op x _=>cases op with
   |USub=>exact Ao H rm hs hx S q
   |_=>exact(aa q).elim
  |IfExp t b o _=>exact xT H rm hs hx S q
  |List es _=>exact As H rm hs hx S q
  |Tuple es _ _=>exact xQ H rm hs hx S q
  |Dict ks vs _=>cases vs with
   |nil=>exact(aa q).elim
   |cons=>exact At H rm hs hx S q nofun
  |Compare l ops rs _=>
   rcases ops with _ |⟨op,_ |⟨_,_⟩⟩
   ·exact(aa q).elim
   ·rcases rs with _ |⟨r,_ |⟨_,_⟩⟩
    ·exact(aa q).elim
    ·exact tw H rm hs hx S q
    ·exact(aa q).elim
   ·exact(aa q).elim
  |Subscript v x _=>exact pq H rm hs hx S q
  |ListComp elt gens scope pos=>
   refine ah (Option.map_eq_some_iff.mp (show(db R sc ρ gens scope elt).map .list=some d from q)) fun ys z z1=>?_;subst z1
   exact kS H rm hs hx S z
  |DictComp kx vx gens scope pos=>
   refine ah (eg (show(match fQ R sc ρ gens scope (fun ρ'=>lq (R.ev scope.names ρ' kx) (R.ev scope.names ρ' vx))with |some l=>(iN l).map .dict |none=>none)=some d from q)) fun ys z q=>?_
   refine ah (Option.map_eq_some_iff.mp q) fun ks z2 z2=>?_;subst z2
   exact qY H rm hs hx S z z2
  |Call f args kws pos=>cases kws with
   |nil=>cases f with
    |Name=>exact Au Φ hΦ H rm hs hx S q
    |Attribute=>exact CP (rp:=(gc "str").isSome) H rm hs hx S q fl
    |_=>exact(aa q).elim
   |cons=>cases f<;>exact(aa q).elim
  |_=>exact(aa q).elim
 ·have val (he:isTrue e env (eval e env)=(do let v ←eval e env;standAt e.pos;holding [v] (truthy v))) (q:(match R.ev sc ρ e with |none=>none |some d=>eC d)=some b):wpAny (model prog w) A (isTrue e env (eval e env)) (gN s G b) E s:=by
   refine ah (cP q) fun d z q=>?_;exact xG e he (H.ev sc ρ e d z A env s G E rm hx hs S) q
  cases e with
  |UnaryOp op x pos=>cases op with
   |Not=>
    refine ah (Option.map_eq_some_iff.mp (show(R.ts sc ρ x).map (!·)=some b from q)) fun c z z3=>?_;subst z3
    exact wpAny_isTrue_Not (jT (H.ts sc ρ x c z A env s G E rm hx hs S) fun s' G' g=>⟨rfl,G',g⟩)
   |_=>exact(aa q).elim
  |BoolOp op vs _=>exact wpAny_isTrue_BoolOp (CQ H rm hs _ _ b s G q hx S)
  |Compare l ops rs _=>
   rcases ops with _ |⟨op,_ |⟨_,_⟩⟩
   ·exact(aa q).elim
   ·rcases rs with _ |⟨r,_ |⟨_,_⟩⟩
    ·exact(aa q).elim
    ·exact sW H rm hs hx S q
    ·exact(aa q).elim
   ·exact(aa q).elim
  |IfExp=>exact(aa q).elim
  |_=>exact val rfl q
theorem gQ (Φ:cS)(gc:Str→Option D)(hΦ:fi prog w K mg mb k Φ)(hgc:fq w mg mb gc) (n:Nat)(fl:(gc "str").isSome=true→fO K=true):aw prog w K mg mb k (av Φ gc n):=by
 induction n with
 |zero=>exact⟨fun Z Z Z Z q=>(nomatch (show none=some _ from q)),fun Z Z Z Z q=>(nomatch (show none=some _ from q))⟩
 |succ n ih=>exact qW Φ gc fl hΦ hgc ih
end
structure bE where
 mu:Option Str
 ap:Option Str
structure bz where
 ρ:Ro
 l:Option (List D)
 ap:Bool
inductive ce
 |next (st:bz)
 |ret (d:D)
noncomputable def gY (o:Option Str)(x:Str):Bool:=match o with |some y=>ar x y |none=>false
noncomputable def ky (cf:bE)(x:Str):Bool:=gY cf.mu x||gY cf.ap x
noncomputable def bt (cf:bE)(st:bz):Ro:=match st.l with
 |none=>st.ρ
 |some l=>match cf.mu with
  |some x=>ad st.ρ x (.list l)
  |none=>st.ρ
noncomputable def cW:D→Bool
 | .none=>true
 | .bool _=>true
 | .int _=>true
 | .str _=>true
 | .typ _=>true
 |_=>false
noncomputable def pJ:D→Bool
 | .tup l=>l.all cW
 |_=>false
noncomputable def gi (st:bz)(d:D):Bool:=match st.l with
 |none=>true
 |some _=>cW d||pJ d
noncomputable def kK (cf:bE):PySem.Expr→Bool
 | .Name x _=> !ky cf x
 | .Tuple es _ _=>es.all fun e=>match e with | .Name x _=> !ky cf x |_=>false
 |_=>false
noncomputable def bo (sc:aq)(cf:bE)(st:bz)(t:PySem.Expr)(d:D):Option bz:=match kK cf t&&gi st d with
 |true=>match aG sc st.ρ t d with
  |some ρ=>some {st with ρ:=ρ}
  |none=>none
 |false=>none
theorem gJ {sc:aq}{cf:bE}{st st':bz}{t:PySem.Expr}{d:D}(h:bo sc cf st t d=some st'):∃ρ,kK cf t=true∧gi st d=true∧aG sc st.ρ t d=some ρ∧{st with ρ:=ρ}=st':=by
 refine xa (ec h) fun c h=>?_;refine xa (Bool.and_eq_true_iff.mp c) fun c1 c2=>?_;cases z:aG sc st.ρ t d with
 |none=>rw [z]at h;exact(aa h).elim
 |some ρ=>rw [z]at h;exact⟨ρ,c1,c2,rfl,Option.some.inj h⟩
structure sD (sB:Shared)(GB:Kn)(s:Shared)(G:Kn):Prop where
 same:∃h tk,s={sB with heap:=h,toks:=tk}
 size:sB.heap.objs.size≤s.heap.objs.size
 tk:sB.toks≤s.toks
 le:GB.Le G
 fresh:∀a o,G a=some o→GB a=some o∨sB.heap.objs.size≤a
theorem sD.mv {X:Addr→Prop}{sB s s':Shared}{GB G G':Kn}(b:sD sB GB s G)(g:Mv X s G s' G'):sD sB GB s' G':=by
 refine aV b.same fun h tk z1=>?_;subst z1
 refine aV g.same fun h' tk' z2=>?_;subst z2
 refine⟨⟨h',tk',rfl⟩,Nat.le_trans b.size g.size,Nat.le_trans b.tk g.tk,b.le.trans g.le,fun a o e=>(g.fresh a o e).elim (b.fresh a o) fun q=>.inr (Nat.le_trans b.size q)⟩
noncomputable def kB (D:Addr):Obj:={cls:=.type "builtin_function_or_method",data:=.fields #[.builtin "list.append",.ref D]}
inductive E7 (cf:bE)(ρ:Ro)(G:Kn)(D₀:Addr):Prop
 |mk (y:Str) (b:Addr) (h1:cf.ap=some y) (h2:ρ y=some (.adr b)) (h3:ca y=true) (h4:G b=some (kB D₀))
inductive ph (P:Params)(sB:Shared)(env:Env)(own:List (Str×Addr))(cf:bE)(md:Option Addr)(l:List D)(ap:Bool)(ρ:Ro)(s:Shared)(G:Kn):Prop
 |mk (x:Str) (D₀:Addr) (hx:cf.mu=some x) (hm:md=some D₀) (ac:ct P D₀ l G s.heap) (off:G D₀=none) (hB:sB.heap.objs.size≤D₀) (hlt:D₀<s.heap.objs.size) (hM:¬Mine env own D₀) (hρ:ρ x=some (.adr D₀)) (okx:ca x=true) (hap:ap=true→E7 cf ρ G D₀)
noncomputable def dY (P:Params)(sB:Shared)(env:Env)(own:List (Str×Addr))(cf:bE)(md:Option Addr)(st:bz)(ρ:Ro)(s:Shared)(G:Kn):Prop:=match st.l with
 |none=>md=none∧st.ap=false
 |some l=>ph P sB env own cf md l st.ap ρ s G
section
variable {P:Params}{sB:Shared}{env:Env}{own:List (Str×Addr)}{cf:bE}{md:Option Addr}{st st':bz}{ρ ρ':Ro}{s s':Shared}{G G':Kn}{l:List D}
theorem dY.no (L:dY P sB env own cf md st ρ s G)(h:st.l=none):md=none∧st.ap=false:=by unfold dY at L;rw [h]at L;exact L
theorem dY.yes (L:dY P sB env own cf md st ρ s G)(h:st.l=some l):ph P sB env own cf md l st.ap ρ s G:=by unfold dY at L;rw [h]at L;exact L
theorem dY.of_no (h:st.l=none)(z:md=none∧st.ap=false):dY P sB env own cf md st ρ s G:=by unfold dY;rw [h];exact z
theorem dY.of_yes (h:st.l=some l)(z:ph P sB env own cf md l st.ap ρ s G):dY P sB env own cf md st ρ s G:=by unfold dY;rw [h];exact z
theorem dY.mv {Y:Addr→Prop}(L:dY P sB env own cf md st ρ s G)(hl:st'.l=st.l)(ha:st'.ap=st.ap)(m:Mv Y s G s' G')(hY:∀a,md=some a→¬Mine env own a→¬Y a)(hρ:∀x,cf.mu=some x∨cf.ap=some x→ρ' x=ρ x):dY P sB env own cf md st' ρ' s' G':=by
 cases q:st.l with
 |none=>exact .of_no (hl.trans q) ⟨(L.no q).1,ha.trans (L.no q).2⟩
 |some l=>
  obtain⟨x,D₀,hx,hm,ac,off,hB,hlt,hM,h,okx,hap⟩:=L.yes q;refine .of_yes (hl.trans q) ⟨x,D₀,hx,hm,ct.keep l G s.heap G' s'.heap ac m.le fun o e=>m.keep _ o (hY D₀ hm hM) e,m.none_lt off hlt,hB,Nat.lt_of_lt_of_le hlt m.size,hM,(hρ x (.inl hx)).trans h,okx,fun z=>?_⟩
  obtain⟨y,b,h1,h2,h3,h4⟩:=hap (ha▸z);exact⟨y,b,h1,(hρ y (.inr h1)).trans h2,h3,m.le b _ h4⟩
end
structure ax (P:Params)(sB:Shared)(GB:Kn)(env:Env)(own:List (Str×Addr))(cf:bE)(md:Option Addr)(st:bz)(s:Shared)(G:Kn):Prop where
 base:sD sB GB s G
 ex:∃ρ,a7 P sB.heap env own G s.heap ρ∧(∀x d,st.ρ x=some d→ρ x=some d)∧dY P sB env own cf md st ρ s G
noncomputable def fk (s:Shared)(md md':Option Addr):Prop:=md=md'∨(md=none∧∀b,md'=some b→s.heap.objs.size≤b)
noncomputable def XM (env:Env)(own:List (Str×Addr))(md:Option Addr)(b:Addr):Prop:=Mine env own b∨md=some b
theorem Mv.fresh_trans {X Y:Addr→Prop}{s s' s'':Shared}{G G' G'':Kn}(a:Mv X s G s' G')(b:Mv Y s' G' s'' G'')(h:∀x,Y x→X x∨s.heap.objs.size≤x):Mv X s G s'' G'':=by
 refine aV a.same fun h' tk' z3=>?_;subst z3
 refine aV b.same fun h'' tk'' z4=>?_;subst z4
 refine⟨⟨h'',tk'',rfl⟩,Nat.le_trans a.size b.size,Nat.le_trans a.tk b.tk,fun x o n e=>b.keep x o (fun y=>(h x y).elim n fun z=>Nat.not_lt.mpr z (Heap.lt_size e)) (a.keep x o n e),a.le.trans b.le,b.inn,fun x o e=>(b.fresh x o e).elim (a.fresh x o) fun q=>.inr (Nat.le_trans a.size q)⟩
theorem fk.trans {s s':Shared}{a b c:Option Addr}(h:fk s a b)(h':fk s' b c)(z:s.heap.objs.size≤s'.heap.objs.size):fk s a c:=by
 rcases h with rfl |⟨rfl,h⟩
 ·rcases h' with rfl |⟨rfl,h'⟩
  ·exact .inl rfl
  ·exact .inr ⟨rfl,fun b e=>Nat.le_trans z (h' b e)⟩
 ·rcases h' with rfl |⟨rfl,h'⟩
  ·exact .inr ⟨rfl,h⟩
  ·exact .inr ⟨rfl,fun b e=>Nat.le_trans z (h' b e)⟩
theorem lZ {env:Env}{own:List (Str×Addr)}{md md':Option Addr}{s s' s'':Shared}{G G' G'':Kn}(a:Mv (XM env own md) s G s' G')(r:fk s md md')(b:Mv (XM env own md') s' G' s'' G''):Mv (XM env own md) s G s'' G'':=by
 refine a.fresh_trans b fun x hx=>?_;rcases hx with h |h
 ·exact .inl (.inl h)
 ·rcases r with rfl |⟨_,r⟩
  ·exact .inl (.inr h)
  ·exact .inr (r x h)
section
variable {prog:Program}{w:World}{K:Frag}{mg mb:Str→Option Value}{k:Nat}{R:bm}{A:Around}{env:Env}{own:List (Str×Addr)}{s sB:Shared}{G GB:Kn}{E:Value→Shared→Prop}{sc:aq}{cf:bE}{st:bz}{md:Option Addr}
theorem ix {P:Params}{v:Value}{d:D}(h:cW d=true)(r:Rd P G v d)(G':Kn):Rd P G' v d:=by
 cases d with
 |none=>rw [r.none_i];exact .none
 |bool b=>rw [r.bool_i];exact .bool _
 |int i=>refine xe r.int_i fun Z e=>?_;rw [e];exact .int _ _
 |str x=>refine xe r.str_i fun Z e=>?_;rw [e];exact .str _ _
 |typ n=>rw [r.typ_i];exact .typ _
 |_=>exact(aj h).elim
theorem mt {P:Params}{vs:List Value}{ds:List D}(h:ds.all cW=true)(r:ai P G vs ds)(G':Kn):ai P G' vs ds:=
 r.ind (m:=fun vs ds=>ds.all cW=true→ai P G' vs ds) (fun Z=>.nil) (fun Z Z d ds a Z ih h=>by
  obtain⟨h1,h2⟩:=Bool.and_eq_true_iff.mp (show(cW d&&ds.all cW)=true from h)
  exact .cons (ix h1 a G') (ih h2)) h
structure EH (P:Params)(sB:Shared)(env:Env)(cf:bE)(md:Option Addr)(st:bz)(s:Shared)(G Gx:Kn):Prop where
 env:aP P Gx s.heap env (bt cf st)
 le:G.Le Gx
 only:∀a o,Gx a=some o→G a=some o∨md=some a
 off:∀a,md=some a→G a=none∧sB.heap.objs.size≤a∧a<s.heap.objs.size
 eq:md=none→Gx=G
 lst:∀a,md=some a→∃vs n,Gx a=some (aB vs n)
theorem qO {cf:bE}{st:bz}(h:st.l=none):bt cf st=st.ρ:=by unfold bt;rw [h]
theorem qN {cf:bE}{st:bz}{l:List D}{x:Str}(h:st.l=some l)(hx:cf.mu=some x):bt cf st=ad st.ρ x (.list l):=by unfold bt;rw [h,hx]
theorem qD {ρ:Ro}{x y:Str}{d e:D}(h:ad ρ x d y=some e):(y=x∧d=e)∨(ar y x=false∧ρ y=some e):=by
 cases q:ar y x with
 |true=>exact .inl ⟨(ao _ _).mp q,by unfold ad at h;rw [q]at h;exact Option.some.inj h⟩
 |false=>exact .inr ⟨rfl,by unfold ad at h;rw [q]at h;exact h⟩
theorem ax.wide {P:Params}(S:ax P sB GB env own cf md st s G):∃Gx,EH P sB env cf md st s G Gx:=by
 refine aR S.ex fun ρ S0 wk L=>?_;cases hl:st.l with
 |none=>
  have hm:=(L.no hl).1;exact⟨G,by rw [qO hl];exact(S0.weak wk).env,.refl G,fun a o e=>.inl e,fun a e=>(aa (hm.symm.trans e)).elim,fun Z=>rfl,fun a e=>(aa (hm.symm.trans e)).elim⟩
 |some l=>
  obtain⟨x,D₀,hx,hm,⟨vs,n,ho,rd⟩,off,hB,hlt,hM,hρ,okx,_⟩:=L.yes hl;have ia:∀{a},md=some a→a=D₀:=fun e=>Option.some.inj (e.symm.trans hm)
  refine⟨G.add D₀ (aB vs n),⟨fun y d e=>?_,S0.env.kind,fun a o e=>(Kn.add_i e).elim (fun z=>by rw [z.1,←z.2];exact ho) fun z=>S0.inn a o z.2⟩,Kn.le_add off,fun a o e=>(Kn.add_i e).elim (fun z=>.inr (z.1▸hm)) fun z=>.inl z.2,fun a e=>by rw [ia e];exact⟨off,hB,hlt⟩,fun z=>(aa (z.symm.trans hm)).elim,fun a e=>by rw [ia e];exact⟨vs,n,Kn.add_self⟩⟩
  rw [qN hl hx]at e;rcases qD e with⟨rfl,rfl⟩ |⟨_,e⟩
  ·refine cn (S0.env.vars _ _ hρ) fun ok v hv r=>?_;rw [r.adr_i]at hv;exact⟨ok,_,hv,.list Kn.add_self (rd.mono (Kn.le_add off))⟩
  ·refine cn (S0.env.vars _ _ (wk y d e)) fun ok v hv r=>?_;exact⟨ok,v,hv,r.mono (Kn.le_add off)⟩
theorem ax.grew {P:Params}{s':Shared}{G':Kn}(S:ax P sB GB env own cf md st s G)(g:ae s G s' G'):ax P sB GB env own cf md st s' G':=by
 refine aR S.ex fun ρ S0 wk L=>?_;exact⟨S.base.mv (X:=fun Z=>False) g.mv,ρ,S0.grew g,wk,L.mv rfl rfl (ae.mv (X:=fun Z=>False) g) (fun Z Z Z=>id) fun Z Z=>rfl⟩
theorem ax.mv {P:Params}{Y:Addr→Prop}{s':Shared}{G':Kn}(S:ax P sB GB env own cf md st s G)(m:Mv Y s G s' G')(hY:∀b,Y b→sB.heap.get? b=none∧¬Mine env own b∧md≠some b):ax P sB GB env own cf md st s' G':=by
 refine aR S.ex fun ρ S0 wk L=>?_;exact⟨S.base.mv m,ρ,S0.mv m fun b hb=>⟨(hY b hb).1,(hY b hb).2.1⟩,wk,L.mv rfl rfl m (fun a h Z y=>(hY a y).2.2 h) fun Z Z=>rfl⟩
theorem ax.cx {P:Params}(S:ax P sB GB env own cf md st s G)(C:Cx K mg mb sB):Cx K mg mb s:=by
 obtain⟨ρ,S0,_⟩:=S.ex;exact S0.cx C S.base.tk
structure Fs (md:Option Addr)(s:Shared)(G Gx':Kn)(s':Shared)(G':Kn):Prop where
 g:ae s G s' G'
 off:∀a,md=some a→G' a=none
 eq:md=none→G'=Gx'
 at_:∀a o,md≠some a→Gx' a=some o→G' a=some o
theorem ow {α:Type}{c:Prop} [Decidable c] {X:Option α}{o:α}(e:(if c then none else X)=some o):¬c∧X=some o:=by
 by_cases h:c
 ·rw [if_pos h]at e;exact(aa e).elim
 ·rw [if_neg h]at e;exact⟨h,e⟩
theorem n7 {Gx Gx':Kn}{s':Shared}(le:G.Le Gx)(only:∀a o,Gx a=some o→G a=some o∨md=some a)(offm:∀a,md=some a→G a=none∧sB.heap.objs.size≤a∧a<s.heap.objs.size)(g:ae s Gx s' Gx'):∃G',Fs md s G Gx' s' G':=
 ⟨fun a=>if md=some a then none else Gx' a,⟨g.same,g.size,g.tk,g.keep,fun a o e=>(if_neg fun z=>aa ((offm a z).1.symm.trans e)).trans (g.le a o (le a o e)),fun a o e=>g.inn a o (ow e).2,fun a o e=>(g.fresh a o (ow e).2).elim (fun q=>(only a o q).elim .inl fun q=>absurd q (ow e).1) .inr⟩,fun a e=>if_pos e,fun e=>funext fun a=>if_neg fun z=>aa (e.symm.trans z),fun a o n e=>(if_neg n).trans e⟩
structure Fu (P:Params)(sB:Shared)(GB:Kn)(env:Env)(own:List (Str×Addr))(cf:bE)(md:Option Addr)(st:bz)(s:Shared)(G:Kn)(v:Value)(d:D)(s':Shared)(G':Kn):Prop where
 ok:ax P sB GB env own cf md st s' G'
 g:ae s G s' G'
 rd:gi st d=true→Rd P G' v d
 all:aQ P sB GB d v s'
theorem ax.none_l {P:Params}(S:ax P sB GB env own cf md st s G)(h:st.l=none):md=none:=by
 refine aR S.ex fun ρ S0 wk L=>?_;exact(L.no h).1
theorem sQ {d:D}(h:pJ d=true):∃ds,d=.tup ds∧ds.all cW=true:=by
 cases d with
 |tup ds=>exact⟨ds,rfl,h⟩
 |_=>exact(aj h).elim
theorem yk {st:bz}{d:D}(h:gi st d=true):st.l=none∨cW d=true∨∃ds,d=.tup ds∧ds.all cW=true:=by
 unfold gi at h;cases q:st.l with
 |none=>exact .inl rfl
 |some l=>rw [q]at h;exact .inr ((Bool.or_eq_true_iff.mp h).imp id sQ)
theorem hU (H:aw prog w K mg mb k R)(rm:am k A)(hs:aD sc env)(hB:Cx K mg mb sB)(S:ax w.params sB GB env own cf md st s G){e:PySem.Expr}{d:D}(q:R.ev sc (bt cf st) e=some d){Q:Value→Shared→Prop}
  (h:∀v s' G',Fu w.params sB GB env own cf md st s G v d s' G'→Q v s'):wpAny (model prog w) A (eval e env) Q E s:=by
 refine xe S.wide fun Gx z5=>?_;obtain⟨Sx,le,only,offm,hn,hlst⟩:=z5
 refine bI (H.ev sc (bt cf st) e d q A env s Gx E rm (S.cx hB) hs Sx) fun v s' Gx' g r=>?_;refine xe (n7 le only offm g) fun G' z6=>?_;obtain⟨g',off',hn',hnar⟩:=z6
 refine h v s' G' ⟨S.grew g',g',fun ok=>?_,Gx',?_,r⟩
 ·rcases yk ok with hl |ok |⟨ds,rfl,okt⟩
  ·rw [hn' (S.none_l hl)];exact r
  ·exact ix ok r G'
  ·refine ck r.tup_i fun a n vs z7 qt rt=>?_;subst z7
   refine .tup (hnar a _ (fun z=>?_) qt) (mt okt rt G')
   refine aV (hlst a z) fun vs' n' h1=>?_;have h2:=congrArg Obj.cls (Option.some.inj (qt.symm.trans (g.le a _ h1)));exact aj (by have h3:=congrArg (fun v:Value=>v== .type "list") h2;exact h3)
 ·refine aV S.base.same fun h1 t1 e1=>?_;refine aV g.same fun h2 t2 e2=>?_;refine ah S.ex fun ρ S0 Z=>?_;refine aA S0.ex fun Z Z F Z=>?_;exact⟨⟨h2,t2,by rw [e2,e1]⟩,Nat.le_trans S.base.size g.size,Nat.le_trans S.base.tk g.tk,fun b o e=>g.keep b o (F.keep b o e),(S.base.le.trans le).trans g.le,g.inn,fun a o e=>(g.fresh a o e).elim (fun z=>(only a o z).elim (S.base.fresh a o) fun z=>.inr (offm a z).2.1) fun z=>.inr (Nat.le_trans S.base.size z)⟩
theorem qR (H:aw prog w K mg mb k R)(rm:am k A)(hs:aD sc env)(hB:Cx K mg mb sB)(S:ax w.params sB GB env own cf md st s G){e:PySem.Expr}{b:Bool}(q:R.ts sc (bt cf st) e=some b){Q:Bool→Shared→Prop}
  (h:∀s' G',ax w.params sB GB env own cf md st s' G'→ae s G s' G'→Q b s'):wpAny (model prog w) A (isTrue e env (eval e env)) Q E s:=by
 refine xe S.wide fun Gx z8=>?_;obtain⟨Sx,le,only,offm,hn,_⟩:=z8
 refine jT (H.ts sc (bt cf st) e b q A env s Gx E rm (S.cx hB) hs Sx) fun s' Gx' g=>?_;refine xe (n7 le only offm g) fun G' z9=>?_;obtain⟨g',_,_,_⟩:=z9
 exact h s' G' (S.grew g') g'
end
noncomputable def wB (op:Operator)(a b:D):Option D:=match op,a,b with
 | .Add,.int i,.int j=>some (.int (i+j))
 | .Sub,.int i,.int j=>some (.int (i - j))
 |_,_,_=>none
noncomputable def kM (t v:PySem.Expr):Bool:=match t,v with
 | .Tuple ts _ _,.Tuple vs _ _=>Nat.beq ts.length 2&&(vs.all (foldedForSure 8)|| !vs.all (constantsAlone 8))
 |_,_=>true
noncomputable def nT (a b c:Int):Option (List D):=
 if Builtin.Range.small a b c&& !(c==0)&& !Builtin.divisionGoesByPylong (b - a) c&&decide (Builtin.Range.rangeSize a b c≤1000)&&decide (0≤Builtin.Range.rangeSize a b c)then some ((List.range (Builtin.Range.rangeSize a b c).toNat).map fun(i:Nat)=>D.int (a+i*c))else none
noncomputable def uf:PySem.Expr→Bool
 | .List [] _=>true
 |_=>false
noncomputable def BE (v:PySem.Expr):Option (Str×Str×List PySem.Expr):=(iF v).bind fun q=>match q.2 with
 | [a]=>(iF a).map fun r=>(q.1,r.1,r.2)
 |_=>none
noncomputable def rU:D→Option Int
 | .int i=>some i
 |_=>none
noncomputable def sU:List D→Option (Int×Int×Int)
 | [x,y,z]=>(rU x).bind fun a=>(rU y).bind fun b=>(rU z).map fun c=>(a,b,c)
 |_=>none
noncomputable def nr (R:bm)(sc:aq)(ρ:Ro)(v:PySem.Expr):Option (List D):=match uf v with
 |true=>some []
 |false=>(BE v).bind fun t=>match aY sc t.1&&ar t.1 "list" &&aY sc t.2.1&&ar t.2.1 "range" with
  |true=>(bi (R.ev sc ρ) t.2.2).bind fun ds=>(sU ds).bind fun p=>nT p.1 p.2.1 p.2.2
  |false=>none
noncomputable def mh (R:bm)(sc:aq)(cf:bE)(st:bz)(t v:PySem.Expr):Option bz:=match t with
 | .Name x _=>match gY cf.mu x with
  |true=>match bF sc x&&(match aE sc x with |some .local=>true |_=>false),st.l with
   |true,none=>match st.ap with
    |true=>none
    |false=>(nr R sc st.ρ v).map fun l=>{st with l:=some l,ρ:=fun y=>match ar y x with |true=>none |false=>st.ρ y}
   |_,_=>none
  |false=>match gY cf.ap x with
   |true=>match v with
    | .Attribute (.Name y _) a _=>match gY cf.mu y&&ar a "append" &&st.l.isSome&&bF sc x with
     |true=>some {st with ap:=true,ρ:=fun y=>match ar y x with |true=>none |false=>st.ρ y}
     |false=>none
    |_=>none
   |false=>match v with
    | .DictComp .. =>none
    | .SetComp .. =>none
    | .ListComp elt gens scope _=>match st.l with
     |some _=>none
     |none=>match db R sc st.ρ gens scope elt with
      |some ys=>bo sc cf st t (.list ys)
      |none=>none
    |_=>match R.ev sc (bt cf st) v with
     |some d=>bo sc cf st t d
     |none=>none
 | .Tuple .. =>match kM t v with
  |true=>match R.ev sc (bt cf st) v with
   |some d=>bo sc cf st t d
   |none=>none
  |false=>none
 | .Subscript (.Name x _) i _=>match gY cf.mu x,st.l with
  |true,some l=>match R.ev sc (bt cf st) v with
   |some d=>match cW d,R.ev sc (bt cf st) i with
    |true,some (.int (.ofNat n))=>if n<l.length∧l.length≤1000 then some {st with l:=some (l.set n d)}else none
    |_,_=>none
   |none=>none
  |_,_=>none
 |_=>none
noncomputable def i6 (sc:aq)(cf:bE)(t:PySem.Expr)(run:bz→Option ce):bz→List D→Option ce
 |st,[]=>some (.next st)
 |st,d::r=>match bo sc cf st t d with
  |none=>none
  |some st'=>match run st' with
   |none=>none
   |some (.next st'')=>i6 sc cf t run st'' r
   |some (.ret d)=>some (.ret d)
noncomputable def ik (ts:bz→Option Bool)(run:bz→Option ce):Nat→bz→Option ce
 |0,_=>none
 |n+1,st=>match ts st with
  |none=>none
  |some false=>some (.next st)
  |some true=>match run st with
   |none=>none
   |some (.next st')=>ik ts run n st'
   |some (.ret d)=>some (.ret d)
noncomputable def jy (sc:aq)(st:bz)(it:PySem.Expr):Bool:=match st.l with
 |none=>true
 |some _=>match it with
  | .Call (.Name f _) _ [] _=>aY sc f&&ar f "range"
  |_=>false
noncomputable def kO (R:bm)(sc:aq)(cf:bE)(run:bz→List Stmt→Option ce) (n:Nat)(st:bz)(s:Stmt):Option ce:=match s with
 | .Assign [t] v _=>(mh R sc cf st t v).map .next
 | .Assign [t1,t2] v _=>match t1,t2 with
  | .Name ..,.Name .. =>match R.ev sc (bt cf st) v with
   |none=>none
   |some d=>match bo sc cf st t1 d with
    |none=>none
    |some st'=>match gi st d with
     |true=>(bo sc cf st' t2 d).map .next
     |false=>none
  |_,_=>none
 | .AugAssign (.Name x p) op v _=>match st.ρ x with
  |none=>none
  |some a=>match R.ev sc (bt cf st) v with
   |none=>none
   |some b=>match wB op a b with
    |none=>none
    |some d=>(bo sc cf st (.Name x p) d).map .next
 | .If t b o _=>match R.ts sc (bt cf st) t with
  |none=>none
  |some true=>run st b
  |some false=>run st o
 | .While t b [] _=>ik (fun st=>R.ts sc (bt cf st) t) (fun st=>run st b) n st
 | .For t it b [] _=>match bx it with
  |true=>none
  |false=>match bb R sc (bt cf st) t it with
   |none=>none
   |some items=>match jy sc st it with
    |false=>none
    |true=>i6 sc cf t (fun st=>run st b) st items
 | .Return (some e) _=>(R.ev sc (bt cf st) e).map .ret
 | .Assert t _ _=>match R.ts sc (bt cf st) t with
  |some true=>some (.next st)
  |_=>none
 | .Expr (.Call (.Name y _) [e] [] _) _=>match gY cf.ap y,st.ap,st.l with
  |true,true,some l=>match cX e,R.ev sc (bt cf st) e with
   |false,some d=>match cW d&&Nat.ble l.length 1000 with
    |true=>some (.next {st with l:=some (l++ [d])})
    |false=>none
   |_,_=>none
  |_,_,_=>none
 |_=>none
noncomputable def cC (R:bm)(sc:aq)(cf:bE):Nat→bz→List Stmt→Option ce
 |0,_,_=>none
 |n+1,st,ss=>match ss with
  | []=>some (.next st)
  |s::r=>match kO R sc cf (cC R sc cf n) n st s with
   |none=>none
   |some (.next st')=>cC R sc cf n st' r
   |some (.ret d)=>some (.ret d)
noncomputable def cA (P:Params)(sB:Shared)(GB:Kn)(env:Env)(own:List (Str×Addr))(cf:bE)(s:Shared)(G:Kn)(md:Option Addr)(o:ce)(f:Flow)(s':Shared):Prop:=match o with
 | .next st'=>f=.next∧∃G' md',Mv (XM env own md) s G s' G'∧fk s md md'∧ax P sB GB env own cf md' st' s' G'
 | .ret d=> ∃v,f=.ret v∧aQ P sB GB d v s'
theorem cA.pre {P:Params}{sB:Shared}{GB:Kn}{env:Env}{own:List (Str×Addr)}{cf:bE}{s s₁ s':Shared}{G G₁:Kn}{md md1:Option Addr}{o:ce}{f:Flow}(m:Mv (XM env own md) s G s₁ G₁)(r:fk s md md1)(h:cA P sB GB env own cf s₁ G₁ md1 o f s'):cA P sB GB env own cf s G md o f s':=by
 cases o with
 |next st'=>
  refine kI h fun e G' md' m' r' S=>?_;exact⟨e,G',md',lZ m r m',r.trans r' m.size,S⟩
 |ret d=>exact h
section
variable {prog:Program}{w:World}{K:Frag}{mg mb:Str→Option Value}{k:Nat}{R:bm}{A:Around}{env:Env}{own:List (Str×Addr)}{s sB:Shared}{G GB:Kn}{E:Value→Shared→Prop}{sc:aq}{cf:bE}{st st':bz}{md:Option Addr}
theorem xg {x y:Str}{cf:bE}(h:ky cf x=false):(∀z,cf.mu=some z→z≠x)∧(∀z,cf.ap=some z→z≠x):=by
 unfold ky at h;rw [Bool.or_eq_false_iff]at h;refine⟨fun z e q=>?_,fun z e q=>?_⟩
 ·have:=h.1;rw [e]at this;unfold gY at this;dsimp only at this;rw [q,(ao _ _).mpr rfl]at this;exact(cb this).elim
 ·have:=h.2;rw [e]at this;unfold gY at this;dsimp only at this;rw [q,(ao _ _).mpr rfl]at this;exact(cb this).elim
theorem lE {x:Str}{es:List PySem.Expr}{ds:List D}{ρ ρ':Ro}(ha:es.all (fun e=>match e with | .Name y _=> !ar x y |_=>false)=true)(h:aU sc ρ es ds=some ρ'):ρ' x=ρ x:=
 eZ (C:=fun ρ es Z ρ'=>es.all (fun e=>match e with | .Name y _=> !ar x y |_=>false)=true→ρ' x=ρ x) (fun Z Z=>rfl) (fun ρ y p es d ds ρ' Z ih ha=>by
  rw [List.all_cons,Bool.and_eq_true]at ha;rw [ih ha.2];unfold ad;have:ar x y=false:=by simpa using ha.1
  rw [this]) h ha
theorem lB {ρ ρ1:Ro}{y:Str}{d':D}(le:∀x d,ρ x=some d→ρ1 x=some d)(x:Str)(d:D)(hx:ad ρ y d' x=some d):ad ρ1 y d' x=some d:=by
 unfold ad at hx⊢;cases z:ar x y<;>rw [z]at hx
 ·exact le x d hx
 ·exact hx
theorem o8 {es:List PySem.Expr}{ds:List D}{ρ ρ1 ρ':Ro}(le:∀x d,ρ x=some d→ρ1 x=some d)(h:aU sc ρ es ds=some ρ'):∃ρ1',aU sc ρ1 es ds=some ρ1'∧∀x d,ρ' x=some d→ρ1' x=some d:=
 eZ (C:=fun ρ es ds ρ'=> ∀ρ1:Ro,(∀x d,ρ x=some d→ρ1 x=some d)→∃ρ1',aU sc ρ1 es ds=some ρ1'∧∀x d,ρ' x=some d→ρ1' x=some d) (fun ρ ρ1 le=>⟨ρ1,rfl,le⟩) (fun ρ y p es d ds ρ' q ih ρ1 le=>by
  refine ah (ih (ad ρ1 y d) (lB le)) fun ρ1' h1 h2=>?_;refine⟨ρ1',?_,h2⟩;show(match bF sc y with |true=>aU sc (ad ρ1 y d) es ds |false=>none)=_
  rw [q]
  exact h1) h ρ1 le
theorem gq {t:PySem.Expr}{d:D}{ρ ρ1 ρ':Ro}(le:∀x d,ρ x=some d→ρ1 x=some d)(h:aG sc ρ t d=some ρ'):∃ρ1',aG sc ρ1 t d=some ρ1'∧∀x d,ρ' x=some d→ρ1' x=some d:=by
 rcases kJ h with⟨y,p,rfl,q,rfl⟩ |⟨es,k,p,ds,rfl,q,e⟩
 ·refine⟨ad ρ1 y d,?_,lB le⟩;show(match bF sc y with |true=>some (ad ρ1 y d) |false=>none)=_
  rw [q]
 ·refine ah (o8 le e) fun ρ1' h1 h2=>?_;refine⟨ρ1',?_,h2⟩;show(match eX d with |some ds=>aU sc ρ1 es ds |none=>none)=_
  rw [q];exact h1
theorem ni {t:PySem.Expr}{d:D}{ρ ρ':Ro}{x:Str}{cf:bE}(hx:cf.mu=some x∨cf.ap=some x)(ht:kK cf t=true)(h:aG sc ρ t d=some ρ'):ρ' x=ρ x:=by
 have ne:∀y,ky cf y=false→ar x y=false:=fun y hy=>by
  cases q:ar x y with
  |false=>rfl
  |true=>
   have e:=(ao _ _).mp q;rcases hx with hx |hx
   ·exact absurd e ((xg (y:=y) hy).1 x hx)
   ·exact absurd e ((xg (y:=y) hy).2 x hx)
 rcases kJ h with⟨y,p,rfl,q,rfl⟩ |⟨es,k,p,ds,rfl,q,e⟩
 ·unfold ad;have ht:(!ky cf y)=true:=ht;rw [ne y (by simpa using ht)]
 ·refine lE ?_ e;have ht:es.all (fun e=>match e with | .Name y _=> !ky cf y |_=>false)=true:=ht
  rw [List.all_eq_true]at ht⊢;intro e he;obtain⟨y,p,rfl⟩:∃y p,e=.Name y p:=by
   have:=ht e he;cases e<;>first |exact(aj this).elim |exact⟨_,_,rfl⟩
  have:=ht _ he;dsimp only at this⊢;rw [ne y (by simpa using this)]
  rfl
theorem ax.stored {P:Params}{t:PySem.Expr}{d:D}{s':Shared}{ρ ρ':Ro}(S:ax P sB GB env own cf md st s G)(h:bo sc cf st t d=some st')(m:Mv (Mine env own) s G s' G)
  (L:dY P sB env own cf md st ρ s G)(wk:∀x d,st.ρ x=some d→ρ x=some d)(hb:aG sc ρ t d=some ρ')(S':a7 P sB.heap env own G s'.heap ρ'):ax P sB GB env own cf md st' s' G:=by
 refine eN (gJ h) fun ρ2 ht Z hb2 z1=>?_;subst z1
 refine ah (gq wk hb2) fun ρ1 hb1 le=>?_;obtain rfl:=Option.some.inj (hb.symm.trans hb1);refine⟨S.base.mv m,ρ',S',le,?_⟩;exact L.mv rfl rfl m (fun Z Z n=>n) fun x hx=>ni hx ht hb
theorem cK (hh:A.handled=none)(C:be sc env own)(S:ax w.params sB GB env own cf md st s G){t:PySem.Expr}{v:Value}{d:D}(r:Rd w.params G v d)(h:bo sc cf st t d=some st'):
  wpAny (model prog w) A (assign t env v) (fun Z s'=>ax w.params sB GB env own cf md st' s' G∧Mv (Mine env own) s G s' G) E s:=by
 refine aR S.ex fun ρ S0 wk L=>?_;refine eN (gJ h) fun ρ2 Z Z hb2 Z=>?_;refine ah (gq wk hb2) fun ρ1 hb1 le=>?_;exact wpAny_mono (mx hh S0 C r hb1) (fun Z s' hs=>⟨S.stored h hs.2 L wk hb1 hs.1,hs.2⟩) fun Z Z z=>z
theorem o0 {t:PySem.Expr}{d:D}(h:bo sc cf st t d=some st'):gi st d=true∧st'.l=st.l:=by
 refine eN (gJ h) fun ρ Z h1 Z z2=>?_;subst z2
 exact⟨h1,rfl⟩
theorem gu (m:Mv (Mine env own) s G s' G')(S:ax P sB GB env own cf md st' s' G'):cA P sB GB env own cf s G md (.next st') .next s':=
 ⟨rfl,G',md,m.weak fun b hb=>.inl hb,.inl rfl,S⟩
end
section
variable {prog:Program}{w:World}{K:Frag}{mg mb:Str→Option Value}{k:Nat}{R:bm}{A:Around}{env:Env}{own:List (Str×Addr)}{s sB:Shared}{G GB:Kn}{E:Value→Shared→Prop}{sc:aq}{cf:bE}{st st':bz}{md:Option Addr}
theorem jn {M:Model}{v:Value}{f:Value→Sem Unit}{Q:Unit→Shared→Prop}(h:wpAny M A (f v) Q E s):wpAny M A (assignAll v [f]) Q E s:=h
theorem nF (H:aw prog w K mg mb k R)(rm:am k A)(C:be sc env own)(hs:aD sc env)(hB:Cx K mg mb sB)(S:ax w.params sB GB env own cf md st s G){t v:PySem.Expr}{pos:Pos}{d:D}
  (hsw:swapsWithSole [t] v pos.line env=pure false)(hw:swappedStores [t] v env=pure none)(ht:(assignEach [t] env).map (·.2)=[assign t env])(q:R.ev sc (bt cf st) v=some d)(qb:bo sc cf st t d=some st'):
  wpAny (model prog w) A (exec (.Assign [t] v pos) env) (cA w.params sB GB env own cf s G md (.next st')) E s:=by
 refine wpAny_Assign_stores (hU H rm hs hB S q fun u s₁ G₁ g=>?_) hsw hw
 rw [ht];refine jn (wpAny_mono (cK rm.hh C g.ok (g.rd (o0 qb).1) qb) (fun Z s2 h2=>gu ((ae.mv g.g).trans h2.2) h2.1) fun Z Z z=>z)
noncomputable def lu:PySem.Expr→Bool
 | .ListComp .. =>true
 | .SetComp .. =>true
 | .DictComp .. =>true
 |_=>false
theorem nM {v:PySem.Expr}{x:Str}{p:Pos}{line:Nat}{env:Env}(h:lu v=false):swapsWith v (some (.Name x p)) line env=pure false:=by
 cases v<;>first |rfl |exact(aj h.symm).elim
theorem mY (H:aw prog w K mg mb k R)(rm:am k A)(C:be sc env own)(hs:aD sc env)(hB:Cx K mg mb sB)(S:ax w.params sB GB env own cf md st s G){x:Str}{p:Pos}{v:PySem.Expr}{pos:Pos}{d:D}
  (hc:lu v=false)(q:R.ev sc (bt cf st) v=some d)(qb:bo sc cf st (.Name x p) d=some st'):
  wpAny (model prog w) A (exec (.Assign [.Name x p] v pos) env) (cA w.params sB GB env own cf s G md (.next st')) E s:=by
 exact nF H rm C hs hB S (nM (line:=pos.line) hc) (by first |rfl |(cases v<;>rfl)) rfl q qb
theorem sL (h:st.l=none):bt cf st=st.ρ:=by unfold bt;rw [h]
theorem jg (H:aw prog w K mg mb k R)(rm:am k A)(C:be sc env own)(hs:aD sc env)(hB:Cx K mg mb sB)(S:ax w.params sB GB env own cf md st s G){x:Str}{p:Pos}{elt:PySem.Expr}{gens:List Comprehension}{scope:Scope}{vp pos:Pos}{ys:List D}
  (hl:st.l=none)(q:db R sc st.ρ gens scope elt=some ys)(qb:bo sc cf st (.Name x p) (.list ys)=some st'):
  wpAny (model prog w) A (exec (.Assign [.Name x p] (.ListComp elt gens scope vp) pos) env) (cA w.params sB GB env own cf s G md (.next st')) E s:=by
 obtain⟨b,hb⟩:∃b,swapsWith (.ListComp elt gens scope vp) (some (.Name x p)) pos.line env=pure b:=⟨_,rfl⟩;have hmd:=S.none_l hl;refine aR S.ex fun ρ S0 wk L=>?_;have S1:=S0.weak wk;have hx:=S.cx hB;cases b with
 |false=>
  refine wpAny_Assign_stores (bI (kS H rm hs hx S1.env q) fun u s₁ G₁ g r=>?_) hb rfl
  exact jn (wpAny_mono (cK rm.hh C (S.grew g) r qb) (fun Z s2 h2=>gu ((ae.mv g).trans h2.2) h2.1) fun Z Z z=>z)
 |true=>
  rw [exec_Assign_Name_used _ _ _ _ hb];refine wpAny_bind (wpAny_standAt (wpAny_bind ?_));show wpAny _ A (do let _ ←comprehension (.ListComp elt gens scope vp) scope env (firstIterPos gens vp) (newList []) (firstAsync gens) (firstIter gens env) (some (assign (.Name x p) env))) _ E s
  have fin:∀(D C':Addr) (s':Shared) (G':Kn),ae s G s' G'→ct w.params D ys G' s'.heap→(∃m,s'.heap.Ns C' m)→s.heap.objs.size≤C'→s.heap.objs.size≤D→G' C'=none→G' D=none→D<s'.heap.objs.size→C'≠D→
    compPost (model prog w) A E (some (assign (.Name x p) env)) (fun Z s'=>cA w.params sB GB env own cf s G md (.next st') .next s') (.ref D) C' (.ok .next) s':=by
   intro D C' s' G' g ac hm hC hD oC oD _ ne;refine xe hm fun m hm=>?_;refine aA ac fun vs n ho r=>?_;have gD:=g.learn ho hD oD;have notM:¬Mine env own C':=fun hM=>absurd (S0.mine_lt hM).1 (Nat.not_lt.mpr hC)
   refine wpAny_mono (cK rm.hh C (S.grew gD) (.list Kn.add_self (r.mono (Kn.le_add oD))) qb) (fun Z s2 h2=>?_) fun Z Z z=>z
   refine xa h2 fun S2 m2=>?_;refine⟨m,hm.at' fun o e=>m2.keep _ o notM e,fun h' hs'=>?_⟩
   have m3:=iB (X:=(· =C')) m2.inn hs' rfl ((if_neg ne).trans oC) (Nat.le_refl _);exact gu (((ae.mv gD).trans m2).fresh_trans m3 fun b hb=>.inr (hb▸hC)) (S2.mv m3 fun b hb=>by rw [hb];exact⟨dQ (Nat.le_trans S.base.size hC),notM,fun z=>aa (hmd.symm.trans z)⟩)
  rcases ka q with⟨t,it,ifs,rfl⟩ |⟨t,it,ifs,y,p,it2,rfl⟩
  ·exact wpAny_bind (wpAny_mono (xk H rm hs hx S1.env q fin) (fun Z s' h=>wpAny_pure (wpAny_pure h)) fun Z Z z=>z)
  ·exact wpAny_bind (wpAny_mono (xj H rm hs hx S1.env q fin) (fun Z s' h=>wpAny_pure (wpAny_pure h)) fun Z Z z=>z)
end
set_option backward.match.sparseCases true
section
variable {prog:Program}{w:World}{K:Frag}{mg mb:Str→Option Value}{k:Nat}{R:bm}{A:Around}{env:Env}{own:List (Str×Addr)}{s sB:Shared}{G GB:Kn}{E:Value→Shared→Prop}{sc:aq}{cf:bE}{st st':bz}{md:Option Addr}
theorem set_plain {l:Addr}{vs:List Value}{n:Nat}{k:Int}{t:Tok}{v:Value}{Q:Unit→Shared→Prop}(ho:s.heap.get? l=some (aB vs n))(h0:0≤k)(hj:k<(vs.toArray.size:Int))(hsm:k<2 ^ 63)
  (hQ:∀h' n',h'.get? l=some (aB (vs.set k.toNat v) n')→Heap.SameBut l s.heap h'→Q () {s with heap:=h'}):wpAny (model prog w) A (setItem (.ref l) (.int k t) v) Q E s:=by
 have hl:s.heap.IsList l vs.toArray:=⟨_,ho,rfl,n,rfl⟩;unfold setItem
 try with_reducible refine wpAny_holding ?_
 first |refine wpAny_bind (wpAny_pure ?_) |skip
 refine wpAny_bind (wpAny_sequenceKey hl.typeIs (by decide) ?_)
 refine wpAny_bind (wpAny_callSpecial?_slot (name:=Str.ofString "__setitem__") hl.typeIs slot_list_setitem
  (wpAny_call_entry slot_list_setitem hl.typeIs entry_list_setitem ?_ (args_list_setitem _ _ _)))
 show wpAny _ _ (Builtin.List.listSubscript? (.int k t)>>=_) _ _ s
 refine wpAny_bind (wpAny_listSubscript_int (fitsIndex_of h0 hsm) ?_);clear hsm;obtain⟨j,rfl⟩:=Int.eq_ofNat_of_zero_le h0;have hj':j<vs.toArray.size:=by omega
 have hx':vs.toArray[j]? =some vs.toArray[j]:=Array.getElem?_eq_getElem hj';show wpAny _ _ ((seqItemAt l j>>=fun r=>pure (r.map (j, ·)))>>=_) _ _ s
 refine wpAny_bind (wpAny_bind (wpAny_seqItemAt ho rfl (wpAny_pure ?_)));rw [hx'];show wpAny _ _ (setSeqItemAt l j v>>=_) _ _ s
 have e:Obj.mapSeq (·.setIfInBounds j v) (aB vs n)=aB (vs.set j v) n:=by
  simp [Obj.mapSeq]
 have hfin:(s.heap.update l (Obj.mapSeq (·.setIfInBounds j v))).get? l=some (aB (vs.set j v) n):=by
  rw [Heap.get?_update_self _ ho (by rw [e];rfl),e]
 refine wpAny_bind (wpAny_setSeqItemAt ho rfl ?_)
 first
  |exact wpAny_bind (wpAny_pure (wpAny_pure ⟨.none,rfl,wpAny_pure (hQ _ _ hfin (Heap.SameBut.update ..))⟩))
  |exact wpAny_pure ⟨.none,rfl,wpAny_pure (hQ _ _ hfin (Heap.SameBut.update ..))⟩
theorem u9 (C:be sc env own)(S:ax w.params sB GB env own cf md st s G){x:Str}{p:Pos}{v:Value}{d:D}{M:Model}(r:Rd w.params G v d)(h:bo sc cf st (.Name x p) d=some st'):
  wpAny M A (storeName env x v) (fun Z s'=>ax w.params sB GB env own cf md st' s' G∧Mv (Mine env own) s G s' G) E s:=by
 refine aR S.ex fun ρ S0 wk L=>?_;refine eN (gJ h) fun ρ2 Z Z hb2 Z=>?_;refine ah (gq wk hb2) fun ρ1 hb1 le=>?_;refine xa (ec hb1) fun ok hb3=>?_;obtain rfl:=Option.some.inj hb3;exact wpAny_mono (iO S0 r (cL ok) (eP C ok)) (fun Z s' hs=>⟨S.stored h hs.2 L wk hb1 hs.1,hs.2⟩) fun Z Z z=>z
theorem ax.remade {P:Params}{D₀:Addr}{l':List D}{h':Heap}(S:ax P sB GB env own cf md st s G)(hm:md=some D₀)(hl:st.l.isSome=true)(hs:Heap.SameBut D₀ s.heap h')(ac:ct P D₀ l' G h'):
  Mv (XM env own md) s G {s with heap:=h'} G∧ax P sB GB env own cf md {st with l:=some l'} {s with heap:=h'} G:=by
 refine aR S.ex fun ρ S0 wk L=>?_;refine xe (Option.isSome_iff_exists.mp hl) fun l hl=>?_;obtain⟨x,D,hx,hm',_,off,hB,hlt,hM,hρ,okx,hap⟩:=L.yes hl;have:D=D₀:=by rw [hm]at hm';exact(Option.some.inj hm').symm
 subst this;have m:Mv (fun b=>b=D) s G {s with heap:=h'} G:=iB S0.inn hs rfl off (Nat.le_refl _)
 refine⟨m.weak fun b hb=>.inr (by rw [hb];exact hm),S.base.mv m,ρ,S0.mv m fun b hb=>by rw [hb];exact⟨dQ hB,hM⟩,wk,?_⟩
 exact⟨x,D,hx,hm,ac,off,hB,Nat.lt_of_lt_of_le hlt m.size,hM,hρ,okx,hap⟩
theorem fG {o:Option Str}{x:Str}(h:gY o x=true):o=some x:=by
 unfold gY at h
 split at h
 ·rw [(ao _ _).mp h]
 ·exact(aj h).elim
theorem gh {st:bz}{d:D}(h:cW d=true):gi st d=true:=by
 unfold gi;cases st.l with
 |none=>rfl
 |some l=>exact Bool.or_eq_true_iff.mpr (.inl h)
inductive DK (P:Params)(env:Env)(md:Option Addr)(l:List D)(x:Str)(s:Shared)(G:Kn):Prop
 |mk (D₀:Addr) (hm:md=some D₀) (ac:ct P D₀ l G s.heap) (off:G D₀=none) (okx:ca x=true) (hv:em s.heap env x (.ref D₀)) (hk:env.scope.kind=.function)
theorem ax.live {P:Params}(S:ax P sB GB env own cf md st s G){l:List D}(hl:st.l=some l){x:Str}(hx:cf.mu=some x):DK P env md l x s G:=by
 refine aR S.ex fun ρ S0 wk L=>?_;obtain⟨y,D,hy,hm,ac,off,hB,hlt,hM,hρ,okx,hap⟩:=L.yes hl;rw [←Option.some.inj (hx.symm.trans hy)]at hρ okx;refine cn (S0.env.vars _ _ hρ) fun Z v hv r=>?_;rw [r.adr_i]at hv;exact⟨D,hm,ac,off,okx,hv,S0.env.kind⟩
theorem Cm (H:aw prog w K mg mb k R)(rm:am k A)(hs:aD sc env)(hB:Cx K mg mb sB)(S:ax w.params sB GB env own cf md st s G){x:Str}{xp p:Pos}{i v:PySem.Expr}{pos:Pos}{d:D}{l:List D}{n:Nat}
  (hx:gY cf.mu x=true)(hl:st.l=some l)(q:R.ev sc (bt cf st) v=some d)(lf:cW d=true)(qi:R.ev sc (bt cf st) i=some (.int (.ofNat n)))(hn:n<l.length)(hll:l.length≤100000):
  wpAny (model prog w) A (exec (.Assign [.Subscript (.Name x xp) i p] v pos) env) (cA w.params sB GB env own cf s G md (.next {st with l:=some (l.set n d)})) E s:=by
 refine dC fun Q1 k1=>wpAny_Assign_stores (hU H rm hs hB S q fun u s₁ G₁ g=>?_) (by first |rfl |(cases v<;>rfl)) (by first |rfl |(cases v<;>rfl))
 show wpAny _ A (assign (.Subscript (.Name x xp) i p) env u) _ E s₁
 obtain⟨D₀,hm,ac,off,okx,hv,hk⟩:=g.ok.live hl (fG hx)
 show wpAny _ A (do
  let ov ←holding [u] (eval (.Name x xp) env)
  let iv ←holding [u,ov] (eval i env)
  standAt p
  holding [u,ov,iv] (setItem ov iv u)
  release (match (generalizing:=false) i with | .Slice _ _ none _=>[iv,u,ov] |_=>[u,ov,iv]) []) _ E s₁
 refine wpAny_bind (wpAny_holding (dR hk hv (cI okx) ?_));refine wpAny_bind (wpAny_holding (hU H rm hs hB g.ok qi fun iv s2 G2 g2=>?_))
 obtain⟨t,rfl⟩:∃t,iv=.int (n:Int) t:=(g2.rd (gh rfl)).int_i;refine wpAny_bind (wpAny_standAt (wpAny_bind (wpAny_holding ?_)));obtain⟨D₁,hm1,⟨vs,c,ho,rd⟩,off2,_,_,_⟩:=g2.ok.live hl (fG hx);obtain rfl:D₁=D₀:=Option.some.inj (hm1.symm.trans hm);have hlen:=rd.length;refine set_plain ho (by lia) (by simp;lia) (by lia) fun h' n' ho' hs'=>wpAny_release ?_
 have ru:Rd w.params G2 u d:=ix lf (g.rd (gh lf)) G2;obtain⟨m,S'⟩:=g2.ok.remade (l':=l.set n d) hm (by rw [hl];rfl) hs' ⟨_,n',ho',rd.set n ru⟩
 exact k1 _ _ ⟨rfl,G2,md,(((ae.mv g.g).trans (ae.mv g2.g))).trans m,.inl rfl,S'⟩
theorem vO {M:Model}{x:Str}{v:Value}{Q:Value→Shared→Prop}(hk:env.scope.kind=.function)(r:em s.heap env x v)(h:Q v s):wpAny M A (loadName env x) Q E s:=by
 cases r with
 |loc a b c=>exact wpAny_loadName_local hk a b c h
 |cell a b c=>exact wpAny_loadName_cell hk a b c h
 |free a b c d=>exact wpAny_loadName_free hk a b c h d
theorem BB {op:Operator}{a b d:D}(e:wB op a b=some d):(∃i j,op=.Add∧a=.int i∧b=.int j∧ .int (i+j)=d)∨∃i j,op=.Sub∧a=.int i∧b=.int j∧ .int (i - j)=d:=by
 cases op<;>first |exact(aa e).elim |skip
 ·obtain⟨i,rfl⟩:∃i,a=D.int i:=by cases a<;>first |exact(aa e).elim |exact⟨_,rfl⟩
  obtain⟨j,rfl⟩:∃i,b=D.int i:=by cases b<;>first |exact(aa e).elim |exact⟨_,rfl⟩
  exact .inl ⟨i,j,rfl,rfl,rfl,Option.some.inj e⟩
 ·obtain⟨i,rfl⟩:∃i,a=D.int i:=by cases a<;>first |exact(aa e).elim |exact⟨_,rfl⟩
  obtain⟨j,rfl⟩:∃i,b=D.int i:=by cases b<;>first |exact(aa e).elim |exact⟨_,rfl⟩
  exact .inr ⟨i,j,rfl,rfl,rfl,Option.some.inj e⟩
theorem Co (H:aw prog w K mg mb k R)(rm:am k A)(C:be sc env own)(hs:aD sc env)(hB:Cx K mg mb sB)(S:ax w.params sB GB env own cf md st s G){x:Str}{p:Pos}{op:Operator}{v:PySem.Expr}{pos:Pos}{a b d:D}
  (qa:st.ρ x=some a)(q:R.ev sc (bt cf st) v=some b)(qd:wB op a b=some d)(qb:bo sc cf st (.Name x p) d=some st'):
  wpAny (model prog w) A (exec (.AugAssign (.Name x p) op v pos) env) (cA w.params sB GB env own cf s G md (.next st')) E s:=by
 refine aR S.ex fun ρ S0 wk L=>?_;refine dC fun Q1 k1=>?_;refine cn (S0.env.vars x a (wk x a qa)) fun ok u hu ru=>?_;refine wpAny_AugAssign_Name (vO S0.env.kind hu ?_);refine hU H rm hs hB S q fun y s₁ G₁ g=>?_;have fin:∀(i:Int) (t:Tok),d=.int i→wpAny (model prog w) A (storeName env x (.int i t)) (fun Z=>Q1 .next) E {s₁ with toks:=s₁.toks+1}:=by
  intro i t e;have gt:=ae.toks (s:=s₁) (g.ok.ex.elim fun Z h=>h.1.inn) (s₁.toks+1) (Nat.le_add_right _ _)
  exact wpAny_mono (u9 C (g.ok.grew gt) (by rw [e];exact .int i t) qb) (fun Z s2 h2=>k1 _ _ (gu (((ae.mv g.g).trans (ae.mv gt)).trans h2.2) h2.1)) fun Z Z z=>z
 have int {j:Int} (e:b=.int j):∃t,y=.int j t:=by rw [e]at g;exact(g.rd (gh rfl)).int_i
 rcases BB qd with⟨i,j,rfl,rfl,e,rfl⟩ |⟨i,j,rfl,rfl,e,rfl⟩
 ·refine xe ru.int_i fun Z z2=>?_;subst z2
  refine xe (int e) fun Z z3=>?_;subst z3
  exact P.iadd_int (fin _ _ rfl)
 ·refine xe ru.int_i fun Z z4=>?_;subst z4
  refine xe (int e) fun Z z5=>?_;subst z5
  exact P.isub_int (fin _ _ rfl)
end
section
variable {prog:Program}{w:World}{K:Frag}{mg mb:Str→Option Value}{k:Nat}{R:bm}{A:Around}{env:Env}{own:List (Str×Addr)}{s sB:Shared}{G GB:Kn}{E:Value→Shared→Prop}{sc:aq}{cf:bE}{st st':bz}{md:Option Addr}
noncomputable def cV (env:Env) (line:Nat):PySem.Expr→Option Str
 | .Name id pos=>if env.kindOf id==some .local&&pos.line==line then some id else none
 |_=>none
theorem j9 {line:Nat}{e:PySem.Expr}{x:Str}(h:cV env line e=some x):∃p,e=.Name x p:=by
 cases e with
 |Name y p=>obtain⟨_,rfl⟩:=aL h;exact⟨p,rfl⟩
 |_=>exact(aa h).elim
theorem Bu {c1 c2 c3 c4 c5:Bool}{X:Sem (Option (List Str))}{y:List Str}(h:c5=true→c4=true):∀r:Sem (Option (List Str)),(if c1=true then pure none else if c2=true then pure none else if c3=true then pure none else if c4=true then pure none else if c5=true then X else pure (some y))=r→r=pure none∨(c3=false∧r=pure (some y)):=by
 rintro r rfl
 cases c1 with
 |true=>exact .inl rfl
 |false=>
  cases c2 with
  |true=>exact .inl rfl
  |false=>
   cases c3 with
   |true=>exact .inl rfl
   |false=>
    cases c4 with
    |true=>exact .inl rfl
    |false=>
     cases c5 with
     |true=>exact(aj (h rfl)).elim
     |false=>exact .inr ⟨rfl,rfl⟩
theorem sO {line:Nat}{a b:PySem.Expr}(h:([a,b].filterMap (cV env line)).length=2):∃x p y p',a=.Name x p∧b=.Name y p'∧[a,b].filterMap (cV env line)=[x,y]:=by
 rw [List.filterMap_cons,List.filterMap_cons]at h;cases ha:cV env line a with
 |none=>
  rw [ha]at h;cases hb:cV env line b with
  |none=>rw [hb]at h;exact absurd h (show 0≠2 by decide)
  |some y=>rw [hb]at h;exact absurd h (show 1≠2 by decide)
 |some x=>
  rw [ha]at h;cases hb:cV env line b with
  |none=>rw [hb]at h;exact absurd h (show 1≠2 by decide)
  |some y=>
   obtain⟨p,rfl⟩:=j9 ha;obtain⟨p',rfl⟩:=j9 hb;exact⟨x,p,y,p',rfl,rfl,by rw [List.filterMap_cons,ha,List.filterMap_cons,hb];rfl⟩
theorem u5 {a b:PySem.Expr}{vs:List PySem.Expr}{tk vk:Nat}{tp vp:Pos}(h2:(vs.all (foldedForSure 8)|| !vs.all (constantsAlone 8))=true):
  swappedStores [.Tuple [a,b] tk tp] (.Tuple vs vk vp) env=pure none∨∃x p y p',a=.Name x p∧b=.Name y p'∧x≠y∧swappedStores [.Tuple [a,b] tk tp] (.Tuple vs vk vp) env=pure (some [x,y]):=by
 have key:=Bu (c1:= !([a,b].length==2|| [a,b].length==3)||vs.length != [a,b].length||env.blockKind != .function) (c2:=vs.any fun | .Starred .. =>true |_=>false)
  (c3:=([a,b].filterMap (cV env (([a,b].head?.map (·.pos.line)).getD 0))).length != [a,b].length||([a,b].filterMap (cV env (([a,b].head?.map (·.pos.line)).getD 0))).eraseDups.length !=([a,b].filterMap (cV env (([a,b].head?.map (·.pos.line)).getD 0))).length) (c4:=vs.all (foldedForSure 8)) (c5:=vs.all (constantsAlone 8)) (y:=[a,b].filterMap (cV env (([a,b].head?.map (·.pos.line)).getD 0)))
  (fun c=>(Bool.or_eq_true_iff.mp h2).resolve_right fun z=>by rw [c]at z;exact aj z) (swappedStores [.Tuple [a,b] tk tp] (.Tuple vs vk vp) env) rfl
 refine key.imp id fun⟨hn,e⟩=>?_
 obtain⟨n1,n2⟩:=Bool.or_eq_false_iff.mp hn;obtain⟨x,p,y,p',e1,e2,e3⟩:=sO (bne_eq_false_iff_eq.mp n1);refine⟨x,p,y,p',e1,e2,fun z=>?_,e3▸e⟩
 rw [e3,z,bne_eq_false_iff_eq]at n2;exact absurd n2 (by rw [List.eraseDups_cons];simp)
theorem xH {ts:List PySem.Expr}{tk:Nat}{tp:Pos}{v:PySem.Expr}(h:iZ v=false):swappedStores [.Tuple ts tk tp] v env=pure none:=by
 cases v<;>first |rfl |exact(aj h.symm).elim
theorem kL {ts:List PySem.Expr}{tk:Nat}{tp:Pos}{v:PySem.Expr}(h:kM (.Tuple ts tk tp) v=true):
  swappedStores [.Tuple ts tk tp] v env=pure none∨∃x p y p',ts=[.Name x p,.Name y p']∧x≠y∧swappedStores [.Tuple ts tk tp] v env=pure (some [x,y]):=by
 cases q:iZ v with
 |false=>exact .inl (xH q)
 |true=>
  refine pE (tup_i q) fun vs vk vp z4=>?_;subst z4
  refine xa (Bool.and_eq_true_iff.mp h) fun h1 h2=>?_;refine aV (iY (Nat.eq_of_beq_eq_true h1) rfl) fun a b z5=>?_;subst z5
  refine(u5 h2).imp id fun h=>?_;obtain⟨x,p,y,p',rfl,rfl,ne,e⟩:=h;exact⟨x,p,y,p',rfl,ne,e⟩
end
set_option backward.match.sparseCases false
theorem Ak:(Manifest.sig_list.lookup (String.ofList ['d','n','e','p','p','a'].reverse)).isSome=true:=by decide+kernel
noncomputable def Al:=(Manifest.sig_list.lookup (String.ofList ['d','n','e','p','p','a'].reverse)).get Ak
theorem xN:Manifest.signature? "list.append" =some Al:=by
 rw [signature?_of (id:= "list.append") (n:=['d','n','e','p','p','a']) (o:=['t','s','i','l']) (by kernel_rfl) F.owner_list]
 unfold Al;simp
theorem vX:builtinKind "list.append" =some .method:=by decide+kernel
theorem zA:Manifest.varargsMethods.contains "list.append" =false:=by decide+kernel
theorem yS (a b:Value):Bind.checkArgs "list.append" {Al with full:= "list.append" } ⟨[a,b],[]⟩=pure ():=by first |kernel_rfl |rfl
theorem zX:isSubtype (.type "list") (.type "module")=pure false:=by rw [isSubtype_type];kernel_rfl
theorem we:toString (Bind.lastOf "list")++toString "." ++toString (Bind.lastOf "list.append")= "list.append" :=by decide+kernel
theorem uz {M:Model}{A:Around}{E:Value→Shared→Prop}{s:Shared}{l:Addr}{v:Value}{o:Obj}{items:Array Value}{n:Nat}{Q:Unit→Shared→Prop}(ho:s.heap.get? l=some o)(hc:o.cls=.type "list")(hd:o.data=.seq items n)(h:Q () s):wpAny M A (checkBoundCall "list.append" ⟨[.ref l,v],[]⟩) Q E s:=by
 have hT:s.TypeIs (.ref l) "list" :=⟨_,ho,hc⟩;unfold checkBoundCall;rw [xN];dsimp only;rw [vX];dsimp only;rw [if_neg (by decide)]
 refine wpAny_bind (wpAny_isInstance (T:= "list") (b:=false) hT zX ?_);rw [zA];refine wpAny_bind (wpAny_bind (wpAny_loadPart ho ?_));rw [hd];refine wpAny_pure (wpAny_bind (wpAny_typeOf hT ?_));dsimp only;rw [we];exact wpAny_of_eq (yS (.ref l) v) h
theorem l6 {M:Model}{A:Around}{E:Value→Shared→Prop}{s:Shared}{u:Addr}{c:String}{fs:Array Value}{sl:Obj}{Q:Keeper→Shared→Prop}(ho:s.heap.get? u=some sl)(hc:sl.cls=.type c)(hd:sl.data=.fields fs)(h1:(Value.type c != .type "method")=true)(h2:(Value.type c== .type "builtin_function_or_method" ||Value.type c== .type "method-wrapper")=true)(h:Q .machine s):wpAny M A (keeperOf (.ref u)) Q E s:=by
 refine wpAny_bind (wpAny_load ho ?_);rw [hd];show wpAny M A (if(sl.cls != .type "method")=true then pure (if(sl.cls== .type "builtin_function_or_method" ||sl.cls== .type "method-wrapper")=true then .machine else .caller)else _) Q E s
 rw [hc,if_pos h1,if_pos h2];exact wpAny_pure h
theorem oX {M:Model}{A:Around}{E:Value→Shared→Prop}{s:Shared}{pos:Pos}{u l:Addr}{e:PySem.Expr}{env:Env}{Q:Value→Shared→Prop}(hst:cX e=false)
  (h:wpAny M A (eval e env) (fun v s₁=>s₁.heap.get? u=some (kB l)∧wpAny M A (call (.ref u) [v]) Q E s₁) E s):wpAny M A (callWith pos (.ref u) [] (backTo pos (starEach [e] env)) []) Q E s:=by
 have e1:backTo pos (starEach [e] env)=[(false,eval e env)]:=by rw [cU hst];rfl
 rw [e1];refine wpAny_bind (wpAny_holding (Calls.evalArgs_plain (Calls.spliced_cons (wpAny_mono h (fun v s₁ h1=>Calls.spliced_nil (wpAny_bind (wpAny_standAt ?_))) fun Z Z z=>z))))
 exact wpAny_bind (l6 h1.1 rfl rfl (by decide) (by decide) (wpAny_bind (wpAny_mono h1.2 (fun r s2 hr=>wpAny_bind (wpAny_holding (wpAny_point (wpAny_pure hr)))) fun Z Z x=>x)))
theorem A0 {M:Model}{A:Around}{E:Value→Shared→Prop}{s:Shared}{l:Addr}{Q:PySem.Fin→Shared→Prop}(hT:s.TypeIs (.ref l) "list")
  (h:Q (.done (.ret (.ref s.heap.objs.size))) {s with heap:=s.heap.push (kB l)}):wpAny M A (Builtin.«method_descriptor.__get__» ⟨[.builtin "list.append",.ref l,.type "list"],[]⟩) Q E s:=by
 unfold Builtin.«method_descriptor.__get__»;refine wpAny_bind (wpAny_of_eq (a:=(.builtin "list.append",some (.ref l),some (.type "list"))) (by first |rfl |kernel_rfl) ?_)
 dsimp only;rw [show Manifest.toldItsClass.contains "list.append" =false by decide+kernel,if_neg Bool.false_ne_true]
 refine wpAny_bind (wpAny_bind (wpAny_of_eq (a:=(("append" :Str),Value.type "list")) (by first |rfl |kernel_rfl) ?_))
 refine wpAny_bind (wpAny_isInstance (T:= "list") (b:=true) hT AutoSeq1.sub_list_list ?_);refine wpAny_pure ?_;exact wpAny_bind (wpAny_newObj_type (wpAny_pure h))
theorem kR:Slot "method_descriptor" "__get__" "method_descriptor.__get__" :=
 .of (owner:= "method_descriptor") (n:= "__get__") (by rw [typeLookup_type,builtinLookup_eq_fast];kernel_rfl) (by decide+kernel) (by decide+kernel) (by decide+kernel)
  (by first |exact .inl (by decide+kernel) |exact .inr (by decide+kernel)) (by rw [isSubtype_type];kernel_rfl)
theorem pB:entryFor table "method_descriptor.__get__" =some Builtin.«method_descriptor.__get__»:=entryFor_of_tree (by kernel_rfl)
theorem sA (a b c:Value):argsOk "method_descriptor.__get__" ⟨[a,b,c],[]⟩:=by unfold argsOk;kernel_rfl
theorem vL:typeLookup (.type "method_descriptor") "__set__" =pure none:=by rw [typeLookup_type,builtinLookup_eq_fast];kernel_rfl
theorem vM:typeLookup (.type "method_descriptor") "__delete__" =pure none:=by rw [typeLookup_type,builtinLookup_eq_fast];kernel_rfl
theorem yH {prog:Program}{w:World}{A:Around}{E:Value→Shared→Prop}{s:Shared}{l:Addr}{u:Tok}{xs:Array Value}{k:Nat}{Q:PySem.Fin→Shared→Prop}(hl:s.heap.get? l=some {cls:=.type "list",data:=.seq xs k})
  (h:Q (.done (.ret (.ref s.heap.objs.size))) {s with heap:=s.heap.push (kB l)}):wpAny (model prog w) A (Builtin.«object.__getattribute__» ⟨[.ref l,.str "append" u],[]⟩) Q E s:=by
 obtain⟨hp,g,d,tk,os⟩:=s;have hT:(⟨hp,g,d,tk,os⟩:Shared).TypeIs (.ref l) "list" :=⟨_,hl,rfl⟩;have f6:typeLookup (.type "list") "append" =pure (some (.builtin "list.append")):=F.slot_list_append.lookup;have f7:=kR.lookup;have f8:=vL;have f9:=vM;have f10:typeOf (.builtin "list.append")=pure (.type "method_descriptor"):=F.type_list_append;unfold Builtin.«object.__getattribute__»;refine wpAny_bind (wpAny_of_eq (a:=(Value.ref l,[Value.str "append" u])) (by first |rfl |kernel_rfl) ?_)
 dsimp only;refine wpAny_bind (wpAny_of_eq (a:=("append" :Str)) (by first |rfl |kernel_rfl) ?_)
 refine wpAny_bind (wpAny_typeOf hT ?_);refine wpAny_bind (wpAny_bind (wpAny_of_eq f6 ?_));refine wpAny_bind (wpAny_specialOf (v:=.builtin "list.append") f10 f7 ?_);refine wpAny_bind (wpAny_bind (wpAny_bind ?_));refine wpAny_specialOf (v:=.builtin "list.append") f10 f8 ?_;refine wpAny_bind (wpAny_specialOf (v:=.builtin "list.append") f10 f9 (wpAny_pure ?_));refine wpAny_pure ?_;dsimp only;unfold Builtin.ObjectAttr.ownThenClass;refine wpAny_bind ?_;show wpAny _ _ (do Builtin.ObjectAttr.inDict _ (←Builtin.ObjectAttr.ownDict l)) _ _ _
 refine wpAny_bind ?_;unfold Builtin.ObjectAttr.ownDict;refine wpAny_bind (wpAny_loadPart hl ?_);dsimp only;unfold instanceDict;refine wpAny_bind (wpAny_loadPart hl ?_);dsimp only;refine wpAny_pure ?_;refine wpAny_pure ?_;dsimp only;refine wpAny_bind (wpAny_of_eq (a:=()) (by first |rfl |kernel_rfl) ?_)
 unfold Builtin.ObjectAttr.byTheClass;refine wpAny_bind (wpAny_rule (wpAny_pure ?_));dsimp only;unfold Builtin.ObjectAttr.bindTo;dsimp only;refine wpAny_bind (wpAny_holding ?_);refine wpAny_call_entry kR f10 pB (A0 hT ?_) (sA _ _ _);exact⟨_,rfl,wpAny_pure h⟩
theorem l7 {prog:Program}{w:World}{A:Around}{E:Value→Shared→Prop}{s:Shared}{l:Addr}{xs:Array Value}{k:Nat}{Q:Value→Shared→Prop}(hl:s.heap.get? l=some {cls:=.type "list",data:=.seq xs k})
  (h:Q (.ref s.heap.objs.size) {s with heap:=s.heap.push (kB l),toks:=s.toks+1}):wpAny (model prog w) A (getAttr (.ref l) "append" true) Q E s:=by
 obtain⟨hp,g,d,tk,os⟩:=s;have hT:∀tk',(⟨hp,g,d,tk',os⟩:Shared).TypeIs (.ref l) "list" :=fun Z=>⟨_,hl,rfl⟩
 have f3:=F.slot_list_getattribute.lookup;have f4:=F.slot_list_getattribute.bind (.ref l);have f5:=am_list_getattr_none;unfold getAttr getAttrBy
 repeat (any_goals (first |assumption |exact hT _ |((with_reducible show wpAny _ _ (call (Value.builtin "list.__getattribute__") _ _) _ _ _);refine wpAny_call_entry F.slot_list_getattribute (hT _) am_entry_list_getattribute (yH hl ⟨_,rfl,?_⟩) (F.args_list_getattribute_2 _ _)) |wp_step))
section
variable {prog:Program}{w:World}{A:Around}{E:Value→Shared→Prop}{s:Shared}{G:Kn}
theorem wu {u D:Addr}{l:List Mine.D}{v:Value}{d:Mine.D}(ho:s.heap.get? u=some (kB D))(I:G.In s.heap)(a:ct w.params D l G s.heap)(off:G D=none)(hl:l.length≤100000)(r:Rd w.params G v d):
  wpAny (model prog w) A (call (.ref u) [v]) (fun y s'=>y=.none∧∃h',s'={s with heap:=h'}∧Heap.SameBut D s.heap h'∧ct w.params D (l++ [d]) G h') E s:=by
 refine aA a fun vs n hD rd=>?_;have hlen:=rd.length;refine wpAny_call (codeAny_of_tree ?_);show wpAny _ A.in1 (callAny (.ref u) ⟨[v],[]⟩) _ _ s
 refine wpAny_bind (wpAny_load ho ?_)
 show wpAny _ _ (if(Value.type "builtin_function_or_method" ==Value.type "method" ||Value.type "builtin_function_or_method" ==Value.type "builtin_function_or_method" ||Value.type "builtin_function_or_method" ==Value.type "method-wrapper")=true then(if(Value.type "builtin_function_or_method" !=Value.type "method")=true then(do
   checkBoundCall "list.append" ⟨[.ref D,v],[]⟩
   again (Code.builtin "list.append" ⟨[.ref D,v],[]⟩))else _)else _) _ _ s
 rw [if_pos (by decide),if_pos (by decide)]
 refine wpAny_bind (uz hD rfl rfl ?_);refine wpAny_pure ?_;refine⟨plainId_quiet (by decide+kernel) _,codeAny_builtin entry_list_append ?_⟩
 rw [Around.under_plainId (by decide+kernel) _]
 show wpAny _ _ (updateSeq D (·.push v)>>=fun Z=>ret .none) _ _ s
 refine wpAny_bind ?_;refine wpAny_updateSeq hD rfl (wpAny_pure ⟨rfl,_,rfl,Heap.SameBut.update ..,vs++ [v],n+1,?_,rd.snoc r⟩) (hz:=by rw [sizeLine_eq];simp;omega)
 have e:=Obj.mapSeq_push_plain vs.toArray n v;rw [Heap.get?_update_self _ hD (by rw [e];rfl),e]
 simp
end
section
variable {prog:Program}{w:World}{K:Frag}{mg mb:Str→Option Value}{k:Nat}{R:bm}{A:Around}{env:Env}{own:List (Str×Addr)}{s sB:Shared}{G GB:Kn}{E:Value→Shared→Prop}{sc:aq}{cf:bE}{st st':bz}{md:Option Addr}
theorem c0 (ρ:Ro){x y:Str}(a b:D)(h:ar x y=false):ad (ad ρ x a) y b=ad (ad ρ y b) x a:=by
 funext z;unfold ad;cases q1:ar z y with
 |false=>rfl
 |true=>
  have e1:=(ao _ _).mp q1;cases q2:ar z x with
  |false=>rfl
  |true=>
   have e2:=(ao _ _).mp q2;rw [(ao x y).mpr (e2.symm.trans e1)]at h;exact(cb h).elim
theorem ty {x y:Str}(h:x≠y):ar x y=false:=by
 cases q:ar x y with
 |false=>rfl
 |true=>exact absurd ((ao _ _).mp q) h
theorem xz (H:aw prog w K mg mb k R)(rm:am k A)(C:be sc env own)(hs:aD sc env)(hB:Cx K mg mb sB)(S:ax w.params sB GB env own cf md st s G){ts:List PySem.Expr}{tk:Nat}{tp:Pos}{v:PySem.Expr}{pos:Pos}{d:D}
  (hsw:kM (.Tuple ts tk tp) v=true)(q:R.ev sc (bt cf st) v=some d)(qb:bo sc cf st (.Tuple ts tk tp) d=some st'):
  wpAny (model prog w) A (exec (.Assign [.Tuple ts tk tp] v pos) env) (cA w.params sB GB env own cf s G md (.next st')) E s:=by
 have hs0:swapsWithSole [PySem.Expr.Tuple ts tk tp] v pos.line env=pure false:=by first |rfl |(cases v<;>rfl)
 rcases kL (env:=env) hsw with hw |⟨x,p,y,p',rfl,hxy,hw⟩
 ·exact nF H rm C hs hB S hs0 hw rfl q qb
 ·refine dC fun Q1 k1=>?_;rw [exec_Assign_arm];refine wpAny_bind (wpAny_standAt ?_);rw [hs0];refine wpAny_bind (wpAny_pure ?_);rw [if_neg (by decide)]
  refine wpAny_bind (hU H rm hs hB S q fun u s₁ G₁ g=>?_)
  rw [hw];refine wpAny_bind (wpAny_pure ?_);refine aR g.ok.ex fun ρ S0 wk L=>?_;refine eN (gJ qb) fun ρ2 Z ok hb2 Z=>?_;refine ah (gq wk hb2) fun ρ1 hb1 le=>?_;refine ah (eg hb1) fun ds hu hn=>?_;refine aV (iY (jm hn).symm rfl) fun d1 d2 z1=>?_;subst z1
  refine xa (ec hn) fun okx hn=>?_;refine xa (ec hn) fun oky hn=>?_;obtain rfl:=Option.some.inj hn
  show wpAny _ A (do
   rule "assign.swapped-stores"
   let items ←unpackItems u 2 none
   assignInOrder ([y,x].map fun n=>bindName env n) items.reverse
   pure Flow.next) _ E s₁
  refine wpAny_bind (wpAny_rule (wpAny_bind (wpAny_mono (gT rm.hh S0.inn (g.rd ok) hu rfl) (fun vs s2 h2=>?_) fun Z Z z=>z)))
  refine xa h2 fun r2 g2=>?_;refine aX (nR r2) fun v1 v2 z2 r1 r₂=>?_;subst z2
  show wpAny _ A (do
   (do holding _ (bindName env y v2);(do holding _ (bindName env x v1);pure ()))
   pure Flow.next) _ E s2
  refine wpAny_bind (wpAny_bind (wpAny_holding (wpAny_bindName (wpAny_mono (iO (S0.grew g2) r₂ (cL oky) (eP C oky)) (fun Z s3 h3=>?_) fun Z Z z=>z))))
  refine wpAny_bind (wpAny_holding (wpAny_bindName (wpAny_mono (iO h3.1 r1 (cL okx) (eP C okx)) (fun Z s4 h4=>wpAny_pure (wpAny_pure (k1 _ _ ?_))) fun Z Z z=>z)))
  have m34:=h3.2.trans h4.2;exact gu ((ae.mv g.g).trans ((ae.mv g2).trans m34)) ((g.ok.grew g2).stored qb m34 (L.mv rfl rfl (ae.mv (X:=fun Z=>False) g2) (fun Z Z Z=>id) fun Z Z=>rfl) wk hb1 (by rw [c0 ρ d1 d2 (ty hxy)];exact h4.1))
theorem Cl (H:aw prog w K mg mb k R)(rm:am k A)(C:be sc env own)(hs:aD sc env)(hB:Cx K mg mb sB)(S:ax w.params sB GB env own cf md st s G){x y:Str}{p p':Pos}{v:PySem.Expr}{pos:Pos}{d:D}{st1:bz}
  (q:R.ev sc (bt cf st) v=some d)(qb:bo sc cf st (.Name x p) d=some st1)(qb':bo sc cf st1 (.Name y p') d=some st'):
  wpAny (model prog w) A (exec (.Assign [.Name x p,.Name y p'] v pos) env) (cA w.params sB GB env own cf s G md (.next st')) E s:=by
 refine wpAny_Assign_two (hU H rm hs hB S q fun u s₁ G₁ g=>?_)
 have r:=g.rd (o0 qb).1;refine wpAny_mono (cK rm.hh C g.ok r qb) (fun Z s2 h2=>?_) fun Z Z z=>z
 exact wpAny_mono (cK rm.hh C h2.1 r qb') (fun Z s3 h3=>gu ((ae.mv g.g).trans (h2.2.trans h3.2)) h3.1) fun Z Z z=>z
theorem lA {ρ:Ro}{x:Str}{d:D}:ad ρ x d x=some d:=by unfold ad;rw [(ao x x).mpr rfl]
theorem kC {ρ:Ro}{x y:Str}{d:D}(h:ar y x=false):ad ρ x d y=ρ y:=by unfold ad;rw [h]
theorem rg {ρ:Ro}{x y:Str}{d:D}(e:(match ar y x with |true=>none |false=>ρ y)=some d):ar y x=false∧ρ y=some d:=jY e
theorem ax.born {P:Params}{x:Str}{D₀:Addr}{l:List D}{s₁:Shared}{M:Model}(C:be sc env own)(S:ax P sB GB env own cf md st s G)(hx:cf.mu=some x)(okx:bF sc x=true)(hl:st.l=none)(hap:st.ap=false)
  (g:ae s G s₁ G)(hD:s.heap.objs.size≤D₀)(hlt:D₀<s₁.heap.objs.size)(ac:ct P D₀ l G s₁.heap){Q:Unit→Shared→Prop}
  (h:∀s2 md',Mv (XM env own md) s G s2 G→fk s md md'→ax P sB GB env own cf md' {st with l:=some l,ρ:=fun y=>match ar y x with |true=>none |false=>st.ρ y} s2 G→Q () s2):wpAny M A (storeName env x (.ref D₀)) Q E s₁:=by
 have hmd:=S.none_l hl;refine aR S.ex fun ρ S0 wk L=>?_;have S1:=S0.grew g;have r:Rd P G (.ref D₀) (.adr D₀):=.adr D₀;refine wpAny_mono (iO S1 r (cL okx) (eP C okx)) (fun Z s2 h2=>?_) fun Z Z z=>z
 refine xa h2 fun S2 m2=>?_;have notM:¬Mine env own D₀:=fun hM=>absurd (S0.mine_lt hM).1 (Nat.not_lt.mpr hD)
 have m:=(ae.mv (X:=Mine env own) g).trans m2;refine h s2 (some D₀) (m.weak fun b hb=>.inl hb) (.inr ⟨hmd,fun b e=>by obtain rfl:=Option.some.inj e;exact hD⟩) ⟨S.base.mv m,_,S2,fun y d e=>?_,?_⟩
 ·rcases rg e with⟨q,e⟩
  exact(show ad ρ x _ y=_ from(kC q).trans (wk y d e))
 ·exact .of_yes rfl ⟨x,D₀,hx,rfl,ct.keep l G s₁.heap G s2.heap ac (.refl G) fun o e=>m2.keep _ o notM e,Kn.none_ge S0.inn hD,Nat.le_trans S.base.size hD,Nat.lt_of_lt_of_le hlt m2.size,notM,lA,cL okx,fun h=>(aj (hap.symm.trans h)).elim⟩
end
section
variable {prog:Program}{w:World}{K:Frag}{mg mb:Str→Option Value}{k:Nat}{R:bm}{A:Around}{env:Env}{own:List (Str×Addr)}{s sB:Shared}{G GB:Kn}{E:Value→Shared→Prop}{sc:aq}{cf:bE}{st st':bz}{md:Option Addr}{ρ:Ro}
theorem ot {f:Value}(hf:∀a,f≠ .ref a):keeperOf f=pure .machine:=by
 cases f<;>first |rfl |exact absurd rfl (hf _)
theorem oW {M:Model}{f:Value}{pos:Pos}{e:PySem.Expr}{Q:Value→Shared→Prop}(hf:∀a,f≠ .ref a)(hst:cX e=false)(h:wpAny M A (eval e env) (fun v s₁=>wpAny M A (call f [v]) Q E s₁) E s):
  wpAny M A (callWith pos f [] (backTo pos (starEach [e] env)) []) Q E s:=by
 have e1:backTo pos (starEach [e] env)=[(false,eval e env)]:=by rw [cU hst];rfl
 rw [e1];refine wpAny_bind (wpAny_holding (Calls.evalArgs_plain (Calls.spliced_cons (wpAny_mono h (fun v s₁ h1=>Calls.spliced_nil (wpAny_bind (wpAny_standAt ?_))) fun Z Z z=>z))))
 refine wpAny_bind (m:=keeperOf f) ?_;rw [ot hf];exact wpAny_pure (wpAny_bind (wpAny_mono h1 (fun r s2 hr=>wpAny_bind (wpAny_holding (wpAny_point (wpAny_pure hr)))) fun Z Z x=>x))
theorem ox {d:D}{i:Int}(h:rU d=some i):d=.int i:=by
 cases d with
 |int j=>rw [Option.some.inj h]
 |_=>exact(aa h).elim
theorem u3 {l:List D}{a b c:Int}(h:sU l=some (a,b,c)):l=[.int a,.int b,.int c]:=by
 rcases l with _ |⟨x,_ |⟨y,_ |⟨z,_ |⟨_,_⟩⟩⟩⟩
 ·exact(aa h).elim
 ·exact(aa h).elim
 ·exact(aa h).elim
 ·refine ah (Option.bind_eq_some_iff.mp h) fun a' q1 h=>?_;refine ah (Option.bind_eq_some_iff.mp h) fun b' q2 h=>?_;refine ah (Option.map_eq_some_iff.mp h) fun c' q3 h=>?_;refine xa (Prod.mk.inj h) fun e1 h=>?_;refine xa (Prod.mk.inj h) fun e2 e3=>?_;rw [ox q1,ox q2,ox q3,e1,e2,e3]
 ·exact(aa h).elim
theorem AU {e:PySem.Expr}(h:uf e=true):∃p,e=.List [] p:=by
 cases e with
 |List es p=>
  cases es with
  |nil=>exact⟨p,rfl⟩
  |cons=>exact(aj h).elim
 |_=>exact(aj h).elim
theorem BD {v:PySem.Expr}{r:Str×Str×List PySem.Expr}(q:BE v=some r):∃p1 p2 p3 p4,v=.Call (.Name r.1 p1) [.Call (.Name r.2.1 p2) r.2.2 [] p3] [] p4:=by
 obtain⟨⟨f,as⟩,z1,q⟩:=Option.bind_eq_some_iff.mp q;obtain⟨p1,p4,e⟩:=kA z1;rcases as with _ |⟨a,_ |⟨_,_⟩⟩
 ·exact(aa q).elim
 ·obtain⟨⟨g,args⟩,z2,q⟩:=Option.map_eq_some_iff.mp q;obtain⟨p2,p3,rfl⟩:=kA z2;rw [←q];exact⟨p1,p2,p3,p4,e⟩
 ·exact(aa q).elim
inductive BX (R:bm)(sc:aq)(ρ:Ro)(v:PySem.Expr)(l:List D):Prop
 |nil (p:Pos) (e:v=.List [] p) (h:[]=l)
 |range (p1 p2:Pos) (args:List PySem.Expr) (p3 p4:Pos) (a b c:Int) (e:v=.Call (.Name "list" p1) [.Call (.Name "range" p2) args [] p3] [] p4) (g1:aY sc "list" =true) (g2:aY sc "range" =true) (qa:bi (R.ev sc ρ) args=some [.int a,.int b,.int c]) (q:nT a b c=some l)
theorem qc {v:PySem.Expr}{l:List D}(q:nr R sc ρ v=some l):BX R sc ρ v l:=by
 rcases qS q with⟨z,q⟩ |⟨_,q⟩
 ·exact(AU z).elim fun p e=>.nil p e (Option.some.inj q)
 ·refine ah (Option.bind_eq_some_iff.mp q) fun z4 z q=>?_;obtain⟨f,g,args⟩:=z4
  obtain⟨p1,p2,p3,p4,e⟩:=BD z;refine xa (ec q) fun hg q=>?_;refine ah (Option.bind_eq_some_iff.mp q) fun ds qa q=>?_;refine ah (Option.bind_eq_some_iff.mp q) fun z5 qi q=>?_;obtain⟨a,b,c⟩:=z5
  refine xa (Bool.and_eq_true_iff.mp hg) fun hg f2=>?_;refine xa (Bool.and_eq_true_iff.mp hg) fun hg g2=>?_;refine xa (Bool.and_eq_true_iff.mp hg) fun g1 f1=>?_;rw [(ao _ _).mp f1]at e g1;rw [(ao _ _).mp f2]at e g2;exact .range p1 p2 args p3 p4 a b c e g1 g2 (u3 qi▸qa) q
theorem vn {a b c:Int}{l:List D}(q:nT a b c=some l):Builtin.Range.small a b c=true∧(c==0)=false∧Builtin.divisionGoesByPylong (b - a) c=false∧Builtin.Range.rangeSize a b c≤1000∧0≤Builtin.Range.rangeSize a b c∧(List.range (Builtin.Range.rangeSize a b c).toNat).map (fun(i:Nat)=>D.int (a+i*c))=l:=by
 refine xa (aL q) fun hc e=>?_;refine xa (Bool.and_eq_true_iff.mp hc) fun hc h5=>?_;refine xa (Bool.and_eq_true_iff.mp hc) fun hc h4=>?_;refine xa (Bool.and_eq_true_iff.mp hc) fun hc h3=>?_;refine xa (Bool.and_eq_true_iff.mp hc) fun h1 h2=>?_;exact⟨h1,(Bool.not_eq_true' _).mp h2,(Bool.not_eq_true' _).mp h3,of_decide_eq_true h4,of_decide_eq_true h5,e⟩
theorem yE {P:Params}{a c:Int} (n:Nat):∀(vs:List Value),vs.length=n→(∀(j:Nat) v,vs[j]? =some v→∃t,v=Value.int (a+j*c) t)→ai P G vs ((List.range n).map fun(i:Nat)=>D.int (a+i*c)):=by
 induction n with
 |zero=>intro vs hl _;rw [List.length_eq_zero_iff.mp hl];exact .nil
 |succ n ih=>
  intro vs hl hv;rw [List.range_succ,List.map_append,List.map_cons,List.map_nil];have hne:vs≠ []:=fun e=>by rw [e]at hl;exact Nat.succ_ne_zero n hl.symm
  obtain⟨init,last,rfl⟩:∃init last,vs=init++ [last]:=⟨vs.dropLast,vs.getLast hne,(List.dropLast_concat_getLast hne).symm⟩;have hli:init.length=n:=by rw [List.length_append]at hl;exact Nat.succ.inj hl
  refine ai.snoc (ih init hli fun j v hj=>hv j v (by rw [List.getElem?_append_left (List.getElem?_eq_some_iff.mp hj).1];exact hj)) ?_
  obtain⟨t,rfl⟩:=hv n last (by rw [←hli,List.getElem?_append_right (Nat.le_refl _),Nat.sub_self];rfl)
  exact .int _ t
theorem yt (H:aw prog w K mg mb k R)(rm:am k A)(hs:aD sc env)(hx:Cx K mg mb s)(S:aP w.params G s.heap env ρ){v:PySem.Expr}{l:List D}(q:nr R sc ρ v=some l){Q:Value→Shared→Prop}
  (h:∀D₀ s₁,ae s G s₁ G→s.heap.objs.size≤D₀→D₀<s₁.heap.objs.size→ct w.params D₀ l G s₁.heap→Q (.ref D₀) s₁):wpAny (model prog w) A (eval v env) Q E s:=by
 rcases qc q with⟨p,rfl,rfl⟩ |⟨p,p2,args,p3,p4,a,b,c,rfl,g1,g2,qa,q3⟩
 ·exact wpAny_List (wpAny_items_nil ⟨Nat.zero_le _,h _ _ (ae.push S.inn _ s.toks (Nat.le_refl _)) (Nat.le_refl _) (by show s.heap.objs.size<(s.heap.push _).objs.size;rw [Heap.size_push];exact Nat.lt_succ_self _) ⟨[],0,Heap.get?_push_size _ rfl,.nil⟩⟩)
 ·obtain⟨hsm,hc0,hpy,hn,hn0,rfl⟩:=vn q3;refine wpAny_Call_Name_kw (cE hx hs g1 (hx.blt ("list",.type "list") (List.mem_of_getElem? (i:=7) rfl)) (oW (by nofun) rfl ?_))
  refine wpAny_Call_Name_kw (cE hx hs g2 (hx.blt ("range",.type "range") (List.mem_of_getElem? (i:=5) rfl)) (aK (bD (by nofun) qa (dH H rm hs p3 args _ s G qa hx S fun vs s₁ G₁ g₁ r=>?_))))
  refine aX r.cons_i fun Z Z z7 ra r1=>?_;subst z7
  refine aX r1.cons_i fun Z Z z8 rb r2=>?_;subst z8
  refine aX r2.cons_i fun Z Z z9 rc r3=>?_;subst z9
  obtain rfl:=r3.nil_i;refine xe ra.int_i fun Z z10=>?_;subst z10
  refine xe rb.int_i fun Z z11=>?_;subst z11
  refine xe rc.int_i fun Z z12=>?_;subst z12
  refine call_range_3 (fun z=>aj (hc0.symm.trans (beq_iff_eq.mpr z))) (fun hz=>?_) (hp:=.inl hpy)
  refine aK (call_list_range rm.hh (Heap.get?_push_size _ rfl) hsm (n:=(Builtin.Range.rangeSize a b c).toNat) (Int.toNat_of_nonneg hn0).symm (Nat.le_trans (Int.toNat_le.mpr hn) (by decide)) fun h' tk acc c' hk hD hit hz2=>?_)
  have kp:∀b o,s.heap.get? b=some o→h'.get? b=some o:=fun b o e=>hk b o (Heap.get?_push_of_some _ (g₁.keep b o e))
  refine aV g₁.same fun h1 t1 e1=>?_;exact h _ _ ⟨⟨h',tk,by rw [e1]⟩,Nat.le_trans hz.1 hz2.1,Nat.le_trans hz.2 hz2.2,kp,.refl G,fun x o e=>kp x o (S.inn x o e),fun Z Z e=>.inl e⟩ hz.1 (Heap.lt_size hD) ⟨acc.toList,c',hD,yE _ _ (Array.length_toList.trans hit.1) fun j v hj=>hit.2 j v (Array.getElem?_toList▸hj)⟩
theorem zv (H:aw prog w K mg mb k R)(rm:am k A)(C:be sc env own)(hs:aD sc env)(hB:Cx K mg mb sB)(S:ax w.params sB GB env own cf md st s G){x:Str}{p:Pos}{v:PySem.Expr}{pos:Pos}{l:List D}
  (hx:cf.mu=some x)(okx:bF sc x=true)(hl:st.l=none)(hap:st.ap=false)(q:nr R sc st.ρ v=some l):
  wpAny (model prog w) A (exec (.Assign [.Name x p] v pos) env) (cA w.params sB GB env own cf s G md (.next {st with l:=some l,ρ:=fun y=>match ar y x with |true=>none |false=>st.ρ y})) E s:=by
 have hsw:lu v=false:=by rcases qc q with⟨p,rfl,_⟩ |⟨p1,p2,args,p3,p4,a,b,c,rfl,_⟩<;>rfl
 refine aR S.ex fun ρ S0 wk L=>?_;refine wpAny_Assign_Name (yt H rm hs (S.cx hB) (S0.weak wk).env q fun D₀ s₁ g hD hlt ac=>?_) (nM hsw)
 exact S.born C hx okx hl hap g hD hlt ac fun s2 md' m r S'=>⟨rfl,G,md',m,r,S'⟩
theorem Bb {o:Option Str}{x y:Str}(h:gY o x=false)(e:o=some y):ar y x=false:=ty fun z=>by
 rw [e,z]at h;exact aj (h.symm.trans ((ao x x).mpr rfl))
theorem uW (C:be sc env own)(S:ax w.params sB GB env own cf md st s G){x y:Str}{p yp ap:Pos}{pos:Pos}
  (hy:cf.mu=some y)(hx:cf.ap=some x)(okx:bF sc x=true)(hxy:gY cf.mu x=false){l:List D}(hl:st.l=some l):
  wpAny (model prog w) A (exec (.Assign [.Name x p] (.Attribute (.Name y yp) "append" ap) pos) env) (cA w.params sB GB env own cf s G md (.next {st with ap:=true,ρ:=fun z=>match ar z x with |true=>none |false=>st.ρ z})) E s:=by
 refine dC fun Q1 k1=>?_;refine aR S.ex fun ρ S0 wk L=>?_;obtain⟨y',D₀,hy',hm,ac,off',hB,hlt,hM,hρ,oky',hap⟩:=L.yes hl;obtain rfl:=Option.some.inj (hy.symm.trans hy');refine cn (S0.env.vars y _ hρ) fun oky v hv r=>?_;rw [r.adr_i]at hv;refine aA (id ac) fun vs n hD rd=>?_;refine wpAny_Assign_Name ?_ rfl;rw [arm_eval_Attribute]
 show wpAny _ A (do
  let o ←eval (.Name y yp) env
  standAt ap.atName
  let r ←holding [o] (getAttr o "append" true)
  letTemporaryGo (.Name y yp) o r
  pure r) _ E s
 refine wpAny_bind (dR S0.env.kind hv (cI oky) (wpAny_bind (wpAny_standAt (wpAny_bind (wpAny_holding (l7 hD (wpAny_bind (wpAny_pure (wpAny_pure ?_)))))))));have g:=ae.alloc S0.inn (kB D₀) (s.toks+1) rfl (Nat.le_add_right _ _);refine wpAny_mono (iO (S0.grew g) (.adr s.heap.objs.size) (cL okx) (eP C okx)) (fun Z s2 h2=>k1 _ _ ?_) fun Z Z z=>z
 have m:=(ae.mv (X:=Mine env own) g).trans h2.2
 exact⟨rfl,_,md,m.weak fun b hb=>.inl hb,.inl rfl,S.base.mv m,_,h2.1,fun z d e=>(kC (rg e).1).trans (wk z d (rg e).2),
  .of_yes hl ⟨y,D₀,hy,hm,ct.keep l G s.heap _ s2.heap ac m.le fun o e=>m.keep _ o hM e,m.none_lt off' hlt,hB,Nat.lt_of_lt_of_le hlt m.size,hM,(kC (Bb hxy hy)).trans hρ,oky',fun Z=>⟨x,s.heap.objs.size,hx,lA,cL okx,Kn.add_self⟩⟩⟩
theorem uX (H:aw prog w K mg mb k R)(rm:am k A)(hs:aD sc env)(hB:Cx K mg mb sB)(S:ax w.params sB GB env own cf md st s G){y:Str}{yp p pos:Pos}{e:PySem.Expr}{l:List D}{d:D}
  (hy:cf.ap=some y)(hap:st.ap=true)(hl:st.l=some l)(hst:cX e=false)(q:R.ev sc (bt cf st) e=some d)(lf:cW d=true)(hll:l.length≤1000):
  wpAny (model prog w) A (exec (.Expr (.Call (.Name y yp) [e] [] p) pos) env) (cA w.params sB GB env own cf s G md (.next {st with l:=some (l++ [d])})) E s:=by
 refine dC fun Q1 k1=>?_;refine aR S.ex fun ρ S0 wk L=>?_;obtain⟨x,D₀,hx,hm,ac,off,hB2,hlt,hM,hρ,okx,hap2⟩:=L.yes hl;obtain⟨y',b,hy',hb,oky,hGb⟩:=hap2 hap;rw [←Option.some.inj (hy.symm.trans hy')]at hb oky;refine cn (S0.env.vars y _ hb) fun Z v hv r=>?_;rw [r.adr_i]at hv;refine wpAny_Expr ?_ (by unfold interactive;rw [S0.env.kind];rfl) rfl
 refine wpAny_Call_Name_kw (dR S0.env.kind hv (cI oky) (oX (l:=D₀) hst (hU H rm hs hB S q fun u s₁ G₁ g=>?_)))
 refine ah g.ok.ex fun Z S1 Z=>?_;have hb1:=S1.inn b _ (g.g.le b _ hGb);refine⟨hb1,?_⟩;obtain⟨D₁,hm1,ac1,off1,_,_,_⟩:=g.ok.live hl hx;rw [Option.some.inj (hm1.symm.trans hm)]at ac1 off1;refine wpAny_mono (wu hb1 S1.inn ac1 off1 (Nat.le_trans hll (by decide)) (g.rd (gh lf))) (fun z s2 h2=>?_) fun Z Z z=>z
 obtain⟨rfl,h',rfl,hs',ac'⟩:=h2;refine xa (g.ok.remade hm (by rw [hl];rfl) hs' ac') fun m S'=>?_
 exact k1 _ _ ⟨rfl,G₁,md,(ae.mv g.g).trans m,.inl rfl,S'⟩
end
section
variable {prog:Program}{w:World}{K:Frag}{mg mb:Str→Option Value}{k:Nat}{R:bm}{A:Around}{env:Env}{own:List (Str×Addr)}{s sB:Shared}{G GB:Kn}{E:Value→Shared→Prop}{sc:aq}{cf:bE}{st st':bz}{md:Option Addr}{ρ:Ro}
set_option tactic.hygienic true in
theorem tG {it:PySem.Expr}{l:List D}(ok:jy sc st it=true)(hl:st.l=some l):∃f p args pos,it=.Call (.Name f p) args [] pos∧(aY sc f&&ar f "range")=true:=by
 unfold jy at ok;rw [hl]at ok;cases it<;>first |exact(aj ok).elim |skip
 rename_i f args ks pos;cases f<;>first |exact(aj ok).elim |skip
 cases ks with
 |nil=>exact⟨_,_,_,_,rfl,ok⟩
 |cons=>exact(aj ok).elim
theorem Dj (H:aw prog w K mg mb k R)(rm:am k A)(hs:aD sc env)(hB:Cx K mg mb sB)(S:ax w.params sB GB env own cf md st s G){it t:PySem.Expr}{items:List D}(q:bb R sc (bt cf st) t it=some items)(ok:jy sc st it=true):
  wpAny (model prog w) A (eval it env) (fun x s₁=> ∃G₁ s₀,ax w.params sB GB env own cf md st s₀ G₁∧ae s G s₀ G₁∧wpAny (model prog w) A (pyIter x) (eo prog w A t s₀ G₁ items) E s₁) E s:=by
 cases hl:st.l with
 |none=>
  rw [sL hl]at q;refine aR S.ex fun ρ S0 wk L=>?_;exact wpAny_mono (jt H rm hs (S.cx hB) (S0.weak wk).env t q) (fun x s₁ ⟨G₁,s₀,g,h⟩=>⟨G₁,s₀,S.grew g,g,h⟩) fun Z Z z=>z
 |some l=>
  refine lM (tG ok hl) fun f p args pos z1 okf=>?_;subst z1
  rcases iD q with⟨hf,q⟩ |⟨hf,_⟩
  ·refine xa (Bool.and_eq_true_iff.mp hf) fun g hf=>?_;refine ah (eg q) fun ds q1 q2=>?_;obtain rfl:=(ao _ _).mp hf;refine aR (nS q2) fun n z2 hn z3=>?_;subst z2;subst z3
   simp only [Bool.and_eq_true,decide_eq_true_eq]at hn;refine xe S.wide fun Gx z4=>?_;obtain⟨Sx,le,only,offm,hnn,_⟩:=z4
   have hx:=S.cx hB;refine wpAny_Call_Name_kw (cE hx hs g (hx.blt ("range",.type "range") (List.mem_of_getElem? (i:=5) rfl)) ?_);show wpAny _ A (callWith pos (.type "range") [] (backTo pos (starEach args env)) []) _ E s
   refine bD (by nofun) q1 (dH H rm hs pos args _ s Gx q1 hx Sx fun vs s₁ Gx1 gx r=>?_)
   refine ah (kT r) fun v z5 rd=>?_;subst z5
   refine xe rd.int_i fun tn z6=>?_;subst z6
   refine xe (n7 le only offm gx) fun G₁ z7=>?_;obtain⟨g1,_,_,_⟩:=z7
   have gp:=ae.push g1.inn {cls:=.type "range",data:=.fields #[.int 0 s₁.toks,.int n tn,.int 1 (s₁.toks+1)]} (s₁.toks+1+1) nK;refine call_range_1 ⟨G₁,_,S.grew (g1.trans gp),g1.trans gp,?_⟩;exact ls t rm.hh (fun a o e=>Heap.get?_push_of_some _ (g1.inn a o e)) (Heap.get?_push_size _ rfl) hn.1 hn.2
  ·exact absurd okf hf
noncomputable def nD (prog:Program)(w:World)(K:Frag)(mg mb:Str→Option Value) (k:Nat)(sc:aq)(cf:bE)(run:bz→List Stmt→Option ce):Prop:=
 ∀st b o,run st b=some o→∀(A:Around) (env:Env) (own:List (Str×Addr)) (sB:Shared) (GB:Kn) (md:Option Addr) (s:Shared) (G:Kn) (E:Value→Shared→Prop),am k A→be sc env own→aD sc env→Cx K mg mb sB→ax w.params sB GB env own cf md st s G→
  wpAny (model prog w) A (execs b env) (cA w.params sB GB env own cf s G md o) E s
theorem xy (H:aw prog w K mg mb k R){run:bz→List Stmt→Option ce}(hrun:nD prog w K mg mb k sc cf run)(rm:am k A)(C:be sc env own)(hs:aD sc env)(hB:Cx K mg mb sB)(S:ax w.params sB GB env own cf md st s G){t:PySem.Expr}{b:List Stmt}{pos:Pos}{n:Nat}{o:ce}
  (q:ik (fun st=>R.ts sc (bt cf st) t) (fun st=>run st b) n st=some o):wpAny (model prog w) A (exec (.While t b [] pos) env) (cA w.params sB GB env own cf s G md o) E s:=by
 refine wpAny_While ?_;refine codeAny_whileLoop (fun n s'=> ∃st' G' md',ax w.params sB GB env own cf md' st' s' G'∧Mv (XM env own md) s G s' G'∧fk s md md'∧ik (fun st=>R.ts sc (bt cf st) t) (fun st=>run st b) n st'=some o) (fun n s' hI=>?_) n ⟨st,G,md,S,Mv.refl S.ex.choose_spec.1.inn,.inl rfl,q⟩
 refine ez fun Q1 E1 k1=>?_;refine nj hI fun st1 G₁ md1 S1 m1 r1 q1=>?_;cases n with
 |zero=>unfold ik at q1;exact(aa q1).elim
 |succ n=>
  unfold ik at q1;cases qt:R.ts sc (bt cf st1) t with
  |none=>rw [qt]at q1;cases q1
  |some c=>
   rw [qt]at q1;refine qR H rm hs hB S1 qt fun s2 G2 S2 g2=>?_;have m2:=lZ m1 r1 (ae.mv (X:=XM env own md1) g2);refine k1 _ _ ?_;cases c with
   |false=>
    dsimp only at q1;obtain rfl:=Option.some.inj q1;simp only [Bool.false_eq_true,if_false];exact wpAny_execs_nil ⟨rfl,G2,md1,m2,r1,S2⟩
   |true=>
    dsimp only at q1;simp only [if_true];refine ez fun Q2 E2 k2=>?_;cases qr:run st1 b with
    |none=>rw [qr]at q1;cases q1
    |some o'=>
     rw [qr]at q1;refine wpAny_mono (hrun st1 b o' qr A env own sB GB md1 s2 G2 _ rm C hs hB S2) (fun f s3 h3=>?_) fun Z Z z=>z
     cases o' with
     |next st3=>
      dsimp only at q1;refine kI h3 fun z8 G3 md3 m3 r3 S3=>?_;subst z8
      refine k2 _ _ ?_;exact⟨n,Nat.lt_succ_self _,st3,G3,md3,S3,lZ m2 r1 m3,r1.trans r3 m2.size,q1⟩
     |ret d=>
      dsimp only at q1;obtain rfl:=Option.some.inj q1;refine ah h3 fun v z9 hv=>?_;subst z9
      exact k2 _ _ ⟨v,rfl,hv⟩
theorem Cn (H:aw prog w K mg mb k R){run:bz→List Stmt→Option ce}(hrun:nD prog w K mg mb k sc cf run)(rm:am k A)(C:be sc env own)(hs:aD sc env)(hB:Cx K mg mb sB)(S:ax w.params sB GB env own cf md st s G){t it:PySem.Expr}{b:List Stmt}{pos:Pos}{items:List D}{o:ce}
  (hset:bx it=false)(qi:bb R sc (bt cf st) t it=some items)(ok:jy sc st it=true)(q:i6 sc cf t (fun st=>run st b) st items=some o):wpAny (model prog w) A (exec (.For t it b [] pos) env) (cA w.params sB GB env own cf s G md o) E s:=by
 refine wpAny_For (wpAny_mono (Dj H rm hs hB S (t:=t) qi ok) (fun x s1' h₁=>?_) fun Z Z z=>z) (fun x=>jF hset x)
 obtain⟨G₁,s₁,S1,g1,h₁⟩:=h₁;refine wpAny_mono h₁ (fun itv s2 h₂=>?_) fun Z Z z=>z
 obtain⟨I,wr,St,rfl,g2,T,st0,hwr⟩:=h₂;have S2:=S1.grew g2;have hwG:∀b,wr b→G₁ b=none∧b<s2.heap.objs.size:=fun b hb=>⟨Kn.none_ge g1.inn (hwr b hb).1,(hwr b hb).2⟩
 have s1:s.heap.objs.size≤s₁.heap.objs.size:=g1.size;have hwB:∀b,wr b→sB.heap.get? b=none:=fun b hb=>by
  cases z:sB.heap.get? b with
  |none=>rfl
  |some o=>exact absurd (Nat.lt_of_lt_of_le (Heap.lt_size z) S1.base.size) (Nat.not_lt.mpr (hwr b hb).1)
 have hwM:∀b,wr b→¬Mine env own b:=fun b hb hm=>by
  obtain⟨_,S0,_⟩:=S1.ex;exact absurd (S0.mine_lt hm).1 (Nat.not_lt.mpr (hwr b hb).1)
 have hwD:∀b,wr b→md≠some b:=fun b hb hm=>by
  obtain⟨Gx,_,_,_,offm,_,_⟩:=S1.wide;exact absurd (offm b hm).2.2 (Nat.not_lt.mpr (hwr b hb).1)
 have toS:∀{s':Shared} {G':Kn},Mv (fun b=>wr b∨XM env own md b) s2 G₁ s' G'→Mv (XM env own md) s G s' G':=fun m=>
  ((ae.mv (X:=XM env own md) (g1.trans g2))).fresh_trans m fun b hb=>by
   rcases hb with hb |hb
   ·exact .inr (Nat.le_trans s1 (hwr b hb).1)
   ·exact .inl hb
 have z2:s.heap.objs.size≤s2.heap.objs.size:=Nat.le_trans s1 g2.size
 refine codeAny_forLoop_any (fun n s'=> ∃i st' G' md',n=items.length - i∧i≤items.length∧St i s'.heap∧G₁.Le G'∧ax w.params sB GB env own cf md' st' s' G'∧Mv (fun b=>wr b∨XM env own md b) s2 G₁ s' G'∧fk s2 md md'∧
  (∀b,wr b→G' b=none∧b<s'.heap.objs.size)∧(∀b,wr b→md'≠some b)∧i6 sc cf t (fun st=>run st b) st' (items.drop i)=some o) (fun n s' hI=>?_) items.length
  ⟨0,st,G₁,md,rfl,Nat.zero_le _,st0,.refl _,S2,Mv.refl g2.inn,.inl rfl,hwG,hwD,by simpa using q⟩
 refine dC fun Q1 k1=>?_;obtain⟨i,st1,G',md1,hn,hi,sti,le,S1',m1,r1,hw,hwd,q1⟩:=hI;obtain⟨_,S0',_⟩:=S1'.ex;by_cases hil:i=items.length
 ·subst hil;have hd:items.drop items.length=[]:=List.drop_length ..;rw [hd]at q1;unfold i6 at q1;obtain rfl:=Option.some.inj q1;refine wpAny_mono (T.done s' G' _ sti S0'.inn le fun b hb=>(hw b hb).1) (fun r s3 h3=>?_) fun Z Z z=>z
  obtain⟨rfl,m3⟩:=h3;refine k1 _ _ ?_;refine wpAny_execs_nil ⟨rfl,G',md1,toS (m1.trans (m3.weak fun b hb=>.inl hb)),?_,S1'.mv m3 fun b hb=>⟨hwB b hb,hwM b hb,hwd b hb⟩⟩
  rcases r1 with rfl |⟨rfl,h⟩
  ·exact .inl rfl
  ·exact .inr ⟨rfl,fun b e=>Nat.le_trans z2 (h b e)⟩
 ·have hlt:i<items.length:=Nat.lt_of_le_of_ne hi hil;have hd:items.drop i=items[i] ::items.drop (i+1):=List.drop_eq_getElem_cons hlt;rw [hd]at q1;unfold i6 at q1;cases qb:bo sc cf st1 t items[i]with
  |none=>rw [qb]at q1;cases q1
  |some st2=>
   rw [qb]at q1;dsimp only at q1;refine wpAny_mono (T.item i items[i] s' G' _ (by simp [hlt]) sti S0'.inn le fun b hb=>(hw b hb).1) (fun r s3 h3=>?_) fun Z Z z=>z
   obtain⟨v,rfl,h3⟩:=h3;refine k1 _ _ ?_;refine wpAny_mono h3 (fun Z s4 h4=>?_) fun Z Z z=>z
   obtain⟨G4,m4,rd,st4⟩:=h4;have S4:=S1'.mv m4 fun b hb=>⟨hwB b hb,hwM b hb,hwd b hb⟩
   refine wpAny_mono (cK rm.hh C S4 rd qb) (fun Z s5 h5=>?_) fun Z Z z=>z
   obtain⟨S5,m5⟩:=h5;refine dC fun Q2 k2=>?_;cases qr:run st2 b with
   |none=>rw [qr]at q1;cases q1
   |some o'=>
    rw [qr]at q1;refine wpAny_mono (hrun st2 b o' qr A env own sB GB md1 s5 G4 _ rm C hs hB S5) (fun f s6 h6=>?_) fun Z Z z=>z
    cases o' with
    |ret d=>
     dsimp only at q1;obtain rfl:=Option.some.inj q1;obtain⟨v,rfl,hv⟩:=h6;exact k2 _ _ ⟨v,rfl,hv⟩
    |next st6=>
     dsimp only at q1;obtain⟨rfl,G6,md6,m6,r6,S6⟩:=h6;have m46:Mv (XM env own md1) s4 G4 s6 G6:=(m5.weak fun b hb=>.inl hb).trans m6
     have mall:Mv (fun b=>wr b∨XM env own md b) s2 G₁ s6 G6:=(m1.trans (m4.weak fun b hb=>.inl hb)).fresh_trans m46 fun b hb=>by
      rcases hb with hb |hb
      ·exact .inl (.inr (.inl hb))
      ·rcases r1 with rfl |⟨_,h⟩
       ·exact .inl (.inr (.inr hb))
       ·exact .inr (h b hb)
     have hw4:∀b,wr b→G4 b=none∧b<s4.heap.objs.size:=fun b hb=>⟨m4.none_lt (hw b hb).1 (hw b hb).2,Nat.lt_of_lt_of_le (hw b hb).2 m4.size⟩
     refine k2 _ _ ?_
     refine⟨items.length - (i+1),by lia,i+1,st6,G6,md6,rfl,hlt,T.frame _ _ _ st4 fun b o hb e=>?_,le.trans (m4.le.trans m46.le),S6,mall,r1.trans (r6.trans (.inl rfl) (Nat.le_refl _) |> fun(x:fk s5 md1 md6)=>by
      rcases x with rfl |⟨h1,h⟩
      ·exact .inl rfl
      ·exact .inr ⟨h1,fun b e=>Nat.le_trans (Nat.le_trans (Nat.le_trans m1.size m4.size) m5.size) (h b e)⟩) (Nat.le_refl _),fun b hb=>⟨m46.none_lt (hw4 b hb).1 (hw4 b hb).2,Nat.lt_of_lt_of_le (hw4 b hb).2 m46.size⟩,fun b hb=>?_,q1⟩
     ·rcases hb with hb |⟨ob,hb⟩
      ·exact m46.keep b o (fun z=>by rcases z with z |z;(· exact hwM b hb z);(· exact hwd b hb z)) e
      ·have h1:=m4.inn b ob (m4.le b ob (le b ob hb));have h2:=m46.inn b ob (m46.le b ob (m4.le b ob (le b ob hb)));rw [h1]at e;rw [h2];exact e
     ·rcases r6 with rfl |⟨_,h⟩
      ·exact hwd b hb
      ·intro e;exact absurd (Nat.lt_of_lt_of_le (hw4 b hb).2 m5.size) (Nat.not_lt.mpr (h b e))
end
section
variable {prog:Program}{w:World}{K:Frag}{mg mb:Str→Option Value}{k:Nat}{R:bm}{A:Around}{env:Env}{own:List (Str×Addr)}{s sB:Shared}{G GB:Kn}{E:Value→Shared→Prop}{sc:aq}{cf:bE}{st st':bz}{md:Option Addr}{ρ:Ro}
theorem AS {β:Type}{o:Option (List D)}{X:Option β}{d:β}(e:(match o with |some _=>none |none=>X)=some d):o=none∧X=some d:=by
 cases o with
 |none=>exact⟨rfl,e⟩
 |some l=>exact(aa e).elim
set_option tactic.hygienic true in
theorem zH {β:Type}{c:Bool}{o:Option D}{X:Nat→Option β}{d:β}(e:(match c,o with |true,some (.int (.ofNat n))=>X n |_,_=>none)=some d):∃n,c=true∧o=some (.int (.ofNat n))∧X n=some d:=by
 cases c
 ·exact(aa e).elim
 ·rcases o with _ |z
  ·exact(aa e).elim
  ·cases z<;>first |exact(aa e).elim |skip
   rename_i i;cases i with
   |ofNat n=>exact⟨n,rfl,rfl,e⟩
   |negSucc=>exact(aa e).elim
theorem Cq {β:Type}{v:PySem.Expr}{X:PySem.Expr→List Comprehension→Scope→Option β}{Y:Option β}{d:β}(q:(match v with | .DictComp .. =>none | .SetComp .. =>none | .ListComp elt gens scope _=>X elt gens scope |_=>Y)=some d):
  (∃elt gens scope p,v=.ListComp elt gens scope p∧X elt gens scope=some d)∨(lu v=false∧Y=some d):=by
 cases v with
 |DictComp=>exact(aa q).elim
 |SetComp=>exact(aa q).elim
 |ListComp a b c p=>exact .inl ⟨a,b,c,p,rfl,q⟩
 |_=>exact .inr ⟨rfl,q⟩
theorem y3 {β:Type}{v:PySem.Expr}{X:Str→Str→Option β}{d:β}(q:(match v with | .Attribute (.Name y _) a _=>X y a |_=>none)=some d):∃y yp a ap,v=.Attribute (.Name y yp) a ap∧X y a=some d:=by
 cases v with
 |Attribute o a ap=>cases o with
  |Name y yp=>exact⟨y,yp,a,ap,rfl,q⟩
  |_=>exact(aa q).elim
 |_=>exact(aa q).elim
theorem kq {o:Option bz}{d:ce}(q:o.map .next=some d):∃st,o=some st∧d=.next st:=by
 refine ah (Option.map_eq_some_iff.mp q) fun st z e=>?_;exact⟨st,z,e.symm⟩
theorem y4 {o i:PySem.Expr}{p:Pos}{v:PySem.Expr}(q:mh R sc cf st (.Subscript o i p) v=some st'):∃x xp,o=.Name x xp:=by
 cases o<;>first |exact(aa q).elim |exact⟨_,_,rfl⟩
theorem sI (H:aw prog w K mg mb k R)(rm:am k A)(C:be sc env own)(hs:aD sc env)(hB:Cx K mg mb sB)(S:ax w.params sB GB env own cf md st s G){t v:PySem.Expr}{pos:Pos}
  (q:mh R sc cf st t v=some st'):wpAny (model prog w) A (exec (.Assign [t] v pos) env) (cA w.params sB GB env own cf s G md (.next st')) E s:=by
 cases t with
 |Name x p=>
  rcases qS q with⟨hx,q⟩ |⟨hx,q⟩
  ·refine b9 (Cu q) fun h1 hl q=>?_;refine xa (jY q) fun hap q=>?_;refine ah (Option.map_eq_some_iff.mp q) fun l z z1=>?_;subst z1
   exact zv H rm C hs hB S (fG hx) (Bool.and_eq_true_iff.mp h1).1 hl hap z
  ·rcases qS q with⟨hax,q⟩ |⟨hax,q⟩
   ·refine lM (y3 q) fun y yp a ap z2 q=>?_;subst z2
    refine xa (ec q) fun hc q=>?_;simp only [Bool.and_eq_true]at hc;refine xa hc fun z3 h4=>?_;obtain⟨⟨h1,h2⟩,h3⟩:=z3
    obtain rfl:=Option.some.inj q;obtain rfl:=(ao _ _).mp h2;refine xe (Option.isSome_iff_exists.mp h3) fun l hl=>?_;exact uW C S (fG h1) (fG hax) h4 hx hl
   ·rcases Cq q with⟨elt,gens,scope,vp,rfl,q⟩ |⟨hv,q⟩
    ·refine xa (AS q) fun hl q=>?_;refine ah (eg q) fun ys z q=>?_;exact jg H rm C hs hB S hl z q
    ·refine ah (iu q) fun d z q=>?_;exact mY H rm C hs hB S hv z q
 |Tuple ts tk tp=>
  refine xa (ec q) fun hsw q=>?_;refine ah (iu q) fun d z q=>?_;exact xz H rm C hs hB S hsw z q
 |Subscript o i sp=>
  refine aV (y4 q) fun x xp z4=>?_;subst z4
  refine aR (w6 q) fun l hx hl q=>?_;refine ah (iu q) fun d z q=>?_;refine aR (zH q) fun n lf zi q=>?_;refine xa (aL q) fun hn z5=>?_;subst z5
  exact Cm H rm hs hB S hx hl z lf zi hn.1 (by omega)
 |_=>exact(aa q).elim
theorem AX {β:Type}{a b:PySem.Expr}{X:Str→Pos→Str→Pos→Option β}{d:β}(q:(match a,b with | .Name x p,.Name y p'=>X x p y p' |_,_=>none)=some d):∃x p y p',a=.Name x p∧b=.Name y p'∧X x p y p'=some d:=by
 cases a with
 |Name x p=>cases b with
  |Name y p'=>exact⟨x,p,y,p',rfl,rfl,q⟩
  |_=>exact(aa q).elim
 |_=>exact(aa q).elim
theorem Ah {β:Type}{o:Option bz}{X:bz→Option β}{d:β}(e:(match o with |none=>none |some x=>X x)=some d):∃x,o=some x∧X x=some d:=by
 cases o with
 |none=>exact(aa e).elim
 |some x=>exact⟨x,rfl,e⟩
theorem xM {β:Type}{o:Option Bool}{X Y:Option β}{d:β}(e:(match o with |none=>none |some true=>X |some false=>Y)=some d):∃c,o=some c∧(match c with |true=>X |false=>Y)=some d:=by
 rcases o with _ |_ |_
 ·exact(aa e).elim
 ·exact⟨_,rfl,e⟩
 ·exact⟨_,rfl,e⟩
theorem yB {o:Option Bool}{x d:ce}(e:(match o with |some true=>some x |_=>none)=some d):o=some true∧x=d:=by
 rcases o with _ |_ |_
 ·exact(aa e).elim
 ·exact(aa e).elim
 ·exact⟨rfl,Option.some.inj e⟩
theorem zF {β:Type}{a b:Bool}{o:Option (List D)}{X:List D→Option β}{d:β}(e:(match a,b,o with |true,true,some l=>X l |_,_,_=>none)=some d):∃l,a=true∧b=true∧o=some l∧X l=some d:=by
 cases a
 ·exact(aa e).elim
 ·cases b
  ·exact(aa e).elim
  ·cases o with
   |none=>exact(aa e).elim
   |some l=>exact⟨l,rfl,rfl,rfl,e⟩
theorem Dp {β:Type}{a:Bool}{o:Option D}{X:D→Option β}{d:β}(e:(match a,o with |false,some l=>X l |_,_=>none)=some d):∃l,a=false∧o=some l∧X l=some d:=by
 cases a
 ·cases o with
  |none=>exact(aa e).elim
  |some l=>exact⟨l,rfl,rfl,e⟩
 ·exact(aa e).elim
theorem u8 {run:bz→List Stmt→Option ce}{n:Nat}{o:ce}{t v:PySem.Expr}{op:Operator}{p:Pos}(q:kO R sc cf run n st (.AugAssign t op v p)=some o):∃x xp,t=.Name x xp:=by
 cases t<;>first |exact(aa q).elim |exact⟨_,_,rfl⟩
theorem s0 {run:bz→List Stmt→Option ce}{n:Nat}{o:ce}{e:PySem.Expr}{p:Pos}(q:kO R sc cf run n st (.Expr e p)=some o):∃y yp e' p,e=.Call (.Name y yp) [e'] [] p:=by
 cases e with
 |Call f as ks p=>cases f with
  |Name y yp=>
   rcases as with _ |⟨e,_ |⟨_,_⟩⟩
   ·exact(aa q).elim
   ·cases ks with
    |nil=>exact⟨_,_,_,_,rfl⟩
    |cons=>exact(aa q).elim
   ·exact(aa q).elim
  |_=>exact(aa q).elim
 |_=>exact(aa q).elim
theorem xJ (H:aw prog w K mg mb k R){run:bz→List Stmt→Option ce}(hrun:nD prog w K mg mb k sc cf run)(rm:am k A)(C:be sc env own)(hs:aD sc env)(hB:Cx K mg mb sB)(S:ax w.params sB GB env own cf md st s G){stm:Stmt}{n:Nat}{o:ce}
  (q:kO R sc cf run n st stm=some o):wpAny (model prog w) A (exec stm env) (cA w.params sB GB env own cf s G md o) E s:=by
 cases stm with
 |Assign ts v pos=>
  rcases ts with _ |⟨t,_ |⟨t2,_ |⟨_,_⟩⟩⟩
  ·exact(aa q).elim
  ·refine ah (kq q) fun st' z z6=>?_;subst z6
   exact sI H rm C hs hB S z
  ·obtain⟨x,p,y,p',rfl,rfl,q⟩:=AX q;refine ah (cP q) fun d z q=>?_;refine ah (Ah q) fun st1 qb q=>?_;refine xa (ec q) fun Z q=>?_;refine ah (kq q) fun st' z2 z7=>?_;subst z7
   exact Cl H rm C hs hB S z qb z2
  ·exact(aa q).elim
 |AugAssign t op v pos=>
  refine aV (u8 q) fun x p z8=>?_;subst z8
  refine ah (cP q) fun a qa q=>?_;refine ah (cP q) fun b z q=>?_;refine ah (cP q) fun d qd q=>?_;refine ah (kq q) fun st' z2 z9=>?_;subst z9
  exact Co H rm C hs hB S qa z qd z2
 |If t b o' pos=>
  refine ah (xM q) fun c z q=>?_;refine wpAny_If (qR H rm hs hB S z fun s₁ G₁ S1 g=>?_)
  cases c with
  |true=>
   simp only [if_true];exact wpAny_mono (hrun st b o q A env own sB GB md s₁ G₁ E rm C hs hB S1) (fun f s2 h=>h.pre (ae.mv g) (.inl rfl)) fun Z Z z=>z
  |false=>
   simp only [Bool.false_eq_true,if_false];exact wpAny_mono (hrun st o' o q A env own sB GB md s₁ G₁ E rm C hs hB S1) (fun f s2 h=>h.pre (ae.mv g) (.inl rfl)) fun Z Z z=>z
 |While t b e pos=>cases e with
  |nil=>exact xy H hrun rm C hs hB S q
  |cons=>exact(aa q).elim
 |For t it b e pos=>cases e with
  |nil=>
   refine xa (jY q) fun hset q=>?_;refine ah (kP q) fun items qi q=>?_;refine xa (zG q) fun ok q=>?_;exact Cn H hrun rm C hs hB S hset qi ok q
  |cons=>exact(aa q).elim
 |Return v pos=>cases v with
  |none=>exact(aa q).elim
  |some e=>
   refine ah (Option.map_eq_some_iff.mp q) fun d z z10=>?_;subst z10
   exact wpAny_Return_some (hU H rm hs hB S z fun v s₁ G₁ g=>⟨v,rfl,g.all⟩)
 |Assert t msg pos=>
  refine xa (yB q) fun z z11=>?_;subst z11
  exact wpAny_Assert_holds (qR H rm hs hB S z fun s₁ G₁ S1 g=>⟨rfl,rfl,G₁,md,ae.mv g,.inl rfl,S1⟩)
 |Expr e pos=>
  obtain⟨y,yp,e,p,rfl⟩:=s0 q;refine eN (zF q) fun l h1 h2 h3 q=>?_;refine aR (Dp q) fun d hst z q=>?_;refine xa (ec q) fun hc q=>?_;obtain rfl:=Option.some.inj q;refine xa (Bool.and_eq_true_iff.mp hc) fun lf hl=>?_;exact uX H rm hs hB S (fG h1) h2 h3 hst z lf (Nat.le_of_ble_eq_true hl)
 |_=>exact(aa q).elim
set_option tactic.hygienic true in
theorem nP (H:aw prog w K mg mb k R):∀n,nD prog w K mg mb k sc cf (cC R sc cf n)
 |0=>fun st b o q=>(nomatch (show none=some _ from q))
 |n+1=>fun st b o q A env own sB GB md s G E rm C hs hB S=>by
  unfold cC at q
  split at q
  ·obtain rfl:=Option.some.inj q;exact wpAny_execs_nil ⟨rfl,G,md,Mv.refl S.ex.choose_spec.1.inn,.inl rfl,S⟩
  ·rename_i stm r;refine wpAny_execs_cons ?_;cases z:kO R sc cf (cC R sc cf n) n st stm with
   |none=>rw [z]at q;cases q
   |some o'=>
    rw [z]at q;refine wpAny_mono (xJ H (nP H n) rm C hs hB S z) (fun f s₁ h1=>?_) fun Z Z z=>z
    cases o' with
    |next st1=>
     dsimp only at q;refine kI h1 fun z12 G₁ md1 m1 r1 S1=>?_;subst z12
     exact wpAny_mono (nP H n st1 r o q A env own sB GB md1 s₁ G₁ E rm C hs hB S1) (fun f s2 h=>h.pre m1 r1) fun Z Z z=>z
    |ret d=>
     dsimp only at q;obtain rfl:=Option.some.inj q;refine ah h1 fun v z13 hv=>?_;subst z13
     exact⟨v,rfl,hv⟩
end
noncomputable def aW:Ro→List Str→List D→Ro
 |ρ,x::xs,d::ds=>aW (ad ρ x d) xs ds
 |ρ,_,_=>ρ
noncomputable def AT (l:aq):Bool:=l.all fun p=>match p.2 with | .free=>false |_=>true
noncomputable def ma (sc:Scope)(ps:List Str):Bool:=AT sc.names&&fT (sc.names.map (·.1))&&ps.all (bF sc.names)
structure bK (K:Frag)(a:Addr)(sc:Scope)(ps:List Str)(body:List Stmt):Prop where
 ex:∀h,K.In h→∃o fd,h.get? a=some o∧o.data=.func fd∧h.CodeRec fd.code fd.qualname∧fd.scope=sc∧fd.body=.stmts body∧fd.closure=[]∧fd.globals=mainGlobals∧fd.builtins=builtinsNs∧
  ∀vals:List Value,vals.length=ps.length→bindArgs fd ⟨vals,[]⟩=pure (ps.zip vals)
 kind:sc.kind=.function
 co:sc.isCoroutine=false
 gen:sc.isGenerator=false
 ok:ma sc ps=true
theorem am.deeper {k:Nat}{A:Around}{env:Env}(r:am (k+1) A):am k (A.deeper env):=
 ⟨r.hh,by have:=r.hd;show A.depth+1+k<recursionLimit;lia,by have:=r.hu;show A.units+3+20*k+200<cLine;lia⟩
section
variable {P:Params}{G:Kn}{kindOf:Str→Option NameKind}{own:List (Str×Addr)}{names:aq}
noncomputable def uM (P:Params)(G:Kn)(kindOf:Str→Option NameKind)(own:List (Str×Addr))(m cm:Str→Option Value)(ρ:Ro):Prop:=
 ∀x d,ρ x=some d→ca x=true∧∃v,((kindOf x=some .local∧m x=some v)∨(kindOf x=some .cell∧(own.lookup x).isSome=true∧cm x=some v))∧Rd P G v d
set_option tactic.hygienic true in
theorem jq (hk:∀x,kindOf x=aE names x)(hown:∀x,aE names x=some .cell→(own.lookup x).isSome=true):∀(ps:List Str)(vs:List Value)(ds:List D)(m cm:Str→Option Value)(ρ:Ro),ps.all (bF names)=true→ai P G vs ds→uM P G kindOf own m cm ρ→
  uM P G kindOf own (bindL kindOf (ps.zip vs) m) (bindC kindOf (ps.zip vs) cm) (aW ρ ps ds)
 | [],_,_,_,_,_,_,_,h=>by unfold aW;simpa [bindL,bindC] using h
 |x::ps,[],ds,m,cm,ρ,_,r,h=>by cases r;unfold aW;simpa [bindL,bindC] using h
 |x::ps,v::vs,ds,m,cm,ρ,ho,r,h=>by
  cases r with
  |cons r1 r2=>
   rename_i d ds;rw [List.all_cons,Bool.and_eq_true]at ho;unfold aW;rw [List.zip_cons_cons];unfold bindL bindC;refine jq hk hown ps vs ds _ _ _ ho.2 r2 fun y e hy=>?_;unfold ad at hy;cases q:ar y x with
   |true=>
    rw [q]at hy;obtain rfl:=Option.some.inj hy;have e1:=(ao _ _).mp q;subst e1;refine⟨cL ho.1,v,?_,r1⟩;have h2:=(Bool.and_eq_true_iff.mp ho.1).2;cases hkd:aE names y with
    |none=>rw [hkd]at h2;exact(aj h2).elim
    |some kk=>
     rw [hkd]at h2;have hkk:kindOf y=some kk:=by rw [hk];exact hkd
     cases kk<;>first |cases h2 |skip
     ·left;rw [if_pos hkk];exact⟨hkk,by simp⟩
     ·right
      have hn:¬kindOf y=some .local:=by rw [hkk];decide
      rw [if_neg hn];exact⟨hkk,hown y hkd,by simp⟩
   |false=>
    rw [q]at hy;have ne:y≠x:=fun z=>by rw [(ao _ _).mpr z]at q;exact(cb q).elim
    refine cn (h y e hy) fun ok v' hv rd=>?_;refine⟨ok,v',?_,rd⟩;rcases hv with⟨a,b⟩ |⟨a,b,c⟩
    ·left
     refine⟨a,?_⟩
     split
     ·simp [ne,b]
     ·exact b
    ·right
     refine⟨a,b,?_⟩
     split
     ·exact c
     ·simp [ne,c]
end
section
variable {prog:Program}{w:World}{K:Frag}{mg mb:Str→Option Value}{k:Nat}{R:bm}
theorem oF {a:Addr}{sc:Scope}{ps:List Str}{body:List Stmt}(cf:bE){args:List D}{A:Around}{s:Shared}{G:Kn}{vs:List Value}{E:Value→Shared→Prop}{Q:Value→Shared→Prop}(F:bK K a sc ps body)(hl:args.length=ps.length)
  (rm:am (k+1) A)(hx:Cx K mg mb s)(I:G.In s.heap)(r:ai w.params G vs args)
  (h:∀(env:Env)(own:List (Str×Addr))(s':Shared)(E':Value→Shared→Prop),am k (A.deeper env)→be sc.names env own→aD sc.names env→ax w.params s G env own cf none ⟨aW aT ps args,none,false⟩ s' G→
   wpAny (model prog w) (A.deeper env) (execs body env) (fun f s''=> ∃v,f=.ret v∧Q v s'') E' s'):wpAny (model prog w) A (call (.ref a) vs) Q E s:=by
 obtain⟨o,fd,ho,hd,hcd,rfl,hbody,hclo,hgl,hbl,hbind⟩:=F.ex s.heap hx.kin;have hok:=F.ok;unfold ma at hok;simp only [Bool.and_eq_true]at hok;refine xa hok fun z1 hps=>?_;obtain⟨hnf,hnd⟩:=z1
 have hvl:vs.length=ps.length:=r.length.trans hl;have hkind:∀x∈ps.zip vs,fd.scope.names.lookup x.1=some .local∨(fd.scope.names.lookup x.1=some .cell∧((cellsFrom (s.heap.objs.size+1) fd.scope.names []).lookup x.1).isSome=true):=fun x hm=>by
  have h1:=List.all_eq_true.mp hps x.1 (List.of_mem_zip hm).1;have h2:=(Bool.and_eq_true_iff.mp h1).2;rw [←eS];cases hkd:aE fd.scope.names x.1 with
  |none=>rw [hkd]at h2;exact(aj h2).elim
  |some kk=>
   rw [hkd]at h2;cases kk<;>first |cases h2 |skip
   ·exact .inl rfl
   ·exact .inr ⟨rfl,dp _ _ (cr hkd)⟩
 refine wpAny_call ?_;refine codeAny_call_function (by have:=rm.hd;lia) ho hd F.co F.gen hbody hcd ?_
 rw [hbind vs hvl,hclo];refine wpAny_pure (aK (wpAny_newFunctionEnv_cells F.kind hkind fun env he s' x hz=>?_))
 subst he;refine⟨hx.nolim.keeps x.toInCall.keep,codeAny_func ?_⟩;generalize hown:cellsFrom (s.heap.objs.size+1) fd.scope.names []=own at x;generalize henv:newEnv fd.scope s.heap.objs.size fd.globals own (fd.qualname++ ".<locals>.") (some a) fd.code none fd.builtins=env at x;have e1:env.scope=fd.scope:=by rw [←henv];rfl
 have e2:env.locals=s.heap.objs.size:=by rw [←henv];rfl
 have e3:env.cells=own:=by rw [←henv];rfl
 have e4:env.globals=mainGlobals:=by rw [←henv];exact hgl
 have e5:env.builtins=builtinsNs:=by rw [←henv];exact hbl
 have hkd:∀x,env.kindOf x=aE fd.scope.names x:=fun x=>by
  rw [eS];show env.scope.names.lookup x=_;rw [e1]
 have ownsome:∀x,aE fd.scope.names x=some .cell→(own.lookup x).isSome=true:=fun x hx=>by rw [←hown];exact dp _ _ (cr hx)
 have free_no:∀x,aE fd.scope.names x≠some .free:=fun x hx=>by
  have:=List.all_eq_true.mp hnf _ (cr hx);exact(aj this).elim
 have notB:∀{c:Addr},s.heap.objs.size≤c→s.heap.get? c=none:=fun{c} hc=>by
  cases z:s.heap.get? c with
  |none=>rfl
  |some o=>exact absurd (Heap.lt_size z) (Nat.not_lt.mpr hc)
 have C:be fd.scope.names env own:=⟨fun x h=>by rw [hkd,h],fun x h=>⟨by rw [hkd,h],ownsome x h⟩,fun x h=>absurd h (free_no x),fun x h=>by rw [hkd,h]⟩
 have hs:aD fd.scope.names env:=⟨fun x h=>by rw [hkd,h],fun x h=>by
  rcases h with h |h
  ·exact⟨.inl (by rw [hkd,h]),by rw [e3];exact ownsome x h⟩
  ·exact absurd h (free_no x),by rw [e1];exact F.kind,e4,e5⟩
 rw [e3]at x;refine aV x.toInCall.same fun h' tk hsame=>?_;have hva:=jq (P:=w.params) (G:=G) (kindOf:=env.kindOf) (own:=own) hkd ownsome ps vs args (fun Z=>none) (fun Z=>none) aT hps r (fun x d h=>(nomatch h))
 have S0:a7 w.params s.heap env own G s'.heap (aW aT ps args):=by
  refine⟨⟨_,_,⟨x.toInCall.ns,by rw [e2];exact notB (Nat.le_refl _),x.cell,fun n c hm=>?_,x.apart,fun n c hm=>?_,fun n c hm=>by rw [e3];exact hm,x.toInCall.keep,by rw [e1];exact F.kind⟩,fun y e hy=>?_⟩,⟨?_,fun n c hm=>?_⟩,fun b ob e=>x.toInCall.keep b ob (I b ob e)⟩
  ·have:=x.above n c hm;rw [e2]at this;exact⟨notB (Nat.le_of_lt this),by rw [e2];exact Nat.ne_of_gt this⟩
  ·rw [←hown]at hm⊢;exact iS _ hnd hm
  ·refine cn (hva y e hy) fun ok v hv rd=>?_;refine⟨ok,v,?_,rd⟩;rcases hv with⟨a,b⟩ |⟨a,b,c⟩
   ·exact .loc a b
   ·refine xe (Option.isSome_iff_exists.mp b) fun c' hc'=>?_;exact .cell a hc' c
  ·rw [e2];exact Kn.none_ge I (Nat.le_refl _)
  ·have:=x.above n c hm;rw [e2]at this;exact Kn.none_ge I (Nat.le_of_lt this)
 have S:ax w.params s G env own cf none ⟨aW aT ps args,none,false⟩ s' G:=⟨⟨⟨h',tk,hsame⟩,hz.1,hz.2,.refl G,fun a o e=>.inl e⟩,_,S0,fun Z Z e=>e,⟨rfl,rfl⟩⟩
 refine wpAny_mono (h env own s' _ rm.deeper C hs S) (fun f s'' hf=>?_) fun Z Z z=>z
 refine ah hf fun v z2 hv=>?_;subst z2
 exact hv
theorem l9 {a:Addr}{sc:Scope}{ps:List Str}{body:List Stmt}{cf:bE}{n:Nat}{args:List D}{d:D}(F:bK K a sc ps body)(H:aw prog w K mg mb k R)(hl:args.length=ps.length)
  (q:cC R sc.names cf n ⟨aW aT ps args,none,false⟩ body=some (.ret d)):gM prog w K mg mb (k+1) a args d:=fun A s G vs E rm hx I r=>
 oF cf F hl rm hx I r fun env own s' E' rm' C hs S=>wpAny_mono (nP H n _ body _ q _ env own s G none s' G _ rm' C hs hx S) (fun f s'' hf=>hf) fun Z Z z=>z
end
noncomputable def P0:Params:={strHash:=fun Z=>0,shareClass:=fun Z=>0,mergeTok:=fun t=>t,idOf:=fun Z=>0,idOfShared:=fun Z Z=>0,followText:=fun Z=>true,idOfImm:=fun Z=>0}
noncomputable def Eg:Data→Option FuncData | .func fd=>some fd |_=>none
noncomputable def xr (o:Option Obj):Option FuncData:=o.bind fun ob=>Eg ob.data
noncomputable def Ff (o:Option Obj):Scope:=match xr o with |some fd=>fd.scope |none=>⟨.function,[],false,false,[]⟩
noncomputable def Fp (o:Option Obj):List Stmt:=match xr o with |some fd=>(match fd.body with | .stmts b=>b |_=>[]) |none=>[]
noncomputable def Fg (o:Option Obj):List Str:=match xr o with |some fd=>fd.params.args.map (·.arg) |none=>[]
noncomputable def an (a:Addr):Scope:=Ff ((Mine.hk P0).lookup a)
noncomputable def bj (a:Addr):List Stmt:=Fp ((Mine.hk P0).lookup a)
noncomputable def aO (a:Addr):List Str:=Fg ((Mine.hk P0).lookup a)
structure FE where
 a:Addr
 cf:bE
noncomputable def aI:bE:=⟨none,none⟩
noncomputable def FT:List (Str×FE):=[("_translate",⟨62,⟨some "res",some "add"⟩⟩),("_substitution_cost",⟨189,aI⟩),("_levenshtein_distance",⟨196,⟨some "row",none⟩⟩),("_law_name",⟨203,aI⟩),("_law_pattern",⟨210,aI⟩),("_law_jobs",⟨215,aI⟩),
 ("_law_takes",⟨222,aI⟩),("_law_fits",⟨229,aI⟩),("_law_price",⟨234,aI⟩),("_law_needs",⟨244,aI⟩),("_law_due",⟨254,aI⟩),("_law_told",⟨259,aI⟩)]
noncomputable def jb:List (Str×FE)→Str→Option FE
 | [],_=>none
 |p::r,x=>match ar x p.1 with
  |true=>some p.2
  |false=>jb r x
noncomputable def bw (x:Str):Option D:=if ar x "_MOVE_COST" then some (.int 2)else if ar x "_CASE_COST" then some (.int 1)else if ar x "_MAX_STRING_SIZE" then some (.int 40)else if ar x "int" then some (.typ "int")else none
noncomputable def Az:Option ce→Option D
 |some o=>(match o with | .ret d=>some d |_=>none)
 |none=>none
noncomputable def Bs:D→Option Nat
 | .str l=>(match l with |c::r=>(match r with | []=>some c |_=>none) |_=>none)
 |_=>none
noncomputable def AP:List D→Option D
 |d::r=>(match r with | []=>some d |_=>none)
 |_=>none
noncomputable def wh (f:Str)(args:List D):Option D:=match ar f "escape" with
 |true=>((AP args).bind Bs).bind fun c=>if Nat.beq c 97||Nat.beq c 98 then some (.str [c])else none
 |false=>none
noncomputable def bV (N:Nat):Nat→cS
 |0=>fun Z Z=>none
 |k+1=>fun f args=>match jb FT f with
  |some e=>(match Nat.beq args.length (aO e.a).length with
   |true=>Az (cC (av (bV N k) bw N) (an e.a).names e.cf N ⟨aW aT (aO e.a) args,none,false⟩ (bj e.a))
   |false=>none)
  |none=>wh f args
theorem Ay {o:Option ce}{d:D}(h:Az o=some d):o=some (.ret d):=by
 cases o with
 |none=>exact(aa h).elim
 |some o=>cases o with
  |ret x=>exact congrArg (fun x=>some (ce.ret x)) (Option.some.inj h)
  |_=>exact(aa h).elim
theorem Br {a:D}{c:Nat}(h:Bs a=some c):a=.str [c]:=by
 cases a with
 |str l=>
  cases l with
  |nil=>exact(aa h).elim
  |cons x r=>cases r with
   |nil=>exact congrArg (fun x=>D.str [x]) (Option.some.inj h)
   |cons=>exact(aa h).elim
 |_=>exact(aa h).elim
theorem AO {l:List D}{a:D}(h:AP l=some a):l=[a]:=by
 cases l with
 |nil=>exact(aa h).elim
 |cons x r=>cases r with
  |nil=>exact congrArg (fun x=>[x]) (Option.some.inj h)
  |cons=>exact(aa h).elim
theorem Bm {f:Str}{args:List D}{d:D}(h:wh f args=some d):∃c,ar f "escape" =true∧(Nat.beq c 97||Nat.beq c 98)=true∧args=[.str [c]]∧d=.str [c]:=by
 unfold wh at h;cases q:ar f "escape" with
 |false=>rw [q]at h;exact(aa h).elim
 |true=>
  rw [q]at h;refine ah (Option.bind_eq_some_iff.mp h) fun c h1 h2=>ah (Option.bind_eq_some_iff.mp h1) fun a h3 h4=>?_
  cases z:(Nat.beq c 97||Nat.beq c 98)with
  |false=>rw [z]at h2;exact(aa h2).elim
  |true=>rw [z]at h2;exact⟨c,rfl,z,by rw [AO h3,Br h4],(Option.some.inj h2).symm⟩
theorem AC {N k:Nat}{f:Str}{args:List D}{d:D}(h:bV N (k+1) f args=some d):(∃e,jb FT f=some e∧Nat.beq args.length (aO e.a).length=true∧cC (av (bV N k) bw N) (an e.a).names e.cf N ⟨aW aT (aO e.a) args,none,false⟩ (bj e.a)=some (.ret d))∨
  (∃c,ar f "escape" =true∧(Nat.beq c 97||Nat.beq c 98)=true∧args=[.str [c]]∧d=.str [c]):=by
 unfold bV at h;cases q:jb FT f with
 |none=>rw [q]at h;exact .inr (Bm h)
 |some e=>
  rw [q]at h;cases z:Nat.beq args.length (aO e.a).length with
  |false=>dsimp only at h;rw [z]at h;exact(aa h).elim
  |true=>dsimp only at h;rw [z]at h;exact .inl ⟨e,rfl,z,Ay h⟩
noncomputable def kb (K:Frag)(a:Addr):Option FuncData:=xr (K.lookup a)
noncomputable def AB:Value→Option Addr | .ref c=>some c |_=>none
noncomputable def Bj:Data→Option (Array Value) | .fields vs=>some vs |_=>none
noncomputable def Ab:Value→Option Str | .str q _=>some q |_=>none
theorem AA {v:Value}{c:Addr}(h:AB v=some c):v=.ref c:=by cases v with |ref _=>exact congrArg _ (Option.some.inj h) |_=>exact(aa h).elim
theorem Bi {d:Data}{vs:Array Value}(h:Bj d=some vs):d=.fields vs:=by cases d with |fields _=>exact congrArg _ (Option.some.inj h) |_=>exact(aa h).elim
theorem Dq {d:Data}{fd:FuncData}(h:Eg d=some fd):d=.func fd:=by cases d with |func _=>exact congrArg _ (Option.some.inj h) |_=>exact(aa h).elim
theorem Aa {v:Value}{q:Str}(h:Ab v=some q):∃t,v=.str q t:=by cases v with |str _ t=>exact⟨t,congrArg (Value.str · t) (Option.some.inj h)⟩ |_=>exact(aa h).elim
noncomputable def Bw (K:Frag)(v:Value):Option Str:=(AB v).bind fun c=>(K.lookup c).bind fun ob=>(Bj ob.data).bind fun vs=>(vs[1]?:Option Value).bind Ab
theorem Dv {K:Frag}{v:Value}{q:Str}(e:Bw K v=some q):∃c ob vs t,v=.ref c∧K.lookup c=some ob∧ob.data=.fields vs∧vs[1]? =some (.str q t):=by
 refine ah (Option.bind_eq_some_iff.mp e) fun c h1 e=>ah (Option.bind_eq_some_iff.mp e) fun ob h2 e=>ah (Option.bind_eq_some_iff.mp e) fun vs h3 e=>ah (Option.bind_eq_some_iff.mp e) fun u h4 e=>xe (Aa e) fun t h5=>?_
 exact⟨c,ob,vs,t,AA h1,h2,Bi h3,h5▸h4⟩
noncomputable def Bv (K:Frag)(fd:FuncData):Bool:=match Bw K fd.code with
 |some q=>ar q fd.qualname
 |none=>false
noncomputable def nw (K:Frag)(a:Addr):Bool:=match kb K a with
 |some fd=>Bv K fd&&fd.closure.isEmpty&&Nat.beq fd.globals 3&&Nat.beq fd.builtins 0
 |none=>false
theorem qu {K:Frag}{a:Addr}(c:nw K a=true):∃ob fd,K.lookup a=some ob∧ob.data=.func fd∧kb K a=some fd∧(∀h,K.In h→h.CodeRec fd.code fd.qualname)∧fd.closure=[]∧fd.globals=mainGlobals∧fd.builtins=builtinsNs:=by
 unfold nw at c;cases hfd:kb K a with
 |none=>rw [hfd]at c;exact(aj c).elim
 |some fd=>
  rw [hfd]at c;refine xa (Bool.and_eq_true_iff.mp c) fun c c4=>xa (Bool.and_eq_true_iff.mp c) fun c c3=>xa (Bool.and_eq_true_iff.mp c) fun c1 c2=>ah (Option.bind_eq_some_iff.mp hfd) fun ob h1 h2=>?_
  unfold Bv at c1;cases hq:Bw K fd.code with
  |none=>rw [hq]at c1;exact(aj c1).elim
  |some q=>
   rw [hq]at c1;obtain⟨cc,o,vs,t,h3,h4,h5,h6⟩:=Dv hq;exact⟨ob,fd,h1,Dq h2,rfl,fun h hK=>⟨cc,o,vs,t,h3,hK cc o h4,h5,by rw [h6,(ao _ _).mp c1]⟩,List.isEmpty_iff.mp c2,Nat.eq_of_beq_eq_true c3,Nat.eq_of_beq_eq_true c4⟩
theorem ci {K:Frag}{a:Addr}{sc:Scope}{ps:List Str}{body:List Stmt}(c:nw K a=true)(e1:(kb K a).map (·.scope)=some sc)(e2:(kb K a).map (·.body)=some (.stmts body))
  (e3:∀vals:List Value,vals.length=ps.length→(kb K a).map (fun fd=>bindArgs fd ⟨vals,[]⟩)=some (pure (ps.zip vals)))(k1:sc.kind=.function)(k2:sc.isCoroutine=false)(k3:sc.isGenerator=false)(k4:ma sc ps=true):
  bK K a sc ps body:=by
 obtain⟨ob,fd,h1,h2,h3,h4,h5,h6,h7⟩:=qu c;rw [h3]at e1 e2 e3;exact⟨fun h hK=>⟨ob,fd,hK a ob h1,h2,h4 h hK,Option.some.inj e1,Option.some.inj e2,h5,h6,h7,fun vals hl=>Option.some.inj (e3 vals hl)⟩,k1,k2,k3,k4⟩
theorem Fy (P:Params):bK (Mine.hk P) 62 (an 62) (aO 62) (bj 62):=ci (by kernel_rfl) (by kernel_rfl) (by kernel_rfl) (fun vals hl=>by refine pE (A5 hl (by kernel_rfl)) fun a b c z2=>?_;subst z2;kernel_rfl) (by kernel_rfl) (by kernel_rfl) (by kernel_rfl) (by kernel_rfl)
theorem EU (P:Params):bK (Mine.hk P) 189 (an 189) (aO 189) (bj 189):=ci (by kernel_rfl) (by kernel_rfl) (by kernel_rfl) (fun vals hl=>by refine aV (iY hl (by kernel_rfl)) fun a b z3=>?_;subst z3;kernel_rfl) (by kernel_rfl) (by kernel_rfl) (by kernel_rfl) (by kernel_rfl)
theorem ET (P:Params):bK (Mine.hk P) 196 (an 196) (aO 196) (bj 196):=ci (by kernel_rfl) (by kernel_rfl) (by kernel_rfl) (fun vals hl=>by refine pE (A5 hl (by kernel_rfl)) fun a b c z4=>?_;subst z4;kernel_rfl) (by kernel_rfl) (by kernel_rfl) (by kernel_rfl) (by kernel_rfl)
theorem ES (P:Params):bK (Mine.hk P) 203 (an 203) (aO 203) (bj 203):=ci (by kernel_rfl) (by kernel_rfl) (by kernel_rfl) (fun vals hl=>by refine xe (l4 hl (by kernel_rfl)) fun a z5=>?_;subst z5;kernel_rfl) (by kernel_rfl) (by kernel_rfl) (by kernel_rfl) (by kernel_rfl)
theorem ER (P:Params):bK (Mine.hk P) 210 (an 210) (aO 210) (bj 210):=ci (by kernel_rfl) (by kernel_rfl) (by kernel_rfl) (fun vals hl=>by refine xe (l4 hl (by kernel_rfl)) fun a z6=>?_;subst z6;kernel_rfl) (by kernel_rfl) (by kernel_rfl) (by kernel_rfl) (by kernel_rfl)
theorem wW (P:Params):bK (Mine.hk P) 215 (an 215) (aO 215) (bj 215):=ci (by kernel_rfl) (by kernel_rfl) (by kernel_rfl) (fun vals hl=>by refine aV (iY hl (by kernel_rfl)) fun a b z7=>?_;subst z7;kernel_rfl) (by kernel_rfl) (by kernel_rfl) (by kernel_rfl) (by kernel_rfl)
theorem EQ (P:Params):bK (Mine.hk P) 222 (an 222) (aO 222) (bj 222):=ci (by kernel_rfl) (by kernel_rfl) (by kernel_rfl) (fun vals hl=>by refine aV (iY hl (by kernel_rfl)) fun a b z8=>?_;subst z8;kernel_rfl) (by kernel_rfl) (by kernel_rfl) (by kernel_rfl) (by kernel_rfl)
theorem EP (P:Params):bK (Mine.hk P) 229 (an 229) (aO 229) (bj 229):=ci (by kernel_rfl) (by kernel_rfl) (by kernel_rfl) (fun vals hl=>by refine aV (iY hl (by kernel_rfl)) fun a b z9=>?_;subst z9;kernel_rfl) (by kernel_rfl) (by kernel_rfl) (by kernel_rfl) (by kernel_rfl)
theorem EN (P:Params):bK (Mine.hk P) 234 (an 234) (aO 234) (bj 234):=ci (by kernel_rfl) (by kernel_rfl) (by kernel_rfl) (fun vals hl=>by refine aV (iY hl (by kernel_rfl)) fun a b z10=>?_;subst z10;kernel_rfl) (by kernel_rfl) (by kernel_rfl) (by kernel_rfl) (by kernel_rfl)
theorem wV (P:Params):bK (Mine.hk P) 244 (an 244) (aO 244) (bj 244):=ci (by kernel_rfl) (by kernel_rfl) (by kernel_rfl) (fun vals hl=>by refine xe (l4 hl (by kernel_rfl)) fun a z11=>?_;subst z11;kernel_rfl) (by kernel_rfl) (by kernel_rfl) (by kernel_rfl) (by kernel_rfl)
theorem Cb (P:Params):bK (Mine.hk P) 254 (an 254) (aO 254) (bj 254):=ci (by kernel_rfl) (by kernel_rfl) (by kernel_rfl) (fun vals hl=>by refine xe (l4 hl (by kernel_rfl)) fun a z12=>?_;subst z12;kernel_rfl) (by kernel_rfl) (by kernel_rfl) (by kernel_rfl) (by kernel_rfl)
theorem EJ (P:Params):bK (Mine.hk P) 259 (an 259) (aO 259) (bj 259):=ci (by kernel_rfl) (by kernel_rfl) (by kernel_rfl) (fun vals hl=>by refine aV (iY hl (by kernel_rfl)) fun a b z13=>?_;subst z13;kernel_rfl) (by kernel_rfl) (by kernel_rfl) (by kernel_rfl) (by kernel_rfl)
theorem mO:∀{l:List (Str×FE)}{x:Str}{e:FE},jb l x=some e→(x,e)∈l
 | [],_,_,h=>by exact(aa h).elim
 |p::r,x,e,h=>by
  unfold jb at h;cases q:ar x p.1 with
  |true=>
   rw [q]at h;obtain rfl:=Option.some.inj h;rw [(ao _ _).mp q];exact List.mem_cons_self
  |false=>rw [q]at h;exact List.mem_cons_of_mem _ (mO h)
theorem wU (P:Params):∀p∈FT,bK (Mine.hk P) p.2.a (an p.2.a) (aO p.2.a) (bj p.2.a):=by
 intro p hp;simp only [FT,List.mem_cons,List.not_mem_nil,or_false]at hp;rcases hp with rfl |rfl |rfl |rfl |rfl |rfl |rfl |rfl |rfl |rfl |rfl |rfl
 ·exact Fy P
 ·exact EU P
 ·exact ET P
 ·exact ES P
 ·exact ER P
 ·exact wW P
 ·exact EQ P
 ·exact EP P
 ·exact EN P
 ·exact wV P
 ·exact Cb P
 ·exact EJ P
structure MgOK (mg:Str→Option Value):Prop where
 fns:∀p∈FT,mg p.1=some (.ref p.2.a)
 esc:mg "escape" =some (.ref 55)
noncomputable def fu (prog:Program)(w:World)(mg mb:Str→Option Value):Prop:= ∀k c,(Nat.beq c 97||Nat.beq c 98)=true→(∀s:Shared,Cx (Mine.hk w.params) mg mb s→∃o fd,s.heap.get? 55=some o∧o.data=.func fd)∧
 gM prog w (Mine.hk w.params) mg mb (k+1) 55 [.str [c]] (.str [c])
theorem kW {prog:Program}{w:World}{mg mb:Str→Option Value}(hm:MgOK mg)(he:fu prog w mg mb)(hgc:fq w mg mb bw) (N:Nat):∀k,fi prog w (Mine.hk w.params) mg mb k (bV N k)
 |0=>fun f args d h=>(nomatch (show none=some _ from h))
 |k+1=>fun f args d h=>by
  rcases AC h with⟨e,hf,hl,hr⟩ |⟨c,hs,hc,rfl,rfl⟩
  ·have hmem:=mO hf;have F:=wU w.params _ hmem;exact⟨e.a,hm.fns _ hmem,fun s hx=>aX (F.ex s.heap hx.kin) fun o fd h1 h2 Z=>⟨o,fd,h1,h2⟩,l9 F (gQ (bV N k) bw (kW hm he hgc N k) hgc N (fun h=>absurd h (by decide+kernel))) (Nat.eq_of_beq_eq_true hl) hr⟩
  ·have e:=(ao _ _).mp hs;rw [e];exact xa (he k c hc) fun h1 h2=>⟨55,hm.esc,h1,h2⟩
noncomputable def jc (P:Params):Array DictEntry:=match (Mine.hk P).lookup 45 with |some ⟨_,_,.dict es _,_⟩=>es |_=> #[]
noncomputable def Ed (P:Params):Nat:=match (Mine.hk P).lookup 45 with |some ⟨_,_,.dict _ n,_⟩=>n |_=>0
theorem EG (P:Params):(Mine.hk P).lookup 45=some ⟨.type "dict",none,.dict (jc P) (Ed P), #[]⟩:=by kernel_rfl
noncomputable def t7 (e:DictEntry):Bool:=match e.key with | .int i _=>decide (e.hash=hashInt i) |_=>false
theorem A9 (P:Params):(jc P).toList.all t7=true:=by kernel_rfl
theorem Es (P:Params):findBy Value.isInt (jc P) 97=none:=by kernel_rfl
theorem Er (P:Params):findBy Value.isInt (jc P) 98=none:=by kernel_rfl
theorem CX {prog:Program}{w:World}{h:Heap}(hK:(Mine.hk w.params).In h):h.MapOf (intKind prog w) 45 (fun k=>findBy Value.isInt (jc w.params) k):=by
 refine⟨_,jc w.params,Ed w.params,hK _ _ (EG w.params),⟨rfl,rfl,rfl⟩,rfl,fun e he=>?_,fun k=>rfl⟩
 have:=List.all_eq_true.mp (A9 w.params) e (by simpa using he)
 unfold t7 at this;cases hk:e.key with
 |int i t=>
  rw [hk]at this;exact⟨i,by show Value.isInt i (.int i t)=true;simp [Value.isInt],of_decide_eq_true this⟩
 |_=>rw [hk]at this;exact(aj this).elim
section
variable {prog:Program}{w:World}{A:Around}{E:Value→Shared→Prop}{s:Shared}
theorem zZ:isSubtype (.type "KeyError") (.type "LookupError")=pure true:=by rw [isSubtype_type];kernel_rfl
theorem qV {c:Nat}{Q:Builtin.Str.Mapped→Shared→Prop}(hh:A.handled=none)(hK:(Mine.hk w.params).In s.heap)(hc:findBy Value.isInt (jc w.params) (c:Int)=none)
  (h:∀h' tk,(∀b o,s.heap.get? b=some o→h'.get? b=some o)→Q .keep {s with heap:=h',toks:=tk}):wpAny (model prog w) A (Builtin.Str.tableLookup (.ref 45) c) Q E s:=by
 unfold Builtin.Str.tableLookup;refine wpAny_bind (wpAny_attempt (wpAny_bind (wpAny_mkInt (wpAny_getItem_missing_of (knd:=intKind prog w) (k:=(c:Int)) (show Value.isInt (c:Int) (.int (c:Int) s.toks)=true by simp [Value.isInt]) (by decide) hh (CX hK) hc fun h' e x=>?_))))
 refine aX x.there fun ob t he hcl hd=>?_;refine wpAny_bind (wpAny_isInstance (T:= "KeyError") (b:=true) ⟨ob,he,hcl⟩ zZ ?_);simp only [if_true];exact wpAny_bind (wpAny_rule (wpAny_pure (h h' _ x.keeps)))
theorem zw {β:Type}{M:Model}{A:Around}{Q:β→Shared→Prop}{E:Value→Shared→Prop}{s:Shared}{c:Nat}{b:β}{f:Nat→β→Sem (ForInStep β)}(h:wpAny M A (f c b) (fun r s'=>Q (match r with | .done b=>b | .yield b=>b) s') E s):wpAny M A (forIn (mk [c]).cps b f) Q E s:=by
 have e:forIn (m:=Sem) (mk [c]).cps b f=f c b>>=fun r=>match r with | .done b=>pure b | .yield b=>pure b:=by
  rw [←Array.forIn_toList];show forIn [c] b f=_
  simp only [List.forIn_cons,List.forIn_nil];rfl
 rw [e];exact wpAny_bind (wpAny_mono h (fun r s' z=>by cases r<;>exact wpAny_pure z) fun Z Z z=>z)
theorem pj {c:Nat}{t:Tok}{Q:PySem.Fin→Shared→Prop}(hh:A.handled=none)(hK:(Mine.hk w.params).In s.heap)(hc:findBy Value.isInt (jc w.params) (c:Int)=none)(hlt:c<128)
  (h:∀h' tk t',(∀b o,s.heap.get? b=some o→h'.get? b=some o)→Q (.done (.ret (.str (mk [c]) t'))) {s with heap:=h',toks:=tk}):wpAny (model prog w) A (Builtin.«str.translate» ⟨[.str (mk [c]) t,.ref 45],[]⟩) Q E s:=by
 have e1:(mk [c]).cps.all (fun x=>decide (x<128))=true:=by simpa using hlt
 refine wpAny_bind (wpAny_of_eq (a:=(Value.str (mk [c]) t,mk [c],Value.ref 45)) (by first |rfl |kernel_rfl) ?_)
 refine w5 (fun h=>aj h) ?_
 have e2:Builtin.Str.tooLong 0=false:=by decide+kernel
 have e3:Builtin.Str.tooLong (0+1)=false:=by decide+kernel
 refine wpAny_bind (zw ?_);refine w5 (fun h=>aj (e2.symm.trans h)) ?_
 refine w4 e1 ?_;refine wpAny_bind ((qV hh hK hc fun h' tk hk=>?_))
 refine wpAny_pure ?_;refine w5 (fun h=>aj (e3.symm.trans h)) ?_
 show wpAny _ _ (mkStr _>>=_) _ _ _
 refine wpAny_bind (wpAny_mkStr (wpAny_pure ?_) (by rw [sizeLine_eq];simp [Str.length]))
 have e4:(⟨List.foldl (fun acc (p:Str)=>acc++p.cps) #[] [⟨#[c]⟩].reverse⟩:Str)=mk [c]:=by simp
 rw [e4];exact h h' _ _ hk
end
theorem Fz (P:Params):bK (Mine.hk P) 55 (an 55) (aO 55) (bj 55):=ci (by kernel_rfl) (by kernel_rfl) (by kernel_rfl) (fun vals hl=>by refine xe (l4 hl (by kernel_rfl)) fun a z1=>?_;subst z1;kernel_rfl) (by kernel_rfl) (by kernel_rfl) (by kernel_rfl) (by kernel_rfl)
theorem Bl {prog:Program}{w:World}{mg mb:Str→Option Value}(hsp:mg "_special_chars_map" =some (.ref 45)):fu prog w mg mb:=by
 intro k c hc;have F5:=Fz w.params;refine⟨fun s hx=>?_,fun A s G vs E rm hx I r=>?_⟩
 ·refine aX (F5.ex s.heap hx.kin) fun o fd h1 h2 Z=>?_;exact⟨o,fd,h1,h2⟩
 have hcc:c=97∨c=98:=by
  rcases Bool.or_eq_true_iff.mp hc with h |h
  ·exact .inl (Nat.eq_of_beq_eq_true h)
  ·exact .inr (Nat.eq_of_beq_eq_true h)
 have hno:findBy Value.isInt (jc w.params) (c:Int)=none:=by
  rcases hcc with rfl |rfl
  ·exact Es w.params
  ·exact Er w.params
 have hlt:c<128:=by lia
 refine oF aI F5 rfl rm hx I r fun env own s' E' rm' C hs S=>?_;have hx':=S.cx hx;refine aR S.ex fun ρ S0 wk Z=>?_;have S1:=(S0.weak wk).env;refine cn (S1.vars "pattern" (.str [c]) (by kernel_rfl)) fun Z v hv rd=>?_
 cases rd with |str _ t=>
 refine wpAny_execs_cons (wpAny_If ?_);refine wpAny_isTrue_value ?_ rfl;refine wpAny_Call_Name_kw (cE hx' hs (by kernel_rfl) (hx'.blt ("isinstance",.builtin "isinstance") (List.mem_of_getElem? (i:=8) rfl)) ?_)
 refine Calls.callWith_builtin rfl (Calls.evalArgs_plain (Calls.spliced_cons (dR S1.kind hv rfl (Calls.spliced_cons (cE hx' hs (by kernel_rfl) (hx'.blt ("str",.type "str") (List.mem_of_getElem? (i:=9) rfl)) (Calls.spliced_nil ?_))))))
 refine call_isinstance_yes (typeIs_str _ _ _) (by first |rfl |kernel_rfl) (by first |(rw [isSubtype_type];kernel_rfl) |rfl) (wpAny_truthy_bool ?_)
 simp only [if_true];refine wpAny_execs_cons (wpAny_Return_some ?_);refine wpAny_Call_method_lateS rfl rfl rfl (dR S1.kind hv rfl ?_);refine⟨"str", "str.translate",F.plainAttrs_str,F.slot_str_translate,F.type_str_translate,typeIs_str _ _ _,nofun,?_⟩;refine aK (Calls.callWith_builtin rfl (Calls.evalArgs_plain (Calls.spliced_cons (di hx' hs (by kernel_rfl) hsp (Calls.spliced_nil ?_)))))
 refine wpAny_call_entry F.slot_str_translate (typeIs_str _ _ _) F.entry_str_translate (pj rm'.hh hx'.kin hno hlt fun h' tk t' hk=>⟨_,rfl,fun hz=>⟨_,rfl,?_⟩⟩) (F.args_str_translate_2 _ _)
 have g0:ae s G s' G:=by
  refine aA S0.ex fun Z Z F0 Z=>?_;exact⟨S.base.same,S.base.size,S.base.tk,F0.keep,S.base.le,S0.inn,S.base.fresh⟩
 exact aQ.trans g0 (aQ.of_kept S0.inn hk hz (.str [c] t'))
noncomputable def ay:List (List Nat):=[[97],[65],[98],[97,97],[65,97],[98,97],[97,65],[65,65],[98,65],[97,98],[65,98],[98,98]]
noncomputable def fD:List (List Nat):=[[97,97],[98,97],[63,97],[42,97],[97,98],[98,98],[63,98],[42,98],[97,63],[98,63],[63,63],[42,63],[97,42],[98,42],[63,42],[42,42]]
noncomputable abbrev NF:Nat:=60
noncomputable def gI (o:Option D):Option Int:=match o with |some d=>(match d with | .int i=>some i |_=>none) |none=>none
noncomputable def gB (o:Option D):Option Bool:=match o with |some d=>(match d with | .bool i=>some i |_=>none) |none=>none
noncomputable def gL (o:Option D):Option (List D):=match o with |some d=>(match d with | .list i=>some i |_=>none) |none=>none
theorem qp {o:Option D}{i:Int}(h:gI o=some i):o=some (.int i):=by
 cases o with
 |none=>exact(aa h).elim
 |some d=>cases d with
  |int j=>exact congrArg (fun j=>some (D.int j)) (Option.some.inj h)
  |_=>exact(aa h).elim
theorem jX {o:Option D}{i:Bool}(h:gB o=some i):o=some (.bool i):=by
 cases o with
 |none=>exact(aa h).elim
 |some d=>cases d with
  |bool j=>exact congrArg (fun j=>some (D.bool j)) (Option.some.inj h)
  |_=>exact(aa h).elim
theorem yJ {o:Option D}{i:List D}(h:gL o=some i):o=some (.list i):=by
 cases o with
 |none=>exact(aa h).elim
 |some d=>cases d with
  |list j=>exact congrArg (fun j=>some (D.list j)) (Option.some.inj h)
  |_=>exact(aa h).elim
noncomputable def xd (a b:List Nat):Option Int:=gI (bV NF 1 "_law_price" [.str a,.str b])
noncomputable def Fi (a b:List Nat) (c:Int):Option Int:=gI (bV NF 2 "_levenshtein_distance" [.str a,.str b,.int c])
noncomputable def Ec (a b:Option Int):Bool:=match a with |some i=>(match b with |some j=>i==j |none=>false) |none=>false
theorem vB {a b:Option Int}(h:Ec a b=true):∃i,a=some i∧b=some i:=by
 cases a with
 |none=>exact(aj h).elim
 |some i=>cases b with
  |none=>exact(aj h).elim
  |some j=>exact⟨j,congrArg some (beq_iff_eq.mp h),rfl⟩
noncomputable def fF (a:List Nat):Bool:=ay.all fun b=>Ec (Fi a b 9) (xd a b)
noncomputable def D7 (o:Option Bool):Bool:=match o with |some b=>b |none=>false
theorem u0 {o:Option Bool}(h:D7 o=true):o=some true:=by
 cases o with
 |none=>exact(aj h).elim
 |some b=>exact congrArg some h
noncomputable def ee (a:List Nat):Bool:=ay.all fun b=>aF a b||D7 (gB (bV NF 3 "_law_told" [.str a,.str b]))
noncomputable def pd:List Nat:=[97,110,121]
noncomputable def D8 (p:List Nat):Option (List D):=gL (bV NF 2 "_translate" [.str p,.none,.str pd])
noncomputable def Ct:Bool:=([] ::fD).all fun p=>(D8 p).isSome
noncomputable def cv (p:List Nat):List D:=(D8 p).getD []
noncomputable def Fd (p o:List Nat):Option Bool:=gB (bV NF 8 "_law_takes" [.list (cv p),.str o])
noncomputable def jk (p o:List Nat):Option Bool:=gB (bV NF 1 "_law_fits" [.str p,.str o])
noncomputable def Ei (a b:Option Bool):Bool:=match a with |some i=>(match b with |some j=>i==j |none=>false) |none=>false
theorem wA {a b:Option Bool}(h:Ei a b=true):∃i,a=some i∧b=some i:=by
 cases a with
 |none=>exact(aj h).elim
 |some i=>cases b with
  |none=>exact(aj h).elim
  |some j=>exact⟨j,congrArg some (beq_iff_eq.mp h),rfl⟩
noncomputable def fz (o:List Nat):Bool:=fD.all fun p=>Ei (Fd p o) (jk p o)
theorem u2:Ct=true:=by decide+kernel
theorem CH:fz [97]=true:=by decide+kernel
theorem CG:fz [65]=true:=by decide+kernel
theorem CF:fz [98]=true:=by decide+kernel
theorem CE:fz [97,97]=true:=by decide+kernel
theorem CD:fz [65,97]=true:=by decide+kernel
theorem CB:fz [98,97]=true:=by decide+kernel
theorem CA:fz [97,65]=true:=by decide+kernel
theorem Cz:fz [65,65]=true:=by decide+kernel
theorem Cw:fz [98,65]=true:=by decide+kernel
theorem Cv:fz [97,98]=true:=by decide+kernel
theorem zV:fz [65,98]=true:=by decide+kernel
theorem zU:fz [98,98]=true:=by decide+kernel
theorem Dh:fF [97]=true:=by decide+kernel
theorem Dg:fF [65]=true:=by decide+kernel
theorem Df:fF [98]=true:=by decide+kernel
theorem De:fF [97,97]=true:=by decide+kernel
theorem Dd:fF [65,97]=true:=by decide+kernel
theorem Dc:fF [98,97]=true:=by decide+kernel
theorem Db:fF [97,65]=true:=by decide+kernel
theorem Da:fF [65,65]=true:=by decide+kernel
theorem C0:fF [98,65]=true:=by decide+kernel
theorem CZ:fF [97,98]=true:=by decide+kernel
theorem A4:fF [65,98]=true:=by decide+kernel
theorem A3:fF [98,98]=true:=by decide+kernel
theorem zS:ee [97]=true:=by decide+kernel
theorem zR:ee [65]=true:=by decide+kernel
theorem zQ:ee [98]=true:=by decide+kernel
theorem zP:ee [97,97]=true:=by decide+kernel
theorem zO:ee [65,97]=true:=by decide+kernel
theorem zN:ee [98,97]=true:=by decide+kernel
theorem zM:ee [97,65]=true:=by decide+kernel
theorem zL:ee [65,65]=true:=by decide+kernel
theorem zK:ee [98,65]=true:=by decide+kernel
theorem zJ:ee [97,98]=true:=by decide+kernel
theorem xE:ee [65,98]=true:=by decide+kernel
theorem xD:ee [98,98]=true:=by decide+kernel
theorem sC {p:List Nat→Bool}(h0:p [97]=true)(h1:p [65]=true)(h2:p [98]=true)(h3:p [97,97]=true)(h4:p [65,97]=true)(h5:p [98,97]=true)(h6:p [97,65]=true)(h7:p [65,65]=true)(h8:p [98,65]=true)(h9:p [97,98]=true)(h10:p [65,98]=true)(h11:p [98,98]=true){a:List Nat}(ha:a∈ay):p a=true:=by
 have h:ay.all p=true:=by
  show(p [97] &&(p [65] &&(p [98] &&(p [97,97] &&(p [65,97] &&(p [98,97] &&(p [97,65] &&(p [65,65] &&(p [98,65] &&(p [97,98] &&(p [65,98] &&(p [98,98] &&true))))))))))))=true
  rw [h0,h1,h2,h3,h4,h5,h6,h7,h8,h9,h10,h11];rfl
 exact List.all_eq_true.mp h a ha
theorem zT {a:List Nat}(ha:a∈ay):fz a=true:=sC CH CG CF CE CD CB CA Cz Cw Cv zV zU ha
theorem A2 {a:List Nat}(ha:a∈ay):fF a=true:=sC Dh Dg Df De Dd Dc Db Da C0 CZ A4 A3 ha
theorem xC {a:List Nat}(ha:a∈ay):ee a=true:=sC zS zR zQ zP zO zN zM zL zK zJ xE xD ha
theorem mJ {a b:List Nat}(ha:a∈ay)(hb:b∈ay):∃i,bV NF 2 "_levenshtein_distance" [.str a,.str b,.int 9]=some (.int i)∧bV NF 1 "_law_price" [.str a,.str b]=some (.int i):=by
 have h:=List.all_eq_true.mp (A2 ha) b hb;refine ah (vB h) fun i h1 h2=>?_;exact⟨i,qp h1,qp h2⟩
theorem sR {a b:List Nat}(ha:a∈ay)(hb:b∈ay)(ne:a≠b):bV NF 3 "_law_told" [.str a,.str b]=some (.bool true):=by
 have h:=List.all_eq_true.mp (xC ha) b hb;rcases Bool.or_eq_true_iff.mp h with h |h
 ·exact absurd ((bf _ _).mp h) ne
 ·exact jX (u0 h)
theorem u1 {p:List Nat}(hp:p∈ [] ::fD):bV NF 2 "_translate" [.str p,.none,.str pd]=some (.list (cv p)):=by
 have h:=List.all_eq_true.mp u2 p hp;obtain⟨l,hl⟩:=Option.isSome_iff_exists.mp h;have:cv p=l:=by unfold cv;rw [hl];rfl
 rw [this];exact yJ hl
theorem qT {p o:List Nat}(hp:p∈fD)(ho:o∈ay):∃b,bV NF 8 "_law_takes" [.list (cv p),.str o]=some (.bool b)∧bV NF 1 "_law_fits" [.str p,.str o]=some (.bool b):=by
 have h:=List.all_eq_true.mp (zT ho) p hp;refine ah (wA h) fun b h1 h2=>?_;exact⟨b,jX h1,jX h2⟩
noncomputable def lR:List Stmt→PySem.Expr
 | [.Return (some e) _]=>e
 |_=>.Constant .none 0 ⟨0,0,0,0⟩
noncomputable def Ax:List Stmt→Pos
 | [.Return (some _) p]=>p
 |_=>⟨0,0,0,0⟩
theorem lQ {R:bm}{sc:aq}{cf:bE}{n:Nat}{st:bz}{e:PySem.Expr}{p:Pos}:cC R sc cf (n+1) st [.Return (some e) p]=(R.ev sc (bt cf st) e).map .ret:=by
 show(match (R.ev sc (bt cf st) e).map ce.ret with |none=>none |some (.next st')=>cC R sc cf n st' [] |some (.ret d)=>some (.ret d))=_
 cases R.ev sc (bt cf st) e<;>rfl
theorem nW {N k:Nat}{f:Str}{e:FE}{args:List D}{d:D}(hf:jb FT f=some e)(hl:Nat.beq args.length (aO e.a).length=true)
  (h:cC (av (bV N k) bw N) (an e.a).names e.cf N ⟨aW aT (aO e.a) args,none,false⟩ (bj e.a)=some (.ret d)):bV N (k+1) f args=some d:=by
 unfold bV;rw [hf];dsimp only;rw [hl];dsimp only;rw [h];rfl
noncomputable def jA (r q:Int):Option D:=match gk (.str [97,65,98]) (.int r)with
 |none=>none
 |some a=>match (match bg .Lt (.int q) (.int 3)with |none=>none |some true=>gk (.str [97,65,98]) (.int q) |some false=>some (.str []))with
  |none=>none
  |some b=>dq .Add a b
theorem yo (k:Nat) (x:Int):(av (bV 60 k) bw 60).ev (an 203).names (aW aT (aO 203) [.int x]) (lR (bj 203))=jA (x.fmod 3) ((x.fdiv 3).fmod 4):=by kernel_rfl
theorem Bz:bj 203=[.Return (some (lR (bj 203))) (Ax (bj 203))]:=by kernel_rfl
theorem By:bj 210=[.Return (some (lR (bj 210))) (Ax (bj 210))]:=by kernel_rfl
noncomputable def eK (a b c:Int):Option D:=match bg .Gt (.int c) (.int 0)with
 |none=>none
 |some true=>(match gk (.str [97,98,63,42]) (.int a)with
  |none=>none
  |some u=>match gk (.str [97,98,63,42]) (.int b)with
   |none=>none
   |some v=>dq .Add u v)
 |some false=>some (.str [])
theorem AG (k:Nat) (x:Int):(av (bV 60 k) bw 60).ev (an 210).names (aW aT (aO 210) [.int x]) (lR (bj 210))=eK ((x.fdiv 12).fmod 4) ((x.fdiv 48).fmod 4) ((x.fdiv 12).fmod 16):=by kernel_rfl
noncomputable def gj:List (List Nat):=[[97],[65],[98],[97,97],[65,97],[98,97],[97,65],[65,65],[98,65],[97,98],[65,98],[98,98]]
noncomputable def ro:List (List Nat):=[[97,97],[98,97],[63,97],[42,97],[97,98],[98,98],[63,98],[42,98],[97,63],[98,63],[63,63],[42,63],[97,42],[98,42],[63,42],[42,42]]
theorem dE (x:Int) (n:Int)(h:0<n):0≤x.fmod n∧x.fmod n<n:=⟨Int.fmod_nonneg_of_pos x h,Int.fmod_lt_of_pos x h⟩
noncomputable def gS:Option D→List Nat
 |some (.str s)=>s
 |_=>[]
theorem qF {l:List (List Nat)}{x:List Nat}(h:l.any (aF x)=true):x∈l:=by
 refine ah (List.any_eq_true.mp h) fun y hy e=>?_;rw [(bf _ _).mp e];exact hy
theorem Fj {P:Int→Prop}(p0:P 0)(p1:P 1)(p2:P 2){a:Int}(h:0≤a∧a<3):P a:=by
 have:a=0∨a=1∨a=2:=by lia
 rcases this with rfl |rfl |rfl<;>assumption
theorem lj {P:Int→Prop}(p0:P 0)(p1:P 1)(p2:P 2)(p3:P 3){a:Int}(h:0≤a∧a<4):P a:=by
 have:a=0∨a=1∨a=2∨a=3:=by lia
 rcases this with rfl |rfl |rfl |rfl<;>assumption
noncomputable def NP (r q:Int):Prop:=gj.any (aF (gS (jA r q)))=true∧jA r q=some (.str (gS (jA r q)))
theorem mH (r q:Int)(h1:0≤r∧r<3)(h2:0≤q∧q<4):NP r q:=by
 refine Fj (P:=fun r=>NP r q) ?_ ?_ ?_ h1<;>refine lj (P:=NP _) ?_ ?_ ?_ ?_ h2<;>exact⟨by decide+kernel,by kernel_rfl⟩
noncomputable def PP (a b:Int):Prop:=([] ::ro).any (aF (gS (eK a b 1)))=true∧eK a b 1=some (.str (gS (eK a b 1)))
theorem nX (a b c:Int)(h1:0≤a∧a<4)(h2:0≤b∧b<4)(h3:0≤c):([] ::ro).any (aF (gS (eK a b c)))=true∧eK a b c=some (.str (gS (eK a b c))):=by
 have key:eK a b c=if 0<c then eK a b 1 else some (.str []):=by
  by_cases hc:0<c
  ·rw [if_pos hc];have q:bg .Gt (.int c) (.int 0)=some true:=congrArg some (decide_eq_true hc);unfold eK;rw [q];rfl
  ·rw [if_neg hc];have q:bg .Gt (.int c) (.int 0)=some false:=congrArg some (decide_eq_false hc);unfold eK;rw [q]
 by_cases hc:0<c
 ·rw [key,if_pos hc];refine lj (P:=fun a=>PP a b) ?_ ?_ ?_ ?_ h1<;>refine lj (P:=PP _) ?_ ?_ ?_ ?_ h2<;>exact⟨by decide+kernel,by kernel_rfl⟩
 ·rw [key,if_neg hc];exact⟨by decide+kernel,rfl⟩
noncomputable def da (x:Int):List Nat:=gS (jA (x.fmod 3) ((x.fdiv 3).fmod 4))
noncomputable def lV (x:Int):List Nat:=gS (eK ((x.fdiv 12).fmod 4) ((x.fdiv 48).fmod 4) ((x.fdiv 12).fmod 16))
theorem jB (x:Int):da x∈gj:=qF (mH _ _ (dE x 3 (by decide)) (dE _ 4 (by decide))).1
theorem vt (x:Int):lV x∈ [] ::ro:=qF (nX _ _ _ (dE _ 4 (by decide)) (dE _ 4 (by decide)) (dE _ 16 (by decide)).1).1
theorem vJ (k:Nat) (x:Int):bV 60 (k+1) "_law_name" [.int x]=some (.str (da x)):=by
 refine nW (e:=⟨203,aI⟩) (by kernel_rfl) (by kernel_rfl) ?_
 rw [Bz,lQ];show((av (bV 60 k) bw 60).ev (an 203).names (aW aT (aO 203) [.int x]) (lR (bj 203))).map ce.ret=_
 rw [yo,(mH _ _ (dE x 3 (by decide)) (dE _ 4 (by decide))).2]
 rfl
theorem yd (k:Nat) (x:Int):bV 60 (k+1) "_law_pattern" [.int x]=some (.str (lV x)):=by
 refine nW (e:=⟨210,aI⟩) (by kernel_rfl) (by kernel_rfl) ?_
 rw [By,lQ];show((av (bV 60 k) bw 60).ev (an 210).names (aW aT (aO 210) [.int x]) (lR (bj 210))).map ce.ret=_
 rw [AG,(nX _ _ _ (dE _ 4 (by decide)) (dE _ 4 (by decide)) (dE _ 16 (by decide)).1).2]
 rfl
noncomputable def bh (l:List Stmt) (i:Nat):Stmt:=l.getD i (.Pass ⟨0,0,0,0⟩)
noncomputable def e0:PySem.Expr:=.Constant .none 0 ⟨0,0,0,0⟩
noncomputable def dU:Stmt→PySem.Expr
 | .Assign _ v _=>v
 | .Return (some v) _=>v
 | .For _ it _ _ _=>it
 | .While t _ _ _=>t
 | .If t _ _ _=>t
 |_=>e0
noncomputable def uF:Stmt→PySem.Expr
 | .Assign [t] _ _=>t
 | .For t _ _ _ _=>t
 |_=>e0
noncomputable def j6:Stmt→List Stmt
 | .For _ _ b _ _=>b
 | .While _ b _ _=>b
 | .If _ b _ _=>b
 |_=>[]
noncomputable def Fe:Stmt→Pos
 | .Assign _ _ p=>p
 | .Return _ p=>p
 | .For _ _ _ _ p=>p
 | .While _ _ _ p=>p
 | .If _ _ _ p=>p
 |_=>⟨0,0,0,0⟩
noncomputable def dh (l:List PySem.Expr) (i:Nat):PySem.Expr:=l.getD i e0
noncomputable def Ev:PySem.Expr→List PySem.Expr
 | .BinOp l _ r _=>[l,r]
 | .BoolOp _ vs _=>vs
 | .IfExp t b o _=>[t,b,o]
 | .Compare l _ r _=>l::r
 | .Call f a _ _=>f::a
 | .List es _=>es
 | .Tuple es _ _=>es
 | .Subscript v s _=>[v,s]
 | .ListComp e _ _ _=>[e]
 | .DictComp k v _ _ _=>[k,v]
 | .UnaryOp _ x _=>[x]
 |_=>[]
noncomputable def a8 (e:PySem.Expr) (i:Nat):PySem.Expr:=dh (Ev e) i
noncomputable def Dm:PySem.Expr→List Comprehension
 | .ListComp _ g _ _=>g
 | .DictComp _ _ g _ _=>g
 |_=>[]
noncomputable def af:PySem.Expr→Scope
 | .ListComp _ _ s _=>s
 | .DictComp _ _ _ s _=>s
 |_=>⟨.function,[],false,false,[]⟩
noncomputable def ak (e:PySem.Expr):Comprehension:=(Dm e).getD 0 ⟨e0,e0,[],0⟩
theorem o7 (ρ:Ro)(y:Str)(a b:D):ad (ad ρ y a) y b=ad ρ y b:=by
 funext z;unfold ad;cases ar z y<;>rfl
theorem bX {sc:aq}{t:PySem.Expr}{ts:Ro→Option Bool}{f:Ro→Option (List D)}{ρ:Ro}{α:Type}(dec:α→D)(p:α→Bool)(g:α→D):∀(l:List α),
  (∀a∈l,∃ρ',aG sc ρ t (dec a)=some ρ'∧ts ρ'=some (p a)∧(p a=true→f ρ'=some [g a]))→bA sc t ts f ρ (l.map dec)=some ((l.filter p).map g)
 | [],_=>rfl
 |a::l,h=>by
  refine aR (h a List.mem_cons_self) fun ρ' h1 h2 h3=>?_;have ih:=bX (sc:=sc) (t:=t) (ts:=ts) (f:=f) (ρ:=ρ) dec p g l fun b hb=>h b (List.mem_cons_of_mem _ hb)
  rw [List.map_cons];unfold bA;rw [h1];dsimp only;rw [h2];cases q:p a with
  |true=>
   dsimp only;rw [h3 q];dsimp only;rw [ih,List.filter_cons_of_pos q];rfl
  |false=>
   dsimp only;rw [ih,List.filter_cons_of_neg (by rw [q];decide)]
theorem cQ {Φ:cS}{gc:Str→Option D}{n:Nat}{sc:aq}{ρ:Ro}{elt t it:PySem.Expr}{ifs:List PySem.Expr}{scope:Scope}{pos:Pos}{items ys:List D}(hs:bG sc scope=true)(hi:bx it=false)(hq:bb (av Φ gc n) sc ρ t it=some items)
  (hl:bA scope.names t (fun ρ'=>aM ((av Φ gc n).ts scope.names ρ') ifs) (fun ρ'=>bp ((av Φ gc n).ev scope.names ρ' elt)) (aH scope.names ρ) items=some ys)(hy:ys.length≤100000):
  (av Φ gc (n+1)).ev sc ρ (.ListComp elt [⟨t,it,ifs,0⟩] scope pos)=some (.list ys):=by
 show(db (av Φ gc n) sc ρ [⟨t,it,ifs,0⟩] scope elt).map D.list=_
 show(fQ (av Φ gc n) sc ρ [⟨t,it,ifs,0⟩] scope fun ρ'=>bp ((av Φ gc n).ev scope.names ρ' elt)).map D.list=_
 have:fQ (av Φ gc n) sc ρ [⟨t,it,ifs,0⟩] scope (fun ρ'=>bp ((av Φ gc n).ev scope.names ρ' elt))=some ys:=by
  show(match bG sc scope&& !bx it,bb (av Φ gc n) sc ρ t it with
   |true,some items=>eU (bA scope.names t (fun ρ'=>aM ((av Φ gc n).ts scope.names ρ') ifs) (fun ρ'=>bp ((av Φ gc n).ev scope.names ρ' elt)) (aH scope.names ρ) items)
   |_,_=>none)=_
  rw [hs,hi,hq];show eU (bA _ _ _ _ _ _)=_
  rw [hl];unfold eU;dsimp only;rw [if_pos hy]
 rw [this];rfl
noncomputable def hZ:cS:=fun f args=>match args with
 | [.int x]=>if ar f "_law_name" then some (.str (da x))else if ar f "_law_pattern" then some (.str (lV x))else none
 |_=>none
theorem fi.mono {prog:Program}{w:World}{K:Frag}{mg mb:Str→Option Value}{k:Nat}{Φ Φ':cS}(h:fi prog w K mg mb k Φ)(le:∀f a d,Φ' f a=some d→Φ f a=some d):fi prog w K mg mb k Φ':=fun f a d e=>h f a d (le f a d e)
theorem yc (k:Nat):∀f a d,hZ f a=some d→bV 60 (k+1) f a=some d:=by
 intro f a d h;cases a with
 |nil=>exact(aa h).elim
 |cons a r=>
  cases r with
  |cons=>cases a<;>exact(aa h).elim
  |nil=>
   cases a with
   |int x=>
    by_cases q:ar f "_law_name" =true
    ·rw [←Option.some.inj ((if_pos q).symm.trans h),(ao _ _).mp q];exact vJ k x
    ·have h:=(if_neg q).symm.trans h;by_cases q:ar f "_law_pattern" =true
     ·rw [←Option.some.inj ((if_pos q).symm.trans h),(ao _ _).mp q];exact yd k x
     ·exact(aa ((if_neg q).symm.trans h)).elim
   |_=>exact(aa h).elim
noncomputable def dk (p:List Nat×List Nat):D:=.list [.str p.1,.str p.2]
noncomputable def al (J:List (List Nat×List Nat)):D:=.list (J.map dk)
noncomputable def BM (a:Option Bool)(b:Option Bool):Option Bool:=match a with
 |none=>none
 |some t=>match BoolOp.And,t with
  | .And,false=>some false
  | .Or,true=>some true
  |_,_=>(match b with
   |none=>none
   |some t'=>match BoolOp.And,t' with
    | .And,false=>some false
    | .Or,true=>some true
    |_,_=>some true)
noncomputable def rQ (o:Option D)(JD:D) (v:Int):Option D:=match (match BM (match ig JD with |none=>none |some a=>bg .Lt a (.int 6)) (match o with |none=>none |some b=>bg .NotIn (.str (da v)) b)with
  |none=>none
  |some true=>some (.list [.list [.str (da v),.str (lV v)]])
  |some false=>some (.list []))with
 |none=>none
 |some b=>dq .Add JD b
noncomputable def JB:List Stmt:=j6 (bh (bj 215) 1)
noncomputable def JE:PySem.Expr:=dU (bh JB 0)
noncomputable def JC:PySem.Expr:=a8 (a8 (a8 (a8 JE 1) 0) 1) 1
noncomputable def gw (C:Ro)(JD:D) (v:Int):Ro:=ad (ad (ad C "many" (.int 6)) "jobs" JD) "x" (.int v)
theorem DR (C:Ro)(l:List D) (v:Int):(av hZ bw 60).ev (an 215).names (gw C (.list l) v) JE=rQ ((av hZ bw 56).ev (an 215).names (gw C (.list l) v) JC) (.list l) v:=by kernel_rfl
theorem wT:JC=.ListComp (a8 JC 0) [⟨(ak JC).target,(ak JC).iter,[],0⟩] (af JC) JC.pos:=by kernel_rfl
theorem DS (C:Ro)(J:List (List Nat×List Nat)) (v:Int)(hJ:J.length≤1000):(av hZ bw 56).ev (an 215).names (gw C (al J) v) JC=some (.list (J.map fun p=>.str p.1)):=by
 rw [wT];have hq:bb (av hZ bw 55) (an 215).names (gw C (al J) v) (ak JC).target (ak JC).iter=some (J.map dk):=by
  have e:bb (av hZ bw 55) (an 215).names (gw C (al J) v) (ak JC).target (ak JC).iter=bn (al J):=by kernel_rfl
  rw [e];unfold al bn;dsimp only;rw [if_pos (by rw [List.length_map];lia)]
 have hl:=bX (sc:=(af JC).names) (t:=(ak JC).target) (ts:=fun ρ'=>aM ((av hZ bw 55).ts (af JC).names ρ') []) (f:=fun ρ'=>bp ((av hZ bw 55).ev (af JC).names ρ' (a8 JC 0))) (ρ:=aH (af JC).names (gw C (al J) v))
  dk (fun Z=>true) (fun p=>.str p.1) J (fun a Z=>⟨ad (ad (aH (af JC).names (gw C (al J) v)) "one" (.str a.1)) "two" (.str a.2),by kernel_rfl,by kernel_rfl,fun Z=>by kernel_rfl⟩)
 rw [List.filter_eq_self.mpr fun Z Z=>rfl]at hl
 exact cQ (by kernel_rfl) (by kernel_rfl) hq hl (by rw [List.length_map];lia)
theorem xh:∀n∈gj,cD n=true:=by
 intro n hn;simp only [gj,List.mem_cons,List.not_mem_nil,or_false]at hn;rcases hn with rfl |rfl |rfl |rfl |rfl |rfl |rfl |rfl |rfl |rfl |rfl |rfl<;>rfl
theorem eh {x:List Nat}(h:cD x=true) (n:Nat):ba (n+1) (.str x)=true:=h
theorem qy (x y:List Nat) (n:Nat):cF (n+1) (.str x) (.str y)=aF x y:=rfl
noncomputable def bZ (J:List (List Nat×List Nat)) (v:Int):List (List Nat×List Nat):=if J.length<6∧da v∉J.map (·.1)then J++ [(da v,lV v)]else J
theorem v6 (J:List (List Nat×List Nat)) (v:Int)(hJ:J.length≤6)(hn:∀p∈J,p.1∈gj):rQ (some (.list (J.map fun p=>.str p.1))) (al J) v=some (al (bZ J v)):=by
 have e1:ig (al J)=some (.int J.length):=by
  unfold al ig;dsimp only;rw [if_pos (by rw [List.length_map];omega),List.length_map]
 have e2:bg .Lt (.int (J.length:Int)) (.int 6)=some (decide (J.length<6)):=by
  show some (decide ((J.length:Int)<6))=_
  congr 1
  exact decide_eq_decide.mpr (by omega)
 have e3:bg .NotIn (.str (da v)) (.list (J.map fun p=>.str p.1))=some (decide (da v∉J.map (·.1))):=by
  unfold bg;dsimp only;have a1:ba 9 (.str (da v))=true:=eh (xh _ (jB v)) 8;have a2:bS (ba 9) (J.map fun p=>D.str p.1)=true:=eR fun d hd=>by
   refine ah (List.mem_map.mp hd) fun p hp z1=>?_;subst z1
   exact eh (xh _ (hn p hp)) 8
  rw [a1,a2];simp only [Bool.and_self,if_true,Option.some.injEq];rw [Bool.eq_iff_iff];simp only [Bool.not_eq_true',List.any_eq_false,List.mem_map,forall_exists_index,and_imp,forall_apply_eq_imp_iff₂,decide_eq_true_eq];constructor
  ·rintro h ⟨p,hp,e⟩
   exact h p hp (by rw [qy];exact(bf _ _).mpr e)
  ·intro h p hp q;rw [qy]at q;exact h ⟨p,hp,(bf _ _).mp q⟩
 unfold rQ;rw [e1];dsimp only;rw [e2,e3];unfold bZ BM;have add:∀l,dq .Add (al J) (.list l)=if J.length+l.length≤1000000 then some (.list (J.map dk++l))else none:=fun l=>by
  unfold al dq;dsimp only;rw [List.length_map]
 by_cases c1:J.length<6
 ·by_cases c2:da v∉J.map (·.1)
  ·rw [decide_eq_true c1,decide_eq_true c2,if_pos ⟨c1,c2⟩];dsimp only;rw [add,if_pos (by simp;omega)]
   simp [al,dk]
  ·rw [decide_eq_true c1,decide_eq_false c2,if_neg (fun h=>c2 h.2)]
   dsimp only;rw [add,if_pos (by simp;omega)]
   simp [al]
 ·rw [decide_eq_false c1,if_neg (fun h=>c1 h.1)]
  dsimp only;rw [add,if_pos (by simp;omega)]
  simp [al]
noncomputable abbrev RJ:bm:=av hZ bw 60
noncomputable def JT:PySem.Expr:=uF (bh (bj 215) 1)
noncomputable def Cp (sc:aq)(cf:bE) (n:Nat)(R:bm)(t:PySem.Expr)(st:bz)(o:Option D):Option ce:=match (match o with |some d=>bo sc cf st t d |none=>none).map ce.next with
 |none=>none
 |some (.next st')=>cC R sc cf (n+1) st' []
 |some (.ret d)=>some (.ret d)
theorem zk (C:Ro)(l:List D) (v:Int):cC RJ (an 215).names aI 58 ⟨gw C (.list l) v,none,false⟩ JB=Cp (an 215).names aI 56 RJ (uF (bh JB 0)) ⟨gw C (.list l) v,none,false⟩ (RJ.ev (an 215).names (gw C (.list l) v) JE):=by kernel_rfl
theorem Ca (C:Ro)(J:List (List Nat×List Nat)) (v:Int)(hJ:J.length≤6)(hn:∀p∈J,p.1∈gj):cC RJ (an 215).names aI 58 ⟨gw C (al J) v,none,false⟩ JB=some (.next ⟨ad (gw C (al J) v) "jobs" (al (bZ J v)),none,false⟩):=by
 unfold al;rw [zk,DR];have:=DS C J v (by lia)
 unfold al at this;rw [this];have:=v6 J v hJ hn;unfold al at this;rw [this]
 kernel_rfl
theorem uc {J:List (List Nat×List Nat)}{v:Int}(h:J.length≤6):(bZ J v).length≤6:=by
 unfold bZ;split
 ·simp;lia
 ·exact h
theorem ub {J:List (List Nat×List Nat)}{v:Int}(h:∀p∈J,p.1∈gj):∀p∈bZ J v,p.1∈gj:=by
 unfold bZ;split
 ·intro p hp;rcases List.mem_append.mp hp with hp |hp
  ·exact h p hp
  ·simp only [List.mem_cons,List.not_mem_nil,or_false]at hp;rw [hp];exact jB v
 ·exact h
theorem wz (C:Ro)(l:List D) (v:Int):bo (an 215).names aI ⟨ad (ad C "many" (.int 6)) "jobs" (.list l),none,false⟩ JT (.int v)=some ⟨gw C (.list l) v,none,false⟩:=by kernel_rfl
theorem oE:∀(xs:List Int)(J:List (List Nat×List Nat))(C:Ro),J.length≤6→(∀p∈J,p.1∈gj)→
  ∃C',i6 (an 215).names aI JT (fun st=>cC RJ (an 215).names aI 58 st JB) ⟨ad (ad C "many" (.int 6)) "jobs" (al J),none,false⟩ (xs.map .int)=some (.next ⟨ad (ad C' "many" (.int 6)) "jobs" (al (xs.foldl bZ J)),none,false⟩)
 | [],J,C,_,_=>⟨C,rfl⟩
 |v::xs,J,C,hJ,hn=>by
  obtain⟨C',ih⟩:=oE xs (bZ J v) (ad C "x" (.int v)) (uc hJ) (ub hn);refine⟨C',?_⟩;rw [List.map_cons];unfold i6;have hb:=wz C (J.map dk) v;unfold al;rw [hb];dsimp only;have hr:=Ca C J v hJ hn;unfold al at hr;rw [hr];dsimp only;have e:ad (gw C (.list (J.map dk)) v) "jobs" (.list ((bZ J v).map dk))=ad (ad (ad C "x" (.int v)) "many" (.int 6)) "jobs" (.list ((bZ J v).map dk)):=by
   unfold gw;rw [c0 _ _ _ (show ar "x" "jobs" =false by decide+kernel),o7,←c0 _ _ _ (show ar "x" "jobs" =false by decide+kernel),c0 _ _ _ (show ar "many" "x" =false by decide+kernel)]
  rw [e];unfold al at ih;exact ih
noncomputable def xm (io:Option (List D))(st1:bz):Option ce:=match (match io with
  |none=>none
  |some items=>i6 (an 215).names aI JT (fun st=>cC RJ (an 215).names aI 58 st JB) st1 items)with
 |none=>none
 |some (.next st')=>cC RJ (an 215).names aI 58 st' [bh (bj 215) 2]
 |some (.ret d)=>some (.ret d)
theorem ua (L:List D):cC RJ (an 215).names aI 60 ⟨aW aT (aO 215) [.list L,.int 6],none,false⟩ (bj 215)=xm (bn (.list L)) ⟨ad (ad (ad aT "numbers" (.list L)) "many" (.int 6)) "jobs" (.list []),none,false⟩:=by kernel_rfl
theorem v0 (C:Ro)(l:List D):cC RJ (an 215).names aI 58 ⟨ad C "jobs" (.list l),none,false⟩ [bh (bj 215) 2]=some (.ret (.list l)):=by kernel_rfl
theorem vZ (xs:List Int)(h:xs.length≤1000):cC RJ (an 215).names aI 60 ⟨aW aT (aO 215) [.list (xs.map .int),.int 6],none,false⟩ (bj 215)=some (.ret (al (xs.foldl bZ []))):=by
 rw [ua];have hi:bn (.list (xs.map D.int))=some (xs.map .int):=by
  unfold bn;dsimp only;rw [if_pos (by rw [List.length_map];lia)]
 rw [hi];unfold xm;dsimp only;obtain⟨C',hf⟩:=oE xs [] (ad aT "numbers" (.list (xs.map .int))) (by simp) (fun p hp=>(nomatch hp))
 unfold al at hf;rw [List.map_nil]at hf;rw [hf];dsimp only;rw [v0];rfl
noncomputable abbrev Ft:=List Nat→List Nat→Option Bool
noncomputable def rz (ft:Ft):cS:=fun f args=>match args with
 | [.str p,.str o]=>if ar f "_law_fits" then(ft p o).map .bool else none
 |_=>none
noncomputable def NB:List Stmt:=bj 244
noncomputable def fj:PySem.Expr:=dU (bh NB 0)
noncomputable def ND:PySem.Expr:=dU (bh NB 1)
noncomputable def NV:PySem.Expr:=a8 ND 1
noncomputable abbrev RN (ft:Ft) (n:Nat):bm:=av (rz ft) bw n
theorem wN:NV=.ListComp (a8 NV 0) [⟨(ak NV).target,(ak NV).iter,[dh (ak NV).ifs 0],0⟩] (af NV) NV.pos:=by kernel_rfl
theorem wP:ND=.DictComp (a8 ND 0) NV [⟨(ak ND).target,(ak ND).iter,[],0⟩] (af ND) ND.pos:=by kernel_rfl
theorem gX (J:List (List Nat×List Nat))(h:J.length≤1000):bn (al J)=some (J.map dk):=by
 unfold al bn;dsimp only;rw [if_pos (by rw [List.length_map];lia)]
noncomputable def jP (a rest:Option Bool):Option Bool:=match a with
 |none=>none
 |some t=>match BoolOp.And,t with
  | .And,false=>some false
  | .Or,true=>some true
  |_,_=>rest
noncomputable def rF (ft:Ft)(n p o:List Nat):Option Bool:=jP (bg .NotEq (.str o) (.str n)) (jP (bg .NotEq (.str p) (.str [])) (jP (match (ft p o).map D.bool with |none=>none |some d=>eC d) (some true)))
noncomputable def kG (ρ:Ro)(n p:List Nat):Ro:=ad (ad (aH (af ND).names ρ) "name" (.str n)) "pattern" (.str p)
noncomputable def w2 (ρ:Ro)(n p o:List Nat):Ro:=ad (aH (af NV).names (kG ρ n p)) "other" (.str o)
theorem yn (ft:Ft)(ρ:Ro)(n p o:List Nat):aM ((RN ft 57).ts (af NV).names (w2 ρ n p o)) [dh (ak NV).ifs 0]=rF ft n p o:=by kernel_rfl
theorem tK (ρ:Ro)(n p o:List Nat):aG (af NV).names (aH (af NV).names (kG ρ n p)) (ak NV).target (.str o)=some (w2 ρ n p o):=by kernel_rfl
theorem vF (ft:Ft)(ρ:Ro)(n p o:List Nat):bp ((RN ft 57).ev (af NV).names (w2 ρ n p o) (a8 NV 0))=some [.str o]:=by kernel_rfl
theorem jz {a b:List Nat}(ha:cD a=true)(hb:cD b=true):bg .NotEq (.str a) (.str b)=some (!aF a b):=by
 unfold bg;dsimp only;rw [show ba 9 (.str a)=true from eh ha 8,show ba 9 (.str b)=true from eh hb 8]
 rfl
noncomputable def dA (ft:Ft)(n p o:List Nat):Bool:= !aF o n&&(!aF p [] &&(ft p o==some true))
theorem vG {ft:Ft}{n p o:List Nat}(hn:cD n=true)(hp:cD p=true)(ho:cD o=true)(h:aF p []=false→(ft p o).isSome=true):rF ft n p o=some (dA ft n p o):=by
 unfold rF dA;rw [jz ho hn,jz hp rfl];cases q1:aF o n with
 |true=>rfl
 |false=>
  cases q2:aF p []with
  |true=>rfl
  |false=>
   obtain⟨b,hb⟩:=Option.isSome_iff_exists.mp (h q2);rw [hb];cases b<;>rfl
noncomputable def ag (N:List (List Nat)):D:=.list (N.map .str)
noncomputable def eB (JD:D)(ND:D):Ro:=ad (aW aT (aO 244) [JD]) "names" ND
theorem ze (ft:Ft)(JD:D)(l:List D)(n p:List Nat):bb (RN ft 57) (af ND).names (kG (eB JD (.list l)) n p) (ak NV).target (ak NV).iter=bn (.list l):=by kernel_rfl
theorem DI (ft:Ft)(JD:D)(N:List (List Nat))(n p:List Nat)(hN:N.length≤1000)(hn:cD n=true)(hp:cD p=true)(ho:∀o∈N,cD o=true)(h:∀o∈N,aF p []=false→(ft p o).isSome=true):
  (RN ft 58).ev (af ND).names (kG (eB JD (ag N)) n p) NV=some (ag (N.filter (dA ft n p))):=by
 rw [wN];have hq:bb (RN ft 57) (af ND).names (kG (eB JD (ag N)) n p) (ak NV).target (ak NV).iter=some (N.map .str):=by
  unfold ag;rw [ze];unfold bn;dsimp only;rw [if_pos (by rw [List.length_map];lia)]
 have hl:=bX (sc:=(af NV).names) (t:=(ak NV).target) (ts:=fun ρ'=>aM ((RN ft 57).ts (af NV).names ρ') [dh (ak NV).ifs 0]) (f:=fun ρ'=>bp ((RN ft 57).ev (af NV).names ρ' (a8 NV 0))) (ρ:=aH (af NV).names (kG (eB JD (ag N)) n p))
  D.str (dA ft n p) D.str N (fun o hm=>⟨w2 (eB JD (ag N)) n p o,tK _ n p o,(yn ft _ n p o).trans (vG hn hp (ho o hm) (h o hm)),fun Z=>vF ft _ n p o⟩)
 exact cQ (by kernel_rfl) (by kernel_rfl) hq hl (by rw [List.length_map];have:=List.length_filter_le (dA ft n p) N;lia)
noncomputable def dN (ft:Ft)(J:List (List Nat×List Nat)):List (List Nat×List (List Nat)):=J.map fun q=>(q.1,(J.map (·.1)).filter (dA ft q.1 q.2))
noncomputable def bL (L:List (List Nat×List (List Nat))):D:=.dict (L.map fun q=>(q.1,ag q.2))
theorem zf (ft:Ft)(l:List D)(NN:D):bb (RN ft 58) (an 244).names (eB (.list l) NN) (ak ND).target (ak ND).iter=bn (.list l):=by kernel_rfl
theorem zg (JD NN:D)(n p:List Nat):aG (af ND).names (aH (af ND).names (eB JD NN)) (ak ND).target (.list [.str n,.str p])=some (kG (eB JD NN) n p):=by kernel_rfl
theorem BW (ft:Ft)(JD NN:D)(n p:List Nat):(RN ft 58).ev (af ND).names (kG (eB JD NN) n p) (a8 ND 0)=some (.str n):=by kernel_rfl
theorem xF (l:List (List Nat×D))(h:(l.map (·.1)).Nodup):iN (l.map fun q=>.tup [.str q.1,q.2])=some l:=by
 induction l with
 |nil=>rfl
 |cons q l ih=>
  obtain⟨x,d⟩:=q;rw [List.map_cons,List.nodup_cons]at h;have e:(l.all fun p=> !aF p.1 x)=true:=List.all_eq_true.mpr fun p hp=>by
   cases q:aF p.1 x with
   |false=>rfl
   |true=>exact absurd (List.mem_map.mpr ⟨p,hp,(bf _ _).mp q⟩) h.1
  show(match iN (l.map fun q=>.tup [.str q.1,q.2])with |some ks=>if(ks.all fun q=> !aF q.1 x)=true then some ((x,d)::ks)else none |none=>none)=_
  rw [ih h.2];exact if_pos e
theorem DJ (ft:Ft)(J:List (List Nat×List Nat))(hJ:J.length≤1000)(hnd:(J.map (·.1)).Nodup)(hn:∀q∈J,cD q.1=true)(hp:∀q∈J,cD q.2=true)(h:∀q∈J,∀o∈J.map (·.1),aF q.2 []=false→(ft q.2 o).isSome=true):
  (RN ft 59).ev (an 244).names (eB (al J) (ag (J.map Prod.fst))) ND=some (bL (dN ft J)):=by
 rw [wP];have hq:bb (RN ft 58) (an 244).names (eB (al J) (ag (J.map Prod.fst))) (ak ND).target (ak ND).iter=some (J.map dk):=by
  unfold al;rw [zf];exact gX J hJ
 have hl:=bX (sc:=(af ND).names) (t:=(ak ND).target) (ts:=fun ρ'=>aM ((RN ft 58).ts (af ND).names ρ') []) (f:=fun ρ'=>lq ((RN ft 58).ev (af ND).names ρ' (a8 ND 0)) ((RN ft 58).ev (af ND).names ρ' NV)) (ρ:=aH (af ND).names (eB (al J) (ag (J.map Prod.fst))))
  dk (fun Z=>true) (fun(q:List Nat×List Nat)=>D.tup [D.str q.1,ag ((J.map Prod.fst).filter (dA ft q.1 q.2))]) J (fun q hm=>⟨kG (eB (al J) (ag (J.map Prod.fst))) q.1 q.2,zg _ _ _ _,rfl,fun Z=>by
   rw [BW,DI ft (al J) (J.map (·.1)) q.1 q.2 (by rw [List.length_map];omega) (hn q hm) (hp q hm) (fun o ho=>by refine ah (List.mem_map.mp ho) fun r hr z1=>?_;subst z1;exact hn r hr) (h q hm)]
   rfl⟩)
 rw [List.filter_eq_self.mpr fun Z Z=>rfl]at hl
 have hc:fQ (RN ft 58) (an 244).names (eB (al J) (ag (J.map Prod.fst))) [⟨(ak ND).target,(ak ND).iter,[],0⟩] (af ND) (fun(ρ':Ro)=>lq ((RN ft 58).ev (af ND).names ρ' (a8 ND 0)) ((RN ft 58).ev (af ND).names ρ' NV))=some (J.map fun(q:List Nat×List Nat)=>D.tup [D.str q.1,ag ((J.map Prod.fst).filter (dA ft q.1 q.2))]):=by
  show(match bG (an 244).names (af ND)&& !bx (ak ND).iter,bb (RN ft 58) (an 244).names (eB (al J) (ag (J.map Prod.fst))) (ak ND).target (ak ND).iter with
   |true,some items=>eU (bA (af ND).names (ak ND).target (fun ρ'=>aM ((RN ft 58).ts (af ND).names ρ') []) (fun ρ'=>lq ((RN ft 58).ev (af ND).names ρ' (a8 ND 0)) ((RN ft 58).ev (af ND).names ρ' NV)) (aH (af ND).names (eB (al J) (ag (J.map Prod.fst)))) items)
   |_,_=>none)=_
  rw [show bG (an 244).names (af ND)=true by kernel_rfl,show bx (ak ND).iter=false by kernel_rfl,hq]
  show eU (bA _ _ _ _ _ _)=_
  rw [hl];unfold eU;dsimp only;rw [if_pos (by rw [List.length_map];omega)]
 show(match fQ (RN ft 58) (an 244).names (eB (al J) (ag (J.map Prod.fst))) [⟨(ak ND).target,(ak ND).iter,[],0⟩] (af ND) (fun(ρ':Ro)=>lq ((RN ft 58).ev (af ND).names ρ' (a8 ND 0)) ((RN ft 58).ev (af ND).names ρ' NV))with
  |some l=>(iN l).map D.dict
  |none=>none)=_
 rw [hc];dsimp only;have hk:=xF ((dN ft J).map fun q=>(q.1,ag q.2)) (by unfold dN;simpa [List.map_map,Function.comp_def] using hnd)
 have e:((dN ft J).map fun q=>(q.1,ag q.2)).map (fun q=>D.tup [.str q.1,q.2])=J.map fun(q:List Nat×List Nat)=>D.tup [D.str q.1,ag ((J.map Prod.fst).filter (dA ft q.1 q.2))]:=by
  unfold dN;rw [List.map_map,List.map_map];rfl
 rw [e]at hk;rw [hk];rfl
theorem rD (ft:Ft)(JD:D)(l:List D):cC (RN ft 59) (an 244).names aI 59 ⟨eB JD (.list l),none,false⟩ [bh NB 1]=((RN ft 59).ev (an 244).names (eB JD (.list l)) ND).map ce.ret:=by
 have e:[bh NB 1]=[.Return (some ND) (Fe (bh NB 1))]:=by kernel_rfl
 rw [e,lQ];rfl
noncomputable def BC (sc:aq)(cf:bE)(t:PySem.Expr)(st:bz)(o:Option (List D)):Option ce:=((match o with
 |some ys=>bo sc cf st t (.list ys)
 |none=>none)).map ce.next
noncomputable def CI (f:bz→Option ce)(o:Option ce):Option ce:=match o with
 |none=>none
 |some (.next st')=>f st'
 |some (.ret d)=>some (.ret d)
theorem rE (ft:Ft)(JD:D):cC (RN ft 59) (an 244).names aI 60 ⟨aW aT (aO 244) [JD],none,false⟩ NB=
  CI (fun st'=>cC (RN ft 59) (an 244).names aI 59 st' [bh NB 1]) (BC (an 244).names aI (uF (bh NB 0)) ⟨aW aT (aO 244) [JD],none,false⟩ (db (RN ft 59) (an 244).names (aW aT (aO 244) [JD]) [⟨(ak fj).target,(ak fj).iter,[],0⟩] (af fj) (a8 fj 0))):=by kernel_rfl
theorem py {R:bm}{sc:aq}{ρ:Ro}{elt t it:PySem.Expr}{ifs:List PySem.Expr}{scope:Scope}{items ys:List D}(hs:bG sc scope=true)(hi:bx it=false)(hq:bb R sc ρ t it=some items)
  (hl:bA scope.names t (fun ρ'=>aM (R.ts scope.names ρ') ifs) (fun ρ'=>bp (R.ev scope.names ρ' elt)) (aH scope.names ρ) items=some ys)(hy:ys.length≤100000):db R sc ρ [⟨t,it,ifs,0⟩] scope elt=some ys:=by
 show(match bG sc scope&& !bx it,bb R sc ρ t it with
   |true,some items=>eU (bA scope.names t (fun ρ'=>aM (R.ts scope.names ρ') ifs) (fun ρ'=>bp (R.ev scope.names ρ' elt)) (aH scope.names ρ) items)
   |_,_=>none)=_
 rw [hs,hi,hq];show eU (bA _ _ _ _ _ _)=_
 rw [hl];unfold eU;dsimp only;rw [if_pos hy]
theorem wQ (ft:Ft)(J:List (List Nat×List Nat))(hJ:J.length≤1000):db (RN ft 59) (an 244).names (aW aT (aO 244) [al J]) [⟨(ak fj).target,(ak fj).iter,[],0⟩] (af fj) (a8 fj 0)=some (J.map fun p=>.str p.1):=by
 have hq:bb (RN ft 59) (an 244).names (aW aT (aO 244) [al J]) (ak fj).target (ak fj).iter=some (J.map dk):=by
  have e:bb (RN ft 59) (an 244).names (aW aT (aO 244) [al J]) (ak fj).target (ak fj).iter=bn (al J):=by kernel_rfl
  rw [e,gX J hJ]
 have hl:=bX (sc:=(af fj).names) (t:=(ak fj).target) (ts:=fun ρ'=>aM ((RN ft 59).ts (af fj).names ρ') []) (f:=fun ρ'=>bp ((RN ft 59).ev (af fj).names ρ' (a8 fj 0))) (ρ:=aH (af fj).names (aW aT (aO 244) [al J]))
  dk (fun Z=>true) (fun p=>.str p.1) J (fun a Z=>⟨ad (ad (aH (af fj).names (aW aT (aO 244) [al J])) "name" (.str a.1)) "pattern" (.str a.2),by kernel_rfl,by kernel_rfl,fun Z=>by kernel_rfl⟩)
 rw [List.filter_eq_self.mpr fun Z Z=>rfl]at hl
 exact py (by kernel_rfl) (by kernel_rfl) hq hl (by rw [List.length_map];lia)
theorem tJ (ft:Ft)(J:List (List Nat×List Nat))(hJ:J.length≤1000)(hnd:(J.map (·.1)).Nodup)(hn:∀q∈J,cD q.1=true)(hp:∀q∈J,cD q.2=true)(h:∀q∈J,∀o∈J.map (·.1),aF q.2 []=false→(ft q.2 o).isSome=true):
  cC (RN ft 59) (an 244).names aI 60 ⟨aW aT (aO 244) [al J],none,false⟩ NB=some (.ret (bL (dN ft J))):=by
 rw [rE,wQ ft J hJ];have e:BC (an 244).names aI (uF (bh NB 0)) ⟨aW aT (aO 244) [al J],none,false⟩ (some (J.map fun p=>D.str p.1))=some (.next ⟨eB (al J) (ag (J.map (·.1))),none,false⟩):=by
  unfold ag;rw [List.map_map]
  kernel_rfl
 rw [e];show cC (RN ft 59) (an 244).names aI 59 ⟨eB (al J) (.list ((J.map (·.1)).map .str)),none,false⟩ [bh NB 1]=_
 rw [rD];have:=DJ ft J hJ hnd hn hp h;unfold ag at this;rw [this];rfl
end Mine
namespace Mine
set_option backward.match.sparseCases false
set_option genSizeOf false
set_option genInjectivity false
set_option tactic.hygienic false
open PySem PySem.W PyProof.Rows PySem.Builtin PySem.Builtin.ObjectAttr PySem.Builtin.Getset_descriptor
set_option maxRecDepth 100000
noncomputable abbrev KP (P:Params):Frag:=Mine.hk P
noncomputable abbrev gm (dx:Addr)(sl:Array (Option Value)):Obj:={cls:=.ref 81,dict:=some dx,data:=.plain,slots:=sl}
theorem AE (P:Params):findIn (KP P) (.ref 81) "__getattribute__" =some (some (.builtin "object.__getattribute__"))∧findIn (KP P) (.ref 81) "__getattr__" =some none:=⟨by kernel_rfl,by kernel_rfl⟩
theorem rA (P:Params):findIn (KP P) (.ref 178) "__getattribute__" =some (some (.builtin "object.__getattribute__"))∧findIn (KP P) (.ref 178) "__getattr__" =some none:=⟨by kernel_rfl,by kernel_rfl⟩
theorem Du (P:Params):(clsIn (KP P) 81).isSome=true:=by kernel_rfl
inductive bM:Str→Nat→Nat→Prop
 |node:bM "node" 82 0
 |npred:bM "npredecessors" 83 1
 |succ:bM "successors" 84 2
theorem bM.find {n:Str}{p i:Nat}(h:bM n p i)(P:Params):findIn (KP P) (.ref 81) n=some (some (.ref p)):=by cases h<;>kernel_rfl
theorem bM.get {n:Str}{p i:Nat}(h:bM n p i)(P:Params):specialIn (KP P) (.ref p) "__get__" =some (some (.builtin "member_descriptor.__get__")):=by cases h<;>kernel_rfl
theorem bM.takes {n:Str}{p i:Nat}(h:bM n p i)(P:Params):takesIn (KP P) (.ref p)=some true:=by cases h<;>kernel_rfl
theorem bM.slot {n:Str}{p i:Nat}(h:bM n p i)(P:Params):slotIn (KP P) p 81=some i:=by cases h<;>kernel_rfl
theorem bM.taker {n:Str}{p i:Nat}(h:bM n p i)(P:Params):takerIn (KP P) 81 n=some (some (.ref p)):=by cases h<;>kernel_rfl
theorem bM.type {n:Str}{p i:Nat}(h:bM n p i)(P:Params):typeIn (KP P) (.ref p)=some (.type "member_descriptor"):=by cases h<;>kernel_rfl
theorem bM.lt {n:Str}{p i:Nat}(h:bM n p i):i<3:=by cases h<;>decide
theorem AH (P:Params):plainOver (KP P) 81=true:=by kernel_rfl
theorem yi (P:Params):plainOver (KP P) 178=true:=by kernel_rfl
theorem Em (P:Params):findIn (KP P) (.ref 81) "__setattr__" =some (some (.builtin "object.__setattr__")):=by kernel_rfl
theorem CM (P:Params):findIn (KP P) (.ref 178) "__setattr__" =some (some (.builtin "object.__setattr__")):=by kernel_rfl
theorem xq (P:Params):hasDictIn (KP P) 178=true:=by kernel_rfl
inductive eM:Str→Prop
 |info:eM "_node2info"
 |ready:eM "_ready_nodes"
 |passed:eM "_npassedout"
 |fin:eM "_nfinished"
theorem eM.find {n:Str}(h:eM n)(P:Params):findIn (KP P) (.ref 178) n=some none:=by cases h<;>kernel_rfl
theorem eM.taker {n:Str}(h:eM n)(P:Params):takerIn (KP P) 178 n=some none:=by cases h<;>kernel_rfl
section
variable {prog:Program}{w:World}{A:Around}{E:Value→Shared→Prop}{s:Shared}
theorem fX {h:Heap}{a dx:Addr}{sl:Array (Option Value)}(ho:h.get? a=some (gm dx sl))(hd:h.get? dx=some emptyDict):InstAt h a (gm dx sl) 81 (some emptyDict):=⟨ho,rfl,rfl,hd⟩
theorem i0 {h:Heap}{a dx:Addr}{od:Obj}(ho:h.get? a=some (instObj 178 dx))(hd:h.get? dx=some od):InstAt h a (instObj 178 dx) 178 (some od):=⟨ho,rfl,rfl,hd⟩
theorem l8 {a dx:Addr}{sl:Array (Option Value)}{n:Str}{p i:Nat}{v:Value}{expr:Bool}{Q:Value→Shared→Prop}(X:(KP w.params).In s.heap)(F:bM n p i)
  (ho:s.heap.get? a=some (gm dx sl))(hd:s.heap.get? dx=some emptyDict)(hs:(sl[i]?).join=some v)(hv:handedIn v=true)(h:Q v {s with toks:=s.toks+1}):
  wpAny (model prog w) A (getAttr (.ref a) n expr) Q E s:=
 get_bind X (fX ho hd) (AE _).1 (findObj_data (Du _) (F.find _) (F.get _) (F.takes _)) (AE _).2
  (wpAny_call (slot_get (s:={s with toks:=s.toks+1}) X (fX ho hd) (F.slot _) hs (by show wpAny _ _ (handedOut v) _ _ _;rw [handedOut_of hv];exact wpAny_pure h)))
theorem lv {a dx:Addr}{es:List DictEntry}{n:Nat}{x:Str}{v:Value}{expr:Bool}{Q:Value→Shared→Prop}(X:(KP w.params).In s.heap)(F:eM x)
  (ho:s.heap.get? a=some (instObj 178 dx))(hd:s.heap.get? dx=some (dictOf es n))(hl:getL x es=some (some v))(hv:handedIn v=true)(h:Q v {s with toks:=s.toks+1}):
  wpAny (model prog w) A (getAttr (.ref a) x expr) Q E s:=
 get_value X (i0 ho hd) (rA _).1 (findObj_own (xq _) (F.find _) rfl hl) hv h
theorem va {a dx:Addr}{sl:Array (Option Value)}{n:Str}{p i:Nat}{v:Value}{R:Result→Shared→Prop}(X:(KP w.params).In s.heap)(F:bM n p i)
  (ho:s.heap.get? a=some (gm dx sl))(hd:s.heap.get? dx=some emptyDict)
  (h:R (.ok (.ret .none)) {s with heap:=s.heap.update a fun o=>{o with slots:=(o.slots++Array.replicate (i+1 - o.slots.size) none).setIfInBounds i (some v)}}):
  codeAny (model prog w) A (.call (.builtin "member_descriptor.__set__") ⟨[.ref p,.ref a,v],[]⟩) R s:=by
 obtain⟨nm,tn,owner,behind,tb,d,sl',cd,hp,hc,hm,hb,e⟩:=slot_of X (F.slot _);have I:=fX ho hd;have hi:=F.lt;obtain⟨hh,g,dr,t,os⟩:=s;have L0:=I.type (M:=model prog w);have L1:=looks_mroIn (M:=model prog w) X hm;have L2:Looks (model prog w) hh (Builtin.Slots.slotNamesOf (.ref 81)) cd.slotNames:=(looks_clsIn X hc).andThen .now;dsimp only at hp ho L0 L1;have f0:=looks_field (M:=model prog w) hp 0 (v:=.str nm tn) rfl;have f1:=looks_field (M:=model prog w) hp 1 (v:=owner) rfl;have f3:=looks_field (M:=model prog w) hp 3 (v:=.builtin "proto.slot#set") rfl;have f4:=looks_field (M:=model prog w) hp 4 (v:=.int behind tb) rfl;refine codeAny_call_builtin KF.slot_mset.plain KF.entry_mset (KF.slot_mset.check _ _ _ _ _ _ _ _ ⟨_,hp,rfl⟩ (KF.args_mset _ _ _) ?_);unfold Builtin.«member_descriptor.__set__» descrSet descrStoreThrough descrCheckInstance descrNameAndClass isInstance;have f5:Looks (model prog w) hh (descrItself (.ref p)) [.ref p]:=((Looks.ld (part:=none) hp).andThen .now).andThen (Looks.of_pure (by kernel_rfl))
 repeat lk
 refine⟨Code.quiet_builtin _ (by decide+kernel),codeAny_builtin KF.entry_slotset ?_⟩
 unfold Builtin.«proto.slot#set» Builtin.Slots.target
 repeat lk
 rw [if_neg hb];refine wpAny_pure (wpAny_bind ?_);unfold setSlotAt;dsimp only;rw [←e,if_neg (by rw [sizeLine_eq];lia)]
 exact wpAny_updatePart ho (wpAny_pure h)
theorem lP {a dx:Addr}{sl:Array (Option Value)}{n:Str}{p i:Nat}{v:Value}{Q:Unit→Shared→Prop}(X:(KP w.params).In s.heap)(F:bM n p i)
  (ho:s.heap.get? a=some (gm dx sl))(hd:s.heap.get? dx=some emptyDict)
  (h:Q () {s with heap:=s.heap.update a fun o=>{o with slots:=(o.slots++Array.replicate (i+1 - o.slots.size) none).setIfInBounds i (some v)},toks:=s.toks+1}):
  wpAny (model prog w) A (setAttr (.ref a) n v) Q E s:=
 PySem.W.set_plain X (fX ho hd) (Em _) (osa_descr (s:={s with toks:=s.toks+1}) KF.slot_mset X (fX ho hd) (AH _) (F.taker _) (F.type _) (va (s:={s with toks:=s.toks+1}) X F ho hd h))
theorem yh {a dx:Addr}{es:List DictEntry}{n:Nat}{x:Str}{tk:Tok}{v:Value}{R:Result→Shared→Prop}(X:(KP w.params).In s.heap)(F:eM x)
  (ho:s.heap.get? a=some (instObj 178 dx))(hd:s.heap.get? dx=some (dictOf es n))(hk:es.any (·.refKey)=false)(hz:es.length≤900)
  (h:R (.ok (.ret .none)) {s with heap:=s.heap.update dx (Obj.putName x (PyData.keyHash w.params x) (.str x s.toks) v),toks:=s.toks+1}):
  codeAny (model prog w) A (.call (.builtin "object.__setattr__") ⟨[.ref a,.str x tk,v],[]⟩) R s:=by
 have I:=i0 ho hd;refine osa_open X I (yi _) (F.taker _) fun b=>?_;refine ah (any_some (xq w.params)) fun cd hc hd'=>?_;have D':(s.heap.update dx (Obj.putName x (PyData.keyHash w.params x) (.str x s.toks) v)).get? dx=some (dictOf (putL x (PyData.keyHash w.params x) (.str x s.toks) v es) (putN x es n)):=by
  rw [Heap.get?_update_self _ hd (by rw [putName_dict];rfl),putName_dict]
 refine wpAny_bind (wpAny_pure (wpAny_bind (wpAny_bind (wpAny_loadPart ho (wpAny_bind ((looks_clsIn X hc).here ?_))))));rw [hd'];refine wpAny_pure (a:=some dx) (wpAny_bind (wpAny_pure (wpAny_bind ?_)));unfold nsSet;refine wpAny_bind (wpAny_bind (wpAny_askSetting (wpAny_pure (wpAny_bind (wpAny_mkText (wpAny_bind (wpAny_loadPart hd ?_)))))));dsimp only;have c:(!es.toArray.any (·.key.isStr x)&&es.toArray.any (·.refKey))=false:=by
  rw [←Array.any_toList,←Array.any_toList];simp only [hk,Bool.and_false]
 rw [aRefKeyMayBeTheName_at,c];refine wpAny_updatePart hd ?_;have hlen:(putL x (PyData.keyHash w.params x) (.str x s.toks) v es).length≤es.length+1:=by
  clear D' c h hd I hk hz
  induction es with
  |nil=>simp [putL]
  |cons e r ih=>unfold putL;split<;>simp<;>lia
 refine wpAny_bind (wpAny_lookBehind D' (pastItsLine_dict (by rw [List.size_toArray,sizeLine_eq];lia)) ?_)
 exact wpAny_pure h
theorem An {a dx:Addr}{es:List DictEntry}{n:Nat}{x:Str}{v:Value}{Q:Unit→Shared→Prop}(X:(KP w.params).In s.heap)(F:eM x)
  (ho:s.heap.get? a=some (instObj 178 dx))(hd:s.heap.get? dx=some (dictOf es n))(hk:es.any (·.refKey)=false)(hz:es.length≤900)
  (h:Q () {s with heap:=s.heap.update dx (Obj.putName x (PyData.keyHash w.params x) (.str x (s.toks+1)) v),toks:=s.toks+2}):
  wpAny (model prog w) A (setAttr (.ref a) x v) Q E s:=
 PySem.W.set_plain X (i0 ho hd) (CM _) (yh (s:={s with toks:=s.toks+1}) X F ho hd hk hz h)
theorem Bg {a dx:Addr}{es:List DictEntry}{n:Nat}{x:Str}{f:Addr}{pl:Sem Bool}{Q:Value×List Value→Shared→Prop}(X:(KP w.params).In s.heap)
  (ho:s.heap.get? a=some (instObj 178 dx))(hd:s.heap.get? dx=some (dictOf es n))(hf:findIn (KP w.params) (.ref 178) x=some (some (.ref f)))(ht:typeIn (KP w.params) (.ref f)=some (.type "function"))
  (hl:getL x es=some none)(h:Q (.ref f,[.ref a]) s):wpAny (model prog w) A (getMethod (.ref a) x pl) Q E s:=
 method_fn X (i0 ho hd) (rA _).1 (rA _).2 hf ht (by show(lookIn x (dictOf es n)).map _=_;rw [lookIn_dict,hl];rfl) h
end
end Mine
namespace Mine
open PySem PySem.W PyProof.Rows
set_option maxRecDepth 100000
set_option backward.match.sparseCases false
set_option genSizeOf false
set_option genInjectivity false
set_option tactic.hygienic false
structure Up (sB s:Shared):Prop where
 same:∃h tk,s={sB with heap:=h,toks:=tk}
 size:sB.heap.objs.size≤s.heap.objs.size
 tk:sB.toks≤s.toks
 keep:∀b o,sB.heap.get? b=some o→s.heap.get? b=some o
theorem Up.cx {K:Frag}{mg mb:Str→Option Value}{sB s:Shared}(U:Up sB s)(C:Cx K mg mb sB):Cx K mg mb s:=C.keeps U.keep U.tk
theorem Up.mv {X:Addr→Prop}{sB s s':Shared}{G G':Kn}(U:Up sB s)(m:Mv X s G s' G')(h:∀b o,X b→sB.heap.get? b=some o→False):Up sB s':=by
 refine aV U.same fun h1 tk z1=>?_;subst z1
 refine aV m.same fun h' tk' z2=>?_;subst z2
 exact⟨⟨h',tk',rfl⟩,Nat.le_trans U.size m.size,Nat.le_trans U.tk m.tk,fun b o e=>m.keep b o (fun x=>h b o x e) (U.keep b o e)⟩
theorem Up.grew {sB s s':Shared}{G G':Kn}(U:Up sB s)(g:ae s G s' G'):Up sB s':=U.mv (X:=fun Z=>False) g.mv fun Z Z x Z=>x
structure dG (K:Frag)(a:Addr)(sc:Scope)(ps:List Str)(body:List Stmt)(vs:List Value)(B:Sem (List (Str×Value))):Prop where
 ex:∀h,K.In h→∃o fd,h.get? a=some o∧o.data=.func fd∧h.CodeRec fd.code fd.qualname∧fd.scope=sc∧fd.body=.stmts body∧fd.closure=[]∧fd.globals=mainGlobals∧fd.builtins=builtinsNs∧bindArgs fd ⟨vs,[]⟩=B
 kind:sc.kind=.function
 co:sc.isCoroutine=false
 gen:sc.isGenerator=false
 ok:ma sc ps=true
theorem ek {K:Frag}{a:Addr}{sc:Scope}{ps:List Str}{body:List Stmt}{vs:List Value}{B:Sem (List (Str×Value))}(c:nw K a=true)(e1:(kb K a).map (·.scope)=some sc)(e2:(kb K a).map (·.body)=some (.stmts body))
  (e3:(kb K a).map (fun fd=>bindArgs fd ⟨vs,[]⟩)=some B)(k1:sc.kind=.function)(k2:sc.isCoroutine=false)(k3:sc.isGenerator=false)(k4:ma sc ps=true):
  dG K a sc ps body vs B:=by
 obtain⟨ob,fd,h1,h2,h3,h4,h5,h6,h7⟩:=qu c;rw [h3]at e1 e2 e3;exact⟨fun h hK=>⟨ob,fd,hK a ob h1,h2,h4 h hK,Option.some.inj e1,Option.some.inj e2,h5,h6,h7,Option.some.inj e3⟩,k1,k2,k3,k4⟩
noncomputable def Aw (f:Flow):Value:=match f with | .ret v=>v |_=>.none
section
variable {prog:Program}{w:World}{K:Frag}{mg mb:Str→Option Value}{k:Nat}
structure dc (prog:Program)(w:World) (k:Nat)(sB:Shared)(A:Around)(sc:Scope)(env:Env)(own:List (Str×Addr))(cf:bE)(ρ:Ro)(s:Shared)(G:Kn)(s':Shared):Prop where
 room:am k (A.deeper env)
 sco:be sc.names env own
 sce:aD sc.names env
 st:ax w.params sB G env own cf none ⟨ρ,none,false⟩ s' G
 keep:∀b o,s.heap.get? b=some o→s'.heap.get? b=some o
 mine:∀b,Mine env own b→s.heap.objs.size≤b
 size:s.heap.objs.size≤s'.heap.objs.size
 tk:s.toks≤s'.toks
 same:∃h tk,s'={s with heap:=h,toks:=tk}
 frm:env.frame=some env.locals
theorem oK {a:Addr}{sc:Scope}{ps:List Str}{body:List Stmt}(cf:bE){args:List D}{A:Around}{sB s:Shared}{G:Kn}{vs:List Value}{B:Sem (List (Str×Value))}{R:Result→Shared→Prop}(F:dG K a sc ps body vs B)
  (hl:args.length=ps.length)(rm:am (k+1) A)(hx:Cx K mg mb sB)(U:Up sB s)(I:G.In s.heap)
  (hb:∀E:Value→Shared→Prop,wpAny (model prog w) A.in1 B (fun b s₁=> ∃vs' G₁,b=ps.zip vs'∧ae s G s₁ G₁∧ai w.params G₁ vs' args) E s)
  (h:∀(env:Env)(own:List (Str×Addr))(s₁:Shared)(G₁:Kn)(s':Shared)(E':Value→Shared→Prop),ae s G s₁ G₁→dc prog w k sB A sc env own cf (aW aT ps args) s₁ G₁ s'→
   (∀e s',wpAny (model prog w) (A.deeper env) (leaving env e) (fun Z s''=>R (.error e) s'') (fun e' s''=>R (.error e') s'') s'→E' e s')→
   wpAny (model prog w) (A.deeper env) (execs body env) (fun f s''=>R (.ok (.ret (Aw f))) s'') E' s'):codeAny (model prog w) A (.call (.ref a) ⟨vs,[]⟩) R s:=by
 obtain⟨o,fd,ho,hd,hcd,rfl,hbody,hclo,hgl,hbl,hbind⟩:=F.ex s.heap (U.cx hx).kin;have hok:=F.ok;unfold ma at hok;simp only [Bool.and_eq_true]at hok;refine xa hok fun z4 hps=>?_;obtain⟨hnf,hnd⟩:=z4
 refine codeAny_call_function (by have:=rm.hd;lia) ho hd F.co F.gen hbody hcd ?_
 rw [hbind,hclo];refine wpAny_mono (hb _) (fun b s₁ hb1=>?_) fun Z Z z=>z
 refine aX hb1 fun vs' G₁ z5 g1 r=>?_;subst z5
 have hvl:vs'.length=ps.length:=r.length.trans hl;have hkind:∀x∈ps.zip vs',fd.scope.names.lookup x.1=some .local∨(fd.scope.names.lookup x.1=some .cell∧((cellsFrom (s₁.heap.objs.size+1) fd.scope.names []).lookup x.1).isSome=true):=fun x hm=>by
  have h1:=List.all_eq_true.mp hps x.1 (List.of_mem_zip hm).1;have h2:=(Bool.and_eq_true_iff.mp h1).2;rw [←eS];cases hkd:aE fd.scope.names x.1 with
  |none=>rw [hkd]at h2;exact(aj h2).elim
  |some kk=>
   rw [hkd]at h2;cases kk<;>first |cases h2 |skip
   ·exact .inl rfl
   ·exact .inr ⟨rfl,dp _ _ (cr hkd)⟩
 refine aK (wpAny_newFunctionEnv_cells F.kind hkind fun env he s' x hz=>?_)
 subst he;refine⟨((U.grew g1).cx hx).nolim.keeps x.toInCall.keep,codeAny_func ?_⟩;generalize hown:cellsFrom (s₁.heap.objs.size+1) fd.scope.names []=own at x;generalize henv:newEnv fd.scope s₁.heap.objs.size fd.globals own (fd.qualname++ ".<locals>.") (some a) fd.code none fd.builtins=env at x;have e1:env.scope=fd.scope:=by rw [←henv];rfl
 have e2:env.locals=s₁.heap.objs.size:=by rw [←henv];rfl
 have e3:env.cells=own:=by rw [←henv];rfl
 have e4:env.globals=mainGlobals:=by rw [←henv];exact hgl
 have e5:env.builtins=builtinsNs:=by rw [←henv];exact hbl
 have e6:env.frame=some env.locals:=by rw [←henv];rfl
 have hkd:∀x,env.kindOf x=aE fd.scope.names x:=fun x=>by
  rw [eS];show env.scope.names.lookup x=_;rw [e1]
 have ownsome:∀x,aE fd.scope.names x=some .cell→(own.lookup x).isSome=true:=fun x hx=>by rw [←hown];exact dp _ _ (cr hx)
 have free_no:∀x,aE fd.scope.names x≠some .free:=fun x hx=>by
  have:=List.all_eq_true.mp hnf _ (cr hx);exact(aj this).elim
 have U1:=U.grew g1;have notB:∀{c:Addr},s₁.heap.objs.size≤c→sB.heap.get? c=none:=fun{c} hc=>by
  cases z:sB.heap.get? c with
  |none=>rfl
  |some o=>exact absurd (Heap.lt_size z) (Nat.not_lt.mpr (Nat.le_trans U1.size hc))
 have C:be fd.scope.names env own:=⟨fun x h=>by rw [hkd,h],fun x h=>⟨by rw [hkd,h],ownsome x h⟩,fun x h=>absurd h (free_no x),fun x h=>by rw [hkd,h]⟩
 have hs:aD fd.scope.names env:=⟨fun x h=>by rw [hkd,h],fun x h=>by
  rcases h with h |h
  ·exact⟨.inl (by rw [hkd,h]),by rw [e3];exact ownsome x h⟩
  ·exact absurd h (free_no x),by rw [e1];exact F.kind,e4,e5⟩
 rw [e3]at x;refine aV x.toInCall.same fun h' tk hsame=>?_;have hva:=jq (P:=w.params) (G:=G₁) (kindOf:=env.kindOf) (own:=own) hkd ownsome ps vs' args (fun Z=>none) (fun Z=>none) aT hps r (fun x d h=>(nomatch h))
 have S0:a7 w.params sB.heap env own G₁ s'.heap (aW aT ps args):=by
  refine⟨⟨_,_,⟨x.toInCall.ns,by rw [e2];exact notB (Nat.le_refl _),x.cell,fun n c hm=>?_,x.apart,fun n c hm=>?_,fun n c hm=>by rw [e3];exact hm,fun b o e=>x.toInCall.keep b o (U1.keep b o e),by rw [e1];exact F.kind⟩,fun y e hy=>?_⟩,⟨?_,fun n c hm=>?_⟩,fun b ob e=>x.toInCall.keep b ob (g1.inn b ob e)⟩
  ·have:=x.above n c hm;rw [e2]at this;exact⟨notB (Nat.le_of_lt this),by rw [e2];exact Nat.ne_of_gt this⟩
  ·rw [←hown]at hm⊢;exact iS _ hnd hm
  ·refine cn (hva y e hy) fun ok v hv rd=>?_;refine⟨ok,v,?_,rd⟩;rcases hv with⟨a,b⟩ |⟨a,b,c⟩
   ·exact .loc a b
   ·refine xe (Option.isSome_iff_exists.mp b) fun c' hc'=>?_;exact .cell a hc' c
  ·rw [e2];exact Kn.none_ge g1.inn (Nat.le_refl _)
  ·have:=x.above n c hm;rw [e2]at this;exact Kn.none_ge g1.inn (Nat.le_of_lt this)
 have S:ax w.params sB G₁ env own cf none ⟨aW aT ps args,none,false⟩ s' G₁:=by
  refine⟨⟨?_,Nat.le_trans U1.size hz.1,Nat.le_trans U1.tk hz.2,.refl _,fun a o e=>.inl e⟩,_,S0,fun Z Z e=>e,⟨rfl,rfl⟩⟩
  refine aV U1.same fun h1 tk1 q1=>?_;exact⟨h',tk,by rw [hsame,q1]⟩
 refine wpAny_mono (h env own s₁ G₁ s' _ g1 ⟨rm.deeper,C,hs,S,x.toInCall.keep,fun b hb=>?_,hz.1,hz.2,⟨h',tk,hsame⟩,e6⟩ fun e s' z=>z) (fun f s'' hf=>?_) fun Z Z z=>z
 ·rcases hb with rfl |⟨n,hm⟩
  ·rw [e2];exact Nat.le_refl _
  ·have:=x.above n b hm;rw [e2]at this;exact Nat.le_of_lt this
 ·cases f<;>exact hf
theorem eG {a:Addr}{sc:Scope}{ps:List Str}{body:List Stmt}(cf:bE){args:List D}{A:Around}{sB s:Shared}{G:Kn}{vs:List Value}{B:Sem (List (Str×Value))}{Q:Value→Shared→Prop}{E:Value→Shared→Prop}(F:dG K a sc ps body vs B)
  (hl:args.length=ps.length)(rm:am (k+1) A)(hx:Cx K mg mb sB)(U:Up sB s)(I:G.In s.heap)
  (hb:∀E:Value→Shared→Prop,wpAny (model prog w) A.in1 B (fun b s₁=> ∃vs' G₁,b=ps.zip vs'∧ae s G s₁ G₁∧ai w.params G₁ vs' args) E s)
  (h:∀(env:Env)(own:List (Str×Addr))(s₁:Shared)(G₁:Kn)(s':Shared)(E':Value→Shared→Prop),ae s G s₁ G₁→dc prog w k sB A sc env own cf (aW aT ps args) s₁ G₁ s'→
   (∀e s',wpAny (model prog w) (A.deeper env) (leaving env e) (fun Z s''=>E e s'') (fun e' s''=>E e' s'') s'→E' e s')→
   wpAny (model prog w) (A.deeper env) (execs body env) (fun f s''=>Q (Aw f) s'') E' s'):wpAny (model prog w) A (call (.ref a) vs) Q E s:=
 wpAny_call (oK cf F hl rm hx U I hb h)
end
noncomputable def bW:Kn:=fun Z=>none
theorem iA (G:Kn):bW.Le G:=fun Z Z e=>nomatch e
structure Nd where
 nm:List Nat
 a:Addr
 dx:Addr
 np:Int
 la:Addr
 su:List (List Nat)
structure Sr where
 self:Addr
 dx:Addr
 d:Addr
 nodes:List Nd
 ready:Option (Addr×List (List Nat))
noncomputable def cJ (P:Params)(h:Heap)(la:Addr)(xs:List (List Nat)):Prop:= ∃vs n,h.get? la=some (aB vs n)∧ai P bW vs (xs.map .str)
noncomputable def eW (P:Params)(h:Heap)(nd:Nd):Prop:=(∃tn tp,h.get? nd.a=some (gm nd.dx #[some (.str (mk nd.nm) tn),some (.int nd.np tp),some (.ref nd.la)]))∧h.get? nd.dx=some emptyDict∧cJ P h nd.la nd.su
noncomputable def ii (P:Params)(x:Str)(t:Tok)(v:Value):DictEntry:=⟨PyData.keyHash P x,.str x t,v⟩
structure BV where
 t1:Tok
 t2:Tok
 t3:Tok
 t4:Tok
 ip:Int
 tp:Tok
 jf:Int
 tf:Tok
noncomputable def lS (r:Option (Addr×List (List Nat))):Value:=match r with |none=>.none |some p=>.ref p.1
noncomputable def gb (P:Params)(d:Addr)(vr:Value)(o:BV):List DictEntry:=[ii P "_node2info" o.t1 (.ref d),ii P "_ready_nodes" o.t2 vr,ii P "_npassedout" o.t3 (.int o.ip o.tp),ii P "_nfinished" o.t4 (.int o.jf o.tf)]
structure fM (P:Params)(h:Heap)(st:Sr):Prop where
 selfo:h.get? st.self=some (instObj 178 st.dx)
 own:∃o n,h.get? st.dx=some (dictOf (gb P st.d (lS st.ready) o) n)
 rdy:∀r l,st.ready=some (r,l)→cJ P h r l
 dct:∃es n,h.get? st.d=some (cR es n)∧dt P bW es (st.nodes.map fun nd=>(nd.nm,.adr nd.a))
 nds:∀nd∈st.nodes,eW P h nd
structure Sr.WF (st:Sr):Prop where
 nms:(st.nodes.map (·.nm)).Nodup
 nm:∀n∈st.nodes,∀n'∈st.nodes,n.nm=n'.nm→n=n'
 a:∀n∈st.nodes,∀n'∈st.nodes,n.a=n'.a→n=n'
 la:∀n∈st.nodes,∀n'∈st.nodes,n.la=n'.la→n=n'
 r:∀r l,st.ready=some (r,l)→∀n∈st.nodes,n.la≠r
 d:st.dx≠st.d
 nd:∀n∈st.nodes,n.dx≠st.d∧n.dx≠st.dx
 sys:(st.d==sysModules)=false
noncomputable def foot (st:Sr)(a:Addr):Prop:=a=st.self∨a=st.dx∨a=st.d∨(∃r l,st.ready=some (r,l)∧a=r)∨∃n∈st.nodes,a=n.a∨a=n.dx∨a=n.la
structure az (P:Params)(sB:Shared)(G:Kn)(s:Shared)(st:Sr):Prop where
 at_:fM P s.heap st
 wf:st.WF
 off:∀a,foot st a→G a=none∧sB.heap.objs.size≤a
theorem cJ.of {P:Params}{h h':Heap}{la:Addr}{xs:List (List Nat)}(x:cJ P h la xs)(k:∀o,h.get? la=some o→h'.get? la=some o):cJ P h' la xs:=let⟨vs,n,e,r⟩:=x;⟨vs,n,k _ e,r⟩
theorem eW.of {P:Params}{h h':Heap}{nd:Nd}(x:eW P h nd)(k:∀a o,a=nd.a∨a=nd.dx∨a=nd.la→h.get? a=some o→h'.get? a=some o):eW P h' nd:=
 let⟨⟨tn,tp,e⟩,e2,l⟩:=x;⟨⟨tn,tp,k _ _ (.inl rfl) e⟩,k _ _ (.inr (.inl rfl)) e2,l.of fun o q=>k _ _ (.inr (.inr rfl)) q⟩
theorem fM.of {P:Params}{h h':Heap}{st:Sr}(x:fM P h st)(k:∀a o,foot st a→h.get? a=some o→h'.get? a=some o):fM P h' st:=by
 obtain⟨a,⟨o,n,b⟩,c,⟨es,n',d,d'⟩,e⟩:=x
 exact⟨k _ _ (.inl rfl) a,⟨o,n,k _ _ (.inr (.inl rfl)) b⟩,fun r l q=>(c r l q).of fun o z=>k _ _ (.inr (.inr (.inr (.inl ⟨r,l,q,rfl⟩)))) z,
  ⟨es,n',k _ _ (.inr (.inr (.inl rfl))) d,d'⟩,fun nd hm=>(e nd hm).of fun a o q z=>k _ _ (.inr (.inr (.inr (.inr ⟨nd,hm,q⟩)))) z⟩
theorem fM.alive {P:Params}{h:Heap}{st:Sr}(x:fM P h st):∀a,foot st a→∃o,h.get? a=some o:=by
 obtain⟨a,⟨o,n,b⟩,c,⟨es,n',d,d'⟩,e⟩:=x
 rintro x (rfl |rfl |rfl |⟨r,l,q,rfl⟩ |⟨nd,hm,q⟩)
 ·exact⟨_,a⟩
 ·exact⟨_,b⟩
 ·exact⟨_,d⟩
 ·refine aA (c _ _ q) fun vs n e Z=>?_;exact⟨_,e⟩
 ·refine b9 (e nd hm) fun z1 e2 z2=>?_;obtain⟨tn,tp,e1⟩:=z1;obtain⟨vs,n,e3,_⟩:=z2
  rcases q with rfl |rfl |rfl
  ·exact⟨_,e1⟩
  ·exact⟨_,e2⟩
  ·exact⟨_,e3⟩
theorem az.lt {P:Params}{sB s:Shared}{G:Kn}{st:Sr}(S:az P sB G s st){a:Addr}(h:foot st a):a<s.heap.objs.size:=let⟨_,e⟩:=S.at_.alive a h;Heap.lt_size e
theorem az.keep {P:Params}{X:Addr→Prop}{sB s s':Shared}{G G':Kn}{st:Sr}(S:az P sB G s st)(m:Mv X s G s' G')(h:∀a,foot st a→¬X a):az P sB G' s' st:=by
 refine⟨S.at_.of fun a o f e=>m.keep a o (h a f) e,S.wf,fun a f=>⟨?_,(S.off a f).2⟩⟩
 cases q:G' a with
 |none=>rfl
 |some o=>
  rcases m.fresh a o q with z |z
  ·rw [(S.off a f).1]at z;exact(aa z).elim
  ·exact absurd (S.lt f) (Nat.not_lt.mpr z)
theorem az.grew {P:Params}{sB s s':Shared}{G G':Kn}{st:Sr}(S:az P sB G s st)(g:ae s G s' G'):az P sB G' s' st:=S.keep (X:=fun Z=>False) g.mv fun Z Z x=>x
theorem bq {h:Heap}{a b:Addr}{o o':Obj}(e:h.get? a=some o)(e':h.get? b=some o')(n:o.cls≠o'.cls):a≠b:=fun z=>by
 subst z;rw [e]at e';obtain rfl:=Option.some.inj e';exact n rfl
theorem fM.node {P:Params}{h:Heap}{st:Sr}(x:fM P h st){nd:Nd}(hm:nd∈st.nodes):(∀b,b=st.self∨b=st.dx∨b=st.d∨(∃r l,st.ready=some (r,l)∧b=r)→nd.a≠b)∧(∀b,b=st.self∨b=st.dx∨b=st.d→nd.la≠b)∧
  ∀n∈st.nodes,nd.a≠n.dx∧nd.a≠n.la∧nd.la≠n.dx:=by
 obtain⟨a,⟨o,n,b⟩,c,⟨es,n',d,d'⟩,e⟩:=x;refine b9 (e nd hm) fun z3 e2 z4=>?_;obtain⟨tn,tp,e1⟩:=z3;obtain⟨vs,m,e3,_⟩:=z4
 refine⟨?_,?_,fun n hn=>?_⟩
 ·rintro x (rfl |rfl |rfl |⟨r,l,q,rfl⟩)
  ·exact bq e1 a (by simp)
  ·exact bq e1 b (by simp)
  ·exact bq e1 d (by simp)
  ·refine aA (c _ _ q) fun vs n z Z=>?_;exact bq e1 z (by simp)
 ·rintro x (rfl |rfl |rfl)
  ·exact bq e3 a (by simp)
  ·exact bq e3 b (by simp)
  ·exact bq e3 d (by simp)
 ·refine b9 (e n hn) fun Z f2 z5=>?_;obtain⟨vs,m,f3,_⟩:=z5
  exact⟨bq e1 f2 (by simp),bq e1 f3 (by simp),bq e3 f2 (by simp)⟩
noncomputable def Sr.upd (st:Sr)(x:List Nat)(f:Nd→Nd):Sr:={st with nodes:=st.nodes.map fun n=>if n.nm=x then f n else n}
structure mV (f:Nd→Nd):Prop where
 nm:∀n,(f n).nm=n.nm
 a:∀n,(f n).a=n.a
 dx:∀n,(f n).dx=n.dx
 la:∀n,(f n).la=n.la
theorem fy {f:Nd→Nd}(F:mV f)(x:List Nat)(n:Nd):(if n.nm=x then f n else n).nm=n.nm∧(if n.nm=x then f n else n).a=n.a∧(if n.nm=x then f n else n).dx=n.dx∧(if n.nm=x then f n else n).la=n.la:=by
 split
 ·exact⟨F.nm n,F.a n,F.dx n,F.la n⟩
 ·exact⟨rfl,rfl,rfl,rfl⟩
theorem eO {f:Nd→Nd}(F:mV f)(st:Sr)(x:List Nat)(a:Addr):foot (st.upd x f) a↔foot st a:=by
 unfold foot;have:(∃n∈(st.upd x f).nodes,a=n.a∨a=n.dx∨a=n.la)↔∃n∈st.nodes,a=n.a∨a=n.dx∨a=n.la:=by
  constructor
  ·rintro ⟨n,hn,h⟩
   refine ah (List.mem_map.mp hn) fun m hm z6=>?_;subst z6
   refine mo (fy F x m) fun Z q2 q3 q4=>?_;rw [q2,q3,q4]at h;exact⟨m,hm,h⟩
  ·rintro ⟨m,hm,h⟩
   refine mo (fy F x m) fun Z q2 q3 q4=>?_;exact⟨_,List.mem_map.mpr ⟨m,hm,rfl⟩,by rw [q2,q3,q4];exact h⟩
 rw [this];exact Iff.rfl
theorem zC {f:Nd→Nd}(F:mV f){st:Sr}(W:st.WF)(x:List Nat):(st.upd x f).WF:=by
 have mem:∀{n},n∈(st.upd x f).nodes→∃m∈st.nodes,n=(if m.nm=x then f m else m)∧n.nm=m.nm∧n.a=m.a∧n.dx=m.dx∧n.la=m.la:=fun{n} h=>by
  refine ah (List.mem_map.mp h) fun m hm z7=>?_;subst z7
  exact⟨m,hm,rfl,fy F x m⟩
 refine⟨?_,?_,?_,?_,?_,W.d,?_,W.sys⟩
 ·have:(st.upd x f).nodes.map (·.nm)=st.nodes.map (·.nm):=by
   unfold Sr.upd;rw [List.map_map];exact List.map_congr_left fun n Z=>(fy F x n).1
  rw [this];exact W.nms
 ·intro n hn n' hn' e;refine eN (mem hn) fun m hm e1 q1 Z=>?_;refine eN (mem hn') fun m' hm' e1' q1' Z=>?_;rw [e1,e1',W.nm m hm m' hm' (by rw [←q1,←q1',e])]
 ·intro n hn n' hn' e;refine qL (mem hn) fun m hm e1 Z q1 Z=>?_;refine qL (mem hn') fun m' hm' e1' Z q1' Z=>?_;rw [e1,e1',W.a m hm m' hm' (by rw [←q1,←q1',e])]
 ·intro n hn n' hn' e;refine qK (mem hn) fun m hm e1 Z Z Z q1=>?_;refine qK (mem hn') fun m' hm' e1' Z Z Z q1'=>?_;rw [e1,e1',W.la m hm m' hm' (by rw [←q1,←q1',e])]
 ·intro r l q n hn;refine qK (mem hn) fun m hm Z Z Z Z q1=>?_;rw [q1];exact W.r r l q m hm
 ·intro n hn;refine qK (mem hn) fun m hm Z Z Z q1 Z=>?_;rw [q1];exact W.nd m hm
theorem az.upd {P:Params}{sB s s':Shared}{G:Kn}{st:Sr}(S:az P sB G s st){nd:Nd}(hm:nd∈st.nodes){f:Nd→Nd}(F:mV f){b:Addr}(hb:b=nd.a∨b=nd.la)
  (k:∀c o,c≠b→s.heap.get? c=some o→s'.heap.get? c=some o)(hn:eW P s'.heap (f nd)):az P sB G s' (st.upd nd.nm f):=by
 have A:=S.at_;refine b9 (A.node hm) fun N1 N2 N3=>?_;obtain⟨a,⟨o,n,ho⟩,c,⟨es,n',d,d'⟩,e⟩:=A;have nb:∀x,x=st.self∨x=st.dx∨x=st.d→x≠b:=fun x hx z=>by
  rcases hb with rfl |rfl
  ·refine N1 x ?_ z.symm;rcases hx with h |h |h
   ·exact .inl h
   ·exact .inr (.inl h)
   ·exact .inr (.inr (.inl h))
  ·exact N2 x hx z.symm
 refine⟨⟨k _ _ (nb _ (.inl rfl)) a,⟨o,n,k _ _ (nb _ (.inr (.inl rfl))) ho⟩,fun r l q=>(c r l q).of fun o z=>k _ _ ?_ z,⟨es,n',k _ _ (nb _ (.inr (.inr rfl))) d,?_⟩,fun m' hm'=>?_⟩,zC F S.wf _,fun x hx=>S.off x ((eO F st _ x).mp hx)⟩
 ·intro z;rcases hb with rfl |rfl
  ·exact N1 r (.inr (.inr (.inr ⟨r,l,q,rfl⟩))) z.symm
  ·exact S.wf.r r l q nd hm z.symm
 ·have:(st.upd nd.nm f).nodes.map (fun nd=>(nd.nm,D.adr nd.a))=st.nodes.map fun nd=>(nd.nm,D.adr nd.a):=by
   unfold Sr.upd;rw [List.map_map];refine List.map_congr_left fun m Z=>?_;refine b9 (fy F nd.nm m) fun q1 q2 Z=>?_;show(_,D.adr _)=_
   rw [q1,q2]
  rw [this];exact d'
 ·refine ah (List.mem_map.mp hm') fun m hm2 z8=>?_;subst z8
  by_cases z:m.nm=nd.nm
  ·rw [if_pos z,S.wf.nm m hm2 nd hm z];exact hn
  ·rw [if_neg z];have zn:m≠nd:=fun q=>z (by rw [q])
   refine(e m hm2).of fun x o q he=>k x o (fun w=>?_) he
   have M3:=(S.at_.node hm2).2.2 nd hm;have N3':=N3 m hm2;rcases hb with rfl |rfl
   ·rcases q with rfl |rfl |rfl
    ·exact zn (S.wf.a m hm2 nd hm w)
    ·exact N3'.1 w.symm
    ·exact N3'.2.1 w.symm
   ·rcases q with rfl |rfl |rfl
    ·exact M3.2.1 w
    ·exact N3'.2.2 w.symm
    ·exact zn (S.wf.la m hm2 nd hm w)
theorem ax.mut {P:Params}{sB s s':Shared}{GB G G':Kn}{env:Env}{own:List (Str×Addr)}{ρ:Ro}{X:Addr→Prop}(S:ax P sB GB env own aI none ⟨ρ,none,false⟩ s G)(m:Mv X s G s' G')
  (h:∀a,X a→¬Mine env own a∧sB.heap.objs.size≤a):ax P sB GB env own aI none ⟨ρ,none,false⟩ s' G':=by
 obtain⟨base,ρ',S0,wk,L⟩:=S;obtain⟨⟨m1,cm,F,hv⟩,off,inn⟩:=S0;have nm:∀{a},Mine env own a→¬X a:=fun hm hx=>(h _ hx).1 hm
 have hL:Mine env own env.locals:=.inl rfl;refine⟨base.mv m,ρ',⟨⟨m1,cm,⟨?_,F.newL,fun n c e=>?_,F.newC,F.apart,F.nd,F.at_,fun b o e=>m.keep b o (fun x=>?_) (F.keep b o e),F.kind⟩,fun x d e=>?_⟩,⟨?_,fun n c hm=>?_⟩,m.inn⟩,wk,L⟩
 ·refine iJ F.ns fun o es ep ho r=>?_;exact⟨o,es,ep,m.keep _ _ (nm hL) ho,r⟩
 ·refine ah (F.cell n c e) fun o ho r=>?_;exact⟨o,m.keep _ _ (nm (.inr ⟨n,bN e⟩)) ho,r⟩
 ·exact absurd (Heap.lt_size e) (Nat.not_lt.mpr (h _ x).2)
 ·refine cn (hv x d e) fun ok v r rd=>?_;exact⟨ok,v,r,rd.mono m.le⟩
 ·refine iJ F.ns fun o Z Z ho Z=>?_;cases z:G' env.locals with
  |none=>rfl
  |some o'=>
   rcases m.fresh _ _ z with y |y
   ·exact(aa (off.loc.symm.trans y)).elim
   ·exact absurd (Heap.lt_size ho) (Nat.not_lt.mpr y)
 ·refine ah (F.cell n c (F.nd n c hm)) fun o ho Z=>?_;cases z:G' c with
  |none=>rfl
  |some o'=>
   rcases m.fresh _ _ z with y |y
   ·rw [off.cel n c hm]at y;exact(aa y).elim
   ·exact absurd (Heap.lt_size ho) (Nat.not_lt.mpr y)
theorem gU {X:Addr→Prop}{s:Shared}{G:Kn}{a:Addr}{f:Obj→Obj}{t:Nat}(I:G.In s.heap)(hx:X a)(hn:G a=none)(ht:s.toks≤t):Mv X s G {s with heap:=s.heap.update a f,toks:=t} G:=by
 refine⟨⟨_,_,rfl⟩,by rw [cM];exact Nat.le_refl _,ht,fun b o n e=>?_,.refl G,fun b o e=>?_,fun Z Z e=>.inl e⟩
 ·exact(Heap.get?_update_ne _ _ _ _ fun z=>n (by rw [z];exact hx)).trans e
 ·exact(Heap.get?_update_ne _ _ _ _ fun z=>by rw [z,hn]at e;exact(aa e).elim).trans (I b o e)
section
variable {prog:Program}{w:World}{A:Around}{E:Value→Shared→Prop}{sB s:Shared}{G:Kn}{st:Sr}{K:Frag}
theorem jE {nd:Nd}{b:Bool}{Q:Value→Shared→Prop}(X:(KP w.params).In s.heap)(N:eW w.params s.heap nd)(h:∀t,Q (.int nd.np t) {s with toks:=s.toks+1}):wpAny (model prog w) A (getAttr (.ref nd.a) "npredecessors" b) Q E s:=by
 refine b9 N fun z1 e2 Z=>?_;obtain⟨tn,tp,e⟩:=z1
 exact l8 X .npred e e2 rfl rfl (h tp)
theorem oz {nd:Nd}{b:Bool}{Q:Value→Shared→Prop}(X:(KP w.params).In s.heap)(N:eW w.params s.heap nd)(h:Q (.ref nd.la) {s with toks:=s.toks+1}):wpAny (model prog w) A (getAttr (.ref nd.a) "successors" b) Q E s:=by
 refine b9 N fun z2 e2 Z=>?_;obtain⟨tn,tp,e⟩:=z2
 exact l8 X .succ e e2 rfl rfl h
theorem Bh {nd:Nd}{b:Bool}{Q:Value→Shared→Prop}(X:(KP w.params).In s.heap)(N:eW w.params s.heap nd)(h:∀t,Q (.str (mk nd.nm) t) {s with toks:=s.toks+1}):wpAny (model prog w) A (getAttr (.ref nd.a) "node" b) Q E s:=by
 refine b9 N fun z3 e2 Z=>?_;obtain⟨tn,tp,e⟩:=z3
 exact l8 X .node e e2 rfl rfl (h tn)
theorem fI {b:Bool}{Q:Value→Shared→Prop}(X:(KP w.params).In s.heap)(S:fM w.params s.heap st)(h:Q (.ref st.d) {s with toks:=s.toks+1}):wpAny (model prog w) A (getAttr (.ref st.self) "_node2info" b) Q E s:=by
 refine aV S.own fun o n e=>?_;exact lv X .info S.selfo e (by kernel_rfl) rfl h
theorem rV (r:Option (Addr×List (List Nat))):handedIn (lS r)=true:=by cases r<;>rfl
theorem get_ready {b:Bool}{Q:Value→Shared→Prop}(X:(KP w.params).In s.heap)(S:fM w.params s.heap st)(h:Q (lS st.ready) {s with toks:=s.toks+1}):wpAny (model prog w) A (getAttr (.ref st.self) "_ready_nodes" b) Q E s:=by
 refine aV S.own fun o n e=>?_;exact lv X .ready S.selfo e (by kernel_rfl) (rV _) h
theorem rX {b:Bool}{Q:Value→Shared→Prop}(X:(KP w.params).In s.heap)(S:fM w.params s.heap st)(h:∀i t,Q (.int i t) {s with toks:=s.toks+1}):wpAny (model prog w) A (getAttr (.ref st.self) "_npassedout" b) Q E s:=by
 refine aV S.own fun o n e=>?_;exact lv X .passed S.selfo e (by kernel_rfl) rfl (h o.ip o.tp)
theorem yI {b:Bool}{Q:Value→Shared→Prop}(X:(KP w.params).In s.heap)(S:fM w.params s.heap st)(h:∀i t,Q (.int i t) {s with toks:=s.toks+1}):wpAny (model prog w) A (getAttr (.ref st.self) "_nfinished" b) Q E s:=by
 refine aV S.own fun o n e=>?_;exact lv X .fin S.selfo e (by kernel_rfl) rfl (h o.jf o.tf)
theorem cw {nd:Nd}(hm:nd∈st.nodes):foot st nd.a∧foot st nd.la:=⟨.inr (.inr (.inr (.inr ⟨nd,hm,.inl rfl⟩))),.inr (.inr (.inr (.inr ⟨nd,hm,.inr (.inr rfl)⟩)))⟩
theorem tL (f:List (List Nat)→List (List Nat)):mV fun n=>{n with su:=f n.su}:=⟨fun Z=>rfl,fun Z=>rfl,fun Z=>rfl,fun Z=>rfl⟩
theorem jS (i:Int):mV fun n=>{n with np:=i}:=⟨fun Z=>rfl,fun Z=>rfl,fun Z=>rfl,fun Z=>rfl⟩
theorem tt {nd:Nd}(hm:nd∈st.nodes){i:Int}{t:Tok}{Q:Unit→Shared→Prop}(X:(KP w.params).In s.heap)(I:G.In s.heap)(S:az w.params sB G s st)
  (h:∀s',Mv (foot st) s G s' G→az w.params sB G s' (st.upd nd.nm fun n=>{n with np:=i})→Q () s'):wpAny (model prog w) A (setAttr (.ref nd.a) "npredecessors" (.int i t)) Q E s:=by
 have N:=S.at_.nds nd hm;refine b9 N fun z4 e2 l=>?_;obtain⟨tn,tp,e⟩:=z4
 refine b9 (S.at_.node hm) fun nA Z nN=>?_;have fa:=(S.off nd.a (cw hm).1).1;refine lP X .npred e e2 (h _ (gU I (cw hm).1 fa (by lia)) ?_)
 refine S.upd hm (f:=fun n=>{n with np:=i}) (jS i) (.inl rfl) (fun c o z q=>(Heap.get?_update_ne _ _ _ _ z).trans q) ⟨⟨tn,t,?_⟩,(Heap.get?_update_ne _ _ _ _ (nN nd hm).1.symm).trans e2,l.of fun o q=>(Heap.get?_update_ne _ _ _ _ (nN nd hm).2.1.symm).trans q⟩
 rw [Heap.get?_update_self _ e rfl];rfl
theorem cJ.plain {P:Params}{h:Heap}{la:Addr}{xs:List (List Nat)}(x:cJ P h la xs):∃vs:List Value,PlainL h la vs.toArray∧ai P bW vs (xs.map .str)∧vs.length=xs.length:=by
 refine aA x fun vs n e r=>?_;exact⟨vs,⟨_,n,e,rfl,rfl,rfl⟩,r,by have:=r.length;simpa using this⟩
theorem og (vs:List Value) (n:Nat)(v:Value):∃m,Obj.mapSeq (fun a=>a.push v) (aB vs n)=aB (vs++ [v]) m:=⟨if(vs.toArray.push v).size==vs.toArray.size then n else n+1,by
 show(⟨_,_,.seq (vs.toArray.push v) _,_⟩:Obj)=_
 unfold aB
 rw [←List.push_toArray]⟩
theorem mi {la:Addr}{xs:List (List Nat)}{x:List Nat}{t:Tok}{Q:Value→Shared→Prop}(l:cJ w.params s.heap la xs)(hl:xs.length≤1000)(h:∀h',cJ w.params h' la (xs++ [x])→Heap.SameBut la s.heap h'→s.heap.objs.size≤h'.objs.size→Q .none {s with heap:=h'}):
  wpAny (model prog w) A (call (.builtin "list.append") [.ref la,.str (mk x) t]) Q E s:=by
 refine aA l fun vs n e r=>?_;have hlen:vs.length=xs.length:=by have:=r.length;simpa using this
 have hsz:vs.toArray.size≤sizeLine:=by rw [List.size_toArray,sizeLine_eq];omega
 refine xe (Obj.data_mapSeq (o:=aB vs n) rfl (·.push (.str (mk x) t))) fun n' hd'=>?_;refine xe (og vs n (.str (mk x) t)) fun m hm=>?_;refine wpAny_call_entry slot_list_append (s:=s) (T:= "list") ⟨_,e,rfl⟩ entry_list_append ?_ (args_list_append _ _);show wpAny _ _ (updateSeq la (·.push _)>>=fun Z=>ret .none) _ _ s
 refine wpAny_bind (wpAny_updateSeq e rfl (wpAny_pure ⟨.none,rfl,h _ ⟨vs++ [.str (mk x) t],m,?_,?_⟩ (Heap.SameBut.update ..) (by rw [cM];exact Nat.le_refl _)⟩))
 ·rw [Heap.get?_update_self _ e (Obj.isFreed_of_seq hd')];exact congrArg some hm
 ·rw [List.map_append];exact r.append (.cons (.str _ _) .nil)
end
noncomputable abbrev SO (P:Params)(sB:Shared)(GB:Kn)(env:Env)(own:List (Str×Addr))(ρ:Ro)(s:Shared)(G:Kn):Prop:=ax P sB GB env own aI none ⟨ρ,none,false⟩ s G
theorem ax.plain {P:Params}{sB s:Shared}{GB G:Kn}{env:Env}{own:List (Str×Addr)}{ρ:Ro}(S:SO P sB GB env own ρ s G):a7 P sB.heap env own G s.heap ρ:=by
 refine aR S.ex fun ρ' S0 wk L=>?_;exact S0.weak wk
theorem ax.inn {P:Params}{sB s:Shared}{GB G:Kn}{env:Env}{own:List (Str×Addr)}{ρ:Ro}(S:SO P sB GB env own ρ s G):G.In s.heap:=S.plain.inn
theorem ax.up {P:Params}{sB s:Shared}{GB G:Kn}{env:Env}{own:List (Str×Addr)}{ρ:Ro}(S:SO P sB GB env own ρ s G):Up sB s:=by
 refine aA S.plain.ex fun m cm F Z=>?_;exact⟨S.base.same,S.base.size,S.base.tk,F.keep⟩
theorem ax.weaker {P:Params}{sB s:Shared}{GB G:Kn}{env:Env}{own:List (Str×Addr)}{ρ ρ':Ro}(S:SO P sB GB env own ρ s G)(le:∀x d,ρ' x=some d→ρ x=some d):SO P sB GB env own ρ' s G:=
 ⟨S.base,ρ',S.plain.weak le,fun Z Z e=>e,⟨rfl,rfl⟩⟩
section
variable {prog:Program}{w:World}{K:Frag}{mg mb:Str→Option Value}{k:Nat}{R:bm}{A:Around}{env:Env}{own:List (Str×Addr)}{s sB:Shared}{G GB:Kn}{E:Value→Shared→Prop}{sc:aq}{ρ:Ro}
theorem nm {M:Model}{x:Str}{pos:Pos}{d:D}{Q:Value→Shared→Prop}(S:SO w.params sB GB env own ρ s G)(e:ρ x=some d)(h:∀v,Rd w.params G v d→Q v s):wpAny M A (eval (.Name x pos) env) Q E s:=by
 refine cn (S.plain.env.vars x d e) fun ok v r rd=>?_;exact dR S.plain.env.kind r (cI ok) (h v rd)
theorem au {M:Model}{x:Str}{pos:Pos}{a:Addr}{Q:Value→Shared→Prop}(S:SO w.params sB GB env own ρ s G)(e:ρ x=some (.adr a))(h:Q (.ref a) s):wpAny M A (eval (.Name x pos) env) Q E s:=
 nm S e fun v r=>by obtain rfl:=r.adr_i;exact h
theorem sto {x:Str}{p:Pos}{v:Value}{d:D}{Q:Unit→Shared→Prop}(hh:A.handled=none)(C:be sc env own)(S:SO w.params sB GB env own ρ s G)(r:Rd w.params G v d)(hx:bF sc x=true)
  (h:∀s',SO w.params sB GB env own (ad ρ x d) s' G→Mv (Mine env own) s G s' G→Q () s'):wpAny (model prog w) A (assign (.Name x p) env v) Q E s:=by
 have hb:bo sc aI ⟨ρ,none,false⟩ (.Name x p) d=some ⟨ad ρ x d,none,false⟩:=by
  unfold bo aG;dsimp only;rw [hx];rfl
 exact wpAny_mono (cK hh C S r hb) (fun Z s' z=>h s' z.1 z.2) fun Z Z z=>z
theorem Fn (H:aw prog w K mg mb k R)(rm:am k A)(hs:aD sc env)(hB:Cx K mg mb sB)(S:SO w.params sB GB env own ρ s G){e:PySem.Expr}{d:D}{Q:Value→Shared→Prop}(q:R.ev sc ρ e=some d)
  (h:∀v s₁ G₁,ae s G s₁ G₁→Rd w.params G₁ v d→SO w.params sB GB env own ρ s₁ G₁→Q v s₁):wpAny (model prog w) A (eval e env) Q E s:=
 bI (H.ev sc ρ e d q A env s G E rm (S.cx hB) hs S.plain.env) fun v s₁ G₁ g r=>h v s₁ G₁ g r (S.grew g)
theorem bP {M:Model}{t v:PySem.Expr}{pos:Pos}{Q:Flow→Shared→Prop}(h:wpAny M A (eval v env) (fun u s₁=>wpAny M A (assign t env u) (fun Z=>Q .next) E s₁) E s)
  (hsw:swapsWithSole [t] v pos.line env=pure false)(hw:swappedStores [t] v env=pure none)(ht:(assignEach [t] env).map (·.2)=[assign t env]):wpAny M A (exec (.Assign [t] v pos) env) Q E s:=by
 refine wpAny_Assign_stores (wpAny_mono h (fun u s₁ z=>?_) fun Z Z z=>z) hsw hw
 rw [ht];exact z
theorem bU {M:Model}{o:PySem.Expr}{attr:Str}{pos:Pos}{v:Value}{Q:Unit→Shared→Prop}(h:wpAny M A (eval o env) (fun ov s₁=>wpAny M A (setAttr ov attr v) Q E s₁) E s):wpAny M A (assign (.Attribute o attr pos) env v) Q E s:=by
 have e:assign (.Attribute o attr pos) env v=(do
  let ov ←holding [v] (eval o env)
  standAt pos.atName
  holding [v,ov] (setAttr ov attr v)
  release [v,ov] []):=rfl
 rw [e];exact wpAny_bind (wpAny_holding (wpAny_mono h (fun ov s₁ z=>wpAny_bind (wpAny_standAt (wpAny_bind (wpAny_holding (wpAny_mono z (fun Z Z y=>wpAny_release y) fun Z Z z=>z))))) fun Z Z z=>z))
theorem bB {o:PySem.Expr}{attr:Str}{pos:Pos}{Q:Value→Shared→Prop}(hb:attributeBase o attr env (eval o env)=eval o env)(h:wpAny (model prog w) A (eval o env) (fun ov s₁=>wpAny (model prog w) A (getAttr ov attr true) Q E s₁) E s):
  wpAny (model prog w) A (eval (.Attribute o attr pos) env) Q E s:=by
 have e:eval (.Attribute o attr pos) env=(do
  let o' ←attributeBase o attr env (eval o env)
  standAt pos.atName
  let r ←holding [o'] (getAttr o' attr true)
  letTemporaryGo o o' r
  pure r):=rfl
 rw [e,hb];exact wpAny_bind (wpAny_mono h (fun ov s₁ z=>wpAny_bind (wpAny_standAt (wpAny_bind (wpAny_holding (wpAny_mono z (fun Z Z y=>wpAny_bind (wpAny_letTemporaryGo (wpAny_pure y))) fun Z Z z=>z))))) fun Z Z z=>z)
theorem tQ {o:PySem.Expr}{x:Str}{apos pos:Pos}{args:List PySem.Expr}{Q:Value→Shared→Prop}(hb:attributeBase o x env (eval o env)=eval o env)(hl:(apos.endLine==pos.line)=true)
  (hfew:((backTo pos (starEach args env)).all (fun x=> !x.1)&&(backToKw pos (keywordEach [] env)).all (fun x=>x.1.isSome)&&decide (args.length+([]:List Keyword).length+(if([]:List Keyword).isEmpty then 0 else 1)<30))=true)
  (h:wpAny (model prog w) A (eval o env) (fun ov s₁=> ∀pl,wpAny (model prog w) A (getMethod ov x pl) (fun p s2=>wpAny (model prog w) A (callWith pos p.1 p.2 (backTo pos (starEach args env)) []) Q E s2) E s₁) E s):
  wpAny (model prog w) A (eval (.Call (.Attribute o x apos) args [] pos) env) Q E s:=by
 rw [arm_eval_Call,hb];refine wpAny_bind (wpAny_mono h (fun ov s₁ z=>wpAny_bind (wpAny_standAt ?_)) fun Z Z z=>z)
 have hform:methodCallForm (args.length+([]:List Keyword).length) (backTo pos (starEach args env)) (backToKw pos (keywordEach [] env))=true:=hfew;have hpos:methodCallPos true o env apos pos=pure pos:=by unfold methodCallPos;simp [hl]
 unfold methodCall;rw [hform];refine wpAny_bind (wpAny_holding (wpAny_mono (z _) (fun p s2 y=>?_) fun Z Z z=>z))
 exact wpAny_bind (wpAny_of_eq hpos y)
theorem AF (H:aw prog w K mg mb k R)(rm:am k A)(hs:aD sc env)(hB:Cx K mg mb sB)(S:SO w.params sB GB env own ρ s G){Gx:Kn}(le:G.Le Gx)(I:Gx.In s.heap){ρx:Ro}(V:∀x d,ρx x=some d→ca x=true∧∃v,em s.heap env x v∧Rd w.params Gx v d)
  {e:PySem.Expr}{d:D}{Q:Value→Shared→Prop}(q:R.ev sc ρx e=some d)(c:cW d=true∨∃a,d=.adr a)
  (h:∀v s₁,ae s G s₁ G→Rd w.params bW v d→SO w.params sB GB env own ρ s₁ G→Q v s₁):wpAny (model prog w) A (eval e env) Q E s:=
 bI (H.ev sc ρx e d q A env s Gx E rm (S.cx hB) hs ⟨V,S.plain.env.kind,I⟩) fun v s₁ G₁ g r=>by
  have g':ae s G s₁ G:=⟨g.same,g.size,g.tk,g.keep,.refl G,fun a o e=>g.keep _ _ (S.inn a o e),fun Z Z e=>.inl e⟩
  refine h v s₁ g' ?_ (S.grew g');rcases c with c |⟨a,rfl⟩
  ·exact ix c r bW
  ·obtain rfl:=r.adr_i;exact .adr a
theorem CS (H:aw prog w K mg mb k R)(rm:am k A)(hs:aD sc env)(hB:Cx K mg mb sB)(S:SO w.params sB GB env own ρ s G){Gx:Kn}(le:G.Le Gx)(I:Gx.In s.heap){ρx:Ro}(V:∀x d,ρx x=some d→ca x=true∧∃v,em s.heap env x v∧Rd w.params Gx v d)
  {e:PySem.Expr}{b:Bool}{Q:Bool→Shared→Prop}(q:R.ts sc ρx e=some b)
  (h:∀s₁,ae s G s₁ G→SO w.params sB GB env own ρ s₁ G→Q b s₁):wpAny (model prog w) A (isTrue e env (eval e env)) Q E s:=
 jT (H.ts sc ρx e b q A env s Gx E rm (S.cx hB) hs ⟨V,S.plain.env.kind,I⟩) fun s₁ G₁ g=>by
  have g':ae s G s₁ G:=⟨g.same,g.size,g.tk,g.keep,.refl G,fun a o e=>g.keep _ _ (S.inn a o e),fun Z Z e=>.inl e⟩
  exact h s₁ g' (S.grew g')
theorem iL {P:Params}{Gx:Kn}{h:Heap}{x:Str}{a:Addr}{d:D}(S:aP P G h env ρ)(le:G.Le Gx)(e:ρ x=some (.adr a))(r:Rd P Gx (.ref a) d):∀y d',ad ρ x d y=some d'→ca y=true∧∃v,em h env y v∧Rd P Gx v d':=by
 intro y d' hy;unfold ad at hy;cases q:ar y x with
 |true=>
  rw [q]at hy;obtain rfl:=Option.some.inj hy;have:=(ao _ _).mp q;subst this;refine cn (S.vars _ _ e) fun ok v hv rd=>?_;obtain rfl:=rd.adr_i;exact⟨ok,_,hv,r⟩
 |false=>
  rw [q]at hy;refine cn (S.vars _ _ hy) fun ok v hv rd=>?_;exact⟨ok,v,hv,rd.mono le⟩
end
theorem Fw (P:Params)(a v:Value):dG (KP P) 77 (an 77) (aO 77) (bj 77) [a,v] (pure ((aO 77).zip [a,v])):=
 ek (by kernel_rfl) (by kernel_rfl) (by kernel_rfl) (by kernel_rfl) (by kernel_rfl) (by kernel_rfl) (by kernel_rfl) (by kernel_rfl)
theorem pZ (P:Params):makesIn (KP P) 81=true:=by kernel_rfl
theorem Bd (P:Params):findIn (KP P) (.ref 81) "__init__" =some (some (.ref 77)):=by kernel_rfl
theorem zD (P:Params):typeIn (KP P) (.ref 77)=some (.type "function"):=by kernel_rfl
section
variable {prog:Program}{w:World}{mg mb:Str→Option Value}{k:Nat}{A:Around}{s sB:Shared}{G:Kn}{E:Value→Shared→Prop}
theorem cZ {ps:List Str}{vs:List Value}{args:List D}(I:G.In s.heap)(r:ai w.params G vs args)(E:Value→Shared→Prop):
  wpAny (model prog w) A (pure (ps.zip vs)) (fun b s₁=> ∃vs' G₁,b=ps.zip vs'∧ae s G s₁ G₁∧ai w.params G₁ vs' args) E s:=wpAny_pure ⟨vs,G,rfl,.refl I,r⟩
theorem jH {M:Model}{env:Env}{pos:Pos}{Q:Value→Shared→Prop}(h:Q (.ref s.heap.objs.size) {s with heap:=s.heap.push (aB [] 0)}):wpAny M A (eval (.List [] pos) env) Q E s:=
 wpAny_List (wpAny_items_nil ⟨by rw [sizeLine_eq];decide,h⟩)
theorem kn {a dx:Addr}{sl sl':Array (Option Value)}{n:Str}{p i:Nat}{v:Value}{Q:Unit→Shared→Prop}(X:(KP w.params).In s.heap)(F:bM n p i)(I:G.In s.heap)(hn:G a=none)
  (ho:s.heap.get? a=some (gm dx sl))(hd:s.heap.get? dx=some emptyDict)(hs:(sl++Array.replicate (i+1 - sl.size) none).setIfInBounds i (some v)=sl')
  (h:∀s',Mv (· =a) s G s' G→s'.heap.get? a=some (gm dx sl')→Q () s'):
  wpAny (model prog w) A (setAttr (.ref a) n v) Q E s:=by
 refine lP X F ho hd (h _ (gU I rfl hn (by lia)) ?_)
 rw [Heap.get?_update_self _ ho rfl,←hs]
theorem Mv.back {X:Addr→Prop}{s s':Shared}{G G':Kn}(m:Mv X s G s' G'):Mv X s G s' G:=⟨m.same,m.size,m.tk,m.keep,.refl G,fun a o e=>m.inn a o (m.le a o e),fun Z Z e=>.inl e⟩
theorem dc.g {sc:Scope}{env:Env}{own:List (Str×Addr)}{cf:bE}{ρ:Ro}{s₁ s':Shared}{G₁:Kn}(B:dc prog w k sB A sc env own cf ρ s₁ G₁ s')(I:G₁.In s₁.heap):ae s₁ G₁ s' G₁:=
 ⟨B.same,B.size,B.tk,B.keep,.refl _,fun a o e=>B.keep a o (I a o e),fun Z Z e=>.inl e⟩
set_option tactic.hygienic true in
theorem ug {x dx:Addr}{n:List Nat}{t:Tok}{R:Result→Shared→Prop}(rm:am (k+1) A)(hB:Cx (KP w.params) mg mb sB)(U:Up sB s)(I:G.In s.heap)(hx:s.heap.get? x=some (gm dx #[]))(hd:s.heap.get? dx=some emptyDict)
  (hn:G x=none)(hz:sB.heap.objs.size≤x)
  (h:∀s' la,Mv (· =x) s G s' G→s.heap.objs.size≤la→eW w.params s'.heap ⟨n,x,dx,0,la,[]⟩→R (.ok (.ret .none)) s'):
  codeAny (model prog w) A (.call (.ref 77) ⟨[.ref x,.str (mk n) t],[]⟩) R s:=by
 refine oK aI (args:=[.adr x,.str n]) (Fw _ _ _) (by kernel_rfl) rm hB U I (fun E=>cZ I (.cons (.adr x) (.cons (.str n t) .nil)) E) fun env own s₁ G₁ s' E' g B hE=>?_
 have lx:x<s.heap.objs.size:=Heap.lt_size hx;have nx:∀a,a=x→¬Mine env own a∧sB.heap.objs.size≤a:=fun a e=>by
  subst e;exact⟨fun m=>Nat.lt_irrefl _ (Nat.lt_of_lt_of_le lx (Nat.le_trans g.size (B.mine _ m))),hz⟩
 have g1:G₁ x=none:=by
  cases q:G₁ x with
  |none=>rfl
  |some o=>
   rcases g.fresh _ _ q with z |z
   ·exact(aa (hn.symm.trans z)).elim
   ·exact absurd lx (Nat.not_lt.mpr z)
 have hx1:=B.keep _ _ (g.keep _ _ hx);have hd1:=B.keep _ _ (g.keep _ _ hd);have ne:dx≠x:=bq hd hx (by simp)
 have S1:=B.st;refine wpAny_execs_cons (bP (nm (d:=.str n) S1 (by kernel_rfl) fun v rv=>bU (au (a:=x) S1 (by kernel_rfl) (kn (sl':= #[some v]) (S1.cx hB).kin .node S1.inn g1 hx1 hd1 (by kernel_rfl) fun s2 m2 hx2=>?_))) rfl rfl rfl)
 obtain⟨_,rfl⟩:=rv.str_i;rename_i t1;have S2:=S1.mut m2 nx;have hd2:=m2.keep _ _ ne hd1;refine wpAny_execs_cons (bP (wpAny_Constant_int (bU ?_)) rfl rfl rfl);have S2':=S2.grew (.toks S2.inn (s2.toks+1) (Nat.le_add_right _ _));refine au (a:=x) S2' (by kernel_rfl) (kn (sl':= #[some (.str (mk n) t1),some (.int 0 s2.toks)]) (S2'.cx hB).kin .npred S2'.inn g1 hx2 hd2 (by kernel_rfl) fun s3 m3 hx3=>?_)
 have S3:=S2'.mut m3 nx;have hd3:=m3.keep _ _ ne hd2;refine wpAny_execs_cons (bP (jH (bU ?_)) rfl rfl rfl);have p3:ae s3 G₁ {s3 with heap:=s3.heap.push (aB [] 0)} G₁:=ae.push S3.inn _ s3.toks (Nat.le_refl _)
 have S3':=S3.grew p3;refine au (a:=x) S3' (by kernel_rfl) (kn (sl':= #[some (.str (mk n) t1),some (.int 0 s2.toks),some (.ref s3.heap.objs.size)]) (S3'.cx hB).kin .succ S3'.inn g1 (p3.keep _ _ hx3) (p3.keep _ _ hd3) (by kernel_rfl) fun s4 m4 hx4=>?_)
 refine wpAny_execs_nil ?_;have hla:(s3.heap.push (aB [] 0)).get? s3.heap.objs.size=some (aB [] 0):=Heap.get?_push_size _ rfl;have sz3:s.heap.objs.size≤s3.heap.objs.size:=Nat.le_trans g.size (Nat.le_trans B.size (Nat.le_trans m2.size m3.size));refine h s4 s3.heap.objs.size ?_ sz3 ⟨⟨t1,_,hx4⟩,m4.keep _ _ ne (p3.keep _ _ hd3),⟨[],0,m4.keep _ _ (fun z=>Nat.lt_irrefl _ (Nat.lt_of_lt_of_le lx (z▸sz3))) hla,.nil⟩⟩
 exact(((((((g.mv.trans (B.g g.inn).mv).trans m2).trans (ae.toks S2.inn (s2.toks+1) (Nat.le_add_right _ _)).mv).trans m3).trans p3.mv).trans m4)).back
end
noncomputable abbrev Ks:=List (List Nat×D)
noncomputable def bT (P:Params)(h:Heap)(d:Addr)(ks:Ks):Prop:= ∃es n,h.get? d=some (cR es n)∧dt P bW es ks
noncomputable def ff (ks:Ks)(x:List Nat):Option D:=(ks.find? fun p=>aF p.1 x).map (·.2)
section
variable {prog:Program}{w:World}{A:Around}{E:Value→Shared→Prop}{s:Shared}{G:Kn}{d:Addr}{ks:Ks}{x:List Nat}{t:Tok}
theorem bT.of {P:Params}{h h':Heap}(a:bT P h d ks)(k:∀o,h.get? d=some o→h'.get? d=some o):bT P h' d ks:=let⟨es,n,e,r⟩:=a;⟨es,n,k _ e,r⟩
theorem Kn.add_in {G:Kn}{h:Heap}{a:Addr}{o:Obj}(I:G.In h)(e:h.get? a=some o):(G.add a o).In h:=fun b ob q=>by
 unfold Kn.add at q;by_cases z:b=a
 ·rw [if_pos z]at q;obtain rfl:=Option.some.inj q;rw [z];exact e
 ·rw [if_neg z]at q;exact I b ob q
theorem bT.see (a:bT w.params s.heap d ks)(I:G.In s.heap)(hn:G d=none)(hs:(d==sysModules)=false)(nd:(ks.map (·.1)).Nodup):∃o,s.heap.get? d=some o∧G.Le (G.add d o)∧(G.add d o).In s.heap∧Rd w.params (G.add d o) (.ref d) (.dict ks):=by
 refine aA a fun es n e r=>?_;exact⟨_,e,Kn.le_add hn,Kn.add_in I e,.dict Kn.add_self ⟨hs,nd⟩ (r.mono (iA _))⟩
theorem bT.dictOf (prog:Program)(a:bT w.params s.heap d ks)(nd:(ks.map (·.1)).Nodup):∃kvs:List (Str×Value),s.heap.DictOf (strKind prog w) d kvs∧kvs.map (·.1)=ks.map (fun p=>mk p.1)∧ai w.params bW (kvs.map (·.2)) (ks.map (·.2)):=by
 refine aA a fun es n e r=>?_;refine eN (om prog r) fun kvs p y z f=>?_;refine⟨kvs,⟨_,es.toArray,n,e,⟨rfl,rfl,rfl⟩,rfl,fun q hq=>f q (by simpa using hq),by simpa using p,?_⟩,y,z⟩
 rw [y];have:=iU nd;rw [List.map_map]at this;exact this
theorem bT.back (prog:Program){h:Heap}{kvs:List (Str×Value)}(m:h.DictOf (strKind prog w) d kvs)(e:kvs.map (·.1)=ks.map (fun p=>mk p.1))(r:ai w.params bW (kvs.map (·.2)) (ks.map (·.2))):bT w.params h d ks:=lT (G:=bW) m e r
theorem ym {kvs:List (Str×Value)}(hk:kvs.map (·.1)=ks.map (fun p=>mk p.1))(hx:x∉ks.map (·.1)):(kvs.any fun kv=>decide (kv.1=mk x))=false:=by
 rw [List.any_eq_false];intro kv hm hc;have h1:kv.1=mk x:=of_decide_eq_true hc;have:mk x∈ks.map (fun p=>mk p.1):=by rw [←hk,←h1];exact List.mem_map_of_mem hm
 refine ah (List.mem_map.mp this) fun p hp e=>?_;exact hx (List.mem_map.mpr ⟨p,hp,iC e⟩)
theorem qz {v:Value}{dv:D}{Q:Unit→Shared→Prop}(a:bT w.params s.heap d ks)(nd:(ks.map (·.1)).Nodup)(hx:x∉ks.map (·.1))(hl:ks.length≤1000)(rv:Rd w.params bW v dv)
  (h:∀h',bT w.params h' d (ks++ [(x,dv)])→Heap.SameBut d s.heap h'→Q () {s with heap:=h',toks:=s.toks+1}):wpAny (model prog w) A (setItem (.ref d) (.str (mk x) t) v) Q E s:=by
 refine aR (a.dictOf prog nd) fun kvs hd hk hv=>?_;have hlen:kvs.length=ks.length:=by have:=congrArg List.length hk;simpa using this
 refine wpAny_setItem_pairs (knd:=strKind prog w) (k:=mk x) (strKind_is prog w _ _) hd (fun h' hd' hs=>h h' ?_ hs) (by rw [sizeLine_eq];lia)
 unfold stored at hd';rw [ym hk hx]at hd';refine bT.back prog hd' ?_ ?_
 ·simp [hk]
 ·simp only [Bool.false_eq_true,if_false,List.map_append,List.map_cons,List.map_nil];exact hv.append (.cons rv .nil)
end
section
variable {prog:Program}{w:World}{K:Frag}{mg mb:Str→Option Value}{k:Nat}{R:bm}{A:Around}{env:Env}{own:List (Str×Addr)}{s sB:Shared}{G GB:Kn}{E:Value→Shared→Prop}{sc:aq}{ρ:Ro}{st:Sr}
theorem u4 (args:Args):(Code.builtin "type.__call__" args).cUnits=1:=by first |rfl |exact plainId_units (by decide+kernel) args
theorem am.made {k:Nat}{A:Around}{C:Addr}{args:List Value}(r:am (k+1) A):am k (A.under (.builtin "type.__call__" ⟨.ref C::args,[]⟩)):=
 ⟨r.hh,by rw [depth_under_kw];have:=r.hd;lia,by have:=r.hu;show A.units+(Code.builtin "type.__call__" _).cUnits+20*k+200<cLine;rw [u4];lia⟩
theorem jN {C:Addr}{pos:Pos}{args:List PySem.Expr}{ds:List D}{first:List Value}{Q:Value→Shared→Prop}(q:bi (R.ev sc ρ) args=some ds)
  (h:wpAny (model prog w) A (spliced (backTo pos (starEach args env))) (fun vs s₁=>Makes (model prog w) s₁.heap C∧wpAny (model prog w) A (call (.ref C) (first++vs)) Q E s₁) E s):
  wpAny (model prog w) A (callWith pos (.ref C) first (backTo pos (starEach args env)) []) Q E s:=by
 unfold callWith;refine wpAny_bind (wpAny_holding (fP q (wpAny_mono h (fun vs s₁ h1=>wpAny_bind (wpAny_standAt ?_)) fun Z Z z=>z)))
 refine xa h1 fun Y h2=>?_;rw [fB args ds pos q];refine lM Y.obj fun oc od cd sl hC Z=>?_;refine wpAny_bind ?_;unfold keeperOf;refine wpAny_bind (wpAny_load hC ?_);refine wpAny_bind (Y.call.here ?_);refine wpAny_pure ?_;have tail:∀{t:Sem Value},wpAny (model prog w) A t Q E s₁→wpAny (model prog w) A (t>>=fun r=>holding [r] point>>=fun Z=>pure r) Q E s₁:=
  fun ht=>wpAny_bind (wpAny_mono ht (fun r s2 hr=>wpAny_bind (wpAny_holding (wpAny_point (wpAny_pure hr)))) fun Z Z x=>x)
 exact tail h2
theorem tV {n:List Nat}{t:Tok}{Q:Value→Shared→Prop}(rm:am (k+2) A)(hB:Cx (KP w.params) mg mb sB)(U:Up sB s)(I:G.In s.heap)
  (h:∀s' nd,ae s G s' G→eW w.params s'.heap nd→nd.nm=n→nd.np=0→nd.su=[]→s.heap.objs.size≤nd.a→s.heap.objs.size≤nd.dx→s.heap.objs.size≤nd.la→Q (.ref nd.a) s'):
  wpAny (model prog w) A (call (.ref 81) [.str (mk n) t]) Q E s:=by
 have X:=(U.cx hB).kin;obtain⟨hh,g,d,tk,os⟩:=s;refine wpAny_call (make_core (makes_of X (pZ _)) (looks_findIn X (Bd _)) (fun self=>bind_fn X self (zD _)) (.inl rfl) ?_)
 have G1:ae (⟨hh,g,d,tk,os⟩:Shared) G ⟨hh.push emptyDict,g,d,tk,os⟩ G:=ae.push I emptyDict tk (Nat.le_refl _);have G2:ae (⟨hh.push emptyDict,g,d,tk,os⟩:Shared) G ⟨(hh.push emptyDict).push (instObj 81 hh.objs.size),g,d,tk,os⟩ G:=ae.push G1.inn (instObj 81 hh.objs.size) tk (Nat.le_refl _);have G3:=G1.trans G2;have sz:(hh.push emptyDict).objs.size=hh.objs.size+1:=Heap.size_push _ _;refine ug (dx:=hh.objs.size) rm.made hB (U.grew G3) G3.inn ?_ ?_ ?_ ?_ fun s' la m hla nd=>?_
 ·show((hh.push emptyDict).push (instObj 81 hh.objs.size)).get? (hh.objs.size+1)=_
  rw [←sz,Heap.get?_push_size _ rfl]
 ·show((hh.push emptyDict).push (instObj 81 hh.objs.size)).get? hh.objs.size=_
  exact Heap.get?_push_of_some _ (Heap.get?_push_size _ rfl)
 ·exact Kn.none_ge I (Nat.le_succ _)
 ·exact Nat.le_trans U.size (Nat.le_succ _)
 ·have sz2:((hh.push emptyDict).push (instObj 81 hh.objs.size)).objs.size=hh.objs.size+2:=by rw [Heap.size_push,sz]
  refine⟨rfl,h s' _ ?_ nd rfl rfl rfl (Nat.le_succ _) (Nat.le_refl _) ?_⟩
  ·have t:=G3.mv (X:=(· =hh.objs.size+1)) |>.trans m
   exact⟨t.same,t.size,t.tk,fun b o e=>t.keep b o (fun z=>by have:=Heap.lt_size e;exact absurd this (Nat.not_lt.mpr (by rw [z];exact Nat.le_succ _))) e,.refl _,t.inn,t.fresh⟩
  ·refine Nat.le_trans ?_ hla;show hh.objs.size≤((hh.push emptyDict).push (instObj 81 hh.objs.size)).objs.size
   rw [sz2];lia
end
noncomputable def R0:bm:=av (fun Z Z=>none) (fun Z=>none) 9
theorem fS (prog:Program)(w:World)(K:Frag)(mg mb:Str→Option Value) (k:Nat):aw prog w K mg mb k R0:=gQ _ _ (fun Z Z Z e=>by exact(aa e).elim) (fun Z Z e=>by exact(aa e).elim) 9 (fun h=>absurd h (by decide+kernel))
noncomputable def Sr.dks (st:Sr):Ks:=st.nodes.map fun nd=>(nd.nm,.adr nd.a)
noncomputable def Sr.find (st:Sr)(x:List Nat):Option Nd:=st.nodes.find? fun nd=>aF nd.nm x
theorem kz (st:Sr)(x:List Nat):ff st.dks x=(st.find x).map fun nd=>D.adr nd.a:=by
 unfold ff Sr.dks Sr.find;rw [List.find?_map];cases q:List.find? ((fun p=>aF p.1 x)∘fun(nd:Nd)=>(nd.nm,D.adr nd.a)) st.nodes with
 |none=>
  have q':List.find? (fun nd=>aF nd.nm x) st.nodes=none:=q
  rw [q'];rfl
 |some nd=>
  have q':List.find? (fun nd=>aF nd.nm x) st.nodes=some nd:=q
  rw [q'];rfl
theorem jG {st:Sr}{x:List Nat}{nd:Nd}(h:st.find x=some nd):nd∈st.nodes∧nd.nm=x:=⟨List.mem_of_find?_eq_some h,(bf _ _).mp (List.find?_some (p:=fun nd:Nd=>aF nd.nm x) h)⟩
theorem hO {st:Sr}{x:List Nat}(h:st.find x=none):x∉st.nodes.map (·.nm):=fun hm=>by
 refine ah (List.mem_map.mp hm) fun nd hn e=>?_;exact absurd ((bf _ _).mpr e) (List.find?_eq_none.mp h nd hn)
theorem gG {st:Sr}(W:st.WF){nd:Nd}(hm:nd∈st.nodes):st.find nd.nm=some nd:=by
 cases q:st.find nd.nm with
 |none=>exact absurd (List.mem_map_of_mem hm) (hO q)
 |some n=>obtain⟨a,b⟩:=jG q;rw [W.nm n a nd hm b]
theorem dT (st:Sr):st.dks.map (·.1)=st.nodes.map (·.nm):=by unfold Sr.dks;rw [List.map_map];rfl
structure uR (n:Nat)(st st':Sr)(nd:Nd)(x:List Nat):Prop where
 self:st'.self=st.self
 dx:st'.dx=st.dx
 d:st'.d=st.d
 ready:st'.ready=st.ready
 mem:nd∈st'.nodes
 nm:nd.nm=x
 nodes:(st'.nodes=st.nodes)∨(x∉st.nodes.map (·.nm)∧nd.np=0∧nd.su=[]∧st'.nodes=st.nodes++ [nd])
 foot:∀a,foot st' a→Mine.foot st a∨n≤a
section
variable {prog:Program}{w:World}{mg mb:Str→Option Value}{k:Nat}{A:Around}{env:Env}{own:List (Str×Addr)}{s sB:Shared}{G GB:Kn}{E:Value→Shared→Prop}{sc:aq}{ρ:Ro}{st:Sr}
theorem qA {d:Addr}{ks:Ks}{x:List Nat}{t:Tok}{Q:Value→Shared→Prop}(a:bT w.params s.heap d ks)(nd:(ks.map (·.1)).Nodup)(hs:(d==sysModules)=false)
  (h:∀v,(match ff ks x with |some dv=>Rd w.params bW v dv |none=>v=.none)→Q v {s with toks:=s.toks+1}):wpAny (model prog w) A (call (.builtin "dict.get") [.ref d,.str (mk x) t]) Q E s:=by
 refine aR (a.dictOf prog nd) fun kvs hof hk hv=>?_;have fv:=ja (G:=bW) (w:=w) x hk hv;refine call_meetsIn F.slot_dict_get hof.typeIs F.entry_dict_get (F.args_dict_get_2 _ _) (meets_dict_get (strKind prog w) (k:=mk x) d (strKind_is prog w _ _) hs) ⟨_,hof.mapOf,h _ ?_⟩;unfold ff;cases f:ks.find? (fun p=>aF p.1 x)with
 |some p=>
  rw [f]at fv;refine ah fv fun v hv rv=>?_;rw [hv];exact rv
 |none=>
  rw [f]at fv;dsimp only at fv;rw [fv];rfl
theorem az.add {s':Shared}(S:az w.params sB G s st)(U:Up sB s)(I:G.In s.heap){nd:Nd}(hx:nd.nm∉st.nodes.map (·.nm))(ha:s.heap.objs.size≤nd.a)(hdx:s.heap.objs.size≤nd.dx)(hla:s.heap.objs.size≤nd.la)
  (hn:eW w.params s'.heap nd)(hd:bT w.params s'.heap st.d (st.dks++ [(nd.nm,.adr nd.a)]))(k:∀b o,b≠st.d→s.heap.get? b=some o→s'.heap.get? b=some o):
  az w.params sB G s' {st with nodes:=st.nodes++ [nd]}:=by
 have A:=S.at_;have W:=S.wf;have dM:∀{a b:Addr},Mine.foot st a→s.heap.objs.size≤b→a≠b:=fun{a b} f h z=>Nat.lt_irrefl _ (Nat.lt_of_lt_of_le (S.lt f) (z▸h))
 have fd:Mine.foot st st.d:=.inr (.inr (.inl rfl));have fdx:Mine.foot st st.dx:=.inr (.inl rfl);have fn:∀n∈st.nodes,Mine.foot st n.a∧Mine.foot st n.la:=fun n h=>cw h
 have nself:st.self≠st.d:=by
  refine aA A.dct fun es n e Z=>?_;exact bq A.selfo e (by simp)
 refine⟨⟨k _ _ nself A.selfo,?_,fun r l q=>(A.rdy r l q).of fun o z=>k _ _ ?_ z,?_,fun m hm=>?_⟩,⟨?_,?_,?_,?_,?_,W.d,?_,W.sys⟩,fun a h=>?_⟩
 ·refine aV A.own fun o n e=>?_;exact⟨o,n,k _ _ W.d e⟩
 ·refine aA A.dct fun es n e Z=>?_;refine aA (A.rdy r l q) fun vs n' e' Z=>?_;exact bq e' e (by simp)
 ·have e2:(st.nodes++ [nd]).map (fun nd=>(nd.nm,D.adr nd.a))=st.dks++ [(nd.nm,.adr nd.a)]:=by unfold Sr.dks;simp
  show bT w.params s'.heap st.d ((st.nodes++ [nd]).map fun nd=>(nd.nm,D.adr nd.a))
  rw [e2];exact hd
 ·rcases List.mem_append.mp hm with h |h
  ·refine(A.nds m h).of fun a o q e=>k a o (fun z=>?_) e
   refine b9 (A.node h) fun n1 n2 Z=>?_;rcases q with rfl |rfl |rfl
   ·exact n1 _ (.inr (.inr (.inl rfl))) z
   ·exact(W.nd m h).1 z
   ·exact n2 _ (.inr (.inr rfl)) z
  ·cases List.mem_singleton.mp h;exact hn
 ·rw [List.map_append,List.nodup_append];refine⟨W.nms,by simp,fun a ha b hb=>?_⟩
  simp only [List.map_cons,List.map_nil,List.mem_singleton]at hb;subst hb;exact fun z=>hx (z▸ha)
 ·intro n hn1 n' hn2 e;rcases List.mem_append.mp hn1 with h |h<;>rcases List.mem_append.mp hn2 with h' |h'
  ·exact W.nm n h n' h' e
  ·cases List.mem_singleton.mp h';exact absurd (e▸List.mem_map_of_mem h) hx
  ·cases List.mem_singleton.mp h;exact absurd (e.symm▸List.mem_map_of_mem h') hx
  ·rw [List.mem_singleton.mp h,List.mem_singleton.mp h']
 ·intro n hn1 n' hn2 e;rcases List.mem_append.mp hn1 with h |h<;>rcases List.mem_append.mp hn2 with h' |h'
  ·exact W.a n h n' h' e
  ·cases List.mem_singleton.mp h';exact absurd e (dM (fn n h).1 ha)
  ·cases List.mem_singleton.mp h;exact absurd e.symm (dM (fn n' h').1 ha)
  ·rw [List.mem_singleton.mp h,List.mem_singleton.mp h']
 ·intro n hn1 n' hn2 e;rcases List.mem_append.mp hn1 with h |h<;>rcases List.mem_append.mp hn2 with h' |h'
  ·exact W.la n h n' h' e
  ·cases List.mem_singleton.mp h';exact absurd e (dM (fn n h).2 hla)
  ·cases List.mem_singleton.mp h;exact absurd e.symm (dM (fn n' h').2 hla)
  ·rw [List.mem_singleton.mp h,List.mem_singleton.mp h']
 ·intro r l q n hn1;rcases List.mem_append.mp hn1 with h |h
  ·exact W.r r l q n h
  ·cases List.mem_singleton.mp h;exact(dM (.inr (.inr (.inr (.inl ⟨r,l,q,rfl⟩)))) hla).symm
 ·intro n hn1;rcases List.mem_append.mp hn1 with h |h
  ·exact W.nd n h
  ·cases List.mem_singleton.mp h;exact⟨(dM fd hdx).symm,(dM fdx hdx).symm⟩
 ·have new:∀{b:Addr},s.heap.objs.size≤b→G b=none∧sB.heap.objs.size≤b:=fun{b} h=>⟨Kn.none_ge I h,Nat.le_trans U.size h⟩
  rcases h with h |h |h |h |⟨n,hn1,h⟩
  ·exact S.off a (.inl h)
  ·exact S.off a (.inr (.inl h))
  ·exact S.off a (.inr (.inr (.inl h)))
  ·exact S.off a (.inr (.inr (.inr (.inl h))))
  ·rcases List.mem_append.mp hn1 with h1 |h1
   ·exact S.off a (.inr (.inr (.inr (.inr ⟨n,h1,h⟩))))
   ·cases List.mem_singleton.mp h1;rcases h with rfl |rfl |rfl
    ·exact new ha
    ·exact new hdx
    ·exact new hla
end
theorem E5 (P:Params)(a v:Value):dG (KP P) 121 (an 121) (aO 121) (bj 121) [a,v] (pure ((aO 121).zip [a,v])):=
 ek (by kernel_rfl) (by kernel_rfl) (by kernel_rfl) (by kernel_rfl) (by kernel_rfl) (by kernel_rfl) (by kernel_rfl) (by kernel_rfl)
section
variable {prog:Program}{w:World}{mg mb:Str→Option Value}{k:Nat}{A:Around}{env:Env}{own:List (Str×Addr)}{s sB:Shared}{G GB:Kn}{E:Value→Shared→Prop}{sc:aq}{ρ:Ro}{st:Sr}
theorem dc.apart {sc:Scope}{cf:bE}{s₁ s':Shared}{G₁:Kn}(B:dc prog w k sB A sc env own cf ρ s₁ G₁ s')(g:ae s G s₁ G₁)(S:az w.params sB G s st):∀a,foot st a→¬Mine env own a:=
 fun a f m=>Nat.lt_irrefl _ (Nat.lt_of_lt_of_le (S.lt f) (Nat.le_trans g.size (B.mine a m)))
theorem az.mine {s':Shared}{G':Kn}(S:az w.params sB G s st)(m:Mv (Mine env own) s G s' G')(ap:∀a,foot st a→¬Mine env own a):az w.params sB G' s' st:=S.keep m ap
noncomputable def XX (env:Env)(own:List (Str×Addr))(X:Addr→Prop)(b:Addr):Prop:=Mine env own b∨X b
theorem Mv.lm {X:Addr→Prop}{s s':Shared}{G G':Kn}(m:Mv (Mine env own) s G s' G'):Mv (XX env own X) s G s' G':=m.weak fun Z h=>.inl h
theorem Mv.rm {X Y:Addr→Prop}{s s':Shared}{G G':Kn}(m:Mv Y s G s' G')(h:∀a,Y a→X a):Mv (XX env own X) s G s' G':=m.weak fun a y=>.inr (h a y)
theorem dc.drop {sc:Scope}{cf:bE}{s₁ s2 s':Shared}{G₁ G2:Kn}{X:Addr→Prop}(B:dc prog w k sB A sc env own cf ρ s₁ G₁ s')(g:ae s G s₁ G₁)(m:Mv (XX env own X) s G s2 G2):Mv X s G s2 G:=
 ⟨m.same,m.size,m.tk,fun b o n e=>m.keep b o (fun y=>by
  rcases y with q |q
  ·exact Nat.lt_irrefl _ (Nat.lt_of_lt_of_le (Heap.lt_size e) (Nat.le_trans g.size (B.mine b q)))
  ·exact n q) e,.refl G,fun a o e=>m.inn a o (m.le a o e),fun Z Z e=>.inl e⟩
theorem az.un {s':Shared}{G':Kn}(S:az w.params sB G' s' st)(le:G.Le G'):az w.params sB G s' st:=⟨S.at_,S.wf,fun a f=>⟨(by
 cases q:G a with
 |none=>rfl
 |some o=>
  have:=le a o q;rw [(S.off a f).1]at this
  exact(aa this).elim),(S.off a f).2⟩⟩
theorem mine_lt (S:SO w.params sB GB env own ρ s G){a:Addr}(m:Mine env own a):a<s.heap.objs.size:=by
 refine aA S.plain.ex fun m1 cm F Z=>?_;rcases m with rfl |⟨n,hm⟩
 ·refine iJ F.ns fun o Z Z ho Z=>?_;exact Heap.lt_size ho
 ·refine ah (F.cell n a (F.nd n a hm)) fun o ho Z=>?_;exact Heap.lt_size ho
theorem aS (S:SO w.params sB GB env own ρ s G){a:Addr}(h:s.heap.objs.size≤a):¬Mine env own a:=fun m=>Nat.lt_irrefl _ (Nat.lt_of_lt_of_le (mine_lt S m) h)
theorem lF {M:Model}{o i:PySem.Expr}{pos:Pos}{v:Value}{Q:Unit→Shared→Prop}(h:wpAny M A (eval o env) (fun ov s₁=>wpAny M A (eval i env) (fun iv s2=>wpAny M A (setItem ov iv v) Q E s2) E s₁) E s):
  wpAny M A (assign (.Subscript o i pos) env v) Q E s:=by
 rw [assign_Subscript];exact wpAny_bind (wpAny_holding (wpAny_mono h (fun ov s₁ z=>wpAny_bind (wpAny_holding (wpAny_mono z (fun iv s2 y=>wpAny_bind (wpAny_standAt (wpAny_bind (wpAny_holding (wpAny_mono y (fun Z Z x=>wpAny_release x) fun Z Z z=>z))))) fun Z Z z=>z))) fun Z Z z=>z))
theorem ji {x:List Nat}{t:Tok}{Q:Value→Shared→Prop}(rm:am (k+4) A)(hB:Cx (KP w.params) mg mb sB)(hg:mg "_NodeInfo" =some (.ref 81))(U:Up sB s)(I:G.In s.heap)(S:az w.params sB G s st)(hl:st.nodes.length≤900)
  (h:∀s' st' nd,Mv (foot st) s G s' G→az w.params sB G s' st'→uR s.heap.objs.size st st' nd x→Q (.ref nd.a) s'):wpAny (model prog w) A (call (.ref 121) [.ref st.self,.str (mk x) t]) Q E s:=by
 refine eG aI (args:=[.adr st.self,.str x]) (E5 _ _ _) (by kernel_rfl) rm hB U I (fun E=>cZ I (.cons (.adr st.self) (.cons (.str x t) .nil)) E) fun env own s₁ G₁ s' E' g B hE=>?_
 have ap:=B.apart g S;have gg:ae s G s' G₁:=g.trans (B.g g.inn);have S1:=S.grew gg;have V1:=B.st;refine wpAny_execs_cons (wpAny_If (wpAny_isTrue_Compare1 (wpAny_NamedExpr (wpAny_Call_method_lateS rfl rfl rfl (bB rfl (au (a:=st.self) V1 (by kernel_rfl) (fI (V1.cx hB).kin S1.at_ ?_))))) (bO rfl)))
 have t2:ae s' G₁ {s' with toks:=s'.toks+1} G₁:=.toks V1.inn _ (Nat.le_add_right _ _)
 have V2:=V1.grew t2;have S2:=S1.grew t2;refine aA S2.at_.dct fun es n de dr=>?_;refine⟨"dict", "dict.get",F.plainAttrs_dict,F.slot_dict_get,F.type_dict_get,⟨_,de,rfl⟩,fun b hb=>by obtain rfl:=Value.ref.inj hb;exact⟨_,de,rfl⟩,?_⟩
 refine bD (R:=R0) (sc:=(an 121).names) (ρ:=aW aT (aO 121) [.adr st.self,.str x]) (ds:=[.str x]) (by nofun) (by kernel_rfl) (dH (fS prog w (KP w.params) mg mb _) B.room B.sce _ _ [.str x] _ G₁ (by kernel_rfl) (V2.cx hB) V2.plain.env fun vs s3 G3 g3 r3=>?_)
 have V3:=V2.grew g3;have S3:=S2.grew g3;refine aX r3.cons_i fun Z Z z1 q3 r4=>?_;subst z1
 obtain rfl:=r4.nil_i;refine xe q3.str_i fun Z z2=>?_;subst z2
 refine qA (ks:=st.dks) S3.at_.dct (by rw [dT];exact S.wf.nms) S.wf.sys fun v hv=>?_
 have t4:ae s3 G3 {s3 with toks:=s3.toks+1} G3:=.toks V3.inn _ (Nat.le_add_right _ _)
 have V4:=V3.grew t4;have S4:=S3.grew t4;have hv:(match st.find x with |some nd=>v=.ref nd.a |none=>v=.none):=by
  have e:=kz st x;cases q:st.find x with
  |none=>rw [q]at e;change ff st.dks x=none at e;rw [e]at hv;exact hv
  |some nd=>rw [q]at e;change ff st.dks x=some _ at e;rw [e]at hv;obtain rfl:=hv.adr_i;rfl
 have g14:ae s G {s3 with toks:=s3.toks+1} G3:=((gg.trans t2).trans g3).trans t4
 cases q:st.find x with
 |some nd=>
  rw [q]at hv;subst hv;refine sto (d:=.adr nd.a) B.room.hh B.sco V4 (.adr _) (by kernel_rfl) fun s5 V5 m5=>?_
  refine wpAny_Constant_none (is_none (wpAny_truthy_bool ?_));refine wpAny_execs_nil ?_;refine wpAny_execs_cons (wpAny_Return_some (au (a:=nd.a) V5 (by kernel_rfl) ?_))
  refine xa (jG q) fun hm hn=>?_;exact h s5 st nd (B.drop g (g14.mv.trans m5.lm)) ((S4.mine m5 ap).un g14.le) ⟨rfl,rfl,rfl,rfl,hm,hn,.inl rfl,fun a f=>.inl f⟩
 |none=>
  rw [q]at hv;subst hv;refine sto (d:=.none) B.room.hh B.sco V4 .none (by kernel_rfl) fun s5 V5 m5=>?_
  have S5:=S4.mine m5 ap;refine wpAny_Constant_none (is_none (wpAny_truthy_bool ?_));refine wpAny_execs_cons (wpAny_Assign_two (wpAny_Call_Name_kw (di (V5.cx hB) B.sce (by kernel_rfl) hg ?_)))
  refine jN (R:=R0) (sc:=(an 121).names) (ρ:=ad (aW aT (aO 121) [.adr st.self,.str x]) "result" .none) (ds:=[.str x]) (by kernel_rfl) (dH (fS prog w (KP w.params) mg mb _) B.room B.sce _ _ [.str x] _ G3 (by kernel_rfl) (V5.cx hB) V5.plain.env fun vs s6 G6 g6 r6=>?_)
  have V6:=V5.grew g6;have S6:=S5.grew g6;refine aX r6.cons_i fun Z Z z3 q6 r7=>?_;subst z3
  obtain rfl:=r7.nil_i;refine xe q6.str_i fun Z z4=>?_;subst z4
  refine⟨makes_of (V6.cx hB).kin (pZ _),tV (k:=k+1) B.room hB V6.up V6.inn fun s7 nd g7 hnd e1 e2 e3 l1 l2 l3=>?_⟩
  have V7:=V6.grew g7;have S7:=S6.grew g7;refine lF (bB rfl (au (a:=st.self) V7 (by kernel_rfl) (fI (V7.cx hB).kin S7.at_ ?_)))
  have t8:ae s7 G6 {s7 with toks:=s7.toks+1} G6:=.toks V7.inn _ (Nat.le_add_right _ _)
  have V8:=V7.grew t8;have S8:=S7.grew t8;refine nm (d:=.str x) V8 (by kernel_rfl) fun vx rx=>?_
  refine xe rx.str_i fun Z z5=>?_;subst z5
  refine qz (ks:=st.dks) (dv:=.adr nd.a) S8.at_.dct (by rw [dT];exact S.wf.nms) (by rw [dT];exact hO q) (by unfold Sr.dks;rw [List.length_map];omega) (.adr _) fun h9 hd9 sb=>?_
  have fd:foot st st.d:=.inr (.inr (.inl rfl));have m9:Mv (· =st.d) _ G6 {s7 with heap:=h9,toks:=s7.toks+1+1} G6:=iB (s:={s7 with toks:=s7.toks+1}) V8.inn sb rfl (S8.off _ fd).1 (Nat.le_succ _)
  have V9:=V8.mut m9 fun a e=>by subst e;exact⟨ap _ fd,(S8.off _ fd).2⟩
  have hnd9:eW w.params h9 nd:=hnd.of fun a o e q=>by
   refine(sb.2 a fun z=>?_).trans q
   have lt:=S6.lt fd;rcases e with rfl |rfl |rfl
   ·exact Nat.lt_irrefl _ (Nat.lt_of_lt_of_le lt (z▸l1))
   ·exact Nat.lt_irrefl _ (Nat.lt_of_lt_of_le lt (z▸l2))
   ·exact Nat.lt_irrefl _ (Nat.lt_of_lt_of_le lt (z▸l3))
  have S9:az w.params sB G6 {s7 with heap:=h9,toks:=s7.toks+1+1} {st with nodes:=st.nodes++ [nd]}:=by
   refine S6.add V6.up V6.inn (by rw [e1];exact hO q) l1 l2 l3 hnd9 (by rw [e1];exact hd9) fun b o n e=>(sb.2 b n).trans (g7.keep _ _ e)
  have lo:∀{a},s6.heap.objs.size≤a→s.heap.objs.size≤a:=fun{a} z=>Nat.le_trans (Nat.le_trans g14.size (Nat.le_trans m5.size g6.size)) z
  have ap':∀a,foot {st with nodes:=st.nodes++ [nd]} a→foot st a∨s6.heap.objs.size≤a:=by
   rintro a (f |f |f |f |⟨n,hn1,f⟩)
   ·exact .inl (.inl f)
   ·exact .inl (.inr (.inl f))
   ·exact .inl (.inr (.inr (.inl f)))
   ·exact .inl (.inr (.inr (.inr (.inl f))))
   ·rcases List.mem_append.mp hn1 with h1 |h1
    ·exact .inl (.inr (.inr (.inr (.inr ⟨n,h1,f⟩))))
    ·rw [List.mem_singleton.mp h1]at f;rcases f with rfl |rfl |rfl
     ·exact .inr l1
     ·exact .inr l2
     ·exact .inr l3
  refine sto (d:=.adr nd.a) B.room.hh B.sco V9 (.adr _) (by kernel_rfl) fun s10 V10 m10=>?_
  refine wpAny_execs_nil ?_;refine wpAny_execs_cons (wpAny_Return_some (au (a:=nd.a) V10 (by kernel_rfl) ?_))
  refine h s10 _ nd (B.drop g ((((g14.mv.trans m5.lm).trans (g6.trans (g7.trans t8)).mv).trans (m9.rm fun b e=>e▸fd)).trans m10.lm))
   ((S9.mine m10 fun a f=>(ap' a f).elim (ap a) fun z=>aS V6 z).un (g14.le.trans g6.le)) ⟨rfl,rfl,rfl,rfl,List.mem_append_right _ (List.mem_singleton.mpr rfl),e1,.inr ⟨hO q,e2,e3,rfl⟩,fun a f=>(ap' a f).imp id lo⟩
end
noncomputable def Kn.or (G G₀:Kn):Kn:=fun a=>match G a with |some o=>some o |none=>G₀ a
theorem Kn.or_in {G G₀:Kn}{h:Heap}(a:G.In h)(b:G₀.In h):(G.or G₀).In h:=fun x o e=>by
 unfold Kn.or at e;cases q:G x with
 |some o'=>rw [q]at e;obtain rfl:=Option.some.inj e;exact a x _ q
 |none=>rw [q]at e;exact b x o e
theorem Kn.le_or {G G₀:Kn}:G.Le (G.or G₀):=fun x o e=>by unfold Kn.or;rw [e]
theorem Kn.le_or2 {G G₀:Kn}{h:Heap}(a:G.In h)(b:G₀.In h):G₀.Le (G.or G₀):=fun x o e=>by
 unfold Kn.or;cases q:G x with
 |some o'=>
  have h1:=a x o' q;rw [b x o e]at h1;exact h1.symm
 |none=>exact e
section
variable {prog:Program}{w:World}{k:Nat}{A:Around}{env:Env}{own:List (Str×Addr)}{s sB:Shared}{G GB:Kn}{E:Value→Shared→Prop}{sc:aq}{ρ:Ro}
theorem gF {x:Str}{p:Pos}{b:List Stmt}{items:List D}{I:Addr}{wr:Addr→Prop}{St:Nat→Heap→Prop}{G₀:Kn}{R:Result→Shared→Prop}(J:Nat→Shared→Kn→Ro→Prop)(T:c7 prog w A (.Name x p) I wr items G₀ St)(lf:∀d∈items,cW d=true)
  (hh:A.handled=none)(C:be sc env own)(hx:bF sc x=true)(S:SO w.params sB GB env own ρ s G)(j0:J 0 s G ρ)(st0:St 0 s.heap)(I0:G₀.In s.heap)
  (hw:∀b,wr b→(G b=none∧G₀ b=none∧b<s.heap.objs.size)∧¬Mine env own b∧sB.heap.objs.size≤b)(hG0:∀b o,G₀ b=some o→¬Mine env own b)
  (step:∀i d s' G' ρ' (E':Value→Shared→Prop),items[i]? =some d→J i s' G' ρ'→SO w.params sB GB env own ρ' s' G'→∀s₁,Mv (XX env own wr) s' G' s₁ G'→SO w.params sB GB env own (ad ρ' x d) s₁ G'→G₀.In s₁.heap→
   wpAny (model prog w) A (execs b env) (fun f s2=>match f with
    | .next | .cont=> ∃G2 ρ2 Y,SO w.params sB GB env own ρ2 s2 G2∧J (i+1) s2 G2 ρ2∧Mv Y s₁ G' s2 G2∧∀b,Y b→¬wr b∧G₀ b=none
    | .ret v=>R (.ok (.ret v)) s2
    | .brk=>False) E' s₁)
  (fin:∀s' G' ρ',J items.length s' G' ρ'→SO w.params sB GB env own ρ' s' G'→∀s₁,Mv wr s' G' s₁ G'→SO w.params sB GB env own ρ' s₁ G'→R (.ok .next) s₁):
  codeAny (model prog w) A (.forLoop (.Name x p) (.ref I) b [] env) R s:=by
 refine codeAny_forLoop_any (fun n s'=> ∃i G' ρ',n=items.length - i∧i≤items.length∧St i s'.heap∧G₀.In s'.heap∧SO w.params sB GB env own ρ' s' G'∧J i s' G' ρ'∧s.heap.objs.size≤s'.heap.objs.size∧
  (∀b,wr b→G' b=none)) (fun n s' hI=>?_) items.length ⟨0,G,ρ,rfl,Nat.zero_le _,st0,I0,S,j0,Nat.le_refl _,fun b hb=>(hw b hb).1.1⟩
 refine dC fun Q1 k1=>?_;obtain⟨i,G',ρ',hn,hi,sti,I₀,S',j,hz,hwG⟩:=hI;have hwX:∀b,wr b→(G'.or G₀) b=none:=fun b hb=>by unfold Kn.or;rw [hwG b hb];exact(hw b hb).1.2.1
 have hor:=Kn.or_in S'.inn I₀;have leo:=Kn.le_or2 S'.inn I₀;have back:∀{s₁:Shared} {G₁:Kn},Mv wr s' (G'.or G₀) s₁ G₁→Mv wr s' G' s₁ G':=fun m=>⟨m.same,m.size,m.tk,m.keep,.refl _,fun a o e=>m.inn a o (m.le a o (Kn.le_or a o e)),fun Z Z e=>.inl e⟩
 by_cases hil:i=items.length
 ·subst hil;refine wpAny_mono (T.done s' (G'.or G₀) _ sti hor leo hwX) (fun r s3 h3=>?_) fun Z Z z=>z
  obtain⟨rfl,m3⟩:=h3;refine k1 _ _ ?_;exact wpAny_execs_nil (fin s' G' ρ' j S' s3 (back m3) (S'.mut (back m3) fun a h=>(hw a h).2))
 ·have hlt:i<items.length:=Nat.lt_of_le_of_ne hi hil;refine wpAny_mono (T.item i items[i] s' (G'.or G₀) _ (by simp [hlt]) sti hor leo hwX) (fun r s3 h3=>?_) fun Z Z z=>z
  obtain⟨v,rfl,h3⟩:=h3;refine k1 _ _ ?_;refine wpAny_mono h3 (fun Z s4 h4=>?_) fun Z Z z=>z
  obtain⟨G4,m₄,rd,st4⟩:=h4;have m4:=back m₄;have S4:=S'.mut m4 fun a h=>(hw a h).2
  have I4:G₀.In s4.heap:=fun a o e=>m₄.inn a o (m₄.le a o (leo a o e))
  refine sto hh C S4 (ix (lf _ (List.getElem_mem hlt)) rd G') hx fun s5 S5 m5=>?_;have I5:G₀.In s5.heap:=fun a o e=>m5.keep a o (hG0 a o e) (I4 a o e)
  have m45:Mv (XX env own wr) s' G' s5 G':=(m4.weak fun b h=>.inr h).trans m5.lm
  refine dC fun Q2 k2=>?_;refine wpAny_mono (step i items[i] s' G' ρ' _ (by simp [hlt]) j S' s5 m45 S5 I5) (fun f s6 h6=>?_) fun Z Z z=>z
  have go:(∃G2 ρ2 Y,SO w.params sB GB env own ρ2 s6 G2∧J (i+1) s6 G2 ρ2∧Mv Y s5 G' s6 G2∧∀b,Y b→¬wr b∧G₀ b=none)→∃m,m<n∧∃i G' ρ',m=items.length - i∧i≤items.length∧St i s6.heap∧G₀.In s6.heap∧SO w.params sB GB env own ρ' s6 G'∧J i s6 G' ρ'∧s.heap.objs.size≤s6.heap.objs.size∧(∀b,wr b→G' b=none):=by
   rintro ⟨G2,ρ2,Y,S6,j₆,m6,hY⟩
   have I6:G₀.In s6.heap:=fun a o e=>m6.keep a o (fun y=>by rw [(hY a y).2]at e;exact(aa e).elim) (I5 a o e)
   have hz5:s.heap.objs.size≤s5.heap.objs.size:=Nat.le_trans hz (Nat.le_trans m4.size m5.size);refine⟨items.length - (i+1),by omega,i+1,G2,ρ2,rfl,hlt,T.frame _ _ _ st4 fun a o ha e=>?_,I6,S6,j₆,Nat.le_trans hz5 m6.size,fun b hb=>?_⟩
   ·rcases ha with ha |⟨ob,ha⟩
    ·exact m6.keep a o (fun y=>(hY a y).1 ha) (m5.keep a o (hw a ha).2.1 e)
    ·rw [I4 a ob ha]at e;obtain rfl:=Option.some.inj e;exact I6 a _ ha
   ·cases q:G2 b with
    |none=>rfl
    |some o=>
     rcases m6.fresh b o q with z |z
     ·rw [hwG b hb]at z;exact(aa z).elim
     ·exact absurd (Nat.lt_of_lt_of_le (hw b hb).1.2.2 hz5) (Nat.not_lt.mpr z)
  cases f with
  |next=>exact k2 _ _ (go h6)
  |cont=>exact k2 _ _ (go h6)
  |brk=>exact h6.elim
  |ret v=>exact k2 _ _ h6
end
theorem uk {K:Frag}{f:Addr}(h:fnIn K f=true):∃o fd,K.lookup f=some o∧o.data=.func fd:=by
 unfold fnIn at h;cases q:K.lookup f with
 |none=>rw [q]at h;exact(aj h).elim
 |some o=>
  rw [q]at h;obtain⟨c,d,dat,sl⟩:=o;cases dat with
  |func fd=>exact⟨_,fd,rfl,rfl⟩
  |_=>exact(aj h).elim
noncomputable abbrev AN:=List (List Nat×Int×List (List Nat))
noncomputable def Sr.ab (st:Sr):AN:=st.nodes.map fun n=>(n.nm,n.np,n.su)
noncomputable def aZ (L:AN)(x:List Nat):AN:=if x∈L.map (·.1)then L else L++ [(x,0,[])]
noncomputable def bc (L:AN)(x:List Nat)(f:Int×List (List Nat)→Int×List (List Nat)):AN:=L.map fun p=>if p.1=x then(p.1,f p.2)else p
noncomputable def i4 (L:AN)(x:List Nat) (n:Int):AN:=bc L x fun q=>(q.1+n,q.2)
noncomputable def gK (L:AN)(y x:List Nat):AN:=bc L y fun q=>(q.1,q.2++ [x])
noncomputable def dF (L:AN)(x:List Nat)(ps:List (List Nat)):AN:=ps.foldl (fun L y=>gK (aZ L y) y x) (i4 (aZ L x) x ps.length)
theorem bQ (st:Sr):st.ab.map (·.1)=st.nodes.map (·.nm):=by unfold Sr.ab;rw [List.map_map];rfl
theorem uR.ab {n:Nat}{st st':Sr}{nd:Nd}{x:List Nat}(e:uR n st st' nd x):st'.ab=aZ st.ab x:=by
 unfold aZ;rw [bQ];rcases e.nodes with h |⟨h1,h2,h3,h4⟩
 ·have:x∈st.nodes.map (·.nm):=List.mem_map.mpr ⟨nd,h▸e.mem,e.nm⟩;rw [if_pos this];unfold Sr.ab;rw [h]
 ·rw [if_neg h1];unfold Sr.ab;rw [h4,List.map_append,List.map_cons,List.map_nil,e.nm,h2,h3]
theorem sN (st:Sr)(x:List Nat){f:Nd→Nd}{g:Int×List (List Nat)→Int×List (List Nat)}(F:mV f)(h:∀n,((f n).np,(f n).su)=g (n.np,n.su)):(st.upd x f).ab=bc st.ab x g:=by
 unfold Sr.upd Sr.ab bc;rw [List.map_map,List.map_map];refine List.map_congr_left fun n Z=>?_;show((if n.nm=x then f n else n).nm,(if n.nm=x then f n else n).np,(if n.nm=x then f n else n).su)=if n.nm=x then(n.nm,g (n.np,n.su))else(n.nm,n.np,n.su)
 by_cases z:n.nm=x
 ·rw [if_pos z,if_pos z,←h n,F.nm n]
 ·rw [if_neg z,if_neg z]
structure eu (n:Nat)(st st':Sr):Prop where
 self:st'.self=st.self
 foot:∀a,foot st' a→Mine.foot st a∨n≤a
theorem eu.refl (n:Nat)(st:Sr):eu n st st:=⟨rfl,fun Z h=>.inl h⟩
theorem eu.trans {n m:Nat}{st st' st'':Sr}(a:eu n st st')(b:eu m st' st'')(h:n≤m):eu n st st'':=⟨b.self.trans a.self,fun x f=>(b.foot x f).elim (a.foot x) fun z=>.inr (Nat.le_trans h z)⟩
theorem uR.nxt {n:Nat}{st st':Sr}{nd:Nd}{x:List Nat}(e:uR n st st' nd x):eu n st st':=⟨e.self,e.foot⟩
theorem il {f:Nd→Nd}(F:mV f) (n:Nat)(st:Sr)(x:List Nat):eu n st (st.upd x f):=⟨rfl,fun a h=>.inl ((eO F st x a).mp h)⟩
section
variable {prog:Program}{w:World}{mg mb:Str→Option Value}{k:Nat}{A:Around}{env:Env}{own:List (Str×Addr)}{s sB:Shared}{G GB:Kn}{E:Value→Shared→Prop}{sc:aq}{ρ:Ro}{st:Sr}
theorem kw {l:Addr}{vs:List Value}{n:Nat}{ds:List D}(target:PySem.Expr)(hh:A.handled=none)(I:G.In s.heap)(e:G l=some (cB vs n))(r:ai w.params G vs ds):
  wpAny (model prog w) A (pyIter (.ref l)) (eo prog w A target s G ds) E s:=by
 have hne:l≠s.heap.objs.size:=Nat.ne_of_lt (Heap.lt_size (I _ _ e));have ht:s.heap.IsTuple l vs.toArray:=⟨_,I _ _ e,rfl,n,rfl⟩
 refine wpAny_pyIter_tuple ht ⟨s.heap.objs.size,(· ∈ [s.heap.objs.size]),_,rfl,ae.push I _ s.toks (Nat.le_refl _),
  c7.ofWalks target (Walks.tuple (prog:=prog) (w:=w) hh s.heap.objs.size l hne vs.toArray) (by simp [r.length]) (fun i v d hv hd=>?_) (fun b hb=>?_) (fun i h st=>?_),⟨⟨_,Heap.get?_push_size _ rfl,rfl,rfl⟩,?_⟩,fun b hb=>?_⟩
 ·refine ah (r.get hd) fun v' hv' rd=>?_;have:v'=v:=by
   have hv2:vs[i]? =some v:=by simpa using hv
   rw [hv']at hv2;exact Option.some.inj hv2
  exact this▸rd
 ·simp only [List.mem_cons,List.not_mem_nil,or_false]at hb⊢;rcases hb with rfl |rfl
  ·exact .inl rfl
  ·exact .inr ⟨_,e⟩
 ·refine xa st fun z1 Z=>?_;obtain⟨o,ho,hc,_⟩:=z1
  exact⟨o,_,ho,hc,by decide⟩
 ·exact⟨_,Heap.get?_push_of_some _ (I _ _ e),rfl,n,rfl⟩
 ·simp only [List.mem_cons,List.not_mem_nil,or_false]at hb;exact⟨Nat.le_of_eq hb.symm,by rw [hb];show s.heap.objs.size<(s.heap.push _).objs.size;rw [Heap.size_push];exact Nat.lt_succ_self _⟩
theorem dK {o:PySem.Expr}{x:Str}{f:Addr}{apos pos:Pos}{args:List PySem.Expr}{ds:List D}{Q:Value→Shared→Prop}(hb:attributeBase o x env (eval o env)=eval o env)(hl:(apos.endLine==pos.line)=true)
  (hfew:((backTo pos (starEach args env)).all (fun x=> !x.1)&&(backToKw pos (keywordEach [] env)).all (fun x=>x.1.isSome)&&decide (args.length+([]:List Keyword).length+(if([]:List Keyword).isEmpty then 0 else 1)<30))=true)
  (hf:findIn (KP w.params) (.ref 178) x=some (some (.ref f)))(ht:typeIn (KP w.params) (.ref f)=some (.type "function"))(hfn:fnIn (KP w.params) f=true)(hn:∀o d v,getL x (gb w.params d v o)=some none)
  (rm:am k A)(hs:aD sc env)(hB:Cx (KP w.params) mg mb sB)(q:bi (R0.ev sc ρ) args=some ds)
  (h:wpAny (model prog w) A (eval o env) (fun ov s₁=> ∃st G₁,ov=.ref st.self∧fM w.params s₁.heap st∧SO w.params sB GB env own ρ s₁ G₁∧
   ∀vs s2 G2,ae s₁ G₁ s2 G2→ai w.params G2 vs ds→SO w.params sB GB env own ρ s2 G2→wpAny (model prog w) A (call (.ref f) (.ref st.self::vs)) Q E s2) E s):
  wpAny (model prog w) A (eval (.Call (.Attribute o x apos) args [] pos) env) Q E s:=by
 refine tQ hb hl hfew (wpAny_mono h (fun ov s₁ z=>?_) fun Z Z z=>z)
 obtain⟨st,G₁,rfl,at_,V,z⟩:=z;intro pl;obtain⟨oo,n,e⟩:=at_.own;refine Bg (V.cx hB).kin at_.selfo e hf ht (hn _ _ _) ?_;refine fR q (dH (fS prog w (KP w.params) mg mb k) rm hs _ args ds s₁ G₁ q (V.cx hB) V.plain.env fun vs s2 G2 g r=>⟨?_,z vs s2 G2 g r (V.grew g)⟩)
 have X:=((V.grew g).cx hB).kin;exact aA (uk hfn) fun o fd q d=>⟨o,fd,X _ _ q,d⟩
end
noncomputable def gf:List Str:=["self", "node", "predecessors"]
noncomputable def xc:List Str:=["self", "nodes"]
theorem DY (P:Params)(a v:Value):dG (KP P) 128 (an 128) gf (bj 128) [a,v] (newTuple [] >>=fun t=>pure (gf.zip [a,v,t])):=
 ek (by kernel_rfl) (by kernel_rfl) (by kernel_rfl) (by kernel_rfl) (by kernel_rfl) (by kernel_rfl) (by kernel_rfl) (by kernel_rfl)
theorem DX (P:Params)(a v y:Value):dG (KP P) 128 (an 128) gf (bj 128) [a,v,y] (newTuple [y] >>=fun t=>pure (gf.zip [a,v,t])):=
 ek (by kernel_rfl) (by kernel_rfl) (by kernel_rfl) (by kernel_rfl) (by kernel_rfl) (by kernel_rfl) (by kernel_rfl) (by kernel_rfl)
theorem EX (P:Params)(a y:Value):dG (KP P) 161 (an 161) xc (bj 161) [a,y] (newTuple [y] >>=fun t=>pure (xc.zip [a,t])):=
 ek (by kernel_rfl) (by kernel_rfl) (by kernel_rfl) (by kernel_rfl) (by kernel_rfl) (by kernel_rfl) (by kernel_rfl) (by kernel_rfl)
section
variable {prog:Program}{w:World}{mg mb:Str→Option Value}{k:Nat}{A:Around}{env:Env}{own:List (Str×Addr)}{s sB:Shared}{G GB:Kn}{E:Value→Shared→Prop}{sc:aq}{ρ:Ro}{st:Sr}
theorem oY {ps:List Str}{pre:List Value}{pvs:List Value}{args:List D}{xs:List D}(I:G.In s.heap)(r:ai w.params G pre args)(rx:ai w.params G pvs xs)(hl:pvs.length≤1000)(E:Value→Shared→Prop):
  wpAny (model prog w) A (newTuple pvs>>=fun t=>pure (ps.zip (pre++ [t]))) (fun b s₁=> ∃vs' G₁,b=ps.zip vs'∧ae s G s₁ G₁∧ai w.params G₁ vs' (args++ [.tup xs])) E s:=by
 refine wpAny_bind (wpAny_newTuple ?_ (by rw [sizeLine_eq];lia))
 have g:=ae.alloc I (cB pvs 0) s.toks rfl (Nat.le_refl _);exact wpAny_pure ⟨pre++ [.ref s.heap.objs.size],_,rfl,g,(r.mono g.le).append (.cons (.tup Kn.add_self (rx.mono g.le)) .nil)⟩
theorem ai.un {P:Params}{vs:List Value}{xs:List (List Nat)}(r:ai P bW vs (xs.map .str))(G:Kn):ai P G vs (xs.map .str):=r.mono (iA G)
theorem sM (W:st.WF){nd:Nd}(hm:nd∈st.nodes) (c:Int):(st.upd nd.nm fun n=>{n with np:=nd.np+c}).ab=i4 st.ab nd.nm c:=by
 unfold Sr.upd Sr.ab i4 bc;rw [List.map_map,List.map_map];refine List.map_congr_left fun n hn=>?_;show((if n.nm=nd.nm then _ else n:Nd).nm,(if n.nm=nd.nm then _ else n:Nd).np,(if n.nm=nd.nm then _ else n:Nd).su)=if n.nm=nd.nm then(n.nm,n.np+c,n.su)else(n.nm,n.np,n.su)
 by_cases z:n.nm=nd.nm
 ·rw [if_pos z,if_pos z,W.nm n hn nd hm z]
 ·rw [if_neg z,if_neg z]
theorem eT {target iter:PySem.Expr}{body orelse:List Stmt}{pos:Pos}{Q:Flow→Shared→Prop}
  (h:wpAny (model prog w) A (eval iter env) (fun x s₁=> ∃s₀ G₁ items,wpAny (model prog w) A (pyIter x) (eo prog w A target s₀ G₁ items) E s₁∧
   ∀I wr St s2,ae s₀ G₁ s2 G₁→c7 prog w A target I wr items G₁ St→St 0 s2.heap→(∀b,wr b→s₀.heap.objs.size≤b∧b<s2.heap.objs.size)→
    codeAny (model prog w) A (.forLoop target (.ref I) body orelse env) (fun r s'=>match r with | .ok f=>Q f s' | .error e=>cameBackBy (model prog w) A env E e s') s2) E s)
  (hs:∀x,foldedSetIterable iter env x=pure x):wpAny (model prog w) A (exec (.For target iter body orelse pos) env) Q E s:=by
 refine wpAny_For (wpAny_mono h (fun x s₁ h1=>?_) fun Z Z z=>z) hs
 refine iJ h1 fun s₀ G₁ items h1 h2=>?_;refine wpAny_mono h1 (fun itv s2 z=>?_) fun Z Z z=>z
 obtain⟨I,wr,St,rfl,g,T,st0,hw⟩:=z;exact h2 I wr St s2 g T st0 hw
theorem eu.le {n m:Nat}{st st':Sr}(a:eu m st st')(h:n≤m):eu n st st':=⟨a.self,fun x f=>(a.foot x f).imp id fun z=>Nat.le_trans h z⟩
theorem lJ (st:Sr):st.ab.length=st.nodes.length:=by unfold Sr.ab;rw [List.length_map]
theorem nH (L:AN)(x:List Nat)(f:Int×List (List Nat)→Int×List (List Nat)):(bc L x f).length=L.length:=by unfold bc;rw [List.length_map]
theorem mq (L:AN)(x:List Nat):(aZ L x).length≤L.length+1:=by
 unfold aZ;split
 ·lia
 ·simp
theorem cq (S:SO w.params sB GB env own ρ s G):interactive env=false:=by unfold interactive;rw [S.plain.env.kind];rfl
theorem aN {ρ:Ro}{x z:Str}{d:D}(h:ar z x=false):ad ρ x d z=ρ z:=by unfold ad;rw [h]
theorem e8 (S:SO w.params sB GB env own ρ s G){b:Addr}{o:Obj}(e:G b=some o):¬Mine env own b:=by
 have off:=S.plain.off
 rintro (rfl |⟨n,hm⟩)
 ·exact(aa (off.loc.symm.trans e)).elim
 ·rw [off.cel n b hm]at e;exact(aa e).elim
theorem BL {nd:Nd}(hm:nd∈st.nodes){x:List Nat}{t:Tok}{Q:Value→Shared→Prop}(I:G.In s.heap)(S:az w.params sB G s st)(hl:nd.su.length≤1000)
  (h:∀s',Mv (· =nd.la) s G s' G→az w.params sB G s' (st.upd nd.nm fun n=>{n with su:=n.su++ [x]})→Q .none s'):wpAny (model prog w) A (call (.builtin "list.append") [.ref nd.la,.str (mk x) t]) Q E s:=by
 refine b9 (S.at_.nds nd hm) fun z1 e2 l=>?_;obtain⟨tn,tp,e⟩:=z1
 refine b9 (S.at_.node hm) fun Z Z nN=>?_;refine mi l hl fun h' l' sb hz=>?_;refine h {s with heap:=h'} ⟨⟨h',s.toks,rfl⟩,hz,Nat.le_refl _,fun b o n q=>(sb.2 b n).trans q,.refl G,fun b o q=>(sb.2 b fun z=>?_).trans (I b o q),fun Z Z q=>.inl q⟩ ?_
 ·rw [z,(S.off nd.la (cw hm).2).1]at q;exact(aa q).elim
 ·exact S.upd hm (f:=fun n=>{n with su:=n.su++ [x]}) (tL fun l=>l++ [x]) (.inr rfl) (fun c o z q=>(sb.2 c z).trans q) ⟨⟨tn,tp,(sb.2 _ (nN nd hm).2.1).trans e⟩,(sb.2 _ (nN nd hm).2.2.symm).trans e2,l'⟩
theorem jU {L:AN}{x:List Nat}{f:Int×List (List Nat)→Int×List (List Nat)}{c:Nat}{d:Nat}(h:∀p∈L,p.2.2.length≤c)(hd:c≤d)(hf:∀q:Int×List (List Nat),q.2.length≤c→(f q).2.length≤d):∀p∈bc L x f,p.2.2.length≤d:=by
 intro p hp;refine ah (List.mem_map.mp hp) fun q hq z2=>?_;subst z2
 by_cases z:q.1=x
 ·rw [if_pos z];exact hf q.2 (h q hq)
 ·rw [if_neg z];exact Nat.le_trans (h q hq) hd
theorem fU {L:AN}{x:List Nat}{c:Nat}(h:∀p∈L,p.2.2.length≤c):∀p∈aZ L x,p.2.2.length≤c:=by
 unfold aZ
 split
 ·exact h
 ·intro p hp;rcases List.mem_append.mp hp with q |q
  ·exact h p q
  ·cases List.mem_singleton.mp q;exact Nat.zero_le _
structure AI (w:World)(sB:Shared)(env:Env)(own:List (Str×Addr))(st:Sr)(s:Shared)(G G7:Kn)(s11:Shared)(wr:Addr→Prop)(x:List Nat)(xs:List (List Nat)) (i:Nat)(s':Shared)(G':Kn)(ρ':Ro)(st':Sr):Prop where
 S:az w.params sB G' s' st'
 ab:st'.ab=(xs.take i).foldl (fun L y=>gK (aZ L y) y x) (i4 (aZ st.ab x) x xs.length)
 n:eu s.heap.objs.size st st'
 r:st'.ready=none
 m:Mv (XX env own (foot st)) s G s' G'
 z:s11.heap.objs.size≤s'.heap.objs.size
 le:G7.Le G'
 e1:ρ' "self" =some (.adr st.self)
 e2:ρ' "node" =some (.str x)
 ap:∀a,foot st' a→¬Mine env own a∧¬wr a
 l:st'.nodes.length≤st.nodes.length+1+i
 su:∀p∈st'.ab,p.2.2.length≤500+i
theorem wG {x:List Nat}{t:Tok}{pvs:List Value}{xs:List (List Nat)}{Q:Value→Shared→Prop}(hF:dG (KP w.params) 128 (an 128) gf (bj 128) (.ref st.self:: .str (mk x) t::pvs) (newTuple pvs>>=fun t'=>pure (gf.zip [.ref st.self,.str (mk x) t,t'])))
  (rm:am (k+6) A)(hB:Cx (KP w.params) mg mb sB)(hg:mg "_NodeInfo" =some (.ref 81))(U:Up sB s)(I:G.In s.heap)(S:az w.params sB G s st)(rx:ai w.params bW pvs (xs.map .str))(hr:st.ready=none)(hl:st.nodes.length+xs.length≤400)(hsu:∀p∈st.ab,p.2.2.length≤500)
  (h:∀s' st',Mv (foot st) s G s' G→az w.params sB G s' st'→eu s.heap.objs.size st st'→st'.ab=dF st.ab x xs→st'.ready=none→Q .none s'):wpAny (model prog w) A (call (.ref 128) (.ref st.self:: .str (mk x) t::pvs)) Q E s:=by
 have hlen:pvs.length=xs.length:=by have:=rx.length;simpa using this
 refine eG aI (args:=[.adr st.self,.str x,.tup (xs.map .str)]) hF (by kernel_rfl) rm hB U I (fun E=>oY (pre:=[.ref st.self,.str (mk x) t]) (args:=[.adr st.self,.str x]) I (.cons (.adr st.self) (.cons (.str x t) .nil)) (rx.un G) (by lia) E) fun env own s₁ G₁ s' E' g B hE=>?_
 have ap:=B.apart g S;have gg:ae s G s' G₁:=g.trans (B.g g.inn);have S1:=S.grew gg;have V1:=B.st;refine wpAny_execs_cons (wpAny_If (wpAny_isTrue_Compare1 (bB rfl (au (a:=st.self) V1 (by kernel_rfl) (get_ready (V1.cx hB).kin S1.at_ ?_))) (bO rfl)))
 rw [hr];refine wpAny_Constant_none (isNot_none (wpAny_truthy_bool ?_));refine wpAny_execs_nil ?_;have t2:ae s' G₁ {s' with toks:=s'.toks+1} G₁:=.toks V1.inn _ (Nat.le_add_right _ _)
 have V2:=V1.grew t2;have S2:=S1.grew t2;refine wpAny_execs_cons (bP (dK (x:= "_get_nodeinfo") (f:=121) (ds:=[.str x]) rfl (by rfl) (by rfl) (by kernel_rfl) (by kernel_rfl) (by kernel_rfl) (fun o d v=>by kernel_rfl) B.room B.sce hB (by kernel_rfl) (au (a:=st.self) V2 (by kernel_rfl) ⟨st,G₁,rfl,S2.at_,V2,fun vs s3 G3 g3 r3 V3=>?_⟩)) rfl rfl rfl)
 refine aX r3.cons_i fun Z Z z3 q3 r4=>?_;subst z3
 obtain rfl:=r4.nil_i;refine xe q3.str_i fun Z z4=>?_;subst z4
 refine ji (k:=k+1) B.room hB hg V3.up V3.inn (S2.grew g3) (by lia) fun s4 st4 nd m4 S4 e4=>?_
 have ap4:∀a,foot st4 a→¬Mine env own a:=fun a f=>(e4.foot a f).elim (ap a) fun z=>aS V3 z
 have V4:=V3.mut m4 fun a f=>⟨ap a f,(S.off a f).2⟩
 refine sto (d:=.adr nd.a) B.room.hh B.sco V4 (.adr _) (by kernel_rfl) fun s5 V5 m5=>?_
 have S5:=S4.mine m5 ap4;refine wpAny_execs_cons (wpAny_AugAssign_AttributeAny (au (a:=nd.a) V5 (by kernel_rfl) (jE (V5.cx hB).kin (S5.at_.nds nd e4.mem) fun t6=>?_)))
 have g6:ae s5 G3 {s5 with toks:=s5.toks+1} G3:=.toks V5.inn _ (Nat.le_add_right _ _)
 have V6:=V5.grew g6;refine wpAny_Call_Name_kw (cE (V6.cx hB) B.sce (by kernel_rfl) (hB.blt ("len",.builtin "len") (List.mem_of_getElem? (i:=0) rfl)) ?_)
 refine bD (R:=R0) (sc:=(an 128).names) (ρ:=ad (aW aT gf [.adr st.self,.str x,.tup (xs.map .str)]) "nodeinfo" (.adr nd.a)) (ds:=[.tup (xs.map .str)]) (by nofun) (by kernel_rfl) (dH (fS prog w (KP w.params) mg mb _) B.room B.sce _ _ [.tup (xs.map .str)] _ G3 (by kernel_rfl) (V6.cx hB) V6.plain.env fun vs s7 G7 g7 r7=>?_)
 have V7:=V6.grew g7;refine aX r7.cons_i fun Z Z z5 p7 r8=>?_;subst z5
 obtain rfl:=r8.nil_i;refine ck p7.tup_i fun ta tn tvs z6 q7 rr7=>?_;subst z6
 have htl:tvs.length=xs.length:=by have:=rr7.length;simpa using this
 refine P.len_tuple (V7.inn _ _ q7) (by simp;lia) (P.iadd_int ?_)
 have g9:ae s7 G7 {s7 with toks:=s7.toks+3} G7:=.toks V7.inn _ (Nat.le_add_right _ _)
 have V9:=V7.grew g9;have S9:=((S5.grew g6).grew g7).grew g9;refine tt (s:={s7 with toks:=s7.toks+3}) e4.mem (V9.cx hB).kin V9.inn S9 fun s10 m10 S10=>?_
 have V10:=V9.mut m10 fun a f=>⟨ap4 a f,(S9.off a f).2⟩
 have F10:=jS (nd.np+(tvs.toArray.size:Int));have ab10:(st4.upd nd.nm fun n=>{n with np:=nd.np+(tvs.toArray.size:Int)}).ab=i4 (aZ st.ab x) x xs.length:=by
  rw [sM S9.wf e4.mem,e4.ab,e4.nm,List.size_toArray,htl]
 have z3:s.heap.objs.size≤s3.heap.objs.size:=Nat.le_trans gg.size (Nat.le_trans t2.size g3.size);have n10:=(e4.nxt.le z3).trans (il F10 s.heap.objs.size st4 nd.nm) (Nat.le_refl _);have r10:(st4.upd nd.nm fun n=>{n with np:=nd.np+(tvs.toArray.size:Int)}).ready=none:=by show st4.ready=none;rw [e4.ready,hr]
 have ap10:∀a,foot (st4.upd nd.nm fun n=>{n with np:=nd.np+(tvs.toArray.size:Int)}) a→¬Mine env own a:=fun a f=>ap4 a ((eO F10 st4 _ a).mp f)
 have m59:Mv (XX env own (foot st)) s G {s7 with toks:=s7.toks+3} G7:=((((gg.trans (t2.trans g3)).mv.trans (m4.rm fun a f=>f)).trans m5.lm).trans (g6.trans (g7.trans g9)).mv)
 have mA:Mv (XX env own (foot st)) s G s10 G7:=m59.fresh_trans m10 fun a f=>(e4.foot a f).imp (fun z=>.inr z) fun z=>Nat.le_trans z3 z
 refine wpAny_execs_cons (eT (nm (d:=.tup (xs.map .str)) V10 (by kernel_rfl) fun v rv=>?_) (fun Z=>rfl))
 refine ck rv.tup_i fun Z Z Z z7 q10 r10'=>?_;subst z7
 refine⟨s10,G7,_,kw _ B.room.hh V10.inn q10 r10',fun It wr St s11 g11 T st0 hw=>?_⟩
 have V11:=V10.grew g11;have S11:=S10.grew g11;have z10:s.heap.objs.size≤s10.heap.objs.size:=mA.size;generalize hst:(st4.upd nd.nm fun n=>{n with np:=nd.np+(tvs.toArray.size:Int)})=st10 at*
 refine gF (fun i s' G' ρ'=> ∃st',AI w sB env own st s G G7 s11 wr x xs i s' G' ρ' st') T ?_ B.room.hh B.sco (by kernel_rfl) V11 ?_ st0 g11.inn ?_ ?_ ?_ ?_
 ·intro d hd;refine ah (List.mem_map.mp hd) fun y Z z8=>?_;subst z8
  rfl
 ·refine⟨st10,S11,ab10,n10,r10,mA.trans g11.mv,Nat.le_refl _,.refl _,by kernel_rfl,by kernel_rfl,fun a f=>⟨ap10 a f,fun hwa=>?_⟩,?_,?_⟩
  ·exact Nat.lt_irrefl _ (Nat.lt_of_lt_of_le (S10.lt f) (hw a hwa).1)
  ·rw [←lJ,ab10,←lJ];unfold i4;rw [nH];exact mq _ _
  ·rw [ab10];exact jU (fU hsu) (Nat.le_refl _) fun q h=>h
 ·exact fun b hb=>⟨⟨Kn.none_ge V10.inn (hw b hb).1,Kn.none_ge V10.inn (hw b hb).1,(hw b hb).2⟩,aS V10 (hw b hb).1,Nat.le_trans V10.up.size (hw b hb).1⟩
 ·exact fun b o e=>e8 V10 e
 ·intro i d s12 G12 ρ12 E2 hi j V12 s13 m13 V13 I13;refine ez fun Q1 E1 k1=>?_;refine xe j fun st' z9=>?_;obtain⟨S12,ab12,n12,r12,m12,z12,le12,e1,e2,ap12,l12,su12⟩:=z9
  obtain⟨y,hy,rfl⟩:∃y,xs[i]? =some y∧D.str y=d:=by
   rw [List.getElem?_map]at hi;exact Option.map_eq_some_iff.mp hi
  have hix:i<xs.length:=(List.getElem?_eq_some_iff.mp hy).1;have S13:=S12.keep m13 fun a f z=>z.elim (ap12 a f).1 (ap12 a f).2
  refine wpAny_execs_cons (bP (dK (x:= "_get_nodeinfo") (f:=121) (ds:=[.str y]) rfl (by rfl) (by rfl) (by kernel_rfl) (by kernel_rfl) (by kernel_rfl) (fun o d v=>by kernel_rfl) B.room B.sce hB (by kernel_rfl)
   (au (a:=st.self) V13 ((aN (by kernel_rfl)).trans e1) ⟨st',G12,by rw [n12.self],S13.at_,V13,fun vs s14 G14 g14 r14 V14=>?_⟩)) rfl rfl rfl)
  refine aX r14.cons_i fun Z Z z10 q14 r14'=>?_;subst z10
  obtain rfl:=r14'.nil_i;refine xe q14.str_i fun Z z11=>?_;subst z11
  refine ji (k:=k+1) B.room hB hg V14.up V14.inn (S13.grew g14) (by lia) fun s15 st15 nd15 m15 S15 e15=>?_
  have z14:s11.heap.objs.size≤s14.heap.objs.size:=Nat.le_trans z12 (Nat.le_trans m13.size g14.size);have V15:=V14.mut m15 fun a f=>⟨(ap12 a f).1,(S12.off a f).2⟩
  have ap15:∀a,foot st15 a→¬Mine env own a∧¬wr a:=fun a f=>(e15.foot a f).elim (ap12 a) fun z=>⟨aS V14 z,fun hwa=>Nat.lt_irrefl _ (Nat.lt_of_lt_of_le (hw a hwa).2 (Nat.le_trans z14 z))⟩
  refine sto (d:=.adr nd15.a) B.room.hh B.sco V15 (.adr _) (by kernel_rfl) fun s16 V16 m16=>?_
  have S16:=S15.mine m16 fun a f=>(ap15 a f).1
  refine wpAny_execs_cons (wpAny_Expr_any (wpAny_Call_append rfl (by rfl) rfl rfl (bB rfl (au (a:=nd15.a) V16 (by kernel_rfl) (oz (V16.cx hB).kin (S16.at_.nds nd15 e15.mem) ?_)))) (cq V16))
  have g17:ae s16 G14 {s16 with toks:=s16.toks+1} G14:=.toks V16.inn _ (Nat.le_add_right _ _)
  have V17:=V16.grew g17;have S17:=S16.grew g17;refine aR ((S17.at_.nds nd15 e15.mem).2.2.plain) fun pv pl Z Z=>?_;have su15:∀p∈st15.ab,p.2.2.length≤500+i:=by rw [e15.ab];exact fU su12
  have sn15:nd15.su.length≤500+i:=su15 _ (List.mem_map.mpr ⟨nd15,e15.mem,rfl⟩);refine⟨nd15.la,_,rfl,pl,nm (d:=.str x) V17 ((aN (by kernel_rfl)).trans ((aN (by kernel_rfl)).trans e2)) fun vx rvx=>?_⟩
  refine xe rvx.str_i fun Z z12=>?_;subst z12
  refine BL (s:={s16 with toks:=s16.toks+1}) e15.mem V17.inn S17 (by lia) fun s18 m18 S18=>?_
  have F18:=tL fun l=>l++ [x]
  have fla:=(cw e15.mem).2;have V18:=V17.mut m18 fun a e=>by subst e;exact⟨(ap15 _ fla).1,(S17.off _ fla).2⟩
  refine wpAny_execs_nil ?_;have mB:Mv (XX env own (foot st')) s13 G12 s18 G14:=(((g14.mv.trans (m15.rm fun a f=>f)).trans m16.lm).trans g17.mv).fresh_trans m18 fun a e=>by
   subst e;exact(e15.foot _ fla).imp (fun z=>.inr z) fun z=>Nat.le_trans g14.size z
  have sz12:s.heap.objs.size≤s12.heap.objs.size:=m12.size;have ab18:(st15.upd nd15.nm fun n=>{n with su:=n.su++ [x]}).ab=gK (aZ st'.ab y) y x:=by
   rw [sN st15 nd15.nm (g:=fun q=>(q.1,q.2++ [x])) F18 fun n=>rfl,e15.ab,e15.nm]
   rfl
  refine k1 _ _ ?_;refine⟨G14,_,_,V18,⟨_,S18,?_,?_,?_,?_,Nat.le_trans z12 (Nat.le_trans m13.size mB.size),le12.trans mB.le,(aN (by kernel_rfl)).trans ((aN (by kernel_rfl)).trans e1),(aN (by kernel_rfl)).trans ((aN (by kernel_rfl)).trans e2),fun a f=>ap15 a ((eO F18 st15 _ a).mp f),?_,?_⟩,mB,fun b hb=>?_⟩
  ·rw [ab18,ab12,List.take_add_one,hy,List.foldl_append];rfl
  ·exact(n12.trans (e15.nxt.le (Nat.le_trans m13.size g14.size)) sz12).trans (il F18 s.heap.objs.size st15 nd15.nm) (Nat.le_refl _)
  ·show st15.ready=none
   rw [e15.ready,r12]
  ·refine(m12.fresh_trans m13 fun a f=>f.imp (fun z=>.inl z) fun z=>Nat.le_trans z10 (hw a z).1).fresh_trans mB fun a f=>?_
   rcases f with f |f
   ·exact .inl (.inl f)
   ·exact(n12.foot a f).imp (fun z=>.inr z) id
  ·rw [←lJ,ab18];unfold gK;rw [nH];have:=mq st'.ab y;rw [lJ]at this
   lia
  ·rw [ab18];exact jU (fU su12) (by lia) fun q hq=>by simp;lia
  ·have G7n:∀{b},G12 b=none→G7 b=none:=fun{b} h=>by
    cases q:G7 b with
    |none=>rfl
    |some o=>rw [le12 b o q]at h;exact(lW h).elim
   rcases hb with hb |hb
   ·refine⟨fun hwb=>aS V10 (hw b hwb).1 hb,?_⟩
    cases q:G7 b with
    |none=>rfl
    |some o=>exact absurd hb (e8 V10 q)
   ·exact⟨(ap12 b hb).2,G7n (S12.off b hb).1⟩
 ·intro s12 G12 ρ12 j V12 s13 m13 V13;refine xe j fun st' z13=>?_;obtain⟨S12,ab12,n12,r12,m12,z12,le12,e1,e2,ap12,l12,su12⟩:=z13
  refine wpAny_execs_nil ?_;have hlx:(xs.map D.str).length=xs.length:=List.length_map ..;rw [hlx,List.take_length]at ab12;refine h s13 st' (B.drop g (m12.fresh_trans m13 fun a f=>.inr (Nat.le_trans z10 (hw a f).1))) ((S12.keep m13 fun a f=>(ap12 a f).2).un ?_) n12 ab12 r12
  exact m12.le
end
noncomputable def sE (P:Params)(a:Value):Sem (List (Str×Value)):=match kb (KP P) 114 with |some fd=>bindArgs fd ⟨[a],[]⟩ |none=>pure []
noncomputable def B9 (P:Params)(a:Value)(o:Obj):Sem (List (Str×Value)):=match sE P a with | .load _ _ k=>k o |_=>pure []
theorem E6 (P:Params)(a:Value):dG (KP P) 114 (an 114) (aO 114) (bj 114) [a] (sE P a):=
 ek (by kernel_rfl) (by kernel_rfl) (by kernel_rfl) (by kernel_rfl) (by kernel_rfl) (by kernel_rfl) (by kernel_rfl) (by kernel_rfl)
theorem uS (P:Params)(a:Value):sE P a=.load 107 none (B9 P a):=by kernel_rfl
theorem uQ (P:Params)(a:Value):B9 P a {cls:=.type "tuple",data:=.seq #[.none]}=pure ((aO 114).zip [a,.none]):=by kernel_rfl
theorem yG (P:Params):(KP P).lookup 107=some {cls:=.type "tuple",data:=.seq #[.none]}:=by kernel_rfl
theorem oh (P:Params):makesIn (KP P) 178=true:=by kernel_rfl
theorem yF (P:Params):findIn (KP P) (.ref 178) "__init__" =some (some (.ref 114)):=by kernel_rfl
theorem xB (P:Params):typeIn (KP P) (.ref 114)=some (.type "function"):=by kernel_rfl
section
variable {prog:Program}{w:World}{mg mb:Str→Option Value}{k:Nat}{A:Around}{env:Env}{own:List (Str×Addr)}{s sB:Shared}{G GB:Kn}{E:Value→Shared→Prop}{sc:aq}{ρ:Ro}{st:Sr}
theorem fC {a dx:Addr}{es es':List DictEntry}{n:Nat}{x:Str}{v:Value}{Q:Unit→Shared→Prop}(X:(KP w.params).In s.heap)(F:eM x)(I:G.In s.heap)(hn:G dx=none)
  (ho:s.heap.get? a=some (instObj 178 dx))(hd:s.heap.get? dx=some (dictOf es n))(hk:es.any (·.refKey)=false)(hz:es.length≤900)(he:putL x (PyData.keyHash w.params x) (.str x (s.toks+1)) v es=es')
  (h:∀s',Mv (· =dx) s G s' G→(∃n',s'.heap.get? dx=some (dictOf es' n'))→Q () s'):wpAny (model prog w) A (setAttr (.ref a) x v) Q E s:=by
 refine An X F ho hd hk hz (h _ (gU I rfl hn (by lia)) ⟨putN x es n,?_⟩)
 rw [Heap.get?_update_self _ hd (by rw [putName_dict];rfl),putName_dict,he]
theorem y1 {a:Addr}(X:(KP w.params).In s.heap)(I:G.In s.heap)(E:Value→Shared→Prop):
  wpAny (model prog w) A (sE w.params (.ref a)) (fun b s₁=> ∃vs' G₁,b=(aO 114).zip vs'∧ae s G s₁ G₁∧ai w.params G₁ vs' [.adr a,.none]) E s:=by
 rw [uS];refine nd_load (X _ _ (yG w.params)) ?_;rw [uQ];exact wpAny_pure ⟨[.ref a,.none],G,rfl,.refl I,.cons (.adr a) (.cons .none .nil)⟩
theorem oH {M:Model}{pos:Pos}{Q:Value→Shared→Prop}(h:Q (.ref s.heap.objs.size) {s with heap:=s.heap.push (cR [] 0)}):wpAny M A (eval (.Dict [] [] pos) env) Q E s:=wpAny_Dict_empty h
noncomputable def El (x dx d:Addr):Sr:=⟨x,dx,d,[],none⟩
theorem v8 {x dx:Addr}{R:Result→Shared→Prop}(rm:am (k+1) A)(hB:Cx (KP w.params) mg mb sB)(U:Up sB s)(I:G.In s.heap)(hx:s.heap.get? x=some (instObj 178 dx))(hd:s.heap.get? dx=some emptyDict)
  (hn:G x=none)(hz:sB.heap.objs.size≤x)(hn':G dx=none)(hz':sB.heap.objs.size≤dx)
  (h:∀s' d,Mv (fun a=>a=x∨a=dx) s G s' G→s.heap.objs.size≤d→az w.params sB G s' (El x dx d)→R (.ok (.ret .none)) s'):
  codeAny (model prog w) A (.call (.ref 114) ⟨[.ref x],[]⟩) R s:=by
 refine oK aI (args:=[.adr x,.none]) (E6 _ _) (by kernel_rfl) rm hB U I (fun E=>y1 (U.cx hB).kin I E) fun env own s₁ G₁ s' E' g B hE=>?_
 have lx:x<s.heap.objs.size:=Heap.lt_size hx;have ldx:dx<s.heap.objs.size:=Heap.lt_size hd;have nmn:∀a,a<s.heap.objs.size→¬Mine env own a:=fun a l m=>Nat.lt_irrefl _ (Nat.lt_of_lt_of_le l (Nat.le_trans g.size (B.mine _ m)))
 have nxd:∀a,a=dx→¬Mine env own a∧sB.heap.objs.size≤a:=fun a e=>by rw [e];exact⟨nmn _ ldx,hz'⟩
 have gn:∀a,a<s.heap.objs.size→G a=none→G₁ a=none:=fun a l e=>by
  cases q:G₁ a with
  |none=>rfl
  |some o=>
   rcases g.fresh _ _ q with z |z
   ·exact(aa (e.symm.trans z)).elim
   ·exact absurd l (Nat.not_lt.mpr z)
 have gdx:=gn dx ldx hn';have hx1:=B.keep _ _ (g.keep _ _ hx);have hd1:s'.heap.get? dx=some (dictOf [] 0):=B.keep _ _ (g.keep _ _ hd);have ne:x≠dx:=bq hx hd (by simp)
 have S1:=B.st;refine wpAny_execs_cons (bP (oH (bU ?_)) rfl rfl rfl);have p1:ae s' G₁ {s' with heap:=s'.heap.push (cR [] 0)} G₁:=ae.push S1.inn _ s'.toks (Nat.le_refl _)
 have hdn:(s'.heap.push (cR [] 0)).get? s'.heap.objs.size=some (cR [] 0):=Heap.get?_push_size _ rfl;have S1':=S1.grew p1;refine au (a:=x) S1' (by kernel_rfl) (fC (es':=[ii w.params "_node2info" (s'.toks+1) (.ref s'.heap.objs.size)]) (S1'.cx hB).kin .info S1'.inn gdx (p1.keep _ _ hx1) (p1.keep _ _ hd1) rfl (by simp) (by kernel_rfl) fun s2 m2 hd2=>?_)
 have S2:=S1'.mut m2 nxd;have hx2:=m2.keep _ _ ne (p1.keep _ _ hx1);obtain⟨n2,hd2⟩:=hd2;refine wpAny_execs_cons (bP (wpAny_Constant_none (bU (au (a:=x) S2 (by kernel_rfl) (fC (es':=[ii w.params "_node2info" (s'.toks+1) (.ref s'.heap.objs.size),ii w.params "_ready_nodes" (s2.toks+1) .none]) (S2.cx hB).kin .ready S2.inn gdx hx2 hd2 rfl (by simp) (by kernel_rfl) fun s3 m3 hd3=>?_)))) rfl rfl rfl)
 have S3:=S2.mut m3 nxd;have hx3:=m3.keep _ _ ne hx2;obtain⟨n3,hd3⟩:=hd3;refine wpAny_execs_cons (bP (wpAny_Constant_int (bU ?_)) rfl rfl rfl);have t3:=ae.toks S3.inn (s3.toks+1) (Nat.le_add_right _ _);have S3':=S3.grew t3;refine au (a:=x) S3' (by kernel_rfl) (fC (es':=[ii w.params "_node2info" (s'.toks+1) (.ref s'.heap.objs.size),ii w.params "_ready_nodes" (s2.toks+1) .none,ii w.params "_npassedout" (s3.toks+2) (.int 0 s3.toks)]) (S3'.cx hB).kin .passed S3'.inn gdx hx3 hd3 rfl (by simp) (by kernel_rfl) fun s4 m4 hd4=>?_)
 have S4:=S3'.mut m4 nxd;have hx4:=m4.keep _ _ ne hx3;obtain⟨n4,hd4⟩:=hd4;refine wpAny_execs_cons (bP (wpAny_Constant_int (bU ?_)) rfl rfl rfl);have t4:=ae.toks S4.inn (s4.toks+1) (Nat.le_add_right _ _);have S4':=S4.grew t4;refine au (a:=x) S4' (by kernel_rfl) (fC (es':=gb w.params s'.heap.objs.size .none ⟨s'.toks+1,s2.toks+1,s3.toks+2,s4.toks+2,0,s3.toks,0,s4.toks⟩) (S4'.cx hB).kin .fin S4'.inn gdx hx4 hd4 rfl (by simp) (by kernel_rfl) fun s5 m5 hd5=>?_)
 have S5:=S4'.mut m5 nxd;have hx5:=m5.keep _ _ ne hx4;refine wpAny_execs_cons (wpAny_If (wpAny_isTrue_Compare1 (nm (d:=.none) S5 (by kernel_rfl) fun v rv=>?_) (bO rfl)))
 obtain rfl:=rv.none_i;refine wpAny_Constant_none (isNot_none (wpAny_truthy_bool ?_));refine wpAny_execs_nil (wpAny_execs_nil ?_);have nd:s'.heap.objs.size≠dx:=fun z=>Nat.lt_irrefl _ (Nat.lt_of_lt_of_le ldx (Nat.le_trans g.size (Nat.le_trans B.size (Nat.le_of_eq z))))
 have hdn5:s5.heap.get? s'.heap.objs.size=some (cR [] 0):=m5.keep _ _ nd (m4.keep _ _ nd (m3.keep _ _ nd (m2.keep _ _ nd hdn)));have zz:s.heap.objs.size≤s'.heap.objs.size:=Nat.le_trans g.size B.size;have M:Mv (XX env own (fun a=>a=x∨a=dx)) s G s5 G₁:=((((((((g.trans (B.g g.inn)).trans p1).mv.trans (m2.rm fun a e=>.inr e)).trans (m3.rm fun a e=>.inr e)).trans t3.mv).trans (m4.rm fun a e=>.inr e)).trans t4.mv).trans (m5.rm fun a e=>.inr e))
 refine h s5 s'.heap.objs.size (B.drop g M) zz ⟨⟨hx5,⟨_,hd5⟩,(fun r l q=>by exact(aa q).elim),⟨[],0,hdn5,.nil⟩,(fun n hm=>by cases hm)⟩,⟨.nil,(fun n hm=>by cases hm),(fun n hm=>by cases hm),(fun n hm=>by cases hm),(fun n l q=>by exact(aa q).elim),nd.symm,(fun n hm=>by cases hm),nL (S1.cx hB)⟩,fun a f=>?_⟩
 rcases f with e |e |e |⟨r,l,q,_⟩ |⟨n,hm,_⟩
 ·rw [e];exact⟨hn,hz⟩
 ·rw [e];exact⟨hn',hz'⟩
 ·rw [e];exact⟨Kn.none_ge I zz,Nat.le_trans S1.up.size (Nat.le_refl _)⟩
 ·exact(aa q).elim
 ·cases hm
theorem vN {Q:Value→Shared→Prop}(rm:am (k+2) A)(hB:Cx (KP w.params) mg mb sB)(U:Up sB s)(I:G.In s.heap)
  (h:∀s' st,ae s G s' G→az w.params sB G s' st→st.nodes=[]→st.ready=none→(∀a,foot st a→s.heap.objs.size≤a)→Q (.ref st.self) s'):
  wpAny (model prog w) A (call (.ref 178) []) Q E s:=by
 have X:=(U.cx hB).kin;obtain⟨hh,g,d,tk,os⟩:=s;refine wpAny_call (make_core (makes_of X (oh _)) (looks_findIn X (yF _)) (fun self=>bind_fn X self (xB _)) (.inl rfl) ?_)
 have G1:ae (⟨hh,g,d,tk,os⟩:Shared) G ⟨hh.push emptyDict,g,d,tk,os⟩ G:=ae.push I emptyDict tk (Nat.le_refl _);have G2:ae (⟨hh.push emptyDict,g,d,tk,os⟩:Shared) G ⟨(hh.push emptyDict).push (instObj 178 hh.objs.size),g,d,tk,os⟩ G:=ae.push G1.inn (instObj 178 hh.objs.size) tk (Nat.le_refl _);have G3:=G1.trans G2;have sz:(hh.push emptyDict).objs.size=hh.objs.size+1:=Heap.size_push _ _;refine v8 (dx:=hh.objs.size) rm.made hB (U.grew G3) G3.inn ?_ ?_ ?_ ?_ ?_ ?_ fun s' dd m hdd S=>?_
 ·show((hh.push emptyDict).push (instObj 178 hh.objs.size)).get? (hh.objs.size+1)=_
  rw [←sz,Heap.get?_push_size _ rfl]
 ·show((hh.push emptyDict).push (instObj 178 hh.objs.size)).get? hh.objs.size=_
  exact Heap.get?_push_of_some _ (Heap.get?_push_size _ rfl)
 ·exact Kn.none_ge I (Nat.le_succ _)
 ·exact Nat.le_trans U.size (Nat.le_succ _)
 ·exact Kn.none_ge I (Nat.le_refl _)
 ·exact U.size
 ·have sz2:((hh.push emptyDict).push (instObj 178 hh.objs.size)).objs.size=hh.objs.size+2:=by rw [Heap.size_push,sz]
  have hdd':hh.objs.size≤dd:=Nat.le_trans (by show hh.objs.size≤((hh.push emptyDict).push (instObj 178 hh.objs.size)).objs.size;rw [sz2];lia) hdd
  refine⟨rfl,h s' _ ?_ S rfl rfl fun a f=>?_⟩
  ·have t:=G3.mv (X:=fun a=>a=hh.objs.size+1∨a=hh.objs.size) |>.trans m
   refine⟨t.same,t.size,t.tk,fun b o e=>t.keep b o (fun z=>?_) e,.refl _,t.inn,t.fresh⟩
   have lt:b<hh.objs.size:=Heap.lt_size e;rcases z with z |z
   ·exact absurd lt (Nat.not_lt.mpr (by rw [z];exact Nat.le_succ _))
   ·exact absurd lt (Nat.not_lt.mpr (by rw [z];exact Nat.le_refl _))
  ·rcases f with rfl |rfl |rfl |⟨r,l,q,_⟩ |⟨n,hm,_⟩
   ·exact Nat.le_succ _
   ·exact Nat.le_refl _
   ·exact hdd'
   ·exact(aa q).elim
   ·cases hm
end
theorem km {st:Sr}{r:Addr}{l l':List (List Nat)}(h:st.ready=some (r,l))(a:Addr):foot {st with ready:=some (r,l')} a↔foot st a:=by
 unfold foot;dsimp only;rw [h];constructor
 ·rintro (f |f |f |⟨r',l'',q,f⟩ |f)
  ·exact .inl f
  ·exact .inr (.inl f)
  ·exact .inr (.inr (.inl f))
  ·cases q;exact .inr (.inr (.inr (.inl ⟨_,_,rfl,f⟩)))
  ·exact .inr (.inr (.inr (.inr f)))
 ·rintro (f |f |f |⟨r',l'',q,f⟩ |f)
  ·exact .inl f
  ·exact .inr (.inl f)
  ·exact .inr (.inr (.inl f))
  ·cases q;exact .inr (.inr (.inr (.inl ⟨_,_,rfl,f⟩)))
  ·exact .inr (.inr (.inr (.inr f)))
noncomputable def Sr.rd (st:Sr)(r:Addr)(l:List (List Nat)):Sr:={st with ready:=some (r,l)}
theorem pS {st:Sr}{r:Addr}{l l':List (List Nat)}(h:st.ready=some (r,l)) (n:Nat):eu n st (st.rd r l'):=⟨rfl,fun a f=>.inl ((km h a).mp f)⟩
theorem az.rdy {P:Params}{sB s s':Shared}{G:Kn}{st:Sr}(S:az P sB G s st){r:Addr}{l l':List (List Nat)}(hr:st.ready=some (r,l))(k:∀c o,c≠r→s.heap.get? c=some o→s'.heap.get? c=some o)(hn:cJ P s'.heap r l'):az P sB G s' (st.rd r l'):=by
 have A:=S.at_;obtain⟨a,⟨o,n,ho⟩,c,⟨es,n',d,d'⟩,e⟩:=A;refine aA (c r l hr) fun vs m er Z=>?_;refine⟨⟨k _ _ (bq a er (by simp)) a,⟨o,n,?_⟩,fun r' l'' q=>?_,⟨es,n',k _ _ (bq d er (by simp)) d,d'⟩,fun nd hm=>(e nd hm).of fun x o' q he=>k x o' ?_ he⟩,⟨S.wf.nms,S.wf.nm,S.wf.a,S.wf.la,fun r' l'' q=>?_,S.wf.d,S.wf.nd,S.wf.sys⟩,fun x hx=>S.off x ((km hr x).mp hx)⟩
 ·rw [hr]at ho;exact k _ _ (bq ho er (by simp)) ho
 ·cases q;exact hn
 ·refine b9 (e nd hm) fun z1 e2 z2=>?_;obtain⟨tn,tp,e1⟩:=z1;obtain⟨vs',m',e3,_⟩:=z2
  rcases q with rfl |rfl |rfl
  ·exact bq e1 er (by simp)
  ·exact bq e2 er (by simp)
  ·exact S.wf.r r l hr nd hm
 ·cases q;exact S.wf.r r l hr
theorem az.cnt {P:Params}{sB s s':Shared}{G:Kn}{st:Sr}(S:az P sB G s st)(k:∀c o,c≠st.dx→s.heap.get? c=some o→s'.heap.get? c=some o)(hn:∃o n,s'.heap.get? st.dx=some (dictOf (gb P st.d (lS st.ready) o) n)):az P sB G s' st:=by
 have A:=S.at_;obtain⟨a,⟨o,n,ho⟩,c,⟨es,n',d,d'⟩,e⟩:=A;refine⟨⟨k _ _ (bq a ho (by simp)) a,hn,fun r l q=>(c r l q).of fun o' z=>k _ _ ?_ z,⟨es,n',k _ _ (Ne.symm S.wf.d) d,d'⟩,fun nd hm=>(e nd hm).of fun x o' q he=>k x o' ?_ he⟩,S.wf,S.off⟩
 ·refine aA (c r l q) fun vs m er Z=>?_;exact bq er ho (by simp)
 ·refine b9 (e nd hm) fun z3 e2 z4=>?_;obtain⟨tn,tp,e1⟩:=z3;obtain⟨vs',m',e3,_⟩:=z4
  rcases q with rfl |rfl |rfl
  ·exact bq e1 ho (by simp)
  ·exact(S.wf.nd nd hm).2
  ·exact bq e3 ho (by simp)
section
variable {prog:Program}{w:World}{mg mb:Str→Option Value}{k:Nat}{A:Around}{env:Env}{own:List (Str×Addr)}{s sB:Shared}{G GB:Kn}{E:Value→Shared→Prop}{sc:aq}{ρ:Ro}{st:Sr}
theorem y6 {r:Addr}{l:List (List Nat)}(hr:st.ready=some (r,l)){x:List Nat}{t:Tok}{Q:Value→Shared→Prop}(I:G.In s.heap)(S:az w.params sB G s st)(hl:l.length≤1000)
  (h:∀s',Mv (· =r) s G s' G→az w.params sB G s' (st.rd r (l++ [x]))→Q .none s'):wpAny (model prog w) A (call (.builtin "list.append") [.ref r,.str (mk x) t]) Q E s:=by
 have fr:foot st r:=.inr (.inr (.inr (.inl ⟨r,l,hr,rfl⟩)));refine mi (S.at_.rdy r l hr) hl fun h' l' sb hz=>?_;refine h {s with heap:=h'} ⟨⟨h',s.toks,rfl⟩,hz,Nat.le_refl _,fun b o n q=>(sb.2 b n).trans q,.refl G,fun b o q=>(sb.2 b fun z=>?_).trans (I b o q),fun Z Z q=>.inl q⟩ ?_
 ·rw [z,(S.off r fr).1]at q;exact(aa q).elim
 ·exact S.rdy hr (fun c o z q=>(sb.2 c z).trans q) l'
theorem tU (vs:List Value) (n:Nat):∃m,Obj.mapSeq (fun Z=> #[]) (aB vs n)=aB [] m:=⟨if(#[]:Array Value).size==vs.toArray.size then n else n+1,rfl⟩
theorem uy {r:Addr}{l:List (List Nat)}(hr:st.ready=some (r,l)){pos:Pos}{Q:Value→Shared→Prop}(I:G.In s.heap)(S:az w.params sB G s st)(hl:l.length≤1000)
  (h:∀s',Mv (· =r) s G s' G→az w.params sB G s' (st.rd r [])→Q .none s'):wpAny (model prog w) A (callWith pos (.builtin "list.clear") [.ref r] [] []) Q E s:=by
 have fr:foot st r:=.inr (.inr (.inr (.inl ⟨r,l,hr,rfl⟩)));refine aA (S.at_.rdy r l hr) fun vs n e rv=>?_;have hlen:vs.length=l.length:=by have:=rv.length;simpa using this
 refine P.clear_list (items:=vs.toArray) (n:=n) e ?_ (by rw [List.size_toArray,sizeLine_eq];lia)
 refine xe (tU vs n) fun m hm=>?_;refine h _ ⟨⟨_,s.toks,rfl⟩,by rw [cM];exact Nat.le_refl _,Nat.le_refl _,fun b o n q=>(Heap.get?_update_ne _ _ _ _ n).trans q,.refl G,fun b o q=>(Heap.get?_update_ne _ _ _ _ fun z=>?_).trans (I b o q),fun Z Z q=>.inl q⟩ ?_
 ·rw [z,(S.off r fr).1]at q;exact(aa q).elim
 ·refine S.rdy hr (fun c o z q=>(Heap.get?_update_ne _ _ _ _ z).trans q) ⟨[],m,?_,.nil⟩
  rw [Heap.get?_update_self _ e (by rw [hm];rfl),hm]
theorem pQ {x:Str}{i:Int}{t:Tok}{Q:Unit→Shared→Prop}(hx:x= "_npassedout" ∨x= "_nfinished")(X:(KP w.params).In s.heap)(I:G.In s.heap)(S:az w.params sB G s st)
  (h:∀s',Mv (· =st.dx) s G s' G→az w.params sB G s' st→Q () s'):wpAny (model prog w) A (setAttr (.ref st.self) x (.int i t)) Q E s:=by
 have fd:foot st st.dx:=.inr (.inl rfl);have nk:∀(d:Addr) (v:Value) (o:BV),(gb w.params d v o).any (·.refKey)=false:=fun d v o=>rfl
 refine aV S.at_.own fun o n e=>?_;rcases hx with rfl |rfl
 ·refine fC (es':=gb w.params st.d (lS st.ready) {o with ip:=i,tp:=t}) X .passed I (S.off _ fd).1 S.at_.selfo e (nk _ _ _) (by simp [gb]) (by kernel_rfl) fun s' m he=>h s' m (S.cnt (fun c o z q=>m.keep c o z q) ?_)
  refine xe he fun n' he=>?_;exact⟨_,n',he⟩
 ·refine fC (es':=gb w.params st.d (lS st.ready) {o with jf:=i,tf:=t}) X .fin I (S.off _ fd).1 S.at_.selfo e (nk _ _ _) (by simp [gb]) (by kernel_rfl) fun s' m he=>h s' m (S.cnt (fun c o z q=>m.keep c o z q) ?_)
  refine xe he fun n' he=>?_;exact⟨_,n',he⟩
theorem mf {n2i x:Str}{p q pos:Pos}{xs:List Nat}{nd:Nd}{Q:Value→Shared→Prop}(rm:am k A)(hs:aD sc env)(hB:Cx (KP w.params) mg mb sB)(V:SO w.params sB GB env own ρ s G)(S:az w.params sB G s st)
  (e1:ρ n2i=some (.adr st.d))(e2:ρ x=some (.str xs))(ne:ar x n2i=false)(hm:nd∈st.nodes)(hn:nd.nm=xs)(h:∀s₁,ae s G s₁ G→SO w.params sB GB env own ρ s₁ G→Q (.ref nd.a) s₁):
  wpAny (model prog w) A (eval (.Subscript (.Name n2i p) (.Name x q) pos) env) Q E s:=by
 have fd:foot st st.d:=.inr (.inr (.inl rfl));refine eN (bT.see (ks:=st.dks) S.at_.dct V.inn (S.off _ fd).1 S.wf.sys (by rw [dT];exact S.wf.nms)) fun o ho le In rd=>?_
 have q:R0.ev sc (ad ρ n2i (.dict st.dks)) (.Subscript (.Name n2i p) (.Name x q) pos)=some (.adr nd.a):=by
  have f1:R0.ev sc (ad ρ n2i (.dict st.dks)) (.Subscript (.Name n2i p) (.Name x q) pos)=(match (match ad ρ n2i (.dict st.dks) n2i with |some d=>some d |none=>match aY sc n2i with |true=>none |false=>none)with
   |none=>none
   |some o=>match (match ad ρ n2i (.dict st.dks) x with |some d=>some d |none=>match aY sc x with |true=>none |false=>none)with
    |none=>none
    |some i=>eL o i):=rfl
  rw [f1,aN ne,e2];have:ad ρ n2i (.dict st.dks) n2i=some (.dict st.dks):=by unfold ad;rw [(ao n2i n2i).mpr rfl]
  rw [this];show ff st.dks xs=_
  rw [kz,←hn,gG S.wf hm];rfl
 exact AF (fS prog w (KP w.params) mg mb k) rm hs hB V le In (iL V.plain.env le e1 rd) q (.inr ⟨_,rfl⟩) fun v s₁ g rv V1=>by obtain rfl:=rv.adr_i;exact h s₁ g V1
end
set_option tactic.hygienic true
open PySem.AutoSeq1 (wpAny_loadPart')
set_option maxRecDepth 100000
section
variable {prog:Program}{w:World}{A:Around}{E:Value→Shared→Prop}{s:Shared}
theorem sk {Q:List Value→Shared→Prop}(it:Addr){T:String}{o:Obj}{items:Array Value}{n:Nat}(hT:T= "list" ∨T= "tuple")
  (ho:s.heap.get? it=some o)(hc:o.cls=.type T)(hd:o.data=.seq items n)
  (hQ:∀h',(∀b o',s.heap.get? b=some o'→h'.get? b=some o')∧s.heap.objs.size≤h'.objs.size→Q items.toList {s with heap:=h'})(hsz:items.size≤sizeLine:=by size_fits):
  wpAny (model prog w) A (collect (.ref it)) Q E s:=aK (wpAny_collect_seq it hT ho hc hd (fun h' hk hz=>hQ h' ⟨hk,hz.1⟩) hsz)
theorem ng (l:Addr)(o:Obj)(items:Array Value) (n:Nat)(hc:o.cls=.type "list")(hd:o.data=.seq items n)(hsz:items.size≤sizeLine:=by size_fits):
  Meets (Builtin.«tuple.__new__» ⟨[.type "tuple",.ref l],[]⟩)
   (fun Z R s=>s.heap.get? l=some o∧∀h':Heap,(∀b o',s.heap.get? b=some o'→h'.get? b=some o')∧s.heap.objs.size≤h'.objs.size→R (.ok (.ret (.ref h'.objs.size))) {s with heap:=h'.push {cls:=.type "tuple",data:=.seq items}}):=
 .of_wp fun prog w A R s h=>by
  obtain⟨hp,g,d,tk,os⟩:=s;obtain⟨ht,h⟩:=h;have hsub:=sub_tuple_self;have hinit:=init_tuple_lookup;have hmh:=madeHere_tuple;have hT:Shared.TypeIs ⟨hp,g,d,tk,os⟩ (.ref l) "list" :=⟨o,ht,hc⟩
  wp_walk using wpAny_loadPart' ht,wpAny_typeOf hT,sk (hsz:=hsz) l (.inl rfl) ht hc hd
  intro h' hk;show wpAny _ _ (Builtin.Tuple.tupleExact items.toList.toArray>>=fun v=>ret v) _ _ _
  unfold Builtin.Tuple.tupleExact;refine wpAny_bind (wpAny_newObj_type ?_ (by show items.toList.toArray.size≤sizeLine;simpa using hsz))
  refine wpAny_pure ⟨_,rfl,?_⟩;have e:items.toList.toArray=items:=by simp
  rw [e];exact h h' hk
theorem wt {l:Addr}{items:Array Value}{n:Nat}{o:Obj}{Q:Value→Shared→Prop}(ho:s.heap.get? l=some o)(hc:o.cls=.type "list")(hd:o.data=.seq items n)
  (h:∀h':Heap,(∀b o',s.heap.get? b=some o'→h'.get? b=some o')→s.heap.objs.size≤h'.objs.size→Q (.ref h'.objs.size) {s with heap:=h'.push {cls:=.type "tuple",data:=.seq items}})
  (hsz:items.size≤sizeLine:=by size_fits):
  wpAny (model prog w) A (call (.type "tuple") [.ref l]) Q E s:=
 callType_new F.called_tuple (by decide) (F.typeCall_tuple_1 _) (F.newCall_tuple_1 _) (fun obj=>F.args_object_init_2 obj _) F.entry_tuple_new
  (ng l o items n hc hd hsz) ⟨ho,fun h' hk=>⟨⟨_,Heap.get?_push_size _ rfl,rfl⟩,h h' hk.1 hk.2⟩⟩
end
set_option tactic.hygienic false
noncomputable def mj:bm:=⟨fun Z Z Z=>some .none,fun Z Z Z=>some true⟩
noncomputable def dw (L:AN)(y:List Nat):AN:=bc L y fun q=>(-1,q.2)
theorem a9 (L:AN)(x:List Nat)(f:Int×List (List Nat)→Int×List (List Nat)):(bc L x f).map (·.1)=L.map (·.1):=by
 unfold bc;rw [List.map_map];refine List.map_congr_left fun p Z=>?_;show(if p.1=x then(p.1,f p.2)else p).1=p.1
 split<;>rfl
theorem EY (P:Params)(a:Value):dG (KP P) 140 (an 140) (aO 140) (bj 140) [a] (pure ((aO 140).zip [a])):=
 ek (by kernel_rfl) (by kernel_rfl) (by kernel_rfl) (by kernel_rfl) (by kernel_rfl) (by kernel_rfl) (by kernel_rfl) (by kernel_rfl)
section
variable {prog:Program}{w:World}{mg mb:Str→Option Value}{k:Nat}{A:Around}{env:Env}{own:List (Str×Addr)}{s sB:Shared}{G GB:Kn}{E:Value→Shared→Prop}{sc:aq}{ρ:Ro}{st:Sr}
theorem iK {f:Value}{e:PySem.Expr}{pos:Pos}{first:List Value}{Q:Value→Shared→Prop}(hf:∀a,f≠ .ref a)(he:cX e=false)(h:wpAny (model prog w) A (eval e env) (fun v s₁=>wpAny (model prog w) A (call f (first++ [v])) Q E s₁) E s):
  wpAny (model prog w) A (callWith pos f first (backTo pos (starEach [e] env)) []) Q E s:=
 bD (R:=mj) (sc:=[]) (ρ:=aT) (ds:=[.none]) hf (by unfold bi;rw [he];rfl) (wpAny_items_cons (wpAny_mono h (fun v s₁ z=>wpAny_items_nil z) fun Z Z z=>z) (cU he))
structure RI (w:World)(sB:Shared)(env:Env)(own:List (Str×Addr))(st:Sr)(s:Shared)(G G7:Kn)(wr:Addr→Prop)(r:Addr)(l:List (List Nat)) (i:Nat)(s':Shared)(G':Kn)(ρ':Ro)(st':Sr):Prop where
 S:az w.params sB G' s' st'
 ab:st'.ab=(l.take i).foldl dw st.ab
 n:eu s.heap.objs.size st st'
 r:st'.ready=some (r,l)
 d:st'.d=st.d
 m:Mv (XX env own (foot st)) s G s' G'
 le:G7.Le G'
 e1:ρ' "self" =some (.adr st.self)
 e2:ρ' "n2i" =some (.adr st.d)
 e3:ρ' "result" =some (.tup (l.map .str))
 ap:∀a,foot st' a→¬Mine env own a∧¬wr a
 nm:st'.nodes.map (·.nm)=st.nodes.map (·.nm)
theorem rj {r:Addr}{l:List (List Nat)}{to:Tok}{Q:Value→Shared→Prop}(rm:am (k+2) A)(hB:Cx (KP w.params) mg mb sB)(hgo:mg "_NODE_OUT" =some (.int (-1) to))(U:Up sB s)(I:G.In s.heap)(S:az w.params sB G s st)
  (hr:st.ready=some (r,l))(hn:∀x∈l,x∈st.nodes.map (·.nm))(hl:l.length≤500)
  (h:∀v s' st' G',Mv (foot st) s G s' G'→Rd w.params G' v (.tup (l.map .str))→az w.params sB G' s' st'→eu s.heap.objs.size st st'→st'.ab=l.foldl dw st.ab→st'.ready=some (r,[])→Q v s'):
  wpAny (model prog w) A (call (.ref 140) [.ref st.self]) Q E s:=by
 refine eG aI (args:=[.adr st.self]) (EY _ _) (by kernel_rfl) rm hB U I (fun E=>cZ I (.cons (.adr st.self) .nil) E) fun env own s₁ G₁ s' E' g B hE=>?_
 have ap:=B.apart g S;have gg:ae s G s' G₁:=g.trans (B.g g.inn);have S1:=S.grew gg;have V1:=B.st;refine wpAny_execs_cons (wpAny_If (wpAny_isTrue_Compare1 (bB rfl (au (a:=st.self) V1 (by kernel_rfl) (Mine.get_ready (V1.cx hB).kin S1.at_ ?_))) (bO rfl)))
 rw [hr];refine wpAny_Constant_none (is_none (wpAny_truthy_bool ?_));refine wpAny_execs_nil ?_;have t2:ae s' G₁ {s' with toks:=s'.toks+1} G₁:=.toks V1.inn _ (Nat.le_add_right _ _)
 have V2:=V1.grew t2;have S2:=S1.grew t2;refine wpAny_execs_cons (bP (wpAny_Call_Name_kw (cE (V2.cx hB) B.sce (by kernel_rfl) (hB.blt ("tuple",.type "tuple") (List.mem_of_getElem? (i:=12) rfl)) (iK (by nofun) rfl (bB rfl (au (a:=st.self) V2 (by kernel_rfl) (Mine.get_ready (V2.cx hB).kin S2.at_ ?_)))))) rfl rfl rfl)
 rw [hr];have t3:ae {s' with toks:=s'.toks+1} G₁ {s' with toks:=s'.toks+2} G₁:=.toks V2.inn _ (Nat.le_succ _)
 have V3:=V2.grew t3;have S3:=S2.grew t3;refine aA (S3.at_.rdy r l hr) fun vs n er rv=>?_;have hlen:vs.length=l.length:=by have:=rv.length;simpa using this
 refine wt (l:=r) (items:=vs.toArray) (n:=n) er rfl rfl (fun h' hk hz=>?_) (by rw [List.size_toArray,sizeLine_eq];lia)
 have g4:ae {s' with toks:=s'.toks+2} G₁ {s' with heap:=h'.push (cB vs 0),toks:=s'.toks+2} (G₁.add h'.objs.size (cB vs 0)):=by
  have g0:ae {s' with toks:=s'.toks+2} G₁ {s' with heap:=h'.push (cB vs 0),toks:=s'.toks+2} G₁:=
   .same_known (s:={s' with toks:=s'.toks+2}) (t:=s'.toks+2) V3.inn (by show s'.heap.objs.size≤_;rw [Heap.size_push];exact Nat.le_succ_of_le hz) (fun b o e=>Heap.get?_push_of_some _ (hk b o e)) (Nat.le_refl _)
  exact g0.learn (Heap.get?_push_size _ rfl) hz (Kn.none_ge V3.inn hz)
 have V4:=V3.grew g4;have S4:=S3.grew g4;have rt:Rd w.params (G₁.add h'.objs.size (cB vs 0)) (.ref h'.objs.size) (.tup (l.map .str)):=.tup Kn.add_self (rv.un _);refine sto (d:=.tup (l.map .str)) B.room.hh B.sco V4 rt (by kernel_rfl) fun s5 V5 m5=>?_
 have S5:=S4.mine m5 ap;refine wpAny_execs_cons (bP (bB rfl (au (a:=st.self) V5 (by kernel_rfl) (fI (V5.cx hB).kin S5.at_ ?_))) rfl rfl rfl)
 have t6:=ae.toks V5.inn (s5.toks+1) (Nat.le_add_right _ _);have V6:=V5.grew t6;have S6:=S5.grew t6;refine sto (d:=.adr st.d) B.room.hh B.sco V6 (.adr _) (by kernel_rfl) fun s7 V7 m7=>?_
 have S7:=S6.mine m7 ap;generalize hG:G₁.add h'.objs.size (cB vs 0)=G7 at*;have mA:Mv (XX env own (foot st)) s G s7 G7:=(((gg.trans (t2.trans (t3.trans g4))).mv.trans m5.lm).trans t6.mv).trans m7.lm;refine wpAny_execs_cons (eT (nm (d:=.tup (l.map .str)) V7 (by kernel_rfl) fun v rv=>?_) (fun Z=>rfl))
 refine ck rv.tup_i fun Z Z Z z1 q7 r7=>?_;subst z1
 refine⟨s7,G7,_,kw _ B.room.hh V7.inn q7 r7,fun It wr St s8 g8 T st0 hw=>?_⟩
 have V8:=V7.grew g8;have S8:=S7.grew g8;have z7:s.heap.objs.size≤s7.heap.objs.size:=mA.size;refine gF (fun i s' G' ρ'=> ∃st',RI w sB env own st s G G7 wr r l i s' G' ρ' st') T ?_ B.room.hh B.sco (by kernel_rfl) V8 ?_ st0 g8.inn ?_ ?_ ?_ ?_
 ·intro d hd;refine ah (List.mem_map.mp hd) fun y Z z2=>?_;subst z2
  rfl
 ·exact⟨st,S8,rfl,.refl _ _,hr,rfl,mA.trans g8.mv,.refl _,by kernel_rfl,by kernel_rfl,by kernel_rfl,fun a f=>⟨ap a f,fun hwa=>Nat.lt_irrefl _ (Nat.lt_of_lt_of_le (S7.lt f) (hw a hwa).1)⟩,rfl⟩
 ·exact fun b hb=>⟨⟨Kn.none_ge V7.inn (hw b hb).1,Kn.none_ge V7.inn (hw b hb).1,(hw b hb).2⟩,aS V7 (hw b hb).1,Nat.le_trans V7.up.size (hw b hb).1⟩
 ·exact fun b o e=>e8 V7 e
 ·intro i d s12 G12 ρ12 E2 hi j V12 s13 m13 V13 I13;refine ez fun Q1 E1 k1=>?_;refine xe j fun st' z3=>?_;obtain⟨S12,ab12,n12,r12,d12,m12,le12,e1,e2,e3,ap12,ay⟩:=z3
  obtain⟨y,hy,rfl⟩:∃y,l[i]? =some y∧D.str y=d:=by
   rw [List.getElem?_map]at hi;exact Option.map_eq_some_iff.mp hi
  have S13:=S12.keep m13 fun a f z=>z.elim (ap12 a f).1 (ap12 a f).2
  have hym:=hn y (List.mem_of_getElem? hy);rw [←ay]at hym;refine ah (List.mem_map.mp hym) fun nd hnd hnm=>?_;refine wpAny_execs_cons (bP (di (V13.cx hB) B.sce (by kernel_rfl) hgo (bU (mf (st:=st') B.room B.sce hB V13 S13 ((aN (by kernel_rfl)).trans (d12▸e2)) (by kernel_rfl) (by kernel_rfl) hnd hnm fun s14 g14 V14=>?_))) rfl rfl rfl)
  have S14:=S13.grew g14;refine tt hnd (V14.cx hB).kin V14.inn S14 fun s15 m15 S15=>?_;have V15:=V14.mut m15 fun a f=>⟨(ap12 a f).1,(S12.off a f).2⟩
  refine wpAny_execs_nil ?_;have F15:=jS (-1);have mB:Mv (foot st') s13 G12 s15 G12:=g14.mv.trans m15;have sz12:s.heap.objs.size≤s12.heap.objs.size:=m12.size;have ab15:(st'.upd nd.nm fun n=>{n with np:= -1}).ab=dw st'.ab y:=by
   rw [sN st' nd.nm (g:=fun q=>(-1,q.2)) F15 fun n=>rfl,hnm]
   rfl
  refine k1 _ _ ?_;refine⟨G12,_,_,V15,⟨_,S15,?_,n12.trans (il F15 s.heap.objs.size st' nd.nm) (Nat.le_refl _),r12,d12,?_,le12,(aN (by kernel_rfl)).trans e1,(aN (by kernel_rfl)).trans e2,(aN (by kernel_rfl)).trans e3,fun a f=>ap12 a ((eO F15 st' _ a).mp f),?_⟩,mB,fun b hb=>⟨(ap12 b hb).2,?_⟩⟩
  ·rw [ab15,ab12,List.take_add_one,hy,List.foldl_append];rfl
  ·refine(m12.fresh_trans m13 fun a f=>f.imp (fun z=>.inl z) fun z=>Nat.le_trans z7 (hw a z).1).fresh_trans mB fun a f=>?_
   exact(n12.foot a f).imp (fun z=>.inr z) id
  ·rw [←bQ,ab15];unfold dw;rw [a9,bQ,ay]
  ·cases q:G7 b with
   |none=>rfl
   |some o=>have:=le12 b o q;rw [(S12.off b hb).1]at this;exact(aa this).elim
 ·intro s12 G12 ρ12 j V12 s13 m13 V13;refine xe j fun st' z4=>?_;obtain⟨S12,ab12,n12,r12,d12,m12,le12,e1,e2,e3,ap12,ay⟩:=z4
  have hlx:(l.map D.str).length=l.length:=List.length_map ..;rw [hlx,List.take_length]at ab12;have S13:=S12.keep m13 fun a f=>(ap12 a f).2
  have mB:Mv (XX env own (foot st)) s G s13 G12:=m12.fresh_trans m13 fun a f=>.inr (Nat.le_trans z7 (hw a f).1)
  refine wpAny_execs_cons (wpAny_Expr_any (wpAny_Call_method_lateS rfl rfl rfl (bB rfl (au (a:=st'.self) V13 (by rw [n12.self];exact e1) (Mine.get_ready (V13.cx hB).kin S13.at_ ?_)))) (cq V13))
  rw [r12];have t14:=ae.toks V13.inn (s13.toks+1) (Nat.le_add_right _ _);have V14:=V13.grew t14;have S14:=S13.grew t14;refine aA (S14.at_.rdy r l r12) fun vs14 n14 er14 rv14=>?_;refine⟨"list", "list.clear",F.plainAttrs_list,F.slot_list_clear,F.type_list_clear,⟨_,er14,rfl⟩,fun b hb=>by obtain rfl:=Value.ref.inj hb;exact⟨_,er14,rfl⟩,?_⟩
  refine uy r12 V14.inn S14 (by lia) fun s15 m15 S15=>?_
  have fr:foot st' r:=.inr (.inr (.inr (.inl ⟨r,l,r12,rfl⟩)));have V15:=V14.mut m15 fun a e=>by rw [e];exact⟨(ap12 _ fr).1,(S12.off _ fr).2⟩
  refine wpAny_execs_cons (wpAny_AugAssign_AttributeAny (au (a:=(st'.rd r []).self) V15 (by show ρ12 _=some (.adr st'.self);rw [n12.self];exact e1) (rX (V15.cx hB).kin S15.at_ fun i16 t16=>?_)))
  have t17:=ae.toks V15.inn (s15.toks+1) (Nat.le_add_right _ _);have V16:=V15.grew t17;have S16:=S15.grew t17;refine wpAny_Call_Name_kw (cE (V16.cx hB) B.sce (by kernel_rfl) (hB.blt ("len",.builtin "len") (List.mem_of_getElem? (i:=0) rfl)) (iK (by nofun) rfl (nm (d:=.tup (l.map .str)) V16 e3 fun v17 r17=>?_)))
  refine ck r17.tup_i fun Z Z Z z5 q17 rr17=>?_;subst z5
  refine P.len_tuple (V16.inn _ _ q17) (by have:=rr17.length;simp at this;simp;lia) (P.iadd_int ?_)
  have t18:ae {s15 with toks:=s15.toks+1} G12 {s15 with toks:=s15.toks+4} G12:=ae.toks (s:={s15 with toks:=s15.toks+1}) V16.inn _ (by show s15.toks+1≤s15.toks+4;lia)
  have V18:=V16.grew t18;have S18:=S16.grew t18;refine pQ (s:={s15 with toks:=s15.toks+4}) (.inl rfl) (V18.cx hB).kin V18.inn S18 fun s19 m19 S19=>?_
  have fdx:foot st' st'.dx:=.inr (.inl rfl);have V19:=V18.mut m19 fun a e=>by subst e;exact⟨(ap12 _ fdx).1,(S12.off _ fdx).2⟩
  refine wpAny_execs_cons (wpAny_Return_some (nm (d:=.tup (l.map .str)) V19 e3 fun v20 r20=>?_))
  have mC:Mv (foot st') s13 G12 s19 G12:=(((t14.mv.trans (m15.weak fun a e=>e▸fr)).trans (t17.trans t18).mv).trans (m19.weak fun a e=>e▸fdx))
  have mD:Mv (XX env own (foot st)) s G s19 G12:=mB.fresh_trans mC fun a f=>(n12.foot a f).imp (fun z=>.inr z) id
  have bd:=B.drop g mD;exact h v20 s19 _ G12 ⟨mD.same,mD.size,mD.tk,bd.keep,mD.le,mD.inn,mD.fresh⟩ r20 S19 (n12.trans (pS r12 s.heap.objs.size) (Nat.le_refl _)) ab12 rfl
end
noncomputable def cp (L:AN)(y:List Nat):Int:=match L.find? fun p=>aF p.1 y with |some p=>p.2.1 |none=>0
noncomputable def dm (q:AN×List (List Nat))(y:List Nat):AN×List (List Nat):=
 (bc q.1 y fun v=>(v.1 - 1,v.2),if cp (bc q.1 y fun v=>(v.1 - 1,v.2)) y==0 then q.2++ [y]else q.2)
noncomputable def ej (L:AN)(rd:List (List Nat))(x:List Nat)(su:List (List Nat)):AN×List (List Nat):=su.foldl dm (bc L x fun v=>(-2,v.2),rd)
theorem kZ {st:Sr}(W:st.WF){nd:Nd}(hm:nd∈st.nodes):cp st.ab nd.nm=nd.np:=by
 unfold cp Sr.ab;rw [List.find?_map];have e:=gG W hm;unfold Sr.find at e;have:List.find? ((fun p:List Nat×Int×List (List Nat)=>aF p.1 nd.nm)∘fun(n:Nd)=>(n.nm,n.np,n.su)) st.nodes=some nd:=e
 rw [this];rfl
theorem pH {st:Sr}(W:st.WF){nd:Nd}(hm:nd∈st.nodes) (i:Int){g:Int×List (List Nat)→Int×List (List Nat)}(hg:g (nd.np,nd.su)=(i,nd.su)):(st.upd nd.nm fun n=>{n with np:=i}).ab=bc st.ab nd.nm g:=by
 unfold Sr.upd Sr.ab bc;rw [List.map_map,List.map_map];refine List.map_congr_left fun n hn=>?_;show((if n.nm=nd.nm then _ else n:Nd).nm,(if n.nm=nd.nm then _ else n:Nd).np,(if n.nm=nd.nm then _ else n:Nd).su)=if n.nm=nd.nm then(n.nm,g (n.np,n.su))else(n.nm,n.np,n.su)
 by_cases z:n.nm=nd.nm
 ·rw [if_pos z,if_pos z,W.nm n hn nd hm z,hg]
 ·rw [if_neg z,if_neg z]
theorem pG {st:Sr}{nd:Nd}(hm:nd∈st.nodes)(f:Nd→Nd):f nd∈(st.upd nd.nm f).nodes:=List.mem_map.mpr ⟨nd,hm,if_pos rfl⟩
section
variable {prog:Program}{w:World}{mg mb:Str→Option Value}{k:Nat}{A:Around}{env:Env}{own:List (Str×Addr)}{s sB:Shared}{G GB:Kn}{E:Value→Shared→Prop}{sc:aq}{ρ:Ro}{st:Sr}
theorem pP {nd:Nd}(hm:nd∈st.nodes){i:Int}{t:Tok}{Q:Unit→Shared→Prop}(X:(KP w.params).In s.heap)(I:G.In s.heap)(S:az w.params sB G s st)
  (h:∀s',Mv (· =nd.a) s G s' G→az w.params sB G s' (st.upd nd.nm fun n=>{n with np:=i})→Q () s'):wpAny (model prog w) A (setAttr (.ref nd.a) "npredecessors" (.int i t)) Q E s:=by
 have N:=S.at_.nds nd hm;refine b9 N fun z1 e2 l=>?_;obtain⟨tn,tp,e⟩:=z1
 refine b9 (S.at_.node hm) fun nA Z nN=>?_;have fa:=(S.off nd.a (cw hm).1).1;refine lP X .npred e e2 (h _ (gU I rfl fa (by lia)) ?_)
 refine S.upd hm (f:=fun n=>{n with np:=i}) (jS i) (.inl rfl) (fun c o z q=>(Heap.get?_update_ne _ _ _ _ z).trans q) ⟨⟨tn,t,?_⟩,(Heap.get?_update_ne _ _ _ _ (nN nd hm).1.symm).trans e2,l.of fun o q=>(Heap.get?_update_ne _ _ _ _ (nN nd hm).2.1.symm).trans q⟩
 rw [Heap.get?_update_self _ e rfl];rfl
theorem oP {op:CmpOp}{u v:Value}{a b:D}{c:Bool}{Q:Bool→Shared→Prop}(V:SO w.params sB GB env own ρ s G)(ra:Rd w.params G u a)(rb:Rd w.params G v b)(hu:A.units+100<cLine)(e:bg op a b=some c)
  (h:∀s₁ G₁,ae s G s₁ G₁→SO w.params sB GB env own ρ s₁ G₁→Q c s₁):wpAny (model prog w) A (compareOp op u v) (fun x s'=>wpAny (model prog w) A (truthy x) Q E s') E s:=
 bI (kY V.inn ra rb hu e) fun x s' G' g r=>by obtain rfl:=r.bool_i;exact wpAny_truthy_bool (h s' G' g (V.grew g))
theorem am.u {k:Nat}{A:Around}(r:am k A):A.units+100<cLine:=by have:=r.hu;lia
end
section
variable {prog:Program}{w:World}{mg mb:Str→Option Value}{k:Nat}{A:Around}{env:Env}{own:List (Str×Addr)}{s sB:Shared}{G GB:Kn}{E:Value→Shared→Prop}{sc:aq}{ρ:Ro}{st:Sr}
theorem ae.other {s s':Shared}{G₀ G₁ G:Kn}(g:ae s G₀ s' G₁)(I:G.In s.heap):ae s G s' G:=⟨g.same,g.size,g.tk,g.keep,.refl _,fun a o e=>g.keep a o (I a o e),fun Z Z e=>.inl e⟩
theorem iz {h:Heap}{a:Addr}{o:Obj}(e:h.get? a=some o):(bW.add a o).In h:=Kn.add_in (fun Z Z q=>nomatch q) e
theorem pY {a b:Addr}{o ob:Obj}(e:bW.add a o b=some ob):b=a:=by
 unfold Kn.add at e;by_cases z:b=a
 ·exact z
 ·rw [if_neg z]at e;exact(aa e).elim
theorem gr {a b:Addr}{o:Obj}(h:b≠a):bW.add a o b=none:=by unfold Kn.add;rw [if_neg h];rfl
structure D1 (w:World)(sB:Shared)(env:Env)(own:List (Str×Addr))(st:Sr)(s:Shared)(G G₁:Kn)(s8:Shared)(wr:Addr→Prop)(r:Addr)(l:List (List Nat))(x:List Nat)(su:List (List Nat)) (i:Nat)(s':Shared)(G':Kn)(ρ':Ro)(st':Sr):Prop where
 S:az w.params sB G' s' st'
 n:eu s.heap.objs.size st st'
 m:Mv (XX env own (foot st)) s G s' G'
 le:G₁.Le G'
 z:s8.heap.objs.size≤s'.heap.objs.size
 e1:ρ' "self" =some (.adr st.self)
 e2:ρ' "n2i" =some (.adr st.d)
 ap:∀a,foot st' a→¬Mine env own a∧¬wr a
 hc:(i=0∧st'=st)∨(i=1∧st'.ab=(ej st.ab l x su).1∧st'.ready=some (r,(ej st.ab l x su).2))
structure D2 (w:World)(sB:Shared)(env:Env)(own:List (Str×Addr))(st st1:Sr)(s:Shared)(s13:Shared)(G12:Kn)(s21:Shared)(wr2:Addr→Prop)(r:Addr)(l:List (List Nat))(nd:Nd) (j:Nat)(s':Shared)(G':Kn)(ρ':Ro)(st2:Sr)(l2:List (List Nat)):Prop where
 S:az w.params sB G' s' st2
 ab:(st2.ab,l2)=(nd.su.take j).foldl dm (st1.ab,l)
 r:st2.ready=some (r,l2)
 n:eu s.heap.objs.size st st2
 m:Mv (XX env own (foot st)) s13 G12 s' G'
 z:s21.heap.objs.size≤s'.heap.objs.size
 f1:ρ' "self" =some (.adr st.self)
 f2:ρ' "n2i" =some (.adr st.d)
 ap:∀a,foot st2 a→foot st a∧¬wr2 a
 nm:st2.nodes.map (·.nm)=st.nodes.map (·.nm)
 d:st2.d=st.d
 hnd:∃nd2∈st2.nodes,nd2.la=nd.la
 ll:l2.length≤l.length+j
theorem uu {r:Addr}{l:List (List Nat)}{x:List Nat}{t to td:Tok}{nd:Nd}{Q:Value→Shared→Prop}(rm:am (k+2) A)(hB:Cx (KP w.params) mg mb sB)(hgo:mg "_NODE_OUT" =some (.int (-1) to))(hgd:mg "_NODE_DONE" =some (.int (-2) td))(U:Up sB s)(I:G.In s.heap)
  (S:az w.params sB G s st)(hr:st.ready=some (r,l))(hm:nd∈st.nodes)(hx:nd.nm=x)(hnp:nd.np= -1)(hsu:∀y∈nd.su,y∈st.nodes.map (·.nm))(hl:l.length+nd.su.length≤500)
  (h:∀s' st',Mv (foot st) s G s' G→az w.params sB G s' st'→eu s.heap.objs.size st st'→st'.ab=(ej st.ab l x nd.su).1→st'.ready=some (r,(ej st.ab l x nd.su).2)→Q .none s'):
  wpAny (model prog w) A (call (.ref 161) [.ref st.self,.str (mk x) t]) Q E s:=by
 refine eG aI (args:=[.adr st.self,.tup [.str x]]) (EX _ _ _) (by kernel_rfl) rm hB U I (fun E=>oY (pre:=[.ref st.self]) (args:=[.adr st.self]) I (.cons (.adr st.self) .nil) (.cons (.str x t) .nil) (by simp) E) fun env own s₁ G₁ s' E' g B hE=>?_
 have ap:=B.apart g S;have gg:ae s G s' G₁:=g.trans (B.g g.inn);have S1:=S.grew gg;have V1:=B.st;refine wpAny_execs_cons (wpAny_If (wpAny_isTrue_Compare1 (bB rfl (au (a:=st.self) V1 (by kernel_rfl) (Mine.get_ready (V1.cx hB).kin S1.at_ ?_))) (bO rfl)))
 rw [hr];refine wpAny_Constant_none (is_none (wpAny_truthy_bool ?_));refine wpAny_execs_nil ?_;have t2:ae s' G₁ {s' with toks:=s'.toks+1} G₁:=.toks V1.inn _ (Nat.le_add_right _ _)
 have V2:=V1.grew t2;have S2:=S1.grew t2;refine wpAny_execs_cons (bP (bB rfl (au (a:=st.self) V2 (by kernel_rfl) (fI (V2.cx hB).kin S2.at_ ?_))) rfl rfl rfl)
 have t3:ae {s' with toks:=s'.toks+1} G₁ {s' with toks:=s'.toks+2} G₁:=.toks V2.inn _ (Nat.le_succ _)
 have V3:=V2.grew t3;have S3:=S2.grew t3;refine sto (d:=.adr st.d) B.room.hh B.sco V3 (.adr _) (by kernel_rfl) fun s7 V7 m7=>?_
 have S7:=S3.mine m7 ap;have mA:Mv (XX env own (foot st)) s G s7 G₁:=(gg.trans (t2.trans t3)).mv.trans m7.lm;have z7:s.heap.objs.size≤s7.heap.objs.size:=mA.size;refine wpAny_execs_cons (eT (nm (d:=.tup [.str x]) V7 (by kernel_rfl) fun v rv=>?_) (fun Z=>rfl))
 refine ck rv.tup_i fun Z Z Z z1 q7 r7=>?_;subst z1
 refine⟨s7,G₁,_,kw _ B.room.hh V7.inn q7 r7,fun It wr St s8 g8 T st0 hw=>?_⟩
 have V8:=V7.grew g8;have S8:=S7.grew g8;refine gF (fun i s' G' ρ'=> ∃st',D1 w sB env own st s G G₁ s8 wr r l x nd.su i s' G' ρ' st') T ?_ B.room.hh B.sco (by kernel_rfl) V8 ?_ st0 g8.inn ?_ ?_ ?_ ?_
 ·intro d hd;cases List.mem_singleton.mp hd;rfl
 ·exact⟨st,S8,.refl _ _,mA.trans g8.mv,.refl _,Nat.le_refl _,by kernel_rfl,by kernel_rfl,fun a f=>⟨ap a f,fun hwa=>Nat.lt_irrefl _ (Nat.lt_of_lt_of_le (S7.lt f) (hw a hwa).1)⟩,.inl ⟨rfl,rfl⟩⟩
 ·exact fun b hb=>⟨⟨Kn.none_ge V7.inn (hw b hb).1,Kn.none_ge V7.inn (hw b hb).1,(hw b hb).2⟩,aS V7 (hw b hb).1,Nat.le_trans V7.up.size (hw b hb).1⟩
 ·exact fun b o e=>e8 V7 e
 ·intro i d s12 G12 ρ12 E2 hi j V12 s13 m13 V13 I13;refine ez fun Q1 E1 k1=>?_;refine xe j fun st' z2=>?_;obtain⟨S12,n12,m12,le12,z12,e1,e2,ap12,hc⟩:=z2
  have hi0:i=0:=by
   have:=(List.getElem?_eq_some_iff.mp hi).1;simp at this;exact this
  subst hi0;have hst:=(hc.resolve_right fun z=>absurd z.1 (by decide)).2.symm
  subst hst;obtain rfl:=Option.some.inj hi;have S13:=S12.keep m13 fun a f z=>z.elim (ap12 a f).1 (ap12 a f).2
  refine wpAny_execs_cons (wpAny_If (wpAny_isTrue_Compare1 (wpAny_NamedExpr (wpAny_Call_method_lateS rfl (by rfl) rfl (au (a:=st.d) V13 ((aN (by kernel_rfl)).trans e2) ?_))) (bO rfl)))
  refine aA S13.at_.dct fun es en de dr=>?_;refine⟨"dict", "dict.get",F.plainAttrs_dict,F.slot_dict_get,F.type_dict_get,⟨_,de,rfl⟩,fun b hb=>by obtain rfl:=Value.ref.inj hb;exact⟨_,de,rfl⟩,?_⟩
  refine iK (by nofun) rfl (nm (d:=.str x) V13 (by kernel_rfl) fun vx rx=>?_)
  refine xe rx.str_i fun Z z3=>?_;subst z3
  refine qA (ks:=st.dks) S13.at_.dct (by rw [dT];exact S.wf.nms) S.wf.sys fun v hv=>?_
  have hv:v=.ref nd.a:=by
   have e:=kz st x;rw [←hx,gG S.wf hm]at e;rw [hx]at e;rw [e]at hv;cases hv;rfl
  subst hv;have t14:=ae.toks V13.inn (s13.toks+1) (Nat.le_add_right _ _);have V14:=V13.grew t14;have S14:=S13.grew t14;refine sto (d:=.adr nd.a) B.room.hh B.sco V14 (.adr _) (by kernel_rfl) fun s15 V15 m15=>?_
  have S15:=S14.mine m15 ap;refine wpAny_Constant_none (is_none (wpAny_truthy_bool ?_));refine wpAny_execs_nil ?_;refine wpAny_execs_cons (bP (bB rfl (au (a:=nd.a) V15 (by kernel_rfl) (jE (V15.cx hB).kin (S15.at_.nds nd hm) fun t16=>?_))) rfl rfl rfl)
  have t16':=ae.toks V15.inn (s15.toks+1) (Nat.le_add_right _ _);have V16:=V15.grew t16';have S16:=S15.grew t16';refine sto (d:=.int nd.np) B.room.hh B.sco V16 (.int _ _) (by kernel_rfl) fun s17 V17 m17=>?_
  have S17:=S16.mine m17 ap;refine wpAny_execs_cons (wpAny_If (wpAny_isTrue_Compare1 (nm (d:=.int nd.np) V17 (by kernel_rfl) fun v18 r18=>di (V17.cx hB) B.sce (by kernel_rfl) hgo (oP (c:=false) V17 r18 (.int _ _) B.room.u (by rw [hnp];rfl) fun s18 G18 g18 V18=>?_)) (bO rfl)))
  refine wpAny_execs_nil ?_;have S18:=S17.grew g18;refine wpAny_execs_cons (bP (di (V18.cx hB) B.sce (by kernel_rfl) hgd (bU (au (a:=nd.a) V18 (by kernel_rfl) (pP hm (V18.cx hB).kin V18.inn S18 fun s19 m19 S19=>?_)))) rfl rfl rfl)
  have F19:=jS (-2);have V19:=V18.mut m19 fun a e=>by subst e;exact⟨ap _ (cw hm).1,(S18.off _ (cw hm).1).2⟩
  have ab19:(st.upd nd.nm fun n=>{n with np:= -2}).ab=bc st.ab x fun v=>(-2,v.2):=by
   rw [pH S.wf hm (-2) (g:=fun v=>(-2,v.2)) rfl,hx]
  have hnd19:=pG hm fun n=>{n with np:= -2}
  generalize hst1:(st.upd nd.nm fun n=>{n with np:= -2})=st1 at*
  have n19:eu s.heap.objs.size st st1:=hst1▸il F19 s.heap.objs.size st nd.nm;have f19:∀a,foot st1 a→foot st a:=fun a f=>by rw [←hst1]at f;exact(eO F19 st _ a).mp f
  have r19:st1.ready=some (r,l):=by rw [←hst1];exact hr
  have d19:st1.d=st.d:=by rw [←hst1];rfl
  have nm19:st1.nodes.map (·.nm)=st.nodes.map (·.nm):=by rw [←bQ,ab19,a9,bQ]
  refine wpAny_execs_cons (eT (bB rfl (au (a:=nd.a) V19 (by kernel_rfl) (oz (nd:={nd with np:= -2}) (V19.cx hB).kin (S19.at_.nds _ hnd19) ?_))) (fun Z=>rfl))
  have t20:=ae.toks V19.inn (s19.toks+1) (Nat.le_add_right _ _);have V20:=V19.grew t20;have S20:=S19.grew t20;refine aA ((S20.at_.nds _ hnd19).2.2) fun vs n el rl=>?_;refine⟨{s19 with toks:=s19.toks+1},bW.add nd.la (aB vs n),nd.su.map .str,gW _ B.room.hh (iz el) Kn.add_self (rl.un _),fun It2 wr2 St2 s21 g21 T2 st20 hw2=>?_⟩
  have V21:=V20.grew (g21.other V20.inn);have S21:=S20.grew (g21.other V20.inn);have fla:foot st nd.la:=(cw hm).2;have m1320:Mv (XX env own (foot st)) s13 G12 {s19 with toks:=s19.toks+1} G18:=((((((t14.mv.trans m15.lm).trans t16'.mv).trans m17.lm).trans g18.mv).trans (m19.rm fun a e=>e▸(cw hm).1)).trans t20.mv)
  have z1320:s13.heap.objs.size≤s19.heap.objs.size:=m1320.size;have m1321:Mv (XX env own (foot st)) s13 G12 s21 G18:=m1320.trans (g21.other V20.inn).mv;have z13:s8.heap.objs.size≤s13.heap.objs.size:=Nat.le_trans z12 m13.size;refine gF (fun j s' G' ρ'=> ∃st2 l2,D2 w sB env own st st1 s s13 G12 s21 wr2 r l nd j s' G' ρ' st2 l2) T2 ?_ B.room.hh B.sco (by kernel_rfl) V21 ?_ st20 g21.inn ?_ ?_ ?_ ?_
  ·intro d hd;refine ah (List.mem_map.mp hd) fun y Z z4=>?_;subst z4
   rfl
  ·exact⟨st1,l,S21,rfl,r19,n19,m1321,Nat.le_refl _,(aN (by kernel_rfl)).trans ((aN (by kernel_rfl)).trans ((aN (by kernel_rfl)).trans e1)),(aN (by kernel_rfl)).trans ((aN (by kernel_rfl)).trans ((aN (by kernel_rfl)).trans e2)),
    fun a f=>⟨f19 a f,fun hwa=>Nat.lt_irrefl _ (Nat.lt_of_lt_of_le (S20.lt f) (hw2 a hwa).1)⟩,nm19,d19,⟨_,hnd19,rfl⟩,Nat.le_refl _⟩
  ·exact fun b hb=>⟨⟨Kn.none_ge V20.inn (hw2 b hb).1,Kn.none_ge (iz el) (hw2 b hb).1,(hw2 b hb).2⟩,aS V20 (hw2 b hb).1,Nat.le_trans V20.up.size (hw2 b hb).1⟩
  ·intro b o e;rw [pY e];exact ap _ fla
  ·intro j d s22 G22 ρ22 E3 hj jj V22 s23 m23 V23 I23;refine ez fun Q2 E4 k2=>?_;refine aV jj fun st2 l2 z5=>?_;obtain⟨S22,ab22,r22,n22,m22,z22,f1,f2,ap22,nm22,d22,⟨nd2,hnd2,la2⟩,ll22⟩:=z5
   obtain⟨y,hy,rfl⟩:∃y,nd.su[j]? =some y∧D.str y=d:=by
    rw [List.getElem?_map]at hj;exact Option.map_eq_some_iff.mp hj
   have hjl:j<nd.su.length:=(List.getElem?_eq_some_iff.mp hy).1;have S23:=S22.keep m23 fun a f z=>z.elim (ap a (ap22 a f).1) (ap22 a f).2
   have hym:=hsu y (List.mem_of_getElem? hy);rw [←nm22]at hym;refine ah (List.mem_map.mp hym) fun nd3 hnd3 hnm3=>?_;refine wpAny_execs_cons (bP (mf (st:=st2) B.room B.sce hB V23 S23 ((aN (by kernel_rfl)).trans (d22▸f2)) (by kernel_rfl) (by kernel_rfl) hnd3 hnm3 fun s24 g24 V24=>?_) rfl rfl rfl)
   have S24:=S23.grew g24;refine sto (d:=.adr nd3.a) B.room.hh B.sco V24 (.adr _) (by kernel_rfl) fun s25 V25 m25=>?_
   have S25:=S24.mine m25 fun a f=>ap a (ap22 a f).1
   refine wpAny_execs_cons (wpAny_AugAssign_AttributeAny (au (a:=nd3.a) V25 (by kernel_rfl) (jE (V25.cx hB).kin (S25.at_.nds nd3 hnd3) fun t26=>wpAny_Constant_int (P.isub_int ?_))))
   have t26':=ae.toks V25.inn (s25.toks+3) (Nat.le_add_right _ _);have V26:=V25.grew t26';have S26:=S25.grew t26';refine pP (s:={s25 with toks:=s25.toks+3}) hnd3 (V26.cx hB).kin V26.inn S26 fun s27 m27 S27=>?_
   have F27:=jS (nd3.np - 1);have fa3:=(cw hnd3).1;have V27:=V26.mut m27 fun a e=>by subst e;exact⟨ap _ (ap22 _ fa3).1,(S26.off _ fa3).2⟩
   have ab27:(st2.upd nd3.nm fun n=>{n with np:=nd3.np - 1}).ab=bc st2.ab y fun v=>(v.1 - 1,v.2):=by
    rw [pH S22.wf hnd3 (nd3.np - 1) (g:=fun v=>(v.1 - 1,v.2)) rfl,hnm3]
   have hnd4:=pG hnd3 fun n=>{n with np:=nd3.np - 1}
   have np27:cp (bc st2.ab y fun v=>(v.1 - 1,v.2)) y=nd3.np - 1:=by
    have e:cp (bc st2.ab y fun v=>(v.1 - 1,v.2)) nd3.nm=nd3.np - 1:=by
     have:=kZ S27.wf hnd4;rw [ab27]at this;exact this
    rw [hnm3]at e;exact e
   have hnd2':∃nd2'∈(st2.upd nd3.nm fun n=>{n with np:=nd3.np - 1}).nodes,nd2'.la=nd.la:=⟨_,List.mem_map.mpr ⟨nd2,hnd2,rfl⟩,by rw [(fy F27 nd3.nm nd2).2.2.2];exact la2⟩
   generalize hst3:(st2.upd nd3.nm fun n=>{n with np:=nd3.np - 1})=st3 at*
   have n27:eu s.heap.objs.size st2 st3:=hst3▸il F27 s.heap.objs.size st2 nd3.nm;have f27:∀a,foot st3 a→foot st2 a:=fun a f=>by rw [←hst3]at f;exact(eO F27 st2 _ a).mp f
   have r27:st3.ready=some (r,l2):=by rw [←hst3];exact r22
   have d27:st3.d=st.d:=by rw [←hst3];exact d22
   have nm27:st3.nodes.map (·.nm)=st.nodes.map (·.nm):=by rw [←bQ,ab27,a9,bQ,nm22]
   have fr:foot st2 r:=.inr (.inr (.inr (.inl ⟨r,l2,r22,rfl⟩)));refine wpAny_execs_cons (wpAny_If (wpAny_isTrue_Compare1 (bB rfl (au (a:=nd3.a) V27 (by kernel_rfl) (jE (nd:={nd3 with np:=nd3.np - 1}) (V27.cx hB).kin (S27.at_.nds _ hnd4) fun t28=>wpAny_Constant_int ?_))) (bO rfl)))
   have t28':=ae.toks V27.inn (s27.toks+2) (Nat.le_add_right _ _);have V28:=V27.grew t28';have S28:=S27.grew t28';refine oP (s:={s27 with toks:=s27.toks+2}) (a:=.int (nd3.np - 1)) (b:=.int 0) (c:=nd3.np - 1==0) V28 (.int _ _) (.int _ _) B.room.u (by rfl) fun s29 G29 g29 V29=>?_
   have S29:=S28.grew g29;have YN:∀b,XX env own (fun b=>(∃n∈st2.nodes,b=n.a)∨b=r) b→¬wr2 b∧bW.add nd.la (aB vs n) b=none:=by
    rintro b (hb |⟨m,hm',rfl⟩ |e)<;>try rw [e]
    ·exact⟨fun z=>aS V20 (hw2 b z).1 hb,gr fun z=>ap _ fla (z▸hb)⟩
    ·exact⟨(ap22 _ (cw hm').1).2,gr fun z=>((S22.at_.node hm').2.2 nd2 hnd2).2.1 (z.trans la2.symm)⟩
    ·exact⟨(ap22 _ fr).2,gr fun z=>S22.wf.r _ l2 r22 nd2 hnd2 (la2.trans z.symm)⟩
   have mB:Mv (XX env own (fun b=>(∃n∈st2.nodes,b=n.a)∨b=r)) s23 G22 s29 G29:=((((g24.mv.trans m25.lm).trans t26'.mv).trans (m27.rm fun a e=>.inl ⟨nd3,hnd3,e⟩)).trans (t28'.trans g29).mv)
   have mC:Mv (XX env own (foot st)) s13 G12 s23 G22:=m22.fresh_trans m23 fun a f=>f.imp (fun z=>.inl z) fun z=>Nat.le_trans z1320 (hw2 a z).1
   have YF:∀a,XX env own (fun b=>(∃n∈st2.nodes,b=n.a)∨b=r) a→XX env own (foot st) a:=by
    rintro a (f |⟨m,hm',rfl⟩ |e)<;>try rw [e]
    ·exact .inl f
    ·exact .inr (ap22 _ (cw hm').1).1
    ·exact .inr (ap22 _ fr).1
   have lk:∀{z:Str} {d:D},ar z "successor_info" =false→ar z "successor" =false→ρ22 z=some d→ad (ad ρ22 "successor" (.str y)) "successor_info" (.adr nd3.a) z=some d:=fun h1 h2 e=>(aN h1).trans ((aN h2).trans e)
   have n27':=n22.trans n27 (Nat.le_refl _);have ab28:(st3.ab,if nd3.np - 1==0 then l2++ [y]else l2)=(nd.su.take (j+1)).foldl dm (st1.ab,l):=by
    rw [List.take_add_one,hy,List.foldl_append,←ab22];show _=dm (st2.ab,l2) y
    unfold dm;dsimp only;rw [np27,ab27]
   cases hz:(nd3.np - 1==0)with
   |true=>
    rw [hz]at ab28;rw [if_pos rfl];refine wpAny_execs_cons (wpAny_Expr_any (wpAny_Call_append rfl (by rfl) rfl rfl (bB rfl (au (a:=st3.self) V29 (by rw [n27'.self];exact lk (by kernel_rfl) (by kernel_rfl) f1) (Mine.get_ready (V29.cx hB).kin S29.at_ ?_)))) (cq V29))
    rw [r27];have t30:=ae.toks V29.inn (s29.toks+1) (Nat.le_add_right _ _);have V30:=V29.grew t30;have S30:=S29.grew t30;refine aR ((S30.at_.rdy r l2 r27).plain) fun pv pl Z Z=>?_;refine⟨r,_,rfl,pl,nm (d:=.str y) V30 (by kernel_rfl) fun vy ry=>?_⟩
    refine xe ry.str_i fun Z z6=>?_;subst z6
    refine y6 (s:={s29 with toks:=s29.toks+1}) r27 V30.inn S30 (by lia) fun s31 m31 S31=>?_
    have V31:=V30.mut m31 fun a e=>by rw [e];exact⟨ap _ (ap22 _ fr).1,(S22.off _ fr).2⟩
    refine wpAny_execs_nil (wpAny_execs_nil ?_);have mD:=(mB.trans t30.mv).trans (m31.rm fun a e=>.inr e)
    refine k2 _ _ ?_
    exact⟨G29,_,_,V31,⟨st3.rd r (l2++ [y]),l2++ [y],S31,ab28,rfl,n27'.trans (pS r27 s.heap.objs.size) (Nat.le_refl _),mC.trans (mD.weak YF),Nat.le_trans z22 (Nat.le_trans m23.size mD.size),lk (by kernel_rfl) (by kernel_rfl) f1,lk (by kernel_rfl) (by kernel_rfl) f2,
     fun a f=>ap22 a (f27 a ((km r27 a).mp f)),nm27,d27,hnd2',by simp;lia⟩,mD,YN⟩
   |false=>
    rw [hz]at ab28;rw [if_neg (by simp)]
    refine wpAny_execs_nil (wpAny_execs_nil ?_);refine k2 _ _ ?_
    exact⟨G29,_,_,V29,⟨st3,l2,S29,ab28,r27,n27',mC.trans (mB.weak YF),Nat.le_trans z22 (Nat.le_trans m23.size mB.size),lk (by kernel_rfl) (by kernel_rfl) f1,lk (by kernel_rfl) (by kernel_rfl) f2,
     fun a f=>ap22 a (f27 a f),nm27,d27,hnd2',by lia⟩,mB,YN⟩
  ·intro s22 G22 ρ22 jj V22 s23 m23 V23;refine aV jj fun st2 l2 z7=>?_;obtain⟨S22,ab22,r22,n22,m22,z22,f1,f2,ap22,nm22,d22,hnd2',ll22⟩:=z7
   have S23:=S22.keep m23 fun a f=>(ap22 a f).2
   refine wpAny_execs_cons (wpAny_AugAssign_AttributeAny (au (a:=st2.self) V23 (by rw [n22.self];exact f1) (yI (V23.cx hB).kin S23.at_ fun i24 t24=>wpAny_Constant_int (P.iadd_int ?_))))
   have t25:=ae.toks V23.inn (s23.toks+3) (Nat.le_add_right _ _);have V25:=V23.grew t25;have S25:=S23.grew t25;refine pQ (s:={s23 with toks:=s23.toks+3}) (.inr rfl) (V25.cx hB).kin V25.inn S25 fun s26 m26 S26=>?_
   have fdx:foot st2 st2.dx:=.inr (.inl rfl);have V26:=V25.mut m26 fun a e=>by subst e;exact⟨ap _ (ap22 _ fdx).1,(S22.off _ fdx).2⟩
   refine wpAny_execs_nil ?_;have hlx:(nd.su.map D.str).length=nd.su.length:=List.length_map ..;rw [hlx,List.take_length,ab19]at ab22;have eA:(st2.ab,l2)=ej st.ab l x nd.su:=ab22;have mE:Mv (XX env own (foot st)) s13 G12 s26 G22:=((m22.fresh_trans m23 fun a f=>.inr (Nat.le_trans z1320 (hw2 a f).1)).trans t25.mv).trans (m26.rm fun a e=>e▸(ap22 _ fdx).1)
   have mF:Mv (XX env own (foot st)) s G s26 G22:=(m12.fresh_trans m13 fun a f=>f.imp (fun z=>.inl z) fun z=>Nat.le_trans z7 (hw a z).1).trans mE
   refine k1 _ _ ?_;refine⟨G22,_,_,V26,⟨st2,S26,n22,mF,le12.trans mE.le,Nat.le_trans z13 mE.size,f1,f2,fun a f=>ap12 a (ap22 a f).1,.inr ⟨rfl,?_,?_⟩⟩,mE,fun b hb=>?_⟩
   ·rw [←eA]
   ·rw [r22,←eA]
   ·rcases hb with hb |hb
    ·refine⟨fun z=>aS V7 (hw b z).1 hb,?_⟩
     cases q:G₁ b with
     |none=>rfl
     |some o=>exact absurd hb (e8 V7 q)
    ·refine⟨(ap12 b hb).2,?_⟩;cases q:G₁ b with
     |none=>rfl
     |some o=>have:=le12 b o q;rw [(S12.off b hb).1]at this;exact(aa this).elim
 ·intro s12 G12 ρ12 j V12 s13 m13 V13;refine xe j fun st' z8=>?_;obtain⟨S12,n12,m12,le12,z12,e1,e2,ap12,hc⟩:=z8
  refine b9 (hc.resolve_left fun z=>absurd z.1 (by simp)) fun Z ab12 r12=>?_
  refine wpAny_execs_nil ?_;exact h s13 st' (B.drop g (m12.fresh_trans m13 fun a f=>.inr (Nat.le_trans z7 (hw a f).1))) ((S12.keep m13 fun a f=>(ap12 a f).2).un m12.le) n12 ab12 r12
end
noncomputable abbrev gA (it:Addr):Obj:={cls:=.type "method-wrapper",data:=.fields #[.builtin "list_iterator.__next__",.ref it]}
noncomputable abbrev dP (l:Addr) (i:Nat):Obj:={cls:=.type "list_iterator",data:=.fields #[.ref l,.int i 0]}
theorem iP:Slot "list_iterator" "__getattribute__" "object.__getattribute__" :=
 .of (owner:= "object") (n:= "__getattribute__") (by rw [typeLookup_type,builtinLookup_eq_fast];kernel_rfl) (by decide+kernel) (by decide+kernel) (by decide+kernel)
  (by first |exact .inl (by decide+kernel) |exact .inr (by decide+kernel)) (by rw [isSubtype_type];kernel_rfl)
theorem yx:typeLookup (.type "list_iterator") "__getattr__" =pure none:=by rw [typeLookup_type,builtinLookup_eq_fast];kernel_rfl
theorem kQ:Slot "wrapper_descriptor" "__get__" "wrapper_descriptor.__get__" :=
 .of (owner:= "wrapper_descriptor") (n:= "__get__") (by rw [typeLookup_type,builtinLookup_eq_fast];kernel_rfl) (by decide+kernel) (by decide+kernel) (by decide+kernel)
  (by first |exact .inl (by decide+kernel) |exact .inr (by decide+kernel)) (by rw [isSubtype_type];kernel_rfl)
theorem pA:entryFor table "wrapper_descriptor.__get__" =some Builtin.«wrapper_descriptor.__get__»:=entryFor_of_tree (by kernel_rfl)
theorem sy (a b c:Value):argsOk "wrapper_descriptor.__get__" ⟨[a,b,c],[]⟩:=by unfold argsOk;kernel_rfl
theorem uY:typeLookup (.type "wrapper_descriptor") "__set__" =pure none:=by rw [typeLookup_type,builtinLookup_eq_fast];kernel_rfl
theorem uZ:typeLookup (.type "wrapper_descriptor") "__delete__" =pure none:=by rw [typeLookup_type,builtinLookup_eq_fast];kernel_rfl
theorem pI:typeOf (.builtin "list_iterator.__next__")=pure (.type "wrapper_descriptor"):=by show builtinType _=_;rw [builtinType_eq_fast];kernel_rfl
theorem zY:isSubtype (.type "list_iterator") (.type "list_iterator")=pure true:=by rw [isSubtype_type];kernel_rfl
section
variable {prog:Program}{w:World}{A:Around}{E:Value→Shared→Prop}{s:Shared}
theorem zy {M:Model}{l:Addr}{Q:PySem.Fin→Shared→Prop}(hT:s.TypeIs (.ref l) "list_iterator")
  (h:Q (.done (.ret (.ref s.heap.objs.size))) {s with heap:=s.heap.push (gA l)}):wpAny M A (Builtin.«wrapper_descriptor.__get__» ⟨[.builtin "list_iterator.__next__",.ref l,.type "list_iterator"],[]⟩) Q E s:=by
 unfold Builtin.«wrapper_descriptor.__get__»;refine wpAny_bind (wpAny_of_eq (a:=(.builtin "list_iterator.__next__",some (.ref l),some (.type "list_iterator"))) (by first |rfl |kernel_rfl) ?_)
 dsimp only;refine wpAny_bind (wpAny_bind (wpAny_of_eq (a:=(("__next__" :Str),Value.type "list_iterator")) (by first |rfl |kernel_rfl) ?_))
 dsimp only;refine wpAny_bind (wpAny_isInstance (T:= "list_iterator") (b:=true) hT zY ?_);simp only [Bool.not_true,Bool.false_eq_true,if_false];refine wpAny_pure ?_;exact wpAny_bind (wpAny_newObj_type (wpAny_pure h))
theorem ul {l it:Addr}{i:Nat}{Q:Builtin.ObjectAttr.Found→Shared→Prop}(ho:s.heap.get? it=some (dP l i))(h:Q (.bind (.builtin "wrapper_descriptor.__get__") (.builtin "list_iterator.__next__")) s):
  wpAny (model prog w) A (Builtin.ObjectAttr.find (.ref it) (.type "list_iterator") "__next__") Q E s:=by
 obtain⟨hp,g,d,tk,os⟩:=s;have f6:typeLookup (.type "list_iterator") "__next__" =pure (some (.builtin "list_iterator.__next__")):=slot_listiter_next.lookup;have f7:=kQ.lookup;have f8:=uY;have f9:=uZ;have f10:=pI;unfold Builtin.ObjectAttr.find;refine wpAny_bind (wpAny_of_eq f6 ?_);refine wpAny_bind (wpAny_specialOf (v:=.builtin "list_iterator.__next__") f10 f7 ?_);refine wpAny_bind (wpAny_bind (wpAny_bind ?_));refine wpAny_specialOf (v:=.builtin "list_iterator.__next__") f10 f8 ?_;simp only [Option.isSome_none,Bool.false_eq_true,if_false];refine wpAny_bind (wpAny_specialOf (v:=.builtin "list_iterator.__next__") f10 f9 (wpAny_pure ?_));simp only [Option.isSome_none,Bool.false_eq_true,if_false];refine wpAny_pure ?_;dsimp only;unfold Builtin.ObjectAttr.ownThenClass;refine wpAny_bind ?_;show wpAny _ _ (do Builtin.ObjectAttr.inDict _ (←Builtin.ObjectAttr.ownDict it)) _ _ _
 refine wpAny_bind ?_;unfold Builtin.ObjectAttr.ownDict;refine wpAny_bind (wpAny_loadPart ho ?_);dsimp only;unfold instanceDict;refine wpAny_bind (wpAny_loadPart ho ?_);dsimp only;simp only [Bool.not_false,Bool.true_or,if_true];refine wpAny_pure ?_;refine wpAny_pure ?_;dsimp only;refine wpAny_bind (wpAny_of_eq (a:=()) (by first |rfl |kernel_rfl) ?_)
 unfold Builtin.ObjectAttr.byTheClass;exact wpAny_bind (wpAny_rule (wpAny_pure h))
theorem wd {l it:Addr}{u:Tok}{i:Nat}{Q:PySem.Fin→Shared→Prop}(ho:s.heap.get? it=some (dP l i))(h:Q (.done (.ret (.ref s.heap.objs.size))) {s with heap:=s.heap.push (gA it)}):
  wpAny (model prog w) A (Builtin.«object.__getattribute__» ⟨[.ref it,.str "__next__" u],[]⟩) Q E s:=by
 have hT:s.TypeIs (.ref it) "list_iterator" :=⟨_,ho,rfl⟩;unfold Builtin.«object.__getattribute__»;refine wpAny_bind (wpAny_of_eq (a:=(Value.ref it,[Value.str "__next__" u])) (by first |rfl |kernel_rfl) ?_)
 dsimp only;refine wpAny_bind (wpAny_of_eq (a:=("__next__" :Str)) (by first |rfl |kernel_rfl) ?_)
 refine wpAny_bind (wpAny_typeOf hT ?_);refine wpAny_bind (ul ho ?_);dsimp only;unfold Builtin.ObjectAttr.bindTo;dsimp only;refine wpAny_bind (wpAny_holding ?_);refine wpAny_call_entry kQ pI pA (zy hT ?_) (sy _ _ _);exact⟨_,rfl,wpAny_pure h⟩
theorem oB {l it:Addr}{i:Nat}{Q:Value→Shared→Prop}(ho:s.heap.get? it=some (dP l i))(h:Q (.ref s.heap.objs.size) {s with heap:=s.heap.push (gA it),toks:=s.toks+1}):
  wpAny (model prog w) A (getAttr (.ref it) "__next__" true) Q E s:=by
 obtain⟨hp,g,d,tk,os⟩:=s;have hT:∀tk',(⟨hp,g,d,tk',os⟩:Shared).TypeIs (.ref it) "list_iterator" :=fun Z=>⟨_,ho,rfl⟩
 have f3:=iP.lookup;have f4:=iP.bind (.ref it);have f5:=yx;unfold getAttr getAttrBy
 repeat (any_goals (first |assumption |exact hT _ |((with_reducible show wpAny _ _ (call (Value.builtin "object.__getattribute__") _ _) _ _ _);refine wpAny_call_entry iP (hT _) F.entry_object_getattribute (wd ho ⟨_,rfl,?_⟩) (F.args_object_getattribute_2 _ _)) |wp_step))
end
theorem Bt (it:Addr):checkBoundCall "list_iterator.__next__" ⟨[.ref it],[]⟩=pure ():=by first |kernel_rfl |rfl
noncomputable abbrev Bk (cls:Value)(t:Addr):Obj:={cls:=cls,data:=.fields #[.ref t,.none,.none,.none,.bool false,.none]}
section
variable {prog:Program}{w:World}{A:Around}{E:Value→Shared→Prop}{s:Shared}{env:Env}
theorem my {u it:Addr}{Q:Value→Shared→Prop}(hu:s.heap.get? u=some (gA it))
  (h:wpAny (model prog w) A.in1 (Builtin.«list_iterator.__next__» ⟨[.ref it],[]⟩) (fun fin s'=> ∃v,fin=.done (.ret v)∧Q v s') E s):wpAny (model prog w) A (call (.ref u) []) Q E s:=by
 refine wpAny_call (codeAny_of_tree ?_);show wpAny _ A.in1 (load u>>=_) _ _ s
 refine wpAny_bind (wpAny_load hu ?_);refine w4 (show(Value.type "method-wrapper" ==Value.type "method" ||Value.type "method-wrapper" ==Value.type "builtin_function_or_method" ||Value.type "method-wrapper" ==Value.type "method-wrapper")=true by decide) ?_
 show wpAny _ _ (if(Value.type "method-wrapper" !=Value.type "method")=true then(do
   checkBoundCall "list_iterator.__next__" ⟨[.ref it],[]⟩
   again (Code.builtin "list_iterator.__next__" ⟨[.ref it],[]⟩))else _) _ _ s
 rw [if_pos (by decide),Bt]
 refine wpAny_bind (wpAny_pure ?_);refine wpAny_pure ⟨plainId_quiet (by decide+kernel) _,codeAny_builtin entry_listiter_next ?_⟩
 rw [Around.under_plainId (by decide+kernel) _]
 refine wpAny_mono h (fun fin s' z=>?_) fun Z Z z=>z
 obtain⟨v,rfl,z⟩:=z;exact z
theorem tI {u it l:Addr}{i:Nat}{o:Obj}{items:Array Value}{n:Nat}{x:Value}{Q:Value→Shared→Prop}(hu:s.heap.get? u=some (gA it))(ho:s.heap.get? it=some (dP l i))(hol:s.heap.get? l=some o)(hdl:o.data=.seq items n)(hx:items[i]? =some x)
  (h:∀h',h'.get? it=some (dP l (i+1))→Heap.SameBut it s.heap h'→Q x {s with heap:=h'}):wpAny (model prog w) A (call (.ref u) []) Q E s:=by
 refine my hu ?_;show wpAny _ _ (field (.ref it) 0>>=_) _ _ s
 refine wpAny_bind (wpAny_field ho rfl (x:=.ref l) rfl ?_);show wpAny _ _ (if(Value.ref l==Value.none)=true then _ else _) _ _ s
 rw [if_neg (show¬((Value.ref l==Value.none)=true)from Bool.false_ne_true)]
 show wpAny _ _ (field (.ref it) 1>>=_) _ _ s
 refine wpAny_bind (wpAny_field ho rfl (x:=.int i 0) rfl ?_);show wpAny _ _ (seqItems? (.ref l)>>=_) _ _ s
 refine wpAny_bind (wpAny_seqItems hol hdl ?_);simp only [Int.toNat_natCast,hx];refine wpAny_bind (wpAny_setField ho rfl (by simp) (wpAny_pure ⟨x,rfl,h _ ?_ (Heap.SameBut.update ..)⟩))
 rw [Heap.get?_update_self _ ho rfl];simp [Obj.mapFields,rawInt,dP]
theorem vE {u it l:Addr}{i:Nat}{o:Obj}{items:Array Value}{n:Nat}{Q:Value→Shared→Prop}(hh:A.handled=none)(hu:s.heap.get? u=some (gA it))(ho:s.heap.get? it=some (dP l i))(hol:s.heap.get? l=some o)(hdl:o.data=.seq items n)(hx:items[i]? =none)
  (h:∀h' e t,Heap.ExtBut it s.heap h'→h'.get? e=some (Bk (.type "StopIteration") t)→s.heap.objs.size≤e→s.heap.objs.size≤h'.objs.size→E (.ref e) {s with heap:=h'}):wpAny (model prog w) A (call (.ref u) []) Q E s:=by
 refine my hu ?_;show wpAny _ _ (field (.ref it) 0>>=_) _ _ s
 refine wpAny_bind (wpAny_field ho rfl (x:=.ref l) rfl ?_);show wpAny _ _ (if(Value.ref l==Value.none)=true then _ else _) _ _ s
 rw [if_neg (show¬((Value.ref l==Value.none)=true)from Bool.false_ne_true)]
 show wpAny _ _ (field (.ref it) 1>>=_) _ _ s
 refine wpAny_bind (wpAny_field ho rfl (x:=.int i 0) rfl ?_);show wpAny _ _ (seqItems? (.ref l)>>=_) _ _ s
 refine wpAny_bind (wpAny_seqItems hol hdl ?_);simp only [Int.toNat_natCast,hx];refine wpAny_bind (wpAny_rule (wpAny_bind (wpAny_setField ho rfl (by simp) ?_)))
 show wpAny _ _ (newExc (.type "StopIteration") [] >>=_) _ _ _
 refine wpAny_bind ?_;refine wpAny_bind (wpAny_newObj_type ?_ (by size_fits))
 refine wpAny_bind (m:=firstArgMember _ _) (wpAny_of_eq (a:=Value.none) (by first |rfl |(simp only [firstArgMember];rfl)) ?_)
 refine wpAny_newObj_type ?_ (by size_fits)
 refine wpAny_bind (wpAny_handled ?_);rw [show A.in1.handled=none from hh]
 refine wpAny_bind (wpAny_pure (wpAny_throw ?_));refine h _ _ s.heap.objs.size (((Heap.SameBut.update ..).extBut.push _).push _) ?_ ?_ ?_
 ·rw [Heap.get?_push_size _ rfl,cM];rfl
 ·rw [Heap.size_push,cM];exact Nat.le_succ _
 ·rw [Heap.size_push,Heap.size_push,cM];lia
theorem jM {pos:Pos}{u it:Addr}{Q:Value→Shared→Prop}(hu:s.heap.get? u=some (gA it))(h:wpAny (model prog w) A (call (.ref u) []) Q E s):
  wpAny (model prog w) A (callWith pos (.ref u) [] (backTo pos (starEach [] env)) []) Q E s:=by
 unfold callWith;refine wpAny_bind (wpAny_holding (PyProof.Rows.evalArgs_none (wpAny_bind (wpAny_standAt ?_))));refine wpAny_bind (m:=keeperOf (.ref u)) ?_;unfold keeperOf;refine wpAny_bind (wpAny_load hu ?_);refine w4 (show(Value.type "method-wrapper" !=Value.type "method")=true by decide) ?_
 refine wpAny_pure ?_;rw [show(if(Value.type "method-wrapper" ==Value.type "builtin_function_or_method" ||Value.type "method-wrapper" ==Value.type "method-wrapper")=true then Keeper.machine else Keeper.caller)=.machine from if_pos (by decide)]
 exact wpAny_bind (wpAny_mono h (fun r s2 hr=>wpAny_bind (wpAny_holding (wpAny_point (wpAny_pure hr)))) fun Z Z x=>x)
end
noncomputable def aC (l:List Env):List Addr:=l.filterMap (·.frame)
structure Mw (X:Addr→Prop)(fr:List Addr)(s:Shared)(G:Kn)(s':Shared)(G':Kn):Prop where
 same:∃h' tk,s'={s with heap:=h',toks:=tk}
 size:s.heap.objs.size≤s'.heap.objs.size
 tk:s.toks≤s'.toks
 keep:∀b o,¬X b→b∉fr→s.heap.get? b=some o→s'.heap.get? b=some o
 slot:∀b o,¬X b→s.heap.get? b=some o→∃sl,s'.heap.get? b=some {o with slots:=sl}
 le:G.Le G'
 inn:G'.In s'.heap
 fresh:∀a o,G' a=some o→G a=some o∨s.heap.objs.size≤a
theorem Mv.mw {X:Addr→Prop}{fr:List Addr}{s s':Shared}{G G':Kn}(m:Mv X s G s' G'):Mw X fr s G s' G':=⟨m.same,m.size,m.tk,fun b o n Z e=>m.keep b o n e,fun b o n e=>⟨o.slots,m.keep b o n e⟩,m.le,m.inn,m.fresh⟩
theorem Mw.trans {X:Addr→Prop}{fr:List Addr}{s s' s'':Shared}{G G' G'':Kn}(a:Mw X fr s G s' G')(b:Mw X fr s' G' s'' G''):Mw X fr s G s'' G'':=by
 refine aV a.same fun h' tk z1=>?_;subst z1
 refine aV b.same fun h'' tk' z2=>?_;subst z2
 refine⟨⟨h'',tk',rfl⟩,Nat.le_trans a.size b.size,Nat.le_trans a.tk b.tk,fun x o n f e=>b.keep x o n f (a.keep x o n f e),fun x o n e=>?_,a.le.trans b.le,b.inn,fun x o e=>?_⟩
 ·refine xe (a.slot x o n e) fun sl e1=>?_;refine xe (b.slot x _ n e1) fun sl' e2=>?_;exact⟨sl',e2⟩
 ·rcases b.fresh x o e with q |q
  ·exact a.fresh x o q
  ·exact .inr (Nat.le_trans a.size q)
theorem Mw.gone_trans {X Y:Addr→Prop}{fr:List Addr}{s s' s'':Shared}{G G' G'':Kn}(a:Mw X fr s G s' G')(b:Mw Y fr s' G' s'' G'')(h:∀x,Y x→X x∨s.heap.get? x=none):Mw X fr s G s'' G'':=by
 refine aV a.same fun h' tk z3=>?_;subst z3
 refine aV b.same fun h'' tk' z4=>?_;subst z4
 have ny:∀{x o},¬X x→s.heap.get? x=some o→¬Y x:=fun{x o} n e y=>(h x y).elim n fun z=>by exact(lW (e.symm.trans z)).elim
 refine⟨⟨h'',tk',rfl⟩,Nat.le_trans a.size b.size,Nat.le_trans a.tk b.tk,fun x o n f e=>b.keep x o (ny n e) f (a.keep x o n f e),fun x o n e=>?_,a.le.trans b.le,b.inn,fun x o e=>?_⟩
 ·refine xe (a.slot x o n e) fun sl e1=>?_;refine xe (b.slot x _ (ny n e) e1) fun sl' e2=>?_;exact⟨sl',e2⟩
 ·rcases b.fresh x o e with q |q
  ·exact a.fresh x o q
  ·exact .inr (Nat.le_trans a.size q)
theorem Mw.fresh_trans {X Y:Addr→Prop}{fr:List Addr}{s s' s'':Shared}{G G' G'':Kn}(a:Mw X fr s G s' G')(b:Mw Y fr s' G' s'' G'')(h:∀x,Y x→X x∨s.heap.objs.size≤x):Mw X fr s G s'' G'':=
 a.gone_trans b fun x y=>(h x y).imp id Heap.get?_none_of_le
theorem Mw.weak {X Y:Addr→Prop}{fr fr':List Addr}{s s':Shared}{G G':Kn}(a:Mw X fr s G s' G')(h:∀b,X b→Y b)(hf:∀b,b∈fr→b∈fr'):Mw Y fr' s G s' G':=
 ⟨a.same,a.size,a.tk,fun b o n f e=>a.keep b o (fun x=>n (h b x)) (fun z=>f (hf b z)) e,fun b o n e=>a.slot b o (fun x=>n (h b x)) e,a.le,a.inn,a.fresh⟩
structure cj (A:Around)(l:List Env)(sB:Shared)(G:Kn)(h:Heap):Prop where
 fr:A.frames=some l
 ok:∀env∈l,env.scope.kind≠ .module∧∃L o,env.frame=some L∧h.get? L=some o∧(∀vs,o.data≠ .fields vs)∧G L=none∧sB.heap.objs.size≤L
theorem cj.mw {A:Around}{l:List Env}{sB:Shared}{X:Addr→Prop}{fr:List Addr}{s s':Shared}{G G':Kn}(S:cj A l sB G s.heap)(m:Mw X fr s G s' G')(h:∀a∈aC l,¬X a):cj A l sB G' s'.heap:=by
 refine⟨S.fr,fun env he=>?_⟩
 obtain⟨hk,L,o,hf,ho,hd,hG,hz⟩:=S.ok env he;refine xe (m.slot L o (h L (List.mem_filterMap.mpr ⟨env,he,hf⟩)) ho) fun sl e=>?_;refine⟨hk,L,_,hf,e,hd,?_,hz⟩;cases q:G' L with
 |none=>rfl
 |some o'=>
  rcases m.fresh L o' q with z |z
  ·exact(aa (hG.symm.trans z)).elim
  ·exact absurd (Heap.lt_size ho) (Nat.not_lt.mpr z)
theorem cj.grew {A:Around}{l:List Env}{sB:Shared}{s s':Shared}{G G':Kn}(S:cj A l sB G s.heap)(g:ae s G s' G'):cj A l sB G' s'.heap:=S.mw (X:=fun Z=>False) (fr:=[]) (ae.mv g).mw fun Z Z x=>x
theorem cj.mem {A:Around}{l:List Env}{sB:Shared}{G:Kn}{h:Heap}(S:cj A l sB G h){a:Addr}(ha:a∈aC l):(∃o,h.get? a=some o∧∀vs,o.data≠ .fields vs)∧G a=none∧sB.heap.objs.size≤a:=by
 refine ah (List.mem_filterMap.mp ha) fun env he hf=>?_;obtain⟨hk,L,o,hf',ho,hd,hG,hz⟩:=S.ok env he;rw [hf]at hf';obtain rfl:=Option.some.inj hf';exact⟨⟨o,ho,hd⟩,hG,hz⟩
theorem cj.fun {A:Around}{sB:Shared}{G:Kn}{h base:Heap}:∀{l:List Env},(∀env∈l,env.scope.kind≠ .module∧∃L o,env.frame=some L∧h.get? L=some o∧(∀vs,o.data≠ .fields vs)∧base.get? L=none)→h.FunFrames base l
 | [],_=>trivial
 |env::l,S=>by
  refine kH (S env List.mem_cons_self) fun hk L o hf ho hd hb=>?_;exact⟨hk,⟨L,o,hf,hb,ho,hd⟩,cj.fun (A:=A) (sB:=sB) (G:=G) fun e he=>S e (List.mem_cons_of_mem _ he)⟩
section
variable {prog:Program}{w:World}{K:Frag}{mg mb:Str→Option Value}{k:Nat}{A:Around}{env:Env}{own:List (Str×Addr)}{s sB:Shared}{G GB:Kn}{E:Value→Shared→Prop}{sc:aq}{ρ:Ro}{st:Sr}{cf:bE}
theorem dc.stk {scp:Scope}{s₁ s':Shared}{G₁:Kn}{l:List Env}(B:dc prog w k sB A scp env own aI ρ s₁ G₁ s')(S:cj A l sB G₁ s₁.heap)(hz:sB.heap.objs.size≤s₁.heap.objs.size):cj (A.deeper env) (env::l) sB G₁ s'.heap:=by
 refine⟨Around.frames_deeper S.fr,fun e he=>?_⟩
 rcases List.mem_cons.mp he with rfl |he
 ·refine aA B.st.plain.ex fun m cm F Z=>?_;refine ck F.ns fun o es ep ho hd Z=>?_;refine⟨by rw [F.kind];decide,_,o,B.frm,ho,fun vs q=>?_,B.st.plain.off.loc,?_⟩
  ·rw [hd]at q;cases q
  ·exact Nat.le_trans hz (B.mine _ (.inl rfl))
 ·obtain⟨hk,L,o,hf,ho,hd,hG,hz⟩:=S.ok e he;exact⟨hk,L,o,hf,B.keep _ _ ho,hd,hG,hz⟩
theorem ax.mutn {s':Shared}{G':Kn}{X:Addr→Prop}{fr:List Addr}(S:SO w.params sB GB env own ρ s G)(m:Mw X fr s G s' G')(h:∀a,X a→¬Mine env own a∧sB.heap.get? a=none)(hf:∀a,a∈fr→sB.heap.objs.size≤a∧∀n,(n,a)∉own):SO w.params sB GB env own ρ s' G':=by
 obtain⟨base,ρ',S0,wk,L⟩:=S;obtain⟨⟨m1,cm,F,hv⟩,off,inn⟩:=S0;have nm:∀{a},Mine env own a→¬X a:=fun hm hx=>(h _ hx).1 hm
 have hL:Mine env own env.locals:=.inl rfl;refine aV base.same fun hh tkk hsame=>?_;refine aV m.same fun h' tk' hs'=>?_;refine⟨⟨⟨h',tk',by rw [hs',hsame]⟩,Nat.le_trans base.size m.size,Nat.le_trans base.tk m.tk,base.le.trans m.le,fun a o e=>?_⟩,ρ',⟨⟨m1,cm,⟨?_,F.newL,fun n c e=>?_,F.newC,F.apart,F.nd,F.at_,fun b o e=>?_,F.kind⟩,fun x d e=>?_⟩,⟨?_,fun n c hm=>?_⟩,m.inn⟩,wk,L⟩
 ·rcases m.fresh a o e with q |q
  ·exact base.fresh a o q
  ·exact .inr (Nat.le_trans base.size q)
 ·refine ck F.ns fun o es ep ho hd r=>?_;refine xe (m.slot _ _ (nm hL) ho) fun sl e=>?_;exact⟨_,es,ep,e,hd,r⟩
 ·refine ah (F.cell n c e) fun o ho r=>?_;exact⟨o,m.keep _ _ (nm (.inr ⟨n,bN e⟩)) (fun z=>(hf c z).2 n (bN e)) ho,r⟩
 ·exact m.keep b o (fun x=>by have:=(h _ x).2;exact(lW (e.symm.trans this)).elim) (fun z=>absurd (Heap.lt_size e) (Nat.not_lt.mpr (hf b z).1)) (F.keep b o e)
 ·refine cn (hv x d e) fun ok v r rd=>?_;exact⟨ok,v,r,rd.mono m.le⟩
 ·refine iJ F.ns fun o Z Z ho Z=>?_;cases z:G' env.locals with
  |none=>rfl
  |some o'=>
   rcases m.fresh _ _ z with y |y
   ·exact(aa (off.loc.symm.trans y)).elim
   ·exact absurd (Heap.lt_size ho) (Nat.not_lt.mpr y)
 ·refine ah (F.cell n c (F.nd n c hm)) fun o ho Z=>?_;cases z:G' c with
  |none=>rfl
  |some o'=>
   rcases m.fresh _ _ z with y |y
   ·rw [off.cel n c hm]at y;exact(aa y).elim
   ·exact absurd (Heap.lt_size ho) (Nat.not_lt.mpr y)
theorem ax.mutw {s':Shared}{G':Kn}{X:Addr→Prop}{fr:List Addr}(S:SO w.params sB GB env own ρ s G)(m:Mw X fr s G s' G')(h:∀a,X a→¬Mine env own a∧sB.heap.objs.size≤a)(hf:∀a,a∈fr→sB.heap.objs.size≤a∧∀n,(n,a)∉own):SO w.params sB GB env own ρ s' G':=
 S.mutn m (fun a x=>⟨(h a x).1,Heap.get?_none_of_le (h a x).2⟩) hf
theorem az.keepw {s':Shared}{G':Kn}{X:Addr→Prop}{fr:List Addr}(S:az w.params sB G s st)(m:Mw X fr s G s' G')(h:∀a,foot st a→¬X a∧a∉fr):az w.params sB G' s' st:=by
 refine⟨S.at_.of fun a o f e=>m.keep a o (h a f).1 (h a f).2 e,S.wf,fun a f=>⟨?_,(S.off a f).2⟩⟩
 cases q:G' a with
 |none=>rfl
 |some o=>
  rcases m.fresh a o q with z |z
  ·rw [(S.off a f).1]at z;exact(aa z).elim
  ·exact absurd (S.lt f) (Nat.not_lt.mpr z)
end
section
variable {prog:Program}{w:World}{K:Frag}{mg mb:Str→Option Value}{k:Nat}{A:Around}{env:Env}{own:List (Str×Addr)}{s sB:Shared}{G GB:Kn}{E:Value→Shared→Prop}{sc:aq}{ρ:Ro}{st:Sr}
theorem wg:isSubtype (.type "StopIteration") (.type "BaseException")=pure true:=by rw [isSubtype_type];kernel_rfl
theorem tR:isSubtype (.type ((Manifest.find? "StopIteration").elim "type" fun x=>x.metatype)) (.type "tuple")=pure false:=by
 have:((Manifest.find? "StopIteration").elim "type" fun x=>x.metatype)= "type" :=by kernel_rfl
 rw [this,isSubtype_type];kernel_rfl
theorem Bx {l:List Env}{it e t:Addr}{s₁:Shared}{name:Str}{np pos:Pos}{b0:Stmt}{suite:List Stmt}{Q:Flow→Shared→Prop}(hB:Cx K mg mb sB)(U:Up sB s)(I:G.In s.heap)(T:cj A (env::l) sB G s.heap)(hs:aD sc env)(hx:aY sc "StopIteration" =true)(hn:name= "StopIteration")
  (hit:G it=none∧sB.heap.objs.size≤it)(hio:∃o vs,s.heap.get? it=some o∧o.data=.fields vs)(k1:∀b o,b≠it→s.heap.get? b=some o→s₁.heap.get? b=some o)(he:s₁.heap.get? e=some (Bk (.type "StopIteration") t))(hz:s.heap.objs.size≤e)(hs1:∃h',s₁={s with heap:=h'})(hsz:s.heap.objs.size≤s₁.heap.objs.size)
  (h:∀s4 (E':Value→Shared→Prop),Mw (· =it) (aC (env::l)) s G s4 G→wpAny (model prog w) (A.mark (some (.ref e))) (execs (b0::suite) env) Q E' s4):
  wpAny (model prog w) A (noteFrame (.ref e) env) (fun Z s2=>wpAny (model prog w) A (setFlight (.ref e) none) (fun Z s3=>wpAny (model prog w) A (handleBy (.ref e) env [.ExceptHandler (some (.Name name np)) none (b0::suite) pos]) Q E s3) E s2) E s₁:=by
 subst hn;refine dC fun Q0 k0=>?_;refine xe hs1 fun h1 z1=>?_;subst z1
 refine aA hio fun io ivs hio hid=>?_;have memB:∀{b o},s.heap.get? b=some o→b≠it→b∉aC (env::l)→(hideAll s.heap (it::aC (env::l))).get? b=some o:=fun{b o} q n1 n2=>hideAll_get _ q fun hm=>by
  rcases List.mem_cons.mp hm with z |z
  ·exact n1 z
  ·exact n2 z
 have memB':∀{b o},(hideAll s.heap (it::aC (env::l))).get? b=some o→s.heap.get? b=some o∧b≠it∧b∉aC (env::l):=by
  intro b o q;refine⟨of_hideAll _ q,fun z=>?_,fun z=>?_⟩
  ·rw [hideAll_none (it::aC (env::l)) (z▸List.mem_cons_self)]at q;exact(aa q).elim
  ·rw [hideAll_none (it::aC (env::l)) (List.mem_cons_of_mem _ z)]at q;exact(aa q).elim
 obtain⟨hk,L,oL,hf,hoL,hdL,hGL,hzL⟩:=T.ok env List.mem_cons_self;have neit:∀{b},b∈aC (env::l)→b≠it:=fun{b} hm z=>by
  refine xa (T.mem hm) fun z2 Z=>?_;obtain⟨o,ho,hd⟩:=z2
  rw [z,hio]at ho;obtain rfl:=Option.some.inj ho;exact hd _ hid
 generalize hb:hideAll s.heap (it::aC (env::l))=base at memB memB';have stay:base.StaysIn h1:=fun b o q=>k1 b o (memB' q).2.1 (memB' q).1
 have hen:base.get? e=none:=by
  cases q:base.get? e with
  |none=>rfl
  |some o=>exact absurd (Heap.lt_size (memB' q).1) (Nat.not_lt.mpr hz)
 have hnB:∀{b},b∈aC (env::l)→base.get? b=none:=fun{b} hm=>by
  cases q:base.get? b with
  |none=>rfl
  |some o=>exact absurd hm (memB' q).2.2
 have FF:h1.FunFrames base (env::l):=cj.fun (A:=A) (sB:=sB) (G:=G) fun en hen=>by
  refine kH (T.ok en hen) fun hk L o hf ho hd Z=>?_;have hm:L∈aC (env::l):=List.mem_filterMap.mpr ⟨en,hen,hf⟩;exact⟨hk,L,o,hf,k1 _ _ (neit hm) ho,hd,hnB hm⟩
 have upB:∀{h':Heap} {tk:Nat},base.StaysIn h'→s.heap.objs.size≤h'.objs.size→s.toks≤tk→Up sB {s with heap:=h',toks:=tk}:=fun{h' tk} k z zt=>by
  refine aV U.same fun hh tkk hsame=>?_;refine⟨⟨h',tk,by rw [hsame]⟩,Nat.le_trans U.size z,Nat.le_trans U.tk zt,fun b o q=>k b o (memB (U.keep b o q) (fun y=>?_) fun y=>?_)⟩
  ·exact absurd (Heap.lt_size q) (Nat.not_lt.mpr (y▸hit.2))
  ·exact absurd (Heap.lt_size q) (Nat.not_lt.mpr (T.mem y).2.2)
 unfold noteFrame;simp only [hf];refine wpAny_bind (wpAny_field he rfl (x:=.none) rfl ?_);rw [if_neg (by decide)]
 refine aK (wpAny_entryW (base:=base) (a0:=.ref t) T.fr FF hf he stay hen rfl (by simp) rfl fun h2 N hz2=>k0 _ _ ?_)
 refine mo N fun n1 n2 n3 n4=>?_;refine aK (wpAny_setFlight_noneW n1 n2 n3 fun h3 m1 m2 m3 m4 hz3=>?_)
 refine wpAny_handleBy_builtin (X:= "StopIteration") (T:= "StopIteration") (b:=true) wg tR isSubtype_stop ?_;have z3:s.heap.objs.size≤h3.objs.size:=Nat.le_trans hsz (Nat.le_trans hz2.1 hz3.1);have U3:=upB (tk:=s.toks) m1 z3 (Nat.le_refl _);refine cE (U3.cx hB) hs hx (hB.blt ("StopIteration",.type "StopIteration") (List.mem_of_getElem? (i:=14) rfl)) ⟨rfl,?_,?_⟩
 ·obtain⟨oe,vs,T',oT,ts,q1,q2,_⟩:=m3;exact⟨oe,q1,q2.1⟩
 ·simp only [if_true];refine aK (wpAny_setFlight_noneW m1 m2 m3.at fun h4 p1 p2 p3 p4 hz4=>?_)
  refine h _ _ ⟨⟨h4,s.toks,rfl⟩,Nat.le_trans z3 hz4.1,Nat.le_refl _,fun b o nb nf q=>p1 b o (memB q nb nf),fun b o nb q=>?_,.refl _,fun a o q=>p1 a o (memB (I a o q) (fun z=>by rw [z,hit.1]at q;exact(aa q).elim) fun z=>by rw [(T.mem z).2.1]at q;exact(aa q).elim),fun Z Z q=>.inl q⟩
  by_cases hm:b∈aC (env::l)
  ·refine xa (T.mem hm) fun z3 Z=>?_;obtain⟨o',ho',hd'⟩:=z3
   rw [q]at ho';obtain rfl:=Option.some.inj ho';refine xe (n4 b o (k1 b o nb q) hd') fun sl q2=>?_;exact⟨sl,p4 b _ (m4 b _ q2 hd') hd'⟩
  ·exact⟨o.slots,p1 b o (memB q nb hm)⟩
end
noncomputable def dX (h:Heap)(ia:Addr)(rs:List Addr):Prop:= ∃n,h.get? ia=some (aB (rs.map .ref) n)
theorem dX.of {h h':Heap}{ia:Addr}{rs:List Addr}(x:dX h ia rs)(k:∀o,h.get? ia=some o→h'.get? ia=some o):dX h' ia rs:=let⟨n,e⟩:=x;⟨n,k _ e⟩
noncomputable def eI (prog:Program)(w:World)(h:Heap)(se:Addr)(xs:List (List Nat)):Prop:=h.SetOf (strKind prog w) se (fun k=>decide (k∈xs.map mk)) xs.length
theorem eI.of {prog:Program}{w:World}{h h':Heap}{se:Addr}{xs:List (List Nat)}(x:eI prog w h se xs)(k:∀o,h.get? se=some o→h'.get? se=some o):eI prog w h' se xs:=
 let⟨o,es,ep,t,ho,r⟩:=x;⟨o,es,ep,t,k _ ho,r⟩
theorem tS {x:List Nat}{xs:List (List Nat)}:mk x∈xs.map mk↔x∈xs:=⟨fun h=>by refine ah (List.mem_map.mp h) fun y hy e=>?_;exact iC e▸hy,List.mem_map_of_mem⟩
theorem ge {α:Type}:∀(l:List α),l.length≠0→∃l' a,l=l'++ [a]
 | [],h=>absurd rfl h
 | [a],_=>⟨[],a,rfl⟩
 |a::b::r,_=>by
  refine aV (ge (b::r) (by simp)) fun l' c e=>?_
  exact⟨a::l',c,by rw [e];rfl⟩
theorem rL (f:Array Value→Array Value)(vs:List Value) (n:Nat):∃m,Obj.mapSeq f (aB vs n)={cls:=.type "list",data:=.seq (f vs.toArray) m}:=⟨_,rfl⟩
theorem rZ (vs:List Value)(v:Value):(vs++ [v]).toArray.eraseIdxIfInBounds ((vs++ [v]).toArray.size - 1)=vs.toArray:=by
 unfold Array.eraseIdxIfInBounds;have:(vs++ [v]).toArray.size - 1<(vs++ [v]).toArray.size:=by simp
 rw [dif_pos this];apply Array.ext';simp [List.eraseIdx_append_of_length_le]
section
variable {prog:Program}{w:World}{A:Around}{E:Value→Shared→Prop}{s:Shared}{d la:Addr}{x:List Nat}{t:Tok}
theorem Bp {ks:Ks}{Q:Value→Shared→Prop}(a:bT w.params s.heap d ks)(nd:(ks.map (·.1)).Nodup)(hs:(d==sysModules)=false)
  (h:Q (.bool (ff ks x).isSome) {s with toks:=s.toks+1}):wpAny (model prog w) A (compareOp .In (.str (mk x) t) (.ref d)) Q E s:=by
 refine aR (a.dictOf prog nd) fun kvs hof hk hv=>?_;have fv:=ja (G:=bW) (w:=w) x hk hv;refine wpAny_in_of (knd:=strKind prog w) (k:=mk x) (strKind_is prog w _ _) hs hof.mapOf ?_;have:(valueAt kvs (mk x)).isSome=(ff ks x).isSome:=by
  unfold ff;cases f:ks.find? (fun p=>aF p.1 x)with
  |some p=>rw [f]at fv;refine ah fv fun v hv Z=>?_;rw [hv];rfl
  |none=>rw [f]at fv;dsimp only at fv;rw [fv];rfl
 rw [this];exact h
theorem nG {kvs:List (Str×Value)}{k:Str}{v:Value}(h:k∉kvs.map (·.1)):without (kvs++ [(k,v)]) k=kvs:=by
 unfold without;rw [List.filter_append];have e1:kvs.filter (fun kv=>decide (kv.1≠k))=kvs:=List.filter_eq_self.mpr fun p hp=>by simp;exact fun z=>h (z▸List.mem_map_of_mem hp)
 rw [e1];simp
theorem yO {ks:Ks}{dv:D}{Q:Unit→Shared→Prop}(a:bT w.params s.heap d (ks++ [(x,dv)]))(nd:((ks++ [(x,dv)]).map (·.1)).Nodup)(hl:ks.length≤1000)
  (h:∀h',bT w.params h' d ks→Heap.SameBut d s.heap h'→Q () {s with heap:=h',toks:=s.toks+1}):wpAny (model prog w) A (delItem (.ref d) (.str (mk x) t)) Q E s:=by
 refine aR (a.dictOf prog nd) fun kvs hof hk hv=>?_;have hlen:kvs.length=ks.length+1:=by have:=congrArg List.length hk;simpa using this
 obtain⟨kvs',p,rfl⟩:∃kvs' p,kvs=kvs'++ [p]:=ge kvs (by lia)
 simp only [List.map_append,List.map_cons,List.map_nil]at hk hv;refine xa (List.append_inj' hk (by simp)) fun hk1 hk2=>?_
 have hpk:p.1=mk x:=by simpa using hk2
 have hn:mk x∉kvs'.map (·.1):=by
  rw [hk1];intro hm;refine ah (List.mem_map.mp hm) fun q hq e=>?_;rw [List.map_append,List.nodup_append]at nd;exact nd.2.2 q.1 (List.mem_map_of_mem hq) x (by simp) (iC e)
 refine wpAny_delItem_slot (T:= "dict") hof.typeIs (by decide) F.slot_dict_delitem (call_meetsIn F.slot_dict_delitem hof.typeIs F.entry_dict_delitem (F.args_dict_delitem_2 _ _) (meets_dict_delitem_pairs (knd:=strKind prog w) (k:=mk x) (d:=d) (key:=.str (mk x) t) (strKind_is prog w _ _)) ⟨_,hof,by rw [sizeLine_eq];lia,?_,fun h' hd hs=>h h' ?_ hs⟩)
 ·obtain⟨pk,pv⟩:=p;dsimp only at hpk;subst hpk;unfold valueAt;rw [List.find?_append];simp
 ·obtain⟨pk,pv⟩:=p;dsimp only at hpk;subst hpk;rw [nG hn]at hd;have hlv:(kvs'.map (·.2)).length=(ks.map (·.2)).length:=by have:=congrArg List.length hk1;simpa using this
  refine bT.back prog hd hk1 ?_;have:=hv.take (kvs'.map (·.2)).length;rw [List.take_left' rfl,List.take_left' hlv.symm]at this;exact this
theorem mI (vs:List Value)(v:Value) (n:Nat):∃m,Obj.mapSeq (fun xs=>xs.eraseIdxIfInBounds ((vs++ [v]).toArray.size - 1)) (aB (vs++ [v]) n)=aB vs m:=by
 refine xe (rL (fun xs=>xs.eraseIdxIfInBounds ((vs++ [v]).toArray.size - 1)) (vs++ [v]) n) fun m hm=>?_
 refine⟨m,hm.trans ?_⟩;rw [rZ]
set_option tactic.hygienic true in
theorem yb {pos:Pos}{xs:List (List Nat)}{Q:Value→Shared→Prop}(l:cJ w.params s.heap la (xs++ [x]))(hl:xs.length≤1000)(h:∀h' t,cJ w.params h' la xs→Heap.SameBut la s.heap h'→Q (.str (mk x) t) {s with heap:=h'}):
  wpAny (model prog w) A (callWith pos (.builtin "list.pop") [.ref la] [] []) Q E s:=by
 refine aA l fun vs n e r=>?_;have hlen:vs.length=xs.length+1:=by have:=r.length;simpa using this
 obtain⟨vs',v,rfl⟩:∃vs' v,vs=vs'++ [v]:=ge vs (by lia)
 rw [List.map_append]at r;have hl':vs'.length=(xs.map D.str).length:=by simpa using hlen
 have r1:=r.take vs'.length;rw [List.take_left' rfl,List.take_left' hl'.symm]at r1;have r2:=r.drop vs'.length;rw [List.drop_left' rfl,List.drop_left' hl'.symm]at r2;cases r2 with
 |cons r2 _=>
 obtain⟨_,rfl⟩:=r2.str_i;rename_i tk;refine xe (mI vs' (.str (mk x) tk) n) fun m hm=>?_;refine P.pop_list (items:=(vs'++ [Value.str (mk x) tk]).toArray) (n:=n) (y:=.str (mk x) tk) e (by simp) (h _ tk ⟨vs',m,?_,r1⟩ (Heap.SameBut.update ..)) (by rw [List.size_toArray,sizeLine_eq];lia)
 rw [Heap.get?_update_self _ e (by rw [hm];rfl),hm]
theorem y5 {rs:List Addr}{m:Addr}{Q:Value→Shared→Prop}(l:dX s.heap la rs)(hl:rs.length≤1000)(h:∀h',dX h' la (rs++ [m])→Heap.SameBut la s.heap h'→Q .none {s with heap:=h'}):
  wpAny (model prog w) A (call (.builtin "list.append") [.ref la,.ref m]) Q E s:=by
 refine xe l fun n e=>?_;have hsz:(rs.map Value.ref).toArray.size≤sizeLine:=by rw [List.size_toArray,sizeLine_eq,List.length_map];omega
 refine xe (Obj.data_mapSeq (o:=aB (rs.map .ref) n) rfl (·.push (.ref m))) fun n' hd'=>?_;refine xe (og (rs.map .ref) n (.ref m)) fun q hq=>?_;refine wpAny_call_entry slot_list_append (s:=s) (T:= "list") ⟨_,e,rfl⟩ entry_list_append ?_ (args_list_append _ _);show wpAny _ _ (updateSeq la (·.push _)>>=fun Z=>ret .none) _ _ s
 refine wpAny_bind (wpAny_updateSeq e rfl (wpAny_pure ⟨.none,rfl,h _ ⟨q,?_⟩ (Heap.SameBut.update ..)⟩));rw [Heap.get?_update_self _ e (Obj.isFreed_of_seq hd')];have:some (Obj.mapSeq (fun a=>a.push (.ref m)) (aB (rs.map .ref) n))=some (aB ((rs++ [m]).map .ref) q):=by rw [hq,List.map_append];rfl
 exact this
theorem ya {pos:Pos}{rs:List Addr}{m:Addr}{Q:Value→Shared→Prop}(l:dX s.heap la (rs++ [m]))(hl:rs.length≤1000)(h:∀h',dX h' la rs→Heap.SameBut la s.heap h'→Q (.ref m) {s with heap:=h'}):
  wpAny (model prog w) A (callWith pos (.builtin "list.pop") [.ref la] [] []) Q E s:=by
 refine xe l fun n e=>?_;rw [List.map_append]at e;refine xe (mI (rs.map .ref) (.ref m) n) fun q hq=>?_;refine P.pop_list (items:=(rs.map Value.ref++ [Value.ref m]).toArray) (n:=n) (y:=.ref m) e (by simp) (h _ ⟨q,?_⟩ (Heap.SameBut.update ..)) (by rw [List.size_toArray,sizeLine_eq];simp;lia)
 have e':s.heap.get? la=some (aB (rs.map Value.ref++ [Value.ref m]) n):=e;rw [Heap.get?_update_self _ e' (by rw [hq];rfl),hq]
end
noncomputable abbrev Nm:=List Nat
noncomputable abbrev Su:=Nm→List Nm
inductive eV (su:Su):List Nm→Prop
 |nil:eV su []
 |snoc {L x}:eV su L→(∀y∈su x,y∈L)→eV su (L++ [x])
noncomputable def dZ (su:Su)(done:List Nm):Nm→List (Nm×Nat)→Prop
 |_,[]=>True
 |y,(x,p)::r=>1≤p∧(su x)[p - 1]? =some y∧(∀z∈(su x).take (p - 1),z∈done)∧dZ su done x r
theorem dZ.mono {su:Su}{d d':List Nm}(h:∀z∈d,z∈d'):∀{y:Nm}{fr:List (Nm×Nat)},dZ su d y fr→dZ su d' y fr
 |_,[],_=>trivial
 |_,(_,_)::_,⟨a,b,c,e⟩=>⟨a,b,fun z hz=>h z (c z hz),e.mono h⟩
noncomputable def j1 (su:Su)(done:List Nm):List (Nm×Nat)→Prop
 | []=>True
 |(x,p)::r=>(∀z∈(su x).take p,z∈done)∧dZ su done x r
structure d0 (su:Su)(N:List Nm)(fr:List (Nm×Nat))(seen done:List Nm):Prop where
 nd:(fr.map (·.1)).Nodup
 dj:∀x∈fr.map (·.1),x∉done
 mem:∀x,x∈seen↔x∈fr.map (·.1)∨x∈done
 sub:∀x∈seen,x∈N
 sn:seen.Nodup
 topo:eV su done
noncomputable def ki (su:Su)(N:List Nm):Prop:= ∃C:List Nm,C≠ []∧(∀y∈C,y∈N∧∃x∈C,y∈su x)
section
variable {su:Su}{N:List Nm}{fr r:List (Nm×Nat)}{seen done:List Nm}{x y:Nm}{p:Nat}
theorem d0.push (D:d0 su N fr seen done)(hx:x∉seen)(hN:x∈N)(l:dZ su done x fr):d0 su N ((x,0)::fr) (seen++ [x]) done∧j1 su done ((x,0)::fr):=by
 refine⟨⟨?_,?_,?_,?_,?_,D.topo⟩,fun z hz=>by simp at hz,l⟩
 ·rw [List.map_cons,List.nodup_cons];exact⟨fun h=>hx ((D.mem x).mpr (.inl h)),D.nd⟩
 ·intro z hz;rw [List.map_cons]at hz;rcases List.mem_cons.mp hz with rfl |hz
  ·exact fun h=>hx ((D.mem _).mpr (.inr h))
  ·exact D.dj z hz
 ·intro z;simp only [List.mem_append,List.map_cons,List.mem_cons,List.not_mem_nil,or_false,D.mem z];constructor
  ·rintro ((h |h) |h)
   ·exact .inl (.inr h)
   ·exact .inr h
   ·exact .inl (.inl h)
  ·rintro ((h |h) |h)
   ·exact .inr h
   ·exact .inl (.inl h)
   ·exact .inl (.inr h)
 ·intro z hz;rcases List.mem_append.mp hz with h |h
  ·exact D.sub z h
  ·rw [List.mem_singleton.mp h];exact hN
 ·rw [List.nodup_append];exact⟨D.sn,by simp,fun a ha b hb=>by rw [List.mem_singleton.mp hb];exact fun z=>hx (z▸ha)⟩
theorem mr {l:List Nm}{p:Nat}(h1:1≤p)(h:l[p - 1]? =some y):∀z∈l.take p,z∈l.take (p - 1)∨z=y:=by
 intro z hz;obtain⟨q,rfl⟩:∃q,p=q+1:=⟨p - 1,by lia⟩
 simp only [Nat.add_sub_cancel]at h⊢;rw [List.take_add_one,h]at hz;rcases List.mem_append.mp hz with h |h
 ·exact .inl h
 ·exact .inr (by simpa using h)
theorem dM (l:dZ su done x fr)(hd:x∈done):j1 su done fr:=by
 cases fr with
 |nil=>trivial
 |cons f r=>
  obtain⟨y,p⟩:=f;refine mo l fun h1 h2 h3 h4=>?_;exact⟨fun z hz=>(mr h1 h2 z hz).elim (h3 z) fun e=>e▸hd,h4⟩
theorem CL (h:j1 su done ((x,p)::r))(hy:(su x)[p]? =some y):dZ su done y ((x,p+1)::r):=⟨Nat.succ_le_succ (Nat.zero_le p),hy,h.1,h.2⟩
theorem d0.adv (D:d0 su N ((x,p)::r) seen done):d0 su N ((x,p+1)::r) seen done:=⟨D.nd,D.dj,D.mem,D.sub,D.sn,D.topo⟩
theorem d0.pop (D:d0 su N ((x,p)::r) seen done)(h:j1 su done ((x,p)::r))(hy:(su x)[p]? =none):d0 su N r seen (done++ [x])∧j1 su (done++ [x]) r:=by
 have nd:=D.nd;rw [List.map_cons,List.nodup_cons]at nd;refine⟨⟨nd.2,?_,?_,D.sub,D.sn,.snoc D.topo fun z hz=>h.1 z ?_⟩,?_⟩
 ·intro z hz hm;rcases List.mem_append.mp hm with h' |h'
  ·exact D.dj z (List.mem_cons_of_mem _ hz) h'
  ·rw [List.mem_singleton.mp h']at hz;exact nd.1 hz
 ·intro z;rw [D.mem z,List.map_cons,List.mem_cons,List.mem_append,List.mem_singleton];constructor
  ·rintro ((h |h) |h)
   ·exact .inr (.inr h)
   ·exact .inl h
   ·exact .inr (.inl h)
  ·rintro (h |h |h)
   ·exact .inl (.inr h)
   ·exact .inr h
   ·exact .inl (.inl h)
 ·rw [List.take_of_length_le (List.getElem?_eq_none_iff.mp hy)];exact hz
 ·cases r with
  |nil=>trivial
  |cons f r'=>
   obtain⟨x',p'⟩:=f;refine mo h.2 fun h1 h2 h3 h4=>?_;exact⟨fun z hz=>(mr h1 h2 z hz).elim (fun q=>List.mem_append_left _ (h3 z q)) fun e=>by rw [e];simp,h4.mono fun z hz=>List.mem_append_left _ hz⟩
theorem lp:∀(fr:List (Nm×Nat))(y:Nm),dZ su done y fr→(∀z∈fr.map (·.1),z∈N)→x∈fr.map (·.1)→∃C:List Nm,C≠ []∧x∈C∧(∀z∈C,z∈N)∧(∃z∈C,y∈su z)∧∀z∈C,z=x∨∃u∈C,z∈su u
 | [],_,_,_,h=>by simp at h
 |(u,p)::r,y,l,hN,h=>by
  refine mo l fun h1 h2 h3 h4=>?_;have hy:y∈su u:=List.mem_of_getElem? h2;by_cases z:u=x
  ·subst z;exact⟨[u],by simp,by simp,fun z hz=>by rw [List.mem_singleton.mp hz];exact hN u (by simp),⟨u,by simp,hy⟩,fun z hz=>.inl (List.mem_singleton.mp hz)⟩
  ·have hr:x∈r.map (·.1):=by
    rw [List.map_cons]at h;exact(List.mem_cons.mp h).resolve_left fun e=>z e.symm
   refine qL (lp r u h4 (fun z hz=>hN z (List.mem_cons_of_mem _ hz)) hr) fun C c1 c2 c3 z1 c6=>?_;obtain⟨v,c4,c5⟩:=z1
   refine⟨u::C,by simp,List.mem_cons_of_mem _ c2,fun z hz=>?_,⟨u,by simp,hy⟩,fun z hz=>?_⟩
   ·rcases List.mem_cons.mp hz with rfl |hz
    ·exact hN _ (by simp)
    ·exact c3 z hz
   ·rcases List.mem_cons.mp hz with rfl |hz
    ·exact .inr ⟨v,List.mem_cons_of_mem _ c4,c5⟩
    ·exact(c6 z hz).imp id fun⟨u',a,b⟩=>⟨u',List.mem_cons_of_mem _ a,b⟩
theorem d0.cyc (D:d0 su N fr seen done)(l:dZ su done x fr)(h:x∈fr.map (·.1)):ki su N:=by
 refine qL (lp fr x l (fun z hz=>D.sub z ((D.mem z).mpr (.inl hz))) h) fun C c1 c2 c3 z2 c6=>?_;obtain⟨v,c4,c5⟩:=z2
 exact⟨C,c1,fun z hz=>⟨c3 z hz,(c6 z hz).elim (fun e=>e▸⟨v,c4,c5⟩) id⟩⟩
theorem ch {α:Type} [DecidableEq α]:∀{l m:List α},l.Nodup→(∀x∈l,x∈m)→l.length≤m.length
 | [],_,_,_=>Nat.zero_le _
 |a::l,m,h,hs=>by
  obtain⟨h1,h2⟩:=List.nodup_cons.mp h;have ih:=ch (l:=l) (m:=m.erase a) h2 fun x hx=>(List.mem_erase_of_ne fun(e:x=a)=>h1 (e▸hx)).mpr (hs x (List.mem_cons_of_mem _ hx))
  have hm:=hs a List.mem_cons_self;rw [List.length_erase_of_mem hm]at ih;have:0<m.length:=List.length_pos_of_mem hm;simp;lia
noncomputable def mu (su:Su)(N seen:List Nm)(fr:List (Nm×Nat)):Nat:=(N.length - seen.length)*1000+(fr.map fun f=>1+((su f.1).length - f.2)).sum
theorem yq (hs:∀x∈N,(su x).length≤900)(D:d0 su N fr seen done)(hx:x∉seen)(hN:x∈N):mu su N (seen++ [x]) ((x,0)::fr)<mu su N seen fr:=by
 have h1:(seen++ [x]).length≤N.length:=ch (by rw [List.nodup_append];exact⟨D.sn,by simp,fun a ha b hb=>by rw [List.mem_singleton.mp hb];exact fun z=>hx (z▸ha)⟩) fun z hz=>by
  rcases List.mem_append.mp hz with h |h
  ·exact D.sub z h
  ·rw [List.mem_singleton.mp h];exact hN
 have h2:=hs x hN;unfold mu;rw [List.length_append]at h1⊢;simp only [List.length_singleton,List.map_cons,List.sum_cons]at h1⊢;have:N.length - seen.length=(N.length - (seen.length+1))+1:=by lia
 rw [this]
 lia
theorem AY (hy:(su x)[p]? =some y):mu su N seen ((x,p+1)::r)<mu su N seen ((x,p)::r):=by
 have:=(List.getElem?_eq_some_iff.mp hy).1;unfold mu;simp only [List.map_cons,List.sum_cons]
 lia
theorem tM:mu su N seen r<mu su N seen ((x,p)::r):=by
 unfold mu;simp only [List.map_cons,List.sum_cons]
 lia
end
structure Fm where
 nm:Nm
 mw:Addr
 it:Addr
 la:Addr
 p:Nat
structure FB where
 sa:Addr
 ia:Addr
 se:Addr
 na:Addr
structure FS where
 b:FB
 n1:List Nm
 n2:List Addr
 n4:Ks
 stk:List Fm
noncomputable def fZ (stk:List Fm):List (Nm×Nat):=(stk.map fun f=>(f.nm,f.p)).reverse
noncomputable def cT:Nat→List Fm→Ks
 |_,[]=>[]
 |n,f::r=>(f.nm,.int n)::cT (n+1) r
theorem jD (f:Fm):∀(l:List Fm) (n:Nat),cT n (l++ [f])=cT n l++ [(f.nm,.int ((n+l.length:Nat):Int))]
 | [],n=>by simp [cT]
 |g::l,n=>by
  show(g.nm,_)::cT (n+1) (l++ [f])=_
  rw [jD f l (n+1)];simp [cT]
  lia
theorem dB:∀(l:List Fm) (n:Nat),(cT n l).map (·.1)=l.map (·.nm)
 | [],_=>rfl
 |f::l,n=>by show f.nm::_=_;rw [dB l (n+1)];rfl
theorem oy (l:List Fm) (n:Nat):(cT n l).length=l.length:=by have:=congrArg List.length (dB l n);simpa using this
noncomputable def FS.of (b:FB)(stk:List Fm):FS:=⟨b,stk.map (·.nm),stk.map (·.mw),cT 0 stk,stk⟩
noncomputable def cz (F:FS)(a:Addr):Prop:=a=F.b.sa∨a=F.b.ia∨a=F.b.se∨a=F.b.na∨∃f∈F.stk,a=f.it
theorem i7 {F:FS}:cz F F.b.sa:=.inl rfl
theorem hH {F:FS}:cz F F.b.ia:=.inr (.inl rfl)
theorem nv {F:FS}:cz F F.b.se:=.inr (.inr (.inl rfl))
theorem i8 {F:FS}:cz F F.b.na:=.inr (.inr (.inr (.inl rfl)))
theorem i9 {F:FS}{f:Fm}(h:f∈F.stk):cz F f.it:=.inr (.inr (.inr (.inr ⟨f,h,rfl⟩)))
structure kD (h:Heap)(G:Kn)(st:Sr)(f:Fm):Prop where
 mw:G f.mw=some (gA f.it)
 it:h.get? f.it=some (dP f.la f.p)
 nd:∃nd∈st.nodes,nd.nm=f.nm∧nd.la=f.la
theorem kD.of {h h':Heap}{G G':Kn}{st:Sr}{f:Fm}(x:kD h G st f)(le:G.Le G')(k:∀o,h.get? f.it=some o→h'.get? f.it=some o):kD h' G' st f:=⟨le _ _ x.mw,k _ x.it,x.nd⟩
structure bC (prog:Program)(w:World)(h:Heap)(G:Kn)(st:Sr)(F:FS)(seen:List Nm):Prop where
 sa:cJ w.params h F.b.sa F.n1
 ia:dX h F.b.ia F.n2
 se:eI prog w h F.b.se seen
 na:bT w.params h F.b.na F.n4
 it:∀f∈F.stk,kD h G st f
 itn:(F.stk.map (·.it)).Nodup
 ne:F.b.sa≠F.b.ia
 sys:(F.b.na==sysModules)=false
section
variable {prog:Program}{w:World}{h h':Heap}{G G':Kn}{st:Sr}{F:FS}{seen seen':List Nm}
theorem bC.of (x:bC prog w h G st F seen)(le:G.Le G')(k:∀a o,cz F a→h.get? a=some o→h'.get? a=some o):bC prog w h' G' st F seen:=
 ⟨x.sa.of fun o e=>k _ _ i7 e,x.ia.of fun o e=>k _ _ hH e,x.se.of fun o e=>k _ _ nv e,x.na.of fun o e=>k _ _ i8 e,
  fun f hf=>(x.it f hf).of le fun o e=>k _ _ (i9 hf) e,x.itn,x.ne,x.sys⟩
inductive Kd (h:Heap)(a:Addr)(T:String):Prop
 |mk (o:Obj) (e:h.get? a=some o) (c:o.cls=.type T)
theorem Kd.ne {a b:Addr}{T U:String}(x:Kd h a T)(y:Kd h b U)(n:(T==U)=false):a≠b:=fun e=>by
 obtain⟨o,e1,c1⟩:=x;obtain⟨p,e2,c2⟩:=y;rw [e,e2]at e1;rw [Option.some.inj e1,c1]at c2;rw [Value.type.inj c2,beq_self_eq_true]at n;exact(cb n).elim
theorem bC.k1 (x:bC prog w h G st F seen):Kd h F.b.sa "list" :=by refine aA x.sa fun Z Z e Z=>?_;exact⟨_,e,rfl⟩
theorem bC.k2 (x:bC prog w h G st F seen):Kd h F.b.ia "list" :=by obtain⟨_,e⟩:=x.ia;exact⟨_,e,rfl⟩
theorem bC.k3 (x:bC prog w h G st F seen):Kd h F.b.se "set" :=by obtain⟨_,_,_,_,e,c,_⟩:=x.se;exact⟨_,e,c.1⟩
theorem bC.k4 (x:bC prog w h G st F seen):Kd h F.b.na "dict" :=by refine aA x.na fun Z Z e Z=>?_;exact⟨_,e,rfl⟩
theorem bC.k5 (x:bC prog w h G st F seen){f:Fm}(hf:f∈F.stk):Kd h f.it "list_iterator" :=⟨_,(x.it f hf).it,rfl⟩
theorem bC.alive (x:bC prog w h G st F seen){a:Addr}(hf:cz F a):∃o,h.get? a=some o:=by
 have k:∀{T},Kd h a T→∃o,h.get? a=some o:=fun⟨o,e,_⟩=>⟨o,e⟩
 rcases hf with e |e |e |e |⟨f,hf,e⟩
 ·exact k (e▸x.k1)
 ·exact k (e▸x.k2)
 ·exact k (e▸x.k3)
 ·exact k (e▸x.k4)
 ·exact k (e▸x.k5 hf)
theorem bC.put1 (x:bC prog w h G st F seen)(k:∀b o,b≠F.b.sa→h.get? b=some o→h'.get? b=some o){n1:List Nm}(l:cJ w.params h' F.b.sa n1):bC prog w h' G st {F with n1:=n1} seen:=
 ⟨l,x.ia.of fun Z e=>k _ _ (Ne.symm x.ne) e,x.se.of fun Z e=>k _ _ (x.k3.ne x.k1 rfl) e,x.na.of fun Z e=>k _ _ (x.k4.ne x.k1 rfl) e,fun f hf=>(x.it f hf).of (.refl _) fun Z e=>k _ _ ((x.k5 hf).ne x.k1 rfl) e,x.itn,x.ne,x.sys⟩
theorem bC.put2 (x:bC prog w h G st F seen)(k:∀b o,b≠F.b.ia→h.get? b=some o→h'.get? b=some o){n2:List Addr}(l:dX h' F.b.ia n2):bC prog w h' G st {F with n2:=n2} seen:=
 ⟨x.sa.of fun Z e=>k _ _ x.ne e,l,x.se.of fun Z e=>k _ _ (x.k3.ne x.k2 rfl) e,x.na.of fun Z e=>k _ _ (x.k4.ne x.k2 rfl) e,fun f hf=>(x.it f hf).of (.refl _) fun Z e=>k _ _ ((x.k5 hf).ne x.k2 rfl) e,x.itn,x.ne,x.sys⟩
theorem bC.put3 (x:bC prog w h G st F seen)(k:∀b o,b≠F.b.se→h.get? b=some o→h'.get? b=some o)(l:eI prog w h' F.b.se seen'):bC prog w h' G st F seen':=
 ⟨x.sa.of fun Z e=>k _ _ (x.k1.ne x.k3 rfl) e,x.ia.of fun Z e=>k _ _ (x.k2.ne x.k3 rfl) e,l,x.na.of fun Z e=>k _ _ (x.k4.ne x.k3 rfl) e,fun f hf=>(x.it f hf).of (.refl _) fun Z e=>k _ _ ((x.k5 hf).ne x.k3 rfl) e,x.itn,x.ne,x.sys⟩
theorem bC.put4 (x:bC prog w h G st F seen)(k:∀b o,b≠F.b.na→h.get? b=some o→h'.get? b=some o){n4:Ks}(l:bT w.params h' F.b.na n4):bC prog w h' G st {F with n4:=n4} seen:=
 ⟨x.sa.of fun Z e=>k _ _ (x.k1.ne x.k4 rfl) e,x.ia.of fun Z e=>k _ _ (x.k2.ne x.k4 rfl) e,x.se.of fun Z e=>k _ _ (x.k3.ne x.k4 rfl) e,l,fun f hf=>(x.it f hf).of (.refl _) fun Z e=>k _ _ ((x.k5 hf).ne x.k4 rfl) e,x.itn,x.ne,x.sys⟩
theorem bC.put5 (x:bC prog w h G st F seen){f:Fm}(hf:f∈F.stk)(k:∀b o,cz F b→b≠f.it→h.get? b=some o→h'.get? b=some o){stk:List Fm}(l:∀g∈stk,(g∈F.stk∧g.it≠f.it)∨kD h' G st g)(n:(stk.map (·.it)).Nodup):bC prog w h' G st {F with stk:=stk} seen:=
 have y:=x.k5 hf
 ⟨x.sa.of fun Z e=>k _ _ i7 (x.k1.ne y rfl) e,x.ia.of fun Z e=>k _ _ hH (x.k2.ne y rfl) e,x.se.of fun Z e=>k _ _ nv (x.k3.ne y rfl) e,x.na.of fun Z e=>k _ _ i8 (x.k4.ne y rfl) e,fun g hg=>(l g hg).elim (fun z=>(x.it g z.1).of (.refl _) fun Z e=>k _ _ (i9 z.1) z.2 e) id,n,x.ne,x.sys⟩
end
section
variable {prog:Program}{w:World}{mg mb:Str→Option Value}{k:Nat}{A:Around}{env:Env}{own:List (Str×Addr)}{s s' s₀ sB:Shared}{G G' G₀ GB:Kn}{E:Value→Shared→Prop}{sc:aq}{ρ:Ro}{st:Sr}{F F':FS}{seen seen':List Nm}{l:List Env}
theorem cj.gen {X:Addr→Prop}{ρ':Ro}(T:cj A (env::l) sB G s.heap)(V:SO w.params sB GB env own ρ' s' G')(m:Mv X s G s' G')(hX:∀L∈aC (env::l),X L→Mine env own L)(cel:∀a∈aC (env::l),∀n,(n,a)∉own):cj A (env::l) sB G' s'.heap:=by
 refine⟨T.fr,fun en he=>?_⟩
 obtain⟨hk,L,o,hf,ho,hd,hG,hz⟩:=T.ok en he;have hm:=List.mem_filterMap.mpr ⟨en,he,hf⟩;have hG':=m.none_lt hG (Heap.lt_size ho);by_cases z:Mine env own L
 ·refine aA V.plain.ex fun m1 cm F Z=>?_;refine z.elim (fun z=>?_) fun⟨n,z⟩=>absurd z (cel L hm n)
  refine ck F.ns fun o' es ep ho' hd' Z=>?_;rw [←z]at ho';exact⟨hk,L,o',hf,ho',(fun vs q=>by rw [hd']at q;cases q),hG',hz⟩
 ·exact⟨hk,L,o,hf,m.keep L o (fun x=>z (hX L hm x)) ho,hd,hG',hz⟩
structure Fo (env:Env)(own:List (Str×Addr))(l:List Env)(st:Sr)(s₀:Shared)(G:Kn)(a:Addr):Prop where
 g:G a=none
 mine:¬Mine env own a
 ft:¬foot st a
 fr:a∉aC (env::l)
 sz:s₀.heap.objs.size≤a
structure Cy (prog:Program)(w:World)(A:Around)(env:Env)(own:List (Str×Addr))(sB:Shared)(GB:Kn)(l:List Env)(st:Sr)(s₀:Shared)(G₀:Kn)(ρ:Ro)(s:Shared)(G:Kn)(F:FS)(seen:List Nm):Prop where
 V:SO w.params sB GB env own ρ s G
 S:az w.params sB G s st
 T:cj A (env::l) sB G s.heap
 Fa:bC prog w s.heap G st F seen
 n2i:ρ "n2i" =some (.adr st.d)
 stack:ρ "stack" =some (.adr F.b.sa)
 itstack:ρ "itstack" =some (.adr F.b.ia)
 seenV:ρ "seen" =some (.adr F.b.se)
 n2s:ρ "node2stacki" =some (.adr F.b.na)
 ap:∀a,foot st a→¬Mine env own a∧a∉aC (env::l)
 fo:∀a,cz F a→Fo env own l st s₀ G a
 sz:sB.heap.objs.size≤s₀.heap.objs.size
 cel:∀a∈aC (env::l),∀n,(n,a)∉own
 mv:Mw (Mine env own) (aC (env::l)) s₀ G₀ s G
theorem Cy.lt (C:Cy prog w A env own sB GB l st s₀ G₀ ρ s G F seen){a:Addr}(h:cz F a):a<s.heap.objs.size:=let⟨_,e⟩:=C.Fa.alive h;Heap.lt_size e
theorem Cy.frlt (C:Cy prog w A env own sB GB l st s₀ G₀ ρ s G F seen){a:Addr}(h:a∈aC (env::l)):a<s.heap.objs.size:=let⟨⟨_,e,_⟩,_⟩:=C.T.mem h;Heap.lt_size e
theorem Cy.new (C:Cy prog w A env own sB GB l st s₀ G₀ ρ s G F seen){a:Addr}(hz:s.heap.objs.size≤a)(hg:G' a=none):Fo env own l st s₀ G' a:=
 ⟨hg,aS C.V hz,fun f=>Nat.lt_irrefl _ (Nat.lt_of_lt_of_le (C.S.lt f) hz),fun f=>Nat.lt_irrefl _ (Nat.lt_of_lt_of_le (C.frlt f) hz),Nat.le_trans C.mv.size hz⟩
theorem Mw.none_lt {X:Addr→Prop}{fr:List Addr}(m:Mw X fr s G s' G'){a:Addr}(e:G a=none)(h:a<s.heap.objs.size):G' a=none:=by
 cases q:G' a with
 |none=>rfl
 |some o=>exact(m.fresh a o q).elim (fun z=>(aa (e.symm.trans z)).elim) fun z=>absurd h (Nat.not_lt.mpr z)
theorem Cy.step {X:Addr→Prop}(C:Cy prog w A env own sB GB l st s₀ G₀ ρ s G F seen)(m:Mw X (aC (env::l)) s G s' G')(hX:∀a,X a→cz F a)
  (Fa:bC prog w s'.heap G' st F' seen')(e:F'.b=F.b)(hf:∀f∈F'.stk,(∃g∈F.stk,f.it=g.it)∨(s.heap.objs.size≤f.it∧G' f.it=none)):Cy prog w A env own sB GB l st s₀ G₀ ρ s' G' F' seen':=by
 have Fx:=fun a x=>C.fo a (hX a x)
 refine⟨C.V.mutw m (fun a x=>⟨(Fx a x).mine,Nat.le_trans C.sz (Fx a x).sz⟩) fun a ha=>⟨(C.T.mem ha).2.2,C.cel a ha⟩,C.S.keepw m fun a f=>⟨fun x=>(Fx a x).ft f,(C.ap a f).2⟩,C.T.mw m fun a ha x=>(Fx a x).fr ha,Fa,C.n2i,e▸C.stack,e▸C.itstack,e▸C.seenV,e▸C.n2s,C.ap,fun a f=>?_,C.sz,C.cel,C.mv.fresh_trans m fun a x=>.inr (Fx a x).sz⟩
 have dM:cz F a→Fo env own l st s₀ G' a:=fun f=>have y:=C.fo a f;⟨m.none_lt y.g (C.lt f),y.mine,y.ft,y.fr,y.sz⟩
 unfold cz at f;rw [e]at f;rcases f with q |q |q |q |⟨f,hm,q⟩
 ·exact dM (.inl q)
 ·exact dM (.inr (.inl q))
 ·exact dM (.inr (.inr (.inl q)))
 ·exact dM (.inr (.inr (.inr (.inl q))))
 ·rcases hf f hm with⟨g,hg,e⟩ |⟨hz,hg⟩
  ·exact dM (.inr (.inr (.inr (.inr ⟨g,hg,q.trans e⟩))))
  ·rw [q];exact C.new hz hg
theorem Cy.grew (C:Cy prog w A env own sB GB l st s₀ G₀ ρ s G F seen)(g:ae s G s' G'):Cy prog w A env own sB GB l st s₀ G₀ ρ s' G' F seen:=
 C.step (X:=fun Z=>False) (ae.mv g).mw (fun Z x=>x.elim) (C.Fa.of g.le fun a o Z e=>g.keep a o e) rfl fun f hf=>.inl ⟨f,hf,rfl⟩
theorem Cy.turn {X:Addr→Prop}(C:Cy prog w A env own sB GB l st s₀ G₀ ρ s G F seen){x:Str}{d:D}(V:SO w.params sB GB env own (ad ρ x d) s' G)(m:Mv X s G s' G)
  (hw:∀a,X a→Mine env own a∨(¬foot st a∧¬cz F a∧a∉aC (env::l)∧s₀.heap.objs.size≤a))
  (h:ar "n2i" x=false∧ar "stack" x=false∧ar "itstack" x=false∧ar "seen" x=false∧ar "node2stacki" x=false):Cy prog w A env own sB GB l st s₀ G₀ (ad ρ x d) s' G F seen:=
 ⟨V,C.S.keep m fun a f y=>(hw a y).elim (C.ap a f).1 fun y=>y.1 f,C.T.gen V m (fun L hm y=>(hw L y).elim id fun y=>absurd hm y.2.2.1) C.cel,C.Fa.of (.refl _) fun a o f e=>m.keep a o (fun y=>(hw a y).elim (C.fo a f).mine fun y=>y.2.1 f) e,
  (aN h.1).trans C.n2i,(aN h.2.1).trans C.stack,(aN h.2.2.1).trans C.itstack,(aN h.2.2.2.1).trans C.seenV,(aN h.2.2.2.2).trans C.n2s,
  C.ap,C.fo,C.sz,C.cel,C.mv.fresh_trans m.mw fun a y=>(hw a y).imp id fun y=>y.2.2.2⟩
theorem Cy.sto (C:Cy prog w A env own sB GB l st s₀ G₀ ρ s G F seen){x:Str}{d:D}(V:SO w.params sB GB env own (ad ρ x d) s' G)(m:Mv (Mine env own) s G s' G)
  (h:ar "n2i" x=false∧ar "stack" x=false∧ar "itstack" x=false∧ar "seen" x=false∧ar "node2stacki" x=false):Cy prog w A env own sB GB l st s₀ G₀ (ad ρ x d) s' G F seen:=C.turn V m (fun Z y=>.inl y) h
end
section
variable {prog:Program}{w:World}{mg mb:Str→Option Value}{k:Nat}{A:Around}{env:Env}{own:List (Str×Addr)}{s s' s₀ sB:Shared}{G G' G₀ GB:Kn}{E:Value→Shared→Prop}{sc:aq}{ρ:Ro}{st:Sr}{F F':FS}{seen seen':List Nm}{l:List Env}
theorem oA (x:Nm):∀(l:List Fm) (n:Nat),(ff (cT n l) x).isSome=decide (x∈l.map (·.nm))
 | [],_=>rfl
 |f::l,n=>by
  have ih:=oA x l (n+1);unfold ff at ih⊢;show(((f.nm,_)::cT (n+1) l).find? (fun p=>aF p.1 x) |>.map (·.2)).isSome=_
  rw [List.find?_cons];dsimp only;cases q:aF f.nm x with
  |true=>
   have e:=(bf _ _).mp q;simp [e]
  |false=>
   dsimp only;rw [ih];have ne:x≠f.nm:=fun z=>by rw [(bf _ _).mpr z.symm]at q;exact(cb q).elim
   simp [ne]
theorem Cy.inSeen (C:Cy prog w A env own sB GB l st s₀ G₀ ρ s G F seen){x:Nm}{p1 p2 p3:Pos}{whole:Sem Value}{Q:Bool→Shared→Prop}(hx:ρ "node" =some (.str x))
  (h:∀s',Cy prog w A env own sB GB l st s₀ G₀ ρ s' G F seen→ae s G s' G→Q (decide (x∈seen)) s'):wpAny (model prog w) A (isTrue (.Compare (.Name "node" p1) [.In] [.Name "seen" p2] p3) env whole) Q E s:=by
 refine wpAny_isTrue_Compare1 (nm (d:=.str x) C.V hx fun v rv=>au C.V C.seenV ?_) (bO rfl)
 obtain⟨_,rfl⟩:=rv.str_i;refine wpAny_inSet_of (knd:=strKind prog w) (k:=Mine.mk x) (strKind_is prog w _ _) rfl C.Fa.se (wpAny_truthy_bool ?_);have e:decide (Mine.mk x∈seen.map Mine.mk)=decide (x∈seen):=decide_eq_decide.mpr tS;rw [e];have g:=ae.toks C.V.inn (s.toks+1) (Nat.le_add_right _ _);exact h _ (C.grew g) g
theorem Cy.inN2s {b:FB}{stk:List Fm}(C:Cy prog w A env own sB GB l st s₀ G₀ ρ s G (FS.of b stk) seen){x:Nm}{p1 p2 p3:Pos}{whole:Sem Value}{Q:Bool→Shared→Prop}(hx:ρ "node" =some (.str x))(nd:(stk.map (·.nm)).Nodup)
  (h:∀s',Cy prog w A env own sB GB l st s₀ G₀ ρ s' G (FS.of b stk) seen→ae s G s' G→Q (decide (x∈stk.map (·.nm))) s'):wpAny (model prog w) A (isTrue (.Compare (.Name "node" p1) [.In] [.Name "node2stacki" p2] p3) env whole) Q E s:=by
 refine wpAny_isTrue_Compare1 (nm (d:=.str x) C.V hx fun v rv=>au C.V C.n2s ?_) (bO rfl)
 refine xe rv.str_i fun Z z1=>?_;subst z1
 refine Bp (ks:=cT 0 stk) C.Fa.na (by rw [dB];exact nd) C.Fa.sys (wpAny_truthy_bool ?_)
 rw [oA];have g:=ae.toks C.V.inn (s.toks+1) (Nat.le_add_right _ _);exact h _ (C.grew g) g
theorem yL {α β:Type}{a:List α}{b:List β}(h:a.length=b.length):(!a.toArray.isEmpty)=!b.isEmpty:=by
 cases a with
 |nil=>cases b with |nil=>rfl |cons _ _=>cases h
 |cons _ _=>cases b with |nil=>cases h |cons _ _=>rfl
theorem Cy.truth {b:FB}{stk:List Fm}(C:Cy prog w A env own sB GB l st s₀ G₀ ρ s G (FS.of b stk) seen){p1:Pos}{Q:Bool→Shared→Prop}(hl:stk.length≤1000)
  (h:∀s',Cy prog w A env own sB GB l st s₀ G₀ ρ s' G (FS.of b stk) seen→ae s G s' G→Q (!stk.isEmpty) s'):wpAny (model prog w) A (isTrue (.Name "stack" p1) env (eval (.Name "stack" p1) env)) Q E s:=by
 refine aA C.Fa.sa fun vs n e r=>?_;have hlen:vs.length=stk.length:=r.length.trans ((List.length_map ..).trans (List.length_map ..));refine wpAny_isTrue_value (au C.V C.stack (wpAny_truthy_list (items:=vs.toArray) ⟨_,e,rfl,n,rfl⟩ (by simp;lia) ?_)) (by rfl)
 rw [yL hlen];have g:=ae.toks C.V.inn (s.toks+2) (Nat.le_add_right _ _);exact h _ (C.grew g) g
theorem d0.stk {su:Su}{N:List Nm}{done:List Nm}{stk:List Fm}(D:d0 su N (fZ stk) seen done):(stk.map (·.nm)).Nodup∧(∀x,x∈stk.map (·.nm)↔x∈(fZ stk).map (·.1)):=by
 have e:(fZ stk).map (·.1)=(stk.map (·.nm)).reverse:=by
  unfold fZ;rw [List.map_reverse,List.map_map];rfl
 refine⟨?_,fun x=>by rw [e,List.mem_reverse]⟩
 have:=D.nd;rw [e]at this;exact(List.reverse_perm _).nodup_iff.mp this
theorem cJ.see {P:Params}{h:Heap}{la:Addr}{xs:List Nm}(x:cJ P h la xs)(I:G.In h)(hn:G la=none):∃o,h.get? la=some o∧G.Le (G.add la o)∧(G.add la o).In h∧Rd P (G.add la o) (.ref la) (.list (xs.map .str)):=by
 refine aA x fun vs n e r=>?_;exact⟨_,e,Kn.le_add hn,Kn.add_in I e,.list Kn.add_self (r.mono (iA _))⟩
theorem pR (P:Params)(G:Kn):∀(rs:List Addr),ai P G (rs.map Value.ref) (rs.map D.adr)
 | []=>.nil
 |r::rs=>.cons (.adr r) (pR P G rs)
theorem dX.see (P:Params){h:Heap}{ia:Addr}{rs:List Addr}(x:dX h ia rs)(I:G.In h)(hn:G ia=none):∃o,h.get? ia=some o∧G.Le (G.add ia o)∧(G.add ia o).In h∧Rd P (G.add ia o) (.ref ia) (.list (rs.map .adr)):=by
 refine xe x fun n e=>?_;exact⟨_,e,Kn.le_add hn,Kn.add_in I e,.list Kn.add_self (pR _ _ _)⟩
theorem rS (l:List D)(i:D):eL (.list l) i=gk (.list l) i:=rfl
theorem yz {f:Fm}{r:List Fm}(hl:(r++ [f]).length≤1000):eL (.list (((r++ [f]).map (·.mw)).map .adr)) (.int (-1))=some (.adr f.mw):=by
 rw [rS];unfold gk;have hl2:(((r++ [f]).map (·.mw)).map D.adr).length=r.length+1:=by rw [List.length_map,List.length_map,List.length_append];rfl
 have hl3:r.length+1≤1000:=by rw [List.length_append]at hl;exact hl
 dsimp only;rw [if_pos (by rw [hl2];simp [small];lia),hl2]
 have:seqIndex? (-1) (r.length+1)=some r.length:=by
  unfold seqIndex?;simp
  lia
 rw [this];simp
theorem Cy.last {b:FB}{f:Fm}{r:List Fm}(rm:am k A)(hs:aD sc env)(hB:Cx (KP w.params) mg mb sB)(C:Cy prog w A env own sB GB l st s₀ G₀ ρ s G (FS.of b (r++ [f])) seen){p1 p2 p3 p4:Pos}{kk:Nat}{Q:Value→Shared→Prop}(hl:(r++ [f]).length≤1000)
  (h:∀s',Cy prog w A env own sB GB l st s₀ G₀ ρ s' G (FS.of b (r++ [f])) seen→ae s G s' G→Q (.ref f.mw) s'):wpAny (model prog w) A (eval (.Subscript (.Name "itstack" p1) (.UnaryOp .USub (.Constant (.int 1) kk p2) p3) p4) env) Q E s:=by
 refine eN (C.Fa.ia.see w.params C.V.inn (C.fo _ hH).g) fun o ho le In rd=>?_;have q:R0.ev sc (ad ρ "itstack" (.list (((r++ [f]).map (·.mw)).map .adr))) (.Subscript (.Name "itstack" p1) (.UnaryOp .USub (.Constant (.int 1) kk p2) p3) p4)=some (.adr f.mw):=
  (show _=eL (.list (((r++ [f]).map (·.mw)).map .adr)) (.int (-1)) by kernel_rfl).trans (yz hl)
 exact AF (fS prog w (KP w.params) mg mb k) rm hs hB C.V le In (iL C.V.plain.env le C.itstack rd) q (.inr ⟨_,rfl⟩) fun v s₁ g rv V1=>by rw [rv.adr_i];exact h s₁ (C.grew g) g
end
theorem EV (P:Params)(a:Value):dG (KP P) 168 (an 168) (aO 168) (bj 168) [a] (pure ((aO 168).zip [a])):=
 ek (by kernel_rfl) (by kernel_rfl) (by kernel_rfl) (by kernel_rfl) (by kernel_rfl) (by kernel_rfl) (by kernel_rfl) (by kernel_rfl)
noncomputable def Sr.su (st:Sr)(x:Nm):List Nm:=match st.find x with |some nd=>nd.su |none=>[]
noncomputable def Sr.nms (st:Sr):List Nm:=st.nodes.map (·.nm)
theorem w7 {st:Sr}(W:st.WF){nd:Nd}(h:nd∈st.nodes):st.su nd.nm=nd.su:=by unfold Sr.su;rw [gG W h]
theorem Mw.mv {X:Addr→Prop}{fr:List Addr}{s s':Shared}{G G':Kn}(m:Mw X fr s G s' G'):Mv (fun b=>X b∨b∈fr) s G s' G':=⟨m.same,m.size,m.tk,fun b o n e=>m.keep b o (fun x=>n (.inl x)) (fun x=>n (.inr x)) e,m.le,m.inn,m.fresh⟩
section
variable {prog:Program}{w:World}{mg mb:Str→Option Value}{k:Nat}{A:Around}{env:Env}{own:List (Str×Addr)}{s s' s₀ sB:Shared}{G G' G₀ GB:Kn}{E:Value→Shared→Prop}{sc:aq}{ρ:Ro}{st:Sr}{F F':FS}{seen seen':List Nm}{l:List Env}
theorem cj.sto {ρ':Ro}(T:cj A (env::l) sB G s.heap)(V:SO w.params sB GB env own ρ' s' G)(m:Mv (Mine env own) s G s' G)(cel:∀a∈aC (env::l),∀n,(n,a)∉own):cj A (env::l) sB G s'.heap:=T.gen V m (fun Z Z z=>z) cel
theorem dc.cel {scp:Scope}{s₁:Shared}{G₁:Kn}(B:dc prog w k sB A scp env own aI ρ s₁ G₁ s')(T:cj A l sB G₁ s₁.heap):∀a∈aC (env::l),∀n,(n,a)∉own:=by
 intro a ha n hm;refine aA B.st.plain.ex fun m1 cm F Z=>?_;refine ah (List.mem_filterMap.mp ha) fun en he hf=>?_;rcases List.mem_cons.mp he with rfl |he
 ·rw [B.frm]at hf;obtain rfl:=Option.some.inj hf;exact(F.newC n _ hm).2 rfl
 ·refine xa (T.mem (List.mem_filterMap.mpr ⟨en,he,hf⟩)) fun z1 Z=>?_;obtain⟨o,ho,_⟩:=z1
  exact Nat.lt_irrefl _ (Nat.lt_of_lt_of_le (Heap.lt_size ho) (B.mine a (.inr ⟨n,hm⟩)))
theorem dc.dropw {scp:Scope}{s₁ s2:Shared}{G₁ G2:Kn}(B:dc prog w k sB A scp env own aI ρ s₁ G₁ s')(g:ae s G s₁ G₁)(m:Mw (Mine env own) (aC (env::l)) s' G₁ s2 G2):Mw (fun Z=>False) (aC l) s G s2 G:=by
 have gg:ae s G s' G₁:=g.trans (B.g g.inn);have nm:∀{b o},s.heap.get? b=some o→¬Mine env own b:=fun{b o} e q=>Nat.lt_irrefl _ (Nat.lt_of_lt_of_le (Heap.lt_size e) (Nat.le_trans g.size (B.mine b q)))
 refine aV gg.same fun h' tk z2=>?_;subst z2
 refine aV m.same fun h'' tk' hs=>?_;refine⟨⟨h'',tk',hs⟩,Nat.le_trans gg.size m.size,Nat.le_trans gg.tk m.tk,fun b o Z nf e=>m.keep b o (nm e) (fun hm=>?_) (gg.keep b o e),fun b o Z e=>m.slot b o (nm e) (gg.keep b o e),.refl _,fun a o e=>m.inn a o (m.le a o (gg.le a o e)),fun Z Z e=>.inl e⟩
 refine ah (List.mem_filterMap.mp hm) fun en he hf=>?_;rcases List.mem_cons.mp he with rfl |he
 ·rw [B.frm]at hf;obtain rfl:=Option.some.inj hf;exact nm e (.inl rfl)
 ·exact nf (List.mem_filterMap.mpr ⟨en,he,hf⟩)
theorem r0:entryFor table "iter" =some Builtin.«iter»:=by first |exact entryFor_of_fast (by kernel_rfl) |exact entryFor_of_tree (by kernel_rfl)
theorem uI (a:Value):argsOk "iter" ⟨[a],[]⟩:=by unfold argsOk;kernel_rfl
theorem uC {la:Addr}{o:Obj}{items:Array Value}{n:Nat}{Q:Value→Shared→Prop}(ho:s.heap.get? la=some o)(hc:o.cls=.type "list")(hd:o.data=.seq items n)
  (h:Q (.ref s.heap.objs.size) {s with heap:=s.heap.push (dP la 0)}):wpAny (model prog w) A (call (.builtin "iter") [.ref la]) Q E s:=by
 refine Calls.call_function_entry (by decide+kernel) (by decide+kernel) r0 (uI _) ?_
 unfold Builtin.«iter»;refine wpAny_bind (m:=someArgs "iter" 1 2 _) (wpAny_of_eq (a:=[Value.ref la]) (by first |rfl |kernel_rfl) ?_)
 show wpAny _ _ (pyIter (.ref la)>>=_) _ _ _
 exact wpAny_bind (wpAny_pyIter_list ⟨o,ho,hc,n,hd⟩ (wpAny_pure ⟨_,rfl,h⟩))
theorem eI.add {h:Heap}{se:Addr}{x:Nm}(hx:x∉seen)(hS:h.SetOf (strKind prog w) se (fun k'=>decide (k'∈seen.map mk)||decide (k'=mk x)) (if decide (mk x∈seen.map mk)then seen.length else seen.length+1)):eI prog w h se (seen++ [x]):=by
 unfold eI;have e1:(fun k=>decide (k∈(seen++ [x]).map mk))=fun k'=>decide (k'∈seen.map mk)||decide (k'=mk x):=by
  funext k;rw [Bool.eq_iff_iff];simp
 have e2:¬(decide (mk x∈seen.map mk)=true):=by
  rw [decide_eq_true_eq,tS];exact hx
 rw [if_neg e2]at hS;rw [e1,List.length_append];exact hS
theorem oU {v sl:PySem.Expr}{p pos:Pos}{args:List PySem.Expr}{Q:Value→Shared→Prop}(h:wpAny (model prog w) A (eval (.Subscript v sl p) env) (fun f s₁=>wpAny (model prog w) A (callWith pos f [] (backTo pos (starEach args env)) []) Q E s₁) E s):wpAny (model prog w) A (eval (.Call (.Subscript v sl p) args [] pos) env) Q E s:=by
 have e:eval (.Call (.Subscript v sl p) args [] pos) env=(do callWith pos (←eval (.Subscript v sl p) env) [] (backTo pos (starEach args env)) (backToKw pos (keywordEach [] env))):=rfl
 rw [e];exact wpAny_bind h
theorem yN {M:Model}{o i:PySem.Expr}{p pos:Pos}{Q:Flow→Shared→Prop}(h:wpAny M A (eval o env) (fun ov s₁=>wpAny M A (eval i env) (fun iv s2=>wpAny M A (delItem ov iv) (fun Z s3=>Q .next s3) E s2) E s₁) E s):wpAny M A (exec (.Delete [.Subscript o i p] pos) env) Q E s:=by
 exact wpAny_Delete (wpAny_deleteEach_cons (wpAny_delete_Subscript (wpAny_mono h (fun ov s₁ z=>wpAny_mono z (fun iv s2 y=>wpAny_mono y (fun Z s3 x=>wpAny_deleteEach_nil x) fun Z Z z=>z) fun Z Z z=>z) fun Z Z z=>z)))
noncomputable def rB (o:Option D):Option (Option Int):=match o with
 |some (.int i)=>if small i then some (some i)else none
 |some .none=>some none
 |_=>none
theorem vw {i:Int}(h:small i=true):rB (some (.int i))=some (some i):=by
 unfold rB;dsimp only;exact if_pos h
noncomputable def vj (L:List D)(ks:Ks)(x:Nm):Option D:=match (match rB (eL (.dict ks) (.str x))with |none=>none |some lo=>gz (.list L) lo none)with
 |none=>none
 |some a=>dq .Add a (.list [.str x])
theorem qm {x:Nm}:∀(l:List Fm) (n:Nat),x∈l.map (·.nm)→∃k:Nat,k<n+l.length∧ff (cT n l) x=some (.int (k:Int))
 | [],_,h=>by cases h
 |f::l,n,h=>by
  unfold ff;show∃k:Nat,_∧(((f.nm,D.int n)::cT (n+1) l).find? (fun p=>aF p.1 x)).map (·.2)=_
  rw [List.find?_cons];dsimp only;cases q:aF f.nm x with
  |true=>exact⟨n,by simp,rfl⟩
  |false=>
   have hx:x∈l.map (·.nm):=by
    rw [List.map_cons]at h;exact(List.mem_cons.mp h).resolve_left fun e=>by rw [(bf _ _).mpr e.symm]at q;exact(cb q).elim
   refine ah (qm l (n+1) hx) fun k h1 h2=>?_;refine⟨k,by simp;lia,?_⟩
   dsimp only;exact h2
theorem qX (L:List D) (k:Nat)(h:L.length≤1000):gz (.list L) (some (k:Int)) none=some (.list (L.drop k)):=by
 unfold gz;dsimp only;rw [if_pos h];rfl
theorem add_list (a b:List D)(h:a.length+b.length≤1000000):dq .Add (.list a) (.list b)=some (.list (a++b)):=by
 unfold dq;dsimp only;rw [if_pos h]
theorem tq (k:Nat)(h:k≤1000):small (k:Int)=true:=by
 unfold small;rw [Bool.and_eq_true,decide_eq_true_eq,decide_eq_true_eq];constructor<;>omega
theorem xX {x:Nm}{st:List Fm}(hx:x∈st.map (·.nm))(hl:st.length≤900):∃ds,vj ((st.map (·.nm)).map .str) (cT 0 st) x=some (.list ds)∧ds≠ []∧ds.length≤1000:=by
 refine ah (qm st 0 hx) fun k h1 h2=>?_;have e:eL (.dict (cT 0 st)) (.str x)=some (.int (k:Int)):=h2;have hL:((st.map (·.nm)).map D.str).length=st.length:=by rw [List.length_map,List.length_map]
 have hd:(((st.map (·.nm)).map D.str).drop k).length≤st.length:=by rw [List.length_drop,hL];exact Nat.sub_le _ _
 refine⟨((st.map (·.nm)).map D.str).drop k++ [.str x],?_,by simp,by rw [List.length_append,List.length_singleton];lia⟩
 unfold vj;rw [e,vw (tq k (by lia))]
 dsimp only;rw [qX _ k (by rw [hL];lia)]
 dsimp only;exact add_list _ _ (by rw [List.length_singleton];lia)
noncomputable def Xf (env:Env)(own:List (Str×Addr))(b:FB)(a:Addr):Prop:=Mine env own a∨a=b.sa∨a=b.ia∨a=b.se∨a=b.na
inductive CW (prog:Program)(w:World)(A:Around)(env:Env)(own:List (Str×Addr))(sB:Shared)(GB:Kn)(l:List Env)(st:Sr)(s₀:Shared)(b:FB)(x:Nm)(seen:List Nm)(s₁:Shared)(G₁:Kn) (n:Nat)(s':Shared):Prop
 |mk (ρ:Ro) (G:Kn) (stk:List Fm) (sn dn:List Nm) (x':Nm) (C:Cy prog w A env own sB GB l st s₀ GB ρ s' G (FS.of b stk) sn) (hx:ρ "node" =some (.str x')) (D:d0 st.su st.nms (fZ stk) sn dn) (L:dZ st.su dn x' (fZ stk)) (hN:x'∈st.nms) (hn:n=mu st.su st.nms sn (fZ stk))
  (m:Mw (Xf env own b) (aC (env::l)) s₁ G₁ s' G)(x_in:x∈sn∨x'=x)(mono:∀z∈seen,z∈sn)(its:∀f∈stk,s₁.heap.objs.size≤f.it)
inductive CR (prog:Program)(w:World)(A:Around)(env:Env)(own:List (Str×Addr))(sB:Shared)(GB:Kn)(l:List Env)(st:Sr)(s₀:Shared)(b:FB)(x:Nm)(seen:List Nm)(s₁:Shared)(G₁:Kn)(n n2:Nat)(s':Shared):Prop
 |mk (ρ:Ro) (G:Kn) (stk:List Fm) (sn dn:List Nm) (C:Cy prog w A env own sB GB l st s₀ GB ρ s' G (FS.of b stk) sn) (D:d0 st.su st.nms (fZ stk) sn dn) (R:j1 st.su dn (fZ stk)) (h2:n2=mu st.su st.nms sn (fZ stk)) (hn:n2≤n)
  (m:Mw (Xf env own b) (aC (env::l)) s₁ G₁ s' G)(x_in:x∈sn)(mono:∀z∈seen,z∈sn)(its:∀f∈stk,s₁.heap.objs.size≤f.it)
theorem Mw.xf {X:Addr→Prop}{fr:List Addr}{b:FB}(m:Mw X fr s G s' G')(h:∀a,X a→a=b.sa∨a=b.ia∨a=b.se∨a=b.na):Mw (Xf env own b) fr s G s' G':=m.weak (fun a x=>.inr (h a x)) fun Z z=>z
theorem bC.push {h:Heap}(x:bC prog w h G st F seen){f:Fm}(i:kD h G st f)(n:∀g∈F.stk,g.it≠f.it):bC prog w h G st {F with stk:=F.stk++ [f]} seen:=
 ⟨x.sa,x.ia,x.se,x.na,fun g hg=>(List.mem_append.mp hg).elim (x.it g) fun z=>List.mem_singleton.mp z▸i,by
  rw [List.map_append,List.nodup_append];refine⟨x.itn,List.nodup_cons.mpr ⟨List.not_mem_nil,.nil⟩,fun a ha b hb=>?_⟩
  refine ah (List.mem_map.mp ha) fun g hg z3=>?_;subst z3
  rw [List.mem_singleton.mp hb]
  exact n g hg,x.ne,x.sys⟩
theorem FS.snoc {b:FB}{stk:List Fm}{f:Fm}:FS.of b (stk++ [f])=⟨b,stk.map (·.nm)++ [f.nm],stk.map (·.mw)++ [f.mw],cT 0 stk++ [(f.nm,.int (stk.length:Nat))],stk++ [f]⟩:=by
 unfold FS.of;rw [jD,List.map_append,List.map_append,Nat.zero_add];rfl
theorem gE {stk:List Fm}{f:Fm}:fZ (stk++ [f])=(f.nm,f.p)::fZ stk:=by
 unfold fZ;rw [List.map_append,List.reverse_append];rfl
theorem Cy.one (C:Cy prog w A env own sB GB l st s₀ G₀ ρ s G F seen){a:Addr}(fa:cz F a){h':Heap}{t:Nat}(sb:Heap.SameBut a s.heap h')(ht:s.toks≤t):Mv (· =a) s G {s with heap:=h',toks:=t} G:=iB C.V.inn sb rfl (C.fo a fa).g ht
theorem Cy.put (C:Cy prog w A env own sB GB l st s₀ G₀ ρ s G F seen){a:Addr}(fa:cz F a)(m:Mv (· =a) s G s' G)(Fa:bC prog w s'.heap G st F' seen')(e:F'.b=F.b)(hs:F'.stk=F.stk):Cy prog w A env own sB GB l st s₀ G₀ ρ s' G F' seen':=
 C.step m.mw (fun Z e=>e▸fa) Fa e fun f hf=>.inl ⟨f,hs▸hf,rfl⟩
theorem Cy.addSeen (hB:Cx (KP w.params) mg mb sB)(C:Cy prog w A env own sB GB l st s₀ G₀ ρ s G F seen){x:Nm}{p1 p2 p3 p4 p5:Pos}{Q:Flow→Shared→Prop}(hp:(p2.endLine==p4.line)=true)(hx:ρ "node" =some (.str x))(hs:x∉seen)(hl:seen.length≤400)
  (h:∀s',Cy prog w A env own sB GB l st s₀ G₀ ρ s' G F (seen++ [x])→Mw (Xf env own F.b) (aC (env::l)) s G s' G→Q .next s'):wpAny (model prog w) A (exec (.Expr (.Call (.Attribute (.Name "seen" p1) "add" p2) [.Name "node" p3] [] p4) p5) env) Q E s:=by
 refine wpAny_Expr_any (wpAny_Call_method_lateS rfl (by rfl) hp (au (a:=F.b.se) C.V C.seenV ⟨"set", "set.add",PySem.F.plainAttrs_set,PySem.F.slot_set_add,PySem.F.type_set_add,C.Fa.se.typeIs,C.Fa.se.noDict,iK (by nofun) rfl (nm (d:=.str x) C.V hx fun v rv=>?_)⟩)) (cq C.V)
 refine xe rv.str_i fun Z z4=>?_;subst z4
 refine call_set_add (knd:=strKind prog w) (k:=Mine.mk x) (strKind_is prog w _ _) rfl C.Fa.se (Nat.lt_of_le_of_lt (Nat.succ_le_succ hl) (by decide)) fun h' sb hS=>?_
 have m:=C.one nv sb (Nat.le_succ _);exact h _ (C.put nv m (C.Fa.put3 m.keep (eI.add hs hS)) rfl rfl) (m.mw.xf fun Z e=>.inr (.inr (.inl e)))
theorem Cy.pushNm (C:Cy prog w A env own sB GB l st s₀ G₀ ρ s G F seen){x:Nm}{p1 p2 p3 p4 p5:Pos}{Q:Flow→Shared→Prop}(hp:(p2.endLine==p4.line)=true)(hx:ρ "node" =some (.str x))(hl:F.n1.length≤1000)
  (h:∀s',Cy prog w A env own sB GB l st s₀ G₀ ρ s' G {F with n1:=F.n1++ [x]} seen→Mw (Xf env own F.b) (aC (env::l)) s G s' G→Q .next s'):wpAny (model prog w) A (exec (.Expr (.Call (.Attribute (.Name "stack" p1) "append" p2) [.Name "node" p3] [] p4) p5) env) Q E s:=by
 refine aA C.Fa.sa fun vs1 n1 q1 r1=>?_;refine wpAny_Expr_any (wpAny_Call_append rfl (by rfl) hp rfl (au (a:=F.b.sa) C.V C.stack ⟨F.b.sa,_,rfl,⟨_,n1,q1,rfl,rfl,rfl⟩,nm (d:=.str x) C.V hx fun v rv=>?_⟩)) (cq C.V)
 refine xe rv.str_i fun Z z5=>?_;subst z5
 refine mi C.Fa.sa hl fun h' l' sb hz=>?_;have m:=C.one i7 sb (Nat.le_refl _);exact h _ (C.put i7 m (C.Fa.put1 m.keep l') rfl rfl) (m.mw.xf fun Z e=>.inl e)
theorem Cy.pushIdx (hs:aD sc env)(hB:Cx (KP w.params) mg mb sB)(hg:aY sc "len" =true)(C:Cy prog w A env own sB GB l st s₀ G₀ ρ s G F seen){x:Nm}{p1 p2 p3 p4 p5 p6 p7:Pos}{Q:Flow→Shared→Prop}(hx:ρ "node" =some (.str x))(hl:F.n1.length≤1000)(hl4:F.n4.length≤1000)(nd:(F.n4.map (·.1)).Nodup)(hn:x∉F.n4.map (·.1))
  (hsw:swapsWithSole [.Subscript (.Name "node2stacki" p1) (.Name "node" p2) p3] (.Call (.Name "len" p4) [.Name "stack" p5] [] p6) p7.line env=pure false)
  (h:∀s',Cy prog w A env own sB GB l st s₀ G₀ ρ s' G {F with n4:=F.n4++ [(x,.int (F.n1.length:Nat))]} seen→Mw (Xf env own F.b) (aC (env::l)) s G s' G→Q .next s'):wpAny (model prog w) A (exec (.Assign [.Subscript (.Name "node2stacki" p1) (.Name "node" p2) p3] (.Call (.Name "len" p4) [.Name "stack" p5] [] p6) p7) env) Q E s:=by
 refine aA C.Fa.sa fun vs1 n1 q1 r1=>?_;have hv:vs1.length=F.n1.length:=r1.length.trans (List.length_map ..);refine bP (wpAny_Call_Name_kw (cE (C.V.cx hB) hs hg (hB.blt ("len",.builtin "len") (List.mem_of_getElem? (i:=0) rfl)) (iK (by nofun) rfl (au (a:=F.b.sa) C.V C.stack (PyProof.Rows.len_list (items:=vs1.toArray) ⟨_,q1,rfl,n1,rfl⟩ (by simp;lia) (lF ?_)))))) hsw rfl rfl
 have t:=ae.toks C.V.inn (s.toks+2) (Nat.le_add_right _ _);have C2:=C.grew t;refine au (a:=F.b.na) C2.V C2.n2s (nm (d:=.str x) C2.V hx fun v rv=>?_)
 refine xe rv.str_i fun Z z6=>?_;subst z6
 refine qz (ks:=F.n4) (dv:=.int (F.n1.length:Nat)) C2.Fa.na nd hn hl4 (by rw [List.size_toArray,hv];exact .int _ _) fun h' d' sb=>?_
 have m:=C2.one i8 sb (Nat.le_succ _);exact h _ (C2.put i8 m (C2.Fa.put4 m.keep d') rfl rfl) ((ae.mv t).mw.trans (m.mw.xf fun Z e=>.inr (.inr (.inr e))))
theorem Cy.pushIt (rm:am k A)(hs:aD sc env)(hB:Cx (KP w.params) mg mb sB)(hg:aY sc "iter" =true)(C:Cy prog w A env own sB GB l st s₀ G₀ ρ s G F seen){x:Nm}{p1 p2 p3 p4 p5 p6 p7 p8 p9 pa pb:Pos}{Q:Flow→Shared→Prop}(hp:(p2.endLine==pa.line)=true)(hx:ρ "node" =some (.str x))(hN:x∈st.nms)(hl:F.n2.length≤1000)
  (h:∀s' G' f,Cy prog w A env own sB GB l st s₀ G₀ ρ s' G' {F with n2:=F.n2++ [f.mw],stk:=F.stk++ [f]} seen→Mw (Xf env own F.b) (aC (env::l)) s G s' G'→f.nm=x→f.p=0→s.heap.objs.size≤f.it→Q .next s'):
  wpAny (model prog w) A (exec (.Expr (.Call (.Attribute (.Name "itstack" p1) "append" p2) [.Attribute (.Call (.Name "iter" p3) [.Attribute (.Subscript (.Name "n2i" p4) (.Name "node" p5) p6) "successors" p7] [] p8) "__next__" p9] [] pa) pb) env) Q E s:=by
 refine ah (List.mem_map.mp hN) fun nd hnd hnm=>?_;refine xe C.Fa.ia fun n2 q2=>?_;refine wpAny_Expr_any (wpAny_Call_append rfl (by rfl) hp rfl (au (a:=F.b.ia) C.V C.itstack ⟨F.b.ia,_,rfl,⟨_,n2,q2,rfl,rfl,rfl⟩,?_⟩)) (cq C.V)
 refine bB rfl (wpAny_Call_Name_kw (cE (C.V.cx hB) hs hg (hB.blt ("iter",.builtin "iter") (List.mem_of_getElem? (i:=11) rfl)) (iK (by nofun) rfl (bB rfl (mf (st:=st) rm hs hB C.V C.S C.n2i hx rfl hnd hnm fun s23 g23 V23=>?_)))))
 have C23:=C.grew g23;have hn:=C23.S.at_.nds nd hnd;refine oz (V23.cx hB).kin hn ?_;refine aA hn.2.2 fun vs5 n5 q5 r5=>?_;refine uC (s:={s23 with toks:=s23.toks+1}) q5 rfl rfl ?_
 have i25:(s23.heap.push (dP nd.la 0)).get? s23.heap.objs.size=some (dP nd.la 0):=Heap.get?_push_size _ rfl;refine oB (s:={s23 with heap:=s23.heap.push (dP nd.la 0),toks:=s23.toks+1}) i25 ?_
 have p25:ae s23 G {s23 with heap:=s23.heap.push (dP nd.la 0),toks:=s23.toks+1} G:=ae.push V23.inn _ _ (Nat.le_succ _)
 have p26:=ae.alloc p25.inn (gA s23.heap.objs.size) (s23.toks+2) rfl (Nat.le_succ _);have g:=p25.trans p26;have it:kD _ (G.add (s23.heap.push (dP nd.la 0)).objs.size (gA s23.heap.objs.size)) st ⟨x,(s23.heap.push (dP nd.la 0)).objs.size,s23.heap.objs.size,nd.la,0⟩:=⟨Kn.add_self,p26.keep _ _ i25,nd,hnd,hnm,rfl⟩;have hg:G.add (s23.heap.push (dP nd.la 0)).objs.size (gA s23.heap.objs.size) s23.heap.objs.size=none:=by
  unfold Kn.add;rw [if_neg (by rw [Heap.size_push];exact Nat.ne_of_lt (Nat.lt_succ_self _))]
  exact Kn.none_ge V23.inn (Nat.le_refl _)
 have C26:=C23.grew g;refine y5 C26.Fa.ia hl fun h' ra sb=>?_;have m:=C26.one hH sb (Nat.le_refl _);have lt:∀{a},cz F a→a≠s23.heap.objs.size:=fun f=>Nat.ne_of_lt (C23.lt f)
 refine h _ _ ⟨x,(s23.heap.push (dP nd.la 0)).objs.size,s23.heap.objs.size,nd.la,0⟩ (C.step (((ae.mv g23).mw.trans (ae.mv g).mw).trans m.mw) (fun Z e=>e▸hH) ((C26.Fa.put2 m.keep ra).push (it.of (.refl _) fun Z e=>m.keep _ _ (Ne.symm (lt hH)) e) fun g hg=>lt (i9 hg)) rfl fun f hf=>(List.mem_append.mp hf).elim (fun z=>.inl ⟨f,z,rfl⟩) fun z=>.inr (by rw [List.mem_singleton.mp z];exact⟨g23.size,hg⟩))
  (((ae.mv g23).mw.trans (ae.mv g).mw).trans (m.mw.xf fun Z e=>.inr (.inl e))) rfl rfl g23.size
end
section
variable {prog:Program}{w:World}{mg mb:Str→Option Value}{k:Nat}{A:Around}{env:Env}{own:List (Str×Addr)}{s s' s₀ sB:Shared}{G G' G₀ GB:Kn}{E:Value→Shared→Prop}{sc:aq}{ρ:Ro}{st:Sr}{F F':FS}{seen seen':List Nm}{l:List Env}
theorem aJ {ρ ρ':Ro}{x:Str}{d:D}(h:ρ x=some d)(h':∀y d',ρ' y=some d'→ρ y=some d'):∀y d',ad ρ' x d y=some d'→ρ y=some d':=fun y d' e=>
 (qD e).elim (fun z=>by rw [z.1,←z.2];exact h) fun z=>h' y d' z.2
theorem gC {ρ:Ro}:∀y d',aT y=some d'→ρ y=some d':=fun y d' e=>(aa e).elim
noncomputable def Eo (b:FB)(x:Nm)(L:List D)(ks:Ks):Ro:=ad (ad (ad (ad (ad aT "node" (.str x)) "stack" (.adr b.sa)) "node2stacki" (.adr b.na)) "stack" (.list L)) "node2stacki" (.dict ks)
theorem Cy.retC {b:FB}{stk:List Fm}(rm:am k A)(hs:aD sc env)(hB:Cx (KP w.params) mg mb sB)(C:Cy prog w A env own sB GB l st s₀ G₀ ρ s G (FS.of b stk) seen){x:Nm}{e:PySem.Expr}{Q:Value→Shared→Prop}(hx:ρ "node" =some (.str x))(nd:(stk.map (·.nm)).Nodup)(hk:x∈stk.map (·.nm))(hl:stk.length≤900)
  (he:R0.ev sc (Eo b x ((stk.map (·.nm)).map .str) (cT 0 stk)) e=vj ((stk.map (·.nm)).map .str) (cT 0 stk) x)
  (h:∀s' c vs n,ae s G s' G→s'.heap.get? c=some (aB vs n)→vs≠ []→vs.length≤1000→Q (.ref c) s'):wpAny (model prog w) A (eval e env) Q E s:=by
 refine aR (xX hk hl) fun ds e1 e2 e3=>?_;have Vw:=C.V.weaker (aJ C.n2s (aJ C.stack (aJ hx gC)));refine eN (C.Fa.sa.see C.V.inn (C.fo _ i7).g) fun o1 Z le1 In1 kT=>?_;have ve:=iL (x:= "stack") Vw.plain.env le1 (by kernel_rfl) kT
 have nna:G.add b.sa o1 b.na=none:=(if_neg (C.Fa.k4.ne C.Fa.k1 rfl)).trans (C.fo _ i8).g;refine eN (C.Fa.na.see In1 nna C.Fa.sys (by rw [show(FS.of b stk).n4=cT 0 stk from rfl,dB];exact nd)) fun o2 Z le2 In2 nR=>?_
 have ve2:=iL (x:= "node2stacki") (P:=w.params) ⟨ve,C.V.plain.env.kind,In1⟩ le2 (by kernel_rfl) nR
 refine bI ((fS prog w (KP w.params) mg mb k).ev sc _ e (.list ds) (he.trans e1) A env s _ _ rm (C.V.cx hB) hs ⟨ve2,C.V.plain.env.kind,In2⟩) fun v s' G' g r=>?_;refine ck r.list_i fun c n vs z1 q rr=>?_;subst z1
 exact h s' c vs n (g.other C.V.inn) (g.inn _ _ q) (fun z=>e2 (List.length_eq_zero_iff.mp (rr.length.symm.trans (congrArg List.length z)))) (Nat.le_trans (Nat.le_of_eq rr.length) e3)
theorem FS.adv {b:FB}{r:List Fm}{f:Fm}{q:Nat}:FS.of b (r++ [{f with p:=q}])={FS.of b (r++ [f])with stk:=r++ [{f with p:=q}]}:=by rw [FS.snoc,FS.snoc]
theorem Cy.itSu (C:Cy prog w A env own sB GB l st s₀ G₀ ρ s G F seen){f:Fm}(hf:f∈F.stk):∃vs n,s.heap.get? f.la=some (aB vs n)∧ai w.params bW vs ((st.su f.nm).map .str):=by
 refine aR ((C.Fa.it f hf).nd) fun nd hnd hnm hla=>?_;refine aA ((C.S.at_.nds nd hnd).2.2) fun vs n q r=>?_;exact⟨vs,n,hla▸q,by rw [←hnm,w7 C.S.wf hnd];exact r⟩
theorem k6 {r:List Fm}{f:Fm}(n:((r++ [f]).map (·.it)).Nodup)(g:Fm)(hg:g∈r):g.it≠f.it:=by
 rw [List.map_append,List.nodup_append]at n;exact n.2.2 g.it (List.mem_map_of_mem hg) f.it (List.mem_singleton.mpr rfl)
theorem vS {α:Type}{r:List α}{f:α}:(r++ [f]).length=r.length+1:=List.length_append
theorem jV {r:List Fm}{f:Fm}:f∈r++ [f]:=List.mem_append_right _ (List.mem_singleton.mpr rfl)
theorem Cy.nextSome {b:FB}{r:List Fm}{f:Fm}{y:Nm}(rm:am k A)(hs:aD sc env)(hB:Cx (KP w.params) mg mb sB)(so:be sc env own)(C:Cy prog w A env own sB GB l st s₀ G₀ ρ s G (FS.of b (r++ [f])) seen){p1 p2 p3 p4 p5 p6 p7:Pos}{kk:Nat}{Q:Flow→Shared→Prop}(hl:(r++ [f]).length≤1000)(hy:(st.su f.nm)[f.p]? =some y)(hst:bF sc "node" =true)
  (hsw:swapsWithSole [.Name "node" p1] (.Call (.Subscript (.Name "itstack" p2) (.UnaryOp .USub (.Constant (.int 1) kk p3) p4) p5) [] [] p6) p7.line env=pure false)
  (h:∀s',Cy prog w A env own sB GB l st s₀ G₀ (ad ρ "node" (.str y)) s' G (FS.of b (r++ [{f with p:=f.p+1}])) seen→Mw (fun a=>Mine env own a∨a=f.it) (aC (env::l)) s G s' G→Q .next s'):
  wpAny (model prog w) A (exec (.Assign [.Name "node" p1] (.Call (.Subscript (.Name "itstack" p2) (.UnaryOp .USub (.Constant (.int 1) kk p3) p4) p5) [] [] p6) p7) env) Q E s:=by
 refine bP (oU (C.last rm hs hB hl fun s2 C2 g2=>?_)) hsw rfl rfl
 have hf:f∈(FS.of b (r++ [f])).stk:=jV;have it:=C2.Fa.it f hf;refine aA (C2.itSu hf) fun vs n q rd=>?_;refine ah (rd.get (k:=f.p) (d:=.str y) (by rw [List.getElem?_map,hy];rfl)) fun v hv rv=>?_
 refine xe rv.str_i fun t z2=>?_;subst z2
 have humw:=C2.V.inn _ _ it.mw;refine jM humw (tI humw it.it q rfl (List.getElem?_toArray.trans hv) fun h3 i3 sb=>?_)
 have m3:=C2.one (i9 hf) sb (Nat.le_refl _);have itn:((r++ [f]).map (·.it)).Nodup:=C2.Fa.itn;have C3:Cy prog w A env own sB GB l st s₀ G₀ ρ {s2 with heap:=h3} G (FS.of b (r++ [{f with p:=f.p+1}])) seen:=by
  refine C2.step m3.mw (fun Z e=>e▸i9 hf) (FS.adv▸C2.Fa.put5 hf (fun b o Z=>m3.keep b o) (fun g hg=>?_) ?_) rfl fun g hg=>.inl ?_
  ·rcases List.mem_append.mp hg with hg |hg
   ·exact .inl ⟨List.mem_append_left _ hg,k6 itn g hg⟩
   ·rw [List.mem_singleton.mp hg];exact .inr ⟨it.mw,i3,it.nd⟩
  ·rw [List.map_append]at itn;rw [List.map_append];exact itn
  ·rcases List.mem_append.mp hg with hg |hg
   ·exact⟨g,List.mem_append_left _ hg,rfl⟩
   ·rw [List.mem_singleton.mp hg];exact⟨f,hf,rfl⟩
 refine Mine.sto (d:=.str y) rm.hh so C3.V (.str _ _) hst fun s4 V4 m4=>?_;exact h s4 (C3.sto V4 m4 ⟨rfl,rfl,rfl,rfl,rfl⟩) (((ae.mv g2).mw.trans (m3.mw.weak (fun Z e=>.inr e) fun Z z=>z)).trans (m4.mw.weak (fun Z e=>.inl e) fun Z z=>z))
theorem Cy.around {A':Around}(C:Cy prog w A env own sB GB l st s₀ G₀ ρ s G F seen)(e:A'.frames=A.frames):Cy prog w A' env own sB GB l st s₀ G₀ ρ s G F seen:={C with T:=⟨e.trans C.T.fr,C.T.ok⟩}
theorem Cy.delTop (C:Cy prog w A env own sB GB l st s₀ G₀ ρ s G F seen){xs:List Nm}{x:Nm}{ks:Ks}{dv:D}{q1 q2 q3 q4 q5 q6:Pos}{Q:Flow→Shared→Prop}(hp:(q3.endLine==q4.line)=true)(h1:F.n1=xs++ [x])(h4:F.n4=ks++ [(x,dv)])(nd:(F.n4.map (·.1)).Nodup)(hl:xs.length≤1000)(hl4:ks.length≤1000)
  (h:∀s',Cy prog w A env own sB GB l st s₀ G₀ ρ s' G {F with n1:=xs,n4:=ks} seen→Mw (Xf env own F.b) (aC (env::l)) s G s' G→Q .next s'):
  wpAny (model prog w) A (exec (.Delete [.Subscript (.Name "node2stacki" q1) (.Call (.Attribute (.Name "stack" q2) "pop" q3) [] [] q4) q5] q6) env) Q E s:=by
 have sa:=C.Fa.sa;rw [h1]at sa;have k1:(∃o,s.heap.get? F.b.sa=some o∧o.cls=.type "list")∧∃o,s.heap.get? F.b.sa=some o∧o.dict=none:=by refine aA C.Fa.sa fun Z Z e Z=>?_;exact⟨⟨_,e,rfl⟩,_,e,rfl⟩
 refine yN (au (a:=F.b.na) C.V C.n2s (wpAny_Call_method_lateS rfl (by rfl) hp (au (a:=F.b.sa) C.V C.stack ⟨"list", "list.pop",PySem.F.plainAttrs_list,PySem.F.slot_list_pop,PySem.F.type_list_pop,k1.1,fun b hb=>by obtain rfl:=Value.ref.inj hb;exact k1.2,?_⟩)))
 refine yb sa hl fun h5 t5 l5 sb5=>?_;have m5:=C.one i7 sb5 (Nat.le_refl _);have C5:=C.put i7 m5 (C.Fa.put1 m5.keep l5) rfl rfl;have na:=C5.Fa.na;have nd':=nd;rw [show({F with n1:=xs}:FS).n4=F.n4 from rfl,h4]at na
 rw [h4]at nd';refine yO (s:={s with heap:=h5}) na nd' hl4 fun h6 d6 sb6=>?_
 have m6:=C5.one i8 sb6 (Nat.le_succ _);exact h _ (C5.put i8 m6 (C5.Fa.put4 m6.keep d6) rfl rfl) ((m5.mw.xf fun Z e=>.inl e).trans (m6.mw.xf fun Z e=>.inr (.inr (.inr e))))
theorem Cy.popIt (C:Cy prog w A env own sB GB l st s₀ G₀ ρ s G F seen){rs:List Addr}{m:Addr}{q7 q8 q9 r1:Pos}{Q:Flow→Shared→Prop}(hp:(q8.endLine==q9.line)=true)(h2:F.n2=rs++ [m])(hl:rs.length≤1000)
  (h:∀s',Cy prog w A env own sB GB l st s₀ G₀ ρ s' G {F with n2:=rs} seen→Mw (Xf env own F.b) (aC (env::l)) s G s' G→Q .next s'):
  wpAny (model prog w) A (exec (.Expr (.Call (.Attribute (.Name "itstack" q7) "pop" q8) [] [] q9) r1) env) Q E s:=by
 have ia:=C.Fa.ia;rw [h2]at ia;have k1:(∃o,s.heap.get? F.b.ia=some o∧o.cls=.type "list")∧∃o,s.heap.get? F.b.ia=some o∧o.dict=none:=by obtain⟨_,e⟩:=C.Fa.ia;exact⟨⟨_,e,rfl⟩,_,e,rfl⟩
 refine wpAny_Expr_any (wpAny_Call_method_lateS rfl (by rfl) hp (au (a:=F.b.ia) C.V C.itstack ⟨"list", "list.pop",PySem.F.plainAttrs_list,PySem.F.slot_list_pop,PySem.F.type_list_pop,k1.1,fun b hb=>by obtain rfl:=Value.ref.inj hb;exact k1.2,?_⟩)) (cq C.V)
 refine ya ia hl fun h7 r7 sb7=>?_;have m7:=C.one hH sb7 (Nat.le_refl _);exact h _ (C.put hH m7 (C.Fa.put2 m7.keep r7) rfl rfl) (m7.mw.xf fun Z e=>.inr (.inl e))
theorem Cy.tryIt {b:FB}{r:List Fm}{f:Fm}(rm:am k A)(hs:aD sc env)(hB:Cx (KP w.params) mg mb sB)(so:be sc env own)(C:Cy prog w A env own sB GB l st s₀ G₀ ρ s G (FS.of b (r++ [f])) seen){p1 p2 p3 p4 p5 p6 p7 p8 p9 q1 q2 q3 q4 q5 q6 q7 q8 q9 r1 r2 r3:Pos}{kk:Nat}{Q:Flow→Shared→Prop}(hl:(r++ [f]).length≤900)(hst:bF sc "node" =true)(hg:aY sc "StopIteration" =true)
  (hsw:swapsWithSole [.Name "node" p1] (.Call (.Subscript (.Name "itstack" p2) (.UnaryOp .USub (.Constant (.int 1) kk p3) p4) p5) [] [] p6) p7.line env=pure false)(hp1:(q3.endLine==q4.line)=true)(hp2:(q8.endLine==q9.line)=true)(nd:((r++ [f]).map (·.nm)).Nodup)
  (h1:∀y s',(st.su f.nm)[f.p]? =some y→Cy prog w A env own sB GB l st s₀ G₀ (ad ρ "node" (.str y)) s' G (FS.of b (r++ [{f with p:=f.p+1}])) seen→Mw (fun a=>Xf env own b a∨a=f.it) (aC (env::l)) s G s' G→Q .brk s')
  (h2:∀s',(st.su f.nm)[f.p]? =none→Cy prog w A env own sB GB l st s₀ G₀ ρ s' G (FS.of b r) seen→Mw (fun a=>Xf env own b a∨a=f.it) (aC (env::l)) s G s' G→Q .next s'):
  wpAny (model prog w) A (exec (.Try [.Assign [.Name "node" p1] (.Call (.Subscript (.Name "itstack" p2) (.UnaryOp .USub (.Constant (.int 1) kk p3) p4) p5) [] [] p6) p7,.Break p8] [.ExceptHandler (some (.Name "StopIteration" p9)) none [.Delete [.Subscript (.Name "node2stacki" q1) (.Call (.Attribute (.Name "stack" q2) "pop" q3) [] [] q4) q5] q6,.Expr (.Call (.Attribute (.Name "itstack" q7) "pop" q8) [] [] q9) r1] r2] [] [] r3) env) Q E s:=by
 refine wpAny_Try_except ?_;have hl1:(r++ [f]).length≤1000:=Nat.le_trans hl (by decide)
 cases hy:(st.su f.nm)[f.p]? with
 |some y=>exact wpAny_execs_cons (C.nextSome rm hs hB so hl1 hy hst hsw fun s' C' m=>wpAny_execs_cons (wpAny_Break (h1 y s' hy C' (m.weak (fun Z z=>z.imp .inl id) fun Z z=>z))))
 |none=>
  refine wpAny_execs_cons (bP (oU (C.last rm hs hB hl1 fun s2 C2 g2=>?_)) hsw rfl rfl)
  have hf:f∈(FS.of b (r++ [f])).stk:=jV;have it:=C2.Fa.it f hf;refine aA (C2.itSu hf) fun vs n q rd=>?_;have hlr:r.length≤1000:=Nat.le_trans (Nat.le_succ _) (Nat.le_trans (Nat.le_of_eq vS.symm) hl1);have hx:vs.toArray[f.p]? =none:=List.getElem?_toArray.trans (List.getElem?_eq_none (Nat.le_trans (Nat.le_of_eq (rd.length.trans (List.length_map ..))) (List.getElem?_eq_none_iff.mp hy)));have humw:=C2.V.inn _ _ it.mw;have fit:=C2.fo _ (i9 hf);refine jM humw (vE rm.hh humw it.it q rfl hx fun h3 e te ex he hz hsz=>?_)
  refine Bx (l:=l) (it:=f.it) (t:=te) hB C2.V.up C2.V.inn C2.T hs hg rfl ⟨fit.g,Nat.le_trans C2.sz fit.sz⟩ ⟨_,_,it.it,rfl⟩ (fun b o n q=>ex b o n q) he hz ⟨h3,rfl⟩ hsz fun s4 E4 m4=>?_
  have itn:((r++ [f]).map (·.it)).Nodup:=C2.Fa.itn;have itn':=itn;rw [List.map_append,List.nodup_append]at itn';have C4:=(C2.step m4 (fun Z e=>e▸i9 hf) (C2.Fa.put5 hf (fun b o fb n e=>m4.keep b o n (C2.fo b fb).fr e) (stk:=r) (fun g hg=>.inl ⟨List.mem_append_left _ hg,k6 itn g hg⟩) itn'.1) rfl fun g hg=>.inl ⟨g,List.mem_append_left _ hg,rfl⟩).around (A':=A.mark (some (.ref e))) rfl
  refine wpAny_execs_cons (C4.delTop hp1 (List.map_append ..) (jD f r 0) (by rw [show({FS.of b (r++ [f])with stk:=r}:FS).n4=cT 0 (r++ [f])from rfl,dB];exact nd) (by rw [List.length_map];exact hlr) (by rw [oy];exact hlr) fun s5 C5 m5=>?_)
  refine wpAny_execs_cons (C5.popIt hp2 (List.map_append ..) (by rw [List.length_map];exact hlr) fun s6 C6 m6=>wpAny_execs_nil (h2 s6 hy (C6.around rfl) ?_))
  exact(((ae.mv g2).mw.trans (m4.weak (fun Z e=>.inr e) fun Z z=>z)).trans (m5.weak (fun Z z=>.inl z) fun Z z=>z)).trans (m6.weak (fun Z z=>.inl z) fun Z z=>z)
end
noncomputable def si:Stmt:=bh (bj 168) 5
noncomputable def wo:Stmt:=bh (j6 si) 1
noncomputable def EF:Stmt:=bh (j6 wo) 0
noncomputable def EE:Stmt:=bh (j6 wo) 1
structure qH (w:World)(mg mb:Str→Option Value) (k:Nat)(A:Around)(env:Env)(own:List (Str×Addr))(sB:Shared)(st:Sr):Prop where
 rm:am k A
 hs:aD (an 168).names env
 so:be (an 168).names env own
 hB:Cx (KP w.params) mg mb sB
 hcl:∀x y,y∈st.su x→y∈st.nms
 hsl:∀x∈st.nms,(st.su x).length≤900
 hnl:st.nms.length≤400
section
variable {prog:Program}{w:World}{mg mb:Str→Option Value}{k:Nat}{A:Around}{env:Env}{own:List (Str×Addr)}{s s' s₀ s₁ sB:Shared}{G G' G₀ G₁ GB:Kn}{E:Value→Shared→Prop}{ρ:Ro}{st:Sr}{b:FB}{x:Nm}{seen:List Nm}{l:List Env}{n:Nat}
theorem d0.len {su:Su}{N:List Nm}{done sn:List Nm}{stk:List Fm}(D:d0 su N (fZ stk) sn done)(h:N.length≤400):stk.length≤400:=by
 have hst:=D.stk;have:=ch (m:=N) hst.1 fun z hz=>D.sub z ((D.mem z).mpr (.inl ((hst.2 z).mp hz)))
 rw [List.length_map]at this;exact Nat.le_trans this h
theorem rP {a b c:Nat}(h:a=b)(k:b≤c):a≤c:=h▸k
theorem vW {α:Type}{r:List α}{f:α}:f∈r++ [f]:=List.mem_append_right _ (List.mem_singleton.mpr rfl)
theorem yR (X:qH w mg mb k A env own sB st){n2:Nat}{Q:Flow→Shared→Prop}(c:CR prog w A env own sB GB l st s₀ b x seen s₁ G₁ n n2 s)
  (h1:∀s' n',n'<n→CW prog w A env own sB GB l st s₀ b x seen s₁ G₁ n' s'→Q .next s')
  (h2:∀s' ρ G sn dn,Cy prog w A env own sB GB l st s₀ GB ρ s' G (FS.of b []) sn→d0 st.su st.nms [] sn dn→Mw (Xf env own b) (aC (env::l)) s₁ G₁ s' G→x∈sn→(∀z∈seen,z∈sn)→Q .brk s'):
  wpAny (model prog w) A (exec EE env) Q E s:=by
 refine wpAny_While (codeAny_whileLoop (fun n2 s'=>CR prog w A env own sB GB l st s₀ b x seen s₁ G₁ n n2 s') (fun n2 s' hI=>?_) _ c)
 obtain⟨ρ,G,stk,sn,dn,C,D,R,e2,hn,m,hx,mono,its⟩:=hI;have hst:=D.stk;have hlen:=D.len X.hnl;refine C.truth (Nat.le_trans hlen (by decide)) fun s2 C2 g2=>?_
 have m2:=m.trans (ae.mv g2).mw;by_cases hnil:stk=[]
 ·subst hnil;exact wpAny_execs_cons (wpAny_Break (h2 s2 ρ G sn dn C2 D m2 hx mono))
 ·refine aV (ge stk fun z=>hnil (List.length_eq_zero_iff.mp z)) fun r f hrf=>?_
  subst hrf;have e1:(!(r++ [f]).isEmpty)=true:=by cases r<;>rfl
  rw [e1];rw [gE]at D R e2;refine wpAny_execs_cons (C2.tryIt X.rm X.hs X.hB X.so (Nat.le_trans hlen (by decide)) (by kernel_rfl) (by kernel_rfl) rfl rfl rfl hst.1 (fun y s' hy C' m'=>?_) (fun s' hy C' m'=>wpAny_execs_nil ?_))
  all_goals have mm:=m2.fresh_trans m' fun a z=>z.elim .inl fun e=>.inr (by rw [e];exact its f jV)
  ·refine h1 s' (mu st.su st.nms sn ((f.nm,f.p+1)::fZ r)) (Nat.lt_of_lt_of_le (AY hy) (e2▸hn)) ⟨_,G,_,sn,dn,y,C',by kernel_rfl,by rw [gE];exact D.adv,by rw [gE];exact CL R hy,X.hcl _ _ (List.mem_of_getElem? hy),by rw [gE],mm,.inl hx,mono,fun g hg=>?_⟩
   rcases List.mem_append.mp hg with hg |hg
   ·exact its g (List.mem_append_left _ hg)
   ·rw [List.mem_singleton.mp hg];exact its f jV
  ·refine xa (D.pop R hy) fun DN RN=>?_;exact⟨_,e2▸tM,.mk ρ G r sn (dn++ [f.nm]) C' DN RN rfl (Nat.le_trans (Nat.le_of_lt tM) (e2▸hn)) mm hx mono fun g hg=>its g (List.mem_append_left _ hg)⟩
theorem Dt (X:qH w mg mb k A env own sB st){Q:Flow→Shared→Prop}(c:CW prog w A env own sB GB l st s₀ b x seen s₁ G₁ n s)
  (hr:∀s' G' c vs m,Mw (Mine env own) (aC (env::l)) s₀ GB s' G'→s'.heap.get? c=some (aB vs m)→vs≠ []→vs.length≤1000→ki st.su st.nms→Q (.ret (.ref c)) s')
  (hc:∀s' n2,CR prog w A env own sB GB l st s₀ b x seen s₁ G₁ n n2 s'→Q .next s'):wpAny (model prog w) A (exec EF env) Q E s:=by
 obtain⟨ρ,G,stk,sn,dn,x',C,hx',D,L,hN,hn,m,hx,mono,its⟩:=c;have hst:=D.stk;have hlen:=D.len X.hnl;refine wpAny_If (C.inSeen hx' fun s1 C1 g1=>?_)
 by_cases hs:x'∈sn
 ·refine Eq.mpr (if_pos (decide_eq_true hs)) (wpAny_execs_cons (wpAny_If (C1.inN2s hx' hst.1 fun s2 C2 g2=>?_)))
  by_cases hk:x'∈stk.map (·.nm)
  ·exact Eq.mpr (if_pos (decide_eq_true hk)) (wpAny_execs_cons (wpAny_Return_some (C2.retC X.rm X.hs X.hB hx' hst.1 hk (Nat.le_trans hlen (by decide)) (by kernel_rfl) fun s' c vs m' g e ne hl=>hr s' G c vs m' (C2.mv.trans (ae.mv g).mw) e ne hl (D.cyc L ((hst.2 x').mp hk)))))
  ·refine Eq.mpr (if_neg fun z=>hk (of_decide_eq_true z)) (wpAny_execs_nil (wpAny_execs_nil (hc s2 n ⟨ρ,G,stk,sn,dn,C2,D,dM L (((D.mem x').mp hs).resolve_left fun z=>hk ((hst.2 x').mpr z)),hn,Nat.le_refl _,m.trans (ae.mv (g1.trans g2)).mw,hx.elim id fun e=>e▸hs,mono,its⟩)))
 ·have hsn:sn.length≤400:=Nat.le_trans (ch D.sn D.sub) X.hnl;have ln:(stk.map (·.nm)).length≤1000:=by rw [List.length_map];exact Nat.le_trans hlen (by decide)
  refine Eq.mpr (if_neg fun z=>hs (of_decide_eq_true z)) (wpAny_execs_cons (C1.addSeen X.hB rfl hx' hs hsn fun s2 C2 m2=>?_))
  refine wpAny_execs_cons (C2.pushIt X.rm X.hs X.hB (by kernel_rfl) rfl hx' hN (rP (List.length_map ..) (Nat.le_trans hlen (by decide))) fun s3 G3 f C3 m3 hf1 hf2 hf3=>?_)
  refine wpAny_execs_cons (C3.pushIdx X.hs X.hB (by kernel_rfl) hx' ln (rP (oy stk 0) (Nat.le_trans hlen (by decide))) ((dB stk 0).symm▸hst.1) ((dB stk 0).symm▸fun z=>hs ((D.mem x').mpr (.inl ((hst.2 x').mp z)))) rfl fun s4 C4 m4=>?_)
  refine wpAny_execs_cons (C4.pushNm rfl hx' ln fun s5 C5 m5=>wpAny_execs_nil ?_)
  obtain⟨DN,RN⟩:=D.push hs hN L;have fr:fZ (stk++ [f])=(x',0)::fZ stk:=by rw [gE,hf1,hf2]
  have e:FS.of b (stk++ [f])=⟨b,stk.map (·.nm)++ [x'],stk.map (·.mw)++ [f.mw],cT 0 stk++ [(x',.int ((stk.map (·.nm)).length:Nat))],stk++ [f]⟩:=by rw [FS.snoc,hf1,List.length_map]
  refine hc s5 _ ⟨ρ,G3,stk++ [f],sn++ [x'],dn,e▸C5,fr▸DN,fr▸RN,rfl,?_,((((m.trans (ae.mv g1).mw).trans m2).trans m3).trans m4).trans m5,hx.elim (List.mem_append_left _) fun e=>e▸vW,fun z hz=>List.mem_append_left _ (mono z hz),fun g hg=>?_⟩
  ·rw [fr,hn];exact Nat.le_of_lt (yq X.hsl D hs hN)
  ·rcases List.mem_append.mp hg with hg |hg
   ·exact its g hg
   ·rw [List.mem_singleton.mp hg];exact Nat.le_trans (Nat.le_trans m.size (Nat.le_trans g1.size m2.size)) hf3
theorem yQ (X:qH w mg mb k A env own sB st){Q:Flow→Shared→Prop}(c:CW prog w A env own sB GB l st s₀ b x seen s₁ G₁ n s)
  (hr:∀s' G' c vs m,Mw (Mine env own) (aC (env::l)) s₀ GB s' G'→s'.heap.get? c=some (aB vs m)→vs≠ []→vs.length≤1000→ki st.su st.nms→Q (.ret (.ref c)) s')
  (h2:∀s' ρ G sn dn,Cy prog w A env own sB GB l st s₀ GB ρ s' G (FS.of b []) sn→d0 st.su st.nms [] sn dn→Mw (Xf env own b) (aC (env::l)) s₁ G₁ s' G→x∈sn→(∀z∈seen,z∈sn)→Q .next s'):
  wpAny (model prog w) A (exec wo env) Q E s:=by
 refine wpAny_While (codeAny_whileLoop (fun n s'=>CW prog w A env own sB GB l st s₀ b x seen s₁ G₁ n s') (fun n s' hI=>?_) _ c)
 refine wpAny_isTrue_value (wpAny_Constant_bool (wpAny_truthy_bool ?_)) (by rfl)
 exact wpAny_execs_cons (Dt X hI hr fun s2 n2 c2=>wpAny_execs_cons (yR X c2 (fun s3 n' lt c3=>wpAny_execs_nil ⟨n',lt,c3⟩) h2))
end
section
variable {prog:Program}{w:World}{mg mb:Str→Option Value}{k:Nat}{A:Around}{env:Env}{own:List (Str×Addr)}{s s' s₀ s₁ sB:Shared}{G G' G₀ G₁ GB:Kn}{E:Value→Shared→Prop}{ρ:Ro}{st:Sr}{b:FB}{x:Nm}{seen:List Nm}{l:List Env}{n:Nat}{sc:aq}
theorem yP (X:qH w mg mb k A env own sB st){sn dn:List Nm}{Q:Flow→Shared→Prop}(C:Cy prog w A env own sB GB l st s₀ GB ρ s G (FS.of b []) sn)(D:d0 st.su st.nms [] sn dn)(hx:ρ "node" =some (.str x))(hN:x∈st.nms)
  (hr:∀s' G' c vs m,Mw (Mine env own) (aC (env::l)) s₀ GB s' G'→s'.heap.get? c=some (aB vs m)→vs≠ []→vs.length≤1000→ki st.su st.nms→Q (.ret (.ref c)) s')
  (h1:∀f s' ρ' G' sn' dn',f=.next∨f=.cont→Cy prog w A env own sB GB l st s₀ GB ρ' s' G' (FS.of b []) sn'→d0 st.su st.nms [] sn' dn'→Mw (Xf env own b) (aC (env::l)) s G s' G'→x∈sn'→(∀z∈sn,z∈sn')→Q f s'):wpAny (model prog w) A (execs (j6 si) env) Q E s:=by
 refine wpAny_execs_cons (wpAny_If (C.inSeen hx fun s1 C1 g1=>?_))
 by_cases hs:x∈sn
 ·exact Eq.mpr (if_pos (decide_eq_true hs)) (wpAny_execs_cons (wpAny_Continue (h1 .cont s1 ρ G sn dn (.inr rfl) C1 D (ae.mv g1).mw hs fun Z z=>z)))
 ·exact Eq.mpr (if_neg fun z=>hs (of_decide_eq_true z)) (wpAny_execs_nil (wpAny_execs_cons (yQ X ⟨ρ,G,[],sn,dn,x,C1,hx,D,trivial,hN,rfl,(Mv.refl C1.V.inn).mw,.inr rfl,fun Z z=>z,fun Z z=>(List.not_mem_nil z).elim⟩ hr fun s' ρ' G' sn' dn' C' D' m hx mono=>wpAny_execs_nil (h1 .next s' ρ' G' sn' dn' (.inl rfl) C' D' ((ae.mv g1).mw.trans m) hx mono))))
theorem gZ {o:Obj}{y:Str}{p:Pos}{Q:Unit→Shared→Prop}(hh:A.handled=none)(so:be sc env own)(V:SO w.params sB GB env own ρ s G)(S:az w.params sB G s st)(T:cj A (env::l) sB G s.heap)(ap:∀a,foot st a→¬Mine env own a)(cel:∀a∈aC (env::l),∀n,(n,a)∉own)(hf:o.isFreed=false)(hst:bF sc y=true)(hz:s₀.heap.objs.size≤s.heap.objs.size)
  (h:∀s',SO w.params sB GB env own (ad ρ y (.adr s.heap.objs.size)) s' G→az w.params sB G s' st→cj A (env::l) sB G s'.heap→Fo env own l st s₀ G s.heap.objs.size→s'.heap.get? s.heap.objs.size=some o→Mv (Mine env own) s G s' G→s.heap.objs.size<s'.heap.objs.size→Q () s'):
  wpAny (model prog w) A (assign (.Name y p) env (.ref s.heap.objs.size)) Q E {s with heap:=s.heap.push o}:=by
 have g:ae s G {s with heap:=s.heap.push o} G:=ae.push V.inn _ s.toks (Nat.le_refl _)
 have f:Fo env own l st s₀ G s.heap.objs.size:=⟨Kn.none_ge V.inn (Nat.le_refl _),aS V (Nat.le_refl _),fun f=>Nat.lt_irrefl _ (S.lt f),fun hm=>let⟨⟨_,ho,_⟩,_⟩:=T.mem hm;Nat.lt_irrefl _ (Heap.lt_size ho),hz⟩
 refine sto (d:=.adr s.heap.objs.size) hh so (V.grew g) (.adr _) hst fun s' V' m=>?_;exact h s' V' ((S.grew g).mine m ap) ((T.grew g).sto V' m cel) f (m.keep _ _ f.mine (Heap.get?_push_size _ hf)) (g.mv.trans m) (Nat.lt_of_lt_of_le (by show _<(s.heap.push o).objs.size;rw [Heap.size_push];exact Nat.lt_succ_self _) m.size)
inductive CJ (prog:Program)(w:World)(A:Around)(env:Env)(own:List (Str×Addr))(sB:Shared)(GB:Kn)(l:List Env)(st:Sr)(s₀:Shared)(b:FB) (i:Nat)(s':Shared)(G':Kn)(ρ':Ro):Prop
 |mk (sn dn:List Nm) (C:Cy prog w A env own sB GB l st s₀ GB ρ' s' G' (FS.of b []) sn) (D:d0 st.su st.nms [] sn dn) (t:∀x∈st.nms.take i,x∈sn)
theorem xP {h:Heap}{a:Addr}{led:Bool}(e:h.get? a=some {cls:=.type "set",dict:=none,data:=.set #[] 0 (.fresh 0 0 led)}):eI prog w h a []:=
 ⟨_, #[],0,.fresh 0 0 led,e,⟨rfl,rfl,rfl⟩,rfl,(fun e he=>(List.not_mem_nil he).elim),(fun k=>by simp),by decide,by cases led<;>decide,rfl⟩
theorem Bq (X:qH w mg mb k A env own sB st){Q:Flow→Shared→Prop}(C:Cy prog w A env own sB GB l st s₀ GB ρ s GB (FS.of b []) [])
  (hr:∀s' G' c vs m,Mw (Mine env own) (aC (env::l)) s₀ GB s' G'→s'.heap.get? c=some (aB vs m)→vs≠ []→vs.length≤1000→ki st.su st.nms→Q (.ret (.ref c)) s')
  (h1:∀s' G' dn,Mw (Mine env own) (aC (env::l)) s₀ GB s' G'→eV st.su dn→(∀x∈st.nms,x∈dn)→Q .next s'):wpAny (model prog w) A (exec si env) Q E s:=by
 refine eT (au (a:=st.d) C.V C.n2i ?_) (fun Z=>rfl)
 refine aA C.S.at_.dct fun es en de dr=>?_;refine⟨s,bW.add st.d (cR es en),_,mL _ X.rm.hh (iz de) Kn.add_self C.S.wf.sys (by have:=dT st;unfold Sr.dks at this;rw [this];exact C.S.wf.nms) (dr.mono (iA _)),fun It wr St s8 g8 T8 st0 hw=>?_⟩
 have C8:=C.grew (g8.other C.V.inn);have items:(st.nodes.map fun nd=>(nd.nm,D.adr nd.a)).map (fun p=>D.str p.1)=st.nms.map .str:=by unfold Sr.nms;rw [List.map_map,List.map_map];rfl
 rw [items]at T8;have wrO:∀a,wr a→¬foot st a∧¬cz (FS.of b []) a∧a∉aC (env::l)∧s₀.heap.objs.size≤a:=fun a ha=>
  ⟨fun f=>Nat.lt_irrefl _ (Nat.lt_of_lt_of_le (C.S.lt f) (hw a ha).1),fun f=>Nat.lt_irrefl _ (Nat.lt_of_lt_of_le (C.lt f) (hw a ha).1),fun f=>Nat.lt_irrefl _ (Nat.lt_of_lt_of_le (C.frlt f) (hw a ha).1),Nat.le_trans C.mv.size (hw a ha).1⟩
 have fd:foot st st.d:=.inr (.inr (.inl rfl));have YN:∀a,Xf env own b a∨a∈aC (env::l)→¬wr a∧bW.add st.d (cR es en) a=none:=by
  have dM:∀a,cz (FS.of b []) a→¬wr a∧bW.add st.d (cR es en) a=none:=fun a f=>⟨fun z=>(wrO a z).2.1 f,gr fun z=>(C.fo a f).ft (z▸fd)⟩
  rintro a ((h |h |h |h |h) |h)
  ·exact⟨fun z=>aS C.V (hw a z).1 h,gr fun z=>(C.ap _ fd).1 (z▸h)⟩
  ·exact dM a (.inl h)
  ·exact dM a (.inr (.inl h))
  ·exact dM a (.inr (.inr (.inl h)))
  ·exact dM a (.inr (.inr (.inr (.inl h))))
  ·exact⟨fun z=>(wrO a z).2.2.1 h,gr fun z=>(C.ap _ fd).2 (z▸h)⟩
 refine gF (CJ prog w A env own sB GB l st s₀ b) T8 (fun d hd=>?_) X.rm.hh X.so (by kernel_rfl) C8.V ⟨[],[],C8,⟨.nil,fun Z h=>(List.not_mem_nil h).elim,fun x=>by simp,fun Z h=>(List.not_mem_nil h).elim,.nil,.nil⟩,fun x hx=>by simp at hx⟩ st0 g8.inn
  (fun a hb=>⟨⟨Kn.none_ge C.V.inn (hw a hb).1,Kn.none_ge (iz de) (hw a hb).1,(hw a hb).2⟩,aS C.V (hw a hb).1,Nat.le_trans C.V.up.size (hw a hb).1⟩) (fun a o e=>by rw [pY e];exact(C.ap _ fd).1) (fun i d s12 G12 ρ12 E2 hi j V12 s13 m13 V13 I13=>?_) (fun s12 G12 ρ12 j V12 s13 m13 V13=>?_)
 ·refine ah (List.mem_map.mp hd) fun y Z z1=>?_;subst z1
  rfl
 ·obtain⟨sn,dn,C12,D12,t12⟩:=j;rw [List.getElem?_map]at hi;refine ah (Option.map_eq_some_iff.mp hi) fun x hx z2=>?_;subst z2
  refine yP X (C12.turn V13 m13 (fun a z=>z.imp id (wrO a)) ⟨rfl,rfl,rfl,rfl,rfl⟩) D12 (by kernel_rfl) (List.mem_of_getElem? hx) hr fun f s' ρ' G' sn' dn' hf C' D' m hxs mono=>?_
  have res:∃G2 ρ2 Y,SO w.params sB GB env own ρ2 s' G2∧CJ prog w A env own sB GB l st s₀ b (i+1) s' G2 ρ2∧Mv Y s13 G12 s' G2∧∀a,Y a→¬wr a∧bW.add st.d (cR es en) a=none:=by
   refine⟨G',ρ',_,C'.V,⟨sn',dn',C',D',fun y hy=>?_⟩,m.mv,YN⟩
   rw [List.take_add_one,hx]at hy;exact(List.mem_append.mp hy).elim (fun z=>mono y (t12 y z)) fun z=>List.mem_singleton.mp z▸hxs
  rcases hf with rfl |rfl
  ·exact res
  ·exact res
 ·obtain⟨sn,dn,C12,D12,t12⟩:=j;rw [List.length_map,List.take_length]at t12;exact h1 s13 G12 dn (C12.mv.fresh_trans m13.mw fun a y=>.inr (wrO a y).2.2.2) D12.topo fun x hx=>((D12.mem x).mp (t12 x hx)).resolve_left (List.not_mem_nil (a:=x))
theorem sh {Q:Value→Shared→Prop}(rm:am (k+2) A)(hB:Cx (KP w.params) mg mb sB)(U:Up sB s)(I:G.In s.heap)(S:az w.params sB G s st)(T:cj A l sB G s.heap)(hfr:∀a,foot st a→a∉aC l)
  (hcl:∀nd∈st.nodes,∀y∈nd.su,y∈st.nms)(hsl:∀nd∈st.nodes,nd.su.length≤500)(hnl:st.nodes.length≤400)
  (h0:∀s',Mw (fun Z=>False) (aC l) s G s' G→(∃done,eV st.su done∧∀x∈st.nms,x∈done)→Q .none s')
  (h1:∀s' c vs n,Mw (fun Z=>False) (aC l) s G s' G→s'.heap.get? c=some (aB vs n)→vs≠ []→vs.length≤1000→ki st.su st.nms→Q (.ref c) s'):wpAny (model prog w) A (call (.ref 168) [.ref st.self]) Q E s:=by
 refine eG aI (args:=[.adr st.self]) (EV _ _) (by kernel_rfl) rm hB U I (fun E=>cZ I (.cons (.adr st.self) .nil) E) fun env own s₁ G₁ sS E' g B hE=>?_
 refine ez fun Q0 E0 k0=>?_;have ap:=B.apart g S;have gg:ae s G sS G₁:=g.trans (B.g g.inn);have V1:=B.st;have zB:sB.heap.objs.size≤sS.heap.objs.size:=V1.up.size;have cel:=B.cel (T.grew g);have hh:=B.room.hh;have so:=B.sco;refine wpAny_execs_cons (bP (bB rfl (au (a:=st.self) V1 (by kernel_rfl) (fI (V1.cx hB).kin (S.grew gg).at_ ?_))) rfl rfl rfl)
 have t2:=ae.toks V1.inn (sS.toks+1) (Nat.le_add_right _ _);refine sto (d:=.adr st.d) hh so (V1.grew t2) (.adr _) (by kernel_rfl) fun s3 V3 m3=>?_
 have z3:sS.heap.objs.size≤s3.heap.objs.size:=Nat.le_trans t2.size m3.size;refine wpAny_execs_cons (bP (jH ?_) rfl rfl rfl);refine gZ hh so V3 (((S.grew gg).grew t2).mine m3 ap) (((B.stk (T.grew g) (U.grew g).size).grew t2).sto V3 m3 cel) ap cel rfl (by kernel_rfl) z3 fun s4 V4 S4 T4 f3 o3 m4 z4=>?_
 refine wpAny_execs_cons (bP (jH ?_) rfl rfl rfl);refine gZ hh so V4 S4 T4 ap cel rfl (by kernel_rfl) (Nat.le_trans z3 (Nat.le_of_lt z4)) fun s5 V5 S5 T5 f4 o4 m5 z5=>?_
 refine wpAny_execs_cons (bP (wpAny_Call_Name_kw (cE (V5.cx hB) B.sce (by kernel_rfl) (hB.blt ("set",.type "set") (List.mem_of_getElem? (i:=13) rfl)) (bD (R:=R0) (sc:=[]) (ρ:=aT) (ds:=[]) (by nofun) rfl (wpAny_items_nil (call_set_0 fun led=>?_))))) rfl rfl rfl)
 refine gZ hh so V5 S5 T5 ap cel rfl (by kernel_rfl) (Nat.le_trans z3 (Nat.le_of_lt (Nat.lt_trans z4 z5))) fun s6 V6 S6 T6 f5 o5 m6 z6=>?_
 refine wpAny_execs_cons (bP (oH ?_) rfl rfl rfl);refine gZ hh so V6 S6 T6 ap cel rfl (by kernel_rfl) (Nat.le_trans z3 (Nat.le_of_lt (Nat.lt_trans z4 (Nat.lt_trans z5 z6)))) fun s7 V7 S7 T7 f6 o6 m7 z7=>?_
 have Fa7:bC prog w s7.heap G₁ st (FS.of ⟨s3.heap.objs.size,s4.heap.objs.size,s5.heap.objs.size,s6.heap.objs.size⟩ []) []:=
  ⟨⟨[],0,m7.keep _ _ f3.mine (m6.keep _ _ f3.mine (m5.keep _ _ f3.mine o3)),.nil⟩,⟨0,m7.keep _ _ f4.mine (m6.keep _ _ f4.mine o4)⟩,xP (m7.keep _ _ f5.mine o5),⟨[],0,o6,.nil⟩,fun Z hf=>(List.not_mem_nil hf).elim,.nil,Nat.ne_of_lt z4,nL (V6.cx hB)⟩
 have ap':∀a,foot st a→¬Mine env own a∧a∉aC (env::l):=fun a f=>⟨ap a f,fun hm=>by
  refine ah (List.mem_filterMap.mp hm) fun en he hf=>?_;rcases List.mem_cons.mp he with e |he
  ·rw [e,B.frm]at hf;exact ap a f (.inl (Option.some.inj hf).symm)
  ·exact hfr a f (List.mem_filterMap.mpr ⟨en,he,hf⟩)⟩
 have fo7:∀a,cz (FS.of ⟨s3.heap.objs.size,s4.heap.objs.size,s5.heap.objs.size,s6.heap.objs.size⟩ []) a→Fo env own l st sS G₁ a:=by
  rintro a (e |e |e |e |⟨f,hf,_⟩)
  ·rw [e];exact f3
  ·rw [e];exact f4
  ·rw [e];exact f5
  ·rw [e];exact f6
  ·exact(List.not_mem_nil hf).elim
 have C7:=Cy.mk V7 S7 T7 Fa7 (by kernel_rfl) (by kernel_rfl) (by kernel_rfl) (by kernel_rfl) (by kernel_rfl) ap' fo7 zB cel ((((((ae.mv t2).trans m3).trans m4).trans m5).trans m6).trans m7).mw
 have X:qH w mg mb _ (A.deeper env) env own sB st:=⟨B.room,B.sce,so,hB,fun x y hy=>?_,fun x hx=>?_,rP (List.length_map ..) hnl⟩
 ·refine wpAny_execs_cons (Bq X C7 (fun s' G' c vs n m e ne hl cy=>k0 _ _ ?_) fun s' G' dn m tp hd=>wpAny_execs_cons (wpAny_Return_some (wpAny_Constant_none (k0 _ _ ?_))))
  ·exact h1 s' c vs n (B.dropw g m) e ne hl cy
  ·exact h0 s' (B.dropw g m) ⟨dn,tp,hd⟩
 ·unfold Sr.su at hy;cases q:st.find x with
  |none=>rw [q]at hy;exact(List.not_mem_nil hy).elim
  |some nd=>rw [q]at hy;exact hcl nd (jG q).1 y hy
 ·refine ah (List.mem_map.mp hx) fun nd hn e=>?_;rw [←e,w7 S.wf hn];exact Nat.le_trans (hsl nd hn) (by decide)
end
noncomputable def eF (h:Heap)(as:List Addr):Frag:=as.filterMap fun a=>(h.get? a).map fun o=>(a,o)
theorem fe {h:Heap}:∀{L:Frag},(∀p∈L,h.get? p.1=some p.2)→∀a o,L.lookup a=some o→h.get? a=some o
 | [],_,a,o,e=>by exact(aa e).elim
 |p::r,H,a,o,e=>by
  obtain⟨b,ob⟩:=p;rw [List.lookup_cons]at e;by_cases z:a=b
  ·subst z;rw [beq_self_eq_true]at e;obtain rfl:=Option.some.inj e;exact H _ List.mem_cons_self
  ·rw [(beq_eq_false_iff_ne).mpr z]at e;exact fe (fun p hp=>H p (List.mem_cons_of_mem _ hp)) a o e
theorem px {L:Frag}{a:Addr}{o:Obj}(hm:(a,o)∈L):∃o',L.lookup a=some o':=by
 induction L with
 |nil=>cases hm
 |cons p r ih=>
  obtain⟨b,ob⟩:=p;rw [List.lookup_cons];by_cases z:a=b
  ·subst z;rw [beq_self_eq_true];exact⟨_,rfl⟩
  ·rw [(beq_eq_false_iff_ne).mpr z];rcases List.mem_cons.mp hm with q |q
   ·cases q;exact absurd rfl z
   ·exact ih q
theorem i5 {h:Heap}{as:List Addr}:∀p∈eF h as,h.get? p.1=some p.2:=fun p hp=>by
 unfold eF at hp;refine ah (List.mem_filterMap.mp hp) fun a Z e=>?_;refine ah (Option.map_eq_some_iff.mp e) fun o ho z1=>?_;subst z1
 exact ho
theorem uj {h:Heap}{as:List Addr}{a:Addr}{o:Obj}(hm:a∈as)(e:h.get? a=some o)(K:Frag):(eF h as++K).lookup a=some o:=by
 have h1:(a,o)∈eF h as:=List.mem_filterMap.mpr ⟨a,hm,by rw [e];rfl⟩
 obtain⟨o',ho'⟩:=px h1;have:=fe i5 a o' ho';rw [e]at this;obtain rfl:=Option.some.inj this;rw [List.lookup_append,ho'];rfl
theorem ui {h:Heap}{as:List Addr}{K:Frag}(X:K.In h):(eF h as++K).In h:=fun a o e=>by
 rw [List.lookup_append]at e;cases q:(eF h as).lookup a with
 |some o'=>rw [q]at e;cases e;exact fe i5 a o q
 |none=>rw [q]at e;exact X a o e
theorem zW {h h':Heap}{as:List Addr}{K:Frag}(X:K.In h)(Y:(eF h as++K).In h'):K.In h':=fun a o e=>by
 refine Y a o ?_;rw [List.lookup_append];cases q:(eF h as).lookup a with
 |some o'=>
  have h1:=fe i5 a o' q;rw [X a o e]at h1;exact h1.symm
 |none=>exact e
noncomputable def li (ns:List Nd)(ρ:Ro)(x:Str):Option Nd:=match ρ x with
 |some (.adr a)=>ns.find? fun n=>Nat.beq n.a a
 |_=>none
noncomputable def wD:PySem.Expr→Option (Str×Str)
 | .Attribute (.Name x _) f _=>some (x,f)
 |_=>none
noncomputable def BK:PySem.Expr→Option Int
 | .Constant (.int i) _ _=>some i
 |_=>none
noncomputable def xo:List CmpOp→Bool
 | [.Eq]=>true
 |_=>false
noncomputable def BI:PySem.Expr→Option (PySem.Expr×PySem.Expr)
 | .Compare l o [r] _=>match xo o with
  |true=>some (l,r)
  |false=>none
 |_=>none
set_option tactic.hygienic true in
theorem uH {e:PySem.Expr}{r:Str×Str}(q:wD e=some r):∃p pos,e=.Attribute (.Name r.1 p) r.2 pos:=by
 cases e<;>first |exact(aa q).elim |skip
 rename_i o f pos;obtain⟨x,p,rfl⟩:∃x p,o=.Name x p:=ue (by cases o<;>first |exact(aa q).elim |rfl)
 obtain rfl:=Option.some.inj q;exact⟨_,_,rfl⟩
set_option tactic.hygienic true in
theorem BJ {e:PySem.Expr}{i:Int}(q:BK e=some i):∃k p,e=.Constant (.int i) k p:=by
 cases e<;>first |exact(aa q).elim |skip
 rename_i c _ _;cases c<;>first |exact(aa q).elim |skip
 obtain rfl:=Option.some.inj q;exact⟨_,_,rfl⟩
theorem yD {o:List CmpOp}(q:xo o=true):o=[.Eq]:=by
 rcases o with _ |⟨op,_ |⟨_,_⟩⟩
 ·exact(aj q).elim
 ·cases op<;>first |exact(aj q).elim |rfl
 ·cases op<;>exact(aj q).elim
set_option tactic.hygienic true in
theorem BH {e l r:PySem.Expr}(q:BI e=some (l,r)):∃p,e=.Compare l [.Eq] [r] p:=by
 cases e<;>first |exact(aa q).elim |skip
 rename_i l' o rs p;rcases rs with _ |⟨r',_ |⟨_,_⟩⟩
 ·exact(aa q).elim
 ·obtain⟨h,q⟩:=ec q;obtain rfl:=yD h;obtain⟨rfl,rfl⟩:=Prod.mk.inj (Option.some.inj q);exact⟨_,rfl⟩
 ·exact(aa q).elim
theorem pO {β:Type}{o:Option (Str×Str)}{X:Str×Str→Option β}{d:β}(e:(match o with |some x=>X x |none=>none)=some d):∃x,o=some x∧X x=some d:=by
 cases o with
 |none=>exact(aa e).elim
 |some x=>exact⟨x,rfl,e⟩
theorem pN {β:Type}{o:Option Nd}{X:Nd→Option β}{d:β}(e:(match o with |some x=>X x |none=>none)=some d):∃x,o=some x∧X x=some d:=by
 cases o with
 |none=>exact(aa e).elim
 |some x=>exact⟨x,rfl,e⟩
theorem Af {β:Type}{o:Option Int}{X:Int→Option β}{d:β}(e:(match o with |some x=>X x |none=>none)=some d):∃x,o=some x∧X x=some d:=by
 cases o with
 |none=>exact(aa e).elim
 |some x=>exact⟨x,rfl,e⟩
theorem xK {β:Type}{o:Option (PySem.Expr×PySem.Expr)}{X:PySem.Expr×PySem.Expr→Option β}{d:β}(e:(match o with |some x=>X x |none=>none)=some d):∃x y,o=some (x,y)∧X (x,y)=some d:=by
 cases o with
 |none=>exact(aa e).elim
 |some x=>exact⟨x.1,x.2,rfl,e⟩
noncomputable def pf (ns:List Nd):bm where
 ev:=fun Z ρ e=>match wD e with
  |some p=>(match li ns ρ p.1 with
   |some nd=>if ar p.2 "node" then some (.str nd.nm)else none
   |none=>none)
  |none=>none
 ts:=fun Z ρ e=>match BI e with
  |some lr=>match wD lr.1 with
   |some p=>match BK lr.2 with
    |some i=>(match li ns ρ p.1 with
     |some nd=>if ar p.2 "npredecessors" then some (decide (nd.np=i))else none
     |none=>none)
    |none=>none
   |none=>none
  |none=>none
noncomputable def BN (ns:List Nd):List Addr:=ns.flatMap fun nd=>[nd.a,nd.dx,nd.la]
section
variable {prog:Program}{w:World}{mg mb:Str→Option Value}{k:Nat}{A:Around}{env:Env}{own:List (Str×Addr)}{s sB:Shared}{G GB:Kn}{E:Value→Shared→Prop}{sc:aq}{ρ:Ro}{st:Sr}
theorem n6 {ns:List Nd}{x:Str}{nd:Nd}(h:li ns ρ x=some nd):nd∈ns∧ρ x=some (.adr nd.a):=by
 have z:∀o:Option D,(match o with |some (.adr a)=>ns.find? fun n=>Nat.beq n.a a |_=>none)=some nd→∃a,o=some (.adr a)∧(ns.find? fun n=>Nat.beq n.a a)=some nd:=fun o e=>by
  rcases o with _ |d
  ·exact(aa e).elim
  ·cases d<;>first |exact(aa e).elim |exact⟨_,rfl,e⟩
 refine ah (z _ h) fun a q h=>?_;have h1:=List.mem_of_find?_eq_some h;have h2:=List.find?_some (p:=fun n:Nd=>Nat.beq n.a a) h
 exact⟨h1,by rw [q,Nat.eq_of_beq_eq_true h2]⟩
theorem mG {P:Params}{h h':Heap}{K:Frag}{ns:List Nd}(hN:∀nd∈ns,eW P h nd)(Y:(eF h (BN ns)++K).In h'){nd:Nd}(hm:nd∈ns):eW P h' nd:=
 (hN nd hm).of fun a o q e=>Y a o (uj (List.mem_flatMap.mpr ⟨nd,hm,by rcases q with rfl |rfl |rfl<;>simp⟩) e K)
theorem qv {M:Model}{x:Str}{pos:Pos}{d:D}{Q:Value→Shared→Prop}(S:aP w.params G s.heap env ρ)(e:ρ x=some d)(h:∀v,Rd w.params G v d→Q v s):wpAny M A (eval (.Name x pos) env) Q E s:=by
 refine cn (S.vars x d e) fun ok v r rd=>?_;exact dR S.kind r (cI ok) (h v rd)
theorem Ae {h₀:Heap}{ns:List Nd}(hN:∀nd∈ns,eW w.params h₀ nd)(hK:(KP w.params).In h₀):aw prog w (eF h₀ (BN ns)++KP w.params) mg mb k (pf ns) where
 ev:=fun sc ρ e d q A env s G E rm hx hs S=>by
  refine ah (pO q) fun z4 h1 q=>?_;obtain⟨x,f⟩:=z4
  refine ah (pN q) fun nd qn q=>?_;refine xa (aL q) fun hf z5=>?_;subst z5
  refine aV (uH h1) fun p pos z6=>?_;subst z6
  obtain rfl:f= "node" :=(ao _ _).mp hf;refine xa (n6 qn) fun hm hv=>?_;refine bB rfl (qv S hv fun v r=>?_)
  obtain rfl:=r.adr_i;exact Bh (zW hK hx.kin) (mG hN hx.kin hm) fun t=>⟨G,.toks S.inn _ (Nat.le_add_right _ _),.str _ _⟩
 ts:=fun sc ρ e b q A env s G E rm hx hs S=>by
  refine aA (xK q) fun l r h0 q=>?_;refine ah (pO q) fun z7 h1 q=>?_;obtain⟨x,f⟩:=z7
  refine ah (Af q) fun i h2 q=>?_;refine ah (pN q) fun nd qn q=>?_;refine xa (aL q) fun hf z8=>?_;subst z8
  refine xe (BH h0) fun Z z9=>?_;subst z9
  refine aV (uH h1) fun p pos z10=>?_;subst z10
  refine aV (BJ h2) fun k1 p1 z11=>?_;subst z11
  obtain rfl:f= "npredecessors" :=(ao _ _).mp hf;refine xa (n6 qn) fun hm hv=>?_;refine wpAny_isTrue_Compare1 (bB rfl (qv S hv fun v r=>?_)) (bO rfl)
  obtain rfl:=r.adr_i;refine jE (zW hK hx.kin) (mG hN hx.kin hm) fun t=>wpAny_Constant_int ?_
  have t1:ae s G {s with toks:=s.toks+1+1} G:=.toks S.inn _ nK
  exact bI (kY (s:={s with toks:=s.toks+1+1}) t1.inn (.int _ _) (.int _ _) rm.u rfl) fun x s' G' g r=>by obtain rfl:=r.bool_i;exact wpAny_truthy_bool ⟨rfl,G',t1.trans g⟩
theorem ud {d:Addr}{ks:Ks}{es:List DictEntry}{n:Nat}(target:PySem.Expr)(hh:A.handled=none)(I:G.In s.heap)(e:G d=some (cR es n))(hn:(ks.map (·.1)).Nodup)(r:dt w.params G es ks){v:Addr}(hv:s.heap.IsValuesView v d):
  wpAny (model prog w) A (pyIter (.ref v)) (eo prog w A target s G (ks.map (·.2))) E s:=by
 have hne:d≠s.heap.objs.size:=Nat.ne_of_lt (Heap.lt_size (I _ _ e));refine aR (iE prog I e hn r) fun kvs hd hk hval=>?_;have hl:kvs.length=ks.length:=by have:=congrArg List.length hk;simpa using this
 refine wpAny_pyIter_values hv hd ⟨s.heap.objs.size,(· ∈ [s.heap.objs.size]),_,rfl,ae.push I _ s.toks (Nat.le_refl _),
  c7.ofWalks target (Walks.dictValues (prog:=prog) (w:=w) (knd:=strKind prog w) hh s.heap.objs.size d hne kvs n) (by simp [hl]) (fun i v d ht hi=>?_) (fun b hb=>?_) (fun i h st=>?_),⟨⟨_,Heap.get?_push_size _ rfl,rfl,rfl⟩,?_⟩,fun b hb=>?_⟩
 ·refine xe ht fun x hx=>?_;refine ah (hval.get hi) fun v' hv' rd=>?_;rw [List.getElem?_map,hx]at hv';obtain rfl:=Option.some.inj hv';exact rd
 ·simp only [List.mem_cons,List.not_mem_nil,or_false]at hb⊢;rcases hb with rfl |rfl
  ·exact .inl rfl
  ·exact .inr ⟨_,e⟩
 ·refine xa st fun z12 Z=>?_;obtain⟨o,ho,hc,_⟩:=z12
  exact⟨o,_,ho,hc,by decide⟩
 ·refine aA hd fun o es' ho hx=>?_;exact⟨o,es',Heap.get?_push_of_some _ ho,hx⟩
 ·simp only [List.mem_cons,List.not_mem_nil,or_false]at hb;exact⟨Nat.le_of_eq hb.symm,by rw [hb];show s.heap.objs.size<(s.heap.push _).objs.size;rw [Heap.size_push];exact Nat.lt_succ_self _⟩
end
theorem A7 (P:Params):(match (KP P).reverse with |a::b::_=> !Nat.beq a.1 b.1 |_=>false)=true:=by kernel_rfl
set_option tactic.hygienic true in
theorem oG (F:Frag)(P:Params):¬fO (F++KP P)=true:=fun h=>by
 have k:=A7 P;unfold fO at h;rw [List.reverse_append]at h
 split at k
 ·rename_i a b r q;rw [q]at h;have h':Nat.beq a.1 b.1=true:=h;rw [h']at k;exact(aj k).elim
 ·exact(aj k).elim
theorem EZ (P:Params)(a:Value):dG (KP P) 133 (an 133) (aO 133) (bj 133) [a] (pure ((aO 133).zip [a])):=
 ek (by kernel_rfl) (by kernel_rfl) (by kernel_rfl) (by kernel_rfl) (by kernel_rfl) (by kernel_rfl) (by kernel_rfl) (by kernel_rfl)
noncomputable def ey (st:Sr):List (List Nat):=(st.nodes.filter fun nd=>decide (nd.np=0)).map (·.nm)
theorem qg {sc:aq}{t elt:PySem.Expr}{ifs:List PySem.Expr}{ns:List Nd}(ht:∀ρ d,aG sc ρ t d=some (ad ρ "i" d))(hi:∀ρ,aM ((pf ns).ts sc ρ) ifs=match li ns ρ "i" with |some nd=>some (decide (nd.np=0)) |none=>none)
  (he:∀ρ,(pf ns).ev sc ρ elt=match li ns ρ "i" with |some nd=>some (D.str nd.nm) |none=>none)(hns:∀nd∈ns,∀nd'∈ns,nd.a=nd'.a→nd=nd')(ρ:Ro):
  ∀L:List Nd,(∀nd∈L,nd∈ns)→bA sc t (fun ρ'=>aM ((pf ns).ts sc ρ') ifs) (fun ρ'=>bp ((pf ns).ev sc ρ' elt)) ρ (L.map fun nd=>D.adr nd.a)=some (((L.filter fun nd=>decide (nd.np=0)).map (·.nm)).map D.str)
 | [],_=>rfl
 |nd::r,h=>by
  have ih:=qg ht hi he hns ρ r fun n hn=>h n (List.mem_cons_of_mem _ hn)
  have hm:=h nd List.mem_cons_self;have ha:li ns (ad ρ "i" (.adr nd.a)) "i" =some nd:=by
   have:ad ρ "i" (.adr nd.a) "i" =some (.adr nd.a):=by unfold ad;rw [(ao "i" "i").mpr rfl]
   unfold li;rw [this];dsimp only;cases q:ns.find? fun n=>Nat.beq n.a nd.a with
   |none=>exact absurd (Nat.beq_refl nd.a) (List.find?_eq_none.mp q nd hm)
   |some n'=>
    have h1:=List.mem_of_find?_eq_some q;have h2:=List.find?_some (p:=fun n:Nd=>Nat.beq n.a nd.a) q
    rw [hns n' h1 nd hm (Nat.eq_of_beq_eq_true h2)]
  rw [List.map_cons];unfold bA;rw [ht];dsimp only;rw [hi,ha];dsimp only;by_cases z:nd.np=0
  ·rw [decide_eq_true z,he,ha];dsimp only;rw [ih,List.filter_cons_of_pos (by simpa using z)]
   rfl
  ·rw [decide_eq_false z,List.filter_cons_of_neg (by simpa using z)]
   exact ih
section
variable {prog:Program}{w:World}{mg mb:Str→Option Value}{k:Nat}{A:Around}{env:Env}{own:List (Str×Addr)}{s sB:Shared}{G GB:Kn}{E:Value→Shared→Prop}{sc:aq}{ρ:Ro}{st:Sr}
theorem az.newR {P:Params}{s':Shared}{r:Addr}{l:List (List Nat)}(S:az P sB G s st)(hr:st.ready=none)(k:∀c o,c≠st.dx→s.heap.get? c=some o→s'.heap.get? c=some o)
  (hn:∃o n,s'.heap.get? st.dx=some (dictOf (gb P st.d (.ref r) o) n))(hl:cJ P s'.heap r l)(off:G r=none∧sB.heap.objs.size≤r)(hla:∀a,foot st a→a≠r):az P sB G s' (st.rd r l):=by
 have A:=S.at_;obtain⟨a,⟨o,n,ho⟩,c,⟨es,n',d,d'⟩,e⟩:=A;refine⟨⟨k _ _ (bq a ho (by simp)) a,hn,fun r' l' q=>?_,⟨es,n',k _ _ (Ne.symm S.wf.d) d,d'⟩,fun nd hm=>(e nd hm).of fun x o' q he=>k x o' ?_ he⟩,⟨S.wf.nms,S.wf.nm,S.wf.a,S.wf.la,fun r' l' q nd hm=>?_,S.wf.d,S.wf.nd,S.wf.sys⟩,fun x f=>?_⟩
 ·cases q;exact hl
 ·refine b9 (e nd hm) fun z1 e2 z2=>?_;obtain⟨tn,tp,e1⟩:=z1;obtain⟨vs',m',e3,_⟩:=z2
  rcases q with rfl |rfl |rfl
  ·exact bq e1 ho (by simp)
  ·exact(S.wf.nd nd hm).2
  ·exact bq e3 ho (by simp)
 ·cases q;exact hla _ (cw (st:=st) hm).2
 ·rcases f with f |f |f |⟨r',l',q,f⟩ |f
  ·exact S.off x (.inl f)
  ·exact S.off x (.inr (.inl f))
  ·exact S.off x (.inr (.inr (.inl f)))
  ·cases q;rw [f];exact off
  ·exact S.off x (.inr (.inr (.inr (.inr f))))
theorem xO {r:Addr}{l:List (List Nat)}{Q:Unit→Shared→Prop}(X:(KP w.params).In s.heap)(I:G.In s.heap)(S:az w.params sB G s st)(hr:st.ready=none)(hl:cJ w.params s.heap r l)(off:G r=none∧sB.heap.objs.size≤r)(hla:∀a,foot st a→a≠r)
  (h:∀s',Mv (· =st.dx) s G s' G→az w.params sB G s' (st.rd r l)→Q () s'):wpAny (model prog w) A (setAttr (.ref st.self) "_ready_nodes" (.ref r)) Q E s:=by
 have fd:foot st st.dx:=.inr (.inl rfl);refine aV S.at_.own fun o n e=>?_;rw [hr]at e;refine fC (es':=gb w.params st.d (.ref r) o) X .ready I (S.off _ fd).1 S.at_.selfo e rfl (by simp [gb]) (by kernel_rfl) fun s' m he=>h s' m (S.newR hr (fun c o z q=>m.keep c o z q) ?_ (hl.of fun o q=>m.keep _ _ (fun z=>hla _ fd z.symm) q) off hla)
 refine xe he fun n' he=>?_;exact⟨_,n',he⟩
theorem yw {K:Frag}{R:bm}{Gx:Kn}(H:aw prog w K mg mb k R)(rm:am k A)(hs:aD sc env)(hx:Cx K mg mb s)(S:aP w.params Gx s.heap env ρ){elt t it:PySem.Expr}{ifs:List PySem.Expr}{scope:Scope}{pos:Pos}{items ys:List D}{Q:Value→Shared→Prop}
  (hsc:bG sc scope=true)(hset:bx it=false)(hq:∀E,wpAny (model prog w) A (eval it env) (fun x s₁=> ∃G₁ s₀,ae s Gx s₀ G₁∧wpAny (model prog w) A (pyIter x) (eo prog w A t s₀ G₁ items) E s₁) E s)
  (ql:bA scope.names t (fun ρ'=>aM (R.ts scope.names ρ') ifs) (fun ρ'=>bp (R.ev scope.names ρ' elt)) (aH scope.names ρ) items=some ys)(hll:ys.length≤100000)
  (h:∀D s' G',ae s Gx s' G'→ct w.params D ys G' s'.heap→s.heap.objs.size≤D→D<s'.heap.objs.size→Q (.ref D) s'):
  wpAny (model prog w) A (eval (.ListComp elt [⟨t,it,ifs,0⟩] scope pos) env) Q E s:=by
 rw [eval_ListComp];refine tY (use:=none) H rm hs hx S hsc hset hq ql hll fun D C s' G' g ac ⟨m,hm⟩ hC hD oC oD lD ne=>⟨m,hm,fun h' hsb=>?_⟩
 refine aV g.same fun h1 t1 e1=>?_;refine h D {s' with heap:=h'} G' ⟨⟨h',s'.toks,by rw [e1]⟩,?_,g.tk,fun b o e=>?_,g.le,fun a o ea=>?_,g.fresh⟩ ?_ hD ?_
 ·show s.heap.objs.size≤h'.objs.size
  rw [hsb.1];exact g.size
 ·exact(hsb.2 b fun z=>by rw [z]at e;exact absurd (Heap.lt_size e) (Nat.not_lt.mpr hC)).trans (g.keep b o e)
 ·exact(hsb.2 a fun y=>by rw [y,oC]at ea;exact(aa ea).elim).trans (g.inn a o ea)
 ·refine aA ac fun vs n ho r=>?_;exact⟨vs,n,(hsb.2 D (Ne.symm ne)).trans ho,r⟩
 ·show D<h'.objs.size
  rw [hsb.1];exact lD
theorem ae.forget {Gx G':Kn}{s':Shared}(g:ae s Gx s' G')(I:G.In s.heap):ae s G s' G:=⟨g.same,g.size,g.tk,g.keep,.refl G,fun a o e=>g.keep _ _ (I a o e),fun Z Z e=>.inl e⟩
theorem rh {p1 p2 p3 pos:Pos}{elt t it:PySem.Expr}{ifs:List PySem.Expr}{scope:Scope}{Q:Value→Shared→Prop}(hit:it=.Call (.Attribute (.Attribute (.Name "self" p1) "_node2info" p2) "values" p3) [] [] pos){pos':Pos}
  (rm:am k A)(hs:aD sc env)(hB:Cx (KP w.params) mg mb sB)(V:SO w.params sB GB env own ρ s G)(S:az w.params sB G s st)(e1:ρ "self" =some (.adr st.self))(hn:st.nodes.length≤400)
  (hsc:bG sc scope=true)(ht:∀ρ d,aG scope.names ρ t d=some (ad ρ "i" d))(hi:∀ns ρ,aM ((pf ns).ts scope.names ρ) ifs=match li ns ρ "i" with |some nd=>some (decide (nd.np=0)) |none=>none)
  (he:∀ns ρ,(pf ns).ev scope.names ρ elt=match li ns ρ "i" with |some nd=>some (D.str nd.nm) |none=>none)(hl:(p3.endLine==pos.line)=true)
  (h:∀D s',ae s G s' G→cJ w.params s'.heap D (ey st)→s.heap.objs.size≤D→Q (.ref D) s'):wpAny (model prog w) A (eval (.ListComp elt [⟨t,it,ifs,0⟩] scope pos') env) Q E s:=by
 subst hit;refine aA S.at_.dct fun es n de dr=>?_;have fd:foot st st.d:=.inr (.inr (.inl rfl));have le:G.Le (G.add st.d (cR es n)):=Kn.le_add (S.off _ fd).1;have I:(G.add st.d (cR es n)).In s.heap:=Kn.add_in V.inn de;have X:=(V.cx hB).kin;have hnd:(st.dks.map (·.1)).Nodup:=by rw [dT];exact S.wf.nms
 refine yw (Ae (ns:=st.nodes) (fun nd hm=>S.at_.nds nd hm) X) rm hs (s:=s) (ρ:=ρ) (Gx:=G.add st.d (cR es n)) (items:=st.nodes.map fun nd=>D.adr nd.a) (ys:=(ey st).map .str) ⟨ui X,(V.cx hB).g,(V.cx hB).b,(V.cx hB).nolim,hB.blt,fun h=>absurd h (oG _ _)⟩
  ⟨fun x d e=>?_,V.plain.env.kind,I⟩ hsc rfl (fun E=>?_) ?_ ?_ fun D s' G' g ac hD lD=>?_
 ·refine cn (V.plain.env.vars x d e) fun ok v hv r=>?_;exact⟨ok,v,hv,r.mono le⟩
 ·refine wpAny_Call_method_lateS rfl rfl hl (bB rfl (au (a:=st.self) V e1 (fI X S.at_ ?_)));refine⟨"dict", "dict.values",F.plainAttrs_dict,F.slot_dict_values,F.type_dict_values,⟨_,de,rfl⟩,fun b hb=>by obtain rfl:=Value.ref.inj hb;exact⟨_,de,rfl⟩,?_⟩
  refine aR (bT.dictOf prog (show bT w.params s.heap st.d st.dks from⟨es,n,de,dr⟩) hnd) fun kvs hof hk hv=>?_
  have hof':({s with toks:=s.toks+1}:Shared).heap.DictOf (strKind prog w) st.d kvs:=hof
  refine callWith_method0 (call_meetsIn F.slot_dict_values hof'.typeIs F.entry_dict_values (F.args_dict_values_1 _) (meets_dict_values (strKind prog w) st.d S.wf.sys) ⟨⟨kvs,hof'⟩,?_⟩);have g1:ae s (G.add st.d (cR es n)) {s with heap:=s.heap.push {cls:=.type "dict_values",data:=.fields #[.ref st.d]},toks:=s.toks+1} (G.add st.d (cR es n)):=ae.push I _ (s.toks+1) (Nat.le_succ _)
  refine⟨_,_,g1,?_⟩;have:=ud (prog:=prog) (w:=w) (A:=A) (E:=E) (ks:=st.dks) t rm.hh g1.inn Kn.add_self hnd (dr.mono (iA _)) (v:=s.heap.objs.size) ⟨_,Heap.get?_push_size _ rfl,rfl,rfl⟩;have e2:st.dks.map (·.2)=st.nodes.map fun nd=>D.adr nd.a:=by unfold Sr.dks;rw [List.map_map];rfl
  rw [e2]at this;exact this
 ·exact qg ht (hi _) (he _) S.wf.a _ st.nodes fun Z h=>h
 ·rw [List.length_map];unfold ey;rw [List.length_map];exact Nat.le_trans (List.length_filter_le _ _) (by lia)
 ·refine h D s' (g.forget V.inn) ?_ hD;refine aA ac fun vs m ho r=>?_;refine⟨vs,m,ho,mt ?_ r bW⟩;rw [List.all_eq_true];intro d hd;refine ah (List.mem_map.mp hd) fun y Z z3=>?_;subst z3
  rfl
end
theorem sK {α:Type}{M:Model}{A:Around}{s:Shared}{t:Sem α}{Q:α→Shared→Prop}{E:Value→Shared→Prop}
  (h:wpAny M A t (fun a s'=>s.heap.objs.size≤s'.heap.objs.size→Q a s') (fun e s'=>s.heap.objs.size≤s'.heap.objs.size→E e s') s):wpAny M A t Q E s:=
 fun Γ p hΓ=>Sem.wp_mono M Γ t (fun Z Z Z x=>x.2 x.1) (fun Z Z Z x=>x.2 x.1) p s (pF M Γ _ t _ _ p s (Nat.le_refl _) (h Γ p hΓ))
noncomputable def j2 (s s':Shared)(e:Addr):Prop:= ∃oe vs a0 T oT ts,s'.heap.get? e=some oe∧(oe.cls=.ref 96∧vs[0]? =some a0)∧oe.data=.fields vs∧vs[1]? =some (.ref T)∧T≠e∧s'.heap.get? T=some oT∧oT.data=.fields ts∧ts[3]? =some .none∧s.heap.get? e=none∧s.heap.get? T=none
theorem j2.of {s₀ s s':Shared}{e:Addr}(F:j2 s s' e)(h:∀a o,s₀.heap.get? a=some o→∃o',s.heap.get? a=some o'):j2 s₀ s' e:=by
 obtain⟨oe,vs,a0,T,oT,ts,x1,x2,x3,x4,x5,x6,x7,x8,x9,x10⟩:=F;have none:∀{a},s.heap.get? a=.none→s₀.heap.get? a=.none:=fun{a} e=>by
  cases q:s₀.heap.get? a with
  |none=>rfl
  |some o=>obtain⟨o',h'⟩:=h a o q;exact(aa (e.symm.trans h')).elim
 exact⟨oe,vs,a0,T,oT,ts,x1,x2,x3,x4,x5,x6,x7,x8,none x9,none x10⟩
theorem ux (P:Params):(KP P).lookup 96=some (excClassObj "CycleError" "CycleError" 96 95 [.type "ValueError"] [.type "ValueError",.type "Exception",.type "BaseException",.type "object"] true [] [] false none none (some (.ref 87)) none (some (.str "CycleError" 548)) (some (.str "CycleError" 556)) (some (.bool true)) "ValueError.__new__"):=by kernel_rfl
noncomputable def oI (P:Params):Array DictEntry:=match (KP P).lookup 95 with |some ⟨_,_,.dict es _,_⟩=>es |_=> #[]
noncomputable def Fh (P:Params):Nat:=match (KP P).lookup 95 with |some ⟨_,_,.dict _ n,_⟩=>n |_=>0
theorem Ds (P:Params):(KP P).lookup 95=some {cls:=.type "dict",data:=.dict (oI P) (Fh P)}:=by kernel_rfl
theorem A8 (P:Params):(oI P).toList.all (fun e=>match e.key with | .str _ _=>true |_=>false)=true:=by kernel_rfl
theorem Bc (P:Params):nsFind (oI P) "__init__" =none:=by kernel_rfl
theorem Ep {P:Params}{h:Heap}(X:(KP P).In h):h.Ns 95 (nsFind (oI P)):=
 ⟨_,_,_,X _ _ (Ds P),rfl,(fun e he=>by
  have hx:=List.all_eq_true.mp (A8 P) e (Array.mem_toList_iff.mpr he)
  revert hx
  cases e.key<;>intro hx<;>first |exact⟨_,_,rfl⟩ |exact(aj hx).elim),fun Z=>rfl⟩
section
variable {prog:Program}{w:World}{mg mb:Str→Option Value}{k:Nat}{A:Around}{env:Env}{own:List (Str×Addr)}{s s₁ s' sB:Shared}{G G₁ GB:Kn}{E:Value→Shared→Prop}{sc:aq}{ρ:Ro}{st:Sr}{l:List Env}
theorem Dr {M:Model}{x:PySem.Expr}{p:Pos}{Q:Value→Shared→Prop}(h:wpAny M A (eval x env) Q E s):wpAny M A (eval (.JoinedStr [x] p) env) Q E s:=h
theorem pw {e1 e2:PySem.Expr}{np cpos pos:Pos}{x:Str}{Q:Flow→Shared→Prop}(hh:A.handled=none)(h1:cX e1=false)(h2:cX e2=false)
  (h:wpAny (model prog w) A (eval (.Name x np) env) (fun f s₁=>f=.ref 96∧wpAny (model prog w) A (eval e1 env) (fun v1 s2=>wpAny (model prog w) A (eval e2 env) (fun v2 s3=>(KP w.params).In s3.heap∧
   ∀h' e,Heap.MadeExcOf s3.heap h' e (.ref 96) [v1,v2]→E (.ref e) {s3 with heap:=h'}) E s2) E s₁) E s):
  wpAny (model prog w) A (exec (.Raise (some (.Call (.Name x np) [e1,e2] [] cpos)) none pos) env) Q E s:=by
 have q:bi (mj.ev [] aT) [e1,e2]=some [.none,.none]:=by unfold bi;rw [h1];dsimp only [mj];unfold bi;rw [h2];rfl
 refine wpAny_Raise_call_sub (C:=96) (nm:= "CycleError") (q:= "CycleError") (N:=95) (bs:=[.type "ValueError"]) (hdct:=true) (sn:=[]) (sub:=[]) (ab:=false) (col:=none) (dd:=none) (k0:=some (.ref 87)) (k1:=none) (k2:=some (.str "CycleError" 548)) (k3:=some (.str "CycleError" 556)) (k5:=some (.bool true)) F.excBase_ValueError hh (fB [e1,e2] _ cpos q) (mN:=nsFind (oI w.params)) (Bc _) (wpAny_mono h (fun f s₁ z=>?_) fun Z Z z=>z)
 obtain⟨rfl,z⟩:=z;refine⟨rfl,fP q (wpAny_items_cons (wpAny_mono z (fun v1 s2 z=>wpAny_items_cons (wpAny_mono z (fun v2 s3 z=>wpAny_items_nil ?_) fun Z Z z=>z) (cU h2)) fun Z Z z=>z) (cU h1))⟩
 exact⟨rfl,by show 2≤sizeLine;rw [sizeLine_eq];decide,z.1 _ _ (ux _),Ep z.1,z.2⟩
theorem rO {h':Heap}{e:Addr}{args:List Value}{Q:Unit→Shared→Prop}{M:Model}(T:cj A (env::l) sB G s.heap)(I:G.In s.heap)(hm:Heap.MadeExcOf s.heap h' e (.ref 96) args)(hz:s.heap.objs.size≤h'.objs.size)
  (h:∀h'',Mw (fun Z=>False) (aC (env::l)) s G {s with heap:=h''} G→j2 s {s with heap:=h''} e→Q () {s with heap:=h''}):wpAny M A (leaving env (.ref e)) Q E {s with heap:=h'}:=by
 have memB:∀{b o},s.heap.get? b=some o→b∉aC (env::l)→(hideAll s.heap (aC (env::l))).get? b=some o:=fun{b o} q n=>hideAll_get _ q n
 have memB':∀{b o},(hideAll s.heap (aC (env::l))).get? b=some o→s.heap.get? b=some o∧b∉aC (env::l):=by
  intro b o q;refine⟨of_hideAll _ q,fun z=>?_⟩
  rw [hideAll_none (aC (env::l)) z]at q;exact(aa q).elim
 obtain⟨hk,L,oL,hf,hoL,hdL,hGL,hzL⟩:=T.ok env List.mem_cons_self;generalize hb:hideAll s.heap (aC (env::l))=base at memB memB';have stay:base.StaysIn h':=fun b o q=>hm.keeps b o (memB' q).1
 have hen:base.get? e=none:=by
  cases q:base.get? e with
  |none=>rfl
  |some o=>have:=(memB' q).1;exact(aa (hm.new.symm.trans this)).elim
 have hnB:∀{b},b∈aC (env::l)→base.get? b=none:=fun{b} hm=>by
  cases q:base.get? b with
  |none=>rfl
  |some o=>exact absurd hm (memB' q).2
 have FF:h'.FunFrames base (env::l):=cj.fun (A:=A) (sB:=sB) (G:=G) fun en hen=>by
  refine kH (T.ok en hen) fun hk L o hf ho hd Z=>?_;exact⟨hk,L,o,hf,hm.keeps _ _ ho,hd,hnB (List.mem_filterMap.mpr ⟨en,hen,hf⟩)⟩
 refine aR hm.there fun t he Z Z=>?_;refine aK (wpAny_leaving_firstW (base:=base) (a0:=.ref t) T.fr FF hf he stay hen rfl rfl rfl fun h2 N hz2=>?_)
 refine mo N fun n1 n2 n3 n4=>?_;refine h h2 ⟨⟨h2,s.toks,rfl⟩,Nat.le_trans hz hz2.1,Nat.le_refl _,fun b o Z nf q=>n1 b o (memB q nf),fun b o Z q=>?_,.refl _,fun a o q=>n1 a o (memB (I a o q) fun z=>by rw [(T.mem z).2.1]at q;exact(aa q).elim),fun Z Z q=>.inl q⟩ ?_
 ·by_cases hm':b∈aC (env::l)
  ·refine xa (T.mem hm') fun z2 Z=>?_;obtain⟨o',ho',hd'⟩:=z2
   rw [q]at ho';obtain rfl:=Option.some.inj ho';exact n4 b o (hm.keeps b o q) hd'
  ·exact⟨o.slots,n1 b o (memB q hm')⟩
 ·obtain⟨oe,vs,T',oT,ts,q1,q2,q3,q4,q5,q6,q7,q8,q9⟩:=n3;refine⟨oe,vs,_,T',oT,ts,q1,q2,q3,q4,q6,q7,q8,q9,hm.new,?_⟩;cases q:s.heap.get? T' with
  |none=>rfl
  |some o=>
   have hin:T'∈aC (env::l):=Classical.byContradiction fun hn=>by
    have:=memB q hn;exact(aa (q5.symm.trans this)).elim
   refine ah (List.mem_filterMap.mp hin) fun en hen' hf'=>?_;refine cn (n2.mem (List.mem_filterMap.mpr ⟨en,hen',hf'⟩)) fun Z o2 ho2 hd2=>?_;rw [q7]at ho2;obtain rfl:=Option.some.inj ho2;exact absurd q8 (hd2 ts)
theorem dc.dropX {scp:Scope}{s2:Shared}{G2:Kn}{X:Addr→Prop}(B:dc prog w k sB A scp env own aI ρ s₁ G₁ s')(g:ae s G s₁ G₁)(m:Mw (XX env own X) (aC (env::l)) s G s2 G2):Mw X (aC l) s G s2 G:=by
 have nm:∀{b o},s.heap.get? b=some o→¬Mine env own b:=fun{b o} e q=>Nat.lt_irrefl _ (Nat.lt_of_lt_of_le (Heap.lt_size e) (Nat.le_trans g.size (B.mine b q)))
 refine⟨m.same,m.size,m.tk,fun b o n nf e=>m.keep b o (fun y=>y.elim (nm e) n) (fun hm=>?_) e,fun b o n e=>m.slot b o (fun y=>y.elim (nm e) n) e,.refl _,fun a o e=>m.inn a o (m.le a o e),fun Z Z e=>.inl e⟩
 refine ah (List.mem_filterMap.mp hm) fun en he hf=>?_;rcases List.mem_cons.mp he with rfl |he
 ·rw [B.frm]at hf;obtain rfl:=Option.some.inj hf;exact nm e (.inl rfl)
 ·exact nf (List.mem_filterMap.mpr ⟨en,he,hf⟩)
end
section
variable {prog:Program}{w:World}{mg mb:Str→Option Value}{k:Nat}{A:Around}{env:Env}{own:List (Str×Addr)}{s s₁ s' sB:Shared}{G G₁ GB:Kn}{E:Value→Shared→Prop}{sc:aq}{ρ:Ro}{st:Sr}{l:List Env}
theorem jR {r:Addr}{xs:List (List Nat)}{a:Addr}(f:foot (st.rd r xs) a):foot st a∨a=r:=by
 rcases f with f |f |f |⟨r',l',q,f⟩ |f
 ·exact .inl (.inl f)
 ·exact .inl (.inr (.inl f))
 ·exact .inl (.inr (.inr (.inl f)))
 ·cases q;exact .inr f
 ·exact .inl (.inr (.inr (.inr (.inr f))))
theorem qs {r:Addr}{xs:List (List Nat)}{a:Addr}(hr:st.ready=none)(f:foot st a):foot (st.rd r xs) a:=by
 rcases f with f |f |f |⟨r',l',q,f⟩ |f
 ·exact .inl f
 ·exact .inr (.inl f)
 ·exact .inr (.inr (.inl f))
 ·exact(aa (hr.symm.trans q)).elim
 ·exact .inr (.inr (.inr (.inr f)))
theorem mZ {c:Addr}{vs:List Value}{n:Nat}(V:SO w.params sB GB env own ρ s G)(e:s.heap.get? c=some (aB vs n)):¬Mine env own c:=fun m=>by
 refine aA V.plain.ex fun m1 cm F Z=>?_;rcases m with rfl |⟨x,hm⟩
 ·refine ck F.ns fun o es ep ho hd Z=>?_;rw [e]at ho;obtain rfl:=Option.some.inj ho;cases hd
 ·refine ah (F.cell x c (F.nd x c hm)) fun o ho hd=>?_;rw [e]at ho;obtain rfl:=Option.some.inj ho;cases hd
theorem nU {Q:Value→Shared→Prop}(rm:am (k+3) A)(hB:Cx (KP w.params) mg mb sB)(hce:mg "CycleError" =some (.ref 96))(U:Up sB s)(I:G.In s.heap)(S:az w.params sB G s st)(T:cj A l sB G s.heap)(hfr:∀a,foot st a→a∉aC l)(hr:st.ready=none)
  (hcl:∀nd∈st.nodes,∀y∈nd.su,y∈st.nms)(hsl:∀nd∈st.nodes,nd.su.length≤500)(hnl:st.nodes.length≤400)
  (h0:∀s' r,Mw (foot st) (aC l) s G s' G→az w.params sB G s' (st.rd r (ey st))→s.heap.objs.size≤r→(∃done,eV st.su done∧∀x∈st.nms,x∈done)→Q .none s')
  (h1:∀s' r e,Mw (foot st) (aC l) s G s' G→az w.params sB G s' (st.rd r (ey st))→s.heap.objs.size≤r→j2 s s' e→ki st.su st.nms→E (.ref e) s'):wpAny (model prog w) A (call (.ref 133) [.ref st.self]) Q E s:=by
 refine eG aI (args:=[.adr st.self]) (EZ _ _) (by kernel_rfl) rm hB U I (fun E=>cZ I (.cons (.adr st.self) .nil) E) fun env own s₁ G₁ s' E' g B hE=>?_
 have ap:=B.apart g S;have gg:ae s G s' G₁:=g.trans (B.g g.inn);have S1:=S.grew gg;have V1:=B.st;have T1:=B.stk (T.grew g) (U.grew g).size;have cel:=B.cel (T.grew g);refine wpAny_execs_cons (wpAny_If (wpAny_isTrue_Compare1 (bB rfl (au (a:=st.self) V1 (by kernel_rfl) (Mine.get_ready (V1.cx hB).kin S1.at_ ?_))) (bO rfl)))
 rw [hr];refine wpAny_Constant_none (isNot_none (wpAny_truthy_bool ?_));refine wpAny_execs_nil ?_;have t2:ae s' G₁ {s' with toks:=s'.toks+1} G₁:=.toks V1.inn _ (Nat.le_add_right _ _)
 have V2:=V1.grew t2;have S2:=S1.grew t2;refine wpAny_execs_cons (bP (rh (by rfl) B.room B.sce hB V2 S2 (by kernel_rfl) hnl (by kernel_rfl) (fun ρ d=>by kernel_rfl) (fun ns ρ=>by kernel_rfl) (fun ns ρ=>by kernel_rfl) (by kernel_rfl) fun r s3 g3 hl3 hr3=>?_) rfl rfl rfl)
 have V3:=V2.grew g3;have S3:=S2.grew g3;have g13:=gg.trans (t2.trans g3);have zr:s.heap.objs.size≤r:=Nat.le_trans (gg.trans t2).size hr3;have offr:G₁ r=none∧sB.heap.objs.size≤r:=⟨Kn.none_ge V2.inn hr3,Nat.le_trans V2.up.size hr3⟩;have lr:r<s3.heap.objs.size:=by
  refine aA hl3 fun vs n e Z=>?_;exact Heap.lt_size e
 have hla:∀a,foot st a→a≠r:=fun a f z=>Nat.lt_irrefl _ (Nat.lt_of_lt_of_le (S2.lt f) (z▸hr3))
 refine bU (au (a:=st.self) V3 (by kernel_rfl) (xO (V3.cx hB).kin V3.inn S3 hr hl3 offr hla fun s4 m4 S4=>?_))
 have fdx:foot st st.dx:=.inr (.inl rfl);have V4:=V3.mut m4 fun a e=>by subst e;exact⟨ap _ fdx,(S3.off _ fdx).2⟩
 have nfr:∀a,foot (st.rd r (ey st)) a→¬Mine env own a∧a∉aC (env::l):=by
  have hm2:∀a,a∈aC (env::l)→∃o,s'.heap.get? a=some o:=fun a hm=>by
   refine xa (T1.mem hm) fun z1 Z=>?_;obtain⟨o,ho,_⟩:=z1
   exact⟨o,ho⟩
  intro a f;rcases jR f with f |rfl
  ·refine⟨ap a f,fun hm=>?_⟩
   refine ah (List.mem_filterMap.mp hm) fun en he hf=>?_;rcases List.mem_cons.mp he with rfl |he
   ·rw [B.frm]at hf;obtain rfl:=Option.some.inj hf;exact ap _ f (.inl rfl)
   ·exact hfr a f (List.mem_filterMap.mpr ⟨en,he,hf⟩)
  ·refine⟨aS V2 hr3,fun hm=>?_⟩
   refine xe (hm2 _ hm) fun o ho=>?_;exact Nat.lt_irrefl _ (Nat.lt_of_lt_of_le (Heap.lt_size ho) (Nat.le_trans t2.size hr3))
 have T4:cj (A.deeper env) (env::l) sB G₁ s4.heap:=(T1.grew (t2.trans g3)).mw m4.mw (X:=(· =st.dx)) (fr:=[]) fun a hm e=>(nfr a (qs hr (e▸fdx))).2 hm
 have mA:Mv (XX env own (foot st)) s G s4 G₁:=g13.mv.trans (m4.rm fun a e=>e▸fdx)
 refine wpAny_execs_cons (bP (dK (x:= "_find_cycle") (f:=168) (ds:=[]) rfl (by rfl) (by rfl) (by kernel_rfl) (by kernel_rfl) (by kernel_rfl) (fun o d v=>by kernel_rfl) B.room B.sce hB (by kernel_rfl) (au (a:=st.self) V4 (by kernel_rfl) ⟨st.rd r (ey st),G₁,rfl,S4.at_,V4,fun vs s5 G5 g5 r5 V5=>?_⟩)) rfl rfl rfl)
 cases r5;have S5:=S4.grew g5;have T5:=T4.grew g5;have frO:∀a,a∈aC (env::l)→sB.heap.objs.size≤a∧∀n,(n,a)∉own:=fun a hm=>⟨(T4.mem hm).2.2,cel a hm⟩
 have mB:Mw (XX env own (foot st)) (aC (env::l)) s G s5 G5:=(mA.trans g5.mv).mw;have lG:G.Le G5:=mB.le;refine sh (st:=st.rd r (ey st)) B.room hB V5.up V5.inn S5 T5 (fun a f=>(nfr a f).2) hcl hsl hnl (fun s6 m6 htopo=>?_) (fun s6 c vs n m6 hc hne hln hcyc=>?_)
 ·have V6:=V5.mutw m6 (fun a f=>f.elim) frO
  have S6:=S5.keepw m6 fun a f=>⟨id,(nfr a f).2⟩
  refine sto (d:=.none) B.room.hh B.sco V6 .none (by kernel_rfl) fun s7 V7 m7=>?_
  have S7:=S6.keep m7 fun a f=>(nfr a f).1
  refine wpAny_execs_cons (wpAny_If (CS (b:=false) (fS prog w (KP w.params) mg mb _) B.room B.sce hB V7 (.refl _) V7.inn V7.plain.env.vars (by kernel_rfl) fun s8 g8 V8=>?_))
  refine wpAny_execs_nil (wpAny_execs_nil ?_);have mC:Mw (XX env own (foot st)) (aC (env::l)) s G s8 G5:=((mB.trans (m6.weak (fun Z f=>f.elim) fun Z h=>h)).trans m7.lm.mw).trans g8.mv.mw
  exact h0 s8 r (B.dropX g mC) ((S7.grew g8).un lG) zr htopo
 ·have V6:=V5.mutw m6 (fun a f=>f.elim) frO
  have S6:=S5.keepw m6 fun a f=>⟨id,(nfr a f).2⟩
  have T6:=T5.mw m6 fun a Z f=>f
  refine sto (d:=.adr c) B.room.hh B.sco V6 (.adr c) (by kernel_rfl) fun s7 V7 m7=>?_
  have S7:=S6.keep m7 fun a f=>(nfr a f).1
  have T7:=T6.sto V7 m7 cel;have hc7:=m7.keep _ _ (mZ V6 hc) hc;refine wpAny_execs_cons (wpAny_If (wpAny_isTrue_value (au (a:=c) V7 (by kernel_rfl) (wpAny_truthy_list (items:=vs.toArray) ⟨_,hc7,rfl,n,rfl⟩ (by simp;lia) ?_)) (by rfl)))
  have hemp:(!vs.toArray.isEmpty)=true:=by cases vs with |nil=>exact absurd rfl hne |cons _ _=>rfl
  rw [hemp];have t8:=ae.toks V7.inn (s7.toks+2) (Nat.le_add_right _ _);have V8:=V7.grew t8;have S8:=S7.grew t8;have T8:=T7.grew t8;refine wpAny_execs_cons (sK (pw B.room.hh rfl rfl (di (V8.cx hB) B.sce (by kernel_rfl) hce ⟨rfl,Dr (wpAny_Constant_str ?_)⟩)))
  have t9:=ae.toks V8.inn (s7.toks+2+1) (Nat.le_succ _);have V9:=V8.grew t9;have S9:=S8.grew t9;have T9:=T8.grew t9;refine au (a:=c) V9 (by kernel_rfl) ⟨(V9.cx hB).kin,fun h' e hm hz=>?_⟩
  refine hE _ _ (rO (s:={s7 with toks:=s7.toks+2+1}) T9 V9.inn hm hz fun h'' m10 fl=>?_)
  have mC:Mw (XX env own (foot st)) (aC (env::l)) s G {s7 with toks:=s7.toks+2+1} G5:=((mB.trans (m6.weak (fun Z f=>f.elim) fun Z h=>h)).trans m7.lm.mw).trans (t8.trans t9).mv.mw
  refine h1 _ r e (B.dropX g (mC.trans (m10.weak (fun Z f=>f.elim) fun Z h=>h))) ((S9.keepw m10 fun a f=>⟨id,(nfr a f).2⟩).un lG) zr (fl.of fun a o q=>?_) hcyc
  by_cases hX:XX env own (foot st) a
  ·rcases hX with hX |hX
   ·exact absurd (Heap.lt_size q) (Nat.not_lt.mpr (Nat.le_trans g.size (B.mine a hX)))
   ·exact S9.at_.alive a (qs hr hX)
  ·refine xe (mC.slot a o hX q) fun sl e2=>?_;exact⟨_,e2⟩
end
set_option backward.match.sparseCases true
section
variable {prog:Program}{w:World}{K:Frag}{mg mb:Str→Option Value}{k:Nat}{A:Around}{env:Env}{own:List (Str×Addr)}{s s₀ sB:Shared}{G GB:Kn}{E:Value→Shared→Prop}{sc:aq}{ρ:Ro}{st:Sr}{l:List Env}
theorem ie {line:Nat}{x:Str}{p:Pos}:cV env line (.Name x p)=some x∨cV env line (.Name x p)=none:=by
 unfold cV;dsimp only
 split
 ·exact .inl rfl
 ·exact .inr rfl
set_option tactic.hygienic true in
theorem CK {x y z:Str}{p q r:Pos}{tk vk:Nat}{tp vp:Pos}{vs:List PySem.Expr}(hc:vs.all (constantsAlone 8)=false):
  swappedStores [.Tuple [.Name x p,.Name y q,.Name z r] tk tp] (.Tuple vs vk vp) env=pure none∨swappedStores [.Tuple [.Name x p,.Name y q,.Name z r] tk tp] (.Tuple vs vk vp) env=pure (some [x,y,z]):=by
 have go:∀(X:Sem (Option (List Str))) (ts:List PySem.Expr) (names:List Str),ts=[.Name x p,.Name y q,.Name z r]→names=ts.filterMap (cV env ((ts.head?.map (·.pos.line)).getD 0))→
   ((if(!(ts.length==2||ts.length==3)||vs.length !=ts.length||env.blockKind != .function)=true then pure none else
    if(vs.any fun | .Starred .. =>true |_=>false)=true then pure none else
    if(names.length !=ts.length||names.eraseDups.length !=names.length)=true then pure none else
    if vs.all (foldedForSure 8)=true then pure none else
    if vs.all (constantsAlone 8)=true then X else pure (some names):Sem (Option (List Str)))=pure none∨
    (if(!(ts.length==2||ts.length==3)||vs.length !=ts.length||env.blockKind != .function)=true then pure none else
    if(vs.any fun | .Starred .. =>true |_=>false)=true then pure none else
    if(names.length !=ts.length||names.eraseDups.length !=names.length)=true then pure none else
    if vs.all (foldedForSure 8)=true then pure none else
    if vs.all (constantsAlone 8)=true then X else pure (some names):Sem (Option (List Str)))=pure (some [x,y,z])):=by
  intro X ts names hts hnm
  split
  ·exact .inl rfl
  split
  ·exact .inl rfl
  split
  ·exact .inl rfl
  rename_i hn
  split
  ·exact .inl rfl
  rw [if_neg (by rw [hc];decide)]
  right
  subst hts;simp only [Bool.or_eq_true,bne_iff_ne,ne_eq,not_or,Decidable.not_not]at hn;obtain⟨n1,_⟩:=hn;rw [hnm]at n1;have:names=[x,y,z]:=by
   rw [hnm];rcases ie (env:=env) (line:=(([.Name x p,.Name y q,.Name z r]:List PySem.Expr).head?.map (·.pos.line)).getD 0) (x:=x) (p:=p)with a |a<;>rcases ie (env:=env) (line:=(([.Name x p,.Name y q,.Name z r]:List PySem.Expr).head?.map (·.pos.line)).getD 0) (x:=y) (p:=q)with b |b<;>rcases ie (env:=env) (line:=(([.Name x p,.Name y q,.Name z r]:List PySem.Expr).head?.map (·.pos.line)).getD 0) (x:=z) (p:=r)with c |c<;>
    rw [List.filterMap_cons,a,List.filterMap_cons,b,List.filterMap_cons,c]at n1⊢ <;>first |rfl |(simp at n1;done)
  rw [this]
 exact go _ _ _ rfl rfl
theorem lO {M:Model}{x:Str}{v:Value}{d:D}{Q:Unit→Shared→Prop}(C:be sc env own)(S:SO w.params sB GB env own ρ s G)(r:Rd w.params G v d)(hx:bF sc x=true)
  (h:∀s',SO w.params sB GB env own (ad ρ x d) s' G→Mv (Mine env own) s G s' G→Q () s'):wpAny M A (storeName env x v) Q E s:=by
 refine aR S.ex fun ρ1 S0 wk L=>?_;have hb:bo sc aI ⟨ρ,none,false⟩ (.Name x default) d=some ⟨ad ρ x d,none,false⟩:=by
  unfold bo aG;dsimp only;rw [hx];rfl
 have hb1:aG sc ρ1 (.Name x default) d=some (ad ρ1 x d):=by
  unfold aG;dsimp only;rw [hx]
 exact wpAny_mono (iO S0 r (cL hx) (eP C hx)) (fun Z s' hs=>h s' (S.stored hb hs.2 L wk hb1 hs.1) hs.2) fun Z Z z=>z
theorem Ek {M:Model}{x:Str}{p:Pos}{v:Value}{d:D}{Q:Unit→Shared→Prop}(C:be sc env own)(S:SO w.params sB GB env own ρ s G)(r:Rd w.params G v d)(hx:bF sc x=true)
  (h:∀s',SO w.params sB GB env own (ad ρ x d) s' G→Mv (Mine env own) s G s' G→Q () s'):wpAny M A (assign (.Name x p) env v) Q E s:=wpAny_assign_Name (lO C S r hx h)
theorem fc {sc:aq}{x:Str}{p:Pos}{es:List PySem.Expr}{d:D}{ds:List D}{ρ:Ro}(h:bF sc x=true):aU sc ρ (.Name x p::es) (d::ds)=aU sc (ad ρ x d) es ds:=by
 show(match bF sc x with |true=>aU sc (ad ρ x d) es ds |false=>none)=_
 rw [h]
theorem mT {sc:aq}{ρ ρ':Ro}{es:List PySem.Expr}{tk:Nat}{tp:Pos}{d:D}{ds:List D}(ht:kK aI (.Tuple es tk tp)=true)(hu:eX d=some ds)(hn:aU sc ρ es ds=some ρ'):bo sc aI ⟨ρ,none,false⟩ (.Tuple es tk tp) d=some ⟨ρ',none,false⟩:=by
 have h1:aG sc ρ (.Tuple es tk tp) d=some ρ':=by
  show(match eX d with |some ds=>aU sc ρ es ds |none=>none)=_
  rw [hu];exact hn
 show(match kK aI (.Tuple es tk tp)&&true with |true=>(match aG sc ρ (.Tuple es tk tp) d with |some ρ=>some {(⟨ρ,none,false⟩:bz)with ρ:=ρ} |none=>none) |false=>none)=_
 rw [ht,h1];rfl
theorem xt {x y z:Str}{p q r:Pos}{tk vk:Nat}{tp vp pos:Pos}{vs:List PySem.Expr}{Q:Flow→Shared→Prop}(hc:vs.all (constantsAlone 8)=false)(hh:A.handled=none)(C:be sc env own)(hx:bF sc x=true)(hy:bF sc y=true)(hz:bF sc z=true)(n1:ar z y=false)(n2:ar z x=false)(n3:ar y x=false)
  (h:wpAny (model prog w) A (eval (.Tuple vs vk vp) env) (fun u s₁=> ∃G₁ d ρ1 dx dy dz,Rd w.params G₁ u d∧eX d=some [dx,dy,dz]∧SO w.params sB GB env own ρ1 s₁ G₁∧
   ∀s2,SO w.params sB GB env own (ad (ad (ad ρ1 x dx) y dy) z dz) s2 G₁→Mv (Mine env own) s₁ G₁ s2 G₁→Q .next s2) E s):
  wpAny (model prog w) A (exec (.Assign [.Tuple [.Name x p,.Name y q,.Name z r] tk tp] (.Tuple vs vk vp) pos) env) Q E s:=by
 rw [exec_Assign_arm];refine wpAny_bind (wpAny_standAt ?_);rw [show swapsWithSole [.Tuple [.Name x p,.Name y q,.Name z r] tk tp] (.Tuple vs vk vp) pos.line env=pure false from rfl]
 refine wpAny_bind (wpAny_pure ?_);rw [if_neg (by decide)]
 refine wpAny_bind (wpAny_mono h (fun u s₁ h1=>?_) fun Z Z z=>z)
 obtain⟨G₁,d,ρ1,dx,dy,dz,rd,hu,V,k⟩:=h1;rcases CK (env:=env) (x:=x) (y:=y) (z:=z) (p:=p) (q:=q) (r:=r) (tk:=tk) (tp:=tp) (vk:=vk) (vp:=vp) hc with hw |hw
 ·rw [hw];refine wpAny_bind (wpAny_pure ?_);show wpAny _ A (do assignAll u [assign (.Tuple [.Name x p,.Name y q,.Name z r] tk tp) env];pure Flow.next) _ _ _
  have hb:=mT (sc:=sc) (ρ:=ρ1) (es:=[.Name x p,.Name y q,.Name z r]) (tk:=tk) (tp:=tp) rfl hu ((fc hx).trans ((fc hy).trans (fc hz)));refine wpAny_bind ?_;show wpAny _ A (assign (.Tuple [.Name x p,.Name y q,.Name z r] tk tp) env u) _ _ _
  exact wpAny_mono (cK hh C V rd hb) (fun Z s' z=>wpAny_pure (k s' z.1 z.2)) fun Z Z z=>z
 ·rw [hw];refine wpAny_bind (wpAny_pure ?_)
  show wpAny _ A (do
   rule "assign.swapped-stores"
   let items ←unpackItems u 3 none
   assignInOrder ([z,y,x].map fun n=>bindName env n) items.reverse
   pure Flow.next) _ E s₁
  refine wpAny_bind (wpAny_rule (wpAny_bind (wpAny_mono (gT hh V.inn rd hu rfl) (fun vs s2 h2=>?_) fun Z Z z=>z)))
  refine xa h2 fun r2 g2=>?_;refine aX r2.cons_i fun v1 Z z1 p1 q2=>?_;subst z1
  refine aX q2.cons_i fun v2 Z z2 p2 q3=>?_;subst z2
  refine aX q3.cons_i fun v3 Z z3 p3 q4=>?_;subst z3
  obtain rfl:=q4.nil_i;have V2:=V.grew g2
  show wpAny _ A (do
   (do holding _ (bindName env z v3);(do holding _ (bindName env y v2);(do holding _ (bindName env x v1);pure ())))
   pure Flow.next) _ E s2
  refine wpAny_bind (wpAny_bind (wpAny_holding (wpAny_bindName (lO C V2 p3 hz fun s3 V3 m3=>wpAny_bind (wpAny_holding (wpAny_bindName (lO C V3 p2 hy fun s4 V4 m4=>wpAny_bind (wpAny_holding (wpAny_bindName (lO C V4 p1 hx fun s5 V5 m5=>wpAny_pure (wpAny_pure ?_)))))))))))
  refine k s5 ?_ (((g2.mv.trans m3).trans m4).trans m5);have e:ad (ad (ad ρ1 z dz) y dy) x dx=ad (ad (ad ρ1 x dx) y dy) z dz:=by
   rw [c0 (ad ρ1 z dz) dy dx n3,c0 ρ1 dz dx n2,c0 (ad ρ1 x dx) dz dy n1]
  rw [←e];exact V5
end
set_option backward.match.sparseCases false
section
variable {prog:Program}{w:World}{mg mb:Str→Option Value}{k:Nat}{A:Around}{env:Env}{own:List (Str×Addr)}{s s₀ sB:Shared}{G GB:Kn}{E:Value→Shared→Prop}{sc:aq}{ρ:Ro}{st:Sr}{l:List Env}
theorem lH {x y:Str}{p q:Pos}{tk:Nat}{tp pos:Pos}{v:PySem.Expr}{Q:Flow→Shared→Prop}(hsw:kM (.Tuple [.Name x p,.Name y q] tk tp) v=true)(hs0:swapsWithSole [.Tuple [.Name x p,.Name y q] tk tp] v pos.line env=pure false)(hh:A.handled=none)(C:be sc env own)(hx:bF sc x=true)(hy:bF sc y=true)(n1:ar y x=false)
  (h:wpAny (model prog w) A (eval v env) (fun u s₁=> ∃G₁ d ρ1 dx dy,Rd w.params G₁ u d∧eX d=some [dx,dy]∧SO w.params sB GB env own ρ1 s₁ G₁∧
   ∀s2,SO w.params sB GB env own (ad (ad ρ1 x dx) y dy) s2 G₁→Mv (Mine env own) s₁ G₁ s2 G₁→Q .next s2) E s):
  wpAny (model prog w) A (exec (.Assign [.Tuple [.Name x p,.Name y q] tk tp] v pos) env) Q E s:=by
 rw [exec_Assign_arm];refine wpAny_bind (wpAny_standAt ?_);rw [hs0];refine wpAny_bind (wpAny_pure ?_);rw [if_neg (by decide)]
 refine wpAny_bind (wpAny_mono h (fun u s₁ h1=>?_) fun Z Z z=>z)
 obtain⟨G₁,d,ρ1,dx,dy,rd,hu,V,k⟩:=h1;rcases kL (env:=env) hsw with hw |⟨x',p',y',q',e,_,hw⟩
 ·rw [hw];refine wpAny_bind (wpAny_pure ?_);show wpAny _ A (do assignAll u [assign (.Tuple [.Name x p,.Name y q] tk tp) env];pure Flow.next) _ _ _
  have hb:=mT (sc:=sc) (ρ:=ρ1) (es:=[.Name x p,.Name y q]) (tk:=tk) (tp:=tp) rfl hu ((fc hx).trans (fc hy));refine wpAny_bind ?_;show wpAny _ A (assign (.Tuple [.Name x p,.Name y q] tk tp) env u) _ _ _
  exact wpAny_mono (cK hh C V rd hb) (fun Z s' z=>wpAny_pure (k s' z.1 z.2)) fun Z Z z=>z
 ·cases e;rw [hw];refine wpAny_bind (wpAny_pure ?_)
  show wpAny _ A (do
   rule "assign.swapped-stores"
   let items ←unpackItems u 2 none
   assignInOrder ([y,x].map fun n=>bindName env n) items.reverse
   pure Flow.next) _ E s₁
  refine wpAny_bind (wpAny_rule (wpAny_bind (wpAny_mono (gT hh V.inn rd hu rfl) (fun vs s2 h2=>?_) fun Z Z z=>z)))
  refine xa h2 fun r2 g2=>?_;refine aX r2.cons_i fun v1 Z z1 p1 q2=>?_;subst z1
  refine aX q2.cons_i fun v2 Z z2 p2 q3=>?_;subst z2
  obtain rfl:=q3.nil_i;have V2:=V.grew g2
  show wpAny _ A (do
   (do holding _ (bindName env y v2);(do holding _ (bindName env x v1);pure ()))
   pure Flow.next) _ E s2
  refine wpAny_bind (wpAny_bind (wpAny_holding (wpAny_bindName (lO C V2 p2 hy fun s4 V4 m4=>wpAny_bind (wpAny_holding (wpAny_bindName (lO C V4 p1 hx fun s5 V5 m5=>wpAny_pure (wpAny_pure ?_))))))))
  refine k s5 ?_ ((g2.mv.trans m4).trans m5);rw [c0 ρ1 dy dx n1]at V5;exact V5
theorem qq {t:PySem.Expr}{b:List Stmt}{items:List D}{I:Addr}{wr:Addr→Prop}{St:Nat→Heap→Prop}{G₀:Kn}{R:Result→Shared→Prop}(bd:Ro→D→Ro)(J:Nat→Shared→Kn→Ro→Prop)(T:c7 prog w A t I wr items G₀ St)
  (hbd:∀d∈items,∀ρ,bo sc aI ⟨ρ,none,false⟩ t d=some ⟨bd ρ d,none,false⟩)(hle:∀i s' G' ρ',J i s' G' ρ'→G₀.Le G')
  (hh:A.handled=none)(C:be sc env own)(S:SO w.params sB GB env own ρ s G)(j0:J 0 s G ρ)(st0:St 0 s.heap)
  (hw:∀b,wr b→(G b=none∧b<s.heap.objs.size)∧¬Mine env own b∧sB.heap.objs.size≤b)
  (step:∀i d s' G' ρ' (E':Value→Shared→Prop),items[i]? =some d→J i s' G' ρ'→SO w.params sB GB env own ρ' s' G'→∀s₁ G₁,Mv (XX env own wr) s' G' s₁ G₁→SO w.params sB GB env own (bd ρ' d) s₁ G₁→
   wpAny (model prog w) A (execs b env) (fun f s2=>match f with
    | .next | .cont=> ∃G2 ρ2 Y,SO w.params sB GB env own ρ2 s2 G2∧J (i+1) s2 G2 ρ2∧Mv Y s₁ G₁ s2 G2∧∀b,Y b→¬wr b
    | .ret v=>R (.ok (.ret v)) s2
    | .brk=>False) E' s₁)
  (fin:∀s' G' ρ',J items.length s' G' ρ'→SO w.params sB GB env own ρ' s' G'→∀s₁,Mv wr s' G' s₁ G'→SO w.params sB GB env own ρ' s₁ G'→R (.ok .next) s₁):
  codeAny (model prog w) A (.forLoop t (.ref I) b [] env) R s:=by
 refine codeAny_forLoop_any (fun n s'=> ∃i G' ρ',n=items.length - i∧i≤items.length∧St i s'.heap∧SO w.params sB GB env own ρ' s' G'∧J i s' G' ρ'∧s.heap.objs.size≤s'.heap.objs.size∧
  (∀b,wr b→G' b=none)) (fun n s' hI=>?_) items.length ⟨0,G,ρ,rfl,Nat.zero_le _,st0,S,j0,Nat.le_refl _,fun b hb=>(hw b hb).1.1⟩
 refine dC fun Q1 k1=>?_;obtain⟨i,G',ρ',hn,hi,sti,S',j,hz,hwG⟩:=hI;have le:=hle i s' G' ρ' j;by_cases hil:i=items.length
 ·subst hil;refine wpAny_mono (T.done s' G' _ sti S'.inn le hwG) (fun r s3 h3=>?_) fun Z Z z=>z
  obtain⟨rfl,m3⟩:=h3;refine k1 _ _ ?_;exact wpAny_execs_nil (fin s' G' ρ' j S' s3 m3 (S'.mut m3 fun a h=>(hw a h).2))
 ·have hlt:i<items.length:=Nat.lt_of_le_of_ne hi hil;refine wpAny_mono (T.item i items[i] s' G' _ (by simp [hlt]) sti S'.inn le hwG) (fun r s3 h3=>?_) fun Z Z z=>z
  obtain⟨v,rfl,h3⟩:=h3;refine k1 _ _ ?_;refine wpAny_mono h3 (fun Z s4 h4=>?_) fun Z Z z=>z
  obtain⟨G4,m4,rd,st4⟩:=h4;have S4:=S'.mut m4 fun a h=>(hw a h).2
  refine wpAny_mono (cK hh C S4 rd (hbd _ (List.getElem_mem hlt) ρ')) (fun Z s5 z5=>?_) fun Z Z z=>z
  obtain⟨S5,m5⟩:=z5;have m45:Mv (XX env own wr) s' G' s5 G4:=(m4.weak fun b h=>.inr h).trans m5.lm
  refine dC fun Q2 k2=>?_;refine wpAny_mono (step i items[i] s' G' ρ' _ (by simp [hlt]) j S' s5 G4 m45 S5) (fun f s6 h6=>?_) fun Z Z z=>z
  have go:(∃G2 ρ2 Y,SO w.params sB GB env own ρ2 s6 G2∧J (i+1) s6 G2 ρ2∧Mv Y s5 G4 s6 G2∧∀b,Y b→¬wr b)→∃m,m<n∧∃i G' ρ',m=items.length - i∧i≤items.length∧St i s6.heap∧SO w.params sB GB env own ρ' s6 G'∧J i s6 G' ρ'∧s.heap.objs.size≤s6.heap.objs.size∧(∀b,wr b→G' b=none):=by
   rintro ⟨G2,ρ2,Y,S6,j₆,m6,hY⟩
   have hz5:s.heap.objs.size≤s5.heap.objs.size:=Nat.le_trans hz (Nat.le_trans m4.size m5.size);refine⟨items.length - (i+1),by omega,i+1,G2,ρ2,rfl,hlt,T.frame _ _ _ st4 fun a o ha e=>?_,S6,j₆,Nat.le_trans hz5 m6.size,fun b hb=>?_⟩
   ·rcases ha with ha |⟨ob,ha⟩
    ·exact m6.keep a o (fun y=>hY a y ha) (m5.keep a o (hw a ha).2.1 e)
    ·have h1:=m4.le a ob (le a ob ha);rw [m4.inn a ob h1]at e;obtain rfl:=Option.some.inj e;exact m6.inn a _ (m6.le a _ (m5.le a _ h1))
   ·have n4:=m4.none_lt (hwG b hb) (Nat.lt_of_lt_of_le (hw b hb).1.2 hz);exact m6.none_lt (m5.none_lt n4 (Nat.lt_of_lt_of_le (hw b hb).1.2 (Nat.le_trans hz m4.size))) (Nat.lt_of_lt_of_le (hw b hb).1.2 hz5)
  cases f with
  |next=>exact k2 _ _ (go h6)
  |cont=>exact k2 _ _ (go h6)
  |brk=>exact h6.elim
  |ret v=>exact k2 _ _ h6
noncomputable def xv (s₀ s:Shared)(b:Addr):Prop:=s₀.heap.get? b=none∧∃o vs,s.heap.get? b=some o∧o.data=.fields vs
theorem yT {e:Addr}{np pos:Pos}{b0:Stmt}{suite:List Stmt}{rest:List ExceptHandler}{Q:Flow→Shared→Prop}(hB:Cx (KP w.params) mg mb sB)(hce:mg "CycleError" =some (.ref 96))(U0:Up sB s₀)(I0:G.In s₀.heap)(U:Up sB s)(I:G.In s.heap)(T:cj A (env::l) sB G s.heap)(hs:aD sc env)(hx:aY sc "CycleError" =true)
  (fl:j2 s₀ s e)(h:∀s4 (E':Value→Shared→Prop),Mw (xv s₀ s) (aC (env::l)) s G s4 G→wpAny (model prog w) (A.mark (some (.ref e))) (execs (b0::suite) env) Q E' s4):
  wpAny (model prog w) A (noteFrame (.ref e) env) (fun Z s2=>wpAny (model prog w) A (setFlight (.ref e) none) (fun Z s3=>wpAny (model prog w) A (handleBy (.ref e) env (.ExceptHandler (some (.Name "CycleError" np)) none (b0::suite) pos::rest)) Q E s3) E s2) E s:=by
 obtain⟨oe,vs,a0,T',oT,ts,x1,x2,x3,x4,x5,x6,x7,x8,x9,x10⟩:=fl;have re:xv s₀ s e:=⟨x9,_,_,x1,x3⟩;have rT:xv s₀ s T':=⟨x10,_,_,x6,x7⟩;have memB:∀{b o},s.heap.get? b=some o→b≠e→b≠T'→b∉aC (env::l)→(hideAll s.heap (e::T'::aC (env::l))).get? b=some o:=fun{b o} q n1 n2 n3=>hideAll_get _ q fun hm=>by
  rcases List.mem_cons.mp hm with z |hm
  ·exact n1 z
  ·rcases List.mem_cons.mp hm with z |z
   ·exact n2 z
   ·exact n3 z
 have memB':∀{b o},(hideAll s.heap (e::T'::aC (env::l))).get? b=some o→s.heap.get? b=some o:=fun q=>of_hideAll _ q
 have hid:∀{b},b∈e::T'::aC (env::l)→(hideAll s.heap (e::T'::aC (env::l))).get? b=none:=fun hm=>hideAll_none _ hm
 obtain⟨hk,L,oL,hf,hoL,hdL,hGL,hzL⟩:=T.ok env List.mem_cons_self;generalize hb:hideAll s.heap (e::T'::aC (env::l))=base at memB memB' hid;have FF:s.heap.FunFrames base (env::l):=cj.fun (A:=A) (sB:=sB) (G:=G) fun en hen=>by
  refine kH (T.ok en hen) fun hk L o hf ho hd Z=>?_;exact⟨hk,L,o,hf,ho,hd,hid (List.mem_cons_of_mem _ (List.mem_cons_of_mem _ (List.mem_filterMap.mpr ⟨en,hen,hf⟩)))⟩
 have fly:Heap.FlyingW base (env::l) e (.ref 96) a0 s.heap:=⟨fun b o q=>memB' q,hid List.mem_cons_self,FF,oe,vs,T',oT,ts,x1,x2,x3,x4,hid (List.mem_cons_of_mem _ List.mem_cons_self),x5,x6,x7,x8⟩
 have upB:∀{h':Heap},base.StaysIn h'→s.heap.objs.size≤h'.objs.size→Up sB {s with heap:=h'}:=fun{h'} k z=>by
  refine aV U.same fun hh tkk hsame=>?_;refine⟨⟨h',s.toks,by rw [hsame]⟩,Nat.le_trans U.size z,U.tk,fun b o q=>k b o (memB (U.keep b o q) (fun y=>?_) (fun y=>?_) fun y=>?_)⟩
  ·have:=U0.keep b o q;rw [y,x9]at this;exact(aa this).elim
  ·have:=U0.keep b o q;rw [y,x10]at this;exact(aa this).elim
  ·exact absurd (Heap.lt_size q) (Nat.not_lt.mpr (T.mem y).2.2)
 refine aK (wpAny_looks_onW T.fr hf fly fun h2 held sm2 z2=>?_)
 refine aK (wpAny_landsW held fun h3 fly3 sm3 z3=>?_)
 have zz3:s.heap.objs.size≤h3.objs.size:=Nat.le_trans z2.1 z3.1;have U3:=upB fly3.1 zz3;refine wpAny_handleBy_cons (codeAny_handlers_test (di (U3.cx hB) hs hx hce ?_)) (by intro q;cases q)
 refine ah fly3.there fun ob hob hcls=>?_;refine wpAny_excMatches_sub_self (E:=_) ((U3.cx hB).kin _ _ (ux _)) hob hcls (by decide) ?_
 refine codeAny_handlers_suite ?_;refine aK (lands_againW fly3 fun h4 fly4 sm4 z4=>?_)
 have zz4:s.heap.objs.size≤h4.objs.size:=Nat.le_trans zz3 z4.1;refine h _ _ ⟨⟨h4,s.toks,rfl⟩,zz4,Nat.le_refl _,fun b o nx nf q=>fly4.1 b o (memB q (fun y=>nx (y▸re)) (fun y=>nx (y▸rT)) nf),fun b o nx q=>?_,.refl _,fun a o q=>?_,fun Z Z q=>.inl q⟩
 ·by_cases hm:b∈aC (env::l)
  ·refine xa (T.mem hm) fun z5 Z=>?_;obtain⟨o',ho',hd'⟩:=z5
   rw [q]at ho';obtain rfl:=Option.some.inj ho';refine xe (sm2 b o q hd') fun sl q2=>?_;refine xe (sm3 b _ q2 hd') fun sl3 q3=>?_;refine xe (sm4 b _ q3 hd') fun sl4 q4=>?_;exact⟨sl4,q4⟩
  ·exact⟨o.slots,fly4.1 b o (memB q (fun y=>nx (y▸re)) (fun y=>nx (y▸rT)) hm)⟩
 ·refine fly4.1 a o (memB (I a o q) (fun y=>?_) (fun y=>?_) fun y=>?_)
  ·have:=I0 a o q;rw [y,x9]at this;exact(aa this).elim
  ·have:=I0 a o q;rw [y,x10]at this;exact(aa this).elim
  ·rw [(T.mem y).2.1]at q;exact(aa q).elim
end
noncomputable def A1 (f:Str):Nat:=if ar f "_law_takes" then 8 else if ar f "_law_told" then 3 else if ar f "_translate" ||ar f "_levenshtein_distance" then 2 else 1
noncomputable def ib:cS:=fun f args=>bV NF (A1 f) f args
section
variable {prog:Program}{w:World}{K:Frag}{mg mb:Str→Option Value}{k:Nat}{ρ:Ro}
theorem gM.up {j:Nat}{a:Addr}{args:List D}{d:D}(h:gM prog w K mg mb j a args d)(le:j≤k):gM prog w K mg mb k a args d:=fun A s G vs E rm=>
 h A s G vs E ⟨rm.hh,by have:=rm.hd;lia,by have:=rm.hu;lia⟩
theorem pV (hm:MgOK mg)(he:fu prog w mg mb)(hgc:fq w mg mb bw)(hk:8≤k):fi prog w (KP w.params) mg mb k ib:=fun f args d h=>by
 refine aR (kW hm he hgc NF (A1 f) f args d h) fun a h1 h2 h3=>?_;refine⟨a,h1,h2,h3.up (Nat.le_trans ?_ hk)⟩;unfold A1
 split
 ·decide
 split
 ·decide
 split<;>decide
end
noncomputable abbrev RA (n:Nat):bm:=av ib bw n
theorem ir {prog:Program}{w:World}{mg mb:Str→Option Value}{k:Nat}(hm:MgOK mg)(he:fu prog w mg mb)(hgc:fq w mg mb bw)(hk:8≤k) (n:Nat):aw prog w (KP w.params) mg mb k (RA n):=gQ _ _ (pV hm he hgc hk) hgc n (fun h=>absurd h (by decide+kernel))
theorem Ci {p:List Nat}(hp:p∈ [] ::fD):ib "_translate" [.str p,.none,.str pd]=some (.list (cv p)):=u1 hp
theorem Ck {p o:List Nat}(hp:p∈fD)(ho:o∈ay):∃b,ib "_law_takes" [.list (cv p),.str o]=some (.bool b)∧jk p o=some b:=by
 refine ah (qT hp ho) fun b h1 h2=>?_;exact⟨b,h1,by unfold jk;rw [h2];rfl⟩
theorem AR:ay.all cD=true:=by decide+kernel
theorem AQ:([] ::fD).all cD=true:=by decide+kernel
noncomputable abbrev br:=List Nat×List Nat
structure cG (J:List br):Prop where
 len:J.length≤20
 nd:(J.map (·.1)).Nodup
 nm:∀q∈J,q.1∈ay
 pt:∀q∈J,q.2∈ [] ::fD
noncomputable def bH (J:List br)(q:br):List Nm:=(J.map (·.1)).filter (dA jk q.1 q.2)
noncomputable def SB:List Stmt:=bj 239
noncomputable def SF:List Stmt:=j6 (bh SB 1)
noncomputable def SC:PySem.Expr:=dU (bh SF 2)
theorem wI:SC=.ListComp (a8 SC 0) [⟨(ak SC).target,(ak SC).iter,[dh (ak SC).ifs 0],0⟩] (af SC) SC.pos:=by kernel_rfl
noncomputable def kF (self:Addr)(J:List br):Ro:=ad (ad (ad (ad aT "jobs" (al J)) "sorter" (.adr self)) "names" (ag (J.map (·.1)))) "ring" (.bool false)
noncomputable def qI (self:Addr)(J:List br)(q:br):Ro:=ad (ad (kF self J) "name" (.str q.1)) "pattern" (.str q.2)
noncomputable def gv (self:Addr)(J:List br)(q:br):Ro:=ad (qI self J q) "parts" (.list (cv q.2))
noncomputable def qJ (ρ:Ro)(o:List Nat):Ro:=ad (aH (af SC).names ρ) "other" (.str o)
noncomputable def rG (c:Option D)(n p o:List Nat):Option Bool:=jP (bg .NotEq (.str o) (.str n)) (jP (bg .NotEq (.str p) (.str [])) (jP (match c with |none=>none |some d=>eC d) (some true)))
theorem vH {c:Option D}{n p o:List Nat}(hn:cD n=true)(hp:cD p=true)(ho:cD o=true)(h:aF p []=false→∃b,c=some (.bool b)∧jk p o=some b):rG c n p o=some (dA jk n p o):=by
 unfold rG dA;rw [jz ho hn,jz hp rfl];cases q1:aF o n with
 |true=>rfl
 |false=>
  cases q2:aF p []with
  |true=>rfl
  |false=>
   refine ah (h q2) fun b hb hf=>?_;rw [hb,hf];cases b<;>rfl
theorem DA (Φ:cS)(self:Addr)(JD ND:D)(n p o:List Nat)(l:D):aM ((av Φ bw 58).ts (af SC).names (qJ (ad (ad (ad (ad (ad (ad (ad aT "jobs" JD) "sorter" (.adr self)) "names" ND) "ring" (.bool false)) "name" (.str n)) "pattern" (.str p)) "parts" l) o)) [dh (ak SC).ifs 0]=rG (Φ "_law_takes" [l,.str o]) n p o:=by kernel_rfl
theorem y7 (self:Addr)(JD:D)(l:List D)(n p:List Nat)(x:D):bb (RA 58) (an 239).names (ad (ad (ad (ad (ad (ad (ad aT "jobs" JD) "sorter" (.adr self)) "names" (.list l)) "ring" (.bool false)) "name" (.str n)) "pattern" (.str p)) "parts" x) (ak SC).target (ak SC).iter=bn (.list l):=by kernel_rfl
theorem y8 (ρ:Ro)(o:List Nat):aG (af SC).names (aH (af SC).names ρ) (ak SC).target (.str o)=some (qJ ρ o):=by kernel_rfl
theorem BP (ρ:Ro)(o:List Nat):bp ((RA 58).ev (af SC).names (qJ ρ o) (a8 SC 0))=some [.str o]:=by kernel_rfl
theorem DB (self:Addr){J:List br}(hJ:cG J){q:br}(hq:q∈J):(RA 59).ev (an 239).names (gv self J q) SC=some (ag (bH J q)):=by
 rw [wI];have hi:bb (RA 58) (an 239).names (gv self J q) (ak SC).target (ak SC).iter=some ((J.map (·.1)).map .str):=by
  refine(y7 _ _ _ _ _ _).trans ?_;unfold bn;dsimp only;rw [if_pos (by rw [List.length_map,List.length_map];have:=hJ.len;lia)]
 have hn:=hJ.nm q hq;have hp:=hJ.pt q hq;have jh:∀{x},x∈ay→cD x=true:=fun h=>List.all_eq_true.mp AR _ h
 have hl:=bX (sc:=(af SC).names) (t:=(ak SC).target) (ts:=fun ρ'=>aM ((RA 58).ts (af SC).names ρ') [dh (ak SC).ifs 0]) (f:=fun ρ'=>bp ((RA 58).ev (af SC).names ρ' (a8 SC 0))) (ρ:=aH (af SC).names (gv self J q))
  D.str (dA jk q.1 q.2) D.str (J.map (·.1)) (fun o hm=>⟨qJ (gv self J q) o,y8 _ o,(DA ib self _ _ q.1 q.2 o (.list (cv q.2))).trans (vH (jh hn) (List.all_eq_true.mp AQ _ hp) (by refine ah (List.mem_map.mp hm) fun r hr z1=>?_;subst z1;exact jh (hJ.nm r hr)) fun hne=>?_),fun Z=>BP _ o⟩)
 ·exact cQ (by kernel_rfl) (by kernel_rfl) hi hl (by rw [List.length_map];unfold bH;have:=List.length_filter_le (dA jk q.1 q.2) (J.map (·.1));rw [List.length_map]at this;have:=hJ.len;lia)
 ·refine ah (List.mem_map.mp hm) fun r hr z2=>?_;subst z2
  have hp':q.2∈fD:=(List.mem_cons.mp hp).resolve_left fun z=>by rw [z]at hne;exact(cb hne).elim
  exact Ck hp' (hJ.nm r hr)
noncomputable def du (J:List br)(L:AN)(q:br):AN:=(bH J q).foldl (fun L y=>dF L q.1 [y]) (dF L q.1 [])
noncomputable def bR (J:List br):AN:=J.foldl (du J) []
theorem ic {L:AN}{x:Nm}:∀y∈(aZ L x).map (·.1),y∈L.map (·.1)∨y=x:=fun y hy=>by
 unfold aZ at hy
 split at hy
 ·exact .inl hy
 ·rw [List.map_append]at hy;exact(List.mem_append.mp hy).imp id fun h=>List.mem_singleton.mp h
theorem rH:∀(xs:List Nm)(L:AN)(x:Nm),∀y∈(dF L x xs).map (·.1),y∈L.map (·.1)∨y=x∨y∈xs:=by
 intro xs L x;have key:∀(xs:List Nm) (L:AN),∀y∈(xs.foldl (fun L y=>gK (aZ L y) y x) L).map (·.1),y∈L.map (·.1)∨y∈xs:=by
  intro xs
  induction xs with
  |nil=>exact fun L y hy=>.inl hy
  |cons a r ih=>
   intro L y hy;rcases ih _ y hy with h |h
   ·unfold gK at h;rw [a9]at h;exact(ic y h).imp id fun(z:y=a)=>by rw [z];exact List.mem_cons_self
   ·exact .inr (List.mem_cons_of_mem _ h)
 intro y hy;rcases key xs _ y hy with h |h
 ·unfold i4 at h;rw [a9]at h;exact(ic y h).imp id .inl
 ·exact .inr (.inr h)
theorem vT {x:Nm}:∀(xs:List Nm)(L:AN) (c:Nat),(∀p∈L,p.2.2.length≤c)→∀p∈dF L x xs,p.2.2.length≤c+xs.length:=by
 intro xs L c h;have key:∀(xs:List Nm) (L:AN) (c:Nat),(∀p∈L,p.2.2.length≤c)→∀p∈xs.foldl (fun L y=>gK (aZ L y) y x) L,p.2.2.length≤c+xs.length:=by
  intro xs
  induction xs with
  |nil=>exact fun L c h=>h
  |cons a r ih=>
   intro L c h
   have:=ih (gK (aZ L a) a x) (c+1) (jU (fU h) (Nat.le_succ c) fun q hq=>by
    show(q.2++ [x]).length≤c+1
    rw [List.length_append]
    exact Nat.add_le_add_right hq 1)
   intro p hp;have h2:=this p hp;rw [List.length_cons]
   lia
 exact key xs _ c (jU (fU h) (Nat.le_refl c) fun q hq=>hq)
theorem DW (P:Params)(a:Value):dG (KP P) 239 (an 239) (aO 239) (bj 239) [a] (pure ((aO 239).zip [a])):=
 ek (by kernel_rfl) (by kernel_rfl) (by kernel_rfl) (by kernel_rfl) (by kernel_rfl) (by kernel_rfl) (by kernel_rfl) (by kernel_rfl)
noncomputable def SN:PySem.Expr:=a8 (dU (bh SB 0)) 1
noncomputable def SP:PySem.Expr:=dU (bh SF 1)
theorem wH:SN=.ListComp (a8 SN 0) [⟨(ak SN).target,(ak SN).iter,[],0⟩] (af SN) SN.pos:=by kernel_rfl
theorem Dz (J:List br)(hJ:J.length≤1000):(RA 59).ev (an 239).names (aW aT (aO 239) [al J]) SN=some (ag (J.map (·.1))):=by
 rw [wH];have hq:bb (RA 58) (an 239).names (aW aT (aO 239) [al J]) (ak SN).target (ak SN).iter=some (J.map dk):=by
  have e:bb (RA 58) (an 239).names (aW aT (aO 239) [al J]) (ak SN).target (ak SN).iter=bn (al J):=by kernel_rfl
  rw [e,gX J hJ]
 have hl:=bX (sc:=(af SN).names) (t:=(ak SN).target) (ts:=fun ρ'=>aM ((RA 58).ts (af SN).names ρ') []) (f:=fun ρ'=>bp ((RA 58).ev (af SN).names ρ' (a8 SN 0))) (ρ:=aH (af SN).names (aW aT (aO 239) [al J]))
  dk (fun Z=>true) (fun p=>.str p.1) J (fun a Z=>⟨ad (ad (aH (af SN).names (aW aT (aO 239) [al J])) "name" (.str a.1)) "pattern" (.str a.2),by kernel_rfl,by kernel_rfl,fun Z=>by kernel_rfl⟩)
 rw [List.filter_eq_self.mpr fun Z Z=>rfl]at hl
 unfold ag;rw [List.map_map];exact cQ (by kernel_rfl) (by kernel_rfl) hq hl (by rw [List.length_map];lia)
theorem BO (Φ:cS)(self:Addr)(JD ND:D)(n p:List Nat):(av Φ bw 59).ev (an 239).names (ad (ad (ad (ad (ad (ad aT "jobs" JD) "sorter" (.adr self)) "names" ND) "ring" (.bool false)) "name" (.str n)) "pattern" (.str p)) SP=Φ "_translate" [.str p,.none,.str pd]:=by kernel_rfl
theorem Dy (self:Addr){J:List br}(hJ:cG J){q:br}(hq:q∈J):(RA 59).ev (an 239).names (qI self J q) SP=some (.list (cv q.2)):=(BO _ _ _ _ _ _).trans (Ci (hJ.pt q hq))
noncomputable def Eh (ρ:Ro)(d:D):Ro:=match d with | .list [a,b]=>ad (ad ρ "name" a) "pattern" b |_=>ρ
theorem y2 {J:List br}:∀d∈J.map dk,∀ρ,bo (an 239).names aI ⟨ρ,none,false⟩ (uF (bh SB 1)) d=some ⟨Eh ρ d,none,false⟩:=by
 intro d hd ρ;refine ah (List.mem_map.mp hd) fun q Z z1=>?_;subst z1
 kernel_rfl
section
variable {prog:Program}{w:World}{K:Frag}{mg mb:Str→Option Value}{k:Nat}{R:bm}{A:Around}{env:Env}{own:List (Str×Addr)}{s s' s₀ sB:Shared}{G G' G₀ GB:Kn}{E:Value→Shared→Prop}{sc:aq}{ρ:Ro}{st:Sr}{l:List Env}
theorem jI (H:aw prog w K mg mb k R)(rm:am k A)(hs:aD sc env)(hB:Cx K mg mb sB)(S:SO w.params sB GB env own ρ s G){e e':PySem.Expr}(he:e=e'){d:D}{Q:Value→Shared→Prop}(q:R.ev sc ρ e'=some d)
  (h:∀v s₁ G₁,ae s G s₁ G₁→Rd w.params G₁ v d→SO w.params sB GB env own ρ s₁ G₁→Q v s₁):wpAny (model prog w) A (eval e env) Q E s:=by
 subst he;exact Fn H rm hs hB S q h
theorem zI (H:aw prog w K mg mb k R)(rm:am k A)(hs:aD sc env)(hB:Cx K mg mb sB)(S:SO w.params sB GB env own ρ s G){e e':PySem.Expr}(he:e=e'){b:Bool}{Q:Bool→Shared→Prop}(q:R.ts sc ρ e'=some b)
  (h:∀s₁ G₁,ae s G s₁ G₁→SO w.params sB GB env own ρ s₁ G₁→Q b s₁):wpAny (model prog w) A (isTrue e env (eval e env)) Q E s:=by
 subst he;exact jT (H.ts sc ρ e b q A env s G E rm (S.cx hB) hs S.plain.env) fun s₁ G₁ g=>h s₁ G₁ g (S.grew g)
theorem cj.sto' (T:cj A (env::l) sB G s.heap){ρ':Ro}(V:SO w.params sB GB env own ρ' s' G')(m:Mv (Mine env own) s G s' G')(cel:∀a∈aC (env::l),∀n,(n,a)∉own):cj A (env::l) sB G' s'.heap:=by
 refine⟨T.fr,fun en he=>?_⟩
 obtain⟨hk,L,o,hf,ho,hd,hG,hz⟩:=T.ok en he;have hG':=m.none_lt hG (Heap.lt_size ho);by_cases z:Mine env own L
 ·refine aA V.plain.ex fun m1 cm F Z=>?_;rcases z with rfl |⟨n,hm⟩
  ·refine ck F.ns fun o' es ep ho' hd' Z=>?_;exact⟨hk,_,o',hf,ho',(fun vs q=>by rw [hd']at q;cases q),hG',hz⟩
  ·exact absurd hm (cel L (List.mem_filterMap.mpr ⟨en,he,hf⟩) n)
 ·exact⟨hk,L,o,hf,m.keep L o z ho,hd,hG',hz⟩
theorem rK (V:SO w.params sB GB env own ρ s G){a:Addr}(m:Mine env own a):∃o,s.heap.get? a=some o∧∀vs,o.data≠ .fields vs:=by
 refine aA V.plain.ex fun m1 cm F Z=>?_;rcases m with rfl |⟨x,hm⟩
 ·refine ck F.ns fun o es ep ho hd Z=>?_;exact⟨o,ho,fun vs q=>by rw [hd]at q;cases q⟩
 ·refine ah (F.cell x a (F.nd x a hm)) fun o ho hd=>?_;exact⟨o,ho,fun vs q=>by rw [hd]at q;cases q⟩
structure eJ (w:World)(sB:Shared)(env:Env)(own:List (Str×Addr))(s₀:Shared)(G₀:Kn)(wr:Addr→Prop)(N:List Nm)(me:Addr)(L:AN) (c:Nat)(s:Shared)(G:Kn)(st:Sr):Prop where
 S:az w.params sB G s st
 slf:st.self=me
 ab:st.ab=L
 rdy:st.ready=none
 ft:∀a,foot st a→s₀.heap.objs.size≤a∧¬Mine env own a∧¬wr a
 mv:Mv (Mine env own) s₀ G₀ s G
 nm:∀x∈L.map (·.1),x∈N
 len:∀p∈L,p.2.2.length≤c
theorem eJ.move {wr:Addr→Prop}{N:List Nm}{me:Addr}{L:AN}{c:Nat}{X:Addr→Prop}(F:eJ w sB env own s₀ G₀ wr N me L c s G st)(m:Mv X s G s' G')(h:∀a,X a→Mine env own a∨(s₀.heap.objs.size≤a∧¬foot st a)):eJ w sB env own s₀ G₀ wr N me L c s' G' st:=
 ⟨F.S.keep m fun a f x=>(h a x).elim (F.ft a f).2.1 fun z=>z.2 f,F.slf,F.ab,F.rdy,F.ft,F.mv.fresh_trans m fun a x=>(h a x).imp id And.left,F.nm,F.len⟩
theorem eJ.grew {wr:Addr→Prop}{N:List Nm}{me:Addr}{L:AN}{c:Nat}(F:eJ w sB env own s₀ G₀ wr N me L c s G st)(g:ae s G s' G'):eJ w sB env own s₀ G₀ wr N me L c s' G' st:=F.move (X:=fun Z=>False) g.mv fun Z f=>f.elim
theorem eJ.add {wr:Addr→Prop}{N:List Nm}{me:Addr}{L:AN}{c:Nat}{x:Nm}{t:Tok}{pvs:List Value}{xs:List Nm}{Q:Value→Shared→Prop}(F:eJ w sB env own s₀ G₀ wr N me L c s G st)(V:SO w.params sB GB env own ρ s G)(hF:dG (KP w.params) 128 (an 128) gf (bj 128) (.ref st.self:: .str (Mine.mk x) t::pvs) (newTuple pvs>>=fun u=>pure (gf.zip [.ref st.self,.str (Mine.mk x) t,u])))
  (rm:am (k+6) A)(hB:Cx (KP w.params) mg mb sB)(hg:mg "_NodeInfo" =some (.ref 81))(rx:ai w.params bW pvs (xs.map .str))(hN:N.length≤30)(hc:c≤400)(hxs:xs.length≤30)(hx:x∈N)(hy:∀y∈xs,y∈N)(hwr:∀a,wr a→a<s.heap.objs.size)
  (h:∀s' st',Mv (fun a=>foot st a) s G s' G→SO w.params sB GB env own ρ s' G→eJ w sB env own s₀ G₀ wr N me (dF L x xs) (c+xs.length) s' G st'→Q .none s'):wpAny (model prog w) A (call (.ref 128) (.ref st.self:: .str (Mine.mk x) t::pvs)) Q E s:=by
 have hz:=F.mv.size;have hnl:st.nodes.length≤N.length:=by
  have h1:st.nodes.length=(st.nodes.map (·.nm)).length:=by rw [List.length_map]
  rw [h1];exact ch F.S.wf.nms fun y hy=>F.nm y (by rw [←F.ab,bQ];exact hy)
 refine wG hF rm hB hg V.up V.inn F.S rx F.rdy (by lia) (fun p hp=>Nat.le_trans (F.len p (F.ab▸hp)) (by lia)) fun s' st' m S' nx ab r=>?_
 refine h s' st' m (V.mut m fun a f=>⟨(F.ft a f).2.1,(F.S.off a f).2⟩) ⟨S',nx.self.trans F.slf,by rw [ab,F.ab],r,fun a f=>(nx.foot a f).elim (F.ft a) fun z=>⟨Nat.le_trans hz z,aS V z,fun ww=>Nat.lt_irrefl _ (Nat.lt_of_lt_of_le (hwr a ww) z)⟩,F.mv.fresh_trans m fun a f=>.inr (F.ft a f).1,fun y hy'=>?_,vT xs L c F.len⟩
 rcases rH xs L x y hy' with q |rfl |q
 ·exact F.nm y q
 ·exact hx
 ·exact hy y q
end
noncomputable def jo (L:AN):Prop:= ∀p∈L,∀y∈p.2.2,y∈L.map (·.1)
theorem gO {L:AN}{x:Nm}:∀y∈L.map (·.1),y∈(aZ L x).map (·.1):=fun y hy=>by
 unfold aZ
 split
 ·exact hy
 ·rw [List.map_append];exact List.mem_append_left _ hy
theorem gd {L:AN}{x:Nm}:x∈(aZ L x).map (·.1):=by
 unfold aZ
 split
 ·assumption
 ·rw [List.map_append];exact List.mem_append_right _ (by simp)
theorem gP {L:AN}{x:Nm}(h:jo L):jo (aZ L x):=fun p hp y hy=>by
 refine gO y ?_;unfold aZ at hp
 split at hp
 ·exact h p hp y hy
 ·rcases List.mem_append.mp hp with q |q
  ·exact h p q y hy
  ·cases List.mem_singleton.mp q;cases hy
theorem oR {L:AN}{x:Nm}(xs:List Nm)(h:jo L):jo (dF L x xs):=by
 have key:∀(xs:List Nm) (L:AN),jo L→x∈L.map (·.1)→jo (xs.foldl (fun L y=>gK (aZ L y) y x) L):=by
  intro xs
  induction xs with
  |nil=>exact fun L h Z=>h
  |cons a r ih=>
   intro L h hx;refine ih _ (fun p hp y hy=>?_) ?_
   ·unfold gK at hp⊢;rw [a9];refine ah (List.mem_map.mp hp) fun q hq z1=>?_;subst z1
    by_cases z:q.1=a
    ·rw [if_pos z]at hy;rcases List.mem_append.mp hy with hy |hy
     ·exact gP h q hq y hy
     ·rw [List.mem_singleton.mp hy];exact gO x hx
    ·rw [if_neg z]at hy;exact gP h q hq y hy
   ·unfold gK;rw [a9];exact gO x hx
 refine key xs _ (fun p hp y hy=>?_) ?_
 ·unfold i4 at hp⊢;rw [a9];refine ah (List.mem_map.mp hp) fun q hq z2=>?_;subst z2
  by_cases z:q.1=x
  ·rw [if_pos z]at hy;exact gP h q hq y hy
  ·rw [if_neg z]at hy;exact gP h q hq y hy
 ·unfold i4;rw [a9];exact gd
theorem oQ (J:List br):jo (bR J):=by
 have h1:∀(ys:List Nm) (x:Nm) (L:AN),jo L→jo (ys.foldl (fun L y=>dF L x [y]) L):=by
  intro ys x
  induction ys with
  |nil=>exact fun L h=>h
  |cons a r ih=>exact fun L h=>ih _ (oR _ h)
 have h2:∀(l:List br) (L:AN),jo L→jo (l.foldl (du J) L):=by
  intro l
  induction l with
  |nil=>exact fun L h=>h
  |cons a r ih=>exact fun L h=>ih _ (h1 _ _ _ (oR [] h))
 exact h2 J [] fun p hp=>(nomatch hp)
section
variable {prog:Program}{w:World}{mg mb:Str→Option Value}{k:Nat}{A:Around}{env:Env}{own:List (Str×Addr)}{s s' s₀ sB:Shared}{G G' G₀ GB:Kn}{E:Value→Shared→Prop}{sc:aq}{ρ:Ro}{st:Sr}{l:List Env}
theorem eJ.wider {wr wr':Addr→Prop}{N:List Nm}{me:Addr}{L:AN}{c c':Nat}(F:eJ w sB env own s₀ G₀ wr N me L c s G st)(h:∀a,foot st a→¬wr' a)(hc:c≤c'):eJ w sB env own s₀ G₀ wr' N me L c' s G st:=
 ⟨F.S,F.slf,F.ab,F.rdy,fun a f=>⟨(F.ft a f).1,(F.ft a f).2.1,h a f⟩,F.mv,F.nm,fun p hp=>Nat.le_trans (F.len p hp) hc⟩
theorem eJ.lt {wr:Addr→Prop}{N:List Nm}{me:Addr}{L:AN}{c:Nat}(F:eJ w sB env own s₀ G₀ wr N me L c s G st){a:Addr}(f:foot st a):a<s.heap.objs.size:=F.S.lt f
theorem pn {me:Addr}{J:List br}{Q:Flow→Shared→Prop}{b1:Stmt}(hb:bh SB 1=b1)(rm:am (k+11) A)(hm:MgOK mg)(hesc:fu prog w mg mb)(hgc:fq w mg mb bw)(hB:Cx (KP w.params) mg mb sB)(hni:mg "_NodeInfo" =some (.ref 81))(hJ:cG J)
  (C:be (an 239).names env own)(hs:aD (an 239).names env)(V:SO w.params sB GB env own (kF me J) s G)(F:eJ w sB env own s₀ G₀ (fun Z=>False) (J.map (·.1)) me [] 0 s G st)
  (h:∀s' G' st',SO w.params sB GB env own (kF me J) s' G'→eJ w sB env own s₀ G₀ (fun Z=>False) (J.map (·.1)) me (bR J) 400 s' G' st'→Q .next s'):
  wpAny (model prog w) A (exec b1 env) Q E s:=by
 subst hb;have hz0:s₀.heap.objs.size≤s.heap.objs.size:=F.mv.size;refine eT (nm (d:=al J) V (by kernel_rfl) fun v rv=>?_) (fun Z=>rfl)
 refine ck rv.list_i fun Z Z Z z3 q7 r7=>?_;subst z3
 refine⟨s,G,_,gW _ rm.hh V.inn q7 r7,fun It wr St s8 g8 T st0 hw=>?_⟩
 have V8:=V.grew g8;have F8:=(F.grew g8).wider (wr':=wr) (fun a f ww=>Nat.lt_irrefl _ (Nat.lt_of_lt_of_le (F.lt f) (hw a ww).1)) (Nat.le_refl 0)
 refine qq Eh (fun i s' G' ρ'=>ρ'=kF me J∧G.Le G'∧s8.heap.objs.size≤s'.heap.objs.size∧∃st',eJ w sB env own s₀ G₀ wr (J.map (·.1)) me ((J.take i).foldl (du J) []) (i*20) s' G' st') T y2 (fun Z Z Z Z j=>j.2.1) rm.hh C V8 ⟨rfl,.refl _,Nat.le_refl _,st,F8⟩ st0 ?_ ?_ ?_
 ·exact fun b hb=>⟨⟨Kn.none_ge V.inn (hw b hb).1,(hw b hb).2⟩,aS V (hw b hb).1,Nat.le_trans V.up.size (hw b hb).1⟩
 ·intro i d s' G' ρ' E1 hi j V' s₁ G₁ m1 V₁;refine ez fun Q1 Ea k1=>?_;obtain⟨rfl,le',z',st',F'⟩:=j;obtain⟨q,hq,rfl⟩:∃q,J[i]? =some q∧dk q=d:=by
   rw [List.getElem?_map]at hi;exact Option.map_eq_some_iff.mp hi
  have hqJ:=List.mem_of_getElem? hq;have hil:i<J.length:=(List.getElem?_eq_some_iff.mp hq).1;have hiJ:=hJ.len;have hN:(J.map (·.1)).length≤30:=by rw [List.length_map];lia
  have hqN:q.1∈J.map (·.1):=List.mem_map_of_mem hqJ;have V1:SO w.params sB GB env own (qI me J q) s₁ G₁:=V₁;have F1:eJ w sB env own s₀ G₀ wr (J.map (·.1)) me ((J.take i).foldl (du J) []) (i*20) s₁ G₁ st':=F'.move m1 fun a x=>x.imp id fun ww=>⟨Nat.le_trans hz0 (hw a ww).1,fun f=>(F'.ft a f).2.2 ww⟩
  have z1:s8.heap.objs.size≤s₁.heap.objs.size:=Nat.le_trans z' m1.size
  refine wpAny_execs_cons (wpAny_Expr_any (dK (x:= "add") (f:=128) (ds:=[.str q.1]) rfl (by rfl) (by rfl) (by kernel_rfl) (by kernel_rfl) (by kernel_rfl) (fun o d v=>by kernel_rfl) rm hs hB (by kernel_rfl)
   (au (a:=me) V1 (by kernel_rfl) ⟨st',G₁,by rw [F1.slf],F1.S.at_,V1,fun vs s2 G2 g2 r2 V2=>?_⟩)) (cq V1))
  refine aX r2.cons_i fun Z Z z4 q2 r2'=>?_;subst z4
  obtain rfl:=r2'.nil_i;refine xe q2.str_i fun Z z5=>?_;subst z5
  have F2:=F1.grew g2;refine F2.add (k:=k+5) (xs:=[]) V2 (DY _ _ _) rm hB hni .nil hN (by lia) (by simp) hqN (fun y hy=>(nomatch hy)) (fun a ww=>Nat.lt_of_lt_of_le (hw a ww).2 (Nat.le_trans z1 g2.size)) fun s3 st3 m3 V3 F3=>?_
  have k3:Mv (fun b=> ¬wr b) s₁ G₁ s3 G2:=g2.mv.trans (m3.weak fun a f=>(F2.ft a f).2.2)
  refine wpAny_execs_cons (bP (jI (ir hm hesc hgc (by lia) 59) rm hs hB V3 (e':=SP) (by kernel_rfl) (Dy me hJ hqJ) fun v s4 G4 g4 r4 V4=>?_) rfl rfl rfl)
  refine sto (d:=.list (cv q.2)) rm.hh C V4 r4 (by kernel_rfl) fun s5 V5 m5=>?_
  have wrM:∀{b},Mine env own b→¬wr b:=fun{b} hb ww=>aS V (hw b ww).1 hb
  have F5:=(F3.grew g4).move m5 fun a x=>.inl x
  have V5:SO w.params sB GB env own (gv me J q) s5 G4:=V5;have k5:Mv (fun b=> ¬wr b) s₁ G₁ s5 G4:=(k3.trans g4.mv).trans (m5.weak fun a x=>wrM x)
  have z5:s8.heap.objs.size≤s5.heap.objs.size:=Nat.le_trans z1 k5.size;refine wpAny_execs_cons (eT (jI (ir hm hesc hgc (by lia) 59) rm hs hB V5 (e':=SC) (by kernel_rfl) (DB me hJ hqJ) fun v s6 G6 g6 r6 V6=>?_) (fun Z=>rfl))
  refine ck r6.list_i fun Z Z Z z6 q6 rr6=>?_;subst z6
  have F6:=F5.grew g6;have z6:s8.heap.objs.size≤s6.heap.objs.size:=Nat.le_trans z5 g6.size;have z06:s₀.heap.objs.size≤s6.heap.objs.size:=F6.mv.size;refine⟨s6,G6,_,gW _ rm.hh V6.inn q6 rr6,fun It2 wr2 St2 s7 g7 T2 st02 hw2=>?_⟩
  have V7:=V6.grew g7;have F7:=(F6.grew g7).wider (wr':=fun a=>wr a∨wr2 a) (fun a f ww=>ww.elim (F6.ft a f).2.2 fun ww=>Nat.lt_irrefl _ (Nat.lt_of_lt_of_le (F6.lt f) (hw2 a ww).1)) (Nat.le_refl _)
  have k7:Mv (fun b=> ¬wr b) s₁ G₁ s7 G6:=k5.trans (g6.trans g7).mv
  have z7:s6.heap.objs.size≤s7.heap.objs.size:=g7.size;refine qq (fun ρ d=>ad ρ "need" d) (fun j s' G' ρ'=>ρ'=gv me J q∧G6.Le G'∧s7.heap.objs.size≤s'.heap.objs.size∧(∃st',eJ w sB env own s₀ G₀ (fun a=>wr a∨wr2 a) (J.map (·.1)) me (((bH J q).take j).foldl (fun L y=>dF L q.1 [y]) (dF ((J.take i).foldl (du J) []) q.1 [])) (i*20+j) s' G' st')∧Mv (fun b=> ¬wr b) s₁ G₁ s' G') T2
   (fun d hd ρ=>?_) (fun Z Z Z Z j=>j.2.1) rm.hh C V7 ⟨rfl,.refl _,Nat.le_refl _,⟨_,F7⟩,k7⟩ st02 ?_ ?_ ?_
  ·kernel_rfl
  ·exact fun b hb=>⟨⟨Kn.none_ge V6.inn (hw2 b hb).1,(hw2 b hb).2⟩,aS V6 (hw2 b hb).1,Nat.le_trans V6.up.size (hw2 b hb).1⟩
  ·intro j d s9 G9 ρ9 E2 hj jj V9 s10 G10 m10 V10;refine ez fun Q2 Eb k2=>?_;obtain⟨rfl,le9,z9,⟨st9,F9⟩,k9⟩:=jj;obtain⟨y,hy,rfl⟩:∃y,(bH J q)[j]? =some y∧D.str y=d:=by
    rw [List.getElem?_map]at hj;exact Option.map_eq_some_iff.mp hj
   have hyN:y∈J.map (·.1):=(List.mem_filter.mp (List.mem_of_getElem? hy)).1;have hjl:j<(bH J q).length:=(List.getElem?_eq_some_iff.mp hy).1;have hnl:(bH J q).length≤J.length:=by
    unfold bH;exact Nat.le_trans (List.length_filter_le _ _) (by rw [List.length_map];exact Nat.le_refl _)
   have F10:=F9.move m10 fun a x=>x.imp id fun ww=>⟨Nat.le_trans z06 (hw2 a ww).1,fun f=>(F9.ft a f).2.2 (.inr ww)⟩
   have z10:s7.heap.objs.size≤s10.heap.objs.size:=Nat.le_trans z9 m10.size
   refine wpAny_execs_cons (wpAny_Expr_any (dK (x:= "add") (f:=128) (ds:=[.str q.1,.str y]) rfl (by rfl) (by rfl) (by kernel_rfl) (by kernel_rfl) (by kernel_rfl) (fun o d v=>by kernel_rfl) rm hs hB (by kernel_rfl)
    (au (a:=me) V10 (by kernel_rfl) ⟨st9,G10,by rw [F10.slf],F10.S.at_,V10,fun vs s11 G11 g11 r11 V11=>?_⟩)) (cq V10))
   refine aX r11.cons_i fun Z Z z7 q11 r12=>?_;subst z7
   refine aX r12.cons_i fun Z Z z8 q12 r13=>?_;subst z8
   obtain rfl:=r13.nil_i;refine xe q11.str_i fun Z z9=>?_;subst z9
   refine xe q12.str_i fun Z z10=>?_;subst z10
   have F11:=F10.grew g11;refine F11.add (k:=k+5) (xs:=[y]) V11 (DX _ _ _ _) rm hB hni (.cons (.str _ _) .nil) hN (by lia) (by simp) hqN (fun x hx=>by rw [List.mem_singleton.mp hx];exact hyN) (fun a ww=>?_) fun s12 st12 m12 V12 F12=>?_
   ·rcases ww with ww |ww
    ·exact Nat.lt_of_lt_of_le (hw a ww).2 (Nat.le_trans z6 (Nat.le_trans z7 (Nat.le_trans z10 g11.size)))
    ·exact Nat.lt_of_lt_of_le (hw2 a ww).2 (Nat.le_trans z10 g11.size)
   ·refine wpAny_execs_nil ?_;have m1012:Mv (fun a=>foot st9 a) s10 G10 s12 G11:=g11.mv.trans m12
    refine k2 _ _ ?_;refine⟨G11,gv me J q,_,V12.weaker (fun x d e=>?_),⟨rfl,le9.trans (m10.le.trans g11.le),Nat.le_trans z10 m1012.size,⟨st12,?_⟩,?_⟩,m1012,fun b f ww=>(F10.ft b f).2.2 (.inr ww)⟩
    ·have:∀y' d',gv me J q y'=some d'→ad (gv me J q) "need" (.str y) y'=some d':=by
      unfold gv qI kF;exact aJ (by kernel_rfl) (aJ (by kernel_rfl) (aJ (by kernel_rfl) (aJ (by kernel_rfl) (aJ (by kernel_rfl) (aJ (by kernel_rfl) (aJ (by kernel_rfl) gC))))))
     exact this x d e
    ·rw [List.take_add_one,hy,List.foldl_append];exact F12
    ·exact(k9.trans (m10.weak fun a x=>x.elim wrM fun ww w1=>Nat.lt_irrefl _ (Nat.lt_of_lt_of_le (hw a w1).2 (Nat.le_trans z6 (hw2 a ww).1)))).trans (m1012.weak fun a f w1=>(F10.ft a f).2.2 (.inl w1))
  ·intro s9 G9 ρ9 jj V9 s10 m10 V10;obtain⟨rfl,le9,z9,⟨st9,F9⟩,k9⟩:=jj;rw [List.length_map,List.take_length]at F9;have hnl:(bH J q).length≤J.length:=by
    unfold bH;exact Nat.le_trans (List.length_filter_le _ _) (by rw [List.length_map];exact Nat.le_refl _)
   have F10:=F9.move m10 fun a ww=>.inr ⟨Nat.le_trans z06 (hw2 a ww).1,fun f=>(F9.ft a f).2.2 (.inr ww)⟩
   refine wpAny_execs_nil ?_;refine k1 _ _ ?_;refine⟨G9,kF me J,_,V10.weaker (fun x d e=>?_),⟨rfl,?_,Nat.le_trans z6 (Nat.le_trans z7 (Nat.le_trans z9 m10.size)),st9,?_⟩,k9.trans (m10.weak fun a ww w1=>Nat.lt_irrefl _ (Nat.lt_of_lt_of_le (hw a w1).2 (Nat.le_trans z6 (hw2 a ww).1))),fun b nb=>nb⟩
   ·have:∀y' d',kF me J y'=some d'→gv me J q y'=some d':=by
     unfold kF;exact aJ (by kernel_rfl) (aJ (by kernel_rfl) (aJ (by kernel_rfl) (aJ (by kernel_rfl) gC)))
    exact this x d e
   ·exact le'.trans (m1.le.trans (k7.le.trans le9))
   ·rw [List.take_add_one,hq,List.foldl_append];exact F10.wider (fun a f ww=>(F10.ft a f).2.2 (.inl ww)) (by lia)
 ·intro s' G' ρ' j V' s₁ m1 V₁;obtain⟨rfl,le',z',st',F'⟩:=j;rw [List.length_map,List.take_length]at F';have hiJ:=hJ.len;exact h s₁ G' st' V₁ ((F'.move m1 fun a ww=>.inr ⟨Nat.le_trans hz0 (hw a ww).1,fun f=>(F'.ft a f).2.2 ww⟩).wider (fun a f x=>x) (by lia))
end
section
variable {prog:Program}{w:World}{mg mb:Str→Option Value}{k:Nat}{A:Around}{env:Env}{own:List (Str×Addr)}{s s' s₀ sB:Shared}{G G' G₀ GB:Kn}{E:Value→Shared→Prop}{sc:aq}{ρ:Ro}{st:Sr}{l:List Env}
theorem rY {P:Params}(S:az P sB G s st){a:Addr}(f:foot st a):¬∃o vs,s.heap.get? a=some o∧o.data=.fields vs:=by
 rintro ⟨o',vs,ho',hd'⟩
 have A:=S.at_;obtain⟨a1,⟨o,n,a2⟩,a3,⟨es,n',a4,_⟩,a5⟩:=A;rcases f with rfl |rfl |rfl |⟨r',l',q,rfl⟩ |⟨nd,hnd,f⟩
 ·rw [a1]at ho';obtain rfl:=Option.some.inj ho';cases hd'
 ·rw [a2]at ho';obtain rfl:=Option.some.inj ho';cases hd'
 ·rw [a4]at ho';obtain rfl:=Option.some.inj ho';cases hd'
 ·refine aA (a3 _ l' q) fun vs' m' e3 Z=>?_;rw [e3]at ho';obtain rfl:=Option.some.inj ho';cases hd'
 ·refine b9 (a5 nd hnd) fun z1 e2 z2=>?_;obtain⟨tn,tp,e1⟩:=z1;obtain⟨vs',m',e3,_⟩:=z2
  rcases f with rfl |rfl |rfl
  ·rw [e1]at ho';obtain rfl:=Option.some.inj ho';cases hd'
  ·rw [e2]at ho';obtain rfl:=Option.some.inj ho';cases hd'
  ·rw [e3]at ho';obtain rfl:=Option.some.inj ho';cases hd'
structure pe (st:Sr)(J:List br)(ring:Bool):Prop where
 ab:st.ab=bR J
 rdy:∃r,st.ready=some (r,ey st)
 len:∀p∈bR J,p.2.2.length≤400
 ring:match ring with |true=>ki st.su st.nms |false=> ∃done,eV st.su done∧∀x∈st.nms,x∈done
theorem po {v:Value}{J:List br}{Q:Value→Shared→Prop}(rm:am (k+12) A)(hm:MgOK mg)(hesc:fu prog w mg mb)(hgc:fq w mg mb bw)(hB:Cx (KP w.params) mg mb sB)(hts:mg "TopologicalSorter" =some (.ref 178))(hni:mg "_NodeInfo" =some (.ref 81))(hce:mg "CycleError" =some (.ref 96))
  (hJ:cG J)(U:Up sB s)(I:G.In s.heap)(rv:Rd w.params G v (al J))(T:cj A l sB G s.heap)
  (h:∀u s' G' st ring,Mw (fun Z=>False) (aC l) s G s' G'→Rd w.params G' u (.list [.adr st.self,.bool ring])→az w.params sB G' s' st→(∀a,foot st a→s.heap.objs.size≤a)→pe st J ring→Q u s'):wpAny (model prog w) A (call (.ref 239) [v]) Q E s:=by
 refine eG aI (args:=[al J]) (DW _ _) (by kernel_rfl) rm hB U I (fun E=>cZ I (.cons rv .nil) E) fun env own s₁ G₁ s' E' g B hE=>?_
 have V1:=B.st;have T1:=B.stk (T.grew g) (U.grew g).size;have cel:=B.cel (T.grew g);have hlen:=hJ.len;refine wpAny_execs_cons (xt (sB:=sB) (GB:=G₁) (by kernel_rfl) B.room.hh B.sco (by kernel_rfl) (by kernel_rfl) (by kernel_rfl) (by kernel_rfl) (by kernel_rfl) (by kernel_rfl) (wpAny_Tuple (wpAny_items_cons (wpAny_Call_Name_kw (di (V1.cx hB) B.sce (by kernel_rfl) hts ?_)) (by rfl))))
 refine jN (R:=mj) (sc:=[]) (ρ:=aT) (ds:=[]) rfl (wpAny_items_nil ⟨makes_of (V1.cx hB).kin (oh _),vN (k:=k+9) B.room hB V1.up V1.inn fun s2 st g2 S2 n2 r2 f2=>?_⟩)
 have V2:=V1.grew g2;refine wpAny_items_cons (jI (ir hm hesc hgc (by lia) 59) B.room B.sce hB V2 (e':=SN) (by kernel_rfl) (Dz J (by lia)) fun v3 s3 G3 g3 r3 V3=>?_) (by rfl)
 refine wpAny_items_cons (wpAny_Constant_bool (wpAny_items_nil ⟨by rw [sizeLine_eq];show _+1≤_;simp,?_⟩)) (by rfl)
 have g4:ae s3 G3 {s3 with heap:=s3.heap.push (cB [.ref st.self,v3,.bool false] 0)} (G3.add s3.heap.objs.size (cB [.ref st.self,v3,.bool false] 0)):=
  (ae.push V3.inn _ s3.toks (Nat.le_refl _)).learn (Heap.get?_push_size _ rfl) (Nat.le_refl _) (Kn.none_ge V3.inn (Nat.le_refl _))
 have V4:=V3.grew g4;refine⟨_,.tup [.adr st.self,ag (J.map (·.1)),.bool false],_,_,_,_,.tup Kn.add_self (.cons (.adr _) (.cons (r3.mono g4.le) (.cons (.bool _) .nil))),rfl,V4,fun s5 V5 m5=>?_⟩
 have g14:ae s' G₁ _ _:=g2.trans (g3.trans g4);have S4:az w.params sB _ _ st:=S2.grew (g3.trans g4);have ft4:∀a,foot st a→s'.heap.objs.size≤a∧¬Mine env own a∧¬False:=fun a f=>⟨f2 a f,aS V1 (f2 a f),id⟩
 have eρ:ad (ad (ad (aW aT (aO 239) [al J]) "sorter" (.adr st.self)) "names" (ag (J.map (·.1)))) "ring" (.bool false)=kF st.self J:=by kernel_rfl
 rw [eρ]at V5;have ab0:st.ab=[]:=by unfold Sr.ab;rw [n2];rfl
 have F5:eJ w sB env own s' G₁ (fun Z=>False) (J.map (·.1)) st.self [] 0 s5 _ st:=
  eJ.move (s:={s3 with heap:=s3.heap.push (cB [.ref st.self,v3,.bool false] 0)}) ⟨S4,rfl,ab0,r2,ft4,g14.mv,(fun x hx=>nomatch hx),(fun p hp=>nomatch hp)⟩ m5 fun a x=>.inl x
 generalize hG5:G3.add s3.heap.objs.size (cB [.ref st.self,v3,.bool false] 0)=G5 at*;refine wpAny_execs_cons (pn (k:=k) (by kernel_rfl) B.room hm hesc hgc hB hni hJ B.sco B.sce V5 F5 fun s6 G6 st6 V6 F6=>?_)
 have hself:st6.self=st.self:=F6.slf;have T6:=T1.sto' V6 F6.mv cel
 have nfr:∀a,foot st6 a→¬Mine env own a∧a∉aC (env::l):=fun a f=>⟨(F6.ft a f).2.1,fun hmm=>by
  refine xa (T1.mem hmm) fun z3 Z=>?_;obtain⟨o,ho,_⟩:=z3
  exact Nat.lt_irrefl _ (Nat.lt_of_lt_of_le (Heap.lt_size ho) (F6.ft a f).1)⟩
 have hnms:∀y,y∈(bR J).map (·.1)↔y∈st6.nms:=fun y=>by rw [←F6.ab,bQ];exact Iff.rfl
 have clo:∀nd∈st6.nodes,∀y∈nd.su,y∈st6.nms:=fun nd hnd y hy=>(hnms y).mp (oQ J (nd.nm,nd.np,nd.su) (by rw [←F6.ab];exact List.mem_map_of_mem hnd) y hy)
 have lsu:∀nd∈st6.nodes,nd.su.length≤500:=fun nd hnd=>Nat.le_trans (F6.len (nd.nm,nd.np,nd.su) (by rw [←F6.ab];exact List.mem_map_of_mem hnd)) (by decide)
 have lnl:st6.nodes.length≤400:=by
  have h1:st6.nodes.length=(st6.nodes.map (·.nm)).length:=by rw [List.length_map]
  rw [h1];have:=ch F6.S.wf.nms (m:=J.map (·.1)) fun y hy=>F6.nm y ((hnms y).mpr hy)
  rw [List.length_map (as:=J)]at this
  lia
 have frO:∀a,a∈aC (env::l)→sB.heap.objs.size≤a∧∀n,(n,a)∉own:=fun a hmm=>⟨(T6.mem hmm).2.2,cel a hmm⟩
 have fin:∀(ring:Bool) (s8:Shared) (ρ8:Ro) (G8:Kn) (r:Addr),SO w.params sB G₁ env own ρ8 s8 G8→Mw (Mine env own) (aC (env::l)) s' G₁ s8 G8→az w.params sB G8 s8 (st6.rd r (ey st6))→s'.heap.objs.size≤r→(match ring with |true=>ki st6.su st6.nms |false=> ∃done,eV st6.su done∧∀x∈st6.nms,x∈done)→
   Q (.ref s8.heap.objs.size) {s8 with heap:=s8.heap.push (aB [.ref st.self,.bool ring] 0)}:=by
  intro ring s8 ρ8 G8 r V8 m8 S8 hr hring;have g9:ae s8 G8 {s8 with heap:=s8.heap.push (aB [.ref st.self,.bool ring] 0)} (G8.add s8.heap.objs.size (aB [.ref st.self,.bool ring] 0)):=
   (ae.push V8.inn _ s8.toks (Nat.le_refl _)).learn (Heap.get?_push_size _ rfl) (Nat.le_refl _) (Kn.none_ge V8.inn (Nat.le_refl _))
  have mm:=m8.trans g9.mv.mw;have d:=B.dropw g mm;have g1:ae s G s' G₁:=g.trans (B.g g.inn);refine h _ _ (G8.add s8.heap.objs.size (aB [.ref st.self,.bool ring] 0)) (st6.rd r (ey st6)) ring ⟨d.same,d.size,d.tk,d.keep,d.slot,g1.le.trans mm.le,mm.inn,fun a o e=>?_⟩ (.list Kn.add_self (.cons (by show Rd _ _ (.ref st.self) (.adr st6.self);rw [hself];exact .adr _) (.cons (.bool _) .nil))) (S8.grew g9) (fun a f=>?_) ⟨F6.ab,⟨r,rfl⟩,F6.len,hring⟩
  ·rcases mm.fresh a o e with q |q
   ·exact g1.fresh a o q
   ·exact .inr (Nat.le_trans g1.size q)
  ·rcases jR f with f |e
   ·exact Nat.le_trans g1.size (F6.ft a f).1
   ·rw [e];exact Nat.le_trans g1.size hr
 have hz6:s'.heap.objs.size≤s6.heap.objs.size:=F6.mv.size
 refine wpAny_execs_cons (wpAny_Try_except (wpAny_execs_cons (wpAny_Expr_any (dK (x:= "prepare") (f:=133) (ds:=[]) rfl (by rfl) (by rfl) (by kernel_rfl) (by kernel_rfl) (by kernel_rfl) (fun o d v=>by kernel_rfl) B.room B.sce hB (by kernel_rfl)
  (au (a:=st.self) V6 (by kernel_rfl) ⟨st6,G6,by rw [hself],F6.S.at_,V6,fun vs s7 G7 g7 r7 V7=>?_⟩)) (cq V6))))
 obtain rfl:=r7.nil_i;have F7:=F6.grew g7;have T7:=T6.grew g7;have hz7:s'.heap.objs.size≤s7.heap.objs.size:=Nat.le_trans hz6 g7.size;refine nU (k:=k+8) B.room hB hce V7.up V7.inn F7.S T7 (fun a f=>(nfr a f).2) F7.rdy clo lsu lnl (fun s8 r m8 S8 hr topo=>?_) (fun s8 r e m8 S8 hr fl cyc=>?_)
 ·have V8:=V7.mutw m8 (fun a f=>⟨(nfr a f).1,(F7.S.off a f).2⟩) frO
  have mw8:Mw (Mine env own) (aC (env::l)) s' G₁ s8 G7:=F7.mv.mw.fresh_trans m8 fun a f=>.inr (F7.ft a f).1
  refine wpAny_execs_nil (wpAny_execs_nil ?_);refine wpAny_execs_cons (wpAny_Return_some (wpAny_List (wpAny_items_cons (au (a:=st.self) V8 (by kernel_rfl) (wpAny_items_cons (nm (d:=.bool false) V8 (by kernel_rfl) fun v rv=>wpAny_items_nil ?_) (by rfl))) (by rfl))))
  obtain rfl:=rv.bool_i;exact⟨by rw [sizeLine_eq];show _+1≤_;simp,fin false s8 _ G7 r V8 mw8 S8 (Nat.le_trans hz7 hr) topo⟩
 ·have V8:=V7.mutw m8 (fun a f=>⟨(nfr a f).1,(F7.S.off a f).2⟩) frO
  have T8:=T7.mw m8 fun a hmm f=>(nfr a f).2 hmm
  have mw8:Mw (Mine env own) (aC (env::l)) s' G₁ s8 G7:=F7.mv.mw.fresh_trans m8 fun a f=>.inr (F7.ft a f).1
  refine yT hB hce V7.up V7.inn V8.up V8.inn T8 B.sce (by kernel_rfl) fl fun s9 E9 m9=>?_
  have rcM:∀a,xv s7 s8 a→¬Mine env own a:=fun a rc hmm=>by
   refine ah (rK V8 hmm) fun o ho hd=>?_;obtain⟨_,o',vs,ho',hd'⟩:=rc;rw [ho]at ho';obtain rfl:=Option.some.inj ho';exact hd vs hd'
  have V9:=V8.mutn m9 (fun a rc=>⟨rcM a rc,by
   cases q:sB.heap.get? a with
   |none=>rfl
   |some o=>have:=V7.up.keep a o q;exact(aa (rc.1.symm.trans this)).elim⟩) frO
  have S9:=S8.keepw m9 fun a f=>⟨fun rc=>rY S8 f rc.2,fun hmm=>by
   rcases jR f with f |e
   ·exact(nfr a f).2 hmm
   ·rw [e]at hmm;refine xa (T7.mem hmm) fun z4 Z=>?_;obtain⟨o,ho,_⟩:=z4
    exact Nat.lt_irrefl _ (Nat.lt_of_lt_of_le (Heap.lt_size ho) hr)⟩
  have mw9:Mw (Mine env own) (aC (env::l)) s' G₁ s9 G7:=mw8.gone_trans m9 fun a rc=>by
   by_cases hM:Mine env own a
   ·exact .inl hM
   ·right
    cases q:s'.heap.get? a with
    |none=>rfl
    |some o=>
     have:=F7.mv.keep a o hM q;exact(aa (rc.1.symm.trans this)).elim
  refine wpAny_execs_cons (bP (wpAny_Constant_bool (Ek B.sco V9 (.bool true) (by kernel_rfl) fun s10 V10 m10=>?_)) rfl rfl rfl)
  refine wpAny_execs_nil ?_;refine wpAny_execs_cons (wpAny_Return_some (wpAny_List (wpAny_items_cons (au (a:=st.self) V10 (by kernel_rfl) (wpAny_items_cons (nm (d:=.bool true) V10 (by kernel_rfl) fun v rv=>wpAny_items_nil ?_) (by rfl))) (by rfl))))
  obtain rfl:=rv.bool_i;refine⟨by rw [sizeLine_eq];show _+1≤_;simp,fin true s10 _ G7 r V10 (mw9.trans m10.mw) (S9.keep m10 fun a f=>?_) (Nat.le_trans hz7 hr) cyc⟩
  rcases jR f with f |e
  ·exact(nfr a f).1
  ·rw [e];exact aS V7 hr
end
noncomputable def pr (la n:Nm):Int:=(xd la n).getD 0
noncomputable def jv (la n:Nm):D:=.list [.int (pr la n),.str n]
noncomputable def bY (la d b:Nm):Bool:=if pr la d=pr la b then dO d b else decide (pr la d<pr la b)
noncomputable def bu (la:Nm)(b:Nm):List Nm→Nm
 | []=>b
 |d::r=>match bY la d b with
  |true=>bu la d r
  |false=>bu la b r
noncomputable def cu (la:Nm):List Nm→Nm
 | []=>[]
 |b::r=>bu la b r
theorem iV (la:Nm):∀(r:List Nm)(b:Nm),dD (jv la b) (r.map (jv la))=some (jv la (bu la b r))
 | [],_=>rfl
 |d::r,b=>by
  rw [List.map_cons];unfold dD bu;have e:xi (jv la d) (jv la b)=some (bY la d b):=rfl;rw [e];cases bY la d b with
  |true=>exact iV la r d
  |false=>exact iV la r b
theorem gR (la:Nm):∀(r:List Nm)(b:Nm),bu la b r=b∨bu la b r∈r
 | [],_=>.inl rfl
 |d::r,b=>by
  unfold bu;cases bY la d b with
  |true=>
   show bu la d r=b∨bu la d r∈d::r
   rcases gR la r d with h |h
   ·rw [h];exact .inr List.mem_cons_self
   ·exact .inr (List.mem_cons_of_mem _ h)
  |false=>exact(gR la r b).imp id fun h=>List.mem_cons_of_mem _ h
theorem eY {la:Nm}{l:List Nm}(h:l≠ []):cu la l∈l:=by
 cases l with
 |nil=>exact absurd rfl h
 |cons b r=>exact(gR la r b).elim (fun e=>by show bu la b r∈_;rw [e];exact List.mem_cons_self) fun e=>List.mem_cons_of_mem _ e
theorem D6 {a b:Nm}(ha:a∈ay)(hb:b∈ay):ib "_levenshtein_distance" [.str a,.str b,.int 9]=some (.int (pr a b)):=by
 refine ah (mJ ha hb) fun i h1 h2=>?_;have:pr a b=i:=by unfold pr xd;rw [h2];rfl
 rw [this];exact h1
theorem E8 {a b:Nm}(ha:a∈ay)(hb:b∈ay):ib "_law_price" [.str a,.str b]=some (.int (pr a b)):=by
 refine ah (mJ ha hb) fun i h1 h2=>?_;have:pr a b=i:=by unfold pr xd;rw [h2];rfl
 rw [this];exact h2
theorem uo {Φ:cS}{gc:Str→Option D}{n:Nat}{sc:aq}{ρ:Ro}{f:Str}{e:PySem.Expr}{p pos:Pos}{d m:D}{r:List D}(hf:f= "min")(hg:aY sc f=true)(he:cX e=false)(h:(av Φ gc n).ev sc ρ e=some (.list (d::r)))(hl:(d::r).length≤100000)(hm:dD d r=some m):
  (av Φ gc (n+1)).ev sc ρ (.Call (.Name f p) [e] [] pos)=some m:=by
 subst hf;have q:bi ((av Φ gc n).ev sc ρ) [e]=some [.list (d::r)]:=by
  unfold bi;rw [he,h];rfl
 show(match bi ((av Φ gc n).ev sc ρ) [e]with |none=>none |some ds=>jZ Φ sc "min" ds)=_
 rw [q];show jZ Φ sc "min" _=_
 unfold jZ;rw [hg];show ij .min [.list (d::r)]=_
 unfold ij;dsimp only;rw [if_pos hl,hm]
noncomputable def RB:List Stmt:=bj 249
noncomputable def RW:Stmt:=bh RB 1
noncomputable def RM:PySem.Expr:=dU (bh (j6 RW) 0)
noncomputable def RL:PySem.Expr:=a8 RM 1
noncomputable def RO:PySem.Expr:=a8 (dU (bh (j6 RW) 2)) 0
noncomputable def RF:PySem.Expr:=a8 (a8 (dU (bh (j6 RW) 2)) 1) 0
noncomputable def j3 (me:Addr)(ord:D)(la:Nm)(rd:D):Ro:=ad (ad (ad (ad aT "sorter" (.adr me)) "order" ord) "last" (.str la)) "ready" rd
noncomputable def ml (me:Addr)(ord:D)(la:Nm)(rd:D)(p:D):Ro:=ad (ad (ad (ad (ad aT "sorter" (.adr me)) "order" ord) "ready" rd) "price" p) "last" (.str la)
theorem wJ:∃p,RM=.Call (.Name "min" p) [RL] [] RM.pos:=⟨match RM with | .Call (.Name _ p) _ _ _=>p |_=>default,by kernel_rfl⟩
theorem wK:RL=.ListComp (a8 RL 0) [⟨(ak RL).target,(ak RL).iter,[],0⟩] (af RL) RL.pos:=by kernel_rfl
theorem wL:RF=.ListComp (a8 RF 0) [⟨(ak RF).target,(ak RF).iter,[dh (ak RF).ifs 0],0⟩] (af RF) RF.pos:=by kernel_rfl
noncomputable def Ee (o:Option D)(n:Nm):Option (List D):=bp (match (match o with |none=>none |some d=>some [d,.str n])with |some ds=>if ds.length≤1000 then some (.list ds)else none |none=>none)
theorem BT (Φ:cS)(me:Addr)(ord rd:D)(la n:Nm):bp ((av Φ bw 57).ev (af RL).names (ad (aH (af RL).names (j3 me ord la rd)) "name" (.str n)) (a8 RL 0))=Ee (Φ "_levenshtein_distance" [.str la,.str n,.int 9]) n:=by kernel_rfl
theorem zb (ρ:Ro)(d:D):aG (af RL).names (aH (af RL).names ρ) (ak RL).target d=some (ad (aH (af RL).names ρ) "name" d):=by kernel_rfl
theorem y9 (me:Addr)(ord:D)(la:Nm)(l:List D):bb (RA 57) (an 249).names (j3 me ord la (.list l)) (ak RL).target (ak RL).iter=bn (.list l):=by kernel_rfl
theorem gV {l:List Nm}(h:l.length≤1000):bn (.list (l.map .str))=some (l.map .str):=by
 unfold bn;dsimp only;rw [if_pos (by rw [List.length_map];lia)]
theorem DF (me:Addr)(ord:D){la:Nm}{b:Nm}{r:List Nm}(hla:la∈ay)(hr:∀x∈b::r,x∈ay)(hl:(b::r).length≤1000):(RA 59).ev (an 249).names (j3 me ord la (ag (b::r))) RM=some (jv la (bu la b r)):=by
 refine xe wJ fun p hp=>?_;rw [hp];have h1:=bX (sc:=(af RL).names) (t:=(ak RL).target) (ts:=fun ρ'=>aM ((RA 57).ts (af RL).names ρ') []) (f:=fun ρ'=>bp ((RA 57).ev (af RL).names ρ' (a8 RL 0))) (ρ:=aH (af RL).names (j3 me ord la (ag (b::r))))
  D.str (fun Z=>true) (jv la) (b::r) fun n hn=>⟨_,zb _ _,rfl,fun Z=>by rw [BT,D6 hla (hr n hn)];rfl⟩
 rw [List.filter_eq_self.mpr fun Z Z=>rfl]at h1
 have h2:(RA 58).ev (an 249).names (j3 me ord la (ag (b::r))) RL=some (.list ((b::r).map (jv la))):=by
  rw [wK];exact cQ (by kernel_rfl) (by kernel_rfl) ((y9 _ _ _ _).trans (gV hl)) h1 (by rw [List.length_map];lia)
 exact uo rfl (by kernel_rfl) (by kernel_rfl) h2 (by rw [←List.map_cons,List.length_map];lia) (iV la r b)
theorem zd (ρ:Ro)(d:D):aG (af RF).names (aH (af RF).names ρ) (ak RF).target d=some (ad (aH (af RF).names ρ) "name" d):=by kernel_rfl
theorem DG (me:Addr)(ord rd p:D)(la n:Nm):aM ((RA 58).ts (af RF).names (ad (aH (af RF).names (ml me ord la rd p)) "name" (.str n))) [dh (ak RF).ifs 0]=bg .NotEq (.str n) (.str la):=by kernel_rfl
theorem BU (ρ:Ro)(n:Nm):bp ((RA 58).ev (af RF).names (ad ρ "name" (.str n)) (a8 RF 0))=some [.str n]:=by kernel_rfl
theorem zc (me:Addr)(ord:D)(la:Nm)(l:List D)(p:D):bb (RA 58) (an 249).names (ml me ord la (.list l) p) (ak RF).target (ak RF).iter=bn (.list l):=by kernel_rfl
theorem jh {x:Nm}(h:x∈ay):cD x=true:=List.all_eq_true.mp AR _ h
theorem DH (me:Addr)(ord p:D){la:Nm}{rd:List Nm}(hla:la∈ay)(hr:∀x∈rd,x∈ay)(hl:rd.length≤1000):(RA 59).ev (an 249).names (ml me ord la (ag rd) p) RF=some (ag (rd.filter fun n=> !aF n la)):=by
 have h1:=bX (sc:=(af RF).names) (t:=(ak RF).target) (ts:=fun ρ'=>aM ((RA 58).ts (af RF).names ρ') [dh (ak RF).ifs 0]) (f:=fun ρ'=>bp ((RA 58).ev (af RF).names ρ' (a8 RF 0))) (ρ:=aH (af RF).names (ml me ord la (ag rd) p))
  D.str (fun n=> !aF n la) D.str rd fun n hn=>⟨_,zd _ _,(DG _ _ _ _ _ _).trans (jz (jh (hr n hn)) (jh hla)),fun Z=>BU _ _⟩
 rw [wL];exact cQ (by kernel_rfl) (by kernel_rfl) ((zc _ _ _ _ _).trans (gV hl)) h1 (by rw [List.length_map];have:=List.length_filter_le (fun n=> !aF n la) rd;lia)
theorem BS (me:Addr)(l:List D)(rd p:D)(la:Nm):(RA 59).ev (an 249).names (ml me (.list l) la rd p) RO=dq .Add (.list l) (.list [.str la]):=by kernel_rfl
theorem DE (me:Addr)(ord:List Nm)(rd p:D)(la:Nm)(h:ord.length≤1000):(RA 59).ev (an 249).names (ml me (ag ord) la rd p) RO=some (ag (ord++ [la])):=by
 refine(BS _ _ _ _ _).trans ?_;unfold dq ag;dsimp only;rw [if_pos (by rw [List.length_map];simp;lia),List.map_append]
 rfl
theorem BQ (me:Addr)(ord:D)(la:Nm)(l:D):(RA 59).ts (an 249).names (j3 me ord la l) (dU RW)=bg .NotEq l (.list []):=by kernel_rfl
theorem AV {l:List Nm}(h:∀x∈l,cD x=true):bg .NotEq (ag l) (.list [])=some (!l.isEmpty):=by
 unfold bg ag;dsimp only;have a2:ba 9 (.list (l.map .str))=true:=eR fun d hd=>by
  refine ah (List.mem_map.mp hd) fun x hx z1=>?_;subst z1
  exact eh (h x hx) 7
 rw [a2];cases l<;>rfl
theorem DC (me:Addr)(ord:D)(la:Nm){rd:List Nm}(hr:∀x∈rd,x∈ay):(RA 59).ts (an 249).names (j3 me ord la (ag rd)) (dU RW)=some (!rd.isEmpty):=(BQ _ _ _ _).trans (AV fun x hx=>jh (hr x hx))
set_option tactic.hygienic true
theorem DV (P:Params)(a:Value):dG (KP P) 249 (an 249) (aO 249) (bj 249) [a] (pure ((aO 249).zip [a])):=
 ek (by kernel_rfl) (by kernel_rfl) (by kernel_rfl) (by kernel_rfl) (by kernel_rfl) (by kernel_rfl) (by kernel_rfl) (by kernel_rfl)
structure RS where
 L:AN
 rd:List Nm
 ord:List Nm
 la:Nm
noncomputable def fw (L:AN)(x:Nm):List Nm:=match L.find? fun p=>aF p.1 x with |some p=>p.2.2 |none=>[]
noncomputable def jQ (s:RS):RS:=
 ⟨(ej s.L [] (cu s.la s.rd) (fw s.L (cu s.la s.rd))).2.foldl dw (ej s.L [] (cu s.la s.rd) (fw s.L (cu s.la s.rd))).1,
  s.rd.filter (fun n=> !aF n (cu s.la s.rd))++(ej s.L [] (cu s.la s.rd) (fw s.L (cu s.la s.rd))).2,s.ord++ [cu s.la s.rd],cu s.la s.rd⟩
structure BR (s:RS):Prop where
 la:s.la∈ay
 rd:∀y∈s.rd,y∈ay∧y∈s.L.map (·.1)∧cp s.L y= -1
 su:∀p∈s.L,p.2.2.length≤400
 clo:jo s.L
 rdl:s.rd.length≤400
 ordl:s.ord.length≤900
theorem z0 {st:Sr}(W:st.WF){nd:Nd}(hm:nd∈st.nodes):fw st.ab nd.nm=nd.su:=by
 unfold fw Sr.ab;rw [List.find?_map];have e:=gG W hm;unfold Sr.find at e;have:List.find? ((fun p:List Nat×Int×List (List Nat)=>aF p.1 nd.nm)∘fun(n:Nd)=>(n.nm,n.np,n.su)) st.nodes=some nd:=e
 rw [this];rfl
theorem pC (L:AN)(x:Nm)(su:List Nm):∀rd,(ej L rd x su).1.map (·.1)=L.map (·.1):=by
 have key:∀(su:List Nm) (q:AN×List (List Nat)),(su.foldl dm q).1.map (·.1)=q.1.map (·.1):=by
  intro su
  induction su with
  |nil=>exact fun q=>rfl
  |cons a r ih=>
   intro q;refine(ih (dm q a)).trans ?_;unfold dm;dsimp only;exact a9 _ _ _
 intro rd;refine(key su _).trans ?_;dsimp only;exact a9 _ _ _
theorem wn (L:AN)(x:Nm)(su:List Nm):∀rd,(ej L rd x su).2.length≤rd.length+su.length∧∀y∈(ej L rd x su).2,y∈rd∨y∈su:=by
 have key:∀(su:List Nm) (q:AN×List (List Nat)),(su.foldl dm q).2.length≤q.2.length+su.length∧∀y∈(su.foldl dm q).2,y∈q.2∨y∈su:=by
  intro su
  induction su with
  |nil=>exact fun q=>⟨Nat.le_refl _,fun y h=>.inl h⟩
  |cons a r ih=>
   intro q;refine xa (ih (dm q a)) fun h1 h2=>?_;have e:(dm q a).2=q.2∨(dm q a).2=q.2++ [a]:=by
    unfold dm;dsimp only
    split
    ·exact .inr rfl
    ·exact .inl rfl
   rw [List.foldl_cons];rcases e with e |e<;>rw [e]at h1 h2
   ·exact⟨by rw [List.length_cons];lia,fun y hy=>(h2 y hy).imp id fun z=>List.mem_cons_of_mem _ z⟩
   ·refine⟨by rw [List.length_append,List.length_singleton]at h1;rw [List.length_cons];lia,fun y hy=>?_⟩
    rcases h2 y hy with z |z
    ·rcases List.mem_append.mp z with z |z
     ·exact .inl z
     ·rw [List.mem_singleton.mp z];exact .inr List.mem_cons_self
    ·exact .inr (List.mem_cons_of_mem _ z)
 exact fun rd=>key su _
section
variable {prog:Program}{w:World}{mg mb:Str→Option Value}{k:Nat}{A:Around}{env:Env}{own:List (Str×Addr)}{s s' s₀ sB:Shared}{G G' G₀ GB:Kn}{E:Value→Shared→Prop}{sc:aq}{ρ:Ro}{st:Sr}
theorem nQ {p1 p2 p3 p4 p5:Pos}{r:Addr}{xs:List Nm}{to:Tok}{Q:Value→Shared→Prop}(hl:(p3.endLine==p4.line)=true)(rm:am (k+2) A)(hs:aD sc env)(hB:Cx (KP w.params) mg mb sB)(hgo:mg "_NODE_OUT" =some (.int (-1) to))(V:SO w.params sB GB env own ρ s G)(e1:ρ "sorter" =some (.adr st.self))(S:az w.params sB G s st)
  (hr:st.ready=some (r,xs))(hn:∀x∈xs,x∈st.nodes.map (·.nm))(hx:xs.length≤500)(ap:∀a,foot st a→¬Mine env own a)(g:aY sc "list" =true)
  (h:∀v s' G' st',Mv (foot st) s G s' G'→Rd w.params G' v (ag xs)→az w.params sB G' s' st'→eu s.heap.objs.size st st'→st'.ab=xs.foldl dw st.ab→st'.ready=some (r,[])→SO w.params sB GB env own ρ s' G'→Q v s'):
  wpAny (model prog w) A (eval (.Call (.Name "list" p1) [.Call (.Attribute (.Name "sorter" p2) "get_ready" p3) [] [] p4] [] p5) env) Q E s:=by
 refine wpAny_Call_Name_kw (cE (V.cx hB) hs g (hB.blt ("list",.type "list") (List.mem_of_getElem? (i:=7) rfl)) (iK (by nofun) rfl (dK (x:= "get_ready") (f:=140) (ds:=[]) rfl hl (by rfl) (by kernel_rfl) (by kernel_rfl) (by kernel_rfl) (fun o d v=>by kernel_rfl) rm hs hB rfl
  (au (a:=st.self) V e1 ⟨st,G,rfl,S.at_,V,fun vs s2 G2 g2 r2 V2=>?_⟩))))
 cases r2;have S2:=S.grew g2;refine rj rm hB hgo V2.up V2.inn S2 hr hn hx fun v s3 st3 G3 m3 rd3 S3 nx ab r3=>?_;have V3:=V2.mut m3 fun a f=>⟨ap a f,(S.off a f).2⟩
 cases rd3 with
 |tup q rr=>
 rename_i ta tn tvs;have hlen:tvs.length=xs.length:=by have:=rr.length;simpa using this
 refine aK (call_list_seq ta (.inr rfl) (V3.inn _ _ q) rfl rfl (fun h' c' hk hS hz=>?_) (by rw [List.size_toArray,sizeLine_eq];lia))
 have g4:ae s3 G3 {s3 with heap:=h'} (G3.add s3.heap.objs.size (aB tvs c')):=
  (ae.same_known (t:=s3.toks) V3.inn hz.1 hk (Nat.le_refl _)).learn hS (Nat.le_refl _) (Kn.none_ge V3.inn (Nat.le_refl _))
 exact h _ _ _ st3 ((g2.mv.trans m3).trans g4.mv) (.list Kn.add_self (rr.mono g4.le)) (S3.grew g4) ⟨nx.self,fun a f=>(nx.foot a f).imp id fun z=>Nat.le_trans g2.size z⟩ ab r3 (V3.grew g4)
end
set_option tactic.hygienic false
section
variable {prog:Program}{w:World}{mg mb:Str→Option Value}{k:Nat}{A:Around}{env:Env}{own:List (Str×Addr)}{s s' s₀ sB:Shared}{G G' G₀ GB:Kn}{E:Value→Shared→Prop}{sc:aq}{ρ:Ro}{st:Sr}
structure UI (w:World)(sB:Shared)(env:Env)(own:List (Str×Addr))(st:Sr)(s:Shared)(G G₁:Kn)(r:Addr)(P:RS→Nat→Prop) (n:Nat)(s':Shared)(G':Kn)(rs:RS)(st':Sr):Prop where
 V:SO w.params sB G₁ env own (j3 st.self (ag rs.ord) rs.la (ag rs.rd)) s' G'
 S:az w.params sB G' s' st'
 ab:st'.ab=rs.L
 rr:st'.ready=some (r,[])
 sf:st'.self=st.self
 ap:∀a,foot st' a→¬Mine env own a∧(foot st a∨s.heap.objs.size≤a)
 m:Mv (XX env own (foot st)) s G s' G'
 p:P rs n
theorem vh {r:Addr}{xs:List Nm}{to td:Tok}{Q:Value→Shared→Prop}(P:RS→Nat→Prop)(hP:∀rs n,P rs n→BR rs)(hstep:∀rs n,P rs n→rs.rd≠ []→∃m,m<n∧P (jQ rs) m)
  (rm:am (k+12) A)(hm:MgOK mg)(hesc:fu prog w mg mb)(hgc:fq w mg mb bw)(hB:Cx (KP w.params) mg mb sB)(hgo:mg "_NODE_OUT" =some (.int (-1) to))(hgd:mg "_NODE_DONE" =some (.int (-2) td))(U:Up sB s)(I:G.In s.heap)(S:az w.params sB G s st)
  (hr:st.ready=some (r,xs))(hn:∀x∈xs,x∈st.nodes.map (·.nm))(hx:xs.length≤400){n0:Nat}(p0:P ⟨xs.foldl dw st.ab,xs,[],[97,65]⟩ n0)
  (h:∀v s' G' rs n,Mv (foot st) s G s' G'→Rd w.params G' v (ag rs.ord)→P rs n→rs.rd=[]→Q v s'):wpAny (model prog w) A (call (.ref 249) [.ref st.self]) Q E s:=by
 refine eG aI (args:=[.adr st.self]) (DV _ _) (by kernel_rfl) rm hB U I (fun E=>cZ I (.cons (.adr st.self) .nil) E) fun env own s₁ G₁ s' E' g B hE=>?_
 have ap:=B.apart g S;have gg:ae s G s' G₁:=g.trans (B.g g.inn);have S1:=S.grew gg;have V1:=B.st;have H:=ir (w:=w) (k:=k+11) hm hesc hgc (by lia) 59
 refine wpAny_execs_cons (xt (sB:=sB) (GB:=G₁) (by kernel_rfl) B.room.hh B.sco (by kernel_rfl) (by kernel_rfl) (by kernel_rfl) (by kernel_rfl) (by kernel_rfl) (by kernel_rfl) (wpAny_Tuple (wpAny_items_cons (jH ?_) (by rfl))))
 have g2:ae s' G₁ {s' with heap:=s'.heap.push (aB [] 0)} (G₁.add s'.heap.objs.size (aB [] 0)):=
  (ae.push V1.inn _ s'.toks (Nat.le_refl _)).learn (Heap.get?_push_size _ rfl) (Nat.le_refl _) (Kn.none_ge V1.inn (Nat.le_refl _))
 have r2:Rd w.params (G₁.add s'.heap.objs.size (aB [] 0)) (.ref s'.heap.objs.size) (ag []):=.list Kn.add_self .nil;have V2:=V1.grew g2;have S2:=S1.grew g2;generalize hG2:G₁.add s'.heap.objs.size (aB [] 0)=G2 at*;refine wpAny_items_cons (wpAny_Constant_str ?_) (by rfl)
 have t3:ae {s' with heap:=s'.heap.push (aB [] 0)} G2 {s' with heap:=s'.heap.push (aB [] 0),toks:=s'.toks+1} G2:=ae.toks (s:={s' with heap:=s'.heap.push (aB [] 0)}) V2.inn _ (Nat.le_succ _)
 have V3:=V2.grew t3;have S3:=S2.grew t3;refine wpAny_items_cons (nQ (k:=k+9) (by rfl) B.room B.sce hB hgo V3 (by kernel_rfl) S3 hr hn (by lia) ap (by kernel_rfl) fun v4 s4 G4 st4 m4 r4 S4 nx4 ab4 rr4 V4=>wpAny_items_nil ⟨by rw [sizeLine_eq];show _+1≤_;simp,?_⟩) (by rfl)
 have g5:ae s4 G4 {s4 with heap:=s4.heap.push (cB [.ref s'.heap.objs.size,.str (mk [97,65]) s'.toks,v4] 0)} (G4.add s4.heap.objs.size (cB [.ref s'.heap.objs.size,.str (mk [97,65]) s'.toks,v4] 0)):=
  (ae.push V4.inn _ s4.toks (Nat.le_refl _)).learn (Heap.get?_push_size _ rfl) (Nat.le_refl _) (Kn.none_ge V4.inn (Nat.le_refl _))
 have le4:G2.Le G4:=m4.le;have V5:=V4.grew g5;refine⟨_,.tup [ag [],.str [97,65],ag xs],_,_,_,_,.tup Kn.add_self (.cons ((r2.mono le4).mono g5.le) (.cons (.str _ _) (.cons (r4.mono g5.le) .nil))),rfl,V5,fun s6 V6 m6=>?_⟩
 have eρ:ad (ad (ad (aW aT (aO 249) [.adr st.self]) "order" (ag [])) "last" (.str [97,65])) "ready" (ag xs)=j3 st.self (ag []) [97,65] (ag xs):=by kernel_rfl
 rw [eρ]at V6;have ap4:∀a,foot st4 a→¬Mine env own a∧(foot st a∨s.heap.objs.size≤a):=fun a f=>(nx4.foot a f).elim (fun f=>⟨ap a f,.inl f⟩) fun z=>⟨aS V3 z,.inr (Nat.le_trans gg.size (Nat.le_trans (g2.trans t3).size z))⟩
 have S6:=(S4.grew g5).mine m6 fun a f=>(ap4 a f).1
 have m06:Mv (XX env own (foot st)) s G s6 _:=((((gg.trans (g2.trans t3)).mv.trans (m4.rm fun a f=>f)).trans g5.mv).trans m6.lm)
 generalize hG5:G4.add s4.heap.objs.size (cB [.ref s'.heap.objs.size,.str (mk [97,65]) s'.toks,v4] 0)=G5 at*;refine wpAny_execs_cons (wpAny_While (codeAny_whileLoop (fun n s'=> ∃G' rs st',UI w sB env own st s G G₁ r P n s' G' rs st') (fun n s7 hI=>?_) n0 ⟨G5,⟨xs.foldl dw st.ab,xs,[],[97,65]⟩,st4,V6,S6,ab4,rr4,nx4.self,ap4,m06,p0⟩))
 refine ez fun Q1 E1 k1=>?_;refine pE hI fun G7 rs st7 z1=>?_;obtain⟨V7,S7,ab7,rr7,sf7,ap7,m7,p7⟩:=z1
 have ok:=hP rs n p7;have hr12:∀x∈rs.rd,x∈ay:=fun x hx=>(ok.rd x hx).1
 refine zI H B.room B.sce hB V7 (e':=dU RW) (by kernel_rfl) (DC _ _ _ hr12) fun s8 G8 g8 V8=>?_
 have S8:=S7.grew g8;have m8:=m7.trans g8.mv;refine k1 _ _ ?_;by_cases hrd:rs.rd=[]
 ·rw [hrd];refine wpAny_execs_nil ?_;refine wpAny_execs_cons (wpAny_Return_some (nm (d:=ag rs.ord) V8 (by kernel_rfl) fun v rv=>?_))
  have bd:=B.drop g m8;exact h v s8 G8 rs n ⟨m8.same,m8.size,m8.tk,bd.keep,m8.le,m8.inn,m8.fresh⟩ rv p7 hrd
 ·obtain⟨b,rr,hbr⟩:∃b rr,rs.rd=b::rr:=by cases q:rs.rd with |nil=>exact absurd q hrd |cons b rr=>exact⟨b,rr,rfl⟩
  have hpick:cu rs.la rs.rd=bu rs.la b rr:=by rw [hbr];rfl
  have hxm:=eY (la:=rs.la) hrd;generalize hxx:cu rs.la rs.rd=x at*;have hx12:=hr12 x hxm;have hlen1:=ok.rdl;have hordl:=ok.ordl;have:(!rs.rd.isEmpty)=true:=by rw [hbr];rfl
  rw [this,if_pos rfl];refine ez fun Q2 E2 k2=>?_;refine wpAny_execs_cons (lH (sB:=sB) (GB:=G₁) (by kernel_rfl) rfl B.room.hh B.sco (by kernel_rfl) (by kernel_rfl) (by kernel_rfl) (jI H B.room B.sce hB V8 (e':=RM) (by kernel_rfl) (d:=jv rs.la x) ?_ fun v9 s9 G9 g9 r9 V9=>⟨G9,_,_,.int (pr rs.la x),.str x,r9,rfl,V9,fun s10 V10 m10=>?_⟩))
  ·have:=DF st.self (ag rs.ord) (la:=rs.la) (b:=b) (r:=rr) ok.la (fun y hy=>hr12 y (hbr▸hy)) (by rw [←hbr];lia)
   rw [←hbr,←hpick]at this;exact this
  have S10:=(S8.grew g9).mine m10 fun a f=>(ap7 a f).1
  have V10:SO w.params sB G₁ env own (ml st.self (ag rs.ord) x (ag rs.rd) (.int (pr rs.la x))) s10 G9:=V10.weaker (by
   unfold ml
   exact aJ (by kernel_rfl) (aJ (by kernel_rfl) (aJ (by kernel_rfl) (aJ (by kernel_rfl) (aJ (by kernel_rfl) gC)))))
  have m010:Mv (XX env own (foot st)) s G s10 G9:=(m8.trans g9.mv).trans m10.lm;obtain⟨nd,hnd,hnm⟩:∃nd∈st7.nodes,nd.nm=x:=by
   have:=(ok.rd x hxm).2.1;rw [←ab7,bQ]at this;exact List.mem_map.mp this
  have hnp:nd.np= -1:=by
   have:=(ok.rd x hxm).2.2;rw [←ab7,←hnm,kZ S7.wf hnd]at this;exact this
  have hsu:fw rs.L x=nd.su:=by rw [←ab7,←hnm];exact z0 S7.wf hnd
  have hmem:(nd.nm,nd.np,nd.su)∈rs.L:=by rw [←ab7];exact List.mem_map_of_mem hnd
  have nms7:st7.nodes.map (·.nm)=rs.L.map (·.1):=by rw [←ab7,bQ]
  have hcl:∀y∈nd.su,y∈st7.nodes.map (·.nm):=fun y hy=>by rw [nms7];exact ok.clo _ hmem y hy
  have hsl:nd.su.length≤400:=ok.su _ hmem
  refine wpAny_execs_cons (wpAny_Expr_any (dK (x:= "done") (f:=161) (ds:=[.str x]) rfl (by rfl) (by rfl) (by kernel_rfl) (by kernel_rfl) (by kernel_rfl) (fun o d v=>by kernel_rfl) B.room B.sce hB (by kernel_rfl)
   (au (a:=st.self) V10 (by kernel_rfl) ⟨st7,G9,by rw [sf7],S10.at_,V10,fun vs s11 G11 g11 r11 V11=>?_⟩)) (cq V10))
  refine aX r11.cons_i fun Z Z z2 q11 r12=>?_;subst z2
  obtain rfl:=r12.nil_i;refine xe q11.str_i fun Z z3=>?_;subst z3
  have S11:=S10.grew g11;refine uu (k:=k+9) B.room hB hgo hgd V11.up V11.inn S11 rr7 hnd hnm hnp hcl (by show 0+_≤_;lia) fun s12 st12 m12 S12 nx12 ab12 rr12=>?_
  have V12:=V11.mut m12 fun a f=>⟨(ap7 a f).1,(S10.off a f).2⟩
  have m012:Mv (XX env own (foot st)) s G s12 G11:=(m010.trans g11.mv).fresh_trans m12 fun a f=>(ap7 a f).2.imp .inr id
  have z12:s.heap.objs.size≤s11.heap.objs.size:=(m010.trans g11.mv).size;have ap12:∀a,foot st12 a→¬Mine env own a∧(foot st a∨s.heap.objs.size≤a):=fun a f=>(nx12.foot a f).elim (ap7 a) fun z=>⟨aS V11 z,.inr (Nat.le_trans z12 z)⟩
  have names12:st12.nodes.map (·.nm)=rs.L.map (·.1):=by rw [←bQ,ab12,pC,ab7]
  have hrdd:=wn st7.ab x nd.su [];generalize hdd:ej st7.ab [] x nd.su=dd at*;refine wpAny_execs_cons (lH (sB:=sB) (GB:=G₁) (by kernel_rfl) rfl B.room.hh B.sco (by kernel_rfl) (by kernel_rfl) (by kernel_rfl) (wpAny_Tuple (wpAny_items_cons (jI H B.room B.sce hB V12 (e':=RO) (by kernel_rfl) (DE _ rs.ord _ _ _ (by lia)) fun v13 s13 G13 g13 r13 V13=>?_) (by rfl))))
  refine wpAny_items_cons (wpAny_BinOp (jI H B.room B.sce hB V13 (e':=RF) (by kernel_rfl) (DH _ _ _ hx12 hr12 (by lia)) fun v14 s14 G14 g14 r14 V14=>?_)) (by rfl)
  have S14:=S12.grew (g13.trans g14);refine nQ (k:=k+9) (by rfl) B.room B.sce hB hgo V14 (by show some (D.adr st.self)=some (.adr st12.self);rw [nx12.self,sf7]) S14 rr12 (fun y hy=>by rw [names12,←nms7];exact hcl y ((hrdd.2 y hy).resolve_left (by simp))) (by have:=hrdd.1;simp at this;lia) (fun a f=>(ap12 a f).1) (by kernel_rfl) fun v15 s15 G15 st15 m15 r15 S15 nx15 ab15 rr15 V15=>?_
  have m014:Mv (XX env own (foot st)) s G s14 G14:=m012.trans (g13.trans g14).mv;have m015:Mv (XX env own (foot st)) s G s15 G15:=m014.fresh_trans m15 fun a f=>(ap12 a f).2.imp .inr id
  have ap15:∀a,foot st15 a→¬Mine env own a∧(foot st a∨s.heap.objs.size≤a):=fun a f=>(nx15.foot a f).elim (ap12 a) fun z=>⟨aS V14 z,.inr (Nat.le_trans m014.size z)⟩
  have hadd:dq .Add (ag (rs.rd.filter fun n=> !aF n x)) (ag dd.2)=some (ag ((rs.rd.filter fun n=> !aF n x)++dd.2)):=by
   unfold dq ag;dsimp only;have h1:=List.length_filter_le (fun n=> !aF n x) rs.rd
   have h2:=hrdd.1;simp at h2;rw [if_pos (by rw [List.length_map,List.length_map];lia),List.map_append]
  refine bI (tD V15.inn (r14.mono m15.le) r15 hadd) fun v16 s16 G16 g16 r16=>?_;have V16:=V15.grew g16;have S16:=S15.grew g16;refine wpAny_items_nil ⟨by rw [sizeLine_eq];show _+1≤_;simp,?_⟩
  have g17:ae s16 G16 {s16 with heap:=s16.heap.push (cB [v13,v16] 0)} (G16.add s16.heap.objs.size (cB [v13,v16] 0)):=
   (ae.push V16.inn _ s16.toks (Nat.le_refl _)).learn (Heap.get?_push_size _ rfl) (Nat.le_refl _) (Kn.none_ge V16.inn (Nat.le_refl _))
  have le13:G13.Le G16:=g14.le.trans (m15.le.trans g16.le);refine⟨_,.tup [ag (rs.ord++ [x]),ag ((rs.rd.filter fun n=> !aF n x)++dd.2)],_,_,_,.tup Kn.add_self (.cons ((r13.mono le13).mono g17.le) (.cons (r16.mono g17.le) .nil)),rfl,V16.grew g17,fun s18 V18 m18=>?_⟩
  refine wpAny_execs_nil ?_;refine ah (hstep rs n p7 hrd) fun n' hn' p'=>?_;have et:jQ rs=⟨dd.2.foldl dw dd.1,(rs.rd.filter fun n=> !aF n x)++dd.2,rs.ord++ [x],x⟩:=by
   unfold jQ;rw [hxx,hsu,←ab7,hdd]
  rw [et]at p';refine k2 _ _ ?_;refine⟨n',hn',_,_,st15,V18.weaker ?_,(S16.grew g17).mine m18 fun a f=>(ap15 a f).1,?_,rr15,nx15.self.trans (nx12.self.trans sf7),ap15,((m015.trans g16.mv).trans g17.mv).trans m18.lm,p'⟩
  ·unfold j3;exact aJ (by kernel_rfl) (aJ (by kernel_rfl) (aJ (by kernel_rfl) (aJ (by kernel_rfl) gC)))
  ·rw [ab15,ab12]
end
theorem DU (P:Params)(a:Value):dG (KP P) 254 (an 254) (aO 254) (bj 254) [a] (pure ((aO 254).zip [a])):=
 ek (by kernel_rfl) (by kernel_rfl) (by kernel_rfl) (by kernel_rfl) (by kernel_rfl) (by kernel_rfl) (by kernel_rfl) (by kernel_rfl)
noncomputable abbrev NL:=List (Nm×List Nm)
noncomputable def c9 (l:List Nm)(x:Nm):Bool:=l.any fun z=>aF z x
noncomputable def dg (L:NL)(ord:List Nm):List Nm:=(L.filter fun q=> !c9 ord q.1&&(q.2.filter fun y=> !c9 ord y).isEmpty).map (·.1)
noncomputable def gH (L:NL):Nat→List Nm→Nm→List Nm
 |0,ord,_=>ord
 |n+1,ord,la=>match dg L ord with
  | []=>ord
  |b::r=>gH L n (ord++ [bu la b r]) (bu la b r)
theorem cN {l:List Nm}{x:Nm}:c9 l x=true↔x∈l:=by
 unfold c9;rw [List.any_eq_true];exact⟨fun⟨z,h,e⟩=>(bf _ _).mp e▸h,fun h=>⟨x,h,(bf _ _).mpr rfl⟩⟩
structure wO (L:NL):Prop where
 len:L.length≤30
 nd:(L.map (·.1)).Nodup
 nm:∀q∈L,q.1∈ay
 su:∀q∈L,q.2.length≤30∧∀y∈q.2,y∈ay
noncomputable def EB:List Stmt:=bj 254
noncomputable def EW:List Stmt:=j6 (bh EB 1)
noncomputable def EL:PySem.Expr:=dU (bh EW 0)
noncomputable def EI:PySem.Expr:=a8 (a8 (dh (ak EL).ifs 0) 1) 0
noncomputable def EM:PySem.Expr:=dU (bh EW 2)
noncomputable def EC:PySem.Expr:=a8 EM 0
noncomputable def EK:PySem.Expr:=a8 EC 1
noncomputable def EO:PySem.Expr:=dU (bh EW 3)
theorem wX:EL=.ListComp (a8 EL 0) [⟨(ak EL).target,(ak EL).iter,[dh (ak EL).ifs 0],0⟩] (af EL) EL.pos:=by kernel_rfl
theorem wZ:EI=.ListComp (a8 EI 0) [⟨(ak EI).target,(ak EI).iter,[dh (ak EI).ifs 0],0⟩] (af EI) EI.pos:=by kernel_rfl
theorem wY:EK=.ListComp (a8 EK 0) [⟨(ak EK).target,(ak EK).iter,[],0⟩] (af EK) EK.pos:=by kernel_rfl
theorem w0:∃p,EC=.Call (.Name "min" p) [EK] [] EC.pos:=⟨match EC with | .Call (.Name _ p) _ _ _=>p |_=>default,by kernel_rfl⟩
noncomputable def j5 (ND ord:D)(la:Nm):Ro:=ad (ad (ad aT "needs" ND) "order" ord) "last" (.str la)
noncomputable def iI (ND ord:D)(la n:Nm):Ro:=ad (aH (af EL).names (j5 ND ord la)) "name" (.str n)
noncomputable def iH (ND ord:D)(la:Nm)(rd:D):Ro:=ad (j5 ND ord la) "ready" rd
noncomputable def Bo (a:Option Bool)(o:Option D):Option Bool:=jP a (jP (match o with |none=>none |some x=>bg .Eq x (.list [])) (some true))
theorem D3 (ND:D)(ord:List D)(la n:Nm):aM ((RA 58).ts (af EL).names (iI ND (.list ord) la n)) [dh (ak EL).ifs 0]=Bo (bg .NotIn (.str n) (.list ord)) ((RA 56).ev (af EL).names (iI ND (.list ord) la n) EI):=by kernel_rfl
theorem zm (ND ord:D)(la n:Nm):aG (af EL).names (aH (af EL).names (j5 ND ord la)) (ak EL).target (.str n)=some (iI ND ord la n):=by kernel_rfl
theorem Cf (ND ord:D)(la n:Nm):bp ((RA 58).ev (af EL).names (iI ND ord la n) (a8 EL 0))=some [.str n]:=by kernel_rfl
theorem zl (ks:List (List Nat×D))(ord:D)(la:Nm):bb (RA 58) (an 254).names (j5 (.dict ks) ord la) (ak EL).target (ak EL).iter=bn (.dict ks):=by kernel_rfl
theorem zs (ks:List (List Nat×D))(ord:D)(la n:Nm):bb (RA 55) (af EL).names (iI (.dict ks) ord la n) (ak EI).target (ak EI).iter=match eL (.dict ks) (.str n)with |some d=>bn d |none=>none:=by kernel_rfl
theorem zu (ρ:Ro)(y:D):aG (af EI).names (aH (af EI).names ρ) (ak EI).target y=some (ad (aH (af EI).names ρ) "need" y):=by kernel_rfl
theorem D5 (ND:D)(ord:List D)(la n y:Nm):aM ((RA 55).ts (af EI).names (ad (aH (af EI).names (iI ND (.list ord) la n)) "need" (.str y))) [dh (ak EI).ifs 0]=bg .NotIn (.str y) (.list ord):=by kernel_rfl
theorem Ch (ρ:Ro)(y:Nm):bp ((RA 55).ev (af EI).names (ad ρ "need" (.str y)) (a8 EI 0))=some [.str y]:=by kernel_rfl
theorem tH {n:Nm}{ord:List Nm}(hn:cD n=true)(ho:∀x∈ord,cD x=true):bg .NotIn (.str n) (ag ord)=some (!c9 ord n):=by
 unfold bg ag;dsimp only;have a1:ba 9 (.str n)=true:=eh hn 8;have a2:bS (ba 9) (ord.map D.str)=true:=eR fun d hd=>by
  refine ah (List.mem_map.mp hd) fun p hp z1=>?_;subst z1
  exact eh (ho p hp) 8
 rw [a1,a2,List.any_map];rfl
theorem uq {l:List Nm}(h:∀x∈l,cD x=true):bg .Eq (ag l) (.list [])=some l.isEmpty:=by
 unfold bg ag;dsimp only;have a2:ba 9 (.list (l.map .str))=true:=eR fun d hd=>by
  refine ah (List.mem_map.mp hd) fun x hx z2=>?_;subst z2
  exact eh (h x hx) 7
 rw [a2];cases l<;>rfl
theorem rR {L:NL}(hL:(L.map (·.1)).Nodup){q:Nm×List Nm}(hq:q∈L):eL (bL L) (.str q.1)=some (ag q.2):=by
 show((L.map fun q=>(q.1,ag q.2)).find? fun p=>aF p.1 q.1).map (·.2)=_
 rw [List.find?_map];cases f:L.find? ((fun p:List Nat×D=>aF p.1 q.1)∘fun q=>(q.1,ag q.2))with
 |none=>
  have:=List.find?_eq_none.mp f q hq;exact absurd ((bf _ _).mpr rfl) this
 |some p=>
  have h1:=List.mem_of_find?_eq_some f;have h2:=List.find?_some (p:=(fun p:List Nat×D=>aF p.1 q.1)∘fun(q:Nm×List Nm)=>(q.1,ag q.2)) f
  have h3:p.1=q.1:=(bf _ _).mp h2;have:p=q:=by
   clear f h2
   induction L with
   |nil=>cases hq
   |cons a r ih=>
    rw [List.map_cons,List.nodup_cons]at hL;rcases List.mem_cons.mp hq with rfl |hq'
    ·rcases List.mem_cons.mp h1 with rfl |h1'
     ·rfl
     ·exact absurd (List.mem_map.mpr ⟨p,h1',h3⟩) hL.1
    ·rcases List.mem_cons.mp h1 with rfl |h1'
     ·exact absurd (List.mem_map.mpr ⟨q,hq',h3.symm⟩) hL.1
     ·exact ih hL.2 hq' h1'
  rw [this];rfl
theorem D4 {L:NL}(hL:wO L){ord:List Nm}(ho:∀x∈ord,x∈ay)(la:Nm):(RA 59).ev (an 254).names (j5 (bL L) (ag ord) la) EL=some (ag (dg L ord)):=by
 rw [wX];have hi:bb (RA 58) (an 254).names (j5 (bL L) (ag ord) la) (ak EL).target (ak EL).iter=some (L.map fun q=>D.str q.1):=by
  refine(zl _ _ _).trans ?_;unfold bn;dsimp only;rw [if_pos (by rw [List.length_map];have:=hL.len;lia),List.map_map]
  rfl
 have o:=fun x hx=>jh (ho x hx)
 have h1:=bX (sc:=(af EL).names) (t:=(ak EL).target) (ts:=fun ρ'=>aM ((RA 58).ts (af EL).names ρ') [dh (ak EL).ifs 0]) (f:=fun ρ'=>bp ((RA 58).ev (af EL).names ρ' (a8 EL 0))) (ρ:=aH (af EL).names (j5 (bL L) (ag ord) la))
  (fun q:Nm×List Nm=>D.str q.1) (fun q=> !c9 ord q.1&&(q.2.filter fun y=> !c9 ord y).isEmpty) (fun q=>D.str q.1) L fun q hq=>⟨_,zm _ _ _ _,?_,fun Z=>Cf _ _ _ _⟩
 ·have e:((L.filter fun q=> !c9 ord q.1&&(q.2.filter fun y=> !c9 ord y).isEmpty).map fun q=>D.str q.1)=(dg L ord).map D.str:=by unfold dg;rw [List.map_map];rfl
  rw [e]at h1;exact cQ (by kernel_rfl) (by kernel_rfl) hi h1 (by rw [List.length_map];unfold dg;rw [List.length_map];have:=List.length_filter_le (fun q=> !c9 ord q.1&&(q.2.filter fun y=> !c9 ord y).isEmpty) L;have:=hL.len;lia)
 ·refine xa (hL.su q hq) fun s1 s2=>?_;have hy:∀y∈q.2,cD y=true:=fun y h=>jh (s2 y h)
  have h2:=bX (sc:=(af EI).names) (t:=(ak EI).target) (ts:=fun ρ'=>aM ((RA 55).ts (af EI).names ρ') [dh (ak EI).ifs 0]) (f:=fun ρ'=>bp ((RA 55).ev (af EI).names ρ' (a8 EI 0))) (ρ:=aH (af EI).names (iI (bL L) (ag ord) la q.1))
   D.str (fun y=> !c9 ord y) D.str q.2 fun y h=>⟨_,zu _ _,(D5 _ _ _ _ _).trans (tH (hy y h) o),fun Z=>Ch _ _⟩
  have h3:(RA 56).ev (af EL).names (iI (bL L) (ag ord) la q.1) EI=some (ag (q.2.filter fun y=> !c9 ord y)):=by
   rw [wZ];refine cQ (by kernel_rfl) (by kernel_rfl) ((zs _ _ _ _).trans ?_) h2 (by rw [List.length_map];exact Nat.le_trans (List.length_filter_le _ _) (by lia))
   have:=rR hL.nd hq;unfold bL at this;rw [this];exact gV (by lia)
  refine(D3 _ (ord.map .str) _ _).trans ?_;have h3':(RA 56).ev (af EL).names (iI (bL L) (.list (ord.map .str)) la q.1) EI=some (ag (q.2.filter fun y=> !c9 ord y)):=h3
  rw [h3'];have e1:=tH (n:=q.1) (jh (hL.nm q hq)) o;unfold ag at e1⊢;have e2:=uq (l:=q.2.filter fun y=> !c9 ord y) fun y h=>hy y (List.mem_filter.mp h).1
  unfold ag at e2;unfold Bo;dsimp only;rw [e1,e2];cases c9 ord q.1<;>cases (q.2.filter fun y=> !c9 ord y).isEmpty<;>rfl
theorem Cg (Φ:cS)(ND ord rd:D)(la n:Nm):bp ((av Φ bw 56).ev (af EK).names (ad (aH (af EK).names (iH ND ord la rd)) "name" (.str n)) (a8 EK 0))=Ee (Φ "_law_price" [.str la,.str n]) n:=by kernel_rfl
theorem zp (ρ:Ro)(d:D):aG (af EK).names (aH (af EK).names ρ) (ak EK).target d=some (ad (aH (af EK).names ρ) "name" d):=by kernel_rfl
theorem zo (ND ord:D)(la:Nm)(l:List D):bb (RA 56) (an 254).names (iH ND ord la (.list l)) (ak EK).target (ak EK).iter=bn (.list l):=by kernel_rfl
theorem Ce (ND ord rd:D)(la:Nm):(RA 59).ev (an 254).names (iH ND ord la rd) EM=match (RA 58).ev (an 254).names (iH ND ord la rd) EC with |none=>none |some o=>eL o (.int 1):=by kernel_rfl
theorem D0 (ND ord:D){la b:Nm}{r:List Nm}(hla:la∈ay)(hr:∀x∈b::r,x∈ay)(hl:(b::r).length≤1000):(RA 59).ev (an 254).names (iH ND ord la (ag (b::r))) EM=some (.str (bu la b r)):=by
 refine xe w0 fun p hp=>?_;have h1:=bX (sc:=(af EK).names) (t:=(ak EK).target) (ts:=fun ρ'=>aM ((RA 56).ts (af EK).names ρ') []) (f:=fun ρ'=>bp ((RA 56).ev (af EK).names ρ' (a8 EK 0))) (ρ:=aH (af EK).names (iH ND ord la (ag (b::r))))
  D.str (fun Z=>true) (jv la) (b::r) fun n hn=>⟨_,zp _ _,rfl,fun Z=>by rw [Cg,E8 hla (hr n hn)];rfl⟩
 rw [List.filter_eq_self.mpr fun Z Z=>rfl]at h1
 have h2:(RA 57).ev (an 254).names (iH ND ord la (ag (b::r))) EK=some (.list ((b::r).map (jv la))):=by
  rw [wY];exact cQ (by kernel_rfl) (by kernel_rfl) ((zo _ _ _ _).trans (gV hl)) h1 (by rw [List.length_map];lia)
 rw [Ce,hp,uo (n:=57) rfl (by kernel_rfl) (by kernel_rfl) h2 (by rw [←List.map_cons,List.length_map];lia) (iV la r b)]
 rfl
theorem Cd (ND rd:D)(l:List D)(la:Nm):(RA 59).ev (an 254).names (ad (ad (ad (ad aT "needs" ND) "order" (.list l)) "ready" rd) "last" (.str la)) EO=dq .Add (.list l) (.list [.str la]):=by kernel_rfl
theorem DZ (ND rd:D)(ord:List Nm)(la:Nm)(h:ord.length≤1000):(RA 59).ev (an 254).names (ad (ad (ad (ad aT "needs" ND) "order" (ag ord)) "ready" rd) "last" (.str la)) EO=some (ag (ord++ [la])):=by
 refine(Cd _ _ _ _).trans ?_;unfold dq ag;dsimp only;rw [if_pos (by rw [List.length_map];simp;lia),List.map_append]
 rfl
theorem Cc (ND ord rd:D)(la:Nm):(RA 59).ts (an 254).names (iH ND ord la rd) (dU (bh EW 1))=bg .Eq rd (.list []):=by kernel_rfl
theorem vP {Φ:cS}{gc:Str→Option D}{n:Nat}{sc:aq}{ρ:Ro}{elt:PySem.Expr}{gens:List Comprehension}{scope:Scope}{pos:Pos}{ys:List D}(h:(av Φ gc (n+1)).ev sc ρ (.ListComp elt gens scope pos)=some (.list ys)):db (av Φ gc n) sc ρ gens scope elt=some ys:=by
 have h':(db (av Φ gc n) sc ρ gens scope elt).map D.list=some (.list ys):=h;cases q:db (av Φ gc n) sc ρ gens scope elt with
 |none=>rw [q]at h';cases h'
 |some l=>rw [q]at h';cases h';rfl
section
variable {prog:Program}{w:World}{K:Frag}{mg mb:Str→Option Value}{k:Nat}{A:Around}{env:Env}{own:List (Str×Addr)}{s sB:Shared}{G GB:Kn}{E:Value→Shared→Prop}{sc:aq}{ρ:Ro}
theorem xu {Φ:cS}{gc:Str→Option D}{n:Nat}(H:aw prog w K mg mb k (av Φ gc n))(rm:am k A)(C:be sc env own)(hs:aD sc env)(hB:Cx K mg mb sB)(S:SO w.params sB GB env own ρ s G){x:Str}{p:Pos}{e' elt:PySem.Expr}{gens:List Comprehension}{scope:Scope}{vp pos:Pos}{ys:List D}{Q:Flow→Shared→Prop}
  (he: .ListComp elt gens scope vp=e')(q:(av Φ gc (n+1)).ev sc ρ e'=some (.list ys))(hx:bF sc x=true)(h:∀s' G',SO w.params sB GB env own (ad ρ x (.list ys)) s' G'→Mv (Mine env own) s G s' G'→Q .next s'):
  wpAny (model prog w) A (exec (.Assign [.Name x p] (.ListComp elt gens scope vp) pos) env) Q E s:=by
 subst he;have hb:bo sc aI ⟨ρ,none,false⟩ (.Name x p) (.list ys)=some ⟨ad ρ x (.list ys),none,false⟩:=by
  unfold bo aG;dsimp only;rw [hx];rfl
 refine wpAny_mono (jg H rm C hs hB S rfl (vP q) hb) (fun f s' z=>?_) fun Z Z z=>z
 refine kI z fun z3 G' md' m r S'=>?_;subst z3
 have hmd:=S'.none_l rfl;subst hmd;exact h s' G' S' (m.weak fun b y=>y.elim id fun y=>by exact(aa y).elim)
theorem wl (hm:MgOK mg)(hesc:fu prog w mg mb)(hgc:fq w mg mb bw){L:NL}(hL:wO L):gM prog w (KP w.params) mg mb (k+12) 254 [bL L] (ag (gH L (L.length+1) [] [97,65])):=by
 intro A s G vs E rm hB I rv;refine aX rv.cons_i fun v Z z4 rv1 r'=>?_;subst z4
 obtain rfl:=r'.nil_i;refine dC fun Q0 k0=>?_;have U:Up s s:=⟨⟨_,_,rfl⟩,Nat.le_refl _,Nat.le_refl _,fun Z Z e=>e⟩
 refine eG aI (args:=[bL L]) (DU _ _) (by kernel_rfl) rm hB U I (fun E=>cZ I (.cons rv1 .nil) E) fun env own s₁ G₁ s' E' g B hE=>?_
 have gg:ae s G s' G₁:=g.trans (B.g g.inn);have V1:=B.st;have H:=ir (w:=w) (k:=k+11) hm hesc hgc (by lia) 59
 refine wpAny_execs_cons (lH (sB:=s) (GB:=G₁) (by kernel_rfl) rfl B.room.hh B.sco (by kernel_rfl) (by kernel_rfl) (by kernel_rfl) (wpAny_Tuple (wpAny_items_cons (jH ?_) (by rfl))))
 have g2:ae s' G₁ {s' with heap:=s'.heap.push (aB [] 0)} (G₁.add s'.heap.objs.size (aB [] 0)):=
  (ae.push V1.inn _ s'.toks (Nat.le_refl _)).learn (Heap.get?_push_size _ rfl) (Nat.le_refl _) (Kn.none_ge V1.inn (Nat.le_refl _))
 have r2:Rd w.params (G₁.add s'.heap.objs.size (aB [] 0)) (.ref s'.heap.objs.size) (ag []):=.list Kn.add_self .nil;have V2:=V1.grew g2;generalize hG2:G₁.add s'.heap.objs.size (aB [] 0)=G2 at*;refine wpAny_items_cons (wpAny_Constant_str (wpAny_items_nil ⟨by rw [sizeLine_eq];show _+1≤_;simp,?_⟩)) (by rfl)
 have t3:ae {s' with heap:=s'.heap.push (aB [] 0)} G2 {s' with heap:=s'.heap.push (aB [] 0),toks:=s'.toks+1} G2:=ae.toks (s:={s' with heap:=s'.heap.push (aB [] 0)}) V2.inn _ (Nat.le_succ _)
 have V3:=V2.grew t3;generalize hs3:({s' with heap:=s'.heap.push (aB [] 0),toks:=s'.toks+1}:Shared)=s3 at*
 have g5:ae s3 G2 {s3 with heap:=s3.heap.push (cB [.ref s'.heap.objs.size,.str (mk [97,65]) s'.toks] 0)} (G2.add s3.heap.objs.size (cB [.ref s'.heap.objs.size,.str (mk [97,65]) s'.toks] 0)):=
  (ae.push V3.inn _ s3.toks (Nat.le_refl _)).learn (Heap.get?_push_size _ rfl) (Nat.le_refl _) (Kn.none_ge V3.inn (Nat.le_refl _))
 have V5:=V3.grew g5;have m05:Mv (XX env own fun Z=>False) s G s3 G2:=by
  have:=(gg.trans g2).trans t3;exact this.mv
 subst hs3;refine⟨_,.tup [ag [],.str [97,65]],_,_,_,.tup Kn.add_self (.cons (r2.mono g5.le) (.cons (.str _ _) .nil)),rfl,V5,fun s6 V6 m6=>?_⟩
 have eρ:ad (ad (aW aT (aO 254) [bL L]) "order" (ag [])) "last" (.str [97,65])=j5 (bL L) (ag []) [97,65]:=by kernel_rfl
 rw [eρ]at V6;generalize hD:gH L (L.length+1) [] [97,65]=DD
 refine wpAny_execs_cons (wpAny_While (codeAny_whileLoop (fun n s'=> ∃G' ord la,SO w.params s G₁ env own (j5 (bL L) (ag ord) la) s' G'∧Mv (XX env own fun Z=>False) s G s' G'∧gH L n ord la=DD∧ord.Nodup∧(∀x∈ord,x∈L.map (·.1))∧la∈ay∧L.length<n+ord.length) (fun n s7 hI=>?_) (L.length+1)
  ⟨_,[],[97,65],V6,(m05.trans g5.mv).trans m6.lm,hD,.nil,(fun x hx=>nomatch hx),by decide,by simp⟩))
 refine ez fun Q1 E1 k1=>?_;obtain⟨G7,ord,la,V7,m7,hdue,hnd,hsub,hla,hlt⟩:=hI;have hol:ord.length≤L.length:=by have:=ch hnd hsub;rwa [List.length_map]at this
 have hLl:=hL.len;have ho12:∀x∈ord,x∈ay:=fun x hx=>by refine ah (List.mem_map.mp (hsub x hx)) fun q hq z5=>?_;subst z5;exact hL.nm q hq
 have hr12:∀x∈dg L ord,x∈ay:=fun x hx=>by
  unfold dg at hx;refine ah (List.mem_map.mp hx) fun q hq z6=>?_;subst z6
  exact hL.nm q (List.mem_filter.mp hq).1
 have hrl:(dg L ord).length≤30:=by
  unfold dg;rw [List.length_map];exact Nat.le_trans (List.length_filter_le _ _) hLl
 obtain⟨n',rfl⟩:∃n',n=n'+1:=⟨n - 1,by lia⟩
 refine wpAny_isTrue_value (wpAny_Constant_bool (wpAny_truthy_bool ?_)) (by rfl)
 refine k1 _ _ ?_;rw [if_pos rfl];refine ez fun Q2 E2 k2=>?_;refine wpAny_execs_cons (xu (ir (w:=w) (k:=k+11) hm hesc hgc (by lia) 58) B.room B.sco B.sce hB V7 (by kernel_rfl) (D4 hL ho12 la) (by kernel_rfl) fun s9 G8 V9 m79=>?_)
 have V9:SO w.params s G₁ env own (iH (bL L) (ag ord) la (ag (dg L ord))) s9 G8:=V9;have m09:=m7.trans m79.lm;refine wpAny_execs_cons (wpAny_If (zI H B.room B.sce hB V9 (e':=dU (bh EW 1)) (by kernel_rfl) ((Cc _ _ _ _).trans (uq fun x hx=>jh (hr12 x hx))) fun s10 G10 g10 V10=>?_))
 have m010:=m09.trans g10.mv;cases hrd:dg L ord with
 |nil=>
  refine wpAny_execs_cons (wpAny_Return_some (nm (d:=ag ord) V10 (by kernel_rfl) fun v rv=>?_))
  have bd:=B.drop g m010;have hDD:ord=DD:=by rw [←hdue];unfold gH;rw [hrd]
  refine k2 _ _ (k0 _ _ ?_);exact⟨G10,⟨m010.same,m010.size,m010.tk,fun b o e=>bd.keep b o id e,m010.le,m010.inn,m010.fresh⟩,(by rw [hD,←hDD];exact rv)⟩
 |cons b r=>
  rw [hrd]at V10 hr12 hrl;refine wpAny_execs_nil ?_;have hp12:bu la b r∈ay:=hr12 _ (eY (la:=la) (l:=b::r) (by simp))
  refine wpAny_execs_cons (bP (jI H B.room B.sce hB V10 (e':=EM) (by kernel_rfl) (D0 _ _ hla hr12 (by lia)) fun v11 s11 G11 g11 r11 V11=>?_) rfl rfl rfl)
  refine sto (d:=.str (bu la b r)) B.room.hh B.sco V11 r11 (by kernel_rfl) fun s12 V12 m12=>?_
  have V12:SO w.params s G₁ env own (ad (ad (ad (ad aT "needs" (bL L)) "order" (ag ord)) "ready" (ag (b::r))) "last" (.str (bu la b r))) s12 G11:=V12.weaker (aJ (by kernel_rfl) (aJ (by kernel_rfl) (aJ (by kernel_rfl) (aJ (by kernel_rfl) gC))))
  refine wpAny_execs_cons (bP (jI H B.room B.sce hB V12 (e':=EO) (by kernel_rfl) (DZ _ _ ord _ (by lia)) fun v13 s13 G13 g13 r13 V13=>?_) rfl rfl rfl)
  refine sto (d:=ag (ord++ [bu la b r])) B.room.hh B.sco V13 r13 (by kernel_rfl) fun s14 V14 m14=>?_
  refine wpAny_execs_nil ?_;have hx:=eY (la:=la) (l:=dg L ord) (by rw [hrd];simp)
  rw [hrd]at hx;have hx':bu la b r∈dg L ord:=by rw [hrd];exact hx
  unfold dg at hx';refine ah (List.mem_map.mp hx') fun q hq hqe=>?_;refine xa (List.mem_filter.mp hq) fun hqL hqt=>?_;have hni:bu la b r∉ord:=fun hm=>by
   rw [←hqe]at hm;rw [cN.mpr hm]at hqt;exact(aj hqt).elim
  refine k2 _ _ ?_;refine⟨n',Nat.lt_succ_self _,G13,ord++ [bu la b r],bu la b r,V14.weaker ?_,((((m010.trans g11.mv).trans m12.lm).trans g13.mv).trans m14.lm),?_,?_,?_,hp12,?_⟩
  ·unfold j5;exact aJ (by kernel_rfl) (aJ (by kernel_rfl) (aJ (by kernel_rfl) gC))
  ·rw [←hdue]
   conv=>rhs;unfold gH
   rw [hrd]
  ·rw [List.nodup_append];exact⟨hnd,by simp,fun a ha c hc=>by rw [List.mem_singleton.mp hc];exact fun z=>hni (z▸ha)⟩
  ·intro x hx;rcases List.mem_append.mp hx with hx |hx
   ·exact hsub x hx
   ·rw [List.mem_singleton.mp hx,←hqe];exact List.mem_map_of_mem hqL
  ·rw [List.length_append,List.length_singleton];lia
end
noncomputable def bv (L:AN)(y:Nm):Int×List Nm:=match L.find? fun p=>aF p.1 y with |some p=>p.2 |none=>(0,[])
theorem fE (L:AN)(y:Nm):cp L y=(bv L y).1:=by
 unfold cp bv;cases L.find? fun p=>aF p.1 y<;>rfl
theorem xI (L:AN)(y:Nm):fw L y=(bv L y).2:=by
 unfold fw bv;cases L.find? fun p=>aF p.1 y<;>rfl
theorem qx (a b:Nm):aF a b=decide (a=b):=by
 rw [Bool.eq_iff_iff,bf,decide_eq_true_iff]
theorem fK (p:Nm×Int×List Nm)(L:AN)(y:Nm):bv (p::L) y=if p.1=y then p.2 else bv L y:=by
 unfold bv;rw [List.find?_cons,qx];by_cases h:p.1=y
 ·rw [decide_eq_true h,if_pos h]
 ·rw [decide_eq_false h,if_neg h]
theorem fJ (L:AN)(x:Nm)(f:Int×List Nm→Int×List Nm)(y:Nm):bv (bc L x f) y=if y=x∧x∈L.map (·.1)then f (bv L x)else bv L y:=by
 induction L with
 |nil=>simp [bc,bv]
 |cons p r ih=>
  show bv ((if p.1=x then(p.1,f p.2)else p)::bc r x f) y=_
  rw [fK,fK,fK,ih];by_cases h1:p.1=x
  ·rw [if_pos h1];dsimp only;by_cases h2:p.1=y
   ·rw [if_pos h2,if_pos ⟨by rw [←h2,h1],by rw [List.map_cons,h1];exact List.mem_cons_self⟩,if_pos h1]
   ·rw [if_neg h2,if_neg (fun h=>h2 (h1.trans h.1.symm)),if_neg (fun h=>h2 (h1.trans h.1.symm)),if_neg h2]
  ·rw [if_neg h1,if_neg h1];by_cases h2:p.1=y
   ·rw [if_pos h2,if_pos h2,if_neg fun h=>h1 (h2.trans h.1)]
   ·rw [if_neg h2,if_neg h2];by_cases h3:y=x∧x∈r.map (·.1)
    ·rw [if_pos h3,if_pos ⟨h3.1,by rw [List.map_cons];exact List.mem_cons_of_mem _ h3.2⟩]
    ·rw [if_neg h3,if_neg fun h=>h3 ⟨h.1,(List.mem_cons.mp h.2).resolve_left fun e=>h1 e.symm⟩]
set_option tactic.hygienic true in
theorem dS (L:AN)(x y:Nm):bv (aZ L x) y=bv L y:=by
 unfold aZ
 split
 ·rfl
 ·rename_i hx;have:∀L:AN,bv (L++ [(x,0,[])]) y=bv L y:=by
   intro L
   induction L with
   |nil=>rw [List.nil_append,fK];split<;>rfl
   |cons p r ih=>rw [List.cons_append,fK,fK,ih]
  exact this L
theorem e9 {L:AN}{x y:Nm}:y∈(aZ L x).map (·.1)↔y∈L.map (·.1)∨y=x:=⟨ic y,fun h=>h.elim (gO y) fun e=>e▸gd⟩
set_option tactic.hygienic true in
theorem wj (L:AN)(x y:Nm):bv (dF L x []) y=bv L y:=by
 show bv (bc (aZ L x) x fun q=>(q.1+((0:Nat):Int),q.2)) y=_
 rw [fJ]
 split
 ·rename_i h;rw [h.1,dS];simp
 ·exact dS L x y
theorem rJ (L:AN)(x y:Nm):y∈(dF L x []).map (·.1)↔y∈L.map (·.1)∨y=x:=by
 show y∈(bc (aZ L x) x fun q=>(q.1+((0:Nat):Int),q.2)).map (·.1)↔_
 rw [a9];exact e9
theorem wi (L:AN)(x z y:Nm):bv (dF L x [z]) y=(if y=x then(bv L y).1+1 else(bv L y).1,if y=z then(bv L y).2++ [x]else(bv L y).2):=by
 show bv (bc (aZ (bc (aZ L x) x fun q=>(q.1+((1:Nat):Int),q.2)) z) z fun q=>(q.1,q.2++ [x])) y=_
 rw [fJ,dS,dS,fJ,fJ,dS,dS];have hx:x∈(aZ L x).map (·.1):=gd;have hz:z∈(aZ (bc (aZ L x) x fun q=>(q.1+((1:Nat):Int),q.2)) z).map (·.1):=gd
 by_cases h1:y=z
 ·subst h1;rw [if_pos ⟨rfl,hz⟩,if_pos rfl];by_cases h2:y=x
  ·rw [if_pos ⟨h2,hx⟩,if_pos h2];subst h2;rfl
  ·rw [if_neg (fun h=>h2 h.1),if_neg h2]
 ·rw [if_neg (fun h=>h1 h.1),if_neg h1]
  by_cases h2:y=x
  ·rw [if_pos ⟨h2,hx⟩,if_pos h2];subst h2;rfl
  ·rw [if_neg (fun h=>h2 h.1),if_neg h2,dS]
theorem rI (L:AN)(x z y:Nm):y∈(dF L x [z]).map (·.1)↔y∈L.map (·.1)∨y=x∨y=z:=by
 show y∈(bc (aZ (bc (aZ L x) x fun q=>(q.1+((1:Nat):Int),q.2)) z) z fun q=>(q.1,q.2++ [x])).map (·.1)↔_
 rw [a9,e9,a9,e9,or_assoc]
theorem oM (x:Nm):∀(ys:List Nm)(L:AN),ys.Nodup→(∀y,bv (ys.foldl (fun L y=>dF L x [y]) L) y=(if y=x then(bv L y).1+ys.length else(bv L y).1,if y∈ys then(bv L y).2++ [x]else(bv L y).2))∧
  ∀y,y∈(ys.foldl (fun L y=>dF L x [y]) L).map (·.1)↔y∈L.map (·.1)∨(y=x∧ys≠ [])∨y∈ys
 | [],L,_=>⟨fun y=>by simp,fun y=>by simp⟩
 |z::r,L,h=>by
  refine xa (List.nodup_cons.mp h) fun h1 h2=>?_;refine xa (oM x r (dF L x [z]) h2) fun i1 i2=>?_;refine⟨fun y=>?_,fun y=>?_⟩
  ·rw [List.foldl_cons,i1,wi];refine Prod.ext ?_ ?_
   ·dsimp only;by_cases e:y=x
    ·rw [if_pos e,if_pos e,if_pos e,List.length_cons];lia
    ·rw [if_neg e,if_neg e,if_neg e]
   ·dsimp only;by_cases e1:y=z
    ·subst e1;rw [if_neg h1,if_pos rfl,if_pos List.mem_cons_self]
    ·rw [if_neg e1];by_cases e2:y∈r
     ·rw [if_pos e2,if_pos (List.mem_cons_of_mem _ e2)]
     ·rw [if_neg e2,if_neg fun m=>(List.mem_cons.mp m).elim e1 e2]
  ·rw [List.foldl_cons,i2,rI];simp only [List.mem_cons,ne_eq,reduceCtorEq,not_false_eq_true,and_true];constructor
   ·rintro ((h |h |h) |h |h)
    ·exact .inl h
    ·exact .inr (.inl h)
    ·exact .inr (.inr (.inl h))
    ·exact .inr (.inl h.1)
    ·exact .inr (.inr (.inr h))
   ·rintro (h |h |h |h)
    ·exact .inl (.inl h)
    ·exact .inl (.inr (.inl h))
    ·exact .inl (.inr (.inr h))
    ·exact .inr (.inr h)
section
variable {J:List br}
theorem j8 (hJ:cG J)(q:br):(bH J q).Nodup:=hJ.nd.filter _
theorem mz {q:br}{y:Nm}(h:y∈bH J q):y∈J.map (·.1)∧y≠q.1:=by
 refine xa (List.mem_filter.mp h) fun h1 h2=>?_;refine⟨h1,fun e=>?_⟩
 unfold dA at h2;rw [e,(bf _ _).mpr rfl]at h2;exact(aj h2).elim
theorem jd (hJ:cG J):∀(l:List br)(L:AN),(∀q∈l,q∈J)→(l.map (·.1)).Nodup→
  (∀y,bv (l.foldl (du J) L) y=((match l.find? fun q=>decide (q.1=y)with |some q=>(bv L y).1+(bH J q).length |none=>(bv L y).1),(bv L y).2++(l.filter fun q=>decide (y∈bH J q)).map (·.1)))∧
  ∀y,y∈(l.foldl (du J) L).map (·.1)↔y∈L.map (·.1)∨y∈l.map (·.1)∨∃q∈l,y∈bH J q
 | [],L,_,_=>⟨fun y=>by simp,fun y=>by simp⟩
 |q::r,L,hm,hn=>by
  rw [List.map_cons,List.nodup_cons]at hn;refine xa (jd hJ r (du J L q) (fun p h=>hm p (List.mem_cons_of_mem _ h)) hn.2) fun i1 i2=>?_
  refine xa (oM q.1 (bH J q) (dF L q.1 []) (j8 hJ q)) fun a1 a2=>?_;have e1:∀y,bv (du J L q) y=(if y=q.1 then(bv L y).1+(bH J q).length else(bv L y).1,if y∈bH J q then(bv L y).2++ [q.1]else(bv L y).2):=fun y=>by
   unfold du;rw [a1,wj]
  refine⟨fun y=>?_,fun y=>?_⟩
  ·rw [List.foldl_cons,i1,e1];refine Prod.ext ?_ ?_
   ·dsimp only;rw [List.find?_cons];by_cases e:q.1=y
    ·rw [decide_eq_true e,if_pos e.symm];have:(r.find? fun p=>decide (p.1=y))=none:=List.find?_eq_none.mpr fun p hp h=>hn.1 (by rw [e,←of_decide_eq_true h];exact List.mem_map_of_mem hp)
     rw [this]
    ·rw [decide_eq_false e,if_neg fun z=>e z.symm]
   ·dsimp only;by_cases e:y∈bH J q
    ·rw [if_pos e,List.filter_cons_of_pos (by simpa using e),List.map_cons,List.append_assoc]
     rfl
    ·rw [if_neg e,List.filter_cons_of_neg (by simpa using e)]
  ·rw [List.foldl_cons,i2];have e2:y∈(du J L q).map (·.1)↔y∈L.map (·.1)∨y=q.1∨y∈bH J q:=by
    unfold du;rw [a2,rJ];constructor
    ·rintro ((h |h) |h |h)
     ·exact .inl h
     ·exact .inr (.inl h)
     ·exact .inr (.inl h.1)
     ·exact .inr (.inr h)
    ·rintro (h |h |h)
     ·exact .inl (.inl h)
     ·exact .inl (.inr h)
     ·exact .inr (.inr h)
   rw [e2,List.map_cons,List.mem_cons];constructor
   ·rintro ((h |h |h) |h |⟨p,hp,h⟩)
    ·exact .inl h
    ·exact .inr (.inl (.inl h))
    ·exact .inr (.inr ⟨q,List.mem_cons_self,h⟩)
    ·exact .inr (.inl (.inr h))
    ·exact .inr (.inr ⟨p,List.mem_cons_of_mem _ hp,h⟩)
   ·rintro (h |(h |h) |⟨p,hp,h⟩)
    ·exact .inl (.inl h)
    ·exact .inl (.inr (.inl h))
    ·exact .inr (.inl h)
    ·rcases List.mem_cons.mp hp with rfl |hp
     ·exact .inl (.inr (.inr h))
     ·exact .inr (.inr ⟨p,hp,h⟩)
noncomputable def nf (J:List br)(n:Nm):List Nm:=match J.find? fun q=>decide (q.1=n)with |some q=>bH J q |none=>[]
theorem lg (hJ:cG J){q:br}(hq:q∈J):nf J q.1=bH J q:=by
 unfold nf;cases f:J.find? fun p=>decide (p.1=q.1)with
 |none=>exact absurd (decide_eq_true rfl) (List.find?_eq_none.mp f q hq)
 |some p=>
  have h1:=List.mem_of_find?_eq_some f;have h3:p.1=q.1:=of_decide_eq_true (List.find?_some (p:=fun p:br=>decide (p.1=q.1)) f)
  have:p=q:=by
   have key:∀l:List br,(l.map (·.1)).Nodup→p∈l→q∈l→p=q:=by
    intro l
    induction l with
    |nil=>exact fun Z h Z=>nomatch h
    |cons a r ih=>
     intro hl hp hq;rw [List.map_cons,List.nodup_cons]at hl;rcases List.mem_cons.mp hp with e |hp'<;>rcases List.mem_cons.mp hq with e' |hq'
     ·rw [e,e']
     ·exact absurd (List.mem_map.mpr ⟨q,hq',by rw [←h3,e]⟩) hl.1
     ·exact absurd (List.mem_map.mpr ⟨p,hp',by rw [h3,e']⟩) hl.1
     ·exact ih hl.2 hp' hq'
   exact key J hJ.nd h1 hq
  rw [this]
theorem ef (hJ:cG J)(y:Nm):y∈(bR J).map (·.1)↔y∈J.map (·.1):=by
 rw [show bR J=J.foldl (du J) []from rfl,(jd hJ J [] (fun Z h=>h) hJ.nd).2]
 constructor
 ·rintro (h |h |⟨q,hq,h⟩)
  ·cases h
  ·exact h
  ·exact(mz h).1
 ·exact fun h=>.inr (.inl h)
theorem pM (hJ:cG J)(n:Nm):cp (bR J) n=(nf J n).length:=by
 rw [fE,show bR J=J.foldl (du J) []from rfl,(jd hJ J [] (fun Z h=>h) hJ.nd).1]
 unfold nf;dsimp only;cases J.find? fun q=>decide (q.1=n)with
 |none=>rfl
 |some q=>show(0:Int)+((bH J q).length:Int)=((bH J q).length:Int);lia
theorem pL (hJ:cG J)(n:Nm):fw (bR J) n=(J.filter fun q=>decide (n∈bH J q)).map (·.1):=by
 rw [xI,show bR J=J.foldl (du J) []from rfl,(jd hJ J [] (fun Z h=>h) hJ.nd).1]
 rfl
theorem n8 (hJ:cG J){n m:Nm}:m∈fw (bR J) n↔m∈J.map (·.1)∧n∈nf J m:=by
 rw [pL hJ];constructor
 ·intro h;refine ah (List.mem_map.mp h) fun q hq z1=>?_;subst z1
  refine xa (List.mem_filter.mp hq) fun h1 h2=>?_;exact⟨List.mem_map_of_mem h1,by rw [lg hJ h1];exact of_decide_eq_true h2⟩
 ·rintro ⟨h1,h2⟩
  refine ah (List.mem_map.mp h1) fun q hq z2=>?_;subst z2
  rw [lg hJ hq]at h2;exact List.mem_map.mpr ⟨q,List.mem_filter.mpr ⟨hq,decide_eq_true h2⟩,rfl⟩
theorem u6 (hJ:cG J)(n:Nm):(fw (bR J) n).Nodup:=by
 rw [pL hJ];have key:∀l:List br,(l.map (·.1)).Nodup→((l.filter fun q=>decide (n∈bH J q)).map (·.1)).Nodup:=fun l hl=>(List.filter_sublist.map _).nodup hl
 exact key J hJ.nd
end
theorem Cr:ay.all (fun a=>ay.all fun b=>dO a b||dO b a||aF a b)=true:=by decide+kernel
theorem Dx:ay.all (fun a=>ay.all fun b=> !(dO a b&&dO b a))=true:=by decide+kernel
theorem Cs:ay.all (fun a=>ay.all fun b=>ay.all fun c=> !(dO a b&&dO b c)||dO a c)=true:=by decide+kernel
theorem Fq {f:Nm→Nm→Nm→Bool}(h:ay.all (fun a=>ay.all fun b=>ay.all fun c=>f a b c)=true){a b c:Nm}(ha:a∈ay)(hb:b∈ay)(hc:c∈ay):f a b c=true:=List.all_eq_true.mp (List.all_eq_true.mp (List.all_eq_true.mp h a ha) b hb) c hc
theorem Ej {f:Nm→Nm→Bool}(h:ay.all (fun a=>ay.all fun b=>f a b)=true){a b:Nm}(ha:a∈ay)(hb:b∈ay):f a b=true:=List.all_eq_true.mp (List.all_eq_true.mp h a ha) b hb
section
variable {la a b c:Nm}
theorem iX:bY la a b=true↔pr la a<pr la b∨(pr la a=pr la b∧dO a b=true):=by
 unfold bY;by_cases h:pr la a=pr la b
 ·rw [if_pos h];exact⟨fun e=>.inr ⟨h,e⟩,fun e=>e.elim (fun l=>by lia) (·.2)⟩
 ·rw [if_neg h,decide_eq_true_iff];exact⟨.inl,fun e=>e.elim id fun e=>absurd e.1 h⟩
theorem ol (ha:a∈ay)(hb:b∈ay)(hc:c∈ay)(h1:bY la a b=true)(h2:bY la b c=true):bY la a c=true:=by
 rw [iX]at h1 h2⊢;rcases h1 with h1 |⟨h1,l1⟩<;>rcases h2 with h2 |⟨h2,l2⟩
 ·exact .inl (by lia)
 ·exact .inl (by lia)
 ·exact .inl (by lia)
 ·have:=Fq Cs ha hb hc;rw [l1,l2]at this;exact .inr ⟨by lia,this⟩
theorem oj (ha:a∈ay)(hb:b∈ay)(h1:bY la a b=false)(h2:bY la b a=false):a=b:=by
 have n1:¬_:=fun h=>by rw [iX.mpr h]at h1;exact(cb h1).elim
 have n2:¬_:=fun h=>by rw [iX.mpr h]at h2;exact(cb h2).elim
 rw [not_or]at n1 n2;have e:pr la a=pr la b:=by omega
 have:=Ej Cr ha hb;cases q1:dO a b with
 |true=>exact absurd ⟨e,q1⟩ n1.2
 |false=>cases q2:dO b a with
  |true=>exact absurd ⟨e.symm,q2⟩ n2.2
  |false=>rw [q1,q2]at this;exact(bf _ _).mp this
theorem vR (ha:a∈ay)(hb:b∈ay)(h1:bY la a b=true):bY la b a=false:=by
 cases h2:bY la b a with
 |false=>rfl
 |true=>
  rw [iX]at h1 h2;rcases h1 with h1 |⟨h1,l1⟩<;>rcases h2 with h2 |⟨h2,l2⟩
  ·lia
  ·lia
  ·lia
  ·have:=Ej Dx ha hb;rw [l1,l2]at this;exact(aj this).elim
theorem iR:∀(r:List Nm)(b:Nm),b∈ay→(∀x∈r,x∈ay)→∀d,d=b∨d∈r→bY la d (bu la b r)=false
 | [],b,hb,_,d,hd=>by
  have:d=b:=hd.resolve_right (by simp)
  subst this;show bY la d d=false
  cases q:bY la d d with
  |false=>rfl
  |true=>have:=vR hb hb q;rw [q]at this;exact(cb this).elim
 |e::r,b,hb,hr,d,hd=>by
  have he:=hr e List.mem_cons_self;have hr':∀x∈r,x∈ay:=fun x h=>hr x (List.mem_cons_of_mem _ h)
  have m12:∀{b'},b'∈ay→bu la b' r∈ay:=fun{b'} h=>(gR la r b').elim (fun z=>by rw [z];exact h) (hr' _)
  unfold bu;cases q:bY la e b with
  |true=>
   show bY la d (bu la e r)=false
   have ih:=iR r e he hr';rcases hd with rfl |hd
   ·cases z:bY la d (bu la e r)with
    |false=>rfl
    |true=>have:=ol he hb (m12 he) q z;rw [ih e (.inl rfl)]at this;exact(aj this).elim
   ·exact ih d (List.mem_cons.mp hd)
  |false=>
   show bY la d (bu la b r)=false
   have ih:=iR r b hb hr';rcases hd with rfl |hd
   ·exact ih _ (.inl rfl)
   ·rcases List.mem_cons.mp hd with rfl |hd
    ·cases z:bY la d (bu la b r)with
     |false=>rfl
     |true=>
      rcases Bool.eq_false_or_eq_true (bY la b d)with l |l
      ·have:=ol hb he (m12 hb) l z;rw [ih b (.inl rfl)]at this;exact(aj this).elim
      ·have:=oj he hb q l;subst this;rw [ih _ (.inl rfl)]at z;exact(aj z).elim
    ·exact ih d (.inr hd)
theorem tB {l l':List Nm}(h:∀x,x∈l↔x∈l')(hl:∀x∈l,x∈ay):cu la l=cu la l':=by
 cases l with
 |nil=>cases l' with
  |nil=>rfl
  |cons a r=>exact absurd ((h a).mpr List.mem_cons_self) (by simp)
 |cons b r=>cases l' with
  |nil=>exact absurd ((h b).mp List.mem_cons_self) (by simp)
  |cons b' r'=>
   have hl':∀x∈b'::r',x∈ay:=fun x hx=>hl x ((h x).mpr hx)
   have m1:=eY (la:=la) (l:=b::r) (by simp)
   have m2:=eY (la:=la) (l:=b'::r') (by simp)
   refine oj (la:=la) (hl _ m1) (hl' _ m2) (iR r' b' (hl' _ List.mem_cons_self) (fun x hx=>hl' x (List.mem_cons_of_mem _ hx)) _ (List.mem_cons.mp ((h _).mp m1))) (iR r b (hl _ List.mem_cons_self) (fun x hx=>hl x (List.mem_cons_of_mem _ hx)) _ (List.mem_cons.mp ((h _).mpr m2)))
end
noncomputable def dJ (L:AN):List (Nm×List Nm):=L.map fun p=>(p.1,p.2.2)
theorem lN (L:AN)(x:Nm)(f:Int×List Nm→Int×List Nm)(hf:∀q,(f q).2=q.2):dJ (bc L x f)=dJ L:=by
 unfold dJ bc;rw [List.map_map];refine List.map_congr_left fun p Z=>?_;show((if p.1=x then(p.1,f p.2)else p).1,(if p.1=x then(p.1,f p.2)else p).2.2)=_
 split
 ·rw [hf]
 ·rfl
theorem jr {L L':AN}(h:dJ L=dJ L'):L.map (·.1)=L'.map (·.1):=by
 have:=congrArg (List.map Prod.fst) h;unfold dJ at this;rw [List.map_map,List.map_map]at this;exact this
theorem sY (L:AN)(n:Nm):fw L n=match (dJ L).find? fun p=>aF p.1 n with |some p=>p.2 |none=>[]:=by
 unfold fw dJ;rw [List.find?_map];have e:((fun p:Nm×List Nm=>aF p.1 n)∘fun(p:Nm×Int×List Nm)=>(p.1,p.2.2))=fun p=>aF p.1 n:=rfl
 rw [e];cases L.find? fun p=>aF p.1 n<;>rfl
theorem oO:∀(S:List Nm)(L:AN)(rd:List Nm),S.Nodup→(∀y∈S,y∈L.map (·.1))→
  (∀y,cp (S.foldl dm (L,rd)).1 y=if y∈S then cp L y - 1 else cp L y)∧(S.foldl dm (L,rd)).2=rd++S.filter (fun y=>cp L y - 1==0)∧dJ (S.foldl dm (L,rd)).1=dJ L
 | [],L,rd,_,_=>⟨fun y=>by simp,by simp,rfl⟩
 |a::r,L,rd,hn,hs=>by
  refine xa (List.nodup_cons.mp hn) fun h1 h2=>?_;have ha:=hs a List.mem_cons_self;have np1:∀y,cp (bc L a fun v=>(v.1 - 1,v.2)) y=if y=a then cp L y - 1 else cp L y:=fun y=>by
   rw [fE,fJ,fE];by_cases e:y=a
   ·rw [if_pos ⟨e,ha⟩,if_pos e,e]
   ·rw [if_neg fun h=>e h.1,if_neg e]
  refine b9 (oO r (bc L a fun v=>(v.1 - 1,v.2)) (if cp (bc L a fun v=>(v.1 - 1,v.2)) a==0 then rd++ [a]else rd) h2 fun y hy=>by rw [a9];exact hs y (List.mem_cons_of_mem _ hy)) fun i1 i2 i3=>?_
  have e0:dm (L,rd) a=(bc L a fun v=>(v.1 - 1,v.2),if cp (bc L a fun v=>(v.1 - 1,v.2)) a==0 then rd++ [a]else rd):=rfl
  rw [List.foldl_cons,e0];refine⟨fun y=>?_,?_,i3.trans (lN _ _ _ fun Z=>rfl)⟩
  ·rw [i1,np1];by_cases e:y=a
   ·subst e;rw [if_neg h1,if_pos rfl,if_pos List.mem_cons_self]
   ·rw [if_neg e];by_cases m:y∈r
    ·rw [if_pos m,if_pos (List.mem_cons_of_mem _ m)]
    ·rw [if_neg m,if_neg fun z=>(List.mem_cons.mp z).elim e m]
  ·rw [i2,np1,if_pos rfl];have e1:r.filter (fun y=>cp (bc L a fun v=>(v.1 - 1,v.2)) y - 1==0)=r.filter fun y=>cp L y - 1==0:=by
    refine List.filter_congr fun y hy=>?_;rw [np1,if_neg fun(e:y=a)=>h1 (e▸hy)]
   rw [e1];cases q:cp L a - 1==0 with
   |true=>rw [if_pos rfl,List.filter_cons_of_pos (by simpa using q),List.append_assoc];rfl
   |false=>rw [if_neg (by simp),List.filter_cons_of_neg (by simpa using q)]
theorem ko:∀(l:List Nm)(L:AN),(∀y∈l,y∈L.map (·.1))→(∀y,cp (l.foldl dw L) y=if y∈l then -1 else cp L y)∧dJ (l.foldl dw L)=dJ L
 | [],L,_=>⟨fun y=>by simp,rfl⟩
 |a::r,L,hs=>by
  refine xa (ko r (dw L a) fun y hy=>by unfold dw;rw [a9];exact hs y (List.mem_cons_of_mem _ hy)) fun i1 i2=>?_
  refine⟨fun y=>?_,i2.trans (lN _ _ _ fun Z=>rfl)⟩
  rw [List.foldl_cons,i1];have e:cp (dw L a) y=if y=a then -1 else cp L y:=by
   unfold dw;rw [fE,fJ,fE];by_cases e:y=a
   ·rw [if_pos ⟨e,hs a List.mem_cons_self⟩,if_pos e]
   ·rw [if_neg fun h=>e h.1,if_neg e]
  rw [e];by_cases m:y∈r
  ·rw [if_pos m,if_pos (List.mem_cons_of_mem _ m)]
  ·rw [if_neg m];by_cases z:y=a
   ·rw [if_pos z,if_pos (z▸List.mem_cons_self)]
   ·rw [if_neg z,if_neg fun h=>(List.mem_cons.mp h).elim z m]
noncomputable def fV (ord l:List Nm):List Nm:=l.filter fun y=> !c9 ord y
theorem l0 {ord l:List Nm}{y:Nm}:y∈fV ord l↔y∈l∧y∉ord:=by
 unfold fV;rw [List.mem_filter];refine and_congr_right fun Z=>?_;cases q:c9 ord y with
 |true=>exact⟨(fun h=>nomatch h),fun h=>absurd (cN.mp q) h⟩
 |false=>exact⟨(fun Z h=>by rw [cN.mpr h]at q;exact(cb q).elim),fun Z=>rfl⟩
theorem oi {ord:List Nm}{x:Nm}:∀{l:List Nm},x∉l→fV (ord++ [x]) l=fV ord l:=fun{l} h=>by
 unfold fV;refine List.filter_congr fun y hy=>?_;have:c9 (ord++ [x]) y=c9 ord y:=by
  rw [Bool.eq_iff_iff,cN,cN,List.mem_append,List.mem_singleton];exact⟨fun z=>z.resolve_right fun e=>h (e▸hy),.inl⟩
 rw [this]
theorem qh {ord:List Nm}{x:Nm}(hx:x∉ord):∀{l:List Nm},l.Nodup→x∈l→(fV (ord++ [x]) l).length+1=(fV ord l).length
 | [],_,h=>nomatch h
 |a::r,hn,h=>by
  obtain⟨h1,h2⟩:=List.nodup_cons.mp hn;unfold fV;by_cases e:a=x
  ·subst e;rw [List.filter_cons_of_neg (by simp [cN]),List.filter_cons_of_pos (by simpa [cN] using (by cases q:c9 ord a with |true=>exact absurd (cN.mp q) hx |false=>rfl)),List.length_cons]
   have:=oi (ord:=ord) h1;unfold fV at this;rw [this]
  ·have ih:=qh hx h2 ((List.mem_cons.mp h).resolve_left fun z=>e z.symm)
   unfold fV at ih;have ea:c9 (ord++ [x]) a=c9 ord a:=by
    rw [Bool.eq_iff_iff,cN,cN,List.mem_append,List.mem_singleton];exact⟨fun z=>z.resolve_right e,.inl⟩
   rw [List.filter_cons,List.filter_cons,ea];cases c9 ord a with
   |true=>exact ih
   |false=>show(_::_:List Nm).length+1=(_::_:List Nm).length;rw [List.length_cons,List.length_cons];lia
theorem eV.clo {su:Su}{L:List Nm}(T:eV su L):∀x∈L,∀y∈su x,y∈L:=by
 induction T with
 |nil=>exact fun x h=>nomatch h
 |snoc _ h ih=>
  intro z hz y hy;rcases List.mem_append.mp hz with hz |hz
  ·exact List.mem_append_left _ (ih z hz y hy)
  ·rw [List.mem_singleton.mp hz]at hy;exact List.mem_append_left _ (h y hy)
structure ga (J:List br)(rs:RS):Prop where
 sus:dJ rs.L=dJ (bR J)
 np:∀n∈J.map (·.1),cp rs.L n=if n∈rs.ord then -2 else if n∈rs.rd then -1 else((fV rs.ord (nf J n)).length:Int)
 rdn:rs.rd.Nodup
 rd:∀n,n∈rs.rd↔n∈J.map (·.1)∧n∉rs.ord∧∀y∈nf J n,y∈rs.ord
 ordn:rs.ord.Nodup
 ords:∀n∈rs.ord,n∈J.map (·.1)
 topo:eV (nf J) rs.ord
 la:rs.la∈ay
section
variable {J:List br}{rs:RS}
theorem nZ (hJ:cG J){n y:Nm}(hn:n∈J.map (·.1))(h:y∈nf J n):y∈J.map (·.1)∧y≠n:=by
 refine ah (List.mem_map.mp hn) fun q hq z1=>?_;subst z1
 rw [lg hJ hq]at h;exact mz h
theorem vD (hJ:cG J)(n:Nm):(nf J n).Nodup:=by
 unfold nf
 split
 ·exact j8 hJ _
 ·exact .nil
theorem lX (hJ:cG J){n:Nm}(h:n∈J.map (·.1)):n∈ay:=by
 refine ah (List.mem_map.mp h) fun q hq z2=>?_;subst z2
 exact hJ.nm q hq
theorem ga.names (K:ga J rs)(hJ:cG J)(y:Nm):y∈rs.L.map (·.1)↔y∈J.map (·.1):=by rw [jr K.sus];exact ef hJ y
theorem ga.su (K:ga J rs)(n:Nm):fw rs.L n=fw (bR J) n:=by rw [sY,sY,K.sus]
theorem ga.len (K:ga J rs)(hJ:cG J):rs.ord.length≤J.length∧rs.rd.length≤J.length:=by
 have h1:=ch K.ordn K.ords;have h2:=ch K.rdn fun x h=>((K.rd x).mp h).1
 rw [List.length_map]at h1 h2;exact⟨h1,h2⟩
theorem ga.ok (K:ga J rs)(hJ:cG J)(hlen:∀p∈bR J,p.2.2.length≤400):BR rs:=by
 have hl:=K.len hJ;have hJl:=hJ.len;have tr:∀p∈rs.L,∃p'∈bR J,p'.1=p.1∧p'.2.2=p.2.2:=fun p hp=>by
  have:(p.1,p.2.2)∈dJ (bR J):=by rw [←K.sus];exact List.mem_map_of_mem hp
  refine ah (List.mem_map.mp this) fun p' hp' e=>?_;have e':(p'.1,p'.2.2)=(p.1,p.2.2):=e;rw [Prod.mk.injEq]at e';exact⟨p',hp',e'.1,e'.2⟩
 refine⟨K.la,fun y hy=>?_,fun p hp=>?_,fun p hp y hy=>?_,by lia,by lia⟩
 ·refine b9 ((K.rd y).mp hy) fun h1 h2 h3=>?_;exact⟨lX hJ h1,(K.names hJ y).mpr h1,by rw [K.np y h1,if_neg h2,if_pos hy]⟩
 ·refine aR (tr p hp) fun p' h1 Z h3=>?_;rw [←h3];exact hlen p' h1
 ·refine aR (tr p hp) fun p' h1 Z h3=>?_;rw [←h3]at hy;rw [jr K.sus];exact oQ J p' h1 y hy
theorem Ew (hJ:cG J){xs:List Nm}(hn:xs.Nodup)(hx:∀n,n∈xs↔n∈J.map (·.1)∧cp (bR J) n=0):ga J ⟨xs.foldl dw (bR J),xs,[],[97,65]⟩:=by
 refine xa (ko xs (bR J) fun y hy=>(ef hJ y).mpr ((hx y).mp hy).1) fun o1 o2=>?_
 refine⟨o2,fun n hnJ=>?_,hn,fun n=>?_,.nil,fun n h=>(nomatch h),.nil,(show([97,65]:Nm)∈ay by decide)⟩
 ·show cp (xs.foldl dw (bR J)) n=if n∈ []then -2 else if n∈xs then -1 else _
  rw [o1,if_neg (c:=n∈([]:List Nm)) (by simp)]
  split
  ·rfl
  ·rw [pM hJ];have:fV [] (nf J n)=nf J n:=List.filter_eq_self.mpr fun Z Z=>rfl
   show _=((fV [] (nf J n)).length:Int)
   rw [this]
 ·show n∈xs↔n∈J.map (·.1)∧n∉ []∧∀y∈nf J n,y∈ []
  rw [hx,pM hJ];refine and_congr_right fun Z=>⟨fun h=>⟨by simp,fun y hy=>?_⟩,fun h=>?_⟩
  ·have:nf J n=[]:=List.eq_nil_of_length_eq_zero (by lia)
   rw [this]at hy;exact hy
  ·have:nf J n=[]:=List.eq_nil_iff_forall_not_mem.mpr fun y hy=>by have:=h.2 y hy;simp at this
   rw [this];rfl
theorem vY (hJ:cG J)(K:ga J rs)(hrd:rs.rd≠ []):ga J (jQ rs):=by
 have hxm:=eY (la:=rs.la) hrd;unfold jQ;generalize cu rs.la rs.rd=x at*;refine b9 ((K.rd x).mp hxm) fun hxN hxo hxn=>?_;rw [K.su x];generalize hS:fw (bR J) x=S;have memS:∀y,y∈S↔y∈J.map (·.1)∧x∈nf J y:=fun y=>by rw [←hS];exact n8 hJ
 have ndS:S.Nodup:=by rw [←hS];exact u6 hJ x
 have hxS:x∉S:=fun h=>(nZ hJ hxN ((memS x).mp h).2).2 rfl
 have So:∀y∈S,y∉rs.ord:=fun y hy ho=>hxo (K.topo.clo y ho x ((memS y).mp hy).2)
 have Sr:∀y∈S,y∉rs.rd:=fun y hy hr=>hxo (((K.rd y).mp hr).2.2 x ((memS y).mp hy).2)
 have np1:∀y,cp (bc rs.L x fun v=>(-2,v.2)) y=if y=x then -2 else cp rs.L y:=fun y=>by
  rw [fE,fJ,fE];by_cases e:y=x
  ·rw [if_pos ⟨e,(K.names hJ x).mpr hxN⟩,if_pos e]
  ·rw [if_neg fun h=>e h.1,if_neg e]
 have nmS:∀y∈S,y∈(bc rs.L x fun v=>(-2,v.2)).map (·.1):=fun y hy=>by rw [a9];exact(K.names hJ y).mpr ((memS y).mp hy).1
 refine b9 (oO S (bc rs.L x fun v=>(-2,v.2)) [] ndS nmS) fun d1 d2 d3=>?_
 have eD:ej rs.L [] x S=S.foldl dm (bc rs.L x fun v=>(-2,v.2),[]):=rfl
 rw [eD];generalize S.foldl dm (bc rs.L x fun v=>(-2,v.2),[])=dd at*
 have hd2:∀y,y∈dd.2↔y∈S∧cp rs.L y=1:=fun y=>by
  rw [d2,List.nil_append,List.mem_filter];refine and_congr_right fun hy=>?_;rw [np1,if_neg (fun(e:y=x)=>hxS (e▸hy)),beq_iff_eq]
  lia
 have sdd:dJ dd.1=dJ (bR J):=d3.trans ((lN rs.L x (fun v=>(-2,v.2)) fun Z=>rfl).trans K.sus)
 refine xa (ko dd.2 dd.1 fun y hy=>by
  rw [jr sdd]
  exact(ef hJ y).mpr ((memS y).mp ((hd2 y).mp hy).1).1) fun o1 o2=>?_
 have cnt:∀y∈S,((fV (rs.ord++ [x]) (nf J y)).length:Int)=cp rs.L y - 1:=fun y hy=>by
  refine xa ((memS y).mp hy) fun h1 h2=>?_;rw [K.np y h1,if_neg (So y hy),if_neg (Sr y hy)];have:=qh hxo (vD hJ y) h2
  lia
 have inF:∀n,n∈rs.rd.filter (fun n=> !aF n x)↔n∈rs.rd∧n≠x:=fun n=>by
  rw [List.mem_filter,qx];simp
 have inR:∀n,n∈rs.rd.filter (fun n=> !aF n x)++dd.2↔(n∈rs.rd∧n≠x)∨(n∈S∧cp rs.L n=1):=fun n=>by rw [List.mem_append,inF,hd2]
 refine⟨o2.trans sdd,fun n hn=>?_,?_,fun n=>?_,?_,fun n hn=>?_,.snoc K.topo hxn,lX hJ hxN⟩
 ·show cp (dd.2.foldl dw dd.1) n=if n∈rs.ord++ [x]then -2 else if n∈rs.rd.filter (fun n=> !aF n x)++dd.2 then -1 else((fV (rs.ord++ [x]) (nf J n)).length:Int)
  rw [o1,d1,np1];by_cases e:n=x
  ·subst e;rw [if_neg (fun h=>hxS ((hd2 n).mp h).1),if_neg hxS,if_pos rfl,if_pos (List.mem_append_right _ (by simp))]
  ·rw [if_neg e];by_cases ho:n∈rs.ord
   ·rw [if_neg (fun h=>So n ((hd2 n).mp h).1 ho),if_neg (fun h=>So n h ho),if_pos (List.mem_append_left _ ho),K.np n hn,if_pos ho]
   ·rw [if_neg (c:=n∈rs.ord++ [x]) fun h=>(List.mem_append.mp h).elim ho fun h=>e (List.mem_singleton.mp h)]
    by_cases hl:n∈dd.2
    ·rw [if_pos hl,if_pos (List.mem_append_right _ hl)]
    ·rw [if_neg hl];by_cases hr:n∈rs.rd
     ·rw [if_neg (fun h=>Sr n h hr),if_pos ((inR n).mpr (.inl ⟨hr,e⟩)),K.np n hn,if_neg ho,if_pos hr]
     ·rw [if_neg (c:=n∈rs.rd.filter (fun n=> !aF n x)++dd.2) fun h=>((inR n).mp h).elim (fun h=>hr h.1) fun h=>hl ((hd2 n).mpr h)]
      by_cases hs:n∈S
      ·rw [if_pos hs,cnt n hs]
      ·rw [if_neg hs,K.np n hn,if_neg ho,if_neg hr,oi fun h=>hs ((memS n).mpr ⟨hn,h⟩)]
 ·show(rs.rd.filter (fun n=> !aF n x)++dd.2).Nodup
  rw [List.nodup_append];refine⟨K.rdn.filter _,?_,fun a ha b hb e=>?_⟩
  ·rw [d2,List.nil_append];exact ndS.filter _
  ·exact Sr b ((hd2 b).mp hb).1 (e▸((inF a).mp ha).1)
 ·show n∈rs.rd.filter (fun n=> !aF n x)++dd.2↔n∈J.map (·.1)∧n∉rs.ord++ [x]∧∀y∈nf J n,y∈rs.ord++ [x]
  rw [inR];constructor
  ·rintro (⟨h1,h2⟩ |⟨h1,h2⟩)
   ·refine b9 ((K.rd n).mp h1) fun a1 a2 a3=>?_;exact⟨a1,fun h=>(List.mem_append.mp h).elim a2 fun h=>h2 (List.mem_singleton.mp h),fun y hy=>List.mem_append_left _ (a3 y hy)⟩
   ·have c:=cnt n h1;rw [h2]at c;have hz:(fV (rs.ord++ [x]) (nf J n)).length=0:=by lia
    have hnil:=List.eq_nil_of_length_eq_zero hz;refine⟨((memS n).mp h1).1,fun h=>(List.mem_append.mp h).elim (So n h1) fun h=>hxS (List.mem_singleton.mp h▸h1),fun y hy=>Classical.byContradiction fun hny=>?_⟩
    have:=l0.mpr ⟨hy,hny⟩;rw [hnil]at this;cases this
  ·rintro ⟨h1,h2,h3⟩
   rw [List.mem_append,not_or,List.mem_singleton]at h2;by_cases hs:n∈S
   ·right
    refine⟨hs,?_⟩;have c:=cnt n hs;have hz:fV (rs.ord++ [x]) (nf J n)=[]:=List.eq_nil_iff_forall_not_mem.mpr fun y hy=>(l0.mp hy).2 (h3 y (l0.mp hy).1)
    rw [hz]at c;have:(([]:List Nm).length:Int)=0:=rfl
    lia
   ·left
    refine⟨(K.rd n).mpr ⟨h1,h2.1,fun y hy=>?_⟩,h2.2⟩
    rcases List.mem_append.mp (h3 y hy)with h |h
    ·exact h
    ·rw [List.mem_singleton.mp h]at hy;exact absurd ((memS n).mpr ⟨h1,hy⟩) hs
 ·show(rs.ord++ [x]).Nodup
  rw [List.nodup_append];exact⟨K.ordn,by simp,fun a ha b hb=>by rw [List.mem_singleton.mp hb];exact fun e=>hxo (e▸ha)⟩
 ·rcases List.mem_append.mp hn with h |h
  ·exact K.ords n h
  ·rw [List.mem_singleton.mp h];exact hxN
noncomputable def c8 (J:List br):NL:=dN jk J
theorem vK (hJ:cG J)(ord:List Nm)(n:Nm):n∈dg (c8 J) ord↔n∈J.map (·.1)∧n∉ord∧∀y∈nf J n,y∈ord:=by
 unfold dg c8 dN;rw [List.mem_map];have key:∀l:List Nm,(l.filter fun y=> !c9 ord y).isEmpty=true↔∀y∈l,y∈ord:=fun l=>by
  rw [List.isEmpty_iff,List.filter_eq_nil_iff];refine forall_congr' fun y=>imp_congr_right fun Z=>?_
  rw [←cN];cases c9 ord y<;>simp
 constructor
 ·rintro ⟨p,hp,rfl⟩
  refine xa (List.mem_filter.mp hp) fun h1 h2=>?_;refine ah (List.mem_map.mp h1) fun q hq z3=>?_;subst z3
  rw [Bool.and_eq_true,key]at h2;refine⟨List.mem_map_of_mem hq,fun h=>?_,?_⟩
  ·have:=h2.1;rw [cN.mpr h]at this;exact(aj this).elim
  ·rw [lg hJ hq];exact h2.2
 ·rintro ⟨h1,h2,h3⟩
  refine ah (List.mem_map.mp h1) fun q hq z4=>?_;subst z4
  refine⟨(q.1,bH J q),List.mem_filter.mpr ⟨List.mem_map.mpr ⟨q,hq,rfl⟩,?_⟩,rfl⟩;rw [Bool.and_eq_true,key];refine⟨?_,by rw [←lg hJ hq];exact h3⟩
  cases q1:c9 ord q.1 with
  |false=>rfl
  |true=>exact absurd (cN.mp q1) h2
theorem ga.same (K:ga J rs)(hJ:cG J)(n:Nm):n∈rs.rd↔n∈dg (c8 J) rs.ord:=by rw [K.rd,vK hJ]
noncomputable def PK (J:List br)(DD:List Nm)(rs:RS) (n:Nat):Prop:=ga J rs∧gH (c8 J) n rs.ord rs.la=DD∧J.length<n+rs.ord.length
variable {DD:List Nm}
theorem pU (hJ:cG J){n:Nat}(h:PK J DD rs n)(hrd:rs.rd≠ []):∃m,m<n∧PK J DD (jQ rs) m:=by
 refine b9 h fun K hd hl=>?_;have hle:=(K.len hJ).1;obtain⟨m,rfl⟩:∃m,n=m+1:=⟨n - 1,by lia⟩
 have hp:cu rs.la rs.rd=cu rs.la (dg (c8 J) rs.ord):=tB (K.same hJ) fun x hx=>lX hJ ((K.rd x).mp hx).1
 refine⟨m,Nat.lt_succ_self _,vY hJ K hrd,?_,?_⟩
 ·show gH (c8 J) m (rs.ord++ [cu rs.la rs.rd]) (cu rs.la rs.rd)=DD
  rw [hp,←hd]
  conv=>rhs;unfold gH
  cases q:dg (c8 J) rs.ord with
  |nil=>
   refine xe (List.exists_mem_of_ne_nil _ hrd) fun b hb=>?_;have:=(K.same hJ b).mp hb;rw [q]at this;cases this
  |cons b r=>rfl
 ·show J.length<m+(rs.ord++ [cu rs.la rs.rd]).length
  rw [List.length_append,List.length_singleton];lia
theorem nV (hJ:cG J){n:Nat}(h:PK J DD rs n)(hrd:rs.rd=[]):rs.ord=DD:=by
 refine b9 h fun K hd hl=>?_;have hle:=(K.len hJ).1;obtain⟨m,rfl⟩:∃m,n=m+1:=⟨n - 1,by lia⟩
 rw [←hd];unfold gH;cases q:dg (c8 J) rs.ord with
 |nil=>rfl
 |cons b r=>
  have:=(K.same hJ b).mpr (by rw [q];exact List.mem_cons_self)
  rw [hrd]at this;cases this
theorem vq (hJ:cG J):∀(n:Nat)(rs:RS),PK J DD rs n→∃rs',ga J rs'∧rs'.rd=[]∧rs'.ord=DD:=by
 intro n
 induction n using Nat.strongRecOn with
 |ind n ih=>
  intro rs h;by_cases hrd:rs.rd=[]
  ·exact⟨rs,h.1,hrd,nV hJ h hrd⟩
  ·refine ah (pU hJ h hrd) fun m hm h'=>?_;exact ih m hm _ h'
theorem wE (hJ:cG J)(K:ga J rs)(hrd:rs.rd=[]){su:Su}{done:List Nm}(T:eV su done)(hsu:∀n m,m∈J.map (·.1)→n∈nf J m→m∈su n)(ha:∀x∈J.map (·.1),x∈done):∀x∈J.map (·.1),x∈rs.ord:=by
 have bad:∀m∈J.map (·.1),m∉rs.ord→∃y,(y∈J.map (·.1)∧y∉rs.ord)∧m∈su y∧y≠m:=fun m hm ho=>by
  refine Classical.byContradiction fun hno=>?_;have:m∈rs.rd:=(K.rd m).mpr ⟨hm,ho,fun y hy=>Classical.byContradiction fun hyo=>hno ⟨y,⟨(nZ hJ hm hy).1,hyo⟩,hsu y m hm hy,(nZ hJ hm hy).2⟩⟩
  rw [hrd]at this;cases this
 have key:∀L:List Nm,eV su L→(∀m∈J.map (·.1),m∉rs.ord→m∈L)→∀m∈J.map (·.1),m∉rs.ord→False:=by
  intro L T
  induction T with
  |nil=>exact fun h m hm ho=>nomatch h m hm ho
  | @snoc L x T hx ih=>
   intro h;refine ih fun m hm ho=>?_;rcases List.mem_append.mp (h m hm ho)with q |q
   ·exact q
   ·have e:=List.mem_singleton.mp q;subst e;refine aR (bad m hm ho) fun y z5 hmy hne=>?_;obtain⟨hy,hyo⟩:=z5
    have hyL:y∈L:=(List.mem_append.mp (h y hy hyo)).resolve_right fun z=>hne (List.mem_singleton.mp z)
    exact T.clo y hyL m hmy
 exact fun x hx=>Classical.byContradiction fun ho=>key done T (fun m hm Z=>ha m hm) x hx ho
theorem vC (hJ:cG J)(K:ga J rs){su:Su}{N:List Nm}(C:ki su N)(hN:∀y∈N,y∈J.map (·.1))(hsu:∀n m,m∈su n→n∈nf J m):rs.ord.length<J.length:=by
 refine ah C fun C hne hC=>?_;have key:∀L:List Nm,eV (nf J) L→∀y∈C,y∉L:=by
  intro L T
  induction T with
  |nil=>exact fun y Z h=>nomatch h
  | @snoc L x T hx ih=>
   intro y hy h;rcases List.mem_append.mp h with h |h
   ·exact ih y hy h
   ·rw [List.mem_singleton.mp h]at hy;refine cn (hC x hy) fun Z z hz hzx=>?_;exact ih z hz (hx z (hsu z x hzx))
 refine xe (List.exists_mem_of_ne_nil C hne) fun c hc=>?_;have hnd:(c::rs.ord).Nodup:=List.nodup_cons.mpr ⟨key rs.ord K.topo c hc,K.ordn⟩;have:=ch hnd (m:=J.map (·.1)) fun x hx=>(List.mem_cons.mp hx).elim (fun e=>e▸hN c (hC c hc).1) (K.ords x)
 rw [List.length_map,List.length_cons]at this;exact this
end
noncomputable def C9:List Int:=[0,29,10,114,95,92,1,9,3]
noncomputable def bJ (xs:List Int):List br:=(xs.take 6++C9).foldl bZ []
structure JI (J:List br):Prop where
 len:J.length≤6
 nd:(J.map (·.1)).Nodup
 nm:∀q∈J,q.1∈ay
 pt:∀q∈J,q.2∈ [] ::fD
set_option tactic.hygienic true in
theorem JI.step {J:List br}(h:JI J) (v:Int):JI (bZ J v):=by
 unfold bZ
 split
 ·rename_i c;refine⟨?_,?_,fun q hq=>?_,fun q hq=>?_⟩
  ·rw [List.length_append,List.length_singleton];lia
  ·rw [List.map_append,List.nodup_append];refine⟨h.nd,by simp,fun a ha b hb=>?_⟩
   simp only [List.map_cons,List.map_nil,List.mem_singleton]at hb;exact fun e=>c.2 (by rw [←hb,←e];exact ha)
  ·rcases List.mem_append.mp hq with hq |hq
   ·exact h.nm q hq
   ·rw [List.mem_singleton.mp hq];exact jB v
  ·rcases List.mem_append.mp hq with hq |hq
   ·exact h.pt q hq
   ·rw [List.mem_singleton.mp hq];exact vt v
 ·exact h
theorem JI.fold {J:List br}(h:JI J):∀l:List Int,JI (l.foldl bZ J)
 | []=>h
 |v::r=>(h.step v).fold r
theorem mK:∀(l:List Int)(J:List br),JI J→(l.foldl bZ J).length=6∨((∀v∈l,da v∈(l.foldl bZ J).map (·.1))∧∀q∈J.map (·.1),q∈(l.foldl bZ J).map (·.1))
 | [],J,h=>.inr ⟨fun v hv=>(nomatch hv),fun q hq=>hq⟩
 |v::r,J,h=>by
  rw [List.foldl_cons];rcases mK r (bZ J v) (h.step v)with e |⟨h1,h2⟩
  ·exact .inl e
  ·by_cases c:J.length<6∧da v∉J.map (·.1)
   ·have e:bZ J v=J++ [(da v,lV v)]:=if_pos c
    right
    refine⟨fun u hu=>?_,fun q hq=>h2 q (by rw [e,List.map_append];exact List.mem_append_left _ hq)⟩
    rcases List.mem_cons.mp hu with rfl |hu
    ·exact h2 _ (by rw [e,List.map_append];exact List.mem_append_right _ (by simp))
    ·exact h1 u hu
   ·have e:bZ J v=J:=if_neg c;rw [e]at h1 h2⊢;by_cases c6:da v∈J.map (·.1)
    ·right
     refine⟨fun u hu=>?_,h2⟩
     rcases List.mem_cons.mp hu with rfl |hu
     ·exact h2 _ c6
     ·exact h1 u hu
    ·left
     have h6:¬J.length<6:=fun z=>c ⟨z,c6⟩
     have h3:=(h.fold r).len;have h4:=ch h.nd (m:=(r.foldl bZ J).map (·.1)) h2;rw [List.length_map,List.length_map]at h4
     lia
noncomputable def Aj:List Nm:=[[97,97],[98,65],[65],[97,98],[98,98],[65,97],[97],[97,65]]
theorem AW:Aj.all (fun n=>C9.any fun v=>aF (da v) n)=true:=by decide+kernel
theorem ou (xs:List Int):JI (bJ xs)∧(bJ xs).length=6:=by
 have h0:JI []:=⟨by decide,.nil,(fun q h=>nomatch h),fun q h=>nomatch h⟩
 have h1:=h0.fold (xs.take 6++C9);refine⟨h1,?_⟩;rcases mK (xs.take 6++C9) [] h0 with e |⟨h2,_⟩
 ·exact e
 ·have hs:∀n∈Aj,n∈(bJ xs).map (·.1):=fun n hn=>by
   refine ah (List.any_eq_true.mp (List.all_eq_true.mp AW n hn)) fun v hv e=>?_;rw [←(bf _ _).mp e];exact h2 v (List.mem_append_right _ hv)
  have:=ch (show Aj.Nodup by decide) hs
  rw [List.length_map]at this;have h3:=h1.len;have:(8:Nat)≤(bJ xs).length:=this;have:(bJ xs).length≤6:=h3
  lia
theorem qj (xs:List Int):cG (bJ xs):=let h:=(ou xs).1;⟨Nat.le_trans h.len (by decide),h.nd,h.nm,h.pt⟩
noncomputable def fh (J:List br):List Nm:=gH (c8 J) ((c8 J).length+1) [] [97,65]
open Classical in
noncomputable def eQ (xs:List Int):cS:=fun f args=>
 if ar f "_law_jobs" then(if args=[.list ((xs.take 6++C9).map .int),.int 6]then some (al (bJ xs))else none)
 else if ar f "_law_needs" then(if args=[al (bJ xs)]then some (bL (c8 (bJ xs)))else none)
 else if ar f "_law_due" then(if args=[bL (c8 (bJ xs))]then some (ag (fh (bJ xs)))else none)
 else ib f args
theorem BY (xs:List Int):eQ xs "_law_jobs" [.list ((xs.take 6++C9).map .int),.int 6]=some (al (bJ xs)):=by
 unfold eQ;rw [if_pos (by kernel_rfl),if_pos rfl]
theorem zh (xs:List Int):eQ xs "_law_needs" [al (bJ xs)]=some (bL (c8 (bJ xs))):=by
 unfold eQ;rw [if_neg (by decide+kernel),if_pos (by kernel_rfl),if_pos rfl]
theorem DL (xs:List Int):eQ xs "_law_due" [bL (c8 (bJ xs))]=some (ag (fh (bJ xs))):=by
 unfold eQ;rw [if_neg (by decide+kernel),if_neg (by decide+kernel),if_pos (by kernel_rfl),if_pos rfl]
theorem qG {xs:List Int}{f:Str}{args:List D}(h:(ar f "_law_jobs" ||ar f "_law_needs" ||ar f "_law_due")=false):eQ xs f args=ib f args:=by
 simp only [Bool.or_eq_false_iff]at h;unfold eQ;rw [h.1.1,h.1.2,h.2];rfl
theorem Bn {J:List br}(hJ:cG J):wO (c8 J):=by
 have e:(c8 J).map (·.1)=J.map (·.1):=by unfold c8 dN;rw [List.map_map];rfl
 have hl:=hJ.len;refine⟨by unfold c8 dN;rw [List.length_map];lia,by rw [e];exact hJ.nd,fun q hq=>?_,fun q hq=>?_⟩
 ·refine ah (List.mem_map.mp hq) fun p hp z1=>?_;subst z1
  exact hJ.nm p hp
 ·refine ah (List.mem_map.mp hq) fun p hp z2=>?_;subst z2
  refine⟨Nat.le_trans (List.length_filter_le _ _) (by rw [List.length_map];lia),fun y hy=>lX hJ (List.mem_filter.mp hy).1⟩
section
variable {prog:Program}{w:World}{mg mb:Str→Option Value}{k:Nat}
theorem AD {ft:Ft}{f:Str}{args:List D}{d:D}(h:rz ft f args=some d):∃p o,args=[.str p,.str o]∧ar f "_law_fits" =true∧(ft p o).map D.bool=some d:=by
 cases args with
 |nil=>exact(aa h).elim
 |cons a r=>
  cases a with
  |str p=>cases r with
   |nil=>exact(aa h).elim
   |cons b r=>cases b with
    |str o=>cases r with
     |nil=>exact(jW h).elim (fun z=>⟨p,o,rfl,z⟩) fun z=>(aa z.2).elim
     |cons=>exact(aa h).elim
    |_=>exact(aa h).elim
  |_=>exact(aa h).elim
theorem yK (hm:MgOK mg)(he:fu prog w mg mb)(hgc:fq w mg mb bw):fi prog w (KP w.params) mg mb (k+1) (rz jk):=fun f args d h=>by
 refine aX (AD h) fun p o ea hf hb=>ah (Option.map_eq_some_iff.mp hb) fun b hb ed=>?_
 rw [(ao _ _).mp hf,ea,←ed];exact aR (kW hm he hgc NF 1 _ _ _ (jX hb)) fun a h1 h2 h3=>⟨a,h1,h2,h3.up (Nat.succ_le_succ (Nat.zero_le k))⟩
open Classical in
theorem lU (hm:MgOK mg)(he:fu prog w mg mb)(hgc:fq w mg mb bw)(xs:List Int)(hx:xs.length≤63):fi prog w (KP w.params) mg mb (k+12) (eQ xs):=fun f args d h=>by
 have hJ:=qj xs;have fn:∀a,(∀P,bK (Mine.hk P) a (an a) (aO a) (bj a))→∀s,Cx (KP w.params) mg mb s→∃o fd,s.heap.get? a=some o∧o.data=.func fd:=fun a F s hx=>by
  refine aX ((F w.params).ex s.heap hx.kin) fun o fd h1 h2 Z=>?_;exact⟨o,fd,h1,h2⟩
 rcases jW h with⟨hf,h⟩ |⟨_,h⟩
 ·refine xa (aL h) fun ha hd=>?_;rw [(ao _ _).mp hf,ha,←hd];refine⟨215,hm.fns ("_law_jobs",⟨215,aI⟩) (by simp [FT]),fn 215 wW,?_⟩
  exact l9 (wW w.params) (gQ hZ bw ((kW hm he hgc 60 (k+11)).mono (yc (k+10))) hgc 60 (fun h=>absurd h (by decide+kernel))) (by kernel_rfl) (vZ (xs.take 6++C9) (by rw [List.length_append,List.length_take];show _+9≤_;lia))
 ·rcases jW h with⟨hf,h⟩ |⟨_,h⟩
  ·refine xa (aL h) fun ha hd=>?_;rw [(ao _ _).mp hf,ha,←hd];refine⟨244,hm.fns ("_law_needs",⟨244,aI⟩) (by simp [FT]),fn 244 wV,?_⟩
   refine l9 (wV w.params) (gQ (rz jk) bw (yK (k:=k+10) hm he hgc) hgc 59 (fun h=>absurd h (by decide+kernel))) (by kernel_rfl) (tJ jk _ (Nat.le_trans hJ.len (by decide)) hJ.nd (fun q hq=>jh (hJ.nm q hq)) (fun q hq=>List.all_eq_true.mp AQ _ (hJ.pt q hq)) fun q hq o ho hne=>?_)
   refine ah (List.mem_map.mp ho) fun r hr z4=>ah (Ck ((List.mem_cons.mp (hJ.pt q hq)).resolve_left fun z=>by rw [z]at hne;exact(cb hne).elim) (hJ.nm r hr)) fun b Z h2=>?_
   rw [←z4,h2];rfl
  ·rcases jW h with⟨hf,h⟩ |⟨_,h⟩
   ·refine xa (aL h) fun ha hd=>?_;rw [(ao _ _).mp hf,ha,←hd];exact⟨254,hm.fns ("_law_due",⟨254,aI⟩) (by simp [FT]),fn 254 Cb,wl hm he hgc (Bn hJ)⟩
   ·exact pV hm he hgc (by lia) f args d h
end
noncomputable def LB:List Stmt:=bj 264
noncomputable def B7:PySem.Expr:=a8 (dU (bh LB 0)) 1
noncomputable def lK:PySem.Expr:=a8 (dU (bh LB 1)) 0
noncomputable def L1b:PySem.Expr:=a8 (dU (bh LB 1)) 1
noncomputable def L2:PySem.Expr:=dU (bh LB 2)
noncomputable def L3:PySem.Expr:=dU (bh LB 3)
noncomputable def iG:PySem.Expr:=a8 L3 1
noncomputable def B2:PySem.Expr:=a8 iG 0
noncomputable def L5:PySem.Expr:=dU (bh LB 5)
noncomputable def ew:PySem.Expr:=a8 (a8 L5 1) 0
theorem uP:lK=.ListComp (a8 lK 0) [⟨(ak lK).target,(ak lK).iter,[],0⟩] (af lK) lK.pos:=by kernel_rfl
theorem wS:L2=.ListComp (a8 L2 0) [⟨(ak L2).target,(ak L2).iter,[],0⟩] (af L2) L2.pos:=by kernel_rfl
theorem uO:iG=.ListComp B2 [⟨(ak iG).target,(ak iG).iter,[],0⟩] (af iG) iG.pos:=by kernel_rfl
theorem uN:ew=.ListComp (a8 ew 0) [⟨(ak ew).target,(ak ew).iter,[dh (ak ew).ifs 0],0⟩] (af ew) ew.pos:=by kernel_rfl
noncomputable def pD (X JD:D):Ro:=ad (ad aT "script" X) "jobs" JD
noncomputable def j4 (X JD ND DD:D):Ro:=ad (ad (pD X JD) "names" ND) "due" DD
noncomputable def mn (X JD ND DD PD:D)(me:Addr)(ring:Bool):Ro:=ad (ad (ad (j4 X JD ND DD) "parts" PD) "sorter" (.adr me)) "ring" (.bool ring)
theorem B8 (Φ:cS)(l:List D):(av Φ bw 59).ev (an 264).names (aW aT (aO 264) [.list l]) B7=match gz (.list l) none (some 6)with |none=>none |some a=>dq .Add a (.list (C9.map .int)):=by kernel_rfl
theorem DQ (Φ:cS)(xs:List Int)(hx:xs.length≤63):(av Φ bw 59).ev (an 264).names (aW aT (aO 264) [.list (xs.map .int)]) B7=some (.list ((xs.take 6++C9).map .int)):=by
 refine(B8 _ _).trans ?_;unfold gz;dsimp only;rw [if_pos (by rw [List.length_map];lia)]
 show dq .Add (.list ((xs.map D.int).take 6)) (.list (C9.map .int))=_
 unfold dq;dsimp only;rw [if_pos (by rw [List.length_take,List.length_map];show _+9≤_;lia),←List.map_take,←List.map_append]
theorem jJ {Φ:cS}{gc:Str→Option D}{n:Nat}{sc:aq}{ρ:Ro}{t it elt:PySem.Expr}{scope:Scope}{pos:Pos}{J:List br}(g:br→D)(b:br→Ro)(hJ:J.length≤1000)(hs:bG sc scope=true)(hi:bx it=false)(hq:bb (av Φ gc n) sc ρ t it=bn (al J))
  (hb:∀q,aG scope.names (aH scope.names ρ) t (dk q)=some (b q))(he:∀q∈J,bp ((av Φ gc n).ev scope.names (b q) elt)=some [g q]):(av Φ gc (n+1)).ev sc ρ (.ListComp elt [⟨t,it,[],0⟩] scope pos)=some (.list (J.map g)):=by
 have hl:=bX (sc:=scope.names) (t:=t) (ts:=fun ρ'=>aM ((av Φ gc n).ts scope.names ρ') []) (f:=fun ρ'=>bp ((av Φ gc n).ev scope.names ρ' elt)) (ρ:=aH scope.names ρ) dk (fun Z=>true) g J fun q hq=>⟨b q,hb q,rfl,fun Z=>he q hq⟩
 rw [List.filter_eq_self.mpr fun Z Z=>rfl]at hl
 exact cQ hs hi (hq.trans (gX J hJ)) hl (by rw [List.length_map];lia)
noncomputable def uE (C:Ro)(q:br):Ro:=ad (ad C "name" (.str q.1)) "pattern" (.str q.2)
theorem B6 (Φ:cS)(X:D)(J:List br)(hJ:J.length≤1000):(av Φ bw 59).ev (an 264).names (pD X (al J)) lK=some (ag (J.map (·.1))):=by
 rw [uP];unfold ag;rw [List.map_map];exact jJ (D.str∘(·.1)) (uE (aH (af lK).names (pD X (al J)))) hJ (by kernel_rfl) (by kernel_rfl) (by kernel_rfl) (fun q=>by kernel_rfl) fun q Z=>by kernel_rfl
theorem zj (Φ:cS)(X JD:D):(av Φ bw 59).ev (an 264).names (pD X JD) L1b=match (match Φ "_law_needs" [JD]with |none=>none |some d=>some [d])with |none=>none |some ds=>Φ "_law_due" ds:=by kernel_rfl
theorem B5 (xs:List Int)(X:D):(av (eQ xs) bw 59).ev (an 264).names (pD X (al (bJ xs))) L1b=some (ag (fh (bJ xs))):=by
 rw [zj,zh];exact DL xs
theorem B4 (Φ:cS)(C:Ro)(q:br):bp ((av Φ bw 58).ev (af L2).names (uE (aH (af L2).names C) q) (a8 L2 0))=bp (Φ "_translate" [.str q.2,.none,.str pd]):=by kernel_rfl
noncomputable def iy (J:List br):D:=.list (J.map fun q=>.list (cv q.2))
theorem DP (xs:List Int)(X DD:D){J:List br}(hJ:cG J):(av (eQ xs) bw 59).ev (an 264).names (j4 X (al J) (ag (J.map (·.1))) DD) L2=some (iy J):=by
 rw [wS];refine jJ (fun q=>.list (cv q.2)) (uE (aH (af L2).names (j4 X (al J) (ag (J.map (·.1))) DD))) (Nat.le_trans hJ.len (by decide)) (by kernel_rfl) (by kernel_rfl) (by kernel_rfl) (fun q=>by kernel_rfl) fun q hq=>?_
 rw [B4,qG (by decide+kernel),Ci (hJ.pt q hq)]
 rfl
noncomputable def Fk (x:Str):Option D:=if ar x "str" then some (.typ "str")else none
noncomputable abbrev RR (n:Nat):bm:=av (fun Z Z=>none) Fk n
noncomputable def fN (p:List Nat):List D:=match (RR 57).ev (af iG).names (ad (ad (aH (af iG).names aT) "name" (.str [])) "pattern" (.str p)) B2 with
 |some (.list l)=>l
 |_=>[]
theorem B1 (C:Ro)(n:List Nat){p:List Nat}(hp:p∈ [] ::fD):bp ((RR 57).ev (af iG).names (uE (aH (af iG).names C) (n,p)) B2)=some [.list (fN p)]:=by
 simp only [fD,List.mem_cons,List.not_mem_nil,or_false]at hp;rcases hp with rfl |rfl |rfl |rfl |rfl |rfl |rfl |rfl |rfl |rfl |rfl |rfl |rfl |rfl |rfl |rfl |rfl<;>kernel_rfl
theorem yf:([] ::fD).all (fun p=>ba 8 (.list (cv p))&&ba 8 (.list (fN p))&&cF 8 (.list (cv p)) (.list (fN p)))=true:=by decide+kernel
theorem B3 (X JD ND DD PD:D):(RR 59).ts (an 264).names (ad (j4 X JD ND DD) "parts" PD) L3=match (RR 58).ev (an 264).names (ad (j4 X JD ND DD) "parts" PD) iG with |none=>none |some b=>bg .NotEq PD b:=by kernel_rfl
theorem DO (X ND DD:D){J:List br}(hJ:cG J):(RR 59).ts (an 264).names (ad (j4 X (al J) ND DD) "parts" (iy J)) L3=some false:=by
 have h1:(RR 58).ev (an 264).names (ad (j4 X (al J) ND DD) "parts" (iy J)) iG=some (.list (J.map fun q=>.list (fN q.2))):=by
  rw [uO];exact jJ (fun q=>.list (fN q.2)) (uE (aH (af iG).names (ad (j4 X (al J) ND DD) "parts" (iy J)))) (Nat.le_trans hJ.len (by decide)) (by kernel_rfl) (by kernel_rfl) (by kernel_rfl) (fun q=>by kernel_rfl) fun q hq=>B1 _ q.1 (hJ.pt q hq)
 rw [B3,h1];show bg .NotEq (.list (J.map fun q=>.list (cv q.2))) (.list (J.map fun q=>.list (fN q.2)))=some false
 have h2:∀q∈J,ba 8 (.list (cv q.2))=true∧ba 8 (.list (fN q.2))=true∧cF 8 (.list (cv q.2)) (.list (fN q.2))=true:=fun q hq=>by
  have:=List.all_eq_true.mp yf _ (hJ.pt q hq);simp only [Bool.and_eq_true]at this;exact⟨this.1.1,this.1.2,this.2⟩
 have a1:ba 9 (.list (J.map fun q=>.list (cv q.2)))=true:=eR fun d hd=>by refine ah (List.mem_map.mp hd) fun q hq z5=>?_;subst z5;exact(h2 q hq).1
 have a2:ba 9 (.list (J.map fun q=>.list (fN q.2)))=true:=eR fun d hd=>by refine ah (List.mem_map.mp hd) fun q hq z6=>?_;subst z6;exact(h2 q hq).2.1
 have a3:cF 9 (.list (J.map fun q=>.list (cv q.2))) (.list (J.map fun q=>.list (fN q.2)))=true:=by
  show fg (cF 8) _ _=true
  clear a1 a2 h1 hJ
  induction J with
  |nil=>rfl
  |cons q r ih=>
   rw [List.map_cons,List.map_cons];unfold fg;rw [(h2 q List.mem_cons_self).2.2];exact ih fun p hp=>h2 p (List.mem_cons_of_mem _ hp)
 unfold bg;dsimp only;rw [a1,a2,a3];rfl
theorem DT (P:Params)(a:Value):dG (KP P) 264 (an 264) (aO 264) (bj 264) [a] (pure ((aO 264).zip [a])):=
 ek (by kernel_rfl) (by kernel_rfl) (by kernel_rfl) (by kernel_rfl) (by kernel_rfl) (by kernel_rfl) (by kernel_rfl) (by kernel_rfl)
noncomputable def D9 (a rest:Option Bool):Option Bool:=match a with
 |none=>none
 |some t=>match BoolOp.Or,t with
  | .And,false=>some false
  | .Or,true=>some true
  |_,_=>rest
noncomputable def qZ (ring:Bool)(DD:D):Option Bool:=match (match ig DD with |none=>none |some a=>(bg .Lt a (.int 6)).map D.bool)with
 |none=>none
 |some b=>bg .NotEq (.bool ring) b
theorem B0 (Φ:cS)(X JD ND PD:D)(dl:List D)(me:Addr)(ring:Bool):(av Φ bw 59).ts (an 264).names (mn X JD ND (.list dl) PD me ring) L5=
  D9 (qZ ring (.list dl)) (D9 (match (av Φ bw 57).ev (an 264).names (mn X JD ND (.list dl) PD me ring) ew with |none=>none |some a=>bg .NotEq a (.list [])) (some false)):=by kernel_rfl
theorem xW {ring:Bool}{dl:List Nm}(h:ring=decide (dl.length<6))(hl:dl.length≤100):qZ ring (ag dl)=some false:=by
 unfold qZ ag ig;dsimp only;rw [if_pos (by rw [List.length_map];lia),List.length_map]
 show bg .NotEq (.bool ring) (.bool (decide ((dl.length:Int)<6)))=_
 have e:decide ((dl.length:Int)<6)=ring:=by rw [h];exact decide_eq_decide.mpr (by lia)
 rw [e];cases ring<;>rfl
theorem wR (Φ:cS)(ρ:Ro):bb (av Φ bw 56) (an 264).names ρ (ak ew).target (ak ew).iter=some ([0,1,2,3,4,5].map D.int):=by kernel_rfl
noncomputable def iM (o:Option D):Option Bool:=(match o with |none=>none |some d=>eC d).map (!·)
theorem BZ (Φ:cS)(X JD DD PD:D)(me:Addr)(ring:Bool){N:List Nm}(hN:N.length=6)(hd:N.Nodup)(h:∀a∈N,∀b∈N,a≠b→Φ "_law_told" [.str a,.str b]=some (.bool true)):
  (av Φ bw 57).ev (an 264).names (mn X JD (ag N) DD PD me ring) ew=some (.list []):=by
 match N,hN with
 | [n0,n1,n2,n3,n4,n5],_=>
 have ts:∀i∈([0,1,2,3,4,5]:List Int),aM ((av Φ bw 56).ts (af ew).names (ad (aH (af ew).names (mn X JD (ag [n0,n1,n2,n3,n4,n5]) DD PD me ring)) "k" (.int i))) [dh (ak ew).ifs 0]=some false:=by
  have t:∀{a b:Nm},a∈ [n0,n1,n2,n3,n4,n5]→b∈ [n0,n1,n2,n3,n4,n5]→a≠b→iM (Φ "_law_told" [.str a,.str b])=some false:=fun ha hb ne=>by rw [h _ ha _ hb ne];rfl
  simp only [List.nodup_cons,List.mem_cons,List.not_mem_nil,or_false,not_or]at hd;obtain⟨⟨d1,d2,d3,d4,d5⟩,⟨d6,d7,d8,d9⟩,⟨d10,d11,d12⟩,⟨d13,d14⟩,d15,_⟩:=hd;intro i hi;simp only [List.mem_cons,List.not_mem_nil,or_false]at hi;rcases hi with rfl |rfl |rfl |rfl |rfl |rfl
  ·exact Eq.trans (b:=iM (Φ "_law_told" [.str n5,.str n0])) (by kernel_rfl) (t (by simp) (by simp) fun e=>d5 e.symm)
  ·exact Eq.trans (b:=iM (Φ "_law_told" [.str n0,.str n1])) (by kernel_rfl) (t (by simp) (by simp) d1)
  ·exact Eq.trans (b:=iM (Φ "_law_told" [.str n1,.str n2])) (by kernel_rfl) (t (by simp) (by simp) d6)
  ·exact Eq.trans (b:=iM (Φ "_law_told" [.str n2,.str n3])) (by kernel_rfl) (t (by simp) (by simp) d10)
  ·exact Eq.trans (b:=iM (Φ "_law_told" [.str n3,.str n4])) (by kernel_rfl) (t (by simp) (by simp) d13)
  ·exact Eq.trans (b:=iM (Φ "_law_told" [.str n4,.str n5])) (by kernel_rfl) (t (by simp) (by simp) d15)
 have hl:=bX (sc:=(af ew).names) (t:=(ak ew).target) (ts:=fun ρ'=>aM ((av Φ bw 56).ts (af ew).names ρ') [dh (ak ew).ifs 0]) (f:=fun ρ'=>bp ((av Φ bw 56).ev (af ew).names ρ' (a8 ew 0))) (ρ:=aH (af ew).names (mn X JD (ag [n0,n1,n2,n3,n4,n5]) DD PD me ring))
  D.int (fun Z=>false) D.int [0,1,2,3,4,5] fun i hi=>⟨_,(by kernel_rfl:aG _ _ _ _=some (ad (aH (af ew).names (mn X JD (ag [n0,n1,n2,n3,n4,n5]) DD PD me ring)) "k" (.int i))),ts i hi,fun z=>nomatch z⟩
 rw [uN];exact cQ (by kernel_rfl) (by kernel_rfl) (wR Φ _) hl (by simp)
theorem Cj {a b:Nm}(ha:a∈ay)(hb:b∈ay)(ne:a≠b):ib "_law_told" [.str a,.str b]=some (.bool true):=sR ha hb ne
theorem DM (xs:List Int)(X JD PD:D)(dl:List Nm)(me:Addr){ring:Bool}(hr:ring=decide (dl.length<6))(hl:dl.length≤100){N:List Nm}(hN:N.length=6)(hd:N.Nodup)(h12:∀n∈N,n∈ay):
  (av (eQ xs) bw 59).ts (an 264).names (mn X JD (ag N) (ag dl) PD me ring) L5=some false:=by
 refine(B0 _ _ _ _ _ _ _ _).trans ?_;have h1:=xW hr hl;have h2:=BZ (eQ xs) X JD (ag dl) PD me ring hN hd fun a ha b hb ne=>by rw [qG (by decide+kernel)];exact Cj (h12 a ha) (h12 b hb) ne
 unfold ag at h1 h2⊢;rw [h1,h2];rfl
theorem w8 (st:Sr)(n:Nm):st.su n=fw st.ab n:=by
 unfold fw Sr.ab Sr.su Sr.find;rw [List.find?_map];have e:((fun p:List Nat×Int×List (List Nat)=>aF p.1 n)∘fun(n:Nd)=>(n.nm,n.np,n.su))=fun nd=>aF nd.nm n:=rfl
 rw [e];cases st.nodes.find? fun nd=>aF nd.nm n<;>rfl
theorem n9 {st:Sr}(W:st.WF)(n:Nm):n∈ey st↔n∈st.nms∧cp st.ab n=0:=by
 unfold ey Sr.nms;constructor
 ·intro h;refine ah (List.mem_map.mp h) fun nd hnd z1=>?_;subst z1
  refine xa (List.mem_filter.mp hnd) fun h1 h2=>?_;exact⟨List.mem_map_of_mem h1,by rw [kZ W h1];exact of_decide_eq_true h2⟩
 ·rintro ⟨h1,h2⟩
  refine ah (List.mem_map.mp h1) fun nd hnd z2=>?_;subst z2
  rw [kZ W hnd]at h2;exact List.mem_map.mpr ⟨nd,List.mem_filter.mpr ⟨hnd,decide_eq_true h2⟩,rfl⟩
theorem wm (J:List br):(c8 J).length=J.length:=by unfold c8 dN;rw [List.length_map]
section
variable {J:List br}{st:Sr}{ring:Bool}
theorem pe.start (D:pe st J ring)(hJ:cG J)(W:st.WF):PK J (fh J) ⟨(ey st).foldl dw st.ab,ey st,[],[97,65]⟩ ((c8 J).length+1):=by
 have nm:∀n,n∈st.nms↔n∈J.map (·.1):=fun n=>by rw [←ef hJ,←D.ab,bQ];exact Iff.rfl
 refine⟨?_,rfl,by rw [wm];exact Nat.lt_succ_self _⟩
 rw [D.ab];refine Ew hJ ((List.filter_sublist.map _).nodup W.nms) fun n=>?_;rw [n9 W,nm,D.ab]
theorem pe.ringE (D:pe st J ring)(hJ:cG J)(W:st.WF)(h6:J.length=6):ring=decide ((fh J).length<6)∧(fh J).length≤100:=by
 refine aR (vq hJ _ _ (D.start hJ W)) fun rs K hrd ho=>?_;have nm:∀n,n∈st.nms↔n∈J.map (·.1):=fun n=>by rw [←ef hJ,←D.ab,bQ];exact Iff.rfl
 have hle:=(K.len hJ).1;rw [ho]at hle;refine⟨?_,by lia⟩
 have hr:=D.ring;cases ring with
 |true=>
  have:=vC hJ K (su:=st.su) hr (fun y hy=>(nm y).mp hy) fun n m h=>by rw [w8,D.ab]at h;exact((n8 hJ).mp h).2
  rw [ho]at this;exact(decide_eq_true (by lia)).symm
 |false=>
  refine ah hr fun done T hd=>?_;have:=wE hJ K hrd T (fun n m hm h=>by rw [w8,D.ab];exact(n8 hJ).mpr ⟨hm,h⟩) fun x hx=>hd x ((nm x).mpr hx)
  have h2:=ch hJ.nd this;rw [List.length_map,ho]at h2;exact(decide_eq_false (by lia)).symm
end
noncomputable def Kf (P:Params):Frag:=match (KP P).lookup 3 with |some o=>KP P++ [(3,o),(3,o)] |none=>KP P
theorem yA (P:Params):fO (Kf P)=true:=by
 have h:((KP P).lookup 3).isSome=true:=by kernel_rfl
 unfold Kf;cases q:(KP P).lookup 3 with
 |some o=>
  show fO (KP P++ [(3,o),(3,o)])=true
  unfold fO;rw [List.reverse_append];rfl
 |none=>
  rw [q]at h;exact(aj h).elim
theorem Di {P:Params}{h:Heap}(X:(KP P).In h):(Kf P).In h:=by
 unfold Kf;cases q:(KP P).lookup 3 with
 |none=>exact X
 |some o=>
  intro a ob e;replace e:List.lookup a (KP P++ [(3,o),(3,o)])=some ob:=e;rw [List.lookup_append]at e;cases z:(KP P).lookup a with
  |some o'=>rw [z]at e;obtain rfl:=Option.some.inj e;exact X a _ z
  |none=>
   rw [z]at e;have e':List.lookup a [((3:Addr),o),(3,o)]=some ob:=e;by_cases c:a=3
   ·rw [c,q]at z;exact(lW z).elim
   ·rw [List.lookup_cons,(beq_eq_false_iff_ne).mpr c]at e';dsimp only at e';rw [List.lookup_cons,(beq_eq_false_iff_ne).mpr c]at e';exact(aa e').elim
section
variable {prog:Program}{w:World}{mg mb:Str→Option Value}{k:Nat}{A:Around}{s:Shared}{G:Kn}{E:Value→Shared→Prop}
theorem Ad (hB:Cx (KP w.params) mg mb s) (n:Nat):aw prog w (Kf w.params) mg mb k (RR n):=gQ _ _ (fun Z Z Z e=>by exact(aa e).elim) (fun x d e=>by
 rcases jW e with⟨h,e⟩ |⟨_,e⟩
 ·rw [(ao _ _).mp h,←Option.some.inj e];exact⟨_,.inr (hB.blt ("str",.type "str") (List.mem_of_getElem? (i:=9) rfl)),fun G=>.typ _⟩
 ·exact(aa e).elim) n (fun Z=>yA _)
theorem Fc {K:Frag}{R:bm}{env:Env}{sB:Shared}{own:List (Str×Addr)}{GB:Kn}{ρ:Ro}{sc:aq}(H:aw prog w K mg mb k R)(rm:am k A)(hs:aD sc env)(hx:Cx K mg mb s)(S:SO w.params sB GB env own ρ s G){e e':PySem.Expr}(he:e=e'){b:Bool}{Q:Bool→Shared→Prop}(q:R.ts sc ρ e'=some b)
  (h:∀s₁ G₁,ae s G s₁ G₁→SO w.params sB GB env own ρ s₁ G₁→Q b s₁):wpAny (model prog w) A (isTrue e env (eval e env)) Q E s:=by
 subst he;exact jT (H.ts sc ρ e b q A env s G E rm hx hs S.plain.env) fun s₁ G₁ g=>h s₁ G₁ g (S.grew g)
theorem oV {env:Env}{sB:Shared}{own:List (Str×Addr)}{GB:Kn}{ρ:Ro}{f:Str}{a:Addr}{e:PySem.Expr}{p pos:Pos}{sc:aq}{Q:Value→Shared→Prop}(hs:aD sc env)(hB:Cx (KP w.params) mg mb sB)(V:SO w.params sB GB env own ρ s G)(g:aY sc f=true)(hm:mg f=some (.ref a))(hf:fnIn (KP w.params) a=true)(he:cX e=false)
  (h:wpAny (model prog w) A (eval e env) (fun v s₁=>(KP w.params).In s₁.heap∧wpAny (model prog w) A (call (.ref a) [v]) Q E s₁) E s):wpAny (model prog w) A (eval (.Call (.Name f p) [e] [] pos) env) Q E s:=by
 refine wpAny_Call_Name_kw (di (V.cx hB) hs g hm ?_);refine fR (R:=mj) (sc:=[]) (ρ:=aT) (ds:=[.none]) (by unfold bi;rw [he];rfl) (wpAny_items_cons (wpAny_mono h (fun v s₁ z=>wpAny_items_nil ⟨?_,z.2⟩) fun Z Z z=>z) (cU he))
 exact aA (uk hf) fun o fd q d=>⟨o,fd,z.1 _ _ q,d⟩
end
section
variable {prog:Program}{w:World}{mg mb:Str→Option Value}{k:Nat}{A:Around}{s:Shared}{G:Kn}{E:Value→Shared→Prop}
structure xw (mg:Str→Option Value):Prop extends MgOK mg where
 srt:mg "_law_sorter" =some (.ref 239)
 run:mg "_law_run" =some (.ref 249)
 top:mg "TopologicalSorter" =some (.ref 178)
 nod:mg "_NodeInfo" =some (.ref 81)
 cyc:mg "CycleError" =some (.ref 96)
 out:∃t,mg "_NODE_OUT" =some (.int (-1) t)
 don:∃t,mg "_NODE_DONE" =some (.int (-2) t)
theorem ly:∀l:List Nm,fg (cF 8) (l.map .str) (l.map .str)=true
 | []=>rfl
 |x::r=>by
  show(match cF 8 (.str x) (.str x)with |true=>fg (cF 8) (r.map .str) (r.map .str) |false=>false)=true
  rw [show cF 8 (.str x) (.str x)=true from(bf x x).mpr rfl]
  exact ly r
theorem wq {l:List Nm}(h:∀x∈l,cD x=true):bg .Eq (ag l) (ag l)=some true:=by
 have a:ba 9 (ag l)=true:=eR fun d hd=>by
  refine ah (List.mem_map.mp hd) fun x hx z1=>?_;subst z1
  exact eh (h x hx) 7
 have b:cF 9 (ag l) (ag l)=true:=ly l;show(if ba 9 (ag l)&&ba 9 (ag l)then some (cF 9 (ag l) (ag l))else none)=some true
 rw [a,b];rfl
theorem vV {v:Value}{xs:List Int}(rm:am (k+13) A)(hm:xw mg)(hesc:fu prog w mg mb)(hgc:fq w mg mb bw)(hB:Cx (KP w.params) mg mb s)(hx:xs.length≤63)(I:G.In s.heap)(rv:Rd w.params G v (.list (xs.map .int)))(hfr:A.frames=some []):
  wpAny (model prog w) A (call (.ref 264) [v]) (fun u s'=>u=.bool true∧ae s G s' G) E s:=by
 have U:Up s s:=⟨⟨_,_,rfl⟩,Nat.le_refl _,Nat.le_refl _,fun Z Z e=>e⟩
 have T:cj A [] s G s.heap:=⟨hfr,fun Z h=>nomatch h⟩
 refine eG aI (args:=[.list (xs.map .int)]) (DT _ _) (by kernel_rfl) rm hB U I (fun E=>cZ I (.cons rv .nil) E) fun env own s₁ G₁ s' E' g B hE=>?_
 have V1:=B.st;have T1:=B.stk (T.grew g) (U.grew g).size;have cel:=B.cel (T.grew g);have H:=gQ (eQ xs) bw (lU (prog:=prog) (w:=w) (mb:=mb) (k:=k) hm.toMgOK hesc hgc xs hx) hgc 59 (fun h=>absurd h (by decide+kernel))
 have H':=gQ (eQ xs) bw (lU (prog:=prog) (w:=w) (mb:=mb) (k:=k) hm.toMgOK hesc hgc xs hx) hgc 58 (fun h=>absurd h (by decide+kernel))
 have hJ:=qj xs;have h6:=(ou xs).2;have hJl:=hJ.len;generalize hX:D.list (xs.map .int)=X at*;refine aR (lU (prog:=prog) (w:=w) (mb:=mb) (k:=k) hm.toMgOK hesc hgc xs hx _ _ _ (BY xs)) fun a15 ha15 hfn15 hc15=>?_;refine wpAny_execs_cons (bP (wpAny_Call_Name_kw (di (V1.cx hB) B.sce (by kernel_rfl) ha15 (fR (R:=mj) (sc:=[]) (ρ:=aT) (ds:=[.none,.none]) rfl (wpAny_items_cons (jI H B.room B.sce hB V1 (e':=B7) (by kernel_rfl) (by rw [←hX];exact DQ _ xs hx) fun v1 s1 G1 g1 r1 V1'=>wpAny_items_cons (wpAny_Constant_int (wpAny_items_nil ?_)) (by rfl)) (by rfl))))) rfl rfl rfl)
 have t1:=ae.toks V1'.inn (s1.toks+1) (Nat.le_add_right _ _);have V1t:=V1'.grew t1;refine⟨hfn15 _ (V1t.cx hB),bI (hc15 _ _ G1 _ _ B.room (V1t.cx hB) V1t.inn (.cons r1 (.cons (.int _ _) .nil))) fun v2 s2 G2 g2' r2=>?_⟩
 have V2:=V1t.grew g2';have g2:=g1.trans (t1.trans g2');have tp2:0<s2.toks:=Nat.lt_of_lt_of_le (Nat.succ_pos _) g2'.tk;refine sto (d:=al (bJ xs)) B.room.hh B.sco V2 r2 (by kernel_rfl) fun s3 V3 m3=>?_
 have eρ:ad (aW aT (aO 264) [X]) "jobs" (al (bJ xs))=pD X (al (bJ xs)):=by kernel_rfl
 rw [eρ]at V3;have L1b:=B5 xs X;generalize hJJ:bJ xs=J at*;refine wpAny_execs_cons (lH (sB:=s) (GB:=G₁) (by kernel_rfl) rfl B.room.hh B.sco (by kernel_rfl) (by kernel_rfl) (by kernel_rfl) (wpAny_Tuple (wpAny_items_cons (jI H B.room B.sce hB V3 (e':=lK) (by kernel_rfl) (B6 _ X J (by lia)) fun v4 s4 G4 g4 r4 V4=>?_) (by rfl))))
 refine wpAny_items_cons (jI H B.room B.sce hB V4 (e':=Mine.L1b) (by kernel_rfl) L1b fun v5 s5 G5 g5 r5 V5=>wpAny_items_nil ⟨by rw [sizeLine_eq];show _+1≤_;simp,?_⟩) (by rfl)
 have g6:ae s5 G5 {s5 with heap:=s5.heap.push (cB [v4,v5] 0)} (G5.add s5.heap.objs.size (cB [v4,v5] 0)):=
  (ae.push V5.inn _ s5.toks (Nat.le_refl _)).learn (Heap.get?_push_size _ rfl) (Nat.le_refl _) (Kn.none_ge V5.inn (Nat.le_refl _))
 refine⟨_,.tup [ag (J.map (·.1)),ag (fh J)],_,_,_,.tup Kn.add_self (.cons ((r4.mono g5.le).mono g6.le) (.cons (r5.mono g6.le) .nil)),rfl,V5.grew g6,fun s7 V7 m7=>?_⟩
 have m07:Mv (Mine env own) s' G₁ s7 _:=(((g2.mv.trans m3).trans (g4.trans (g5.trans g6)).mv).trans m7);have V7:SO w.params s G₁ env own (j4 X (al J) (ag (J.map (·.1))) (ag (fh J))) s7 _:=V7;generalize G5.add s5.heap.objs.size (cB [v4,v5] 0)=G7 at*;refine wpAny_execs_cons (xu H' B.room B.sco B.sce hB V7 (by kernel_rfl) (DP xs X _ hJ) (by kernel_rfl) fun s8 G8 V8 m8=>?_)
 have V8:SO w.params s G₁ env own (ad (j4 X (al J) (ag (J.map (·.1))) (ag (fh J))) "parts" (iy J)) s8 G8:=V8;have tp8:0<s8.toks:=Nat.lt_of_lt_of_le tp2 (Nat.le_trans m3.tk (Nat.le_trans (g4.trans (g5.trans g6)).tk (Nat.le_trans m7.tk m8.tk)));have cx8:=V8.cx hB;refine wpAny_execs_cons (wpAny_If (Fc (Ad hB 59) B.room B.sce ⟨Di cx8.kin,cx8.g,cx8.b,cx8.nolim,cx8.blt,fun Z=>tp8⟩ V8 (e':=L3) (by kernel_rfl) (DO X _ _ hJ) fun s9 G9 g9 V9=>?_))
 refine wpAny_execs_nil ?_;have m09:=(m07.trans m8).trans g9.mv;have T9:=T1.sto' V9 m09 cel;have frO:∀a,a∈aC [env]→s.heap.objs.size≤a∧∀n,(n,a)∉own:=fun a hmm=>⟨(T9.mem hmm).2.2,cel a hmm⟩
 refine wpAny_execs_cons (lH (sB:=s) (GB:=G₁) (by kernel_rfl) rfl B.room.hh B.sco (by kernel_rfl) (by kernel_rfl) (by kernel_rfl) (oV B.sce hB V9 (by kernel_rfl) hm.srt (by kernel_rfl) (by rfl) (nm (d:=al J) V9 (by kernel_rfl) fun v10 r10=>⟨(V9.cx hB).kin,?_⟩)))
 refine po (k:=k) B.room hm.toMgOK hesc hgc hB hm.top hm.nod hm.cyc hJ V9.up V9.inn r10 T9 fun u s11 G11 st ring m11 r11 S11 ft11 D=>?_;have V11:=V9.mutw m11 (fun a f=>f.elim) frO
 have mw11:Mw (Mine env own) (aC [env]) s' G₁ s11 G11:=m09.mw.trans (m11.weak (fun Z f=>f.elim) fun Z h=>h)
 refine⟨G11,_,_,.adr st.self,.bool ring,r11,rfl,V11,fun s12 V12 m12=>?_⟩
 have V12:SO w.params s G₁ env own (mn X (al J) (ag (J.map (·.1))) (ag (fh J)) (iy J) st.self ring) s12 G11:=V12;have z9:s'.heap.objs.size≤s9.heap.objs.size:=m09.size;have ap:∀a,foot st a→¬Mine env own a:=fun a f=>aS V9 (ft11 a f)
 have S12:=S11.mine m12 ap;refine xa (D.ringE hJ S11.wf h6) fun hring hdl=>?_;refine wpAny_execs_cons (wpAny_If (zI H B.room B.sce hB V12 (e':=L5) (by kernel_rfl) (DM xs X _ _ (fh J) st.self hring hdl (by rw [List.length_map];exact h6) hJ.nd fun n hn=>lX hJ hn) fun s13 G13 g13 V13=>?_))
 refine wpAny_execs_nil ?_;have S13:=S12.grew g13;have mw13:Mw (Mine env own) (aC [env]) s' G₁ s13 G13:=(mw11.trans m12.mw).trans g13.mv.mw;refine xe hm.out fun to hto=>?_;refine xe hm.don fun td htd=>?_;refine xe D.rdy fun r hr=>?_;have nms:∀n,n∈st.nms↔n∈J.map (·.1):=fun n=>by rw [←ef hJ,←D.ab,bQ];exact Iff.rfl
 refine wpAny_execs_cons (wpAny_Return_some (wpAny_Compare1 (oV B.sce hB V13 (by kernel_rfl) hm.run (by kernel_rfl) (by rfl) (au (a:=st.self) V13 (by kernel_rfl) ⟨(V13.cx hB).kin,?_⟩)) (bO rfl)))
 refine vh (k:=k) (PK J (fh J)) (fun rs n h=>h.1.ok hJ D.len) (fun rs n h hrd=>pU hJ h hrd) B.room hm.toMgOK hesc hgc hB hto htd V13.up V13.inn S13 hr (fun x hx=>((n9 S11.wf x).mp hx).1) ?_ (D.start hJ S11.wf) fun v14 s14 G14 rs n m14 r14 p14 hrd=>?_
 ·have h1:=(D.start hJ S11.wf).1.len hJ;have:(ey st).length≤J.length:=h1.2
  lia
 ·have V14:=V13.mut m14 fun a f=>⟨ap a f,(S13.off a f).2⟩
  have mw14:Mw (Mine env own) (aC [env]) s' G₁ s14 G14:=mw13.fresh_trans m14.mw fun a f=>.inr (Nat.le_trans z9 (ft11 a f))
  rw [nV hJ p14 hrd]at r14;refine nm (d:=ag (fh J)) V14 (by kernel_rfl) fun v15 r15=>?_
  have hd12:∀x∈fh J,cD x=true:=fun x hx=>by
   rw [←nV hJ p14 hrd]at hx;exact jh (lX hJ (p14.1.ords x hx))
  have hcmp:=wq hd12;refine bI (kY V14.inn r14 r15 B.room.u hcmp) fun x s15 G15 g15 r15=>?_;obtain rfl:=r15.bool_i;have d:=B.dropw (l:=[]) g (mw14.trans g15.mv.mw);exact⟨rfl,d.same,d.size,d.tk,fun b o e=>d.keep b o id (by simp [aC]) e,d.le,d.inn,d.fresh⟩
end
theorem qk {R:WRecords}:∀{xs:List WData},WShape.hasItems R xs .int=true→∃l:List Int,xs=l.map WData.int
 | [],_=>⟨[],rfl⟩
 |x::xs,h=>by
  have h':(WShape.has R x .int&&WShape.hasItems R xs .int)=true:=by rw [WShape.hasItems]at h;exact h
  refine xa (Bool.and_eq_true_iff.mp h') fun h1 h2=>?_;refine xe (qk h2) fun l z1=>?_;subst z1
  refine xe (hasW_int h1) fun i z2=>?_;subst z2
  exact⟨i::l,rfl⟩
theorem zx {P:Params}{h:Heap}{v:Value}{i:Int}(x:Well P h v (.int i)):∃t,v=.int i t:=(flat_of_well (d:=.int i) rfl x).int_inv
theorem xA {P:Params}{h:Heap}{v:Value}{xs:List WData}(x:Well P h v (.list xs)):∃a vs,v=.ref a∧h.get? a=some {cls:=.type "list",data:=.seq vs.toArray}∧WellAll P h vs xs:=by
 cases x with
 |list a b=>exact⟨_,_,rfl,a,b⟩
theorem sJ {P:Params}{h:Heap}{vs:List Value}(x:WellAll P h vs []):vs=[]:=by cases x;rfl
theorem pT {P:Params}{h:Heap}{G:Kn}:∀{l:List Int}{vs:List Value},WellAll P h vs (l.map .int)→ai P G vs (l.map D.int)
 | [],_,r=>by
  obtain rfl:=sJ r;exact .nil
 |i::l,_,r=>by
  refine aX (wellAll_cons_inv r) fun v vs z a b=>?_;subst z
  refine xe (zx a) fun t z=>?_;subst z
  exact .cons (.int _ _) (pT b)
noncomputable def o3 (P:Params):Obj:=((KP P).lookup 3).getD default
noncomputable def lw (P:Params):Array DictEntry:=match (o3 P).data with
 | .dict es _=>es
 |_=> #[]
noncomputable def n3 (P:Params):Nat:=match (o3 P).data with
 | .dict _ n=>n
 |_=>0
theorem ED (P:Params):∃o n,(KP P).lookup 3=some o∧o.data=.dict (lw P) n:=⟨o3 P,n3 P,by kernel_rfl,by kernel_rfl⟩
theorem mg_at {P:Params}{h:Heap}{mg:Str→Option Value}(X:(KP P).In h)(g:h.Ns mainGlobals mg)(x:Str):mg x=nsFind (lw P) x:=by
 refine aA (ED P) fun o' n hl hd=>?_;refine nj g fun o es ep ho hd' Z hf=>?_;have h1:h.get? mainGlobals=some o':=X 3 o' hl;rw [ho]at h1;obtain rfl:=Option.some.inj h1;rw [hd]at hd';cases hd';exact(hf x).symm
noncomputable def nJ:Option Value→Tok
 |some (.int _ t)=>t
 |_=>0
theorem Do (P:Params):FT.map (fun p=>nsFind (lw P) p.1)=FT.map (fun p=>some (.ref p.2.a)):=by kernel_rfl
theorem BA (P:Params):jO.all (fun p=>(nsFind (lw P) p.1).isNone)=true:=by kernel_rfl
theorem yW:jO.map (fun p=>bootBuiltins p.1)=jO.map (fun p=>some p.2):=by kernel_rfl
theorem yV:jO.all (fun p=> !ar p.1 "__name__")=true:=by kernel_rfl
theorem yU (p:Str×Value)(hp:p∈jO):p.1≠ "__name__" ∧bootBuiltins p.1=some p.2:=
 ⟨fun e=>(by have h:=List.all_eq_true.mp yV p hp;rw [(ao _ _).mpr e]at h;exact aj h),List.map_inj_left.mp yW p hp⟩
theorem AZ {P:Params}{h:Heap}{mg:Str→Option Value}(X:(KP P).In h)(g:h.Ns mainGlobals mg):xw mg:=by
 have m:=mg_at X g
 refine⟨⟨fun p hp=>?_,(m _).trans (by kernel_rfl)⟩,(m _).trans (by kernel_rfl),(m _).trans (by kernel_rfl),(m _).trans (by kernel_rfl),(m _).trans (by kernel_rfl),(m _).trans (by kernel_rfl),
  ⟨nJ (nsFind (lw P) "_NODE_OUT"),(m _).trans (by kernel_rfl)⟩,⟨nJ (nsFind (lw P) "_NODE_DONE"),(m _).trans (by kernel_rfl)⟩⟩
 exact(m _).trans (List.map_inj_left.mp (Do P) p hp)
theorem uD {p:Program}{loose:List Str}{P:Params}{h:Heap}{mg mb:Str→Option Value}(X:(KP P).In h)(T:TopRead p loose mg mb h):∀q∈jO,mg q.1=none∧mb q.1=some q.2:=fun q hq=>by
 have h1:=List.all_eq_true.mp (BA P) q hq;refine xa (yU q hq) fun h2 h3=>?_;refine⟨?_,(T.builtins _ h2).trans h3⟩;rw [mg_at X T.g];exact Option.isNone_iff_eq_none.mp h1
theorem Dn {w:World}{p:Program}{loose:List Str}{h:Heap}{mg mb:Str→Option Value}(X:(KP w.params).In h)(T:TopRead p loose mg mb h):fq w mg mb bw:=fun x d e=>by
 have m:=mg_at X T.g;rcases iD e with⟨q,e⟩ |⟨_,e⟩
 ·obtain rfl:=(ao _ _).mp q;obtain rfl:=Option.some.inj e;exact⟨.int 2 (nJ (nsFind (lw w.params) "_MOVE_COST")),.inl ((m _).trans (by kernel_rfl)),fun G=>.int _ _⟩
 rcases iD e with⟨q,e⟩ |⟨_,e⟩
 ·obtain rfl:=(ao _ _).mp q;obtain rfl:=Option.some.inj e;exact⟨.int 1 (nJ (nsFind (lw w.params) "_CASE_COST")),.inl ((m _).trans (by kernel_rfl)),fun G=>.int _ _⟩
 rcases iD e with⟨q,e⟩ |⟨_,e⟩
 ·obtain rfl:=(ao _ _).mp q;obtain rfl:=Option.some.inj e;exact⟨.int 40 (nJ (nsFind (lw w.params) "_MAX_STRING_SIZE")),.inl ((m _).trans (by kernel_rfl)),fun G=>.int _ _⟩
 refine xa (aL e) fun q z3=>?_;subst z3
 obtain rfl:=(ao _ _).mp q;exact⟨.type "int",.inr (uD X T ("int",.type "int") (List.mem_of_getElem? (i:=10) rfl)),fun G=>.typ _⟩
theorem Av:am 13 callerA:=⟨rfl,by decide+kernel,by decide+kernel⟩
theorem yy {prog p:Program}{loose:List Str}{w:World}{s:Shared}{mg mb:Str→Option Value}{E:Value→Shared→Prop}{a:Addr}{vs:List Value}{l:List Int}(X:(KP w.params).In s.heap)(T:TopRead p loose mg mb s.heap)
  (ho:s.heap.get? a=some {cls:=.type "list",data:=.seq vs.toArray})(hw:WellAll w.params s.heap vs (l.map .int))(hl:l.length≤63):
  wpAny (model prog w) callerA (call (.ref 264) [.ref a]) (fun u s'=>u=.bool true∧(∀b o,s.heap.get? b=some o→s'.heap.get? b=some o)∧∃h t,s'={s with heap:=h,toks:=t}) E s:=by
 have hm:=AZ X T.g;have hB:Cx (KP w.params) mg mb s:=⟨X,T.g,T.b,T.nolimit,uD X T,fun h=>absurd h (oG [] _)⟩
 have hsp:mg "_special_chars_map" =some (.ref 45):=(mg_at X T.g _).trans (by kernel_rfl)
 refine wpAny_mono (vV (k:=0) (G:=bW.add a (aB vs 0)) Av hm (Bl hsp) (Dn X T) hB hl (iz ho) (.list Kn.add_self (pT hw)) rfl) (fun u s' z=>⟨z.1,z.2.keep,z.2.same⟩) fun Z Z z=>z
theorem wa {R:WRecords}{t:WTm}{C:WCtx}(e:WTm.value R t C=some (.bool false))(h:WTm.holds R t C=true):False:=by
 unfold WTm.holds at h;rw [e]at h;exact aj h
theorem vo {args:List WData}(h:PySem.Challenge.rw_in0128_01.row.toRowW.claim.pre args=true):∃l:List Int,args=[.list (l.map .int)]∧l.length≤63:=by
 refine xa (pre_splitW h) fun h1 h2=>?_;refine aX (hasAllW_cons (e:=.list .int) (es:=[]) h1) fun d r z4 h3 h4=>?_;subst z4
 have:=hasAllW_nil h4;subst this;refine ah (hasW_list h3) fun xs z5 h5=>?_;subst z5
 refine xe (qk h5) fun l z6=>?_;subst z6
 refine⟨l,rfl,?_⟩;by_cases c:l.length≤63
 ·exact c
 refine(wa ((w_and (w_not (w_lt (x:=63) w_lit (w_len_list (w_arg rfl)))) (w_lit (d:=.bool true))).trans ?_) h2).elim;rw [List.length_map,decide_eq_true (show(63:Int)<(l.length:Int) by omega)]
 rfl
theorem law_fin {prog p:Program}{loose:List Str}{w:World}{s:Shared}{mg mb:Str→Option Value}{E:Value→Shared→Prop}{f:Value}{vals:List Value}{args:List WData}(X:(KP w.params).In s.heap)(T:TopRead p loose mg mb s.heap)
  (hpre:PySem.Challenge.rw_in0128_01.row.toRowW.claim.pre args=true)(hf:(some f:Option Value)=some (.ref 264))(hw:WellAll w.params s.heap vals args):
  wpAny (model prog w) callerA (call f vals) (fun u s'=>u=.bool true∧(∀b o,s.heap.get? b=some o→s'.heap.get? b=some o)∧∃h t,s'={s with heap:=h,toks:=t}) E s:=by
 refine ah (vo hpre) fun l z hl=>?_;subst z
 obtain rfl:=Option.some.inj hf;refine aX (wellAll_cons_inv hw) fun v vs z h1 h2=>?_;subst z
 obtain rfl:=sJ h2;refine aX (xA h1) fun a vs z hob hx=>?_;subst z
 exact yy X T hob hx hl
theorem x0 (args:List WData):PySem.Challenge.rw_in0128_01.row.toRowW.claim.post args (.bool true) args=true:=by
 refine postW_of (X:=same (.bool true) (.bool true)) ?_ ?_ ?_
 ·show WShape.has [] (.bool true) .bool=true
  kernel_rfl
 ·show WTm.value [] (.eq .res (.lit (.bool true))) {args:=args,res:=some (.bool true),after:=args}=_
  kernel_rfl
 ·kernel_rfl
noncomputable def A6:DefRec×List (Str×PySem.Expr):=(defOf dI PySem.Challenge.rw_in0128_01.row.name).get (by kernel_rfl)
theorem hd_law (call:WalkO dI fY (XL dI []) ei.says PySem.Challenge.rw_in0128_01.row.toRowW A6.1 A6.2 fun f vs=>PySem.call f vs):PySem.Challenge.rw_in0128_01.Holds:=
 hd (by kernel_rfl) (by kernel_rfl) (by kernel_rfl) call
theorem good_fin {cl mean args s s' u}(hg:s.gens= #[])(z:u=.bool true∧(∀b o,s.heap.get? b=some o→s'.heap.get? b=some o)∧∃h t,s'={s with heap:=h,toks:=t}):GoodWG PySem.Challenge.rw_in0128_01.row.toRowW.claim cl mean args s (.ok (.ret u)) s':=by
 obtain⟨rfl,hk,h',t',rfl⟩:=z;exact⟨.inl ⟨.bool true,.bool true,[],rfl,fun cls=>rfl,.bool true,x0 _,fun Z=>⟨.nil,fun a h=>nomatch h⟩⟩,.of_keep hk,rfl,.of_eq hg⟩
end Mine
open PySem PySem.W PyProof.Rows in
theorem PySem.Challenge.cw_in0128_01_holds : PySem.Challenge.rw_in0128_01.Holds := by
 refine Mine.hd_law fun w s₀ s₁ mg mb G Y a o pm cd doc dV kV ho hod hcr hdf hmg hgens args vals as hpre hlay hrd hwell hsys=>?_;have X:(Mine.KP w.params).In s₁.heap:=kIn_of Y;have T:=topRead_of G.T;exact wpAny_mono (Mine.law_fin X T hpre (hmg.symm.trans ((Mine.mg_at X T.g _).trans (by kernel_rfl))) hwell) (fun u s' z=>Mine.good_fin hgens z) fun Z Z z=>z
