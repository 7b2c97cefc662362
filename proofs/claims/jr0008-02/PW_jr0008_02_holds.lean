import PyProof.Rows.All
import Wide.All
import OpenK.AllK
import Wide.FinOn
import PyProof.EqAt
import OpenK.KMore
import KE.KDictList
import KE.KSetDisp
import KE.KDictSum
import PyProof.Rows.SortShell
import PyProof.DictItemsLoops
import KE.KDictAnyGet
import PyProof.Rows.FitsRows
import KE.KEqDat
import KE.KAssignIn
import PyProof.RangeFor
import KE.KDictMeth
import KE.KSortTup
import KE.KEqSeq
import KE.KEqDict
import KE.KPop
import KE.KSlice
import KE.KLam
import PyProof.GenQ
import PyProof.GenRules
import OpenK.XHead
import Lean
import PySem.Challenge.RW_jr0008_02
set_option Elab.async false
set_option linter.all false
set_option compiler.extract_closed false
set_option bootstrap.genMatcherCode false
set_option genSizeOf false
set_option linter.unusedVariables false
namespace dD
open Lean in
def H2 (w:String):Syntax :=
 if w.front == '\'' then .atom .none (w.drop 1).toString
 else if w.front == '#' then .atom .none w
 else if w == "_" then .node .none `Lean.Parser.Term.hole #[.atom .none w]
 else if w == "?" then .node .none `Lean.Parser.Term.syntheticHole #[.atom .none w,.atom .none "_"]
 else mkIdent w.toName
open Lean in
def H0 (l:List Syntax):Syntax :=
 let f:=l.headD .missing
 if f.getAtomVal.front == '#' then .node .none (f.getAtomVal.drop 1).toString.toName l.tail.toArray
 else if l.tail.isEmpty then f
 else .node .none `Lean.Parser.Term.app #[f,.node .none `null l.tail.toArray]
open Lean in
def xR:List String->List (List Syntax)->List (List Syntax)
 | [],st=>st
 | w::r,st =>
  if w == "(" then xR r ([]::st)
  else if w == ")" then xR r ((H0 (st.headD []).reverse::st.tail.headD [])::st.tail.tail)
  else xR r ((H2 w::st.headD [])::st.tail)
open Lean in
def rd (s:String):Syntax:=((xR (s.splitOn " ") []).headD []).headD .missing
def sS (t:String):String:="( #Lean.Parser.Tactic.tacticSeq ( #Lean.Parser.Tactic.tacticSeq1Indented ( #null "++t++" ) ) )"
def sT (k t:String):String:="( #Lean.Parser.Tactic."++k++" "++t++" )"
def sW (k:String):String:="( #PyProof.Rows.tacticWalk_at_ 'walk_at ( #str '\""++k++"\" ) )"
def sB (t:String):String:="( #Lean.Parser.Term.byTactic 'by "++sS t++" )"
def sR (t:String):String:=sT "withReducible" ("'with_reducible "++sS t)
def sE (e:String):String:=sT "refine" ("'refine "++e)
def sF (x e:String):String:="( #Lean.Parser.Term.fun 'fun ( #Lean.Parser.Term.basicFun ( #null "++x++" ) ( #null ) '=> "++e++" ) )"
def sG:List String->String
 | []=>""
 | x::r=>"( #group '| "++sS x++" ) "++sG r
def sO (l:List String):String:=sT "first" ("'first ( #null "++sG l++")")
def sLook (k:String):List String->String
 | []=>""
 | x::r=>if x == k then r.headD "" else sLook k r
def sA (c:String):String :=
 let v:=sLook c ["?","?","_","_","a",sR (sT "assumption" "'assumption"),"f",sF "_" "?","F",sF "_ _" "?","T","rfl","r",sT "tacticRfl" "'rfl"]
 if c == "a" || c == "r" then sB v else if v == "" then sB (sW c) else v
def sArgs:List String->String
 | []=>""
 | a::r=>" "++sA a++sArgs r
def sAct (r:String):String :=
 let ws:=r.splitOn " "
 let f:=ws.headD ""
 if f == "@" then sW (ws.tail.headD "") else if f == "!" then sR (sW (ws.tail.headD "")) else sE ("( "++f++sArgs ws.tail++" )")
def sAlt (pr:String):String :=
 let ps:=pr.splitOn " => "
 let p:=ps.headD ""
 let t:=sAct (ps.getLastD "")
 if ps.tail.isEmpty then (if pr.front == '@' then t else sR t)
 else sR (sE ("( #Lean.Parser.Term.typeAscription ( #Lean.Parser.Term.hygienicLParen '( ( #hygieneInfo  ) ) ? ': ( #null ( "++(if p.front == '=' then (p.drop 2).toString else "W _ _ _ _ _ ( "++p++" ) _ _ _")++" ) ) ') )"))++" '; "++t
def sAlts:List String->List String
 | []=>[]
 | x::r=>sAlt x::sAlts r
open Lean in
def sKey (tab:List String) (k:String):MacroM (TSyntax `tactic) :=
 let v:=sLook k tab
 if v == "" then Macro.throwUnsupported else return ⟨rd (if v.front == '(' then v else sO (sAlts (v.splitOn "; ")))⟩
def aO:Lean.Syntax:=rd (sS (sT "omega" "'omega ( #Lean.Parser.Tactic.optConfig ( #null ) )"))
def aR:Lean.Syntax:=rd (sS (sT "tacticRfl" "'rfl"))
def aU:Lean.Syntax:=rd (sS (sT "withUnfoldingAll" ("'with_unfolding_all "++sS (sT "tacticRfl" "'rfl"))))
def aD:Lean.Syntax:=rd (sS (sT "decide" "'decide ( #Lean.Parser.Tactic.optConfig ( #null ) )"))
end dD
open PySem PySem.W PyProof.Rows
set_option maxRecDepth 100000
set_option maxHeartbeats 8000000
namespace dD
noncomputable section
abbrev pw:Program:=PySem.Challenge.pw_jr0008_02
abbrev Kf:OpenLaw:=PySem.Challenge.rw_jr0008_02
section
local macro_rules | `(tactic| o_head $_)=>return rd (sT "assumption" "'assumption")
theorem k0 (h:Kf.row.Holds):Kf.row.Holds:=by x_head
end
abbrev kf:Params->Frag:=k0.heap_1
theorem said:Kf.wellSaid=true:=by kernel_rfl
def en (s:String):Str:=Str.ofString s
def bk (P:Params) (s:String) (t:Nat) (v:Value):DictEntry:=⟨PyData.keyHash P (en s),.str (en s) t,v⟩
def bB (a:Nat):Value:=.ref a
noncomputable def Ld (P:Params):Frag:=[
 (23,({ cls:=.type "builtin_function_or_method",data:=.fields #[.builtin "type.__prepare__",.type "type"] }:Obj)),
 (24,({ cls:=.type "dict",data:=.dict #[bk P "__module__" 203 (.str (en "intervaltree.interval") 194),bk P "__qualname__" 205 (.str (en "Members") 204),bk P "__firstlineno__" 207 (.int 5 206),bk P "__init__" 215 (bB 37),bk P "__iter__" 222 (bB 44),bk P "__len__" 229 (bB 51),bk P "__bool__" 236 (bB 58),bk P "__contains__" 245 (bB 65),bk P "__eq__" 254 (bB 72),bk P "add" 262 (bB 79),bk P "update" 271 (bB 86),bk P "discard" 277 (bB 91),bk P "remove" 285 (bB 98),bk P "difference_update" 294 (bB 105),bk P "union" 303 (bB 112),bk P "difference" 311 (bB 119),bk P "__static_attributes__" 313 (bB 120)] 17 }:Obj)),
 (25,({ cls:=.type "tuple",data:=.seq #[] }:Obj)),
 (26,({ cls:=.none,data:=.fields #[.int 7 0,.int 4 0,.ref 36,.int 11 0,.int 4 0,.ref 43,.int 14 0,.int 4 0,.ref 50,.int 17 0,.int 4 0,.ref 57,.int 20 0,.int 4 0,.ref 64,.int 26 0,.int 4 0,.ref 71,.int 29 0,.int 4 0,.ref 78,.int 33 0,.int 4 0,.ref 85,.int 37 0,.int 4 0,.ref 90,.int 40 0,.int 4 0,.ref 97,.int 45 0,.int 4 0,.ref 104,.int 49 0,.int 4 0,.ref 111,.int 54 0,.int 4 0,.ref 118] }:Obj)),
 (27,({ cls:=.type "code",data:=.fields #[.str (en "Members") 198,.str (en "Members") 199,.str (en "/claim/cut.py") 200,.int 5 0,.int 0 0,.int 0 0,.int 0 0,.int 0 0,.ref 25,.bool false,.int 181 0,.ref 26,.none,.none,.none,.none,.int 201 0,.int 5 0,.str (en "/claim/cut.py") 202] }:Obj)),
 (28,({ cls:=.type "frame",slots:=#[some (bB 27),some (bB 3),some (bB 24),none,some (.str (en "intervaltree.interval") 194),none,some (bB 0)] }:Obj)),
 (125,({ cls:=.type "super",data:=.fields #[.ref 122,.ref 122,.ref 122] }:Obj)),
 (126,({ cls:=.type "builtin_function_or_method",data:=.fields #[.builtin "object.__init_subclass__",.ref 122] }:Obj)),
 (135,({ cls:=.type "builtin_function_or_method",data:=.fields #[.builtin "type.__prepare__",.type "type"] }:Obj)),
 (136,({ cls:=.type "dict",data:=.dict #[bk P "__module__" 336 (.str (en "intervaltree.interval") 194),bk P "__qualname__" 338 (.str (en "Interval") 337),bk P "__firstlineno__" 340 (.int 66 339),bk P "__init__" 350 (bB 148),bk P "overlaps" 359 (bB 156),bk P "overlap_size" 368 (bB 164),bk P "contains_point" 376 (bB 171),bk P "range_matches" 384 (bB 178),bk P "contains_interval" 392 (bB 185),bk P "distance_to" 400 (bB 192),bk P "is_null" 407 (bB 199),bk P "length" 414 (bB 206),bk P "__eq__" 422 (bB 213),bk P "compare" 432 (bB 220),bk P "__lt__" 440 (bB 227),bk P "__gt__" 448 (bB 234),bk P "_raise_if_null" 456 (bB 241),bk P "lt" 464 (bB 248),bk P "le" 472 (bB 255),bk P "gt" 480 (bB 262),bk P "ge" 488 (bB 269),bk P "copy" 495 (bB 276),bk P "__static_attributes__" 499 (bB 277)] 23 }:Obj)),
 (137,({ cls:=.type "tuple",data:=.seq #[] }:Obj)),
 (138,({ cls:=.none,data:=.fields #[.int 68 0,.int 4 0,.ref 147,.int 73 0,.int 4 0,.ref 155,.int 80 0,.int 4 0,.ref 163,.int 83 0,.int 4 0,.ref 170,.int 86 0,.int 4 0,.ref 177,.int 89 0,.int 4 0,.ref 184,.int 92 0,.int 4 0,.ref 191,.int 95 0,.int 4 0,.ref 198,.int 98 0,.int 4 0,.ref 205,.int 103 0,.int 4 0,.ref 212,.int 106 0,.int 4 0,.ref 219,.int 125 0,.int 4 0,.ref 226,.int 128 0,.int 4 0,.ref 233,.int 131 0,.int 4 0,.ref 240,.int 134 0,.int 4 0,.ref 247,.int 137 0,.int 4 0,.ref 254,.int 140 0,.int 4 0,.ref 261,.int 143 0,.int 4 0,.ref 268,.int 146 0,.int 4 0,.ref 275] }:Obj)),
 (139,({ cls:=.type "code",data:=.fields #[.str (en "Interval") 331,.str (en "Interval") 332,.str (en "/claim/cut.py") 333,.int 66 0,.int 0 0,.int 0 0,.int 0 0,.int 0 0,.ref 137,.bool false,.int 181 0,.ref 138,.none,.none,.none,.none,.int 334 0,.int 66 0,.str (en "/claim/cut.py") 335] }:Obj)),
 (140,({ cls:=.type "frame",slots:=#[some (bB 139),some (bB 3),some (bB 136),none,some (.str (en "intervaltree.interval") 194),none,some (bB 0)] }:Obj)),
 (282,({ cls:=.type "super",data:=.fields #[.ref 279,.ref 279,.ref 279] }:Obj)),
 (283,({ cls:=.type "builtin_function_or_method",data:=.fields #[.builtin "object.__init_subclass__",.ref 279] }:Obj)),
 (285,({ cls:=.type "builtin_function_or_method",data:=.fields #[.builtin "type.__prepare__",.type "type"] }:Obj)),
 (286,({ cls:=.type "dict",data:=.dict #[bk P "__module__" 517 (.str (en "intervaltree.node") 508),bk P "__qualname__" 519 (.str (en "Node") 518),bk P "__firstlineno__" 521 (.int 149 520),bk P "__init__" 532 (bB 299),bk P "from_interval" 553 (bB 308),bk P "from_intervals" 573 (bB 318),bk P "from_sorted_intervals" 594 (bB 328),bk P "init_from_sorted" 606 (bB 336),bk P "center_hit" 614 (bB 343),bk P "hit_branch" 622 (bB 350),bk P "refresh_balance" 631 (bB 357),bk P "compute_depth" 638 (bB 364),bk P "rotate" 647 (bB 371),bk P "srotate" 653 (bB 376),bk P "drotate" 662 (bB 383),bk P "add" 671 (bB 390),bk P "remove" 680 (bB 397),bk P "discard" 689 (bB 404),bk P "remove_interval_helper" 700 (bB 411),bk P "search_overlap" 710 (bB 418),bk P "search_point" 720 (bB 425),bk P "prune" 730 (bB 432),bk P "pop_greatest_child" 747 (bB 439),bk P "contains_point" 757 (bB 446),bk P "all_children" 764 (bB 453),bk P "all_children_helper" 772 (bB 460),bk P "verify" 783 (bB 467),bk P "__getitem__" 791 (bB 474),bk P "__setitem__" 800 (bB 481),bk P "count_nodes" 807 (bB 488),bk P "__static_attributes__" 814 (bB 489)] 31 }:Obj)),
 (287,({ cls:=.type "tuple",data:=.seq #[] }:Obj)),
 (288,({ cls:=.none,data:=.fields #[.int 151 0,.int 4 0,.ref 298,.int 161 0,.int 4 0,.ref 305,.int 166 0,.int 4 0,.ref 315,.int 172 0,.int 4 0,.ref 325,.int 179 0,.int 4 0,.ref 335,.int 196 0,.int 4 0,.ref 342,.int 199 0,.int 4 0,.ref 349,.int 202 0,.int 4 0,.ref 356,.int 208 0,.int 4 0,.ref 363,.int 211 0,.int 4 0,.ref 370,.int 222 0,.int 4 0,.ref 375,.int 236 0,.int 4 0,.ref 382,.int 243 0,.int 4 0,.ref 389,.int 257 0,.int 4 0,.ref 396,.int 261 0,.int 4 0,.ref 403,.int 265 0,.int 4 0,.ref 410,.int 287 0,.int 4 0,.ref 417,.int 293 0,.int 4 0,.ref 424,.int 303 0,.int 4 0,.ref 431,.int 315 0,.int 4 0,.ref 438,.int 350 0,.int 4 0,.ref 445,.int 357 0,.int 4 0,.ref 452,.int 360 0,.int 4 0,.ref 459,.int 368 0,.int 4 0,.ref 466,.int 387 0,.int 4 0,.ref 473,.int 393 0,.int 4 0,.ref 480,.int 399 0,.int 4 0,.ref 487] }:Obj)),
 (289,({ cls:=.type "code",data:=.fields #[.str (en "Node") 512,.str (en "Node") 513,.str (en "/claim/cut.py") 514,.int 149 0,.int 0 0,.int 0 0,.int 0 0,.int 0 0,.ref 287,.bool false,.int 181 0,.ref 288,.none,.none,.none,.none,.int 515 0,.int 149 0,.str (en "/claim/cut.py") 516] }:Obj)),
 (290,({ cls:=.type "frame",slots:=#[some (bB 289),some (bB 3),some (bB 286),none,some (.str (en "intervaltree.node") 508),none,some (bB 0)] }:Obj)),
 (494,({ cls:=.type "super",data:=.fields #[.ref 491,.ref 491,.ref 491] }:Obj)),
 (495,({ cls:=.type "builtin_function_or_method",data:=.fields #[.builtin "object.__init_subclass__",.ref 491] }:Obj)),
 (497,({ cls:=.type "builtin_function_or_method",data:=.fields #[.builtin "type.__prepare__",.type "type"] }:Obj)),
 (498,({ cls:=.type "dict",data:=.dict #[bk P "__module__" 831 (.str (en "intervaltree.intervaltree") 822),bk P "__qualname__" 833 (.str (en "IntervalTree") 832),bk P "__firstlineno__" 835 (.int 402 834),bk P "from_tuples" 855 (bB 511),bk P "__init__" 863 (bB 520),bk P "set_up" 872 (bB 528),bk P "copy" 879 (bB 535),bk P "_add_boundaries" 889 (bB 542),bk P "_remove_boundaries" 899 (bB 549),bk P "add" 907 (bB 556),bk P "addi" 917 (bB 564),bk P "update" 926 (bB 571),bk P "remove" 934 (bB 578),bk P "removei" 944 (bB 586),bk P "discard" 952 (bB 593),bk P "discardi" 962 (bB 601),bk P "difference" 970 (bB 608),bk P "difference_update" 979 (bB 615),bk P "union" 987 (bB 622),bk P "intersection" 995 (bB 629),bk P "intersection_update" 1003 (bB 636),bk P "symmetric_difference" 1011 (bB 643),bk P "symmetric_difference_update" 1019 (bB 650),bk P "remove_overlap" 1028 (bB 658),bk P "remove_envelop" 1037 (bB 665),bk P "chop" 1047 (bB 673),bk P "slice" 1060 (bB 681),bk P "clear" 1067 (bB 688),bk P "overlaps" 1076 (bB 696),bk P "overlaps_point" 1084 (bB 703),bk P "overlaps_range" 1096 (bB 710),bk P "split_overlaps" 1103 (bB 717),bk P "merge_overlaps" 1113 (bB 725),bk P "merge_equals" 1122 (bB 733),bk P "merge_neighbors" 1134 (bB 741),bk P "items" 1141 (bB 748),bk P "is_empty" 1148 (bB 755),bk P "at" 1157 (bB 762),bk P "envelop" 1166 (bB 770),bk P "overlap" 1172 (bB 776),bk P "begin" 1179 (bB 783),bk P "end" 1186 (bB 790),bk P "range" 1193 (bB 797),bk P "span" 1200 (bB 804),bk P "verify" 1211 (bB 811),bk P "__getitem__" 1219 (bB 818),bk P "__contains__" 1227 (bB 825),bk P "containsi" 1237 (bB 833),bk P "__iter__" 1244 (bB 840),bk P "__len__" 1251 (bB 847),bk P "__eq__" 1259 (bB 854),bk P "__static_attributes__" 1263 (bB 855)] 52 }:Obj)),
 (499,({ cls:=.type "tuple",data:=.seq #[] }:Obj)),
 (500,({ cls:=.none,data:=.fields #[.int 405 0,.int 4 0,.ref 508,.int 408 0,.int 4 0,.ref 519,.int 411 0,.int 4 0,.ref 527,.int 422 0,.int 4 0,.ref 534,.int 425 0,.int 4 0,.ref 541,.int 437 0,.int 4 0,.ref 548,.int 449 0,.int 4 0,.ref 555,.int 461 0,.int 4 0,.ref 563,.int 464 0,.int 4 0,.ref 570,.int 468 0,.int 4 0,.ref 577,.int 475 0,.int 4 0,.ref 585,.int 478 0,.int 4 0,.ref 592,.int 485 0,.int 4 0,.ref 600,.int 488 0,.int 4 0,.ref 607,.int 491 0,.int 4 0,.ref 614,.int 495 0,.int 4 0,.ref 621,.int 498 0,.int 4 0,.ref 628,.int 501 0,.int 4 0,.ref 635,.int 504 0,.int 4 0,.ref 642,.int 507 0,.int 4 0,.ref 649,.int 510 0,.int 4 0,.ref 657,.int 513 0,.int 4 0,.ref 664,.int 516 0,.int 4 0,.ref 672,.int 519 0,.int 4 0,.ref 680,.int 533 0,.int 4 0,.ref 687,.int 536 0,.int 4 0,.ref 695,.int 544 0,.int 4 0,.ref 702,.int 549 0,.int 4 0,.ref 709,.int 558 0,.int 4 0,.ref 716,.int 561 0,.int 4 0,.ref 724,.int 564 0,.int 4 0,.ref 732,.int 567 0,.int 4 0,.ref 740,.int 570 0,.int 4 0,.ref 747,.int 573 0,.int 4 0,.ref 754,.int 576 0,.int 4 0,.ref 761,.int 582 0,.int 4 0,.ref 769,.int 585 0,.int 4 0,.ref 775,.int 601 0,.int 4 0,.ref 782,.int 606 0,.int 4 0,.ref 789,.int 611 0,.int 4 0,.ref 796,.int 614 0,.int 4 0,.ref 803,.int 617 0,.int 4 0,.ref 810,.int 642 0,.int 4 0,.ref 817,.int 645 0,.int 4 0,.ref 824,.int 648 0,.int 4 0,.ref 832,.int 651 0,.int 4 0,.ref 839,.int 654 0,.int 4 0,.ref 846,.int 657 0,.int 4 0,.ref 853] }:Obj)),
 (501,({ cls:=.type "code",data:=.fields #[.str (en "IntervalTree") 826,.str (en "IntervalTree") 827,.str (en "/claim/cut.py") 828,.int 402 0,.int 0 0,.int 0 0,.int 0 0,.int 0 0,.ref 499,.bool false,.int 181 0,.ref 500,.none,.none,.none,.none,.int 829 0,.int 402 0,.str (en "/claim/cut.py") 830] }:Obj)),
 (502,({ cls:=.type "frame",slots:=#[some (bB 501),some (bB 3),some (bB 498),none,some (.str (en "intervaltree.intervaltree") 822),none,some (bB 0)] }:Obj)),
 (860,({ cls:=.type "super",data:=.fields #[.ref 857,.ref 857,.ref 857] }:Obj)),
 (861,({ cls:=.type "builtin_function_or_method",data:=.fields #[.builtin "object.__init_subclass__",.ref 857] }:Obj))]
def weave:Nat->Frag->Frag->List Obj
 | 0,_,_=>[]
 | _+1,[],[]=>[]
 | n+1,p::K,[]=>p.2::weave n K []
 | n+1,[],q::G=>q.2::weave n [] G
 | n+1,p::K,q::G=>match Nat.blt p.1 q.1 with
  | true=>p.2::weave n K (q::G)
  | false=>q.2::weave n (p::K) G
def CM:List Obj->List Obj
 | []=>[]
 | [x]=>[x]
 | x::_::l=>x::CM l
def grow:Nat->List Obj->BT
 | 0,_=>.nil
 | _+1,[]=>.nil
 | n+1,x::l=>.node x (grow n (CM l)) (grow n (CM l.tail))
def JV (n:Nat):BT->Nat->Nat->BT
 | .nil,_,_=>.nil
 | .node v l r,a,b=>match Nat.blt b n with
  | true=>.node v (JV n l (2 * a) (a+b)) (JV n r (2 * a) (2 * a+b))
  | false=>.nil
noncomputable def J5 (P:Params):BT:=grow 12 (weave 1000 (kf P) (Ld P))
def NL (P:Params) (n:Nat) (a b:Obj):BT:=((JV n (J5 P) 1 0).set 3 (λz9=>a)).set 12 (λz9=>b)
noncomputable def vN:Env:={ scope:=pw.main.scope,locals:=mainNs,globals:=mainNs,cells:=[],code:=.ref 13,frame:=some 14 }
noncomputable def lI:List Stmt:=behindTheImports pw
noncomputable def v_:Code:=.body lI vN
abbrev z0:Pos:=⟨0,0,0,0⟩
abbrev Gx:List Frame:=[topFrame z0]
abbrev DO:Option Value:=some (.ref 6)
noncomputable def a0 (P:Params):Obj:={ cls:=.type "dict",data:=.dict #[bk P "__name__" 165 (.str (en "__main__") 164),bk P "__doc__" 166 (.none),bk P "__package__" 167 (.none),bk P "__loader__" 168 (.builtin "__main__.__loader__#opaque"),bk P "__spec__" 169 (.none),bk P "__annotations__" 170 (bB 6),bk P "__builtins__" 171 (bB 4),bk P "__file__" 173 (.str (en "/claim/cut.py") 172),bk P "__cached__" 174 (.none)] 9 }
noncomputable def b0 (P:Params):Obj:={ cls:=.none,data:=.fields #[] }
noncomputable def s0 (w:World) (os:OsState):SharedT:=⟨NL w.params 15 (a0 w.params) (b0 w.params),15,{},#[],{},187,os⟩
noncomputable def a1 (P:Params):Obj:={ cls:=.type "dict",data:=.dict #[bk P "__name__" 165 (.str (en "intervaltree.interval") 194),bk P "__doc__" 166 (.none),bk P "__package__" 167 (.none),bk P "__loader__" 168 (.builtin "__main__.__loader__#opaque"),bk P "__spec__" 169 (.none),bk P "__annotations__" 170 (bB 6),bk P "__builtins__" 171 (bB 4),bk P "__file__" 173 (.str (en "/claim/cut.py") 172),bk P "__cached__" 174 (.none),bk P "_wall" 193 (bB 21)] 10 }
noncomputable def b1 (P:Params):Obj:={ cls:=.none,data:=.fields #[.int 1 0,.int 0 0,.ref 20] }
noncomputable def s1 (w:World) (os:OsState):SharedT:=⟨NL w.params 22 (a1 w.params) (b1 w.params),22,{},#[],{},196,os⟩
noncomputable def l1:List Stmt:=(lI.drop 0).take 2
abbrev p1:Pos:=⟨4,0,4,8⟩
noncomputable def a2 (P:Params):Obj:={ cls:=.type "dict",data:=.dict #[bk P "__name__" 165 (.str (en "intervaltree.interval") 194),bk P "__doc__" 166 (.none),bk P "__package__" 167 (.none),bk P "__loader__" 168 (.builtin "__main__.__loader__#opaque"),bk P "__spec__" 169 (.none),bk P "__annotations__" 170 (bB 6),bk P "__builtins__" 171 (bB 4),bk P "__file__" 173 (.str (en "/claim/cut.py") 172),bk P "__cached__" 174 (.none),bk P "_wall" 193 (bB 21),bk P "Members" 321 (bB 122),bk P "kind_name" 328 (bB 133)] 12 }
noncomputable def b2 (P:Params):Obj:={ cls:=.none,data:=.fields #[.int 1 0,.int 0 0,.ref 20,.int 5 0,.int 0 0,.ref 27,.int 56 0,.int 0 0,.ref 132] }
noncomputable def s2 (w:World) (os:OsState):SharedT:=⟨NL w.params 134 (a2 w.params) (b2 w.params),134,{},#[],{},329,os⟩
noncomputable def l2:List Stmt:=(lI.drop 2).take 2
abbrev p2:Pos:=⟨56,0,65,18⟩
noncomputable def a3 (P:Params):Obj:={ cls:=.type "dict",data:=.dict #[bk P "__name__" 165 (.str (en "intervaltree.node") 508),bk P "__doc__" 166 (.none),bk P "__package__" 167 (.none),bk P "__loader__" 168 (.builtin "__main__.__loader__#opaque"),bk P "__spec__" 169 (.none),bk P "__annotations__" 170 (bB 6),bk P "__builtins__" 171 (bB 4),bk P "__file__" 173 (.str (en "/claim/cut.py") 172),bk P "__cached__" 174 (.none),bk P "_wall" 193 (bB 21),bk P "Members" 321 (bB 122),bk P "kind_name" 328 (bB 133),bk P "Interval" 507 (bB 279)] 13 }
noncomputable def b3 (P:Params):Obj:={ cls:=.none,data:=.fields #[.int 1 0,.int 0 0,.ref 20,.int 5 0,.int 0 0,.ref 27,.int 56 0,.int 0 0,.ref 132,.int 66 0,.int 0 0,.ref 139] }
noncomputable def s3 (w:World) (os:OsState):SharedT:=⟨NL w.params 284 (a3 w.params) (b3 w.params),284,{},#[],{},510,os⟩
noncomputable def l3:List Stmt:=(lI.drop 4).take 2
abbrev p3:Pos:=⟨148,0,148,8⟩
noncomputable def a4 (P:Params):Obj:={ cls:=.type "dict",data:=.dict #[bk P "__name__" 165 (.str (en "intervaltree.intervaltree") 822),bk P "__doc__" 166 (.none),bk P "__package__" 167 (.none),bk P "__loader__" 168 (.builtin "__main__.__loader__#opaque"),bk P "__spec__" 169 (.none),bk P "__annotations__" 170 (bB 6),bk P "__builtins__" 171 (bB 4),bk P "__file__" 173 (.str (en "/claim/cut.py") 172),bk P "__cached__" 174 (.none),bk P "_wall" 193 (bB 21),bk P "Members" 321 (bB 122),bk P "kind_name" 328 (bB 133),bk P "Interval" 507 (bB 279),bk P "Node" 821 (bB 491)] 14 }
noncomputable def b4 (P:Params):Obj:={ cls:=.none,data:=.fields #[.int 1 0,.int 0 0,.ref 20,.int 5 0,.int 0 0,.ref 27,.int 56 0,.int 0 0,.ref 132,.int 66 0,.int 0 0,.ref 139,.int 149 0,.int 0 0,.ref 289] }
noncomputable def s4 (w:World) (os:OsState):SharedT:=⟨NL w.params 496 (a4 w.params) (b4 w.params),496,{},#[],{},824,os⟩
noncomputable def l4:List Stmt:=(lI.drop 6).take 2
abbrev p4:Pos:=⟨401,0,401,8⟩
noncomputable def s5 (w:World) (os:OsState):SharedT:=⟨J5 w.params,898,{},#[],{},1324,os⟩
noncomputable def l5:List Stmt:=(lI.drop 8).take 8
abbrev p5:Pos:=⟨699,0,720,15⟩
theorem PH:∀ w:World,(λos=>topGo treeTable pw w 11 DO 12 ⟨boot_heap w.params,Array.mk [],boot_drawn,boot_toks,os⟩ (topStub pw))=λos=>some ((s0 w os).abs,⟨denote treeTable v_,v_,z0,Gx⟩):=by intro w; kernel_rfl
theorem J3:∀ w:World,(λos=>segRun treeTable pw w 11 DO 1 1 (s0 w os).abs (blockOf lI vN v_ z0 Gx))=λos=>some (Flow.next,(s0 w os).abs,v_,z0):=by intro w; kernel_rfl
theorem Pr:∀ w:World,(λos=>segRunT treeTable pw w 11 DO 1 39 (s0 w os) (piecesOf l1 vN v_ z0 Gx))=λos=>some (Flow.next,s1 w os,v_,p1):=by intro w; kernel_rfl
theorem Pq:∀ w:World,(λos=>segRunT treeTable pw w 11 DO 1 647 (s1 w os) (piecesOf l2 vN v_ p1 Gx))=λos=>some (Flow.next,s2 w os,v_,p2):=by intro w; kernel_rfl
theorem Pp:∀ w:World,(λos=>segRunT treeTable pw w 11 DO 1 826 (s2 w os) (piecesOf l3 vN v_ p2 Gx))=λos=>some (Flow.next,s3 w os,v_,p3):=by intro w; kernel_rfl
theorem Po:∀ w:World,(λos=>segRunT treeTable pw w 11 DO 1 1504 (s3 w os) (piecesOf l4 vN v_ p3 Gx))=λos=>some (Flow.next,s4 w os,v_,p4):=by intro w; kernel_rfl
theorem Pn:∀ w:World,(λos=>segRunT treeTable pw w 11 DO 1 2097 (s4 w os) (piecesOf l5 vN v_ p4 Gx))=λos=>some (Flow.next,s5 w os,v_,p5):=by intro w; kernel_rfl
theorem GD:lI=l1++(l2++(l3++(l4++(l5++([]))))):=by kernel_rfl
theorem TP:∀ w:World,(λos=>topRun treeTable pw w 11 DO 2 (s5 w os).abs ⟨doneF Flow.next,v_,p5,Gx⟩)=λos=>some (s5 w os).abs:=by intro w; kernel_rfl
theorem HL (w:World) (os:OsState):topRun treeTable pw w 11 DO 5128 ⟨boot_heap w.params,Array.mk [],boot_drawn,boot_toks,os⟩ (topStub pw)=some (s5 w os).abs:=by
 have k:topRun treeTable pw w 11 DO 5115 (s0 w os).abs (restOf lI vN v_ z0 Gx)=some (s5 w os).abs:=by
  rw [GD];exact (piece_app (segRun_of (congrFun (Pr w) os)) (piece_app (segRun_of (congrFun (Pq w) os)) (piece_app (segRun_of (congrFun (Pp w) os)) (piece_app (segRun_of (congrFun (Po w) os)) (piece_app (segRun_of (congrFun (Pn w) os)) (piece_nil (congrFun (TP w) os)))))))
 exact go_top (n:=12) (N:=5116) (congrFun (PH w) os) (piece_block (n:=1) (N:=5115) (congrFun (J3 w) os) k)
abbrev sN:World->OsState->SharedT:=s5
noncomputable def UW:List Addr:=(List.range 898).filter λa=>!([23,24,25,26,27,28,125,126,135,136,137,138,139,140,282,283,285,286,287,288,289,290,494,495,497,498,499,500,501,502,860,861].contains a)
theorem Cw (P:Params):UW=(kf P).map (·.1):=by kernel_rfl
noncomputable def qv:Program:={ pw with main:={ pw.main with body:=(pw.main.body.zipIdx.filter λx=>!([2,4,6,8].contains x.2)).map (·.1) } }
def sL:List Str:=[en "Members",en "Interval",en "Node",en "IntervalTree"]
def nN:Hook:=kHook kf UW Cw
abbrev O2 (s:Shared):Bool:=xlAt qv [] s && recOk (RowW.records (OpenRow.toRowW (OpenLaw.row Kf))) s
theorem Io:∀ w:World,(λos=>((staticsOk (importedModules pw.main.body) (boot_heap w.params) (sN w os).abs.heap && namesBound pw (sN w os).abs.heap && gensDone (sN w os).abs && laidKept (boot_heap w.params) (sN w os).abs.heap),
    openSeen qv sL (importedModules pw.main.body) O2 true (sN w os).abs,nN.obs (sN w os).abs))=λz9=>(true,openGood qv sL,nN.val w):=by intro w; kernel_rfl
theorem LJ:LeftO pw qv sL O2 nN.obs nN.val 20000 :=
 LeftO.of_pieces (H₀:=boot_heap) (H₁:=λP=>absHeap (J5 P) 898 {}) (gs₀:=Array.mk []) (gs₁:=#[]) (d₀:=boot_drawn) (d₁:={}) (k₀:=boot_toks) (k₁:=1324) (m₀:=11) (ann:=DO) (M:=5128)
  (boot_open (p:=pw) (N:=20000) rfl rfl (λs=>rfl)) (by intro w; kernel_rfl) (λw os=>HL w os) (by kernel_rfl) Io
noncomputable def head0:=λhw hc=>holds_open (r:=OpenLaw.row Kf) (q:=qv) (loose:=sL) (Xt:=O2) (XP:=XL qv []) (Yf:=Hook.obs nN) (Ya:=Hook.val nN) (YP:=Hook.says nN) (N:=20000) LJ (Hook.of nN) (Hook.keeps nN) (λs e=>xl_of s (Bool.and_eq_true_iff.mp e).1) XL.keeps (by rfl) (by rfl) (by rfl) (λs e=>recFacts_of (Bool.and_eq_true_iff.mp e).2) (by rfl) (by decide +kernel) (by decide +kernel) ⟨rfl,rfl,rfl,rfl,rfl,by decide +kernel⟩ hw hc
end
section
local macro_rules | `(tactic| o_law)=>return rd (sE ("( holds_law said "++sF "said'" "?"++" )"))
local macro_rules | `(tactic| k_head)=>return rd (sE "( head0 ( #Lean.Parser.Term.syntheticHole '? hw ) ( #Lean.Parser.Term.syntheticHole '? hc ) )")
open_top hd for PySem.Challenge.rw_jr0008_02
end
end dD
open PySem PySem.W PyProof.Rows PySem.Calls
set_option maxHeartbeats 1000000
set_option tactic.hygienic false
namespace dD
universe u
local macro_rules | `(tactic| walk_at $s:str) => sKey ["D", sT "paren" ("'( " ++ sS (sT "case" ("'case ( #null ( #Lean.Parser.Tactic.caseArg ( #Lean.binderIdent ho ) ( #null ) ) ) '=> " ++ sS (sT "exact" "'exact rfl")) ++ " '; " ++ sT "case" ("'case ( #null ( #Lean.Parser.Tactic.caseArg ( #Lean.binderIdent hb ) ( #null ) ) ) '=> " ++ sS (sT "exact" ("'exact " ++ sF "s z9" "( BindsTo.of_eq rfl )"))) ++ " '; " ++ sT "case" ("'case ( #null ( #Lean.Parser.Tactic.caseArg ( #Lean.binderIdent hp ) ( #null ) ) ) '=> " ++ sS (sT "exact" "'exact rfl")) ++ " '; " ++ sT "intro" "'intro ( #null A Qg L E G Qp et )") ++ " ')"), "A", sT "simp" "'simp ( #Lean.Parser.Tactic.optConfig ( #null ( #Lean.Parser.Tactic.configItem ( #Lean.Parser.Tactic.posConfigItem '+ arith ) ) ) ) ( #null ) ( #null 'only ) ( #null '[ ( #null ( #Lean.Parser.Tactic.simpLemma ( #null ) ( #null ) Nat.reducePow ) ', ( #Lean.Parser.Tactic.simpLemma ( #null ) ( #null ) not_false_eq_true ) ) '] ) ( #null )", "bh", sE ("( Classical.byContradiction " ++ sF "hG" "?" ++ " )"), "ch", sT "paren" ("'( " ++ sS (sE "( hG ? )" ++ " '; " ++ sT "clear" "'clear ( #null hG )") ++ " ')")] s.getString
def aA:Lean.Syntax:=rd (sS (sW "A"))
theorem Ql {a G:Prop} (h:a) (k:autoParam (¬a) aA):G:=absurd h k
theorem Qa {a b c d:Nat} (h:a≤b) (k:c≤d):a+c≤b+d:=Nat.add_le_add h k
theorem Qb {a b c:Nat} (h:a≤b) (k:b≤c):a≤c:=Nat.le_trans h k
theorem Qc {a b:Nat} (h:a=b):a≤b:=Nat.le_of_eq h
theorem Qd {a b:Nat} (h:¬a<b):b≤a:=Nat.le_of_not_lt h
theorem Qe {a b:Nat} (h:Nat.ble a b=true):a≤b:=Nat.le_of_ble_eq_true h
theorem Qf {a b:Nat} (h:a<b):a+1≤b:=Nat.succ_le_of_lt h
@[elab_as_elim] theorem ae {α:Sort u}{a b:α}{p:α->Prop} (h:a=b) (x:p b):p a:=h▸x
@[elab_as_elim] theorem eI {α:Sort u}{a b:α}{p:α->Prop} (h:b=a) (x:p b):p a:=h▸x
theorem eG {α:Type}{t:Option α}{a b:α} (h:t=some a) (k:t=some b):a=b:=Option.some.inj (h.symm.trans k)
theorem iO {α:Type}{b:α}{G:Prop} (k:none=some b):G:=by cases k
theorem uy {α:Type}{b:α}{G:Prop} (k:some b=none):G:=iO k.symm
theorem bo {α:Type}{t:Option α}{b:α}{G:Prop} (h:t=none) (k:t=some b):G:=iO (h.symm.trans k)
theorem EB {G:Prop} (k:true=false):G:=absurd k (by decide)
theorem mi {G:Prop} (k:false=true):G:=EB k.symm
theorem aS {A B:Prop}{G:Prop} (q:A∧B) (f:A->B->G):G:=q.elim λh i=>f h i
theorem aQ {α:Type}{A:α->Prop}{G:Prop} (q:∃ x,A x) (f:∀ x,A x->G):G:=q.elim λx h=>f x h
theorem bw {A B C:Prop}{G:Prop} (q:A∧B∧C) (f:A->B->C->G):G:=q.elim λh q=>q.elim λi j=>f h i j
theorem aF {α:Type}{A B:α->Prop}{G:Prop} (q:∃ x,A x∧B x) (f:∀ x,A x->B x->G):G:=q.elim λx q=>q.elim λh i=>f x h i
theorem dB {α β:Type}{A:α->β->Prop}{G:Prop} (q:∃ x,∃ y,A x y) (f:∀ x,∀ y,A x y->G):G:=q.elim λx q=>q.elim λy h=>f x y h
theorem dI {A B C D:Prop}{G:Prop} (q:A∧B∧C∧D) (f:A->B->C->D->G):G:=q.elim λh q=>q.elim λi q=>q.elim λj k=>f h i j k
theorem ck {α:Type}{A:Prop}{B C:α->Prop}{G:Prop} (q:A∧∃ x,B x∧C x) (f:A->∀ x,B x->C x->G):G:=q.elim λh q=>q.elim λx q=>q.elim λi j=>f h x i j
theorem bF {α:Type}{A B C:α->Prop}{G:Prop} (q:∃ x,A x∧B x∧C x) (f:∀ x,A x->B x->C x->G):G:=q.elim λx q=>q.elim λh q=>q.elim λi j=>f x h i j
theorem bg {α β:Type}{A B:α->β->Prop}{G:Prop} (q:∃ x,∃ y,A x y∧B x y) (f:∀ x,∀ y,A x y->B x y->G):G:=q.elim λx q=>q.elim λy q=>q.elim λh i=>f x y h i
theorem d9 {A B C D E:Prop}{G:Prop} (q:A∧B∧C∧D∧E) (f:A->B->C->D->E->G):G:=q.elim λh q=>q.elim λi q=>q.elim λj q=>q.elim λk l=>f h i j k l
theorem c_ {α β γ:Type}{A:Prop}{B:α->β->γ->Prop}{G:Prop} (q:A∧∃ x,∃ y,∃ z,B x y z) (f:A->∀ x,∀ y,∀ z,B x y z->G):G:=q.elim λh q=>q.elim λx q=>q.elim λy q=>q.elim λz i=>f h x y z i
theorem c9 {α:Type}{A B C D:α->Prop}{G:Prop} (q:∃ x,A x∧B x∧C x∧D x) (f:∀ x,A x->B x->C x->D x->G):G:=q.elim λx q=>q.elim λh q=>q.elim λi q=>q.elim λj k=>f x h i j k
theorem bx {α β:Type}{A B C:α->β->Prop}{G:Prop} (q:∃ x,∃ y,A x y∧B x y∧C x y) (f:∀ x,∀ y,A x y->B x y->C x y->G):G:=q.elim λx q=>q.elim λy q=>q.elim λh q=>q.elim λi j=>f x y h i j
theorem cz {α β γ:Type}{A B:α->β->γ->Prop}{G:Prop} (q:∃ x,∃ y,∃ z,A x y z∧B x y z) (f:∀ x,∀ y,∀ z,A x y z->B x y z->G):G:=q.elim λx q=>q.elim λy q=>q.elim λz q=>q.elim λh i=>f x y z h i
theorem bP {α β γ δ:Type}{A:α->β->γ->δ->Prop}{G:Prop} (q:∃ x,∃ y,∃ z,∃ u,A x y z u) (f:∀ x,∀ y,∀ z,∀ u,A x y z u->G):G:=q.elim λx q=>q.elim λy q=>q.elim λz q=>q.elim λu h=>f x y z u h
theorem gZ {A B C D E F:Prop}{G:Prop} (q:A∧B∧C∧D∧E∧F) (f:A->B->C->D->E->F->G):G:=q.elim λh q=>q.elim λi q=>q.elim λj q=>q.elim λk q=>q.elim λl m=>f h i j k l m
theorem gY {α β γ δ:Type}{A:Prop}{B:α->β->γ->δ->Prop}{G:Prop} (q:A∧∃ x,∃ y,∃ z,∃ u,B x y z u) (f:A->∀ x,∀ y,∀ z,∀ u,B x y z u->G):G:=q.elim λh q=>q.elim λx q=>q.elim λy q=>q.elim λz q=>q.elim λu i=>f h x y z u i
theorem bE {α:Type}{A B C D E:α->Prop}{G:Prop} (q:∃ x,A x∧B x∧C x∧D x∧E x) (f:∀ x,A x->B x->C x->D x->E x->G):G:=q.elim λx q=>q.elim λh q=>q.elim λi q=>q.elim λj q=>q.elim λk l=>f x h i j k l
theorem cL {α β:Type}{A B C D:α->β->Prop}{G:Prop} (q:∃ x,∃ y,A x y∧B x y∧C x y∧D x y) (f:∀ x,∀ y,A x y->B x y->C x y->D x y->G):G:=q.elim λx q=>q.elim λy q=>q.elim λh q=>q.elim λi q=>q.elim λj k=>f x y h i j k
theorem fJ {α β γ:Type}{A B C:α->β->γ->Prop}{G:Prop} (q:∃ x,∃ y,∃ z,A x y z∧B x y z∧C x y z) (f:∀ x,∀ y,∀ z,A x y z->B x y z->C x y z->G):G:=q.elim λx q=>q.elim λy q=>q.elim λz q=>q.elim λh q=>q.elim λi j=>f x y z h i j
theorem jg {α β γ δ:Type}{A B:α->β->γ->δ->Prop}{G:Prop} (q:∃ x,∃ y,∃ z,∃ u,A x y z u∧B x y z u) (f:∀ x,∀ y,∀ z,∀ u,A x y z u->B x y z u->G):G:=q.elim λx q=>q.elim λy q=>q.elim λz q=>q.elim λu q=>q.elim λh i=>f x y z u h i
theorem bL {α β γ δ ε:Type}{A:α->β->γ->δ->ε->Prop}{G:Prop} (q:∃ x,∃ y,∃ z,∃ u,∃ v,A x y z u v) (f:∀ x,∀ y,∀ z,∀ u,∀ v,A x y z u v->G):G:=q.elim λx q=>q.elim λy q=>q.elim λz q=>q.elim λu q=>q.elim λv h=>f x y z u v h
theorem gc {A B C D E F H:Prop}{G:Prop} (q:A∧B∧C∧D∧E∧F∧H) (f:A->B->C->D->E->F->H->G):G:=q.elim λh q=>q.elim λi q=>q.elim λj q=>q.elim λk q=>q.elim λl q=>q.elim λm n=>f h i j k l m n
theorem cW {α:Type}{A B C D E F:α->Prop}{G:Prop} (q:∃ x,A x∧B x∧C x∧D x∧E x∧F x) (f:∀ x,A x->B x->C x->D x->E x->F x->G):G:=q.elim λx q=>q.elim λh q=>q.elim λi q=>q.elim λj q=>q.elim λk q=>q.elim λl m=>f x h i j k l m
theorem gX {α β γ:Type}{A B C D:α->β->γ->Prop}{G:Prop} (q:∃ x,∃ y,∃ z,A x y z∧B x y z∧C x y z∧D x y z) (f:∀ x,∀ y,∀ z,A x y z->B x y z->C x y z->D x y z->G):G:=q.elim λx q=>q.elim λy q=>q.elim λz q=>q.elim λh q=>q.elim λi q=>q.elim λj k=>f x y z h i j k
theorem cp {A B C D E F H I:Prop}{G:Prop} (q:A∧B∧C∧D∧E∧F∧H∧I) (f:A->B->C->D->E->F->H->I->G):G:=q.elim λh q=>q.elim λi q=>q.elim λj q=>q.elim λk q=>q.elim λl q=>q.elim λm q=>q.elim λn o=>f h i j k l m n o
theorem cO {A B C D E F H I J:Prop}{G:Prop} (q:A∧B∧C∧D∧E∧F∧H∧I∧J) (f:A->B->C->D->E->F->H->I->J->G):G:=q.elim λh q=>q.elim λi q=>q.elim λj q=>q.elim λk q=>q.elim λl q=>q.elim λm q=>q.elim λn q=>q.elim λo p=>f h i j k l m n o p
@[irreducible] def xK (a b:Nat):Prop:=a≤b
@[irreducible] def J9 (a:Nat):Prop:=a≠0
@[irreducible] def KR (x S:Nat):Prop:=S≤1->x=0
@[irreducible] def Fm (a b:Nat):Prop:=a≤b
@[irreducible] def Fs (S:Nat):Prop:=S≤1
@[irreducible] def Fw (a b:Nat):Prop:=a≤b
@[irreducible] def Fz (x:Nat):Prop:=x=0
section
unseal xK J9 KR Fm Fs Fw Fz
theorem au {a:Nat}:xK a a:=Nat.le_refl a
theorem az {x a b:Nat} (p:xK x a):xK x (a+b):=Qb p (Nat.le_add_right _ _)
theorem aV {x a b:Nat} (p:xK x b):xK x (a+b):=Qb p (Nat.le_add_left _ _)
theorem dO {x a b:Nat} (e:a=b) (p:xK x b):xK x a:=e▸p
theorem cj {S T:Nat} (h:¬ S=0) (p:xK S T):J9 T:=λe=>h (Nat.le_zero.mp (e▸p))
theorem bT {T:Nat} (p:xK 1 T):J9 T:=λe=>absurd (e▸p:1≤0) (by decide)
theorem cZ {x a b:Nat} (q:xK x b) (p:J9 a):KR x (a+b):=λh=>by have p':a≠0:=p; have q':x≤b:=q; exact Nat.le_zero.mp (Qd λq=>Ql (Qa h (Qa (Nat.pos_of_ne_zero p') (Qa q' q))))
theorem nz {x a b:Nat} (q:xK x a) (p:J9 b):KR x (a+b):=λh=>by have p':b≠0:=p; have q':x≤a:=q; exact Nat.le_zero.mp (Qd λq=>Ql (Qa h (Qa (Nat.pos_of_ne_zero p') (Qa q' q))))
theorem dq {x a b:Nat} (p:KR x a):KR x (a+b):=λh=>p (Qb (Nat.le_add_right _ _) h)
theorem cH {x S:Nat} (h:S=0) (p:xK x S):Fz x:=Nat.le_zero.mp (h▸p)
theorem bZ {x S:Nat} (h:S≤1) (p:KR x S):Fz x:=p h
theorem nv {a b:Nat} (p:Fz a) (q:Fz b):Fz (a+b):=by have p':a=0:=p; have q':b=0:=q; exact (Nat.le_zero.mp (Qd λq=>Ql (Qa (Qc p') (Qa (Qc q') q))):a+b=0)
theorem bj {x:Nat} (p:Fz x):x=0:=p
theorem bK {x:Nat} (p:J9 x):¬ x=0:=p
theorem iK {a:Nat}:Fm a a:=Nat.le_refl a
theorem iM {a b c d:Nat} (p:Fm a c) (q:Fm b d):Fm (a+b) (c+d):=Qa p q
theorem tR {a b:Nat} (p:a=0):Fm a b:=p▸Nat.zero_le b
theorem vK {S T:Nat} (p:xK S T):Fw S T:=p
theorem Gv {a b T:Nat} (z:a=0) (p:Fw b T):Fw (a+b) T:=by
 subst z; exact ae (Nat.zero_add _) p
theorem Gu {a b T:Nat} (z:b=0) (p:Fw a T):Fw (a+b) T:=by
 subst z; exact p
theorem vM {S T:Nat} (h:¬ S=0) (p:Fw S T):J9 T:=λe=>h (Nat.le_zero.mp (e▸p))
theorem tQ {S T:Nat} (h:T≤1) (p:Fm S T):Fs S:=Qb p h
theorem jK {S T:Nat} (h:T≤1) (p:xK S T):Fs S:=Qb p h
theorem fR {S:Nat} (p:Fs S):S≤1:=p
end
local macro_rules | `(tactic| omega)=>`(tactic| first | decide | lia | omega +splitMinMax)
noncomputable abbrev Loc:=Str->Option Value
noncomputable abbrev Led:=Addr->Option Obj
set_option genInjectivity false in
structure Setup where
 prog:Program
 w:World
 os:OsState
 dr:Drawn
 gn:Array GenState->Prop
 tb:Addr->Bool
 tq:Nat->Nat->Str
 cd:Led
 K:Frag
 p:Program
 loose:List Str
 mg:Str->Option Value
 mb:Str->Option Value
structure Um (S:Setup) (Qg:Heap) (L:Addr) (m:Loc) (C:Led) (s:Shared):Prop where
 F:Fr Qg L s.heap m
 N:∀ a o,C a=some o->s.heap.get? a=some o∧a≠L∧Qg.get? a=none
 g:S.gn s.gens
 o:s.os=S.os∧s.drawn=S.dr
noncomputable def join (C F:Led):Led:=λa=>(C a).or (F a)
noncomputable def g_ (C F:Led):Prop:=∀ a,C a=none∨F a=none
structure bR (S:Setup) (Qg:Heap) (L:Addr) (m:Loc) (C F:Led) (s:Shared):Prop where
 r:Um S Qg L m (join C F) s
 d:g_ C F
noncomputable def xM (T:Led) (q:Str) (cv:Value):Prop:=∃ c oc vs t,cv=.ref c∧T c=some oc∧oc.data=.fields vs∧(vs[1]?:Option Value)=some (.str q t)
noncomputable def NP (S:Setup) (T:Led) (x:Option Obj):Prop:=∃ ps,x=some (tabObj ps)∧TriplesOk ps.toList∧∀ (pos:Pos) cv,codeAmong pos ps.toList=some cv->xM T (S.tq pos.line pos.col) cv
structure t9 (S:Setup) (T:Led):Prop where
 t:∀ a,S.tb a=true->NP S T (T a)
 c:∀ a o,S.cd a=some o->T a=some o
inductive Rel (S:Setup) (Qg:Heap) (L:Addr) (m:Loc) (C F:Led) (s:Shared):Prop
 | mk:∀ T,t9 S T->g_ F T->bR S Qg L m C (join F T) s->Rel S Qg L m C F s
inductive AH {α:Type} (S:Setup) (Qg:Heap) (L:Addr) (F:Led) (Q:α->Loc->Led->Prop) (a:α) (s':Shared):Prop
 | mk:∀ m' C',Rel S Qg L m' C' F s'->Q a m' C'->AH S Qg L F Q a s'
inductive X4 {α:Type} (S:Setup) (Qg:Heap) (L:Addr) (F:Led) (Q:α->Loc->Led->Prop) (a:α) (s':Shared):Prop
 | mk:∀ m' C',bR S Qg L m' C' F s'->Q a m' C'->X4 S Qg L F Q a s'
structure W {α:Type} (S:Setup) (A:Around) (Qg:Heap) (L:Addr) (E:Value->Shared->Prop) (t:Sem α) (m:Loc) (C:Led) (Q:α->Loc->Led->Prop):Prop where
 mk2 ::
 go:∀ F s,Rel S Qg L m C F s->wpAny (model S.prog S.w) A t (AH S Qg L F Q) E s
theorem W.mk {α:Type}{S:Setup}{A:Around}{Qg:Heap}{L:Addr}{E:Value->Shared->Prop}{t:Sem α}{m:Loc}{C:Led}{Q:α->Loc->Led->Prop} (h:∀ F s,bR S Qg L m C F s->wpAny (model S.prog S.w) A t (X4 S Qg L F Q) E s):W S A Qg L E t m C Q :=
 .mk2 λF s ⟨T,tb,dj,R⟩=>wpAny_mono (h _ s R) (λ_ _ ⟨m',C',R',q⟩=>⟨m',C',⟨T,tb,dj,R'⟩,q⟩) λz9 z8 x=>x
structure Gd (S:Setup) (n:Nat) (A:Around) (Qg:Heap) (L:Addr) (env:Env):Prop where
 X:S.K.In Qg
 T:TopRead S.p S.loose S.mg S.mb Qg
 hk:env.scope.kind=.function
 d:A.depth+2 * n < recursionLimit
 u:A.units+8 * n < cLine
 hh:A.handled=none
 hloc:env.locals=L
 hgl:env.globals=mainGlobals
 hbi:env.builtins=builtinsNs
noncomputable def upd (C:Led) (a:Addr) (o:Obj):Led:=λb=>if b=a then some o else C b
theorem af (C:Led) (a:Addr) (o:Obj):upd C a o a=some o:=if_pos rfl
theorem ag (C:Led) {a b:Addr} (o:Obj) (h:b≠a):upd C a o b=C b:=if_neg h
noncomputable def hide (C:Led) (a:Addr):Led:=λb=>if b=a then none else C b
theorem aI {C F:Led}{a:Addr}{o:Obj} (h:C a=some o):join C F a=some o:=by unfold join; refine ae h ?_; rfl
theorem aT {C F:Led}{a:Addr}{o:Obj} (d:g_ C F) (h:F a=some o):join C F a=some o:=by
 unfold join;rcases d a with e | e
 ·refine ae e (ae h ?_); rfl
 ·exact bo e h
theorem join_none {C F:Led}{a:Addr} (h:join C F a=none):C a=none∧F a=none:=by
 unfold join at h;cases e:C a with
 | none=>rw [e] at h; exact ⟨rfl,h⟩
 | some o=>rw [e] at h; exact uy h
theorem bJ (C F:Led) (a:Addr) (o:Obj):join (upd C a o) F=upd (join C F) a o:=by
 funext b;unfold join upd;by_cases h:b=a
 ·simp [h]
 ·simp [h]
theorem g_.upd_new {C F:Led} (d:g_ C F) {a:Addr} (o:Obj) (h:F a=none):g_ (upd C a o) F:=λb=>by
 by_cases q:b=a
 ·subst q; exact .inr h
 ·exact ae (ag _ _ q) (d b)
theorem g_.upd_own {C F:Led} (d:g_ C F) {a:Addr}{wO:Obj} (o:Obj) (h:C a=some wO):g_ (upd C a o) F :=
 d.upd_new o ((d a).resolve_left λe=>by exact bo e h)
section
variable {S:Setup}{A:Around}{Qg:Heap}{L:Addr}{E:Value->Shared->Prop}{m:Loc}{C F:Led}
theorem Rel.fr {s:Shared} (R:Rel S Qg L m C F s):Fr Qg L s.heap m:=let ⟨_,_,_,c⟩:=R; c.r.F
theorem Rel.get {s:Shared} (R:Rel S Qg L m C F s) {a:Addr}{o:Obj} (h:C a=some o):s.heap.get? a=some o:=let ⟨_,_,_,c⟩:=R; (c.r.N _ _ (aI h)).1
theorem Rel.back {s':Shared}{g:Heap}{L':Addr}{m':Loc}{C':Led} (R:Rel S g L' m' C' F s') (b:∀ {F'},bR S g L' m' C' F' s'->bR S Qg L m C' F' s'):Rel S Qg L m C' F s':=let ⟨T,tb,dj,r⟩:=R; ⟨T,tb,dj,b r⟩
theorem bR.rel {s:Shared}{T:Led} (R:bR S Qg L m C (join F T) s) (tb:t9 S T) (dj:g_ F T):Rel S Qg L m C F s:=⟨T,tb,dj,R⟩
theorem W.run {α:Type}{t:Sem α}{Q:α->Loc->Led->Prop}{Q':α->Shared->Prop}{s:Shared} (h:W S A Qg L E t m C Q) (R:Rel S Qg L m C F s)
  (hQ:∀ v m' C' s',Rel S Qg L m' C' F s'->Q v m' C'->Q' v s'):wpAny (model S.prog S.w) A t Q' E s :=
 wpAny_mono (h.go F s R) (λv s' ⟨m',C',R',q⟩=>hQ v m' C' s' R' q) λz9 z8 x=>x
theorem W.mono {α:Type}{t:Sem α}{Q Q':α->Loc->Led->Prop} (h:W S A Qg L E t m C Q) (hQ:∀ v m' C',Q v m' C'->Q' v m' C'):W S A Qg L E t m C Q' :=
 .mk2 λz9 z8 R=>h.run R λv m' C' z9 R' q=>⟨m',C',R',hQ v m' C' q⟩
theorem bR.get {s:Shared} (R:bR S Qg L m C F s) {a:Addr}{o:Obj} (h:C a=some o):s.heap.get? a=some o:=(R.r.N _ _ (aI h)).1
theorem bR.fr {s:Shared} (R:bR S Qg L m C F s):Fr Qg L s.heap m:=R.r.F
theorem bR.sub {s:Shared}{a_:Led} (R:bR S Qg L m C F s) (hC:∀ a o,a_ a=some o->C a=some o):bR S Qg L m a_ F s:=by
 refine ⟨⟨R.r.F,λa o e=>R.r.N a o ?_,R.r.g,R.r.o⟩,λa=>?_⟩
 ·unfold join at e;cases q:a_ a with
  | none=>rw [q] at e; exact aT R.d e
  | some x=>rw [q] at e; replace e:=Option.some.inj e; replace e:=Eq.symm e; subst e; exact aI (hC _ _ q)
 ·cases q:a_ a with
  | none=>exact .inl rfl
  | some x=>exact .inr ((R.d a).resolve_left λe=>by exact bo e (hC _ _ q))
theorem W.shrink {α:Type}{t:Sem α}{Q:α->Loc->Led->Prop} (h:W S A Qg L E t m C λv m' C'=>∃ a_,(∀ a o,a_ a=some o->C' a=some o)∧Q v m' a_):W S A Qg L E t m C Q :=
 .mk2 λz9 z8 R=>h.run R λ_ _ _ _ ⟨F',le,tb,R'⟩ ⟨a_,hC,q⟩=>⟨_,a_,⟨F',le,tb,R'.sub hC⟩,q⟩
variable {env:Env}{n:Nat}
theorem Gd.in1 (G:Gd S (n+1) A Qg L env):Gd S n A.in1 Qg L env:=by
 walk_at "bh";obtain ⟨X,T,hk,d,u,hh,a,b,c⟩:=G;walk_at "ch";exact ⟨X,T,hk,by show A.depth+2 * n < _; exact Nat.le_of_lt (Nat.le_of_lt d),by show A.units+1+8 * n < _; exact Nat.lt_of_lt_of_le (by walk_at "A") (Qf u),hh,a,b,c⟩
theorem Gd.le {n':Nat} (G:Gd S n A Qg L env) (h:n'≤n):Gd S n' A Qg L env:=by
 walk_at "bh";obtain ⟨X,T,hk,d,u,hh,a,b,c⟩:=G;walk_at "ch";exact ⟨X,T,hk,by exact Nat.lt_of_not_le λq=>Ql (Qa (Qf d) (Qa q (Qa h h))),by exact Nat.lt_of_not_le λq=>Ql (Qa (Qf u) (Qa q (Qa h (Qa h (Qa h (Qa h (Qa h (Qa h (Qa h h))))))))),hh,a,b,c⟩
theorem Gd.down (G:Gd S (n+1) A Qg L env):Gd S n A Qg L env:=G.le (Nat.le_succ n)
theorem ya (C:Led) (k:Nat):∃ l:List (Addr×Obj),∀ a o,(a,o)∈l↔(a < k∧C a=some o):=by
 induction k with
 | zero=>exact ⟨[],λa o=>Iff.intro (λh=>by cases h) (λh=>absurd h.1 (Nat.not_lt_zero _))⟩
 | succ k ih =>
  refine aQ ih λl hl=>?_; clear ih
  cases e:C k with
  | none =>
   refine ⟨l,λa o=>?_⟩;rw [hl];constructor
   ·rintro ⟨h1,h2⟩; exact ⟨Nat.lt_succ_of_lt h1,h2⟩
   ·rintro ⟨h1,h2⟩;refine ⟨?_,h2⟩;rcases Nat.lt_succ_iff_lt_or_eq.mp h1 with h | h
    ·exact h
    ·subst h; exact bo e h2
  | some x =>
   refine ⟨(k,x)::l,λa o=>?_⟩;refine ae (propext List.mem_cons) ?_; rw [hl];constructor
   ·rintro (h | ⟨h1,h2⟩)
    ·refine aS (Prod.mk.inj h) λkE j0=>?_; clear h; replace kE:=Eq.symm kE; subst kE; replace j0:=Eq.symm j0; subst j0; exact ⟨Nat.lt_succ_self _,e⟩
    ·exact ⟨Nat.lt_succ_of_lt h1,h2⟩
   ·rintro ⟨h1,h2⟩;rcases Nat.lt_succ_iff_lt_or_eq.mp h1 with h | h
    ·exact .inr ⟨h,h2⟩
    ·subst h; replace h2:=eG e h2; subst h2; exact .inl rfl
theorem bR.list {s:Shared} (R:bR S Qg L m C F s):∃ l:List (Addr×Obj),News Qg L s.heap l∧∀ a o,join C F a=some o->(a,o)∈l:=by
 refine aQ (ya (join C F) s.heap.objs.size) λl hl=>?_;exact ⟨l,λp hp=>R.r.N p.1 p.2 ((hl p.1 p.2).mp hp).2,λa o e=>(hl a o).mpr ⟨Heap.lt_size (R.r.N a o e).1,e⟩⟩
theorem bR.fresh_size {s:Shared} (R:bR S Qg L m C F s) {a:Addr} (h:s.heap.objs.size≤a):C a=none∧F a=none:=by
 apply join_none;cases e:join C F a with
 | none=>rfl
 | some o=>exact absurd (Heap.lt_size (R.r.N _ _ e).1) (Nat.not_lt.mpr h)
theorem bR.fresh_of {s:Shared} (R:bR S Qg L m C F s) {l:List (Addr×Obj)} (hl:∀ a o,join C F a=some o->(a,o)∈l) {a:Addr} (lt:∀ p∈l,p.1 < a):C a=none∧F a=none:=by
 apply join_none;cases e:join C F a with
 | none=>rfl
 | some o=>exact absurd (lt _ (hl _ _ e)) (Nat.lt_irrefl _)
theorem bR.push {s:Shared} (R:bR S Qg L m C F s) (o:Obj) (hf:autoParam (o.isFreed=false) aR) :
  bR S Qg L m (upd C s.heap.objs.size o) F { s with heap:=s.heap.push o }:=by
 refine ⟨?_,R.d.upd_new o (R.fresh_size (Nat.le_refl _)).2⟩;rw [bJ];refine ⟨R.fr.push o,λa x e=>?_,R.r.g,R.r.o⟩;refine cz R.fr.ns λoL z9 z8 hL z7=>?_;by_cases h:a=s.heap.objs.size
 ·subst h;replace e:=eG (af ..) e; subst e;refine ⟨Heap.get?_push_size _ hf,Nat.ne_of_gt (Heap.lt_size hL),?_⟩;cases hq:Qg.get? s.heap.objs.size with
  | none=>rfl
  | some o'=>exact absurd (Heap.lt_size (R.fr.keep _ _ hq)) (Nat.lt_irrefl _)
 ·rw [ag _ _ h] at e;have z:=R.r.N a x e;exact ⟨Heap.get?_push_of_some _ z.1,z.2⟩
theorem bR.of_new {s:Shared} (R:bR S Qg L m C F s) {h':Heap}{m':Loc}{a:Addr}{o:Obj}{l:List (Addr×Obj)} (hl:∀ a o,join C F a=some o->(a,o)∈l)
  (F':Fr Qg L h' m') (N':News Qg L h' ((a,o)::l)) (hn:F a=none) {tk:Nat}:bR S Qg L m' (upd C a o) F { s with heap:=h',toks:=tk }:=by
 refine ⟨?_,R.d.upd_new o hn⟩;rw [bJ];refine ⟨F',λb x e=>?_,R.r.g,R.r.o⟩;by_cases h:b=a
 ·subst h; replace e:=eG (af ..) e; subst e; exact N' _ (.head _)
 ·rw [ag _ _ h] at e; exact N' _ (.tail _ (hl _ _ e))
theorem bR.of_same {s:Shared} (R:bR S Qg L m C F s) {h':Heap}{m':Loc}{l:List (Addr×Obj)} (hl:∀ a o,join C F a=some o->(a,o)∈l)
  (F':Fr Qg L h' m') (N':News Qg L h' l) {tk:Nat}:bR S Qg L m' C F { s with heap:=h',toks:=tk } :=
 ⟨⟨F',λb x e=>N' _ (hl _ _ e),R.r.g,R.r.o⟩,R.d⟩
theorem bR.tok {s:Shared} (R:bR S Qg L m C F s) {tk:Nat}:bR S Qg L m C F { s with toks:=tk }:=⟨⟨R.r.F,R.r.N,R.r.g,R.r.o⟩,R.d⟩
theorem bR.keeps {s:Shared} (R:bR S Qg L m C F s) {h':Heap}{m':Loc} (F':Fr Qg L h' m') (hk:∀ a o,join C F a=some o->h'.get? a=some o) {tk:Nat}:bR S Qg L m' C F { s with heap:=h',toks:=tk } :=
 ⟨⟨F',λb x e=>⟨hk _ _ e,(R.r.N _ _ e).2⟩,R.r.g,R.r.o⟩,R.d⟩
theorem Rel.list {s:Shared} (R:Rel S Qg L m C F s):∃ l:List (Addr×Obj),News Qg L s.heap l∧∀ a o,C a=some o->(a,o)∈l:=by
 obtain ⟨F',le,tb,r⟩:=R;refine aF r.list λl N hl=>?_;exact ⟨l,N,λa o e=>hl a o (aI e)⟩
theorem Rel.tok {s:Shared} (R:Rel S Qg L m C F s) {tk:Nat}:Rel S Qg L m C F { s with toks:=tk }:=let ⟨F',le,tb,r⟩:=R; ⟨F',le,tb,r.tok⟩
theorem bR.pick {s:Shared} (R:bR S Qg L m C F s) {a:Addr}{o:Obj} (ha:C a=some o) :
  ∃ l:List (Addr×Obj),News Qg L s.heap ((a,o)::l)∧(∀ p∈l,p.1≠a)∧(∀ b x,join C F b=some x->b≠a->(b,x)∈l):=by
 refine aF R.list λl hN hl=>?_;refine ⟨l.filter (λp=>decide (p.1≠a)),λp hp=>?_,λp hp=>?_,λb x e h=>?_⟩
 ·rcases List.mem_cons.mp hp with rfl | hp
  ·exact R.r.N _ _ (aI ha)
  ·exact hN p (List.mem_filter.mp hp).1
 ·simpa using (List.mem_filter.mp hp).2
 ·exact List.mem_filter.mpr ⟨hl _ _ e,by simpa using h⟩
theorem bR.of_pick {s:Shared} (R:bR S Qg L m C F s) {h':Heap}{m':Loc}{a:Addr}{o o':Obj} (ha:C a=some o) {l:List (Addr×Obj)} (hl:∀ b x,join C F b=some x->b≠a->(b,x)∈l)
  (F':Fr Qg L h' m') (N':News Qg L h' ((a,o')::l)) {tk:Nat}:bR S Qg L m' (upd C a o') F { s with heap:=h',toks:=tk }:=by
 refine ⟨?_,R.d.upd_own o' ha⟩;rw [bJ];refine ⟨F',λb x e=>?_,R.r.g,R.r.o⟩;by_cases h:b=a
 ·subst h; replace e:=eG (af ..) e; subst e; exact N' _ (.head _)
 ·rw [ag _ _ h] at e; exact N' _ (.tail _ (hl _ _ e h))
theorem bR.hideAt {s:Shared}{a:Addr}{o:Obj} (R:bR S Qg L m (upd C a o) F s) (hn:C a=none) (hF:F a=none):bR S Qg L m C (upd F a o) s:=by
 have e:join C (upd F a o)=join (upd C a o) F:=by
  funext b;unfold join upd;by_cases h:b=a
  ·subst h; simp [hn]
  ·simp [h]
 refine ⟨e▸R.r,λb=>?_⟩;by_cases h:b=a
 ·subst h; exact .inl hn
 ·refine ae (ag _ _ h) ?_;have:=R.d b;rwa [ag _ _ h] at this
theorem bR.ground {s:Shared} (R:bR S Qg L m C F s):∃ g:Heap,g.objs.size=s.heap.objs.size∧(∀ b o,g.get? b=some o->s.heap.get? b=some o)∧(∀ b o,Qg.get? b=some o->g.get? b=some o) ∧
  Fr Qg L g m∧(∀ a o,join C F a=some o->g.get? a=none) ∧
  ∀ {L':Addr}{m':Loc}{C' F':Led}{s':Shared},bR S g L' m' C' F' s'->bR S Qg L m C' F' s':=by
 refine aF R.list λl N hl=>?_;have nm:∀ b o,Qg.get? b=some o->b ∉ l.map (·.1):=λb o e q=>by
  refine aF (List.mem_map.mp q) λp hp ak=>?_; subst ak
  exact bo ((N p hp).2.2) e
 have st:∀ b o,Qg.get? b=some o->(hideAll s.heap (l.map (·.1))).get? b=some o:=λb o e=>hideAll_get _ (R.fr.keep b o e) (nm b o e)
 refine gX R.fr.ns λoL es ep hL Xf Nr Xe=>?_;have nL:L ∉ l.map (·.1):=λq=>by
  refine aF (List.mem_map.mp q) λp hp e=>?_;exact (N p hp).2.1 e
 have jJ:=hideAll_get (l.map (·.1)) hL nL;refine ⟨hideAll s.heap (l.map (·.1)),hideAll_size _ _,λb o e=>of_hideAll _ e,st,⟨⟨oL,es,ep,jJ,Xf,Nr,Xe⟩,st,R.fr.above⟩,λa o e=>hideAll_none _ (List.mem_map_of_mem (hl a o e)),?_⟩;intro L' m' C' F' s' R';refine ⟨⟨⟨⟨oL,es,ep,R'.fr.keep L oL jJ,Xf,Nr,Xe⟩,λb o e=>R'.fr.keep b o (st b o e),R.fr.above⟩,λa o e=>?_,R'.r.g,R'.r.o⟩,R'.d⟩;refine bw (R'.r.N a o e) λz1 z2 z3=>?_;refine ⟨z1,λq=>?_,?_⟩
 ·rw [q] at z3; exact bo z3 jJ
 ·cases q:Qg.get? a with
  | none=>rfl
  | some x=>exact bo z3 (st _ _ q)
end
noncomputable def p9 (m:Loc) (x:Str) (v:Value):Loc:=λy=>if y=x then some v else m y
section
variable {S:Setup}{A:Around}{Qg:Heap}{L:Addr}{E:Value->Shared->Prop}{m:Loc}{C:Led}{env:Env}{n:Nat}
theorem cB {c:Prop} [Decidable c] {a b:Prop} (h:c->a) (h':¬ c->b):if c then a else b:=by
 by_cases q:c
 ·exact ae (if_pos q) (h q)
 ·exact ae (if_neg q) (h' q)
theorem cq {c:Prop} [Decidable c] {a b:Prop} (q:c) (h:a):if c then a else b:=by exact ae (if_pos q) h
theorem bN {c:Prop} [Decidable c] {a b:Prop} (q:¬ c) (h:b):if c then a else b:=by exact ae (if_neg q) h
noncomputable def gf (f:Flow):Value:=match f with | .ret v=>v | _=>.none
structure pV (R:Value->Led->Prop) (Q:Flow->Loc->Led->Prop):Prop where
 h:∀ fl m C,R (gf fl) C->Q fl m C
theorem pV.refl (R:Value->Led->Prop):pV R λfl z9 C=>R (gf fl) C:=⟨λz9 z8 z7 h=>h⟩
theorem BH {R:Value->Led->Prop}{Q:Flow->Loc->Led->Prop}{fl:Flow}{m:Loc}{C:Led} (p:pV R Q) (h:R (gf fl) C):Q fl m C:=p.h fl m C h
structure wb (I J:Loc->Led->Prop):Prop where
 h:∀ m C,I m C->J m C
theorem wb.refl (I:Loc->Led->Prop):wb I I:=⟨λz9 z8 h=>h⟩
theorem EY {I J:Loc->Led->Prop}{m:Loc}{C:Led} (p:wb I J) (h:I m C):J m C:=p.h m C h
structure NQ (I J:List Value->Led->Prop):Prop where
 h:∀ o C,I o C->J o C
theorem NQ.refl (I:List Value->Led->Prop):NQ I I:=⟨λz9 z8 h=>h⟩
theorem nG {I J:List Value->Led->Prop}{o:List Value}{C:Led} (p:NQ I J) (h:I o C):J o C:=p.h o C h
structure Mon {α:Type} (P Q:α->Loc->Led->Prop):Prop where
 h:∀ v m C,P v m C->Q v m C
theorem E2 {α:Type}{P Q:α->Loc->Led->Prop}{v:α}{m:Loc}{C:Led} (p:Mon P Q) (h:P v m C):Q v m C:=p.h v m C h
theorem W.mid {α:Type}{t:Sem α}{Q:α->Loc->Led->Prop} (P:α->Loc->Led->Prop) (h:∀ Q',Mon P Q'->W S A Qg L E t m C Q') (hQ:∀ v m' C',P v m' C'->Q v m' C'):W S A Qg L E t m C Q :=
 (h P ⟨λz9 z8 z7 h=>h⟩).mono hQ
variable (S A Qg L E) in
@[reducible] noncomputable def Bd {α β:Type} (f:α->Sem β) (Q:β->Loc->Led->Prop):α->Loc->Led->Prop:=λv m C=>W S A Qg L E (f v) m C Q
variable (S A Qg L E) in
@[reducible] noncomputable def pZ {α β:Type} (f:α->Sem β) (Q:α->β->Loc->Led->Prop):α->Loc->Led->Prop:=λv m C=>W S A Qg L E (f v) m C (Q v)
@[reducible] noncomputable def Mp {α β:Type} (g:α->β) (Q:β->Loc->Led->Prop):α->Loc->Led->Prop:=λv m C=>Q (g v) m C
theorem mN {α β:Type}{g:α->β}{Q:β->Loc->Led->Prop}{v:α} (h:Q (g v) m C):Mp g Q v m C:=h
variable (S A Qg L E) in
@[reducible] noncomputable def Br {β:Type} (t u:Sem β) (Q:β->Loc->Led->Prop):Bool->Loc->Led->Prop:=λb m C=>if b then W S A Qg L E t m C Q else W S A Qg L E u m C Q
variable (S A Qg L E) in
@[reducible] noncomputable def Uq {β:Type} (t:Sem β) (v:β) (Q:β->Loc->Led->Prop):Bool->Loc->Led->Prop:=λb m C=>if b then W S A Qg L E t m C Q else Q v m C
variable (S A Qg L E) in
@[reducible] noncomputable def BrE {β:Type} (v:β) (t:Sem β) (Q:β->Loc->Led->Prop):Bool->Loc->Led->Prop:=λb m C=>if b then Q v m C else W S A Qg L E t m C Q
theorem mI {Q:Flow->Loc->Led->Prop} (h:Q .next m C):W S A Qg L E (execs [] env) m C Q:=.mk λz9 z8 R=>wpAny_execs_nil ⟨m,C,R,h⟩
noncomputable def nC (S:Setup) (A:Around) (Qg:Heap) (L:Addr) (E:Value->Shared->Prop) (rest:List Stmt) (env:Env) (Q:Flow->Loc->Led->Prop) (f:Flow) (m:Loc) (C:Led):Prop :=
 match f with | .next=>W S A Qg L E (execs rest env) m C Q | f=>Q f m C
theorem jo {rest:List Stmt}{Q:Flow->Loc->Led->Prop} (h:W S A Qg L E (execs rest env) m C Q):nC S A Qg L E rest env Q .next m C:=h
theorem nV {Q:Flow->Loc->Led->Prop} (h:Q .next m C):nC S A Qg L E [] env Q .next m C:=.mk λF s R=>wpAny_execs_nil ⟨m,C,R,h⟩
theorem A9 {rest:List Stmt}{v:Value}{Q:Flow->Loc->Led->Prop} (h:Q (.ret v) m C):nC S A Qg L E rest env Q (.ret v) m C:=h
theorem yN {rest:List Stmt}{Q:Flow->Loc->Led->Prop} (h:Q .cont m C):nC S A Qg L E rest env Q .cont m C:=h
theorem bq {st:Stmt}{rest:List Stmt}{Q:Flow->Loc->Led->Prop}
  (h:W S A Qg L E (exec st env) m C (nC S A Qg L E rest env Q)) :
  W S A Qg L E (execs (st::rest) env) m C Q:=.mk2 λF s R=>by
 refine wpAny_execs_cons (h.run R λf m' C' s' R' q=>?_);cases f <;> first | exact W.go q F s' R' | exact ⟨m',C',R',q⟩
theorem PC {test:Expr}{body orelse:List Stmt}{pos:Pos}{Q:Flow->Loc->Led->Prop}
  (h:W S A Qg L E (isTrue test env (eval test env)) m C (Br S A Qg L E (execs body env) (execs orelse env) Q)) :
  W S A Qg L E (exec (.If test body orelse pos) env) m C Q:=.mk2 λF s R=>by
 refine wpAny_If (h.run R λb m' C' s' R' q=>?_);cases b <;> exact W.go q F s' R'
theorem BE {e:Expr}{pos:Pos}{Q:Flow->Loc->Led->Prop} (h:W S A Qg L E (eval e env) m C (Mp Flow.ret Q)) :
  W S A Qg L E (exec (.Return (some e) pos) env) m C Q:=.mk2 λF s R=>wpAny_Return_some (h.run R λz9 z8 z7 z6 R' q=>⟨_,_,R',q⟩)
theorem wL {pos:Pos}{Q:Flow->Loc->Led->Prop} (h:Q .cont m C):W S A Qg L E (exec (.Continue pos) env) m C Q:=.mk λF s R=>wpAny_Continue ⟨m,C,R,h⟩
theorem H8 {e:Expr}{pos:Pos}{Q:Flow->Loc->Led->Prop} (h:W S A Qg L E (eval e env) m C (Mp (λz9=>Flow.next) Q))
  (hi:autoParam (interactive env=false) aU) (hs:autoParam (swapsWith e none pos.line env=Pure.pure false) aU) :
  W S A Qg L E (exec (.Expr e pos) env) m C Q:=.mk2 λF s R=>wpAny_Expr_any (h.run R λz9 z8 z7 z6 R' q=>⟨_,_,R',q⟩) hi hs
theorem ie {x:Str}{pos' pos:Pos}{value:Expr}{Q:Flow->Loc->Led->Prop}
  (h:W S A Qg L E (eval value env) m C (Bd S A Qg L E (storeName env x) (Mp (λz9=>Flow.next) Q)))
  (hs:autoParam (swapsWith value (some (.Name x pos')) pos.line env=Pure.pure false) aU) :
  W S A Qg L E (exec (.Assign [.Name x pos'] value pos) env) m C Q:=.mk2 λF s R =>
 wpAny_Assign_Name (h.run R λz9 z8 z7 s' R' q=>q.run R' λz9 z8 z7 z6 dR q'=>⟨_,_,dR,q'⟩) hs
theorem sj {o:Expr}{attr:Str}{pos' pos:Pos}{value:Expr}{Q:Flow->Loc->Led->Prop}
  (h:W S A Qg L E (eval value env) m C (pZ S A Qg L E (λv=>eval o env) λv=>(Bd S A Qg L E (λov=>setAttr ov attr v) (Mp (λz9=>Flow.next) Q))))
  (hs:autoParam (swapsWith value (some (.Attribute o attr pos')) pos.line env=Pure.pure false) aU) :
  W S A Qg L E (exec (.Assign [.Attribute o attr pos'] value pos) env) m C Q:=.mk2 λF s R =>
 plainObj_wpAny_Assign_Attribute (h.run R λz9 z8 z7 s' R' q=>q.run R' λz9 z8 z7 z6 dR q'=>q'.run dR λz9 z8 z7 z6 R3 q3=>⟨_,_,R3,q3⟩) hs
theorem uU {o i:Expr}{pos' pos:Pos}{value:Expr}{Q:Flow->Loc->Led->Prop}
  (h:W S A Qg L E (eval value env) m C (pZ S A Qg L E (λv=>eval o env) λv=>(pZ S A Qg L E (λov=>eval i env) λov=>(Bd S A Qg L E (λiv=>setItem ov iv v) (Mp (λz9=>Flow.next) Q)))))
  (hs:autoParam (swapsWith value (some (.Subscript o i pos')) pos.line env=Pure.pure false) aU) :
  W S A Qg L E (exec (.Assign [.Subscript o i pos'] value pos) env) m C Q:=.mk2 λF s R =>
 wpAny_Assign_Subscript (h.run R λz9 z8 z7 s' R' q=>q.run R' λz9 z8 z7 z6 dR q'=>q'.run dR λz9 z8 z7 z6 R3 q3=>q3.run R3 λz9 z8 z7 z6 R4 q4=>⟨_,_,R4,q4⟩) hs
theorem BF {o i value:Expr}{p8 pos:Pos}{op:Operator}{Q:Flow->Loc->Led->Prop}
  (h:W S A Qg L E (eval o env) m C (pZ S A Qg L E (λov=>eval i env) λov=>(pZ S A Qg L E (getItem ov) λiv=>(pZ S A Qg L E (λold=>eval value env) λold=>(Bd S A Qg L E (inplaceOp op old) (Bd S A Qg L E (setItem ov iv) (Mp (λz9=>Flow.next) Q)))))))
  (hi:∀ ov iv new,augStore i ov iv new=(do holding [new,ov,iv] (setItem ov iv new); release [new,ov,iv] []; Pure.pure .next):=by intros; rfl) :
  W S A Qg L E (exec (.AugAssign (.Subscript o i p8) op value pos) env) m C Q:=.mk2 λF s R =>
 wpAny_AugAssign_SubscriptAny (h.run R λz9 z8 z7 s' R' q=>q.run R' λz9 z8 z7 z6 dR q'=>q'.run dR λz9 z8 z7 z6 R3 q3=>q3.run R3 λz9 z8 z7 z6 R4 q4 =>
  q4.run R4 λz9 z8 z7 z6 R5 q5=>q5.run R5 λz9 z8 z7 z6 R6 q6=>⟨_,_,R6,q6⟩) hi
theorem cJ {test:Expr}{msg:Option Expr}{pos:Pos}{Q:Flow->Loc->Led->Prop}
  (h:W S A Qg L E (isTrue test env (eval test env)) m C λb m C=>b=true∧Q .next m C) :
  W S A Qg L E (exec (.Assert test msg pos) env) m C Q:=.mk2 λF s R=>wpAny_Assert_holds (h.run R λz9 z8 z7 z6 R' q=>⟨q.1,_,_,R',q.2⟩)
theorem cy {x:Str}{pos:Pos}{v:Value}{Q:Value->Loc->Led->Prop} (G:Gd S n A Qg L env) (hv:m x=some v) (h:Q v m C)
  (hx:autoParam (env.kindOf x=some .local) aR) (hd:autoParam ((x == ("__debug__":Str))=false) aD):W S A Qg L E (eval (.Name x pos) env) m C Q:=.mk λF s R =>
 wpAny_Name (wpAny_loadName_local G.hk hx (G.hloc▸R.fr.ns) hv ⟨m,C,R,h⟩) hd
theorem jR {x:Str}{pos:Pos}{v:Value}{Q:Value->Loc->Led->Prop} (G:Gd S n A Qg L env) (hv:nsIn S.K mainGlobals x=some (some v)) (h:Q v m C)
  (hx:autoParam (env.kindOf x=some .globalImplicit) aR) (hd:autoParam ((x == ("__debug__":Str))=false) aD):W S A Qg L E (eval (.Name x pos) env) m C Q:=.mk λF s R =>
 Name_function_global G.hk hx (loadGlobal_global (G.hgl.symm▸G.T.g.keeps R.fr.keep) (mg_of G.X G.T.g hv) ⟨m,C,R,h⟩) hd
theorem oB {x:Str}{pos:Pos}{v:Value}{Q:Value->Loc->Led->Prop} (G:Gd S n A Qg L env) (hv:nsIn S.K mainGlobals x=some none) (hb:bootBuiltins x=some v) (h:Q v m C)
  (hx:autoParam (env.kindOf x=some .globalImplicit) aR) (hn:autoParam (x≠"__name__") aD) (hd:autoParam ((x == ("__debug__":Str))=false) aD):W S A Qg L E (eval (.Name x pos) env) m C Q:=.mk λF s R =>
 Name_function_global G.hk hx (loadGlobal_builtin (G.hgl.symm▸G.T.g.keeps R.fr.keep) (mg_none_of G.X G.T.g hv) (G.hbi.symm▸G.T.b.keeps R.fr.keep) ((G.T.builtins x hn).trans hb) ⟨m,C,R,h⟩) hd
theorem mG {x:Str}{pos:Pos}{c:Addr}{o:Obj}{v:Value}{Q:Value->Loc->Led->Prop} (G:Gd S n A Qg L env) (hc:env.cells.lookup x=some c) (ho:C c=some o) (hd:o.data=.cell (some v)) (h:Q v m C)
  (hx:autoParam (env.kindOf x=some .cell) aR) (hb:autoParam ((x == ("__debug__":Str))=false) aD):W S A Qg L E (eval (.Name x pos) env) m C Q:=.mk λF s R =>
 wpAny_Name (wpAny_loadName_cell G.hk hx hc ⟨o,R.get ho,hd⟩ ⟨m,C,R,h⟩) hb
theorem uK {x:Str}{pos:Pos}{c:Addr}{o:Obj}{v:Value}{Q:Value->Loc->Led->Prop} (G:Gd S n A Qg L env) (hc:env.cells.lookup x=some c) (ho:C c=some o) (hd:o.data=.cell (some v)) (h:Q v m C)
  (hx:autoParam (env.kindOf x=some .free) aR) (hb:autoParam ((x == ("__debug__":Str))=false) aD) (hn:autoParam ((x == ("__classdict__":Str))=false) aD):W S A Qg L E (eval (.Name x pos) env) m C Q:=.mk λF s R =>
 wpAny_Name (wpAny_loadName_free G.hk hx hc ⟨o,R.get ho,hd⟩ ⟨m,C,R,h⟩ hn) hb
theorem gL {x:Str}{v:Value}{Q:Unit->Loc->Led->Prop} (G:Gd S n A Qg L env) (h:Q () (p9 m x v) C)
  (hx:autoParam (env.kindOf x=some .local) aR):W S A Qg L E (storeName env x v) m C Q:=.mk λF s R=>by
 refine wpAny_storeName_local hx (G.hloc▸R.fr.ns) (λh' hn hs=>?_) (by refine ae G.hk ?_; rfl);rw [G.hloc] at hn hs;exact ⟨_,_,R.keeps (R.fr.set hn hs) λa o e=>(hs.2 a (R.r.N _ _ e).2.1).trans (R.r.N _ _ e).1,h⟩
theorem Lk {i:Int}{k:Nat}{pos:Pos}{Q:Value->Loc->Led->Prop} (h:∀ t,Q (.int i t) m C):W S A Qg L E (eval (.Constant (.int i) k pos) env) m C Q:=.mk λF s R =>
 wpAny_Constant_int ⟨m,C,R.tok,h _⟩
theorem H4 {k:Nat}{pos:Pos}{Q:Value->Loc->Led->Prop} (h:Q .none m C):W S A Qg L E (eval (.Constant .none k pos) env) m C Q:=.mk λF s R=>wpAny_Constant_none ⟨m,C,R,h⟩
theorem EP {b:Bool}{k:Nat}{pos:Pos}{Q:Value->Loc->Led->Prop} (h:Q (.bool b) m C):W S A Qg L E (eval (.Constant (.bool b) k pos) env) m C Q:=.mk λF s R=>wpAny_Constant_bool ⟨m,C,R,h⟩
theorem jQ {b:Bool}{Q:Bool->Loc->Led->Prop} (h:Q b m C):W S A Qg L E (truthy (.bool b)) m C Q:=.mk λF s R=>wpAny_truthy_bool ⟨m,C,R,h⟩
theorem oC {e:Expr}{whole:Sem Value}{Q:Bool->Loc->Led->Prop} (h:W S A Qg L E whole m C (Bd S A Qg L E truthy Q))
  (he:autoParam (isTrue e env whole=(do let v ← whole; standAt e.pos; holding [v] (truthy v))) aU):W S A Qg L E (isTrue e env whole) m C Q:=.mk2 λF s R =>
 PyProof.Rows.isTrue_plain (h.run R λz9 z8 z7 s' R' q=>W.go q F s' R') he
theorem r8 {x:Expr}{pos:Pos}{whole:Sem Value}{Q:Bool->Loc->Led->Prop} (h:W S A Qg L E (isTrue x env (eval x env)) m C (Mp not Q)) :
  W S A Qg L E (isTrue (.UnaryOp .Not x pos) env whole) m C Q:=.mk2 λF s R=>PyProof.Rows.isTrue_not (h.run R λz9 z8 z7 z6 R' q=>⟨_,_,R',q⟩)
theorem kR {l r:Expr}{op:CmpOp}{pos:Pos}{whole:Sem Value}{Q:Bool->Loc->Led->Prop}
  (h:W S A Qg L E (eval l env) m C (pZ S A Qg L E (λa=>eval r env) λa=>(Bd S A Qg L E (compareOp op a) (Bd S A Qg L E truthy Q))))
  (hm:autoParam (behindInMarks op r=false) aU):W S A Qg L E (isTrue (.Compare l [op] [r] pos) env whole) m C Q:=.mk2 λF s R =>
 wpAny_isTrue_Compare1 (h.run R λz9 z8 z7 z6 R' q=>q.run R' λz9 z8 z7 z6 dR q'=>q'.run dR λz9 z8 z7 z6 R3 q3=>W.go q3 F _ R3) hm
theorem ni {op:BoolOp}{values:List Expr}{pos:Pos}{whole:Sem Value}{Q:Bool->Loc->Led->Prop} (h:W S A Qg L E (allTrue op values env) m C Q) :
  W S A Qg L E (isTrue (.BoolOp op values pos) env whole) m C Q:=.mk2 λF s R=>wpAny_isTrue_BoolOp (W.go h F s R)
theorem Bu {Q:Bool->Loc->Led->Prop} (h:Q false m C):W S A Qg L E (allTrue .Or [] env) m C Q:=.mk λF s R=>wpAny_allTrue_Or_nil ⟨m,C,R,h⟩
theorem wK {x:Expr}{rest:List Expr}{Q:Bool->Loc->Led->Prop}
  (h:W S A Qg L E (isTrue x env (eval x env)) m C (Uq S A Qg L E (allTrue .And rest env) false Q)) :
  W S A Qg L E (allTrue .And (x::rest) env) m C Q:=.mk2 λF s R=>wpAny_allTrue_And_cons (h.run R λb m' C' s' R' q=>by cases b <;> first | exact W.go q F s' R' | exact ⟨m',C',R',q⟩)
theorem zf {x:Expr}{rest:List Expr}{Q:Bool->Loc->Led->Prop}
  (h:W S A Qg L E (isTrue x env (eval x env)) m C (BrE S A Qg L E true (allTrue .Or rest env) Q)) :
  W S A Qg L E (allTrue .Or (x::rest) env) m C Q:=.mk2 λF s R=>wpAny_allTrue_Or_cons (h.run R λb m' C' s' R' q=>by cases b <;> first | exact W.go q F s' R' | exact ⟨m',C',R',q⟩)
theorem oD {l p_ lW:Expr}{jS iZ:CmpOp}{ops:List CmpOp}{rs:List Expr}{pos:Pos}{whole:Sem Value}{Q:Bool->Loc->Led->Prop}
  (h:W S A Qg L E (eval l env) m C (Bd S A Qg L E (λa=>testChain pos a (jS::iZ::ops) (eval p_ env::eval lW env::evalEach rs env)) Q))
  (hm:autoParam (lastMarks (jS::iZ::ops) (p_::lW::rs)=false) aU) :
  W S A Qg L E (isTrue (.Compare l (jS::iZ::ops) (p_::lW::rs) pos) env whole) m C Q:=.mk2 λF s R =>
 PyProof.Rows.isTrue_chain (h.run R λz9 z8 z7 s' R' q=>W.go q F s' R') hm
theorem fM {pos:Pos}{a:Value}{op:CmpOp}{r:Sem Value}{Q:Bool->Loc->Led->Prop}
  (h:W S A Qg L E r m C (Bd S A Qg L E (compareOp op a) (Bd S A Qg L E truthy Q))):W S A Qg L E (testChain pos a [op] [r]) m C Q:=.mk2 λF s R=>by
 show wpAny _ _ (do let rv ← holding [a] r; standAt pos; let c ← operate [a,rv] (compareOp op a rv); holding [c] (truthy c)) _ _ _;refine wpAny_bind (wpAny_holding (h.run R λb Qi a_ aC bQ q=>wpAny_bind (wpAny_standAt (wpAny_bind ?_))));refine λΓ p qt=>?_;rw [Sem.wp_operate]
 exact (q.run (Q':=λc s'=>wpAny (model S.prog S.w) A (holding [c] (truthy c)) (AH S Qg L F Q) E s') bQ λc Qh uc cG d_ jB=>wpAny_holding (W.go jB F cG d_)) Γ p qt
theorem fi {pos:Pos}{a:Value}{op PL:CmpOp}{ops:List CmpOp}{r:Sem Value}{rs:List (Sem Value)}{Q:Bool->Loc->Led->Prop}
  (h:W S A Qg L E r m C (pZ S A Qg L E (compareOp op a) λb=>(Bd S A Qg L E truthy (Uq S A Qg L E (testChain pos b (PL::ops) rs) false Q)))) :
  W S A Qg L E (testChain pos a (op::PL::ops) (r::rs)) m C Q:=.mk2 λF s R=>by
 show wpAny _ _ (do
  let rv ← holding [a] r
  standAt pos
  let c ← holding [a,rv] (compareOp op a rv)
  release [a,rv] [c]
  if ← holding [c,rv] (truthy c) then testChain pos rv (PL::ops) rs else Pure.pure false) _ _ _
 refine wpAny_bind (wpAny_holding (h.run R λb Qi a_ aC bQ q=>?_));refine wpAny_bind (wpAny_standAt (wpAny_bind (wpAny_holding (q.run bQ λc Qh uc cG d_ jB=>?_))));refine wpAny_bind (wpAny_release (wpAny_bind (wpAny_holding (jB.run d_ λt PU J_ kM di EU=>?_))));cases t
 ·exact wpAny_pure ⟨_,_,di,EU⟩
 ·exact W.go EU F kM di
theorem wM {l r:Expr}{op:CmpOp}{pos:Pos}{Q:Value->Loc->Led->Prop}
  (h:W S A Qg L E (eval l env) m C (pZ S A Qg L E (λa=>eval r env) λa=>(Bd S A Qg L E (compareOp op a) Q)))
  (hm:autoParam (behindInMarks op r=false) aU):W S A Qg L E (eval (.Compare l [op] [r] pos) env) m C Q:=.mk2 λF s R =>
 wpAny_Compare1 (h.run R λz9 z8 z7 z6 R' q=>q.run R' λz9 z8 z7 z6 dR q'=>W.go q' F _ dR) hm
theorem ET {l r:Expr}{op:Operator}{pos:Pos}{Q:Value->Loc->Led->Prop}
  (h:W S A Qg L E (eval l env) m C (pZ S A Qg L E (λa=>eval r env) λa=>(Bd S A Qg L E (binaryOp op a) Q))) :
  W S A Qg L E (eval (.BinOp l op r pos) env) m C Q:=.mk2 λF s R=>wpAny_BinOp (h.run R λz9 z8 z7 z6 R' q=>q.run R' λz9 z8 z7 z6 dR q'=>W.go q' F _ dR)
theorem zp {x:Expr}{op:UnaryOp}{pos:Pos}{Q:Value->Loc->Led->Prop}
  (h:W S A Qg L E (eval x env) m C (Bd S A Qg L E (unaryOp op) Q)) :
  W S A Qg L E (eval (.UnaryOp op x pos) env) m C Q:=.mk2 λF s R=>wpAny_UnaryOp (h.run R λz9 z8 z7 z6 R' q=>W.go q F _ R')
theorem ES {test body orelse:Expr}{pos:Pos}{Q:Value->Loc->Led->Prop}
  (h:W S A Qg L E (isTrue test env (eval test env)) m C (Br S A Qg L E (eval body env) (eval orelse env) Q)) :
  W S A Qg L E (eval (.IfExp test body orelse pos) env) m C Q:=.mk2 λF s R=>wpAny_IfExp (h.run R λb z9 z8 z7 R' q=>by cases b <;> exact W.go q F _ R')
theorem mK {value:Expr}{attr:Str}{pos:Pos}{Q:Value->Loc->Led->Prop}
  (h:W S A Qg L E (eval value env) m C (Bd S A Qg L E (λo=>getAttr o attr true) Q))
  (he:autoParam (eval (.Attribute value attr pos) env=(do
   let o ← eval value env
   standAt pos.atName
   let r ← holding [o] (getAttr o attr true)
   letTemporaryGo value o r
   Pure.pure r)) aU) :
  W S A Qg L E (eval (.Attribute value attr pos) env) m C Q:=.mk2 λF s R=>Attribute_any_ (h.run R λz9 z8 z7 z6 R' q=>W.go q F _ R') he
theorem uS {value slice:Expr}{pos:Pos}{Q:Value->Loc->Led->Prop}
  (h:W S A Qg L E (eval value env) m C (pZ S A Qg L E (λo=>eval slice env) λo=>(Bd S A Qg L E (subscriptTail value slice o) Q))) :
  W S A Qg L E (eval (.Subscript value slice pos) env) m C Q:=.mk2 λF s R=>Subscript_ (h.run R λz9 z8 z7 z6 R' q=>q.run R' λz9 z8 z7 z6 dR q'=>W.go q' F _ dR)
theorem ER {elts:List Expr}{k:Nat}{pos:Pos}{Q:Value->Loc->Led->Prop}
  (h:W S A Qg L E (spliced (backTo pos (starEach elts env))) m C (Bd S A Qg L E newTuple Q)):W S A Qg L E (eval (.Tuple elts k pos) env) m C Q:=.mk2 λF s R =>
 PyProof.Rows.Tuple_ (h.run R λz9 z8 z7 z6 R' q=>W.go q F _ R')
theorem H7 {elts:List Expr}{pos:Pos}{Q:Value->Loc->Led->Prop}
  (h:W S A Qg L E (spliced (backTo pos (starEach elts env))) m C (Bd S A Qg L E newList Q)):W S A Qg L E (eval (.List elts pos) env) m C Q:=.mk2 λF s R =>
 PyProof.Rows.List_ (h.run R λz9 z8 z7 z6 R' q=>W.go q F _ R')
theorem qf {Q:List Value->Loc->Led->Prop} (h:Q [] m C):W S A Qg L E (spliced []) m C Q:=.mk λF s R=>Calls.spliced_nil ⟨m,C,R,h⟩
theorem oh {x:Sem Value}{rest:List (Bool×Sem Value)}{Q:List Value->Loc->Led->Prop}
  (h:W S A Qg L E x m C (pZ S A Qg L E (λv=>spliced rest) λv=>(Mp (List.cons v) Q))):W S A Qg L E (spliced ((false,x)::rest)) m C Q:=.mk2 λF s R =>
 Calls.spliced_cons (h.run R λz9 z8 z7 z6 R' q=>q.run R' λz9 z8 z7 z6 dR q'=>⟨_,_,dR,q'⟩)
theorem Lm {a b:Int}{t u:Tok}{Q:Value->Loc->Led->Prop} (h:∀ t,Q (.int (a+b) t) m C):W S A Qg L E (binaryOp .Add (.int a t) (.int b u)) m C Q:=.mk λF s R=>add_int ⟨m,C,R.tok,h _⟩
theorem Le {a b:Int}{t u:Tok}{Q:Value->Loc->Led->Prop} (h:∀ t,Q (.int (a - b) t) m C):W S A Qg L E (binaryOp .Sub (.int a t) (.int b u)) m C Q:=.mk λF s R=>sub_int ⟨m,C,R.tok,h _⟩
theorem Px {a b:Int}{t u:Tok}{Q:Value->Loc->Led->Prop} (h:Q (.bool (decide (a < b))) m C):W S A Qg L E (compareOp .Lt (.int a t) (.int b u)) m C Q:=.mk λF s R=>lt_int ⟨m,C,R,h⟩
theorem Py {a b:Int}{t u:Tok}{Q:Value->Loc->Led->Prop} (h:Q (.bool (decide (a≤b))) m C):W S A Qg L E (compareOp .LtE (.int a t) (.int b u)) m C Q:=.mk λF s R=>le_int ⟨m,C,R,h⟩
theorem Pz {a b:Int}{t u:Tok}{Q:Value->Loc->Led->Prop} (h:Q (.bool (decide (b < a))) m C):W S A Qg L E (compareOp .Gt (.int a t) (.int b u)) m C Q:=.mk λF s R=>gt_int ⟨m,C,R,h⟩
theorem PA {a b:Int}{t u:Tok}{Q:Value->Loc->Led->Prop} (h:Q (.bool (decide (b≤a))) m C):W S A Qg L E (compareOp .GtE (.int a t) (.int b u)) m C Q:=.mk λF s R=>ge_int ⟨m,C,R,h⟩
theorem PB {a b:Int}{t u:Tok}{Q:Value->Loc->Led->Prop} (h:Q (.bool (a == b)) m C):W S A Qg L E (compareOp .Eq (.int a t) (.int b u)) m C Q:=.mk λF s R=>eq_int ⟨m,C,R,h⟩
theorem Pw {a b:Int}{t u:Tok}{Q:Value->Loc->Led->Prop} (h:Q (.bool (a != b)) m C):W S A Qg L E (compareOp .NotEq (.int a t) (.int b u)) m C Q:=.mk λF s R=>ne_int ⟨m,C,R,h⟩
end
noncomputable def keyOf (e:DictEntry):Option Str:=match e.key with | .str s _=>some s | _=>none
noncomputable def dk (o:Obj) (fs:List (Str×Value)):Prop:=∃ es n,o=dictOf es n∧es.map (λe=>(keyOf e,e.val))=fs.map (λp=>(some p.1,p.2))
noncomputable def EI (name:Str) (v:Value):List (Str×Value)->List (Str×Value)
 | []=>[(name,v)]
 | p::r=>if p.1 == name then (p.1,v)::r else p::EI name v r
theorem l_ {e:DictEntry}{s:Str} (h:keyOf e=some s) (name:Str):e.key.isStr name=(s == name)∧e.refKey=false:=by
 walk_at "bh";obtain ⟨hs,k,v⟩:=e;walk_at "ch";unfold keyOf at h;cases k <;> simp only [Option.some.injEq,reduceCtorEq] at h;subst h;exact ⟨rfl,rfl⟩
theorem tO {es:List DictEntry}{fs:List (Str×Value)} (h:es.map (λe=>(keyOf e,e.val))=fs.map (λp=>(some p.1,p.2))) (name:Str):getL name es=some (fs.lookup name):=by
 have q:es.any (·.refKey)=false∧(es.find? (·.key.isStr name)).map (·.val)=fs.lookup name:=by
  induction es generalizing fs with
  | nil=>cases fs with
   | nil=>exact ⟨rfl,rfl⟩
   | cons _ _=>injection h
  | cons e es ih=>cases fs with
   | nil=>injection h
   | cons p fs =>
    obtain ⟨pn,pv⟩:=p;simp only [List.map_cons,List.cons.injEq,Prod.mk.injEq] at h;refine aS h λak h3=>?_; clear h; obtain ⟨h1,h2⟩:=ak
    refine aS (ih h3) λa b=>?_;refine aS (l_ h1 name) λk1 k2=>?_
    refine ⟨by refine ae List.any_cons (ae k2 (ae a ?_)); rfl,?_⟩;refine ae List.find?_cons (ae k1 (ae List.lookup_cons ?_));have sym:(name == pn)=(pn == name):=by
     by_cases z:pn=name
     ·subst z; rfl
     ·exact ae (beq_eq_false_iff_ne.mpr z) (ae (beq_eq_false_iff_ne.mpr (Ne.symm z)) rfl)
    refine ae sym ?_;cases pn == name with
    | true=>simp [h2]
    | false=>exact b
 unfold getL;cases f:es.find? (·.key.isStr name) with
 | some e=>rw [f] at q; rw [← q.2]; rfl
 | none=>rw [f] at q; rw [← q.2,q.1]; rfl
theorem EV {es:List DictEntry}{fs:List (Str×Value)} (h:es.map (λe=>(keyOf e,e.val))=fs.map (λp=>(some p.1,p.2))) (name:Str) (hs:Int) (t:Tok) (v:Value) :
  (putL name hs (.str name t) v es).map (λe=>(keyOf e,e.val))=(EI name v fs).map (λp=>(some p.1,p.2)):=by
 induction es generalizing fs with
 | nil=>cases fs with
  | nil=>rfl
  | cons _ _=>injection h
 | cons e es ih=>cases fs with
  | nil=>injection h
  | cons p fs =>
   obtain ⟨pn,pv⟩:=p;simp only [List.map_cons,List.cons.injEq,Prod.mk.injEq] at h;refine aS h λak h3=>?_; clear h; obtain ⟨h1,h2⟩:=ak
   refine aS (l_ h1 name) λk1 k2=>?_;unfold putL EI
   refine ae k1 ?_;dsimp only;cases pn == name with
   | true=>simp only [if_true,List.map_cons,h3]; rw [show keyOf ⟨e.hash,e.key,v⟩=keyOf e from rfl,h1]
   | false=>simp only [Bool.false_eq_true,if_false,List.map_cons,ih h3,h1,h2]
theorem BG {es:List DictEntry} (name:Str) (hs:Int) (k v:Value):(putL name hs k v es).length≤es.length+1:=by
 induction es with
 | nil=>exact Nat.le_refl _
 | cons e es ih =>
  unfold putL;split
  ·exact Nat.le_succ _
  ·simp only [List.length_cons]; exact Nat.lt_of_le_of_lt ih (Nat.le_refl (es.length+1).succ)
noncomputable def fT (K:Frag) (c:Addr) (name:Str):Bool:=plainGet K c name && hasDictIn K c && (findIn K (.ref c) name).any λa=>noGet K a
noncomputable def setOk (K:Frag) (c:Addr) (name:Str):Bool:=findIn K (.ref c) "__setattr__" == some (some (.builtin "object.__setattr__")) && plainOver K c && takerIn K c name == some none && hasDictIn K c
noncomputable def bI (K:Frag) (c:Addr) (name:Str) (f:Addr):Bool:=plainGet K c name && findIn K (.ref c) name == some (some (.ref f)) && isFn K (.ref f)
noncomputable def bM (K:Frag) (c:Addr) (name:Str) (f:Addr):Bool:=findIn K (.ref c) name == some (some (.ref f)) && isFn K (.ref f)
noncomputable def CW (S:Setup) (A:Around) (Qg:Heap) (L:Addr) (E:Value->Shared->Prop) (c:Code) (m:Loc) (C:Led) (Q:Value->Loc->Led->Prop):Prop :=
 ∀ F s,Rel S Qg L m C F s->codeAny (model S.prog S.w) A c (λr s'=>match r with | .ok (.ret v)=>AH S Qg L F Q v s' | .ok _=>False | .error e=>E e s') s
noncomputable def Spec (S:Setup) (n:Nat) (f:Value) (args:List Value) (kw:List (Str×Value)) (C:Led) (R:Value->Led->Prop):Prop :=
 ∀ A Qg L E env m,Gd S n A Qg L env->CW S A Qg L E (.call f ⟨args,kw⟩) m C λv m' C'=>m'=m∧R v C'
section
variable {S:Setup}{A:Around}{Qg:Heap}{L:Addr}{E:Value->Shared->Prop}{m:Loc}{C:Led}{env:Env}{n:Nat}
theorem Spec.mono {f:Value}{args:List Value}{kw:List (Str×Value)}{R R':Value->Led->Prop} (h:Spec S n f args kw C R) (hR:∀ v C',R v C'->R' v C'):Spec S n f args kw C R' :=
 λA Qg L E env m G F s r=>codeAny_mono (h A Qg L E env m G F s r) λr s' z=>by
  rcases r with e | (_ | _ | _ | v) <;> first | exact z | exact z.elim | skip
  walk_at "bh";obtain ⟨m',C',a,b,c⟩:=z;walk_at "ch";exact ⟨m',C',a,b,hR v C' c⟩
theorem Spec.le {n':Nat}{f:Value}{args:List Value}{kw:List (Str×Value)}{R:Value->Led->Prop} (h:Spec S n f args kw C R) (hn:n≤n'):Spec S n' f args kw C R :=
 λA Qg L E env m G=>h A Qg L E env m (G.le hn)
theorem sf {f:Value}{args:List Value}{kw:List (Str×Value)}{R:Value->Led->Prop}{Q:Value->Loc->Led->Prop} (G:Gd S n A Qg L env) (sp:Spec S n f args kw C R)
  (h:∀ v C',R v C'->Q v m C'):W S A Qg L E (call f args kw) m C Q:=.mk2 λF s R =>
 wpAny_call (codeAny_mono (sp A Qg L E env m G F s R) λr s' z=>by
  rcases r with e | (_ | _ | _ | v) <;> first | exact z | exact z.elim | skip
  walk_at "bh";obtain ⟨m',C',a,rfl,c⟩:=z;walk_at "ch";exact ⟨m',C',a,h v C' c⟩)
theorem eS {f v:Value}{args:List Value}{kw:List (Str×Value)}{k:Nat}{Q:Value->Loc->Led->Prop} (G:Gd S n A Qg L env) (sp:Spec S k f args kw C λr C'=>r=v∧C'=C)
  (h:Q v m C) (hn:autoParam (k≤n) aO):W S A Qg L E (call f args kw) m C Q :=
 sf G (sp.le hn) λ_ _ ⟨e,e'⟩=>by refine ae e (ae e' ?_); exact h
theorem aE {f:Value}{args:List Value}{kw:List (Str×Value)}{k:Nat}{R:Value->Led->Prop}{Q:Value->Loc->Led->Prop} (G:Gd S n A Qg L env) (sp:Spec S k f args kw C R)
  (h:∀ v C',R v C'->Q v m C') (hn:autoParam (k≤n) aO):W S A Qg L E (call f args kw) m C Q:=sf G (sp.le hn) h
theorem Be {name qual:Str}{params:Arguments}{body:List Stmt}{scope:Scope}{dV kV doc pm eN ct oc:Value}{an od:Option Addr}{xY:Array (Option Value)}{f:Addr}{args:List Value}{kw:List (Str×Value)}
  {binds:List (Str×Value)}{R:Value->Led->Prop}
  (ho:S.K.lookup f=some ⟨oc,od,.func (fnOf name qual params body scope dV kV doc pm an eN ct),xY⟩) (iJ:codeIn S.K eN qual=true)
  (gm:∀ s,S.K.In s.heap->BindsTo s (fnOf name qual params body scope dV kV doc pm an eN ct) ⟨args,kw⟩ binds) (hloc:∀ y∈binds,scope.names.lookup y.1=some .local)
  (h:∀ A Qg L E,Gd S n A Qg L (envOf qual scope L f eN) →
   W S A Qg L E (execs body (envOf qual scope L f eN)) (λy=>binds.reverse.lookup y) C λfl z9 C'=>R (gf fl) C')
  (cF:∀ x∈scope.names,x.2≠.cell) (rh:scope.isCoroutine=false) (pz:scope.isGenerator=false) (hk:scope.kind=.function) :
  Spec S (n+1) (.ref f) args kw C R:=by
 intro A Qg L E env m G Fo s nc;obtain ⟨T,tb,dj,r⟩:=nc;refine aQ (⟨_,rfl⟩:∃ F,F=join Fo T) λF hF=>?_;rw [← hF] at r
 refine cW r.ground λg jw nO en Fg tK back=>?_;have gi:A.depth < recursionLimit:=by have:=G.d; exact Nat.lt_of_lt_of_le (by walk_at "A") (Qf this)
 refine codeAny_call_def (fd:=fnOf name qual params body scope dV kV doc pm an eN ct) (body:=body) (binds:=binds) gi ((G.X.keeps r.fr.keep) _ _ ho) rfl (G.T.nolimit.keeps r.fr.keep) (codeRec_of (G.X.keeps r.fr.keep) iJ) rfl
  (gm s (G.X.keeps r.fr.keep)) cF hloc (λek vA gF=>?_) rh pz hk
 have G':Gd S n (A.deeper (envOf qual scope s.heap.objs.size f eN)) g s.heap.objs.size (envOf qual scope s.heap.objs.size f eN):=by
  refine ⟨G.X.keeps en,G.T.keeps en,hk,?_,?_,G.hh,rfl,rfl,rfl⟩
  ·show A.depth+1+2 * n < _;have:=G.d; exact Nat.lt_of_lt_of_le (by walk_at "A") (Qf this)
  ·show A.units+3+8 * n < _;have:=G.u; exact Nat.lt_of_lt_of_le (by walk_at "A") (Qf this)
 have bQ:bR S g s.heap.objs.size (λy=>binds.reverse.lookup y) C F { s with heap:=ek,toks:=s.toks+binds.length } :=
  ⟨⟨⟨vA,λb o e=>gF b o (nO b o e),Qc jw⟩,λa o e=>⟨gF _ _ (r.r.N a o e).1,Nat.ne_of_lt (Heap.lt_size (r.r.N a o e).1),tK a o e⟩,r.r.g,r.r.o⟩,r.d⟩
 refine wpAny_mono ((h _ g _ _ G').go Fo _ (bR.rel (hF▸bQ) tb dj)) (λfl s' z=>?_) λz9 z8 z=>z
 walk_at "bh";obtain ⟨m',C',r',q⟩:=z;walk_at "ch";exact ⟨m,C',r'.back back,rfl,q⟩
noncomputable def plainDef (K:Frag) (scope:Scope) (eN:Value) (qual:Str) (names:List Str):Bool :=
 codeIn K eN qual && names.all (λy=>scope.names.lookup y == some .local) && scope.names.all (λx=>x.2 != .cell) && !scope.isCoroutine && !scope.isGenerator && scope.kind == .function
theorem ax {name qual:Str}{params:Arguments}{body:List Stmt}{scope:Scope}{dV kV doc pm eN ct oc:Value}{an od:Option Addr}{xY:Array (Option Value)}{f:Addr}{args:List Value}{kw:List (Str×Value)}
  {binds:List (Str×Value)}{R:Value->Led->Prop}
  (ho:S.K.lookup f=some ⟨oc,od,.func (fnOf name qual params body scope dV kV doc pm an eN ct),xY⟩)
  (gm:∀ s,S.K.In s.heap->BindsTo s (fnOf name qual params body scope dV kV doc pm an eN ct) ⟨args,kw⟩ binds) (hp:plainDef S.K scope eN qual (binds.map (·.1))=true)
  (h:∀ A Qg L E,Gd S n A Qg L (envOf qual scope L f eN) →
   ∀ Q,pV R Q->W S A Qg L E (execs body (envOf qual scope L f eN)) (λy=>binds.reverse.lookup y) C Q) :
  Spec S (n+1) (.ref f) args kw C R:=by
 simp only [plainDef,Bool.and_eq_true,Bool.not_eq_true',List.all_eq_true,beq_iff_eq,bne_iff_ne,ne_eq] at hp;refine aS hp λak h6=>?_; clear hp; obtain ⟨⟨⟨⟨h1,h2⟩,h3⟩,h4⟩,h5⟩:=ak
 exact Be ho h1 gm (λy hy=>h2 _ (List.mem_map_of_mem hy)) (λA Qg L E G=>h A Qg L E G _ (pV.refl R)) h3 h4 h5 h6
theorem iS {c fI:Addr}{args:List Value}{kw:List (Str×Value)}{R:Value->Led->Prop} (hm:makesIn S.K c=true) (hi:bM S.K c "__init__" fI=true)
  (h:∀ x dx,C x=none->C dx=none->x≠dx->Spec S n (.ref fI) (.ref x::args) kw (upd (upd C dx (dictOf [] 0)) x (instObj c dx)) λv C'=>v=.none∧R (.ref x) C') :
  Spec S (n+1) (.ref c) args kw C R:=by
 intro A Qg L E env m G Fo s nc;obtain ⟨T,tb,dj,r⟩:=nc;refine aQ (⟨_,rfl⟩:∃ F,F=join Fo T) λF hF=>?_;rw [← hF] at r
 refine aF r.list λl N hl=>?_;simp only [bM,Bool.and_eq_true,beq_iff_eq,isFn] at hi
 refine make_K r.fr N (G.X.keeps r.fr.keep) hm hi.1 hi.2 λx dx h' F' N' l1 l2=>?_;have fr:∀ y,dx≤y->C y=none∧F y=none:=λy hy=>r.fresh_of (l:=l) hl λp hp=>Nat.lt_of_lt_of_le (l1 p hp) hy
 have G':Gd S n (A.under (.builtin "type.__call__" ⟨.ref c::args,kw⟩)) Qg L env:=by
  walk_at "bh";obtain ⟨X,T,hk,d,u,hh,a,b,e⟩:=G;walk_at "ch";refine ⟨X,T,hk,?_,?_,hh,a,b,e⟩
  ·show A.depth+1+2 * n < _;exact Nat.lt_of_lt_of_le (by walk_at "A") (Qf d)
  ·show A.units+(Code.builtin "type.__call__" ⟨.ref c::args,kw⟩).cUnits+8 * n < _;have:(Code.builtin "type.__call__" ⟨.ref c::args,kw⟩).cUnits=1:=rfl;exact Nat.lt_of_not_le λq=>Ql (Qa (Qf u) (Qa (Qc this) q))
 have R':bR S Qg L m (upd (upd C dx (dictOf [] 0)) x (instObj c dx)) F { s with heap:=h' }:=by
  refine ⟨?_,(r.d.upd_new _ (fr dx (Nat.le_refl _)).2).upd_new _ (fr x (Nat.le_of_lt l2)).2⟩;rw [bJ,bJ];refine ⟨F',λa o e=>?_,r.r.g,r.r.o⟩;by_cases q:a=x
  ·subst q; replace e:=eG (af ..) e; subst e; exact N' _ (.head _)
  ·rw [ag _ _ q] at e;by_cases q':a=dx
   ·subst q'; replace e:=eG (af ..) e; subst e; exact N' _ (.tail _ (.head _))
   ·rw [ag _ _ q'] at e; exact N' _ (.tail _ (.tail _ (hl _ _ e)))
 refine codeAny_mono (h x dx (fr x (Nat.le_of_lt l2)).1 (fr dx (Nat.le_refl _)).1 (Nat.ne_of_gt l2) _ Qg L E env m G' Fo _ (bR.rel (hF▸R') tb dj)) λrr s' z=>?_;rcases rr with e | (_ | _ | _ | v) <;> first | exact z | exact z.elim | skip
 walk_at "bh";obtain ⟨m',C',a,b,c',d⟩:=z;walk_at "ch";exact ⟨c',m',C',a,b,d⟩
theorem nJ {s:Shared}{F:Led}{x dx c:Addr}{od:Obj} (R:bR S Qg L m C F s) (hx:C x=some (instObj c dx)) (hd:C dx=some od):InstAt s.heap x (instObj c dx) c (some od) :=
 ⟨R.get hx,rfl,rfl,R.get hd⟩
theorem ew {s:Shared}{F:Led}{x dx c:Addr}{od:Obj} (R:Rel S Qg L m C F s) (hx:C x=some (instObj c dx)) (hd:C dx=some od):InstAt s.heap x (instObj c dx) c (some od) :=
 ⟨R.get hx,rfl,rfl,R.get hd⟩
theorem dA {x dx c:Addr}{od:Obj}{fs:List (Str×Value)}{name:Str}{v:Value}{expr:Bool}{Q:Value->Loc->Led->Prop} (G:Gd S n A Qg L env) (hx:C x=some (instObj c dx)) (hd:C dx=some od) (hf:dk od fs)
  (hk:fT S.K c name=true) (hl:fs.lookup name=some v) (hv:handedIn v=true) (h:Q v m C):W S A Qg L E (getAttr (.ref x) name expr) m C Q:=.mk λF s R=>by
 refine bg hf λes ne ak he=>?_; clear hf; subst ak
 simp only [fT,Bool.and_eq_true] at hk;refine aS hk λak k3=>?_; clear hk; obtain ⟨k1,k2⟩:=ak
 refine aF (any_some k3) λattr k4 k5=>?_;exact get_own R.fr G.X (nJ R hx hd) k1 k2 k4 k5 (ae (tO he _) (ae hl rfl)) hv ⟨m,C,R.tok,h⟩
theorem eK {x dx c:Addr}{od:Obj}{fs:List (Str×Value)}{name:Str}{v:Value}{Q:Unit->Loc->Led->Prop} (G:Gd S n A Qg L env) (hx:C x=some (instObj c dx)) (hd:C dx=some od) (hf:dk od fs)
  (hk:setOk S.K c name=true) (hz:fs.length≤900) (h:∀ jT,dk jT (EI name v fs)->Q () m (upd C dx jT)):W S A Qg L E (setAttr (.ref x) name v) m C Q:=.mk λF s R=>by
 refine bg hf λes ne ak he=>?_; clear hf; subst ak
 simp only [setOk,Bool.and_eq_true,beq_iff_eq] at hk;refine aS hk λak k4=>?_; clear hk; obtain ⟨⟨k1,k2⟩,k3⟩:=ak
 refine bF (R.pick hd) λl N a hl=>?_;have hlen:es.length=fs.length:=by have:=congrArg List.length he; simpa using this
 refine set_dict R.fr G.X N (nJ R hx hd) rfl k1 k2 k3 k4 (by refine ae (tO he _) ?_; rfl) rfl (Upd.head a) (by have:=BG (es:=es) name (PyData.keyHash S.w.params name) (.str name (s.toks+1)) v; exact Qd λq=>Ql (Qa hz (Qa (Qc hlen) (Qa this q)))) λh' F' N'=>?_;exact ⟨m,_,R.of_pick hd hl F' N',h _ ⟨_,_,rfl,EV he name _ _ v⟩⟩
theorem fH {x dx c f:Addr}{od:Obj}{fs:List (Str×Value)}{name:Str}{pl:Sem Bool}{Q:Value×List Value->Loc->Led->Prop} (G:Gd S n A Qg L env) (hx:C x=some (instObj c dx)) (hd:C dx=some od) (hf:dk od fs)
  (hk:bI S.K c name f=true) (hl:fs.lookup name=none) (h:Q (.ref f,[.ref x]) m C):W S A Qg L E (getMethod (.ref x) name pl) m C Q:=.mk λF s R=>by
 refine bg hf λes ne ak he=>?_; clear hf; subst ak
 simp only [bI,Bool.and_eq_true,beq_iff_eq] at hk;exact method_inst R.fr G.X (nJ R hx hd) hk.1.1 hk.1.2 hk.2 (ae (tO he _) (ae hl rfl)) ⟨m,C,R,h⟩
theorem oN {x:Str}{np pos:Pos}{args:List Expr}{qr:List Keyword}{Q:Value->Loc->Led->Prop}
  (h:W S A Qg L E (eval (.Name x np) env) m C (Bd S A Qg L E (λf=>callWith pos f [] (backTo pos (starEach args env)) (backToKw pos (keywordEach qr env))) Q)) :
  W S A Qg L E (eval (.Call (.Name x np) args qr pos) env) m C Q:=.mk2 λF s R=>wpAny_Call_ofName (h.run R λz9 z8 z7 z6 R' q=>W.go q F _ R')
theorem kh {o:Expr}{name:Str}{apos pos:Pos}{args:List Expr}{qr:List Keyword}{pl:Sem Bool}{Q:Value->Loc->Led->Prop}
  (h:W S A Qg L E (eval o env) m C (Bd S A Qg L E (λov=>getMethod ov name pl) (Bd S A Qg L E (λfx=>callWith pos fx.1 fx.2 (backTo pos (starEach args env)) (backToKw pos (keywordEach qr env))) Q)))
  (he:autoParam (eval (.Call (.Attribute o name apos) args qr pos) env=(do
   let ov ← eval o env
   standAt apos.atName
   let (f,first) ← holding [ov] (getMethod ov name pl)
   callWith pos f first (backTo pos (starEach args env)) (backToKw pos (keywordEach qr env)))) aU) :
  W S A Qg L E (eval (.Call (.Attribute o name apos) args qr pos) env) m C Q:=.mk2 λF s R =>
 methodCall_KW (h.run R λz9 z8 z7 z6 R' q=>q.run R' λz9 z8 z7 z6 dR q'=>W.go q' F _ dR) he
theorem kg {f:Value}{first:List Value}{e:Expr}{rest:List Expr}{pos:Pos}{Q:Value->Loc->Led->Prop} (G:Gd S n A Qg L env) (hk:keepIn S.K f=true)
  (h:W S A Qg L E (spliced (backTo pos (starEach (e::rest) env))) m C (Bd S A Qg L E (λvs=>call f (first++vs)) Q))
  (he:autoParam (starEach (e::rest) env=(false,eval e env)::starEach rest env) aR) (eC:autoParam ((backTo pos (starEach rest env)).any (·.1)=false) aR) :
  W S A Qg L E (callWith pos f first (backTo pos (starEach (e::rest) env)) []) m C Q:=.mk2 λF s R =>
 callWith_K G.X hk (h.run R λz9 z8 z7 s' R' q=>⟨G.X.keeps R'.fr.keep,W.go q F _ R'⟩) he eC
theorem mJ {f:Value}{first:List Value}{pos:Pos}{Q:Value->Loc->Led->Prop} (G:Gd S n A Qg L env) (hk:keepIn S.K f=true)
  (h:W S A Qg L E (call f (first++[])) m C Q):W S A Qg L E (callWith pos f first (backTo pos (starEach [] env)) []) m C Q:=.mk2 λF s R =>
 callWith_K0 (G.X.keeps R.fr.keep) hk (W.go h F s R)
theorem qc {x dx c f:Addr}{od:Obj}{R:Value->Led->Prop}{Q:Bool->Loc->Led->Prop} (G:Gd S n A Qg L env) (hx:C x=some (instObj c dx)) (hd:C dx=some od) (hk:bM S.K c "__bool__" f=true)
  (sp:Spec S n (.ref f) [.ref x] [] C λv C'=>∃ b,v=.bool b∧R (.bool b) C') (h:∀ b C',R (.bool b) C'->Q b m C'):W S A Qg L E (truthy (.ref x)) m C Q:=.mk2 λF s r=>by
 simp only [bM,Bool.and_eq_true,beq_iff_eq] at hk;refine truthy_K r.fr G.X (ew r hx hd) hk.1 hk.2 (((sf (Q:=λv m' C'=>∃ b,v=.bool b∧Q b m' C') G sp λv C' ⟨b,e,z⟩=>⟨b,e,h b C' z⟩).go F s r) |> λz=>wpAny_mono z (λv s' ⟨m',C',R',b,e,q⟩=>?_) λz9 z8 y=>y);subst e;exact ⟨m',C',R',q⟩
theorem rQ {x dx c:Addr}{od:Obj}{Q:Bool->Loc->Led->Prop} (G:Gd S n A Qg L env) (hx:C x=some (instObj c dx)) (hd:C dx=some od) (hk:findIn S.K (.ref c) "__bool__"=some none) (hl:findIn S.K (.ref c) "__len__"=some none)
  (h:Q true m C):W S A Qg L E (truthy (.ref x)) m C Q:=.mk λF s r=>truthy_K0 r.fr G.X (nJ r hx hd) hk hl ⟨m,C,r,h⟩
theorem jO {Q:Bool->Loc->Led->Prop} (h:Q false m C):W S A Qg L E (truthy .none) m C Q:=.mk λF s r=>wpAny_pure ⟨m,C,r,h⟩
theorem bH {vs:List Value}{Q:Value->Loc->Led->Prop} (h:∀ l,C l=none->Q (.ref l) m (upd C l (listOf vs.toArray 0))) (jw:vs.length≤sizeLine:=by size_fits):W S A Qg L E (newList vs) m C Q:=.mk λF s r=>by
 refine aF r.list λl N hl=>?_;refine newList_K r.fr N (λa h' F' N' lt=>?_) jw
 have fr:=r.fresh_of hl lt;exact ⟨m,_,r.of_new hl F' N' fr.2 (tk:=s.toks),h a fr.1⟩
noncomputable abbrev bU (vs:List Value) (n:Nat:=0):Obj:={ cls:=.type "tuple",data:=.seq vs.toArray n }
theorem cg {vs:List Value}{Q:Value->Loc->Led->Prop} (h:∀ l,C l=none->Q (.ref l) m (upd C l (bU vs))) (jw:vs.length≤sizeLine:=by size_fits):W S A Qg L E (newTuple vs) m C Q:=.mk λF s r =>
 wpAny_newObj_type ⟨m,_,r.push _,h _ (r.fresh_size (Nat.le_refl _)).1⟩ (by show vs.toArray.size≤sizeLine; exact ae List.size_toArray jw)
end
noncomputable abbrev lit (l:Addr) (i:Nat):Obj:={ cls:=.type "list_iterator",data:=.fields #[.ref l,.int i 0] }
noncomputable def cN (C:Led) (l:Addr) (vs:List Value):Prop:=∃ k,C l=some (listOf vs.toArray k)
section
variable {S:Setup}{A:Around}{Qg:Heap}{L:Addr}{E:Value->Shared->Prop}{m:Loc}{C F:Led}{env:Env}{n:Nat}
theorem bR.isList {s:Shared}{l:Addr}{vs:List Value} (R:bR S Qg L m C F s) (h:cN C l vs):s.heap.IsList l vs.toArray:=by
 refine aQ h λk hk=>?_; clear h
 exact ⟨_,R.get hk,rfl,k,rfl⟩
theorem bR.hid_change {s:Shared}{a:Addr}{o o':Obj}{h':Heap} (R:bR S Qg L m C (upd F a o) s) (hs:Heap.SameBut a s.heap h') (ho:h'.get? a=some o'):bR S Qg L m C (upd F a o') { s with heap:=h' }:=by
 have hC:C a=none:=(R.d a).resolve_right λe=>by exact bo e (af ..)
 have ha:=R.r.N a o (aT R.d (af F a o));have key:∀ b x,join C (upd F a o') b=some x->b=a∧x=o'∨b≠a∧join C (upd F a o) b=some x:=λb x e=>by
  by_cases q:b=a
  ·subst q;unfold join at e;rw [hC,af] at e;replace e:=Option.some.inj e; subst e; exact .inl ⟨rfl,rfl⟩
  ·refine .inr ⟨q,?_⟩;unfold join at e ⊢;rw [ag _ _ q] at e ⊢;exact e
 refine ⟨⟨⟨R.fr.ns.sameBut hs (Ne.symm ha.2.1),λb x e=>(hs.2 b λq=>?_).trans (R.fr.keep b x e),R.fr.above⟩,λb x e=>?_,R.r.g,R.r.o⟩,λb=>?_⟩
 ·subst q; exact bo ha.2.2 e
 ·rcases key b x e with ⟨rfl,rfl⟩ | ⟨q,e'⟩
  ·exact ⟨ho,ha.2⟩
  ·have z:=R.r.N b x e';exact ⟨(hs.2 b q).trans z.1,z.2⟩
 ·by_cases q:b=a
  ·subst q; exact .inl hC
  ·have:=R.d b;rw [ag _ _ q] at this ⊢;exact this
theorem bR.hid_drop {s:Shared}{a:Addr}{o:Obj}{h':Heap} (R:bR S Qg L m C (upd F a o) s) (hF:F a=none) (hs:Heap.ExtBut a s.heap h'):bR S Qg L m C F { s with heap:=h' }:=by
 have hC:C a=none:=(R.d a).resolve_right λe=>by exact bo e (af ..)
 have ha:=R.r.N a o (aT R.d (af F a o));have key:∀ b x,join C F b=some x->b≠a∧join C (upd F a o) b=some x:=λb x e=>by
  by_cases q:b=a
  ·subst q;unfold join at e;rw [hC,hF] at e;exact iO e
  ·refine ⟨q,?_⟩;unfold join at e ⊢;exact ae (ag _ _ q) e
 refine cz R.fr.ns λoL es ep hL r=>?_;refine ⟨⟨⟨⟨oL,es,ep,hs L oL (Ne.symm ha.2.1) hL,r⟩,λb x e=>hs b x (λq=>?_) (R.fr.keep b x e),R.fr.above⟩,λb x e=>?_,R.r.g,R.r.o⟩,λb=>?_⟩
 ·subst q; exact bo ha.2.2 e
 ·refine aS (key b x e) λq e'=>?_;have z:=R.r.N b x e'
  exact ⟨hs b x q z.1,z.2⟩
 ·by_cases q:b=a
  ·subst q; exact .inr hF
  ·have:=R.d b;rw [ag _ _ q] at this;exact this
theorem Rel.free {s:Shared}{a:Addr}{o:Obj} (R:Rel S Qg L m (upd C a o) F s):F a=none:=by
 obtain ⟨T,tb,dj,r⟩:=R;exact (join_none ((r.d a).resolve_left λe=>by exact bo e (af ..))).1
theorem Rel.hidOpen {s:Shared}{a:Addr}{o:Obj} (R:Rel S Qg L m C (upd F a o) s) (hF:F a=none):∃ T,t9 S T∧g_ F T∧T a=none∧join F T a=none∧bR S Qg L m C (upd (join F T) a o) s:=by
 obtain ⟨T,tb,dj,r⟩:=R;have n:T a=none:=(dj a).resolve_left λe=>by exact bo e (af ..)
 rw [bJ] at r;refine ⟨T,tb,λz=>?_,n,by unfold join; refine ae hF (ae n ?_); rfl,r⟩;by_cases q:z=a
 ·exact ae q (.inr n)
 ·have:=dj z; rwa [ag _ _ q] at this
theorem g_.drop {T:Led}{a:Addr}{o:Obj} (d:g_ (upd F a o) T) (hF:F a=none):g_ F T:=λz=>by
 by_cases q:z=a
 ·exact ae q (.inl hF)
 ·have:=d z; rwa [ag _ _ q] at this
theorem bR.hidClose {s:Shared}{T:Led}{a:Addr}{o:Obj} (r:bR S Qg L m C (upd (join F T) a o) s) (tb:t9 S T) (dj:g_ F T) (n:T a=none):Rel S Qg L m C (upd F a o) s :=
 ⟨T,tb,dj.upd_new o n,by rw [bJ]; exact r⟩
theorem Rel.hideAt {s:Shared}{a:Addr}{o:Obj} (R:Rel S Qg L m (upd C a o) F s) (hn:C a=none):Rel S Qg L m C (upd F a o) s:=by
 obtain ⟨T,tb,dj,r⟩:=R;have f:=(r.d a).resolve_left λe=>by exact bo e (af ..)
 exact (r.hideAt hn f).hidClose tb dj (join_none f).2
theorem Rel.hid_change {s:Shared}{a:Addr}{o o':Obj}{h':Heap} (R:Rel S Qg L m C (upd F a o) s) (hf:F a=none) (hs:Heap.SameBut a s.heap h') (ho:h'.get? a=some o'):Rel S Qg L m C (upd F a o') { s with heap:=h' }:=by
 refine bE (R.hidOpen hf) λT tb dj n n2 r=>?_;exact (r.hid_change hs ho).hidClose tb dj n
theorem Rel.hid_drop {s:Shared}{a:Addr}{o:Obj}{h':Heap} (R:Rel S Qg L m C (upd F a o) s) (hf:F a=none) (hs:Heap.ExtBut a s.heap h'):Rel S Qg L m C F { s with heap:=h' }:=by
 refine bE (R.hidOpen hf) λT tb dj n n2 r=>?_;exact ⟨T,tb,dj,r.hid_drop n2 hs⟩
theorem Rel.own {s:Shared}{a:Addr}{o:Obj} (R:Rel S Qg L m C (upd F a o) s) (hf:F a=none):C a=none:=by
 refine bE (R.hidOpen hf) λT tb dj n n2 r=>?_;exact (r.d a).resolve_right λe=>by exact bo e (af ..)
theorem Rel.hidN {s:Shared}{a:Addr}{o:Obj} (R:Rel S Qg L m C (upd F a o) s) (hf:F a=none):s.heap.get? a=some o∧a≠L∧Qg.get? a=none:=by
 refine bE (R.hidOpen hf) λT tb dj n n2 r=>?_;exact r.r.N _ _ (aT r.d (af _ _ _))
theorem Rel.isList {s:Shared}{l:Addr}{vs:List Value} (R:Rel S Qg L m C F s) (h:cN C l vs):s.heap.IsList l vs.toArray:=by
 obtain ⟨T,tb,dj,r⟩:=R;exact r.isList h
noncomputable def CF (S:Setup) (A:Around) (Qg:Heap) (L:Addr) (E:Value->Shared->Prop) (c:Code) (m:Loc) (C:Led) (Q:Flow->Loc->Led->Prop):Prop :=
 ∀ F s,Rel S Qg L m C F s->codeAny (model S.prog S.w) A c (λr s'=>match r with | .ok f=>AH S Qg L F Q f s' | .error e=>E e s') s
theorem Lo {target iter:Expr}{body orelse:List Stmt}{pos:Pos}{Q:Flow->Loc->Led->Prop}
  (h:W S A Qg L E (eval iter env) m C (Bd S A Qg L E pyIter (λit m C=>∀ E,CF S A Qg L E (.forLoop target it body orelse env) m C Q)))
  (hs:∀ x,foldedSetIterable iter env x=Pure.pure x:=by intro _; rfl) :
  W S A Qg L E (exec (.For target iter body orelse pos) env) m C Q:=.mk2 λF s R =>
 wpAny_For (h.run R λz9 z8 z7 z6 R' q=>q.run R' λz9 z8 z7 z6 dR q'=>q' _ F _ dR) hs
theorem bO {l:Addr}{vs:List Value}{Q:Value->Loc->Led->Prop} (hl:cN C l vs) (h:∀ a,C a=none->Q (.ref a) m (upd C a (lit l 0))):W S A Qg L E (pyIter (.ref l)) m C Q:=.mk λF s R =>
 wpAny_pyIter_list (R.isList hl) ⟨m,_,R.push _,h _ (R.fresh_size (Nat.le_refl _)).1⟩
theorem aW {x:Str}{pos:Pos}{v:Value}{Q:Unit->Loc->Led->Prop} (h:W S A Qg L E (storeName env x v) m C Q):W S A Qg L E (assign (.Name x pos) env v) m C Q:=.mk2 λF s R =>
 wpAny_assign_Name (W.go h F s R)
theorem gM {M:Model}{A:Around}{s:Shared}{target:Expr}{a l:Addr}{i:Nat}{v:Value}{Q:Unit->Shared->Prop}{E:Value->Shared->Prop} (hit:s.heap.IsListIter a l i) (h:Q () s):wpAny M A (letOwnedTupleGo target (.ref a) v) Q E s:=by
 refine bF hit λo ho hc hd=>?_; clear hit
 have key:∀ T:Addr,wpAny M A (do
   let o ← load a
   match o.cls,o.data with
   | .type n,.fields vs =>
    if ["enumerate","zip","dict_itemiterator","dict_reverseitemiterator","odict_iterator","itertools.zip_longest","itertools.pairwise"].contains n && vs[0]? == some (rawInt T) then
     rule "for.unpacks-the-owned-tuple"
     updateField a 0 .none
   | _,_=>Pure.pure ()) Q E s:=λT=>by
  refine wpAny_bind (wpAny_load ho ?_);refine ae hc (ae hd ?_);show wpAny _ A (if (["enumerate","zip","dict_itemiterator","dict_reverseitemiterator","odict_iterator","itertools.zip_longest","itertools.pairwise"].contains "list_iterator" && _)=true then _ else _) Q E s;rw [if_neg (by rw [show (["enumerate","zip","dict_itemiterator","dict_reverseitemiterator","odict_iterator","itertools.zip_longest","itertools.pairwise"].contains "list_iterator")=false from by decide,Bool.false_and]; decide)];exact wpAny_pure h
 cases target <;> first | exact wpAny_pure h | (cases v <;> first | exact wpAny_pure h | exact key _)
noncomputable def LQ (J:Loc->Led->Prop) (Q:Flow->Loc->Led->Prop) (f:Flow) (m:Loc) (C:Led):Prop:=match f with
 | .next | .cont=>J m C | .brk=>Q .next m C | .ret v=>Q (.ret v) m C
theorem E6 {J:Loc->Led->Prop}{Q:Flow->Loc->Led->Prop} (h:J m C):LQ J Q .next m C:=h
theorem E7 {J:Loc->Led->Prop}{Q:Flow->Loc->Led->Prop} (h:J m C):LQ J Q .cont m C:=h
theorem Il {J:Loc->Led->Prop}{Q:Flow->Loc->Led->Prop}{v:Value} (h:Q (.ret v) m C):LQ J Q (.ret v) m C:=h
theorem bX {target:Expr}{body orelse:List Stmt}{a l:Addr}{vs:List Value}{Q:Flow->Loc->Led->Prop} (G:Gd S n A Qg L env) (ha:C a=none) (I:List Value->Loc->Led->Prop)
  (hI:∀ rest m C,I rest m C->cN C l vs) (start:I vs m C)
  (turn:∀ E v rest m C,(∃ pre,vs=pre++v::rest)->I (v::rest) m C->∀ J,wb (I rest) J->W S A Qg L E (assign target env v) m C (Bd S A Qg L E (λz9=>execs body env) (LQ J Q)))
  (fin:∀ E m C,I [] m C->W S A Qg L E (execs orelse env) m C Q) :
  ∀ E,CF S A Qg L E (.forLoop target (.ref a) body orelse env) m (upd C a (lit l 0)) Q:=λE F s R=>by
 have hF:=R.free;refine codeAny_forLoop_any (λk s=>∃ rest m C i o,k=rest.length∧Rel S Qg L m C (upd F a o) s∧s.heap.IsListIter a l i∧vs.drop i=rest∧I rest m C) (λk s hk=>?_) vs.length ⟨vs,m,C,0,lit l 0,rfl,R.hideAt ha,?_,rfl,start⟩
 ·refine bL hk λrest m C i o aZ=>?_; clear hk; refine d9 aZ λak R hit hd hi=>?_; clear aZ; subst ak
  have hl:=R.isList (hI _ _ _ hi);cases rest with
  | nil =>
   refine wpAny_pyNext_list_end G.hh hit hl ?_ λh' hs=>?_
   ·refine ae List.getElem?_toArray ?_;exact List.getElem?_eq_none (by simpa using List.drop_eq_nil_iff.mp hd)
   ·exact (fin _ m C hi).run (R.hid_drop hF hs) λf m' C' s' R' q=>⟨m',C',R',q⟩
  | cons v rest =>
   have hv:vs[i]?=some v:=by
    have:=congrArg List.head? hd;simpa [List.head?_drop] using this
   have gy:vs.drop (i+1)=rest:=by
    refine eI List.drop_drop (ae hd ?_); rfl
   refine wpAny_pyNext_list_item hit hl (by refine ae List.getElem?_toArray ?_; exact hv) λh' md hs=>?_;refine bF md λo' ph An Di=>?_
   refine gM md ?_;refine (turn _ v rest m C ⟨vs.take i,by exact eI hd (ae (List.take_append_drop _ _) rfl)⟩ hi _ (wb.refl _)).run (R.hid_change hF hs ph) λz9 m' C' s' R' q=>?_;refine q.run R' λf hM cf fK dR q'=>?_
   have vn:fK.heap.IsListIter a l (i+1):=⟨o',(dR.hidN hF).1,An,Di⟩;have drop:Rel S Qg L hM cf F fK:=dR.hid_drop hF (h':=fK.heap) λz9 z8 z7 e=>e
   cases f with
   | next=>exact ⟨rest.length,Nat.lt_succ_self _,rest,hM,cf,i+1,o',rfl,dR,vn,gy,q'⟩
   | cont=>exact ⟨rest.length,Nat.lt_succ_self _,rest,hM,cf,i+1,o',rfl,dR,vn,gy,q'⟩
   | brk=>exact ⟨hM,cf,drop,q'⟩
   | ret v=>exact ⟨hM,cf,drop,q'⟩
 ·exact ⟨_,R.get (af C a (lit l 0)),rfl,rfl⟩
theorem iR {C:Led}{a b:Addr}{x y:Obj} (h:a≠b):upd (upd C a x) b y=upd (upd C b y) a x:=by
 funext c;unfold upd;by_cases p:c=b
 ·by_cases q:c=a
  ·exact absurd (q.symm.trans p) h
  ·simp [p,Ne.symm h]
 ·by_cases q:c=a
  ·subst q; simp [p]
  ·simp [p,q]
theorem bR.unhide {s:Shared}{a:Addr}{o:Obj} (R:bR S Qg L m C (upd F a o) s) (hF:F a=none):bR S Qg L m (upd C a o) F s:=by
 have hC:C a=none:=(R.d a).resolve_right λe=>by exact bo e (af ..)
 have e:join (upd C a o) F=join C (upd F a o):=by
  funext b;unfold join upd;by_cases h:b=a
  ·subst h; simp [hC]
  ·simp [h]
 refine ⟨e▸R.r,λb=>?_⟩;by_cases h:b=a
 ·subst h; exact .inr hF
 ·refine ae (ag _ _ h) ?_;have:=R.d b;rwa [ag _ _ h] at this
theorem Rel.unhide {s:Shared}{a:Addr}{o:Obj} (R:Rel S Qg L m C (upd F a o) s) (hf:F a=none):Rel S Qg L m (upd C a o) F s:=by
 refine bE (R.hidOpen hf) λT tb dj n n2 r=>?_;exact ⟨T,tb,dj,r.unhide n2⟩
theorem uE {Q:Bool->Loc->Led->Prop} (h:Q true m C) :
  W S A Qg L E (forIn ([]:List Expr) true λc r=>if r=true then do let ok ← isTrue c env (eval c env); Pure.pure (ForInStep.yield ok) else Pure.pure (ForInStep.yield r)) m C Q:=.mk λF s R=>wpAny_tests_nil ⟨m,C,R,h⟩
theorem uD {c:Expr}{Q:Bool->Loc->Led->Prop} (h:W S A Qg L E (isTrue c env (eval c env)) m C Q) :
  W S A Qg L E (forIn [c] true λc r=>if r=true then do let ok ← isTrue c env (eval c env); Pure.pure (ForInStep.yield ok) else Pure.pure (ForInStep.yield r)) m C Q:=.mk2 λF s R=>wpAny_tests_one (h.go F s R)
theorem tZ {prog:Program}{w:World}{R:Result->Shared->Prop}{s:Shared}{elt target iter:Expr}{ifs:List Expr}{scope:Scope}{pos:Pos}{it acc:Value} (I:Nat->Shared->Prop)
  (turn:∀ n s,I n s->wpAny (model prog w) A (pyNext it) (λr aC=>match r with
   | none=>R (.ok .next) aC
   | some v=>wpAny (model prog w) A (letOwnedTupleGo target it v) (λz9 aC=>wpAny (model prog w) A (assign target env v) (λz9 cG =>
     wpAny (model prog w) A (forIn ifs true λc r=>if r=true then do let ok ← isTrue c env (eval c env); Pure.pure (ForInStep.yield ok) else Pure.pure (ForInStep.yield r)) (λok kM =>
      if ok=true then wpAny (model prog w) A (eval elt env) (λx Ba =>
       wpAny (model prog w) A (call (.builtin "list.append") [acc,x]) (λz9 EC=>∃ m,m < n∧I m EC) (notedBy (model prog w) A env λe s'=>R (.error e) s') Ba) (notedBy (model prog w) A env λe s'=>R (.error e) s') kM
      else ∃ m,m < n∧I m kM) (notedBy (model prog w) A env λe s'=>R (.error e) s') cG) (notedBy (model prog w) A env λe s'=>R (.error e) s') aC) (notedBy (model prog w) A env λe s'=>R (.error e) s') aC) (notedBy (model prog w) A env λe s'=>R (.error e) s') s)
  (n:Nat) (h:I n s) :
  codeAny (model prog w) A (.compLoop (.ListComp elt [⟨target,iter,ifs,0⟩] scope pos) 0 it acc env) R s:=by
 refine codeAny_loop rfl I (λn s hI=>?_) n h;show wpAny _ A ((compTurn (.ListComp elt [⟨target,iter,ifs,0⟩] scope pos) 0 it acc env).onRaise (λx=>do noteFrame x env; theTreesLotGoes x)) _ _ s;refine wpAny_noted ?_;rw [compTurn_list];refine wpAny_bind (wpAny_standAt (wpAny_bind (wpAny_mono (turn n s hI) (λr aC ek=>?_) λz9 z8 h'=>h')));cases r with
 | none=>exact wpAny_pure ek
 | some v =>
  refine wpAny_bind (wpAny_mono ek (λz9 cG nq=>wpAny_bind (wpAny_mono nq (λz9 cG nq=>wpAny_bind (wpAny_mono nq (λok kM jF=>?_) λz9 z8 h'=>h')) λz9 z8 h'=>h')) λz9 z8 h'=>h');cases ok with
  | false=>exact wpAny_pure ⟨rfl,jF⟩
  | true =>
   exact wpAny_bind (wpAny_bind (wpAny_mono jF (λx Ba Rc=>wpAny_bind (wpAny_mono Rc (λz9 EC IY=>wpAny_pure (wpAny_pure ⟨rfl,IY⟩)) λz9 z8 h'=>h')) λz9 z8 h'=>h'))
structure yH (Qg:Heap) (L:Addr) (C F:Led) (a:Addr):Prop where
 l:L≠a
 h:Qg.get? a=none
 c:join C F a=none
theorem bR.foreign {s:Shared}{a:Addr}{h':Heap} (R:bR S Qg L m C F s) (f:yH Qg L C F a) (hs:Heap.SameBut a s.heap h'):bR S Qg L m C F { s with heap:=h' }:=by
 refine R.keeps (tk:=s.toks) ⟨R.fr.ns.sameBut hs f.l,λb o e=>(hs.2 b λq=>?_).trans (R.fr.keep b o e),R.fr.above⟩ (λb o e=>(hs.2 b λq=>?_).trans (R.r.N b o e).1)
 ·subst q; exact bo f.h e
 ·subst q; exact bo f.c e
inductive jk (S:Setup) (Qg:Heap) (L:Addr) (m:Loc) (C F:Led) (s:Shared) (a:Addr):Prop
 | mk:∀ T,t9 S T->g_ F T->bR S Qg L m C (join F T) s->yH Qg L C (join F T) a->jk S Qg L m C F s a
theorem jk.foreign {s:Shared}{a:Addr}{h':Heap} (R:jk S Qg L m C F s a) (hs:Heap.SameBut a s.heap h'):Rel S Qg L m C F { s with heap:=h' }:=by
 obtain ⟨T,tb,dj,r,f⟩:=R;exact ⟨T,tb,dj,r.foreign f hs⟩
theorem jk.rel {s:Shared}{a:Addr} (R:jk S Qg L m C F s a):Rel S Qg L m C F s:=by
 obtain ⟨T,tb,dj,r,f⟩:=R;exact ⟨T,tb,dj,r⟩
theorem jk.l {s:Shared}{a:Addr} (R:jk S Qg L m C F s a):L≠a:=by
 obtain ⟨T,tb,dj,r,f⟩:=R;exact f.l
theorem jk.store {s:Shared}{a:Addr}{nq:Heap}{Qh:Loc}{tk:Nat} (R:jk S Qg L m C F s a) (hn:nq.Ns L Qh) (hs:Heap.SameBut L s.heap nq):jk S Qg L Qh C F { s with heap:=nq,toks:=tk } a:=by
 obtain ⟨T,tb,dj,r,f⟩:=R;exact ⟨T,tb,dj,r.keeps (tk:=tk) (r.fr.set hn hs) λa o e=>(hs.2 a (r.r.N _ _ e).2.1).trans (r.r.N _ _ e).1,f⟩
theorem pM {elt target iter:Expr}{ifs:List Expr}{scope:Scope}{cl:List (Str×Addr)}{pos:Pos}{cG:Shared}{a l:Addr}{vs:List Value}{RR:Value->Addr->Result->Shared->Prop}
  (G:Gd S n A Qg L env) (R:Rel S Qg L m (upd C a (lit l 0)) F cG) (ha:C a=none) (jw:vs.length≤1000000)
  (cF:∀ y∈scope.names,y.2≠.cell) (iC:scope.kind=.function) (I:List Value->List Value->Led->Prop)
  (hI:∀ out rest C,I out rest C->cN C l vs∧out.length+rest.length≤vs.length) (start:I [] vs C)
  (turn:∀ g Lc E mc C v rest out,Gd S n A g Lc (compEnvC scope cl Lc env)->I out (v::rest) C →
   W S A g Lc E (assign target (compEnvC scope cl Lc env) v) mc C λz9 mc C=>W S A g Lc E (forIn ifs true λc r=>if r=true then do let ok ← isTrue c (compEnvC scope cl Lc env) (eval c (compEnvC scope cl Lc env)); Pure.pure (ForInStep.yield ok) else Pure.pure (ForInStep.yield r)) mc C λok mc C =>
    if ok then W S A g Lc E (eval elt (compEnvC scope cl Lc env)) mc C λy mc C=>I (out++[y]) rest C else I out rest C)
  (hRR:∀ D Lc s' out C',I out [] C'->F D=none->(∃ mc,s'.heap.Ns Lc mc)->jk S Qg L m C' (upd F D (listOf out.toArray out.length)) s' Lc->RR (.ref D) Lc (.ok .next) s') :
  wpAny (model S.prog S.w) A (newList []) (λacc kM=>wpAny (model S.prog S.w) A (newFunctionEnv scope env.globals cl [] env.qual none .none (some env)) (λNI Ba =>
   codeAny (model S.prog S.w) A (.compStart (.ListComp elt [⟨target,iter,ifs,0⟩] scope pos) 0 (.ref a) acc { NI with scope:=relabel scope env }) (RR acc NI.locals) Ba) E kM) E cG:=by
 obtain ⟨T,tb,dj,R⟩:=R;have Hu:=(R.d a).resolve_left λe=>by exact bo e (af ..)
 have JN:=(join_none Hu).1;have R2:=R.hideAt ha Hu;refine wpAny_newObj_type (dict:=none) ?_;have R3:=R2.push (listOf ([]:List Value).toArray 0);have fD:=R2.fresh_size (Nat.le_refl cG.heap.objs.size);have Dq:cG.heap.objs.size≠a:=λe=>by rw [e,af] at fD; exact uy fD.2
 have Xa:join F T cG.heap.objs.size=none:=by have:=fD.2; rwa [ag _ _ Dq] at this
 have vH:=(join_none Xa).1;have R4:=R3.hideAt fD.1 fD.2;generalize cG.heap.objs.size=D at *;refine wpAny_newFunctionEnv cF (by intro y hy; cases hy) (λek CO CG=>?_) iC;refine cW R4.ground λg nO Eg en Fg tK back=>?_;dsimp only [Option.isSome_some,if_true] at CO CG ⊢
 generalize Xg:(cG.heap.push (listOf ([]:List Value).toArray 0)).objs.size=Lc at *;have yg:∀ b o,(cG.heap.push (listOf ([]:List Value).toArray 0)).get? b=some o->ek.get? b=some o:=λb o e=>CG.extBut b o (Nat.ne_of_lt (Xg▸Heap.lt_size e)) (Heap.get?_push_of_some _ e)
 have G':Gd S n A g Lc (compEnvC scope cl Lc env) :=
  ⟨G.X.keeps en,G.T.keeps en,by show (relabel scope env).kind=_; exact iC,G.d,G.u,G.hh,rfl,G.hgl,G.hbi⟩
 have R5:bR S g Lc (λx=>([]:List (Str×Value)).reverse.lookup x) C (upd (upd (join F T) a (lit l 0)) D (listOf ([]:List Value).toArray 0)) { cG with heap:=ek,toks:=cG.toks+([]:List (Str×Value)).length } :=
  ⟨⟨⟨CO,λb o e=>yg b o (Eg b o e),Qc nO⟩,λb o e=>⟨yg _ _ (R4.r.N b o e).1,Nat.ne_of_lt (Xg▸Heap.lt_size (R4.r.N b o e).1),tK b o e⟩,R4.r.g,R4.r.o⟩,R4.d⟩
 have loop:codeAny (model S.prog S.w) A (.compLoop (.ListComp elt [⟨target,iter,ifs,0⟩] scope pos) 0 (.ref a) (.ref D) (compEnvC scope cl Lc env)) (RR (.ref D) Lc) { cG with heap:=ek,toks:=cG.toks+([]:List (Str×Value)).length }:=by
  refine tZ (λk s=>∃ rest out mc C i oi,k=rest.length∧Rel S g Lc mc C (upd (upd F a oi) D (listOf out.toArray out.length)) s∧s.heap.IsListIter a l i∧vs.drop i=rest∧I out rest C) (λk s hk=>?_) vs.length
   ⟨vs,[],_,C,0,lit l 0,rfl,⟨T,tb,(dj.upd_new _ (join_none Hu).2).upd_new _ (join_none Xa).2,by rw [bJ,bJ]; exact R5⟩,⟨_,(R5.r.N a (lit l 0) (aT R5.d (by exact ae (ag _ _ (Ne.symm Dq)) (af _ _ _)))).1,rfl,rfl⟩,rfl,start⟩
  refine bL hk λrest out mc C i aZ=>?_; clear hk; refine bE aZ λoi ak R hit hd hi=>?_; clear aZ; subst ak
  refine aS (hI _ _ _ hi) λhl hlen=>?_;have hL:=R.isList hl
  cases rest with
  | nil =>
   refine wpAny_pyNext_list_end G.hh hit hL ?_ λh' hs=>?_
   ·refine ae List.getElem?_toArray ?_;exact List.getElem?_eq_none (by simpa using List.drop_eq_nil_iff.mp hd)
   ·have Rd:Rel S g Lc mc C (upd F D (listOf out.toArray out.length)) { s with heap:=h' }:=by
     rw [iR (Ne.symm Dq)] at R;exact R.hid_drop (by exact ae (ag _ _ (Ne.symm Dq)) JN) hs
    have vA:=Rd.fr.ns;obtain ⟨Tx,HQ,JT,Rd⟩:=Rd;refine hRR D Lc _ out C hi vH ⟨mc,vA⟩ ⟨Tx,HQ,JT,back Rd,λq=>?_,?_,?_⟩
    ·refine cz Fg.ns λoL z9 z8 OQ z7=>?_;have:=Heap.lt_size OQ
     rw [nO] at this;exact absurd (q▸this) (Nat.lt_irrefl _)
    ·cases e:Qg.get? Lc with
     | none=>rfl
     | some o =>
      have:=Heap.lt_size (en _ o e);rw [nO] at this;exact absurd this (Nat.lt_irrefl _)
    ·cases e:join C (join (upd F D (listOf out.toArray out.length)) Tx) Lc with
     | none=>rfl
     | some o=>exact absurd rfl (Rd.r.N Lc o e).2.1
  | cons v rest =>
   have hv:vs[i]?=some v:=by
    have:=congrArg List.head? hd;simpa [List.head?_drop] using this
   have gy:vs.drop (i+1)=rest:=by
    refine eI List.drop_drop (ae hd ?_); rfl
   refine wpAny_pyNext_list_item hit hL (by refine ae List.getElem?_toArray ?_; exact hv) λh' md hs=>?_;refine gM md ?_
   refine bF md λo' ph An Di=>?_;have R6:Rel S g Lc mc C (upd (upd F a o') D (listOf out.toArray out.length)) { s with heap:=h' }:=by
    rw [iR (Ne.symm Dq)] at R ⊢;exact R.hid_change (by exact ae (ag _ _ (Ne.symm Dq)) JN) hs ph
   refine (turn g Lc _ mc C v rest out G' hi).run R6 λz9 mc' C' s' R' q=>?_;refine q.run R' λok Ii cf fK dR q'=>?_
   have vn:∀ {Ii cf out fK},Rel S g Lc Ii cf (upd (upd F a o') D (listOf (List.toArray out) out.length)) fK->fK.heap.IsListIter a l (i+1):=λR=>⟨o',(by rw [iR (Ne.symm Dq)] at R; exact (R.hidN (by exact ae (ag _ _ (Ne.symm Dq)) JN)).1),An,Di⟩
   cases ok with
   | false =>
    show ∃ _,_;exact ⟨rest.length,Nat.lt_succ_self _,rest,out,Ii,cf,i+1,o',rfl,dR,vn dR,gy,q'⟩
   | true =>
    refine W.run q' dR λy mc3 C3 s3 R3 q3=>?_;have KH:=(R3.hidN (by exact ae (ag _ _ Dq) vH)).1
    have Hl:=(hI _ _ _ q3).2;rw [List.length_append] at Hl;refine append_at KH (λh4 hs4 Ww=>?_) (by refine ae List.size_toArray (ae sizeLine_eq ?_); simp only [List.length_cons,List.length_nil] at Hl; exact Qd λq=>Ql (Qa jw (Qa hlen q)));have e:out.toArray.push y=(out++[y]).toArray:=by simp
    rw [e] at Ww;have X3:=R3.hid_change (by exact ae (ag _ _ Dq) vH) hs4 Ww;have e2:(out++[y]).length=out.length+1:=by simp
    exact ⟨rest.length,Nat.lt_succ_self _,rest,out++[y],mc3,C3,i+1,o',rfl,by refine ae e2 ?_; exact X3,vn (out:=out++[y]) (by exact ae e2 X3),gy,q3⟩
 exact codeAny_compStart_list loop (wpAny_pyIter_listiter (i:=0) (l:=l) ⟨_,(R5.r.N a (lit l 0) (aT R5.d (by exact ae (ag _ _ (Ne.symm Dq)) (af _ _ _)))).1,rfl,rfl⟩ loop)
noncomputable def iz (S:Setup) (n:Nat) (A:Around) (Qg:Heap) (L:Addr) (env:Env) (scope:Scope) (cl:List (Str×Addr)) (target:Expr) (ifs:List Expr) (elt:Expr) (Q:Addr->List Value->Led->Prop) (it:Value) (Up:Led):Prop :=
 ∃ (a l:Addr) (vs:List Value) (C:Led) (I:List Value->List Value->Led->Prop),it=.ref a∧Up=upd C a (lit l 0)∧C a=none∧vs.length≤1000000∧(∀ out rest C,I out rest C->cN C l vs∧out.length+rest.length≤vs.length)∧I [] vs C ∧
  (∀ g Lc E mc C v rest out,Gd S n A g Lc (compEnvC scope cl Lc env)->I out (v::rest) C →
   W S A g Lc E (assign target (compEnvC scope cl Lc env) v) mc C λz9 mc C=>W S A g Lc E (forIn ifs true λc r=>if r=true then do let ok ← isTrue c (compEnvC scope cl Lc env) (eval c (compEnvC scope cl Lc env)); Pure.pure (ForInStep.yield ok) else Pure.pure (ForInStep.yield r)) mc C λok mc C =>
    if ok then W S A g Lc E (eval elt (compEnvC scope cl Lc env)) mc C λy mc C=>I (out++[y]) rest C else I out rest C) ∧
  (∀ D out C,I out [] C->C D=none->Q D out C)
theorem iz.intro {scope:Scope}{cl:List (Str×Addr)}{target:Expr}{ifs:List Expr}{elt:Expr}{Q:Addr->List Value->Led->Prop}{a l:Addr}{vs:List Value} (ha:C a=none) (hz:vs.length≤1000000) (I:List Value->List Value->Led->Prop)
  (hI:∀ out rest C,I out rest C->cN C l vs∧out.length+rest.length≤vs.length) (start:I [] vs C)
  (turn:∀ g Lc E mc C v rest out,Gd S n A g Lc (compEnvC scope cl Lc env)->I out (v::rest) C->∀ J,NQ (λo=>I o rest) J →
   W S A g Lc E (assign target (compEnvC scope cl Lc env) v) mc C λz9 mc C=>W S A g Lc E (forIn ifs true λc r=>if r=true then do let ok ← isTrue c (compEnvC scope cl Lc env) (eval c (compEnvC scope cl Lc env)); Pure.pure (ForInStep.yield ok) else Pure.pure (ForInStep.yield r)) mc C λok mc C =>
    if ok then W S A g Lc E (eval elt (compEnvC scope cl Lc env)) mc C λy mc C=>J (out++[y]) C else J out C)
  (fin:∀ D out C,I out [] C->C D=none->Q D out C):iz S n A Qg L env scope cl target ifs elt Q (.ref a) (upd C a (lit l 0)) :=
 ⟨a,l,vs,C,I,rfl,rfl,ha,hz,hI,start,λg Lc E mc C v rest out G hi=>turn g Lc E mc C v rest out G hi _ (NQ.refl _),fin⟩
theorem ic {elt target iter:Expr}{ifs:List Expr}{scope:Scope}{cl:List (Str×Addr)}{pos:Pos}{Q:Value->Loc->Led->Prop} (G:Gd S n A Qg L env) (vG:closureFor scope env=Pure.pure cl)
  (cF:∀ y∈scope.names,y.2≠.cell) (iC:scope.kind=.function) (xr:∀ y∈scope.names,y.2=.local->scope.names.lookup y.1=some .local)
  (h:W S A Qg L E (eval iter env) m C (Bd S A Qg L E pyIter (λit m C=>iz S n A Qg L env scope cl target ifs elt (λD out C=>Q (.ref D) m (upd C D (listOf out.toArray out.length))) it C)))
  (hs:∀ x,foldedSetIterable iter env x=Pure.pure x:=by intro _; rfl):W S A Qg L E (eval (.ListComp elt [⟨target,iter,ifs,0⟩] scope pos) env) m C Q:=.mk2 λF s R=>by
 rw [eval_ListComp];refine wpAny_comprehension_free (use:=none) rfl hs vG iC xr (h.run R λx Qi a_ aC bQ q=>q.run bQ λit Qh uc cG d_ jB=>?_);refine bL jB λa l vs J_ I gw=>?_; clear jB; refine cp gw λak aZ ha hz hI start turn fin=>?_; clear gw; subst ak; subst aZ
 refine pM (RR:=λacc C=>compPost (model S.prog S.w) A E none (AH S Qg L F Q) acc C) G d_ ha hz cF iC I hI start turn λD Lc s' out C' hi vH ⟨mc,hn⟩ R'=>?_;refine ⟨mc,hn,λh' D_=>⟨Qh,_,(R'.foreign D_).unhide vH,fin D out C' hi (R'.rel.own vH)⟩⟩
theorem kW {elt target iter:Expr}{ifs:List Expr}{scope:Scope}{cl:List (Str×Addr)}{pos K4 py:Pos}{y:Str}{Q:Flow->Loc->Led->Prop} (G:Gd S n A Qg L env)
  (hsw:swapsWith (.ListComp elt [⟨target,iter,ifs,0⟩] scope pos) (some (.Name y py)) K4.line env=Pure.pure true) (vG:closureFor scope env=Pure.pure cl)
  (cF:∀ y∈scope.names,y.2≠.cell) (iC:scope.kind=.function) (xr:∀ y∈scope.names,y.2=.local->scope.names.lookup y.1=some .local) (hy:env.kindOf y=some .local)
  (h:W S A Qg L E (eval iter env) m C (Bd S A Qg L E pyIter (λit m C=>iz S n A Qg L env scope cl target ifs elt (λD out C=>Q .next (λz=>if z=y then some (.ref D) else m z) (upd C D (listOf out.toArray out.length))) it C)))
  (hs:∀ x,foldedSetIterable iter env x=Pure.pure x:=by intro _; rfl):W S A Qg L E (exec (.Assign [.Name y py] (.ListComp elt [⟨target,iter,ifs,0⟩] scope pos) K4) env) m C Q:=.mk2 λF s R=>by
 refine ae (exec_Assign_Name_used _ _ _ _ hsw) ?_;refine wpAny_bind (wpAny_standAt (wpAny_bind ?_));show wpAny _ A (do let _ ← comprehension (.ListComp elt [⟨target,iter,ifs,0⟩] scope pos) scope env _ (newList []) false (eval iter env) (some (assign (.Name y py) env))) _ _ s;refine wpAny_bind (wpAny_mono (wpAny_comprehension_free (use:=some (assign (.Name y py) env)) (Q:=λz9 s'=>AH S Qg L F Q .next s') rfl hs vG iC xr
  (h.run R λx Qi a_ aC bQ q=>q.run bQ λit Qh uc cG d_ jB=>?_)) (λz9 s' hq=>wpAny_pure (wpAny_pure hq)) λz9 z8 e=>e)
 refine bL jB λa l vs J_ I gw=>?_; clear jB; refine cp gw λak aZ ha hz hI start turn fin=>?_; clear gw; subst ak; subst aZ
 refine pM (RR:=λacc C=>compPost (model S.prog S.w) A E (some (assign (.Name y py) env)) (λz9 s'=>AH S Qg L F Q .next s') acc C) G d_ ha hz cF iC I hI start turn λD Lc s' out C' hi vH ⟨mc,hn⟩ R'=>?_;show wpAny _ A (assign (.Name y py) env (.ref D)) _ _ _
 refine wpAny_assign_Name (wpAny_storeName_local hy (G.hloc▸R'.rel.fr.ns) (λnq He CD=>?_) (by refine ae G.hk ?_; rfl));rw [G.hloc] at He CD;have dR:=R'.store (tk:=s'.toks+1) He CD;exact ⟨mc,hn.sameBut CD (Ne.symm R'.l),λh' D_=>⟨_,_,(dR.foreign D_).unhide vH,fin D out C' hi (R'.rel.own vH)⟩⟩
end
section
variable {S:Setup}{A:Around}{Qg:Heap}{L:Addr}{E:Value->Shared->Prop}{m:Loc}{C:Led}{env:Env}{n:Nat}
theorem fZ {F:Led}{s:Shared}{f:Value}{args:List Value}{kw:List (Str×Value)}{R:Value->Led->Prop}{Q:Value->Shared->Prop} (G:Gd S n A Qg L env) (sp:Spec S n f args kw C R) (r:Rel S Qg L m C F s)
  (h:∀ v C' s',Rel S Qg L m C' F s'->R v C'->Q v s'):wpAny (model S.prog S.w) A (call f args kw) Q E s :=
 (sf (Q:=λv m' C'=>m'=m∧R v C') G sp λv C' q=>⟨rfl,q⟩).run r λv m' C' s' R' ⟨e,q⟩=>h v C' s' (e▸R') q
theorem fB {f:Addr}{c:Addr}{name:Str} (hk:bM S.K c name f=true):findIn S.K (.ref c) name=some (some (.ref f))∧isFn S.K (.ref f)=true:=by
 simpa only [bM,Bool.and_eq_true,beq_iff_eq] using hk
theorem mD {F:Led}{s:Shared}{x dx c:Addr} (r:bR S Qg L m C F s) (hx:C x=some (instObj c dx)) {M:Model}:Looks M s.heap (typeOf (.ref x)) (.ref c):=(Looks.ld (part:=none) (r.get hx)).andThen .now
theorem kK {F:Led}{s:Shared}{x dx c:Addr} (r:Rel S Qg L m C F s) (hx:C x=some (instObj c dx)) {M:Model}:Looks M s.heap (typeOf (.ref x)) (.ref c):=(Looks.ld (part:=none) (r.get hx)).andThen .now
theorem GS {op:CmpOp}{x dx c f:Addr}{od:Obj}{b tb:Value}{R:Value->Led->Prop}{Q:Value->Loc->Led->Prop} (G:Gd S (n+1) A Qg L env) (hx:C x=some (instObj c dx)) (hd:C dx=some od)
  (hb:∀ (M:Model) F s,Rel S Qg L m C F s->Looks M s.heap (typeOf b) tb) (hn:notFirst S.K c tb=true) (hk:bM S.K c (cmpInfo op).2.1 f=true) (hc:compareOp op (.ref x) b=richCompare op (.ref x) b)
  (sp:Spec S n (.ref f) [.ref x,b] [] C λv C'=>v≠.notImplemented∧R v C') (h:∀ v C',R v C'->Q v m C'):W S A Qg L E (compareOp op (.ref x) b) m C Q:=.mk2 λF s r=>by
 refine aS (fB hk) λk1 k2=>?_;refine ae hc ?_
 refine cmp_K (by have:=G.u; exact Nat.lt_of_lt_of_le (by walk_at "A") (Qf this)) r.fr G.X (ew r hx hd) (hb _ _ _ r) hn k1 k2 (fZ G.down sp r λv C' s' r' q=>?_);cases v <;> first | exact absurd rfl q.1 | exact ⟨m,C',r',h _ C' q.2⟩
theorem Ll {x dx c f:Addr}{od:Obj}{v:Value}{b:Bool}{R:Led->Prop}{Q:Value->Loc->Led->Prop} (G:Gd S n A Qg L env) (hx:C x=some (instObj c dx)) (hd:C dx=some od) (hk:bM S.K c "__contains__" f=true)
  (sp:Spec S n (.ref f) [.ref x,v] [] C λr C'=>r=.bool b∧R C') (h:∀ C',R C'->Q (.bool b) m C'):W S A Qg L E (compareOp .In v (.ref x)) m C Q:=.mk2 λF s r=>by
 refine aS (fB hk) λk1 k2=>?_;refine in_K r.fr G.X (ew r hx hd) k1 k2 (fZ G sp r λv C' s' r' q=>?_)
 obtain ⟨rfl,q⟩:=q;exact wpAny_truthy_bool ⟨m,C',r',h C' q⟩
theorem rW {x dx c f:Addr}{od:Obj}{v:Value}{b:Bool}{R:Led->Prop}{Q:Value->Loc->Led->Prop} (G:Gd S n A Qg L env) (hx:C x=some (instObj c dx)) (hd:C dx=some od) (hk:bM S.K c "__contains__" f=true)
  (sp:Spec S n (.ref f) [.ref x,v] [] C λr C'=>r=.bool b∧R C') (h:∀ C',R C'->Q (.bool (!b)) m C'):W S A Qg L E (compareOp .NotIn v (.ref x)) m C Q:=.mk2 λF s r=>by
 refine aS (fB hk) λk1 k2=>?_;refine notIn_K r.fr G.X (ew r hx hd) k1 k2 (fZ G sp r λv C' s' r' q=>?_)
 obtain ⟨rfl,q⟩:=q;exact wpAny_truthy_bool ⟨m,C',r',h C' q⟩
theorem qL {x dx c f:Addr}{od:Obj}{k:Nat}{R:Led->Prop}{Q:Value->Loc->Led->Prop} (G:Gd S (n+1) A Qg L env) (hx:C x=some (instObj c dx)) (hd:C dx=some od) (hk:bM S.K c "__len__" f=true) (hf:k < 2 ^ 63)
  (sp:Spec S n (.ref f) [.ref x] [] C λr C'=>(∃ t,r=.int k t)∧R C') (h:∀ t C',R C'->Q (.int k t) m C'):W S A Qg L E (call (.builtin "len") [.ref x]) m C Q:=.mk2 λF s r=>by
 refine aS (fB hk) λk1 k2=>?_;refine len_K r.fr G.X (ew r hx hd) k1 k2 (fZ G.in1 sp r λv C' s' r' q=>?_)
 obtain ⟨⟨t,rfl⟩,q⟩:=q;exact ⟨⟨by exact Int.NonNeg.mk (k+0),Int.lt_of_lt_of_le (Int.ofNat_lt.mpr hf) (by decide)⟩,m,C',r'.tok,h _ C' q⟩
theorem dU {l:Addr}{vs:List Value}{Q:Value->Loc->Led->Prop} (hl:cN C l vs) (hf:vs.length < 2 ^ 63) (h:∀ t,Q (.int vs.length t) m C):W S A Qg L E (call (.builtin "len") [.ref l]) m C Q:=.mk λF s r =>
 PyProof.Rows.len_list (r.isList hl) (by exact ae List.size_toArray (Int.lt_of_lt_of_le (Int.ofNat_lt.mpr hf) (by decide))) (by refine ae List.size_toArray ?_; exact ⟨m,C,r.tok,h _⟩)
theorem fV {x dx c f l:Addr}{od:Obj}{vs:List Value}{Q:Value->Loc->Led->Prop} (G:Gd S n A Qg L env) (hx:C x=some (instObj c dx)) (hd:C dx=some od) (hk:bM S.K c "__iter__" f=true)
  (sp:Spec S n (.ref f) [.ref x] [] C λr C'=>∃ a,r=.ref a∧C a=none∧C'=upd C a (lit l 0)) (h:∀ a,C a=none->Q (.ref a) m (upd C a (lit l 0))):W S A Qg L E (pyIter (.ref x)) m C Q:=.mk2 λF s r=>by
 refine aS (fB hk) λk1 k2=>?_;refine owit_iter r.fr G.X (ew r hx hd) k1 k2 (fZ G sp r λv C' s' r' q=>?_)
 refine bF q λa ak ha aZ=>?_; clear q; subst ak; subst aZ
 unfold OwitIt;have hT:s'.TypeIs (.ref a) "list_iterator":=⟨_,r'.get (af C a (lit l 0)),rfl⟩;exact wpAny_specialOf hT slot_listiter_next.lookup ⟨m,_,r',h a ha⟩
theorem uN {l:Addr}{vs:List Value}{Q:Value->Loc->Led->Prop} (hl:cN C l vs) (h:∀ a,C a=none->Q (.ref a) m (upd C a (lit l 0))):W S A Qg L E (call (.builtin "iter") [.ref l]) m C Q:=.mk λF s R=>by
 refine call_function_entry (by decide +kernel) (by decide +kernel) kdk_entry_iter (kdk_args_iter _) ?_;unfold Builtin.«iter»;refine wpAny_bind (m:=someArgs "iter" 1 2 _) (wpAny_of_eq (a:=[Value.ref l]) (by first | rfl | kernel_rfl!) ?_);show wpAny _ _ (pyIter (.ref l) >>= _) _ _ _;refine wpAny_bind (wpAny_pyIter_list (R.isList hl) ?_);exact wpAny_pure ⟨_,rfl,m,_,R.push _,h _ (R.fresh_size (Nat.le_refl _)).1⟩
theorem eu {l:Addr}{vs:List Value}{Q:Bool->Loc->Led->Prop} (hl:cN C l vs) (hf:vs.length < 2 ^ 63) (h:Q (!vs.isEmpty) m C):W S A Qg L E (truthy (.ref l)) m C Q:=.mk λF s r =>
 wpAny_truthy_list (r.isList hl) (by exact ae List.size_toArray (Int.lt_of_lt_of_le (Int.ofNat_lt.mpr hf) (by decide))) ⟨m,C,r.tok,by
  have:(!vs.toArray.isEmpty)=!vs.isEmpty:=by simp
  exact ae this h⟩
theorem gU {l b:Addr}{vs ws:List Value}{Q:Value->Loc->Led->Prop} (hl:cN C l vs) (hb:cN C b ws) (hz:vs.length+ws.length≤sizeLine) (h:∀ a,C a=none->Q (.ref a) m (upd C a (listOf (vs++ws).toArray 0))) :
  W S A Qg L E (binaryOp .Add (.ref l) (.ref b)) m C Q:=.mk λF s r=>by
 refine aF r.list λk N hk=>?_;refine add_arrays r.fr N (r.isList hl) (r.isList hb) (λh' F' N'=>?_) (by simpa using hz)
 have fr:=r.fresh_size (Nat.le_refl s.heap.objs.size);exact ⟨m,_,r.of_new hk F' N' fr.2 (tk:=s.toks),by simpa using h _ fr.1⟩
theorem kU {l:Addr}{vs:List Value}{k:Nat}{x:Value}{Q:Value->Loc->Led->Prop} (hl:C l=some (listOf vs.toArray k)) (hz:vs.length≤sizeLine) (h:Q .none m (upd C l (listOf (vs++[x]).toArray (k+1)))) :
  W S A Qg L E (call (.builtin "list.append") [.ref l,x]) m C Q:=.mk λF s r=>by
 refine bF (r.pick hl) λls N a mQ=>?_;refine append_K r.fr N (Upd.head a) (λh' F' N'=>?_) (by simpa using hz)
 have e:vs.toArray.push x=(vs++[x]).toArray:=by simp
 exact ⟨m,_,r.of_pick hl mQ F' (e▸N') (tk:=s.toks),h⟩
theorem dG {l:Addr}{vs:List Value}{pl:Sem Bool}{Q:Value×List Value->Loc->Led->Prop} (hl:cN C l vs) (h:Q (.builtin "list.append",[.ref l]) m C):W S A Qg L E (getMethod (.ref l) "append" pl) m C Q:=.mk λF s r=>by
 refine aQ hl λk hk=>?_; clear hl
 exact getMethod_builtin ⟨_,r.get hk,rfl⟩ PySem.F.plainAttrs_list PySem.F.slot_list_append PySem.F.type_list_append (λa e=>by replace e:=PySem.Value.ref.inj e; subst e; exact ⟨_,r.get hk,rfl⟩) ⟨m,C,r,h⟩
theorem gg {value slice:Expr}{l:Addr}{vs:List Value}{k:Int}{t:Tok}{x:Value}{Q:Value->Loc->Led->Prop} (hl:cN C l vs) (h0:0≤k) (hf:k < 2 ^ 63) (hx:vs[k.toNat]?=some x) (h:Q x m C)
  (hs:autoParam (subscripted slice false (.ref l) (.int k t)=operate [.ref l,.int k t] (getItem (.ref l) (.int k t))) aU):W S A Qg L E (subscriptTail value slice (.ref l) (.int k t)) m C Q:=.mk λF s r =>
 tail_any (r.isList hl).typeIs slot_list_getitem.lookup (wpAny_getItem_list (r.isList hl) h0 hf (by simpa using hx) ⟨m,C,r,h⟩) hs
noncomputable def wa (C:Led) (l:Addr) (vs:List Value):Prop:=∃ k,C l=some (bU vs k)
theorem bR.isTup {F:Led}{s:Shared}{l:Addr}{vs:List Value} (R:bR S Qg L m C F s) (h:wa C l vs):IsTup s.heap l vs.toArray:=by
 refine aQ h λk hk=>?_; clear h
 exact ⟨_,R.get hk,rfl,k,rfl⟩
theorem cU {value slice:Expr}{l:Addr}{vs:List Value}{k:Int}{t:Tok}{j:Nat}{x:Value}{Q:Value->Loc->Led->Prop} (hl:wa C l vs) (Hj:-(2 ^ 63)≤k) (hf:k < 2 ^ 63) (hj:seqIndex? k vs.length=some j) (hx:vs[j]?=some x) (h:Q x m C)
  (hs:autoParam (subscripted slice false (.ref l) (.int k t)=operate [.ref l,.int k t] (getItem (.ref l) (.int k t))) aU):W S A Qg L E (subscriptTail value slice (.ref l) (.int k t)) m C Q:=.mk λF s r =>
 item_tupleT (r.isTup hl) Hj hf hj hx ⟨m,C,r,h⟩ hs
theorem yZ {value slice:Expr}{x dx c f:Addr}{od:Obj}{i:Value}{R:Value->Led->Prop}{Q:Value->Loc->Led->Prop} (G:Gd S (n+1) A Qg L env) (hx:C x=some (instObj c dx)) (hd:C dx=some od) (hk:bM S.K c "__getitem__" f=true) (hf:fnIn S.K f=true)
  (sp:Spec S n (.ref f) [.ref x,i] [] C R) (h:∀ v C',R v C'->Q v m C')
  (iu:autoParam (subscripted slice true (.ref x) i=runValue (.builtin "lifetime.subscript" ⟨[.ref x,i],[]⟩)) aU):W S A Qg L E (subscriptTail value slice (.ref x) i) m C Q:=.mk2 λF s r=>by
 refine aS (fB hk) λk1 k2=>?_;exact sub_K r.fr G.X (ew r hx hd) k1 hf k2 (fZ G.in1 sp r λv C' s' r' q=>⟨m,C',r',h v C' q⟩) iu
theorem qh {x dx c f:Addr}{od:Obj}{i v:Value}{R:Value->Led->Prop}{Q:Unit->Loc->Led->Prop} (G:Gd S n A Qg L env) (hx:C x=some (instObj c dx)) (hd:C dx=some od) (hq:noSeq S.K c=true) (hk:bM S.K c "__setitem__" f=true)
  (sp:Spec S n (.ref f) [.ref x,i,v] [] C R) (h:∀ v C',R v C'->Q () m C'):W S A Qg L E (setItem (.ref x) i v) m C Q:=.mk2 λF s r=>by
 refine aS (fB hk) λk1 k2=>?_;exact ksp_setItem r.fr G.X (ew r hx hd) hq k1 k2 (fZ G sp r λv C' s' r' q=>⟨m,C',r',h v C' q⟩)
theorem BD {l p_ lW:Expr}{jS iZ:CmpOp}{pos:Pos}{Q:Value->Loc->Led->Prop}
  (h:W S A Qg L E (eval l env) m C (pZ S A Qg L E (λa=>eval p_ env) λa=>(pZ S A Qg L E (compareOp jS a) λb=>(pZ S A Qg L E truthy λc=>(λt m C=>if t then W S A Qg L E (eval lW env) m C λd m C=>W S A Qg L E (compareOp iZ b d) m C Q else Q c m C)))))
  (hm:autoParam (lastMarks [jS,iZ] [p_,lW]=false) aU) :
  W S A Qg L E (eval (.Compare l [jS,iZ] [p_,lW] pos) env) m C Q:=.mk2 λF s R=>by
 show wpAny _ _ (do compareChain pos (← eval l env) [jS,iZ] (markedEach [jS,iZ] [p_,lW] (evalEach [p_,lW] env))) _ _ _;refine ae (markedEach_of_false _ _ _ hm) ?_;refine wpAny_bind (h.run R λa Qi a_ aC bQ q=>?_);show wpAny _ _ (do
  let rv ← holding [a] (eval p_ env)
  standAt pos
  let c ← holding [a,rv] (compareOp jS a rv)
  release [a,rv] [c]
  if ← holding [c,rv] (truthy c) then compareChain pos rv [iZ] (evalEach [lW] env) else Pure.pure c) _ _ _
 refine wpAny_bind (wpAny_holding (q.run bQ λb Qh uc cG d_ jB=>?_));refine wpAny_bind (wpAny_standAt (wpAny_bind (wpAny_holding (jB.run d_ λc PU J_ kM di EU=>?_))));refine wpAny_bind (wpAny_release (wpAny_bind (wpAny_holding (EU.run di λt Y8 C₄ Ba my Lq=>?_))));cases t
 ·exact wpAny_pure ⟨_,_,my,Lq⟩
 ·show wpAny _ _ (do
   let rv ← holding [b] (eval lW env)
   standAt pos
   operate [b,rv] (compareOp iZ b rv)) _ _ _
  refine wpAny_bind (wpAny_holding (W.run Lq my λd Y7 C₅ EC g8 PE=>?_));refine wpAny_bind (wpAny_standAt λΓ p qt=>?_);rw [Sem.wp_operate];exact (W.go PE F EC g8) Γ p qt
theorem uT {op:BoolOp}{x:Expr}{xs:List Expr}{pos:Pos}{Q:Value->Loc->Led->Prop} (h:W S A Qg L E (boolOp pos op (evalEach (x::xs) env)) m C Q)
  (he:autoParam (eval (.BoolOp op (x::xs) pos) env=boolOp pos op (evalEach (x::xs) env)) aU):W S A Qg L E (eval (.BoolOp op (x::xs) pos) env) m C Q:=by exact ae he h
theorem wJ {op:BoolOp}{pos:Pos}{x:Expr}{Q:Value->Loc->Led->Prop} (h:W S A Qg L E (eval x env) m C Q):W S A Qg L E (boolOp pos op (evalEach [x] env)) m C Q:=h
theorem oK {pos:Pos}{x y:Expr}{ys:List Expr}{Q:Value->Loc->Led->Prop}
  (h:W S A Qg L E (eval x env) m C (pZ S A Qg L E truthy λv=>(Uq S A Qg L E (boolOp pos .And (evalEach (y::ys) env)) v Q))):W S A Qg L E (boolOp pos .And (evalEach (x::y::ys) env)) m C Q:=.mk2 λF s R=>by
 show wpAny _ _ (do
  let v ← eval x env
  standAt pos
  let b ← holding [v] (truthy v)
  match BoolOp.And,b with
  | .And,false | .Or,true=>Pure.pure v
  | _,_=>boolOp pos .And (evalEach (y::ys) env)) _ _ _
 refine wpAny_bind (h.run R λv Qi a_ aC bQ q=>wpAny_bind (wpAny_standAt (wpAny_bind (wpAny_holding (q.run bQ λb Qh uc cG d_ jB=>?_)))));cases b
 ·exact wpAny_pure ⟨_,_,d_,jB⟩
 ·exact W.go jB F cG d_
theorem Lf {v:Value}{Q:Value->Loc->Led->Prop} (h:W S A Qg L E (truthy v) m C (Mp (λb=>.bool (!b)) Q)):W S A Qg L E (unaryOp .Not v) m C Q:=.mk2 λF s R=>not_of (h.run R λb m' C' s' R' q=>⟨m',C',R',q⟩)
theorem Lh {a:Int}{t:Tok}{Q:Value->Loc->Led->Prop} (h:∀ t,Q (.int (-a) t) m C):W S A Qg L E (unaryOp .USub (.int a t)) m C Q:=.mk λF s R=>neg_int ⟨m,C,R.tok,h _⟩
theorem xV {a:Int}{t:Tok}{Q:Value->Loc->Led->Prop} (h:∀ t,Q (.int (if a < 0 then -a else a) t) m C):W S A Qg L E (call (.builtin "abs") [.int a t]) m C Q:=.mk λF s R=>call_abs_int λu tk=>⟨m,C,R.tok,h u⟩
theorem Bz {a b:Int}{t u:Tok}{Q:Value->Loc->Led->Prop} (G:Gd S n A Qg L env) (h:∀ t,Q (.int (if b > a then b else a) t) m C):W S A Qg L E (call (.builtin "max") [.int a t,.int b u]) m C Q:=.mk λF s R=>by
 refine aF R.list λl N hl=>?_;exact max_two_N G.hh R.fr N λh' tk F' N'=>⟨m,C,R.of_same hl F' N',h _⟩
theorem Li {a b:Int}{t u:Tok}{Q:Value->Loc->Led->Prop} (G:Gd S n A Qg L env) (h:∀ t,Q (.int (if b < a then b else a) t) m C):W S A Qg L E (call (.builtin "min") [.int a t,.int b u]) m C Q:=.mk λF s R=>by
 refine aF R.list λl N hl=>?_;exact min_two_N G.hh R.fr N λh' tk F' N'=>⟨m,C,R.of_same hl F' N',h _⟩
theorem ib {x dx c:Addr}{Q:Value->Loc->Led->Prop} (G:Gd S n A Qg L env) (hx:C x=some (instObj c dx)) (hk:isIn S.K (.ref c) c=true) (h:Q (.bool true) m C):W S A Qg L E (call (.builtin "isinstance") [.ref x,.ref c]) m C Q:=.mk λF s R =>
 isi_call (G.X.keeps R.fr.keep) (λM=>mD R hx) hk (by intro e; injection e) ⟨m,C,R,h⟩
theorem B6 {m:Loc}{x:Str}{v:Value}:p9 m x v x=some v:=if_pos rfl
theorem Lj {a b:Value}{r:Bool}{Q:Value->Loc->Led->Prop} (hp:plainIs a b=true) (hr:(a == b)=r) (h:Q (.bool r) m C):W S A Qg L E (compareOp .Is a b) m C Q:=.mk λF s R=>wpAny_is_plain hp (by refine ae hr ?_; exact ⟨m,C,R,h⟩)
theorem xU {a b:Value}{r:Bool}{Q:Value->Loc->Led->Prop} (hp:plainIs a b=true) (hr:(!(a == b))=r) (h:Q (.bool r) m C):W S A Qg L E (compareOp .IsNot a b) m C Q:=.mk λF s R=>wpAny_isNot_plain hp (by refine ae hr ?_; exact ⟨m,C,R,h⟩)
end
section
variable {S:Setup}{A:Around}{Qg:Heap}{L:Addr}{E:Value->Shared->Prop}{m:Loc}{C F:Led}{env:Env}{n:Nat}
theorem yT {name qual:Str}{params:Arguments}{body:List Stmt}{scope:Scope}{dV kV doc pm eN ct oc:Value}{an od:Option Addr}{xY:Array (Option Value)}{f:Addr}{args:List Value}{kw:List (Str×Value)}
  {binds:List (Str×Value)}{R:Value->Led->Prop}
  (ho:S.K.lookup f=some ⟨oc,od,.func (fnOf name qual params body scope dV kV doc pm an eN ct),xY⟩) (iJ:codeIn S.K eN qual=true)
  (gm:∀ s,S.K.In s.heap->BindsTo s (fnOf name qual params body scope dV kV doc pm an eN ct) ⟨args,kw⟩ binds)
  (iC:∀ L:Addr,∀ x∈binds,scope.names.lookup x.1=some .local∨(scope.names.lookup x.1=some .cell∧((cellsFrom (L+1) scope.names []).lookup x.1).isSome=true))
  (h:∀ A Qg L E C',Gd S n A Qg L (envOfC qual scope L f eN)->(∀ a o,C a=some o->C' a=some o) →
   (∀ x c,(cellsFrom (L+1) scope.names []).lookup x=some c->C c=none∧∃ o,C' c=some o∧o.data=.cell (bindC (λy=>scope.names.lookup y) binds (λz9=>none) x)) →
   W S A Qg L E (execs body (envOfC qual scope L f eN)) (bindL (λy=>scope.names.lookup y) binds λz9=>none) C' λfl z9 cf=>R (gf fl) cf)
  (rh:scope.isCoroutine=false) (pz:scope.isGenerator=false) (hk:scope.kind=.function) :
  Spec S (n+1) (.ref f) args kw C R:=by
 intro A Qg L E env m G Fo s nc;obtain ⟨T,tb,dj,r⟩:=nc;refine aQ (⟨_,rfl⟩:∃ F,F=join Fo T) λF hF=>?_;rw [← hF] at r
 refine cW r.ground λg jw nO en Fg tK back=>?_;have gi:A.depth < recursionLimit:=by have:=G.d; exact Nat.lt_of_lt_of_le (by walk_at "A") (Qf this)
 refine codeAny_call_function (fd:=fnOf name qual params body scope dV kV doc pm an eN ct) (body:=body) gi ((G.X.keeps r.fr.keep) _ _ ho) rfl rh pz rfl (codeRec_of (G.X.keeps r.fr.keep) iJ)
  (gm s (G.X.keeps r.fr.keep) _ _ _ _ ?_)
 refine wpAny_newFunctionEnv_cells hk (iC _) λenv' he aC x=>?_;subst he
 refine ⟨(G.T.nolimit.keeps r.fr.keep).keeps x.toInCall.keep,codeAny_func ?_⟩;show wpAny _ (A.deeper (envOfC qual scope s.heap.objs.size f eN)) (execs body (envOfC qual scope s.heap.objs.size f eN)) _ _ aC;have G':Gd S n (A.deeper (envOfC qual scope s.heap.objs.size f eN)) g s.heap.objs.size (envOfC qual scope s.heap.objs.size f eN):=by
  refine ⟨G.X.keeps en,G.T.keeps en,hk,?_,?_,G.hh,rfl,rfl,rfl⟩
  ·show A.depth+1+2 * n < _;have:=G.d; exact Nat.lt_of_lt_of_le (by walk_at "A") (Qf this)
  ·show A.units+3+8 * n < _;have:=G.u; exact Nat.lt_of_lt_of_le (by walk_at "A") (Qf this)
 have cellAt:∀ y c,(cellsFrom (s.heap.objs.size+1) scope.names []).lookup y=some c->aC.heap.IsCell c (bindC (λy=>scope.names.lookup y) binds (λz9=>none) y)∧s.heap.objs.size < c:=λy c e=>⟨x.cell y c e,x.above y c (mem_of_lookup e)⟩
 refine aQ (⟨_,rfl⟩:∃ C':Led,C'=λa=>if s.heap.objs.size < a then (if (cellsFrom (s.heap.objs.size+1) scope.names []).any (λp=>decide (p.2=a)) then aC.heap.get? a else none) else C a) λC' tN=>?_;have big:∀ a,s.heap.objs.size < a->C a=none∧F a=none:=λa ha=>r.fresh_size (Nat.le_of_lt ha)
 have old:∀ a o,C a=some o->C' a=some o:=λa o e=>by
  have hn:¬ s.heap.objs.size < a:=λq=>by exact bo ((big a q).1) e
  refine ae tN ?_; simp only [if_neg hn]; exact e
 have new:∀ y c,(cellsFrom (s.heap.objs.size+1) scope.names []).lookup y=some c->C c=none∧∃ o,C' c=some o∧o.data=.cell (bindC (λy=>scope.names.lookup y) binds (λz9=>none) y):=λy c e=>by
  refine aS (cellAt y c e) λak hL=>?_; obtain ⟨o,ho,hd⟩:=ak
  refine ⟨(big c hL).1,o,?_,hd⟩;refine ae tN ?_;simp only [if_pos hL];exact ae (if_pos (List.any_eq_true.mpr ⟨_,mem_of_lookup e,by simp⟩)) ho
 have bQ:bR S g s.heap.objs.size (bindL (λy=>scope.names.lookup y) binds λz9=>none) C' F aC:=by
  refine dB x.toInCall.same λek tk Md=>?_;have I8:aC.os=s.os∧aC.gens=s.gens∧aC.drawn=s.drawn:=by refine ae Md ?_; exact ⟨rfl,rfl,rfl⟩
  refine ⟨⟨⟨x.toInCall.ns,λb o e=>x.toInCall.keep b o (nO b o e),Qc jw⟩,λa o e=>?_,by refine ae I8.2.1 ?_; exact r.r.g,by refine ae I8.1 (ae I8.2.2 ?_); exact r.r.o⟩,λa=>?_⟩
  ·by_cases hL:s.heap.objs.size < a
   ·have hF:=(big a hL).2;have e':C' a=some o:=by
     unfold join at e;rw [hF] at e;cases q:C' a with
     | none=>rw [q] at e; exact iO e
     | some o'=>rw [q] at e; exact e
    rw [tN] at e';simp only [if_pos hL] at e';split at e'
    ·refine ⟨e',Nat.ne_of_gt hL,?_⟩;cases q:g.get? a with
     | none=>rfl
     | some o' =>
      have:=Heap.lt_size q;rw [jw] at this;exact absurd hL (Nat.not_lt.mpr (Nat.le_of_lt this))
    ·exact iO e'
   ·have e':join C F a=some o:=by
     unfold join at e ⊢;rw [tN] at e;simp only [if_neg hL] at e;exact e
    exact ⟨x.toInCall.keep _ _ (r.r.N a o e').1,Nat.ne_of_lt (Heap.lt_size (r.r.N a o e').1),tK a o e'⟩
  ·by_cases hL:s.heap.objs.size < a
   ·exact .inr (big a hL).2
   ·rcases r.d a with q | q
    ·left; refine ae tN ?_; simp only [if_neg hL]; exact q
    ·exact .inr q
 refine wpAny_mono ((h _ g _ _ C' G' old new).go Fo _ (bR.rel (hF▸bQ) tb dj)) (λfl s' z=>?_) λz9 z8 z=>z
 walk_at "bh";obtain ⟨m',cf,r',q⟩:=z;walk_at "ch";exact ⟨m,cf,r'.back back,rfl,q⟩
noncomputable def yD (K:Frag) (scope:Scope) (eN:Value) (qual:Str) (names:List Str):Bool :=
 codeIn K eN qual && names.all (λy=>scope.names.lookup y == some .local || scope.names.lookup y == some .cell) && !scope.isCoroutine && !scope.isGenerator && scope.kind == .function
theorem kF:∀ (names:List (Str×NameKind)) (L:Addr) (acc:List (Str×Addr)) (y:Str),(names.lookup y=some .cell∨(acc.lookup y).isSome=true)->((cellsFrom L names acc).lookup y).isSome=true
 | [],_,_,_,h=>by
  rcases h with h | h
  ·exact iO h
  ·exact h
 | (nm,k)::r,L,acc,y,h=>by
  unfold cellsFrom;rw [List.lookup_cons] at h;by_cases hk:(k == NameKind.cell)=true
  ·refine ae (if_pos hk) ?_;refine kF r (L+1) _ y ?_;refine ae List.lookup_cons ?_;cases q:(y == nm) with
   | true=>exact .inr rfl
   | false =>
    rw [q] at h;exact h
  ·refine ae (if_neg hk) ?_;refine kF r L acc y ?_;cases q:(y == nm) with
   | true =>
    rw [q] at h;rcases h with h | h
    ·replace h:=Option.some.inj h; subst h; exact absurd rfl hk
    ·exact .inr h
   | false=>rw [q] at h; exact h
theorem eB {name qual:Str}{params:Arguments}{body:List Stmt}{scope:Scope}{dV kV doc pm eN ct oc:Value}{an od:Option Addr}{xY:Array (Option Value)}{f:Addr}{args:List Value}{kw:List (Str×Value)}
  {binds:List (Str×Value)}{R:Value->Led->Prop}
  (ho:S.K.lookup f=some ⟨oc,od,.func (fnOf name qual params body scope dV kV doc pm an eN ct),xY⟩)
  (gm:∀ s,S.K.In s.heap->BindsTo s (fnOf name qual params body scope dV kV doc pm an eN ct) ⟨args,kw⟩ binds) (hp:yD S.K scope eN qual (binds.map (·.1))=true)
  (h:∀ A Qg L E C',Gd S n A Qg L (envOfC qual scope L f eN)->(∀ a o,C a=some o->C' a=some o) →
   (∀ x c,(cellsFrom (L+1) scope.names []).lookup x=some c->C c=none∧∃ o,C' c=some o∧o.data=.cell (bindC (λy=>scope.names.lookup y) binds (λz9=>none) x)) →
   ∀ Q,pV R Q->W S A Qg L E (execs body (envOfC qual scope L f eN)) (bindL (λy=>scope.names.lookup y) binds λz9=>none) C' Q) :
  Spec S (n+1) (.ref f) args kw C R:=by
 simp only [yD,Bool.and_eq_true,Bool.not_eq_true',List.all_eq_true,beq_iff_eq,Bool.or_eq_true] at hp;refine aS hp λak h5=>?_; clear hp; obtain ⟨⟨⟨h1,h2⟩,h3⟩,h4⟩:=ak
 refine yT ho h1 gm (λL y hy=>?_) (λA Qg L E C' G a b=>h A Qg L E C' G a b _ (pV.refl R)) h3 h4 h5;rcases h2 _ (List.mem_map_of_mem hy) with q | q
 ·exact .inl q
 ·exact .inr ⟨q,kF _ _ _ _ (.inl q)⟩
theorem eQ {x:Str}{c:Addr}{o:Obj}{O3:Option Value}{v:Value}{Q:Unit->Loc->Led->Prop} (G:Gd S n A Qg L env) (hc:env.cells.lookup x=some c) (ho:C c=some o) (hd:o.data=.cell O3)
  (h:∀ o',o'.data=.cell (some v)->Q () m (upd C c o')) (hx:autoParam (env.kindOf x=some .cell) aR):W S A Qg L E (storeName env x v) m C Q:=.mk λF s R=>by
 refine wpAny_storeName_cell G.hk hx hc ⟨o,R.get ho,hd⟩ λh' hv hs=>?_;refine aF hv λo' ph gy=>?_; clear hv
 refine bF (R.pick ho) λl N a hl=>?_;have bS:L≠c:=Ne.symm (N _ (.head _)).2.1
 refine ⟨m,_,R.of_pick (o':=o') (tk:=s.toks) ho hl ⟨R.fr.ns.sameBut hs bS,λb x e=>(hs.2 b λq=>?_).trans (R.fr.keep b x e),R.fr.above⟩ (λp hp=>?_),h o' gy⟩
 ·subst q; exact bo ((N _ (.head _)).2.2) e
 ·rcases List.mem_cons.mp hp with rfl | hp
  ·exact ⟨ph,(N _ (.head _)).2⟩
  ·have z:=N p (.tail _ hp);exact ⟨(hs.2 p.1 (a p hp)).trans z.1,z.2⟩
noncomputable abbrev NU (l:Addr) (i:Nat):Obj:={ cls:=.type "tuple_iterator",data:=.fields #[.ref l,.int i 0] }
noncomputable def t8 (K:Frag) (C:Led) (l:Addr) (vs:List Value):Prop:=wa C l vs∨∃ k,K.lookup l=some (bU vs k)
theorem bR.isTupK {s:Shared}{l:Addr}{vs:List Value} (G:Gd S n A Qg L env) (R:bR S Qg L m C F s) (h:t8 S.K C l vs):s.heap.IsTuple l vs.toArray:=by
 rcases h with h | ⟨k,hk⟩
 ·exact R.isTup h
 ·exact ⟨_,(G.X.keeps R.fr.keep) _ _ hk,rfl,k,rfl⟩
theorem Rel.isTupK {s:Shared}{l:Addr}{vs:List Value} (G:Gd S n A Qg L env) (R:Rel S Qg L m C F s) (h:t8 S.K C l vs):s.heap.IsTuple l vs.toArray:=by
 obtain ⟨F',le,tb,r⟩:=R;exact r.isTupK G h
theorem rU {l:Addr}{vs:List Value}{Q:Value->Loc->Led->Prop} (G:Gd S n A Qg L env) (hl:t8 S.K C l vs) (h:∀ a,C a=none->Q (.ref a) m (upd C a (NU l 0))):W S A Qg L E (pyIter (.ref l)) m C Q:=.mk λF s R =>
 wpAny_pyIter_tuple (R.isTupK G hl) ⟨m,_,R.push _,h _ (R.fresh_size (Nat.le_refl _)).1⟩
theorem sP {M:Model}{A:Around}{s:Shared}{target:Expr}{a l:Addr}{i:Nat}{v:Value}{Q:Unit->Shared->Prop}{E:Value->Shared->Prop} (hit:s.heap.IsTupleIter a l i) (h:Q () s):wpAny M A (letOwnedTupleGo target (.ref a) v) Q E s:=by
 refine bF hit λo ho hc hd=>?_; clear hit
 have key:∀ T:Addr,wpAny M A (do
   let o ← load a
   match o.cls,o.data with
   | .type n,.fields vs =>
    if ["enumerate","zip","dict_itemiterator","dict_reverseitemiterator","odict_iterator","itertools.zip_longest","itertools.pairwise"].contains n && vs[0]? == some (rawInt T) then
     rule "for.unpacks-the-owned-tuple"
     updateField a 0 .none
   | _,_=>Pure.pure ()) Q E s:=λT=>by
  refine wpAny_bind (wpAny_load ho ?_);refine ae hc (ae hd ?_);show wpAny _ A (if (["enumerate","zip","dict_itemiterator","dict_reverseitemiterator","odict_iterator","itertools.zip_longest","itertools.pairwise"].contains "tuple_iterator" && _)=true then _ else _) Q E s;rw [if_neg (by rw [show (["enumerate","zip","dict_itemiterator","dict_reverseitemiterator","odict_iterator","itertools.zip_longest","itertools.pairwise"].contains "tuple_iterator")=false from by decide,Bool.false_and]; decide)];exact wpAny_pure h
 cases target <;> first | exact wpAny_pure h | (cases v <;> first | exact wpAny_pure h | exact key _)
theorem BB {target:Expr}{body orelse:List Stmt}{a l:Addr}{vs:List Value}{Q:Flow->Loc->Led->Prop} (G:Gd S n A Qg L env) (ha:C a=none) (I:List Value->Loc->Led->Prop)
  (hI:∀ rest m C,I rest m C->t8 S.K C l vs) (start:I vs m C)
  (turn:∀ E v rest m C,(∃ pre,vs=pre++v::rest)->I (v::rest) m C->∀ J,wb (I rest) J->W S A Qg L E (assign target env v) m C (Bd S A Qg L E (λz9=>execs body env) (LQ J Q)))
  (fin:∀ E m C,I [] m C->W S A Qg L E (execs orelse env) m C Q) :
  ∀ E,CF S A Qg L E (.forLoop target (.ref a) body orelse env) m (upd C a (NU l 0)) Q:=λE F s R=>by
 have hF:=R.free;refine codeAny_forLoop_any (λk s=>∃ rest m C i o,k=rest.length∧Rel S Qg L m C (upd F a o) s∧s.heap.IsTupleIter a l i∧vs.drop i=rest∧I rest m C) (λk s hk=>?_) vs.length ⟨vs,m,C,0,NU l 0,rfl,R.hideAt ha,?_,rfl,start⟩
 ·refine bL hk λrest m C i o aZ=>?_; clear hk; refine d9 aZ λak R hit hd hi=>?_; clear aZ; subst ak
  have hl:=R.isTupK G (hI _ _ _ hi);cases rest with
  | nil =>
   refine wpAny_pyNext_tuple_end G.hh hit hl ?_ λh' hs=>?_
   ·refine ae List.getElem?_toArray ?_;exact List.getElem?_eq_none (by simpa using List.drop_eq_nil_iff.mp hd)
   ·exact (fin _ m C hi).run (R.hid_drop hF hs) λf m' C' s' R' q=>⟨m',C',R',q⟩
  | cons v rest =>
   have hv:vs[i]?=some v:=by
    have:=congrArg List.head? hd;simpa [List.head?_drop] using this
   have gy:vs.drop (i+1)=rest:=by
    refine eI List.drop_drop (ae hd ?_); rfl
   refine wpAny_pyNext_tuple_item hit hl (by refine ae List.getElem?_toArray ?_; exact hv) λh' md hs=>?_;refine bF md λo' ph An Di=>?_
   refine sP md ?_;refine (turn _ v rest m C ⟨vs.take i,by exact eI hd (ae (List.take_append_drop _ _) rfl)⟩ hi _ (wb.refl _)).run (R.hid_change hF hs ph) λz9 m' C' s' R' q=>?_;refine q.run R' λf hM cf fK dR q'=>?_
   have vn:fK.heap.IsTupleIter a l (i+1):=⟨o',(dR.hidN hF).1,An,Di⟩;have drop:Rel S Qg L hM cf F fK:=dR.hid_drop hF (h':=fK.heap) λz9 z8 z7 e=>e
   cases f with
   | next=>exact ⟨rest.length,Nat.lt_succ_self _,rest,hM,cf,i+1,o',rfl,dR,vn,gy,q'⟩
   | cont=>exact ⟨rest.length,Nat.lt_succ_self _,rest,hM,cf,i+1,o',rfl,dR,vn,gy,q'⟩
   | brk=>exact ⟨hM,cf,drop,q'⟩
   | ret v=>exact ⟨hM,cf,drop,q'⟩
 ·exact ⟨_,R.get (af C a (NU l 0)),rfl,rfl⟩
theorem hZ {e:Expr}{rest:List Expr}{pos:Pos}{Q:List Value->Loc->Led->Prop}
  (h:W S A Qg L E (eval e env) m C (pZ S A Qg L E (λv=>spliced (backTo pos (starEach rest env))) λv=>(Mp (List.cons v) Q)))
  (he:autoParam (starEach (e::rest) env=(false,eval e env)::starEach rest env) aU):W S A Qg L E (spliced (backTo pos (starEach (e::rest) env))) m C Q:=by
 exact ae he (oh h)
theorem lX {pos:Pos}{Q:List Value->Loc->Led->Prop} (h:Q [] m C):W S A Qg L E (spliced (backTo pos (starEach [] env))) m C Q:=qf h
theorem r_ {id:String}{first:List Value}{e:Expr}{rest:List Expr}{pos:Pos}{Q:Value->Loc->Led->Prop}
  (h:W S A Qg L E (spliced (backTo pos (starEach (e::rest) env))) m C (Bd S A Qg L E (λvs=>call (.builtin id) (first++vs)) Q))
  (he:autoParam (starEach (e::rest) env=(false,eval e env)::starEach rest env) aU) (eC:autoParam ((backTo pos (starEach rest env)).any (·.1)=false) aU) :
  W S A Qg L E (callWith pos (.builtin id) first (backTo pos (starEach (e::rest) env)) []) m C Q:=.mk2 λF s R=>by
 have h':wpAny (model S.prog S.w) A (spliced (backTo pos (starEach (e::rest) env))) (λvs aC=>wpAny (model S.prog S.w) A (call (.builtin id) (first++vs)) (AH S Qg L F Q) E aC) E s :=
  h.run R λz9 z8 z7 s' R' q=>W.go q F s' R'
 rw [he] at h' ⊢;exact Calls.callWith_builtin (by show (false || (backTo pos (starEach rest env)).any (·.1))=false; refine ae eC ?_; rfl) (Calls.evalArgs_plain h')
theorem dW {c p f:Addr}{mc:Value}{name:Str}{rest:List Value}{pl:Sem Bool}{Q:Value×List Value->Loc->Led->Prop} (G:Gd S n A Qg L env)
  (hg:specialIn S.K (.ref c) "__getattribute__"=some (some (.builtin "type.__getattribute__"))) (hm:typeIn S.K (.ref c)=some mc) (hr:readsIn S.K c mc=true)
  (e:findCls S.K (.ref c) mc name=some (.get (.builtin "classmethod.__get__") (.ref p) .none (.ref c))) (hp:recIn S.K p "classmethod"=some (.ref f::rest))
  (h:∀ q,C q=none->Q (.ref q,[]) m (upd C q (methodObj (.ref f) (.ref c)))):W S A Qg L E (getMethod (.ref c) name pl) m C Q:=.mk λF s R=>by
 refine aF R.list λl N hl=>?_;refine method_of_cls R.fr G.X hg (cls_cm R.fr G.X N hm hr e hp λq h' F' N' lt=>?_)
 have fr:=R.fresh_of hl lt;exact ⟨m,_,R.of_new hl F' N' fr.2 (tk:=s.toks+1),h q fr.1⟩
theorem eU {q g:Addr}{self:Value}{e:Expr}{rest:List Expr}{pos:Pos}{Q:Value->Loc->Led->Prop} (G:Gd S n A Qg L env) (hf:fnIn S.K g=true) (hq:C q=some (methodObj (.ref g) self))
  (h:W S A Qg L E (spliced (backTo pos (starEach (e::rest) env))) m C λvs m C'=>C' q=some (methodObj (.ref g) self)∧∃ R,Spec S n (.ref g) (self::vs) [] C' R∧∀ v cf,R v cf->Q v m cf)
  (he:autoParam (starEach (e::rest) env=(false,eval e env)::starEach rest env) aR) (eC:autoParam ((backTo pos (starEach rest env)).any (·.1)=false) aR) :
  W S A Qg L E (callWith pos (.ref q) [] (backTo pos (starEach (e::rest) env)) []) m C Q:=.mk2 λF s R=>by
 refine aF R.list λl N hl=>?_;refine callWith_M G.X N (hl _ _ hq) hf (h.run R λvs m' C' s' R' z=>⟨⟨R'.get z.1,G.X.keeps R'.fr.keep⟩,?_⟩) he eC
 refine ck z λz1 bQ sp hR=>?_; clear z
 refine wpAny_call (method_call (R'.get z1) (codeAny_mono (sp A Qg L E env m' G F s' R') λr fK y=>?_));rcases r with e | (_ | _ | _ | v) <;> first | exact y | exact y.elim | skip
 walk_at "bh";obtain ⟨hM,cf,a,rfl,b⟩:=y;walk_at "ch";exact ⟨_,cf,a,hR v cf b⟩
theorem oG {a b:Int}{t u:Tok}{Q:Value->Loc->Led->Prop} (hb:b≠0) (hs:b.natAbs < 1073741824) (h:∀ t,Q (.int (a.fdiv b) t) m C):W S A Qg L E (binaryOp .FloorDiv (.int a t) (.int b u)) m C Q:=.mk λF s R =>
 floordiv_int hb ⟨m,C,R.tok,h _⟩ (Or.inl (PyProof.noPylong_small hs))
theorem By {a b:Int}{t u:Tok}{Q:Value->Loc->Led->Prop} (hb:b≠0) (h:∀ t,Q (.int (a.fmod b) t) m C):W S A Qg L E (binaryOp .Mod (.int a t) (.int b u)) m C Q:=.mk λF s R=>mod_int' hb ⟨m,C,R.tok,h _⟩
end
theorem GQ {prog:Program}{w:World}{A:Around}{E:Value->Shared->Prop}{s:Shared}{a b:Int}{t u:Tok}{Q:Value->Shared->Prop} (h:Q (.bool (decide (a < b))) s):wpAny (model prog w) A (richCompare .Lt (.int a t) (.int b u)) Q E s :=
 (PyProof.Rows.lt_int h:wpAny (model prog w) A (compareOp .Lt (.int a t) (.int b u)) Q E s)
theorem Ew (l b:Addr) (a1 a2 b1 b2:Int) (t1 t2 u1 u2:Tok) (n n2:Nat) (dd T9:Option Addr) (sl Ph:Array (Option Value)) :
  Meets (Builtin.«tuple.__lt__» ⟨[.ref l,.ref b],[]⟩)
   (λz9 R s=>s.heap.get? l=some { cls:=.type "tuple",dict:=dd,data:=.seq #[.int a1 t1,.int a2 t2] n,slots:=sl }∧s.heap.get? b=some { cls:=.type "tuple",dict:=T9,data:=.seq #[.int b1 u1,.int b2 u2] n2,slots:=Ph } ∧
    R (.ok (.ret (.bool (decide (a1 < b1∨(a1=b1∧a2 < b2)))))) s) :=
 .of_wp λprog w A R s h=>by
  obtain ⟨hp,g,d,tk,os⟩:=s; refine bw h λhl hb h=>?_;have f2:=AutoSeq1.sub_tuple_tuple
  wp_walk using wpAny_loadPart' hl,wpAny_loadPart' hb,wpAny_eqBool_int
  by_cases e1:a1=b1
  ·subst e1;refine ae (show (a1 == a1)=true from beq_self_eq_true _) ?_
   wp_walk using wpAny_eqBool_int
   by_cases e2:a2=b2
   ·subst e2;refine ae (show (a2 == a2)=true from beq_self_eq_true _) ?_
    wp_walk
    refine ⟨_,rfl,?_⟩;simpa [Builtin.Tuple.tupleCompareSizes] using h
   ·refine ae (show (a2 == b2)=false from beq_eq_false_iff_ne.mpr e2) ?_
    wp_walk using GQ
    refine ⟨_,rfl,?_⟩;simpa using h
  ·refine ae (show (a1 == b1)=false from beq_eq_false_iff_ne.mpr e1) ?_
   wp_walk using GQ
   refine ⟨_,rfl,?_⟩;simpa [e1] using h
theorem Eu (l b:Addr) (a1 a2 b1 b2:Int) (t1 t2 u1 u2:Tok) (n n2:Nat) (dd T9:Option Addr) (sl Ph:Array (Option Value)) :
  Meets (Builtin.«tuple.__ne__» ⟨[.ref l,.ref b],[]⟩)
   (λz9 R s=>s.heap.get? l=some { cls:=.type "tuple",dict:=dd,data:=.seq #[.int a1 t1,.int a2 t2] n,slots:=sl }∧s.heap.get? b=some { cls:=.type "tuple",dict:=T9,data:=.seq #[.int b1 u1,.int b2 u2] n2,slots:=Ph } ∧
    R (.ok (.ret (.bool (!decide (a1=b1∧a2=b2))))) s) :=
 .of_wp λprog w A R s h=>by
  obtain ⟨hp,g,d,tk,os⟩:=s; refine bw h λhl hb h=>?_;have f2:=AutoSeq1.sub_tuple_tuple
  wp_walk using wpAny_loadPart' hl,wpAny_loadPart' hb,wpAny_eqBool_int
  by_cases e1:a1=b1
  ·subst e1;refine ae (show (a1 == a1)=true from beq_self_eq_true _) ?_
   wp_walk using wpAny_eqBool_int
   by_cases e2:a2=b2
   ·subst e2;refine ae (show (a2 == a2)=true from beq_self_eq_true _) ?_
    wp_walk
    refine ⟨_,rfl,?_⟩;simpa [Builtin.Tuple.tupleCompareSizes] using h
   ·refine ae (show (a2 == b2)=false from beq_eq_false_iff_ne.mpr e2) ?_
    wp_walk
    refine ⟨_,rfl,?_⟩;simpa [e2] using h
  ·refine ae (show (a1 == b1)=false from beq_eq_false_iff_ne.mpr e1) ?_
   wp_walk
   refine ⟨_,rfl,?_⟩;simpa [e1] using h
section
variable {S:Setup}{A:Around}{Qg:Heap}{L:Addr}{E:Value->Shared->Prop}{m:Loc}{C F:Led}{env:Env}{n:Nat}
theorem zh {l b:Addr}{a1 a2 b1 b2:Int}{t1 t2 u1 u2:Tok}{Q:Value->Loc->Led->Prop} (G:Gd S n A Qg L env) (hl:wa C l [.int a1 t1,.int a2 t2]) (hb:wa C b [.int b1 u1,.int b2 u2])
  (h:Q (.bool (decide (a1 < b1∨(a1=b1∧a2 < b2)))) m C):W S A Qg L E (compareOp .Lt (.ref l) (.ref b)) m C Q:=.mk λF s R=>by
 refine aQ hl λk hl=>?_;refine aQ hb λk' hb=>?_
 have q_:=R.get hl;have fC:=R.get hb;exact richCompare_meets_room (op:=.Lt) ⟨_,q_,rfl⟩ ⟨_,fC,rfl⟩ PySem.F.slot_tuple_lt PySem.F.entry_tuple_lt (PySem.F.args_tuple_lt_2 _ _) (Ew l b a1 a2 b1 b2 t1 t2 u1 u2 k k' none none #[] #[])
  ⟨q_,fC,(by intro e; injection e),m,C,R,h⟩ (by have:=G.u; exact Nat.lt_of_lt_of_le (by walk_at "A") (Qf this))
theorem zg {l b:Addr}{a1 a2 b1 b2:Int}{t1 t2 u1 u2:Tok}{Q:Value->Loc->Led->Prop} (G:Gd S n A Qg L env) (hl:wa C l [.int a1 t1,.int a2 t2]) (hb:wa C b [.int b1 u1,.int b2 u2])
  (h:Q (.bool (!decide (a1=b1∧a2=b2))) m C):W S A Qg L E (compareOp .NotEq (.ref l) (.ref b)) m C Q:=.mk λF s R=>by
 refine aQ hl λk hl=>?_;refine aQ hb λk' hb=>?_
 have q_:=R.get hl;have fC:=R.get hb;exact richCompare_meets_room (op:=.NotEq) ⟨_,q_,rfl⟩ ⟨_,fC,rfl⟩ PySem.F.slot_tuple_ne PySem.F.entry_tuple_ne (PySem.F.args_tuple_ne_2 _ _) (Eu l b a1 a2 b1 b2 t1 t2 u1 u2 k k' none none #[] #[])
  ⟨q_,fC,(by intro e; injection e),m,C,R,h⟩ (by have:=G.u; exact Nat.lt_of_lt_of_le (by walk_at "A") (Qf this))
theorem Ln {body orelse:List Stmt}{hd:ExceptHandler}{hs:List ExceptHandler}{pos:Pos}{Q:Flow->Loc->Led->Prop} (h:W S A Qg L (λz9 z8=>False) (execs body env) m C (nC S A Qg L E orelse env Q)) :
  W S A Qg L E (exec (.Try body (hd::hs) orelse [] pos) env) m C Q:=.mk2 λF s R=>by
 refine wpAny_Try_except (wpAny_mono (h.go F s R) (λf s' z=>?_) λz9 z8 z=>z.elim);obtain ⟨m',C',R',q⟩:=z;cases f <;> first | exact W.go q F s' R' | exact ⟨m',C',R',q⟩
end
section
variable {S:Setup}{A:Around}{Qg:Heap}{L:Addr}{E:Value->Shared->Prop}{m:Loc}{C F:Led}{env:Env}{n:Nat}
theorem aB {C:Led}{a:Addr}{o:Obj} (h:C a=none):∀ z x,C z=some x->upd C a o z=some x:=λz x e=>(ag _ _ λq=>by rw [q] at e; exact bo h e).trans e
theorem k_ {C:Led}{a b:Addr}{o:Obj} (h:upd C b o a=none):C a=none∧a≠b:=by
 by_cases q:a=b
 ·subst q; exact bo h (af ..)
 ·exact ⟨(ag _ _ q).symm.trans h,q⟩
theorem bR.movedTo {s s':Shared} (R:bR S Qg L m C F s) (wr:List Addr) (hk:∀ b o,b ∉ wr->s.heap.get? b=some o->s'.heap.get? b=some o) (hw:∀ b∈wr,b≠L∧Qg.get? b=none∧join C F b=none) (hg:s'.gens=s.gens) (ho:s'.os=s.os) (Jz:s'.drawn=s.drawn):bR S Qg L m C F s':=by
 refine cz R.fr.ns λoL es ep hL hr=>?_;refine ⟨⟨⟨⟨oL,es,ep,hk L oL (λq=>(hw L q).1 rfl) hL,hr⟩,λb o e=>hk b o (λq=>?_) (R.fr.keep b o e),R.fr.above⟩,λb o e=>⟨hk b o (λq=>?_) (R.r.N b o e).1,(R.r.N b o e).2⟩,by refine ae hg ?_; exact R.r.g,by refine ae ho (ae Jz ?_); exact R.r.o⟩,R.d⟩
 ·exact bo ((hw b q).2.1) e
 ·exact bo ((hw b q).2.2) e
theorem mV {s:Shared}{x dx c f fl rl:Addr}{od:Obj}{vs:List Value}{Q:List Value->Shared->Prop} (G:Gd S (n+2) A Qg L env) (R:Rel S Qg L m C F s) (hx:C x=some (instObj c dx)) (hd:C dx=some od)
  (hki:bM S.K c "__iter__" f=true) (YB:∀ C',(∀ z o,C z=some o->C' z=some o)->Spec S n (.ref f) [.ref x] [] C' λr cf=>∃ a,r=.ref a∧C' a=none∧cf=upd C' a (lit rl 0))
  (OA:bM S.K c "__len__" fl=true) (YA:∀ C',(∀ z o,C z=some o->C' z=some o)->Spec S n (.ref fl) [.ref x] [] C' λr cf=>(∃ t,r=.int vs.length t)∧cf=C')
  (hl:cN C rl vs) (hz:vs.length≤1000) (h:∀ s',Rel S Qg L m C F s'->Q vs s'):wpAny (model S.prog S.w) A (collect (.ref x)) Q E s:=by
 have Gi:=G.in1;obtain ⟨T,tb,dj,R⟩:=R;unfold collect;refine wpAny_bind (wpAny_runValue (codeAny_builtin entry_proto_collect' ?_));refine ae (Around.under_plainId PySem.F.plain_proto_collect _) ?_;show wpAny _ A.in1 (newList [] >>= λl=>again (.builtin "list.__iadd__" ⟨[l,.ref x],[]⟩)) _ _ s;refine wpAny_bind (wpAny_newObj_type ?_);refine wpAny_pure ⟨plainId_quiet PySem.F.plain_list_iadd _,codeAny_builtin entry_list_iadd' ?_⟩;refine ae (Around.under_plainId PySem.F.plain_list_iadd _) ?_;have R1:=R.push (listOf ([]:List Value).toArray 0);have fD:=R.fresh_size (Nat.le_refl s.heap.objs.size);generalize hD:s.heap.objs.size=D at *;have hxD:x≠D:=λe=>by rw [e] at hx; exact bo fD.1 hx
 have hdD:dx≠D:=λe=>by rw [e] at hd; exact bo fD.1 hd
 have rJ:=aB (o:=listOf ([]:List Value).toArray 0) fD.1;show wpAny _ A.in1 (Builtin.List.listExtendWith (.ref D) (.ref x) (.ref D)) _ _ _;unfold Builtin.List.listExtendWith;refine wpAny_bind ((mD R1 (rJ _ _ hx)).here ?_);have h1:Builtin.List.listSameRef (.ref D) (.ref x)=false:=by simp [Builtin.List.listSameRef,Ne.symm hxD]
 have h2:(Value.ref c == Value.type "list")=false:=rfl;have h3:(Value.ref c == Value.type "tuple")=false:=rfl;simp only [h1,h2,h3,Bool.or_false,Bool.false_eq_true,if_false];refine wpAny_bind ((fV (vs:=vs) (Q:=λv m' C'=>∃ a,v=.ref a∧m'=m∧upd C D (listOf ([]:List Value).toArray 0) a=none∧C'=upd (upd C D (listOf ([]:List Value).toArray 0)) a (lit rl 0)) Gi (rJ _ _ hx) (rJ _ _ hd) hki ((YB _ rJ).le (Nat.le_succ n)) λa ha=>⟨a,rfl,rfl,ha,rfl⟩).run (R1.rel tb dj) λv m' C' s2 R2 q=>?_);refine c9 q λa ak e ha aZ=>?_; clear q; subst ak; subst aZ
 obtain rfl:m=m':=e.symm;clear e;have uw:∀ z o,C z=some o->upd (upd C D (listOf ([]:List Value).toArray 0)) a (lit rl 0) z=some o:=λz o e=>aB ha z o (rJ z o e)
 have Nv:D≠a:=λe=>by rw [← e] at ha; exact bo ha (af ..)
 refine wpAny_bind (wpAny_holding ?_);unfold Builtin.List.listLengthHint;refine aS (fB OA) λk1 k2=>?_;refine wpAny_bind (wpAny_bind ((ew R2 (uw _ _ hx) (uw _ _ hd)).type.here ((looks_findIn (G.X.keeps R2.fr.keep) k1).here ?_)))
 refine wpAny_ite_split (λq=>absurd q Bool.false_ne_true) (λz9=>?_);refine wpAny_ite_split (λz9=>?_) (λq=>absurd rfl q);refine wpAny_bind (wpAny_rule ?_);refine wpAny_bind (wpAny_attempt ((qL (k:=vs.length) (R:=λC'=>C'=upd (upd C D (listOf ([]:List Value).toArray 0)) a (lit rl 0)) (Q:=λv m' C'=>∃ t,v=.int vs.length t∧m'=m∧C'=upd (upd C D (listOf ([]:List Value).toArray 0)) a (lit rl 0)) Gi (uw _ _ hx) (uw _ _ hd) OA (Nat.lt_of_le_of_lt hz (Nat.le_add_left (Nat.succ 1000) 9223372036854774807))
  (YA _ uw) λt C' e=>⟨t,rfl,rfl,e⟩).run R2 λv m' C' s3 R3 q=>?_))
 refine bF q λt ak e aZ=>?_; clear q; subst ak; subst aZ
 obtain rfl:m=m':=e.symm;clear e;dsimp only;refine wpAny_bind (wpAny_of_eq (a:=some (vs.length:Int)) (by rfl) ?_);dsimp only;refine wpAny_ite_split (λq=>?_) (λz9=>?_)
 ·simp only [Builtin.List.listTooLong,Int.toNat_natCast,sizeLine_eq,gt_iff_lt,decide_eq_true_eq] at q;exact absurd hz (Nat.not_le_of_gt (Nat.lt_of_le_of_lt (by decide) q))
 refine wpAny_pure ?_;have JN:=R3.free;have R4:=R3.hideAt ha;have vH:=R4.free;have R5:=R4.hideAt fD.1;have iG:rl≠D∧rl≠a:=by
  refine aQ hl λk hk=>?_; clear hl
  exact ⟨λe=>(by rw [e] at hk; exact bo fD.1 hk),λe=>(by rw [e] at hk; exact bo ((k_ ha).1) hk)⟩
 have key:∀ (s4:Shared) (k:Nat),Rel S Qg L m C (upd (upd F a (lit rl 0)) D (listOf ([]:List Value).toArray k)) s4->codeAny (model S.prog S.w) A (.builtin "list.extend.loop" ⟨[.ref D,.ref a,.ref D],[]⟩) (λr s'=>match r with
   | .ok (.ret v)=>wpAny (model S.prog S.w) A (match v with
    | .ref a=>do
     let o ← load a
     match o.data with
     | .seq xs _=>Pure.pure xs.toList
     | _=>unsupported "internal:collect"
    | _=>unsupported "internal:collect") Q E s'
   | .ok _=>False
   | .error e=>E e s') s4:=by
  intro s4 k R6;have OU:=R6.hidN vH;refine bE (R6.hidOpen vH) λT6 UC XN n6 n5 R6=>?_;have n4:T6 a=none:=(XN a).resolve_left λe=>by exact bo e (af ..)
  have OY:=R6.hid_drop (h':=s4.heap) n5 λz9 z8 z7 e=>e
  have To:=OY.r.N a (lit rl 0) (aT OY.d (by rw [bJ]; exact af _ _ _));rw [bJ] at OY;have R7:=OY.hid_drop (h':=s4.heap) (by unfold join; refine ae JN (ae n4 ?_); rfl) λz9 z8 z7 e=>e
  have Tw:F D=none:=by rw [ag _ _ Nv] at vH; exact vH
  refine codeAny_extend_loopS (Walks.list (A:=A.in1) (prog:=S.prog) (w:=S.w) G.hh a rl iG.2 vs.toArray).toS (by refine ae List.size_toArray (ae sizeLine_eq ?_); exact Qb hz (Nat.le_add_left 1000 16776216)) D (by simp [Nv,Ne.symm iG.1]) (.ref D) _ 0 s4 #[] k rfl (Nat.zero_le _) ⟨⟨_,To.1,rfl,rfl⟩,R7.isList hl⟩ OU.1 (PySem.ItemsOf.nil _) λs' GF c' hm Np Nl=>?_;show wpAny _ A (load D >>= _) _ _ _
  refine wpAny_bind (wpAny_load Np (wpAny_pure ?_));have e:GF.toList=vs:=by
   refine List.ext_getElem? λj=>?_;have jw:GF.toList.length=vs.length:=by refine ae Array.length_toList (ae Nl.1 ?_); simp
   by_cases hj:j < vs.length
   ·have q:GF[j]?=some (GF.toList[j]'(Nat.lt_of_not_le λq=>Ql (Qa (Qc (Eq.symm jw)) (Qa (Qf hj) q)))):=by refine eI Array.getElem?_toList ?_; exact List.getElem?_eq_getElem _
    have:=Nl.2 j _ q;rw [← Array.getElem?_toList] at q;refine ae q ?_;simpa using this.symm
   ·exact ae (List.getElem?_eq_none (Qd λq=>Ql (Qa (Qc jw) (Qa (Qd hj) q)))) (ae (List.getElem?_eq_none (Nat.le_of_lt_succ (Nat.lt_of_not_le hj))) rfl)
  refine ae e ?_;refine h s' ⟨T6,UC,XN.drop JN,R7.movedTo [D,a] (λb o hb e=>hm.heap b o (by simpa using hb) e) (λb hb=>?_) hm.gens hm.os hm.drawn⟩;rcases List.mem_cons.mp hb with rfl | hb
  ·refine ⟨OU.2.1,OU.2.2,?_⟩;unfold join; refine ae fD.1 (ae Tw (ae n6 ?_)); rfl
  ·refine ae (List.mem_singleton.mp hb) ?_;refine ⟨To.2.1,To.2.2,?_⟩;unfold join; refine ae ((k_ ha).1) (ae JN (ae n4 ?_)); rfl
 refine wpAny_ite_split (λz9=>?_) (λz9=>wpAny_pure ⟨plainId_quiet PySem.F.plain_extend_loop _,key _ 0 R5⟩);refine wpAny_bind (wpAny_rule (wpAny_bind ?_));have Hv:=(R5.hidN vH).1;show wpAny _ _ (updateSeq D (·.push .none) >>= λz9=>updateSeq D (·.pop)) _ _ _;refine wpAny_bind (wpAny_updateSeq Hv rfl ?_);have Ds:=Heap.get?_update_self (Obj.mapSeq (·.push Value.none)) Hv rfl;refine wpAny_updateSeq (hz:=by seq_fits) Ds rfl ?_;have Nn:=Heap.get?_update_self (Obj.mapSeq (·.pop)) Ds rfl;have R6:=R5.hid_change vH (Heap.SameBut.update _ _ _) Ds;have R7:=R6.hid_change vH (Heap.SameBut.update _ _ _) Nn;exact wpAny_pure ⟨plainId_quiet PySem.F.plain_extend_loop _,key _ _ R7⟩
end
noncomputable def reach (es:List (Nat×Nat)):Nat->Nat->Nat->Bool
 | 0,a,b=>a == b
 | f+1,a,b=>a == b || es.any λe=>e.1 == a && reach es f e.2 b
noncomputable def chainOk (es:List (Nat×Nat)) (n:Nat):List Nat->Bool
 | a::b::r=>reach es n a b && chainOk es n (b::r)
 | _=>true
noncomputable def j_ (n:Nat):List (Nat×Nat)->KasT (Array Nat)->Bool
 | es,.ret p=>p.toList.isPerm (List.range n) && chainOk es n p.toList
 | es,.ask i j k=>decide (i < n) && decide (j < n) && j_ n ((i,j)::es) (k true) && j_ n ((j,i)::es) (k false)
theorem yU:∀ n,n < 7->2≤n->j_ n [] (kas_sort n)=true:=by decide +kernel
theorem j8 {n:Nat} (h:2≤n) (h':n≤6):j_ n [] (kas_sort n)=true:=yU n (Nat.lt_succ_of_le h') h
structure lQ (lt:Nat->Nat->Bool):Prop where
 asym:∀ i j,lt i j=true->lt j i=false
 trans:∀ i j k,lt j i=false->lt k j=false->lt k i=false
theorem lQ.refl {lt:Nat->Nat->Bool} (o:lQ lt) (i:Nat):lt i i=false:=by
 cases e:lt i i with
 | false=>rfl
 | true=>rw [← e]; exact o.asym i i e
theorem mF {lt:Nat->Nat->Bool} (o:lQ lt) {es:List (Nat×Nat)} (he:∀ e∈es,lt e.2 e.1=false):∀ f a b,reach es f a b=true->lt b a=false
 | 0,a,b,h=>by
  have:a=b:=eq_of_beq (show (a == b)=true from h);subst this; exact o.refl a
 | f+1,a,b,h=>by
  replace h:(a == b || es.any λe=>e.1 == a && reach es f e.2 b)=true:=h;simp only [Bool.or_eq_true,beq_iff_eq,List.any_eq_true,Bool.and_eq_true] at h;rcases h with rfl | ⟨e,hm,h1,h2⟩
  ·exact o.refl a
  ·subst h1;exact o.trans _ _ _ (he e hm) (mF o he f _ _ h2)
noncomputable def DU (lt:Nat->Nat->Bool) (l:List Nat):Prop:=l.Pairwise λa b=>lt b a=false
theorem mW {lt:Nat->Nat->Bool} (o:lQ lt) {es:List (Nat×Nat)} (he:∀ e∈es,lt e.2 e.1=false) (n:Nat):∀ l,chainOk es n l=true->DU lt l
 | [],_=>.nil
 | [a],_=>List.pairwise_singleton _ _
 | a::b::r,h=>by
  replace h:(reach es n a b && chainOk es n (b::r))=true:=h;simp only [Bool.and_eq_true] at h;have ih:=mW o he n (b::r) h.2;have Ek:=mF o he _ _ _ h.1;refine List.pairwise_cons.mpr ⟨λc hc=>?_,ih⟩;rcases List.mem_cons.mp hc with rfl | hc
  ·exact Ek
  ·exact o.trans _ _ _ Ek ((List.pairwise_cons.mp ih).1 c hc)
theorem jb {cmp:Nat->Nat->(Bool->Shared->Prop)->Shared->Prop}{lt:Nat->Nat->Bool} (o:lQ lt) {I:Shared->Prop}{n:Nat}{Q:Array Nat->Shared->Prop}
  (ask:∀ i j C s,i < n->j < n->I s->(∀ s',I s'->C (lt i j) s')->cmp i j C s)
  (fin:∀ p s,p.toList.Perm (List.range n)->DU lt p.toList->I s->Q p s) :
  ∀ (t:KasT (Array Nat)) es s,(∀ e∈es,lt e.2 e.1=false)->j_ n es t=true->I s->t.kasWp cmp Q s
 | .ret p,es,s,he,h,hi=>by
  replace h:(p.toList.isPerm (List.range n) && chainOk es n p.toList)=true:=h;simp only [Bool.and_eq_true,List.isPerm_iff] at h;exact fin p s h.1 (mW o he n _ h.2) hi
 | .ask i j k,es,s,he,h,hi=>by
  replace h:(decide (i < n) && decide (j < n) && j_ n ((i,j)::es) (k true) && j_ n ((j,i)::es) (k false))=true:=h;simp only [Bool.and_eq_true,decide_eq_true_eq] at h;refine ask i j _ s h.1.1.1 h.1.1.2 hi λs' AV=>?_;show ((k (lt i j)).kasWp cmp Q s')
  cases e:lt i j with
  | true =>
   refine jb o ask fin (k true) _ s' (λx hx=>?_) h.1.2 AV;rcases List.mem_cons.mp hx with rfl | hx
   ·exact o.asym _ _ e
   ·exact he x hx
  | false =>
   refine jb o ask fin (k false) _ s' (λx hx=>?_) h.2 AV;rcases List.mem_cons.mp hx with rfl | hx
   ·exact e
   ·exact he x hx
section
variable {S:Setup}{A:Around}{Qg:Heap}{L:Addr}{E:Value->Shared->Prop}{m:Loc}{C F:Led}{env:Env}{n:Nat}
theorem Bt {x T:Value}{vs:List Value}{lt:Nat->Nat->Bool}{Q:Value->Loc->Led->Prop} (o:lQ lt) (h2:2≤vs.length) (h6:vs.length≤6)
  (gz:∀ E F s Q,Rel S Qg L m C F s->(∀ s',Rel S Qg L m C F s'->Q vs s')->wpAny (model S.prog S.w) A.in1 (collect x) Q E s)
  (hT:∀ (M:Model) C' F s,(∀ z o,C z=some o->C' z=some o)->Rel S Qg L m C' F s->∀ v∈vs,Looks M s.heap (typeOf v) T) (mR:(T != Value.type "tuple" && (T != Value.type "int" && T == T))=true)
  (ask:∀ i j C' F s Q,i < vs.length->j < vs.length->(∀ z o,C z=some o->C' z=some o)->Rel S Qg L m C' F s →
   (∀ cf s',(∀ z o,C' z=some o->cf z=some o)->Rel S Qg L m cf F s'->Q (lt i j) s')->wpAny (model S.prog S.w) A.in1.in1 (keyLt' oneType' (vs.getD i .none) (vs.getD j .none)) Q (λz9 z8=>False) s)
  (fin:∀ D p k C',p.Perm (List.range vs.length)->DU lt p->(∀ z o,C z=some o->C' z=some o)->C' D=none->Q (.ref D) m (upd C' D (listOf (p.map λi=>vs.getD i .none).toArray k))) :
  W S A Qg L E (call (.builtin "sorted") [x]) m C Q:=.mk2 λF s R=>by
 simp only [Bool.and_eq_true] at mR;refine Calls.call_function_entry kind_sorted plain_sorted entry_sorted (args_sorted1 _) ?_;unfold Builtin.«sorted»;refine wpAny_bind (m:=checkCount "sorted" 1 1 _) (wpAny_pure ?_);refine wpAny_bind (gz _ F s _ R λaC bQ=>?_);obtain ⟨lL,tb,dj,bQ⟩:=bQ;refine wpAny_bind (wpAny_newList ?_ (by refine ae sizeLine_eq ?_; exact Qb h6 (Nat.le_add_left 6 16777210)));have d_:=bQ.push (seqObj "list" vs.toArray 0);have fD:=bQ.fresh_size (Nat.le_refl _);generalize hD:aC.heap.objs.size=D at *;have I_:=d_.get (af C D _);refine aF bQ.list λl N hl=>?_;have di:=d_.hideAt fD.1 fD.2
 have tD:=(join_none fD.2).1;have NX:=(join_none fD.2).2;have Aq:=di.r.N D _ (aT di.d (af _ D _));have CV:∀ b x,aC.heap.get? b=some x->(aC.heap.push (seqObj "list" vs.toArray 0)).get? b=some x:=λb x e=>Heap.get?_push_of_some _ e
 show wpAny _ _ _ _ _ { aC with heap:=aC.heap.push (seqObj "list" vs.toArray 0) };refine wpAny_bind (wpAny_holding (wpAny_call_entry slot_list_sort ⟨_,I_,rfl⟩ entry_list_sort ?body (args_list_sort _)))
 case body =>
  refine kas_list_sort (news:=l) (vs:=vs) (T:=T) (s:={ aC with heap:=aC.heap.push (seqObj "list" vs.toArray 0) }) d_.fr (N.grown CV) I_ Aq.2.1 Aq.2.2 (λp hp q=>?_) h2 (by exact Nat.lt_of_le_of_lt h6 (Nat.le_add_left (Nat.succ 6) 57)) (λe1 h' F' N'=>?_) mR.1 mR.2.2 λe1 h' F' N'=>?_
  ·have:=Heap.lt_size (N p hp).1;rw [hD,q] at this;exact Nat.lt_irrefl _ this
  all_goals
   have RR:bR S Qg L m C (upd (join F lL) D (listOf ([]:List Value).toArray e1)) { aC with heap:=h' }:=by
    refine ⟨⟨F',λb x e=>?_,bQ.r.g,bQ.r.o⟩,λb=>?_⟩
    ·by_cases q:b=D
     ·subst q;unfold join at e;rw [fD.1,af] at e;replace e:=Option.some.inj e; subst e;exact N' _ (.head _)
     ·refine N' _ (.tail _ (hl b x ?_));unfold join at e ⊢;rw [ag _ _ q] at e;exact e
    ·by_cases q:b=D
     ·exact .inl (q▸fD.1)
     ·exact ae (ag _ _ q) (bQ.d b)
  ·exact hT _ _ _ _ (λz9 z8 e=>e) (RR.hidClose tb dj NX)
  ·refine jb o (I:=λs'=>∃ C',(∀ z o,C z=some o->C' z=some o)∧Rel S Qg L m C' (upd F D (listOf ([]:List Value).toArray e1)) s') (λi j K s' hi hj ⟨C',hC,R'⟩ hK=>?_) (λp s' hp hr ⟨C',hC,R'⟩=>?_) _ [] _ (λz9 h=>nomatch h) (j8 h2 h6) ⟨C,λz9 z8 e=>e,RR.hidClose tb dj NX⟩
   ·exact ask i j C' _ s' K hi hj hC R' λcf fK tN dR=>hK fK ⟨cf,λz o e=>tN z o (hC z o e),dR⟩
   ·have Dv:C' D=none:=R'.own tD;refine bE (R'.hidOpen tD) λTx HQ JT nx n1 R'=>?_;have R4:=R'.unhide n1
    refine bF (R4.pick (af C' D _)) λls N4 a mQ=>?_;refine KasFin.intro R4.fr N4 (UpdF.head a) λh5 c F5 N5=>?_
    refine ⟨_,rfl,wpAny_pure ⟨_,rfl,m,_,?_,fin D p.toList c C' hp hr hC Dv⟩⟩;have:=R4.of_pick (o':=listOf (p.toList.map λi=>vs.getD i .none).toArray c) (tk:=s'.toks) (af C' D _) mQ F5 N5;have e:upd (upd C' D (listOf ([]:List Value).toArray e1)) D (listOf (p.toList.map λi=>vs.getD i .none).toArray c)=upd C' D (listOf (p.toList.map λi=>vs.getD i .none).toArray c):=by
     funext b; unfold upd; split <;> rfl
    rw [e] at this;exact ⟨Tx,HQ,JT,this⟩
theorem Bf (vs:List Value):(arrOf (SortSt.mk' general' (vs.toArray.zip vs.toArray) #[] 7 none)).map (·.2)=vs.toArray:=by
 show (vs.toArray.zip vs.toArray).map (·.2)=vs.toArray;apply Array.toList_inj.mp;simp [Array.toList_map,Array.toList_zip];exact List.map_snd_zip (Nat.le_refl _)
theorem iV {x:Value}{vs:List Value}{Q:Value->Loc->Led->Prop} (h2:vs.length < 2)
  (gz:∀ E F s Q,Rel S Qg L m C F s->(∀ s',Rel S Qg L m C F s'->Q vs s')->wpAny (model S.prog S.w) A.in1 (collect x) Q E s)
  (fin:∀ D k C',(∀ z o,C z=some o->C' z=some o)->C' D=none->Q (.ref D) m (upd C' D (listOf vs.toArray k))) :
  W S A Qg L E (call (.builtin "sorted") [x]) m C Q:=.mk2 λF s R=>by
 refine Calls.call_function_entry kind_sorted plain_sorted entry_sorted (args_sorted1 _) ?_;unfold Builtin.«sorted»;refine wpAny_bind (m:=checkCount "sorted" 1 1 _) (wpAny_pure ?_);refine wpAny_bind (gz _ F s _ R λaC bQ=>?_);obtain ⟨lL,tb,dj,bQ⟩:=bQ;refine wpAny_bind (wpAny_newList ?_ (by refine ae sizeLine_eq ?_; exact Qb (by walk_at "A") (Qb (Qf h2) (by walk_at "A"))));have d_:=bQ.push (seqObj "list" vs.toArray 0);have fD:=bQ.fresh_size (Nat.le_refl _);generalize hD:aC.heap.objs.size=D at *;have di:=d_.hideAt fD.1 fD.2;have ho:=(di.r.N D _ (aT di.d (af _ D _))).1;show wpAny _ _ _ _ _ { aC with heap:=aC.heap.push (seqObj "list" vs.toArray 0) };refine wpAny_bind (wpAny_holding (wpAny_call_entry slot_list_sort ⟨_,ho,rfl⟩ entry_list_sort ?body (args_list_sort _)))
 case body =>
  refine ae (list_sort_plain _) ?_;refine wpAny_bind (listItems_at ho rfl ?_);refine wpAny_bind (listUpdate_at ho rfl ?_ (by refine ae List.size_toArray (ae sizeLine_eq ?_); exact Qb (by walk_at "A") (Qb (Qf h2) (by walk_at "A"))) (Nat.zero_le _));refine aQ (⟨_,get?_update_seq ho (λz9=>#[])⟩:∃ e1,((aC.heap.push (seqObj "list" vs.toArray 0)).update D (Obj.mapSeq λz9=>#[])).get? D=some (seqObj "list" #[] e1)) λe1 pd=>?_;have my:=di.hid_change (Heap.SameBut.update _ _ _) pd
  refine wpAny_bind (seqEpoch_at pd rfl ?_);refine wpAny_bind (wpAny_newTuple ?_ (by show vs.length≤_; exact ae sizeLine_eq (Qb (by walk_at "A") (Qb (Qf h2) (by walk_at "A")))));have g8:=my.push (seqObj "tuple" vs.toArray 0);have f5:=my.fresh_size (Nat.le_refl _);refine wpAny_bind (wpAny_newList ?_ (Nat.zero_le _));have DT:=g8.push (seqObj "list" #[] 0);have f6:=g8.fresh_size (Nat.le_refl _);refine wpAny_holding ?_;have MC:=(DT.r.N D _ (aT DT.d (af _ D _))).1;have vX:vs.toArray.size < 2:=by simpa using h2
  dsimp only;refine ae (if_pos vX) (ae (if_pos vX) ?_);refine wpAny_bind (wpAny_pure ?_);refine ae (StateT.run_pure _ _) ?_;refine wpAny_bind (wpAny_pure ?_);dsimp only;refine ae (Bf vs) ?_;refine wpAny_bind (seqEpoch_at MC rfl ?_);refine wpAny_bind (listUpdate_at MC rfl ?_ (Nat.zero_le _) (by refine ae List.size_toArray (ae sizeLine_eq ?_); exact Qb (by walk_at "A") (Qb (Qf h2) (by walk_at "A"))));simp only [bne_self_eq_false,Bool.false_eq_true,if_false];refine aQ (⟨_,get?_update_seq MC (λz9=>vs.toArray)⟩:∃ e2,Heap.get? (Heap.update _ D (Obj.mapSeq λz9=>vs.toArray)) D=some (seqObj "list" vs.toArray e2)) λe2 RP=>?_;have Ul:=(DT.hid_change (Heap.SameBut.update _ _ _) RP).unhide fD.2
  refine wpAny_pure ⟨_,rfl,wpAny_pure ⟨_,rfl,m,_,⟨lL,tb,dj,Ul⟩,fin D e2 _ (λz o e=>aB f6.1 z o (aB f5.1 z o e)) ?_⟩⟩;have n1:D≠_:=Nat.ne_of_lt (Heap.lt_size (g8.r.N D _ (aT g8.d (af _ D _))).1);have n2:D≠_:=Nat.ne_of_lt (Heap.lt_size (my.r.N D _ (aT my.d (af _ D _))).1);refine ae (ag _ _ n1) (ae (ag _ _ n2) ?_);exact fD.1
end
noncomputable def HH (S:Setup) (n:Nat) (f:Value) (args:List Value) (C:Led) (R:Value->Led->Prop):Prop :=
 ∀ (A:Around) (s:Shared) (Qg:Heap),S.K.In Qg->TopRead S.p S.loose S.mg S.mb Qg->(∀ b o,Qg.get? b=some o->s.heap.get? b=some o)->A.depth+2 * n < recursionLimit->A.units+8 * n < cLine->A.handled=none →
  (∀ a o,C a=some o->s.heap.get? a=some o∧Qg.get? a=none)->S.gn s.gens->(s.os=S.os∧s.drawn=S.dr) →
  codeAny (model S.prog S.w) A (.call f ⟨args,[]⟩) (λr s'=>match r with
   | .ok (.ret v)=>∃ C',R v C'∧(∀ a o,C' a=some o->s'.heap.get? a=some o)∧(∀ b o,s.heap.get? b=some o->C b=none->s'.heap.get? b=some o)∧S.gn s'.gens∧(s'.os=S.os∧s'.drawn=S.dr)
   | _=>False) s
theorem yS {S:Setup}{n:Nat}{C:Led}{name qual:Str}{params:Arguments}{body:List Stmt}{scope:Scope}{dV kV doc pm eN ct oc:Value}{an od:Option Addr}{xY:Array (Option Value)}{f:Addr}{args:List Value}
  {binds:List (Str×Value)}{R:Value->Led->Prop}
  (ho:S.K.lookup f=some ⟨oc,od,.func (fnOf name qual params body scope dV kV doc pm an eN ct),xY⟩)
  (gm:∀ s,S.K.In s.heap->BindsTo s (fnOf name qual params body scope dV kV doc pm an eN ct) ⟨args,[]⟩ binds) (hp:plainDef S.K scope eN qual (binds.map (·.1))=true)
  (h:∀ A Qg L E,Gd S n A Qg L (envOf qual scope L f eN) →
   ∀ Q,pV R Q->W S A Qg L E (execs body (envOf qual scope L f eN)) (λy=>binds.reverse.lookup y) C Q)
  (tK:∀ a,S.tb a=false∧S.cd a=none):HH S (n+1) (.ref f) args C R:=by
 simp only [plainDef,Bool.and_eq_true,Bool.not_eq_true',List.all_eq_true,beq_iff_eq,bne_iff_ne,ne_eq] at hp;refine aS hp λak hk=>?_; clear hp; obtain ⟨⟨⟨⟨iJ,h2⟩,cF⟩,rh⟩,pz⟩:=ak
 intro A s Qg X T hs Na hun hh hC jZ I8;refine aQ (ya C s.heap.objs.size) λl hl=>?_;have Xs:S.K.In s.heap:=X.keeps hs
 have inl:∀ a o,C a=some o->(a,o)∈l:=λa o e=>(hl a o).mpr ⟨Heap.lt_size (hC a o e).1,e⟩
 have nm:∀ b o,Qg.get? b=some o->b ∉ l.map (·.1):=λb o e q=>by
  refine aF (List.mem_map.mp q) λp hp ak=>?_; subst ak
  exact bo ((hC p.1 p.2 ((hl p.1 p.2).mp hp).2).2) e
 have Y0:∀ b,C b=none->b ∉ l.map (·.1):=λb e q=>by
  refine aF (List.mem_map.mp q) λp hp ak=>?_; subst ak
  exact bo e (((hl p.1 p.2).mp hp).2)
 refine aQ (⟨_,rfl⟩:∃ g,g=hideAll s.heap (l.map (·.1))) λg hg=>?_;have jw:g.objs.size=s.heap.objs.size:=by exact ae hg (hideAll_size _ _)
 have nO:∀ b o,g.get? b=some o->s.heap.get? b=some o:=λb o e=>by rw [hg] at e; exact of_hideAll _ e
 have en:∀ b o,Qg.get? b=some o->g.get? b=some o:=λb o e=>by exact ae hg (hideAll_get _ (hs b o e) (nm b o e))
 refine codeAny_call_def (fd:=fnOf name qual params body scope dV kV doc pm an eN ct) (body:=body) (binds:=binds) (Nat.lt_of_lt_of_le (by walk_at "A") (Qf Na)) (Xs _ _ ho) rfl (T.nolimit.keeps hs) (codeRec_of Xs iJ) rfl
  (gm s Xs) cF (λy hy=>h2 _ (List.mem_map_of_mem hy)) (λek vA gF=>?_) rh pz hk
 have G':Gd S n (A.deeper (envOf qual scope s.heap.objs.size f eN)) g s.heap.objs.size (envOf qual scope s.heap.objs.size f eN):=by
  refine ⟨X.keeps en,T.keeps en,hk,?_,?_,hh,rfl,rfl,rfl⟩
  ·show A.depth+1+2 * n < _;exact Nat.lt_of_lt_of_le (by walk_at "A") (Qf Na)
  ·show A.units+3+8 * n < _;exact Nat.lt_of_lt_of_le (by walk_at "A") (Qf hun)
 have jn:∀ a,join C (λz9=>none) a=C a:=λa=>by unfold join; cases C a <;> rfl
 have bQ:bR S g s.heap.objs.size (λy=>binds.reverse.lookup y) C (λz9=>none) { s with heap:=ek,toks:=s.toks+binds.length }:=by
  refine ⟨⟨⟨vA,λb o e=>gF b o (nO b o e),Qc jw⟩,λa o e=>?_,jZ,I8⟩,λz9=>.inr rfl⟩;rw [jn] at e;refine ⟨gF _ _ (hC a o e).1,Nat.ne_of_lt (Heap.lt_size (hC a o e).1),?_⟩;exact ae hg (hideAll_none _ (List.mem_map_of_mem (inl a o e)))
 refine wpAny_mono ((h _ g _ (λz9 z8=>False) G' _ (pV.refl R)).go _ _ (bR.rel (F:=λz9=>none) (T:=λz9=>none) (by refine ae (show join (λz9=>none) (λz9=>none)=((λz9=>none):Led) from rfl) ?_; exact bQ) ⟨(λa q=>by rw [(tK a).1] at q; exact mi q),(λa o q=>by exact bo ((tK a).2) q)⟩ λz9=>.inl rfl)) (λfl s' z=>?_) λz9 z8 z=>z.elim
 walk_at "bh";obtain ⟨m',C',⟨F',-,-,r'⟩,q⟩:=z;walk_at "ch";refine ⟨C',q,λa o e=>r'.get e,λb o e hb=>r'.fr.keep b o ?_,r'.r.g,r'.r.o⟩;exact ae hg (hideAll_get _ e (Y0 b hb))
theorem bR.movedG {S:Setup}{Qg:Heap}{L:Addr}{m:Loc}{C F:Led}{s s':Shared} (R:bR S Qg L m C F s) (wr:List Addr) (hk:∀ b o,b ∉ wr->s.heap.get? b=some o->s'.heap.get? b=some o) (hw:∀ b∈wr,b≠L∧Qg.get? b=none∧join C F b=none) (hg:S.gn s'.gens) (ho:s'.os=s.os) (Jz:s'.drawn=s.drawn):bR S Qg L m C F s':=by
 refine cz R.fr.ns λoL es ep hL hr=>?_;refine ⟨⟨⟨⟨oL,es,ep,hk L oL (λq=>(hw L q).1 rfl) hL,hr⟩,λb o e=>hk b o (λq=>?_) (R.fr.keep b o e),R.fr.above⟩,λb o e=>⟨hk b o (λq=>?_) (R.r.N b o e).1,(R.r.N b o e).2⟩,hg,by refine ae ho (ae Jz ?_); exact R.r.o⟩,R.d⟩
 ·exact bo ((hw b q).2.1) e
 ·exact bo ((hw b q).2.2) e
noncomputable def DR (o:Obj) (ps:Array Value):Prop:=TriplesOk ps.toList∧o={ cls:=.none,data:=.fields ps }
noncomputable def dZ (C:Led) (P:Addr):Prop:=∃ o ps,C P=some o∧o.data=.fields ps∧DR o ps
theorem tP {M:Model}{A:Around}{E:Value->Shared->Prop}{s:Shared}{env:Env}{c P:Addr}{ps:Array Value}{pos:Pos}{qualname:Str}{scope:Scope}{Q:Value->Shared->Prop} (hc:env.code=.ref c) (AQ:s.heap.IsCode c P ps) (tJ:s.heap.TableAt c P ps)
  (hQ:∀ code h' tk D6,Heap.ExtBut P s.heap h'->h'.IsCode c P D6->h'.TableAt c P D6->Q code { s with heap:=h',toks:=tk }):wpAny M A (genexprCode env pos qualname scope) Q E s:=by
 cases Ec:codeAmong pos ps.toList with
 | some cv=>exact wpAny_genexprCode_hit hc AQ Ec (hQ cv s.heap s.toks ps (Heap.ExtBut.refl _ _) AQ tJ)
 | none=>exact wpAny_genexprCodeX hc AQ tJ Ec λc' h' tk hx z9 z8 h1 z7 h2 z6=>hQ _ h' tk _ hx h1 h2
theorem tG {h:Heap}{c P:Addr}{ps:Array Value} (x:h.IsCode c P ps):∃ op,h.get? P=some op∧op.data=.fields ps∧TriplesOk ps.toList:=by
 refine bL x λo vs file tf flags ak=>?_; clear x; refine bL ak λtg U_ text tt op aZ=>?_; clear ak; refine cO aZ λf1 f2 f3 f4 f5 f6 f7 f8 gw=>?_; clear aZ; refine bw gw λf9 f10 XD=>?_; clear gw
 exact ⟨op,f8,f9,f10⟩
theorem t6 {h:Heap}{c P:Addr}{op:Obj}{ps:Array Value} (x:CodeHd h c P) (hP:h.get? P=some op) (hd:op.data=.fields ps) (ht:TriplesOk ps.toList):h.IsCode c P ps:=by
 refine bL x λo vs file tf flags ak=>?_; clear x; refine jg ak λtg U_ text tt e1 aZ=>?_; clear ak; refine cO aZ λz9 e3 z8 f3 f4 f5 f6 f7 XD=>?_; clear aZ
 exact ⟨o,vs,file,tf,flags,tg,U_,text,tt,op,e1,e3,f3,f4,f5,f6,f7,hP,hd,ht,XD⟩
section
variable {S:Setup}{A:Around}{Qg:Heap}{L:Addr}{E:Value->Shared->Prop}{m:Loc}{C F:Led}{env:Env}{n:Nat}
structure NR (Qg:Heap) (C:Led) (P Lg:Addr) (s:Shared):Prop where
 k:∀ b o,Qg.get? b=some o->s.heap.get? b=some o
 c:∀ a o,a≠P->C a=some o->s.heap.get? a=some o∧Qg.get? a=none∧a≠Lg
 a:Qg.objs.size≤Lg
theorem zo {elt iter:Expr}{x:Str}{px vJ pos:Pos}{scope:Scope}{cl:List (Str×Addr)}{c P bm l:Addr}{vs:List Value}{tr:Nat->Bool}{Q:Value->Loc->Led->Prop} (G:Gd S n A Qg L env)
  (pD:env.code=.ref c) (iJ:codeHdIn S.K c P=true) (tJ:dZ C P)
  (JG:nsIn S.K mainGlobals "__builtins__"=some (some (.ref bm))) (JF:bm≠builtinsNs) (AY:∃ sl,S.K.lookup bm=some ⟨.type "module",some builtinsNs,.plain,sl⟩)
  (rh:scope.isCoroutine=false) (vG:closureFor scope env=Pure.pure cl) (cF:∀ y∈scope.names,y.2≠.cell) (h0:scope.names.lookup (".0":Str)=some NameKind.local) (hx:scope.names.lookup x=some .local) (iC:scope.kind=.function)
  (gi:A.depth < recursionLimit)
  (pq:W S A Qg L E (eval iter env) m C λxv m' C'=>m'=m∧C'=C∧xv=.ref l) (hl:cN C l vs) (hlP:l≠P)
  (SN:∀ (A':Around) E' i v (cG:Shared) Qh Lg code,A'.handled=none->A'.depth≤A.depth+1->A'.units≤A.units+8->vs[i]?=some v->cG.heap.Ns Lg Qh->Qh x=some v->NR Qg C P Lg cG →
   wpAny (model S.prog S.w) A' (eval elt (genEnv scope cl Lg code builtinsNs env)) (λy kM=>y=.bool (tr i)∧Keeps cG kM) E' cG)
  (jZ:S.gn=AllBare)
  (fin:∀ C',(∀ z,z≠P->C' z=C z)->dZ C' P->Q (.bool ((List.range vs.length).all tr)) m C')
  (hs:∀ y,genFold iter env y=Pure.pure y:=by intro _; rfl)
  (he:autoParam (starEach [.GeneratorExp elt [⟨.Name x px,iter,[],0⟩] scope vJ] env=[(false,eval (.GeneratorExp elt [⟨.Name x px,iter,[],0⟩] scope vJ) env)]) aR) :
  W S A Qg L E (callWith pos (.builtin "all") [] (backTo pos (starEach [.GeneratorExp elt [⟨.Name x px,iter,[],0⟩] scope vJ] env)) []) m C Q:=.mk2 λF s R=>by
 refine ae he ?_;refine Calls.callWith_builtin rfl (Calls.evalArgs_plain (Calls.spliced_cons ?_));show wpAny _ _ (eval (.GeneratorExp elt [⟨.Name x px,iter,[],0⟩] scope vJ) env) _ _ _;refine wpAny_GeneratorExp_walksQD G.hh rh vG cF h0 hx iC gi (pq.run R λxv m' C' aC bQ q=>?_) hs;refine bw q λe1 e2 ak=>?_; clear q; subst ak
 obtain ⟨Fo,le,tb,bQ⟩:=bQ;obtain rfl:m=m':=e1.symm;obtain rfl:C=C':=e2.symm;refine wpAny_pyIter_list (bQ.isList hl) ⟨(G.T.nolimit.keeps bQ.fr.keep).keeps λb o e=>Heap.get?_push_of_some _ e,?_⟩;have d_:=bQ.push (lit l 0);have fI:=bQ.fresh_size (Nat.le_refl _);refine bx tJ λot ps hP OP Xd=>?_; clear tJ
 generalize hI:aC.heap.objs.size=I at *;have Nq:P≠I:=λe=>by rw [e] at hP; exact bo fI.1 hP
 have Jk:l≠I:=λe=>by
  refine aQ hl λk hk=>?_; clear hl
  rw [e] at hk; exact bo fI.1 hk
 have di:=d_.hideAt fI.1 fI.2;have Hw:=di.get hP;refine tP pD (t6 (codeHd_of_K (G.X.keeps di.fr.keep) iJ) Hw OP Xd.1) ((codeHd_of_K (G.X.keeps di.fr.keep) iJ).tab (Hw.trans (congrArg some Xd.2))) λcode jF tk D6 Cy I9 FH=>?_;refine bF (tG I9) λop Wu RN Mz=>?_
 have RM:DR op D6:=⟨Mz,Option.some.inj (Wu.symm.trans FH.2)⟩;have JM:=di.r.N P ot (aI hP);have my:bR S Qg L m (upd C P op) (upd (join F Fo) I (lit l 0)) { aC with heap:=jF,toks:=tk }:=by
  refine cz di.fr.ns λoL es ep hL hr=>?_;refine ⟨⟨⟨⟨oL,es,ep,Cy L oL (Ne.symm JM.2.1) hL,hr⟩,λb o e=>Cy b o (λq=>?_) (di.fr.keep b o e),di.fr.above⟩,λb o e=>?_,di.r.g,di.r.o⟩,di.d.upd_own _ hP⟩
  ·rw [q] at e; exact bo JM.2.2 e
  ·rw [bJ] at e;by_cases q:b=P
   ·subst q;replace e:=eG (af ..) e; subst e;exact ⟨Wu,JM.2⟩
   ·rw [ag _ _ q] at e;have z:=di.r.N b o e;exact ⟨Cy b o q z.1,z.2⟩
 have vA:=G.T.g.keeps my.fr.keep;have Uk:=G.X.keeps my.fr.keep;refine aQ AY λsl AY=>?_;refine wpAny_builtinsFor (m:=S.mg) (bm:=bm) (by refine ae G.hgl ?_; exact vA) (mg_of G.X G.T.g JG) JF (Uk _ _ AY) rfl rfl rfl ?_
 have g8:bR S Qg L m (upd C P op) (join F Fo) { aC with heap:=jF,toks:=tk }:=my.hid_drop (h':=jF) fI.2 λz9 z8 z7 e=>e
 have ri:=my.r.N I (lit l 0) (aT my.d (af _ _ _));have Ts:I < jF.objs.size:=Heap.lt_size ri.1;have Dt:L < jF.objs.size:=g8.fr.ns.lt;have ly:Heap.IsList jF l vs.toArray:=g8.isList (hl.imp λk hk=>(ag _ _ hlP).trans hk);have Si:l < jF.objs.size:=by
  refine aF ly λo ho z9=>?_; clear ly
  exact Heap.lt_size ho
 have nl:=G.T.nolimit.keeps g8.fr.keep;refine ⟨I,[I,l],[I],vs.toArray.size,λi v=>vs.toArray[i]?=some v,λi h=>h.IsListIter I l i∧h.IsList l vs.toArray,λz9=>true,λi y=>y=.bool (tr i),rfl,λA' hA=>Walks.list hA I l Jk vs.toArray,
  ⟨⟨_,ri.1,rfl,rfl⟩,ly⟩,λb hb=>?_,nl,λhm=>?_,λhref hk=>⟨λA' E' i v cG Qh hA hd hu Xc CN jY aM=>wpAny_tests_nil ⟨rfl,cG.heap,cG.toks,rfl,λz9 z8 e=>e⟩,λA' E' i v cG Qh hA hd hu Xc hpz CN jY aM=>?_⟩,λa IY KZ gs WU hag Ru Hm W Gh=>?_⟩
 ·rcases List.mem_cons.mp hb with rfl | hb
  ·exact Ts
  ·exact ae (List.mem_singleton.mp hb) Si
 ·have e:cStatics=I:=List.mem_singleton.mp hm;refine aF G.T.nolimit λmc ak z9=>?_; obtain ⟨o,es,ep,ho,_⟩:=ak
  rw [e] at ho; exact bo ri.2.2 ho
 ·refine SN A' E' i v cG Qh jF.objs.size code hA hd hu (by simpa using Xc) CN jY ⟨λb o e=>?_,λz o hz e=>?_,?_⟩
  ·have ND:=g8.fr.keep b o e;exact aM b (List.mem_range.mpr (Heap.lt_size ND)) (λq=>by rw [List.mem_singleton.mp q] at e; exact bo ri.2.2 e) o (hk b o ND)
  ·have Eo:=g8.r.N z o (aI ((ag _ _ hz).trans e));refine ⟨aM z (List.mem_range.mpr (Heap.lt_size Eo.1)) (λq=>by rw [List.mem_singleton.mp q] at e; exact bo fI.1 e) o (hk z o Eo.1),Eo.2.2,Nat.ne_of_lt (Heap.lt_size Eo.1)⟩
  ·exact Qb g8.fr.above (Nat.le_of_lt Dt)
 ·refine Calls.spliced_nil ?_;have W:=W.in4_1;have pe:passing (λz9=>true) vs.toArray.size 0=List.range vs.length:=by
   unfold passing;refine ae List.drop_zero (ae List.size_toArray ?_);exact List.filter_eq_self.mpr λz9 z8=>rfl
  refine call_all_walkS (W.self 0 _ _ _ Gh ⟨a,_,_,_,_,_,_,tr,rfl,W,Gh,λj v s' Q' E' hv hQ'=>?_,λs' hm=>?_⟩)
  ·refine aF hv λi hi ak=>?_; clear hv; subst ak
   rw [pe] at hi;have:i=j:=by
    by_cases hj:j < vs.length
    ·rw [List.getElem?_range hj] at hi; exact (Option.some.inj hi).symm
    ·exact bo (List.getElem?_eq_none (by simpa using hj)) hi
   subst this;exact wpAny_truthy_bool hQ'
  ·refine ae pe (ae List.length_range ?_);have Dd:AllBare aC.gens:=by have:=bQ.r.g; rw [jZ] at this; exact this
   have DT:bR S Qg L m (upd C P op) (join F Fo) { aC with gens:=aC.gens.push gs,toks:=KZ,heap:=IY } :=
    ⟨⟨g8.fr.keeps Hm,λb o e=>⟨Hm b o (g8.r.N b o e).1,(g8.r.N b o e).2⟩,by refine ae jZ ?_; exact Dd.push WU,g8.r.o⟩,g8.d⟩
   refine ⟨m,_,⟨Fo,le,tb,DT.movedG [jF.objs.size,I] (λb o hb e=>hm.heap b o hb e) (λb hb=>?_) (by refine ae jZ ?_; exact AllBare.movedS (Dd.push WU) hm) hm.os hm.drawn⟩,fin _ (λz hz=>ag _ _ hz) ⟨op,D6,af _ _ _,RN,RM⟩⟩;rcases List.mem_cons.mp hb with rfl | hb
   ·refine ⟨Ne.symm (Nat.ne_of_lt Dt),?_,?_⟩
    ·cases q:Qg.get? jF.objs.size with
     | none=>rfl
     | some o=>exact absurd (Nat.lt_of_lt_of_le (Heap.lt_size q) (Qb g8.fr.above (Nat.le_of_lt Dt))) (Nat.lt_irrefl _)
    ·cases q:join (upd C P op) (join F Fo) jF.objs.size with
     | none=>rfl
     | some o=>exact absurd (Heap.lt_size (g8.r.N _ o q).1) (Nat.lt_irrefl _)
   ·refine ae (List.mem_singleton.mp hb) ?_;refine ⟨ri.2.1,ri.2.2,?_⟩;unfold join;refine ae (ag _ _ (Ne.symm Nq)) (ae fI.1 (ae ((join_none fI.2).1) (ae ((join_none fI.2).2) ?_))); rfl
end
noncomputable def d6 (S:Setup) (C:Led) (d:Addr) (kvs:List (Int×Value)):Prop:=(d == sysModules)=false∧∃ o,C d=some o∧o.IsDictOf (intKind S.prog S.w) kvs
section
variable {S:Setup}{A:Around}{Qg:Heap}{L:Addr}{E:Value->Shared->Prop}{m:Loc}{C F:Led}{env:Env}{n:Nat}
theorem int_is (S:Setup) (k:Int) (t:Tok):(intKind S.prog S.w).is k (.int k t)=true:=by simp [intKind,Value.isInt]
theorem si {pos:Pos}{Q:Value->Loc->Led->Prop} (G:Gd S n A Qg L env) (h:∀ d C',C d=none->(∃ o,C'=upd C d o)->d6 S C' d []->Q (.ref d) m C'):W S A Qg L E (eval (.Dict [] [] pos) env) m C Q:=.mk λF s R=>by
 refine aF R.list λl N hl=>?_;refine newDict_K R.fr N G.T.nolimit λd h' o F' N' lt lo z9 z8 hi z7=>?_
 have fr:=R.fresh_of hl lt;exact ⟨m,_,R.of_new hl F' N' fr.2 (tk:=s.toks),h d _ fr.1 ⟨o,rfl⟩ ⟨lo,o,af _ _ _,hi⟩⟩
theorem iX {d:Addr}{kvs:List (Int×Value)}{k:Int}{t:Tok}{Q:Value->Loc->Led->Prop} (hd:d6 S C d kvs) (h:Q (.bool (valueAt kvs k).isSome) m C):W S A Qg L E (compareOp .In (.int k t) (.ref d)) m C Q:=.mk λF s R=>by
 refine ck hd λlo o ho hi=>?_; clear hd
 refine aF R.list λl N hl=>?_;exact kda_in N (hl _ _ (aI ho)) hi lo (int_is S k t) _ rfl ⟨m,C,R.tok,h⟩
theorem fj {d:Addr}{kvs:List (Int×Value)}{k:Int}{t:Tok}{v:Value}{Q:Value->Loc->Led->Prop} (hd:d6 S C d kvs) (hv:valueAt kvs k=some v) (h:Q v m C):W S A Qg L E (getItem (.ref d) (.int k t)) m C Q:=.mk λF s R=>by
 refine ck hd λlo o ho hi=>?_; clear hd
 refine aF R.list λl N hl=>?_;have hD:=kda_dict N (hl _ _ (aI ho)) hi
 exact wpAny_getItem_of (int_is S k t) hD.mapOf hv ⟨m,C,R.tok,h⟩
theorem y_ {value slice:Expr}{d:Addr}{kvs:List (Int×Value)}{k:Int}{t:Tok}{v:Value}{Q:Value->Loc->Led->Prop} (hd:d6 S C d kvs) (hv:valueAt kvs k=some v) (h:Q v m C)
  (hs:autoParam (subscripted slice false (.ref d) (.int k t)=operate [.ref d,.int k t] (getItem (.ref d) (.int k t))) aU) (hg:∀ r,letTemporaryGo value (.ref d) r=Pure.pure ():=by intro _; with_unfolding_all rfl) :
  W S A Qg L E (subscriptTail value slice (.ref d) (.int k t)) m C Q:=.mk λF s R=>by
 refine ck hd λlo o ho hi=>?_; clear hd
 refine aF R.list λl N hl=>?_;exact kda_item N (hl _ _ (aI ho)) hi (int_is S k t) hv ⟨m,C,R.tok,h⟩ hs hg
theorem lY {d:Addr}{kvs:List (Int×Value)}{k:Int}{t:Tok}{v:Value}{Q:Unit->Loc->Led->Prop} (hd:d6 S C d kvs) (hz:kvs.length≤10000) (h:∀ C',(∃ o,C'=upd C d o)->d6 S C' d (stored kvs k v)->Q () m C') :
  W S A Qg L E (setItem (.ref d) (.int k t) v) m C Q:=.mk λF s R=>by
 refine ck hd λlo o ho hi=>?_; clear hd
 refine bF (R.pick ho) λl N a hl=>?_;refine kda_set R.fr N (UpdF.head a) hi (int_is S k t) (by refine ae sizeLine_eq ?_; exact Qb hz (Nat.le_add_left 10000 16767216)) λh' o' F' N' AV=>?_
 exact ⟨m,_,R.of_pick ho hl F' N',h _ ⟨o',rfl⟩ ⟨lo,o',af _ _ _,AV⟩⟩
theorem wF {x dx c f l:Addr}{od:Obj}{vs:List Value}{Q:Value->Loc->Led->Prop} (G:Gd S (n+1) A Qg L env) (hx:C x=some (instObj c dx)) (hd:C dx=some od) (hk:bM S.K c "__iter__" f=true)
  (sp:Spec S n (.ref f) [.ref x] [] C λr C'=>∃ a,r=.ref a∧C a=none∧C'=upd C a (lit l 0)) (h:∀ a,C a=none->Q (.ref a) m (upd C a (lit l 0))):W S A Qg L E (call (.builtin "iter") [.ref x]) m C Q:=.mk2 λF s R=>by
 refine call_function_entry (by decide +kernel) (by decide +kernel) kdk_entry_iter (kdk_args_iter _) ?_;unfold Builtin.«iter»;refine wpAny_bind (m:=someArgs "iter" 1 2 _) (wpAny_of_eq (a:=[Value.ref x]) (by first | rfl | kernel_rfl!) ?_);show wpAny _ _ (pyIter (.ref x) >>= _) _ _ _;exact wpAny_bind ((fV (vs:=vs) G.in1 hx hd hk sp h).run R λv m' C' s' R' q=>wpAny_pure ⟨_,rfl,m',C',R',q⟩)
theorem oF {a b:Int}{t u:Tok}{Q:Value->Loc->Led->Prop} (h:∀ t,Q (.int (a+b) t) m C):W S A Qg L E (inplaceOp .Add (.int a t) (.int b u)) m C Q:=.mk λF s R=>iadd_int ⟨m,C,R.tok,h _⟩
theorem BA {a b:Int}{t u:Tok}{Q:Value->Loc->Led->Prop} (h:∀ t,Q (.int (a - b) t) m C):W S A Qg L E (inplaceOp .Sub (.int a t) (.int b u)) m C Q:=.mk λF s R=>isub_int ⟨m,C,R.tok,h _⟩
end
inductive eF:List (Int×Value)->List (Int×Int)->Prop
 | nil:eF [] []
 | cons {k c:Int}{t:Tok}{kvs:List (Int×Value)}{ps:List (Int×Int)}:eF kvs ps->eF ((k,.int c t)::kvs) ((k,c)::ps)
theorem eF.len {kvs:List (Int×Value)}{ps:List (Int×Int)} (h:eF kvs ps):kvs.length=ps.length:=by
 induction h with
 | nil=>rfl
 | cons _ ih=>simp [ih]
noncomputable def bt (ps:List (Int×Int)) (k:Int):Option Int:=(ps.find? λp=>p.1=k).map (·.2)
noncomputable def setC (ps:List (Int×Int)) (k c:Int):List (Int×Int):=if ps.any (λp=>p.1=k) then ps.map (λp=>if p.1=k then (p.1,c) else p) else ps++[(k,c)]
noncomputable def bump (ps:List (Int×Int)) (k:Int):List (Int×Int):=setC ps k ((bt ps k).getD 0+1)
theorem eF.at {kvs:List (Int×Value)}{ps:List (Int×Int)} (h:eF kvs ps) (k:Int):(valueAt kvs k=none∧bt ps k=none)∨∃ c t,valueAt kvs k=some (.int c t)∧bt ps k=some c:=by
 induction h with
 | nil=>exact .inl ⟨rfl,rfl⟩
 | @cons k' c t kvs ps _ ih =>
  by_cases q:k'=k
  ·exact .inr ⟨c,t,by simp [valueAt,q],by simp [bt,q]⟩
  ·simpa [valueAt,bt,q] using ih
theorem eF.any {kvs:List (Int×Value)}{ps:List (Int×Int)} (h:eF kvs ps) (k:Int):kvs.any (λkv=>kv.1=k)=ps.any (λp=>p.1=k):=by
 induction h with
 | nil=>rfl
 | cons _ ih=>simp [ih]
theorem eF.map {kvs:List (Int×Value)}{ps:List (Int×Int)} (h:eF kvs ps) (k c:Int) (t:Tok):eF (kvs.map λkv=>if kv.1=k then (kv.1,.int c t) else kv) (ps.map λp=>if p.1=k then (p.1,c) else p):=by
 induction h with
 | nil=>exact .nil
 | @cons k' c' t' kvs ps _ ih =>
  simp only [List.map_cons];by_cases q:k'=k
  ·refine ae (if_pos q) (ae (if_pos q) ?_); exact .cons ih
  ·refine ae (if_neg q) (ae (if_neg q) ?_); exact .cons ih
theorem eF.snoc {kvs:List (Int×Value)}{ps:List (Int×Int)} (h:eF kvs ps) (k c:Int) (t:Tok):eF (kvs++[(k,.int c t)]) (ps++[(k,c)]):=by
 induction h with
 | nil=>exact .cons .nil
 | cons _ ih=>exact .cons ih
theorem eF.stored {kvs:List (Int×Value)}{ps:List (Int×Int)} (h:eF kvs ps) (k c:Int) (t:Tok):eF (stored kvs k (.int c t)) (setC ps k c):=by
 unfold PySem.stored setC;refine ae (h.any k) ?_;cases ps.any (λp=>p.1=k) with
 | true=>simpa using h.map k c t
 | false=>simpa using h.snoc k c t
noncomputable def dn (S:Setup) (C:Led) (d:Addr) (ps:List (Int×Int)):Prop:=∃ kvs,d6 S C d kvs∧eF kvs ps
theorem kO (ps:List (Int×Int)) (k c:Int):(setC ps k c).length≤ps.length+1:=by
 unfold setC; split <;> simp
section
variable {S:Setup}{A:Around}{Qg:Heap}{L:Addr}{E:Value->Shared->Prop}{m:Loc}{C:Led}{env:Env}{n:Nat}
theorem W.goF {α β:Type}{t:Sem α}{f:α->β}{Q:β->Loc->Led->Prop} (h:W S A Qg L E t m C (Mp f Q)) (F:Led) (s:Shared) (R:Rel S Qg L m C F s):wpAny (model S.prog S.w) A t (λa s'=>AH S Qg L F Q (f a) s') E s :=
 wpAny_mono (h.go F s R) (λ_ _ ⟨m',C',R',q⟩=>⟨m',C',R',q⟩) λz9 z8 e=>e
theorem uM {pos:Pos}{Q:List Value->Loc->Led->Prop} (h:Q [] m C):W S A Qg L E (evalAll ((backToKw pos (keywordEach [] env)).map (·.2))) m C Q:=.mk λF s R=>kwAll_nil ⟨m,C,R,h⟩
theorem rZ {pos p:Pos}{name:Str}{value:Expr}{rest:List Keyword}{Q:List Value->Loc->Led->Prop}
  (h:W S A Qg L E (eval value env) m C (pZ S A Qg L E (λv=>evalAll ((backToKw pos (keywordEach rest env)).map (·.2))) λv=>(Mp (List.cons v) Q))) :
  W S A Qg L E (evalAll ((backToKw pos (keywordEach (⟨some name,value,p⟩::rest) env)).map (·.2))) m C Q:=.mk2 λF s R =>
 kwAll_cons (h.run R λv Qi a_ aC bQ q=>q.goF F aC bQ)
theorem qi {f:Value}{first:List Value}{e:Expr}{rest:List Expr}{pos:Pos}{qr:List Keyword}{Q:Value->Loc->Led->Prop} (G:Gd S n A Qg L env) (hk:keepIn S.K f=true)
  (Dn:(backToKw pos (keywordEach qr env)).all (·.1.isSome)=true)
  (h:W S A Qg L E (spliced (backTo pos (starEach (e::rest) env))) m C (pZ S A Qg L E (λvs=>evalAll ((backToKw pos (keywordEach qr env)).map (·.2))) λvs=>(Bd S A Qg L E (λks=>call f (first++vs) (((backToKw pos (keywordEach qr env)).filterMap (·.1)).zip ks)) Q)))
  (eC:autoParam (((backTo pos (starEach (e::rest) env)).any (·.1) || (backToKw pos (keywordEach qr env)).any (·.1.isNone))=false) aR) (he:autoParam (starEach (e::rest) env=(false,eval e env)::starEach rest env) aR) :
  W S A Qg L E (callWith pos f first (backTo pos (starEach (e::rest) env)) (backToKw pos (keywordEach qr env))) m C Q:=.mk2 λF s R =>
 callWith_KW G.X hk Dn (h.run R λvs Qi a_ aC bQ q=>q.run bQ λks Qh uc cG d_ jB=>⟨G.X.keeps d_.fr.keep,jB.go F cG d_⟩) eC he
theorem zl {a b:Bool}{Q:Value->Loc->Led->Prop} (h:Q (.bool (a == b)) m C):W S A Qg L E (compareOp .Eq (.bool a) (.bool b)) m C Q:=.mk λF s R=>SeqAt.RcAt.bool_bool a b S.prog S.w E _ ⟨m,C,R,h⟩
end
theorem tS:entryFor table "set.__eq__"=some Builtin.«frozenset.__eq__»:=entryFor_alias (id':="frozenset.__eq__") (by kernel_rfl) rfl (by decide +kernel) (by kernel_rfl)
theorem pG:entryFor table "set.__iter__"=some Builtin.«frozenset.__iter__»:=entryFor_alias (id':="frozenset.__iter__") (by kernel_rfl) rfl (by decide +kernel) (by kernel_rfl)
theorem nB:entryFor table "set.union"=some Builtin.«frozenset.union»:=entryFor_alias (id':="frozenset.union") (by kernel_rfl) rfl (by decide +kernel) (by kernel_rfl)
theorem nX:isSubtype (.type "set") (.type "frozenset")=pure false:=by refine ae (isSubtype_type _ _) ?_; kernel_rfl
section
variable {prog:Program}{w:World}{A:Around}{E:Value->Shared->Prop}{s:Shared}
theorem mq {es:List (Int×Value)} (h:ElemsOf (intKind prog w) es):∀ e∈es,∃ k t,e.2=.int k t∧e.1=(intKind prog w).hash k:=λe he=>by
 refine aS (h e he) λak z9=>?_; obtain ⟨k,hk,hh⟩:=ak
 refine aQ (Value.isInt_shape hk) λt e'=>?_;exact ⟨k,t,e',hh⟩
theorem uq {a b:Addr}{oa ob:Obj}{JQ KO:Array (Int×Value)}{TV TU:Nat}{ta tb:SetTable}{Q:List (Int×Value)->Shared->Prop} (a1:s.heap.get? a=some oa) (a3:oa.data=.set JQ TV ta) (a4:ElemsOf (intKind prog w) JQ.toList) (a7:ta.fits JQ.size=true)
  (b1:s.heap.get? b=some ob) (b3:ob.data=.set KO TU tb) (b4:ElemsOf (intKind prog w) KO.toList) (b7:tb.fits KO.size=true) (h:Q JQ.toList s):wpAny (model prog w) A (Builtin.Frozenset.walkUnseen a b) Q E s:=by
 unfold Builtin.Frozenset.walkUnseen;refine wpAny_bind (wpAny_setEntries_of a1 a3 a7 ?_);refine wpAny_bind (wpAny_setEntries_of b1 b3 b7 ?_);refine wpAny_bind (wpAny_forIn_list _ (λrest b s'=>b=(none,())∧s'=s∧∀ e∈rest,∃ k t,e.2=.int k t) _ ?_ ?_ _ _ ⟨rfl,rfl,λe he=>?_⟩)
 ·rintro ⟨hh,x⟩ rest b s' ⟨rfl,rfl,he⟩;refine dB (he _ (List.mem_cons_self ..)) λk t e=>?_;dsimp only at e
  subst e;unfold Builtin.Frozenset.quietEq;refine wpAny_bind (wpAny_pure ?_);exact wpAny_pure ⟨rfl,rfl,λe v8=>he e (List.mem_cons_of_mem _ v8)⟩
 ·rintro b s' ⟨rfl,rfl,-⟩;exact wpAny_pure h
 ·rcases List.mem_append.mp he with q | q
  ·refine bg (mq a4 e q) λk t e z9=>?_; exact ⟨k,t,e⟩
  ·refine bg (mq b4 e q) λk t e z9=>?_; exact ⟨k,t,e⟩
theorem uv {nm:String}{a b:Addr}{Sa Sb:Int->Bool}{n m:Nat}{Q:Bool->Shared->Prop} (hA:s.heap.SetOf (intKind prog w) a Sa n) (hB:s.heap.SetOf (intKind prog w) b Sb m) (Jc:n=m)
  (h:∀ r:Bool,(r=true↔∀ k,Sa k=true->Sb k=true)->Q r s) :
  wpAny (model prog w) A (Builtin.Frozenset.subsetOf nm a b) Q E s:=by
 refine bP hA λoa JQ TV ta ak=>?_; refine cp ak λa1 a2 a3 a4 a5 a6 a7 a8=>?_; clear ak
 refine bP hB λob KO TU tb ak=>?_; refine cp ak λb1 b2 b3 b4 b5 b6 b7 b8=>?_; clear ak
 unfold Builtin.Frozenset.subsetOf Builtin.Frozenset.sizeOf;refine wpAny_bind (wpAny_bind (wpAny_setEntries_of a1 a3 a7 (wpAny_pure ?_)));refine wpAny_bind (wpAny_bind (wpAny_setEntries_of b1 b3 b7 (wpAny_pure ?_)));refine ae (if_neg (λq=>Ql (Qa (Qc Jc) (Qa (Qc a8) (Qa (Qc (Eq.symm b8)) (Qf q)))))) ?_;refine wpAny_bind (wpAny_setEpoch_of a1 a3 a7 ?_);refine wpAny_bind (uq a1 a3 a4 a7 b1 b3 b4 b7 ?_);refine wpAny_bind (wpAny_mono (wpAny_forIn_list _ (λ(rest:List (Int×Value)) b s'=>b=(none,())∧s'=s∧(∀ e∈rest,∃ k t,e.2=Value.int k t∧e.1=(intKind prog w).hash k)∧((∀ k,Sa k=true->Sb k=true)↔∀ e∈rest,∀ k,(intKind prog w).is k e.2=true->Sb k=true)) (λb s'=>∃ r:Option Bool,b=(r,())∧s'=s∧((r=none∧∀ k,Sa k=true->Sb k=true)∨(r=some false∧¬ ∀ k,Sa k=true->Sb k=true))) ?_ ?_ _ _ ⟨rfl,rfl,mq a4,?_⟩) (λb s' q=>?_) λz9 z8 y=>y)
 ·rintro ⟨hh,x⟩ rest b s' ⟨rfl,rfl,he,FZ⟩;refine bg (he _ (List.mem_cons_self ..)) λk t e e'=>?_;dsimp only at e e'
  subst e e';refine wpAny_bind (wpAny_holding (wpAny_setFind_of (k:=k) (intKind_is _ _ _ _) rfl hB λr hr=>?_));have dQ:∀ k',(intKind prog w).is k' (Value.int k t)=true->k'=k:=λk' q=>by
   have:=KeyKind.is_eq_decide (knd:=intKind prog w) (intKind_is prog w k t) k';rw [q] at this;exact (of_decide_eq_true this.symm)
  cases r with
  | none =>
   refine wpAny_pure ⟨some false,rfl,rfl,.inr ⟨rfl,λq=>?_⟩⟩;have:=FZ.mp q _ (List.mem_cons_self ..) k (intKind_is _ _ _ _);rw [this] at hr;exact mi hr
  | some i =>
   refine wpAny_bind ?_;unfold Builtin.Frozenset.unchanged;refine wpAny_bind (wpAny_setEpoch_of a1 a3 a7 ?_);refine ae (if_neg (by simp)) ?_;refine wpAny_pure (wpAny_pure ⟨rfl,rfl,λe v8=>he e (List.mem_cons_of_mem _ v8),FZ.trans ⟨λq e v8 k' rg=>q e (List.mem_cons_of_mem _ v8) k' rg,λq e v8 k' rg=>?_⟩⟩);rcases List.mem_cons.mp v8 with rfl | v8
   ·refine ae (dQ k' rg) (eI hr ?_); rfl
   ·exact q e v8 k' rg
 ·rintro b s' ⟨rfl,rfl,-,FZ⟩;exact ⟨none,rfl,rfl,.inl ⟨rfl,FZ.mpr λe he=>by cases he⟩⟩
 ·exact ⟨λq e he k hk=>q k ((a5 k).mpr ⟨e,he,hk⟩),λq k hk=>by
   refine aF ((a5 k).mp hk) λe he rg=>?_;exact q e he k rg⟩
 ·refine bF q λr ak aZ gw=>?_; clear q; subst ak; subst aZ; obtain q | q:=gw
  ·obtain ⟨rfl,q⟩:=q;exact wpAny_pure (h true ⟨λz9=>q,λz9=>rfl⟩)
  ·obtain ⟨rfl,q⟩:=q;exact wpAny_pure (h false ⟨λe=>(nomatch e),λz=>absurd z q⟩)
theorem uA {a b:Addr}{Sa Sb:Int->Bool}{n m:Nat}{Q:Fin->Shared->Prop} (hA:s.heap.SetOf (intKind prog w) a Sa n) (hB:s.heap.SetOf (intKind prog w) b Sb m)
  (h:∀ r:Bool,(r=true↔n=m∧∀ k,Sa k=true->Sb k=true)->Q (.done (.ret (.bool r))) s) :
  wpAny (model prog w) A (Builtin.«frozenset.__eq__» ⟨[.ref a,.ref b],[]⟩) Q E s:=by
 have Hu:=hA.typeIs;have hTb:=hB.typeIs;have f1:=sub_set_self;have f2:=nX;refine bP hA λoa JQ TV ta ak=>?_; refine cp ak λa1 a2 a3 a4 a5 a6 a7 a8=>?_; clear ak
 refine bP hB λob KO TU tb ak=>?_; refine cp ak λb1 b2 b3 b4 b5 b6 b7 b8=>?_; clear ak
 unfold Builtin.«frozenset.__eq__»
 wp_walk using wpAny_setEntries_of a1 a3 a7,wpAny_setEntries_of b1 b3 b7
 by_cases hz:JQ.size=KO.size
 ·refine ae (if_neg (by simp [hz])) ?_;have Jc:n=m:=by omega
  wp_walk using uv hA hB Jc
  exact λr q=>wpAny_pure (h r ⟨λz=>⟨Jc,q.mp z⟩,λz=>q.mpr z.2⟩)
 ·refine ae (if_pos (by simpa using hz)) ?_;refine wpAny_pure (wpAny_pure (h false ⟨λe=>(nomatch e),λq=>absurd (a8.trans (q.1.trans b8.symm)) hz⟩))
set_option maxHeartbeats 3200000 in
theorem t7 {T:String}{r d:Addr}{n:Nat}{P:Nat->Value->Prop}{OK:Heap->Prop}{val:Nat->Int}{Q:Value->Shared->Prop} (K:KdlSrc prog w T r d n P OK) (hh:A.handled=none) (AQ:OK s.heap)
  (Rq:∀ i v,P i v->∃ t,v=.int (val i) t) (hb:n+1 < scanBound) (hsls:isSubtype (.type T) (.type "set")=pure false) (hslf:isSubtype (.type T) (.type "frozenset")=pure false) (bS:(Value.type T == Value.type "dict")=false)
  (h:∀ (h':Heap) (tk:Nat),h'.SetOf (intKind prog w) s.heap.objs.size (λk'=>(PyProof.Rows.firstMet val n).any (· == k')) (PyProof.Rows.firstMet val n).length →
   (∀ b o,b < s.heap.objs.size->s.heap.get? b=some o->h'.get? b=some o)->Q (.ref s.heap.objs.size) { s with heap:=h',toks:=tk }) :
  wpAny (model prog w) A (call (.type "set") [.ref r]) Q E s:=by
 refine dB F.called_set.mro λc tl hmro=>?_;have WB:=F.called_set.made
 have aX:=F.called_set.sub;refine wpAny_call (codeAny_of_tree ?_);show wpAny _ _ (callAny (.type "set") _) _ _ _;refine wpAny_pure ⟨Code.quiet_builtin _ (by decide +kernel),codeAny_builtin F.entry_type_call ?_⟩;refine ae (Around.under_plain (weight_type_call_type "set" [.ref r] []) rfl) ?_;have h1:=F.called_set.notType;have h2:=F.called_set.canCreate;have Kz:=F.typeCall_set_1 (.ref r);repeat (any_goals (first | assumption | wp_step))
 refine codeAny_mono (code_set_new_1 (.ref r) (E:=E) (Q₁:=λobj aC=>∃ led:Bool,obj=.ref s.heap.objs.size∧aC={ s with heap:=s.heap.push { cls:=.type "set",dict:=none,data:=.set #[] 0 (.fresh 0 0 led) } }) λled=>⟨led,rfl,rfl⟩) λrr aC hr=>?_;cases rr with
 | error e=>exact hr
 | ok fl =>
  cases fl with
  | ret obj =>
   refine aF hr λled ak aZ=>?_; clear hr; subst ak; subst aZ
   have hS:(s.heap.push { cls:=.type "set",dict:=none,data:=.set #[] 0 (.fresh 0 0 led) }).get? s.heap.objs.size=some { cls:=.type "set",dict:=none,data:=.set #[] 0 (.fresh 0 0 led) }:=Heap.get?_push_size _ rfl;have hT:Shared.TypeIs { s with heap:=s.heap.push { cls:=.type "set",dict:=none,data:=.set #[] 0 (.fresh 0 0 led) } } (.ref s.heap.objs.size) "set":=⟨_,hS,rfl⟩;have yu:=F.called_set.init.lookup;have hbi:=F.called_set.init.bind (.ref s.heap.objs.size);repeat (any_goals (first | assumption | wp_step))
   refine codeAny_mono (codeAny_call_builtin (R:=wants (λr cG=>r=.none∧∃ h' tk,cG={ s with heap:=h',toks:=tk } ∧
     h'.SetOf (intKind prog w) s.heap.objs.size (λk'=>(PyProof.Rows.firstMet val n).any (· == k')) (PyProof.Rows.firstMet val n).length ∧
     (∀ b o,b < s.heap.objs.size->s.heap.get? b=some o->h'.get? b=some o)) E) F.called_set.init.plain F.entry_set_init (check_set_init_1 hT ?_)) λlW cG ym=>?_
   ·have MB:OK (s.heap.push { cls:=.type "set",dict:=none,data:=.set #[] 0 (.fresh 0 0 led) }):=K.keep _ _ AQ λb z9 o e=>Heap.get?_push_of_some _ e
    have hTr:=K.type { s with heap:=s.heap.push { cls:=.type "set",dict:=none,data:=.set #[] 0 (.fresh 0 0 led) } } MB;have gk:=K.there _ AQ;unfold Builtin.«set.__init__» noKeywords Builtin.Frozenset.updateFrom;generalize Nq:pyIter=PI
    wp_walk
    subst Nq;have hh3:A.in1.in1.in1.handled=none:=by simp [hh]
    refine bx (K.iter A.in1.in1.in1 { s with heap:=s.heap.push { cls:=.type "set",dict:=none,data:=.set #[] 0 (.fresh 0 0 led) } } hh3 MB) λoI St hit W st=>?_;refine wpAny_of_in1 (hit _ _ ?_)
    refine wpAny_bind (wpAny_runValue ?_);have RS:s.heap.objs.size≠(s.heap.push { cls:=.type "set",dict:=none,data:=.set #[] 0 (.fresh 0 0 led) }).objs.size:=by
     exact ae (Heap.size_push _ _) (Nat.ne_of_lt (Nat.lt_succ_self _))
    have hSf:s.heap.objs.size ∉ [(s.heap.push { cls:=.type "set",dict:=none,data:=.set #[] 0 (.fresh 0 0 led) }).objs.size,d]:=by
     simp only [List.mem_cons,List.not_mem_nil,or_false,not_or];exact ⟨RS,Nat.ne_of_gt gk.2⟩
    refine PyProof.Rows.codeAny_set_update_loopS W.toS s.heap.objs.size hSf val Rq hb n 0 _ (Eq.symm (Eq.symm (Eq.refl (n - 0)))) (Nat.zero_le _) st ?hS0 ?hR
    case hS0 =>
     exact PyProof.Rows.SetOf_congr ((PyProof.Rows.setObjOf_fresh (knd:=intKind prog w) led).setOf (Heap.get?_push_of_some _ hS) (by unfold scanBound; exact Qe rfl)) (λz9=>rfl) rfl
    case hR =>
     intro s' hm Np;walk_at "bh";obtain ⟨h',g',d',HP,YQ⟩:=s';walk_at "ch";have eg:g'=s.gens:=hm.gens;have ed:d'=s.drawn:=hm.drawn;have eo:YQ=s.os:=hm.os;subst eg; subst ed; subst eo;show wpAny _ _ _ _ _ _;refine wpAny_pure ?_;show wpAny _ _ (ret Value.none) _ _ _;refine wpAny_pure ⟨rfl,h',HP,rfl,Np,λb o hb e=>?_⟩;have OM:b≠s.heap.objs.size:=Nat.ne_of_lt hb;have OL:b≠(s.heap.push { cls:=.type "set",dict:=none,data:=.set #[] 0 (.fresh 0 0 led) }).objs.size:=by
      exact ae (Heap.size_push _ _) (Nat.ne_of_lt (Nat.lt_succ_of_lt hb))
     exact hm.heap b o (by simp only [List.mem_cons,List.mem_singleton,List.not_mem_nil,or_false,not_or]; exact ⟨OM,OL⟩) (Heap.get?_push_of_some _ (Heap.get?_push_of_some _ e))
   ·cases lW with
    | error e=>exact ym
    | ok NA =>
     cases NA with
     | ret r =>
      refine aS ym λak gw=>?_; clear ym; refine bx gw λh' tk aZ Np rg=>?_; clear gw; subst ak; subst aZ
      repeat (any_goals (first | assumption | wp_step))
      exact h _ _ Np rg
     | _=>exact ym.elim
  | _=>exact hr.elim
end
noncomputable def xI (S:Setup) (C:Led) (a:Addr) (Sf:Int->Bool) (k:Nat):Prop:=k < scanBound∧∃ o,C a=some o∧o.SetObjOf (intKind S.prog S.w) Sf k
section
variable {S:Setup}{A:Around}{Qg:Heap}{L:Addr}{E:Value->Shared->Prop}{m:Loc}{C F:Led}{env:Env}{n:Nat}
theorem bR.setOf {s:Shared}{a:Addr}{Sf:Int->Bool}{k:Nat} (R:bR S Qg L m C F s) (h:xI S C a Sf k):s.heap.SetOf (intKind S.prog S.w) a Sf k:=by
 refine ck h λhb o ho hs=>?_; clear h
 exact hs.setOf (R.get ho) hb
theorem EM {a b:Addr}{Sa Sb:Int->Bool}{ka kb:Nat}{Q:Value->Loc->Led->Prop} (G:Gd S n A Qg L env) (ha:xI S C a Sa ka) (hb:xI S C b Sb kb)
  (h:∀ r:Bool,(r=true↔ka=kb∧∀ k,Sa k=true->Sb k=true)->Q (.bool r) m C):W S A Qg L E (compareOp .Eq (.ref a) (.ref b)) m C Q:=.mk λF s R=>by
 have h1:=R.setOf ha;have h2:=R.setOf hb;show wpAny _ _ (richCompare .Eq (.ref a) (.ref b)) _ _ _;refine wpAny_richCompare_same_room h1.typeIs h2.typeIs PySem.F.slot_set_eq (wpAny_call_entry PySem.F.slot_set_eq h1.typeIs tS ?_ (PySem.F.args_set_eq_2 _ _)) (by have:=G.u; exact Nat.lt_of_lt_of_le (by walk_at "A") (Qf this));refine uA h1 h2 λr hr=>?_;exact ⟨_,rfl,(by intro e; injection e),m,C,R,h r hr⟩
noncomputable abbrev yf (d:Addr):Obj:={ cls:=.type "dict_keys",data:=.fields #[.ref d] }
theorem oH {d:Addr}{kvs:List (Int×Value)}{Q:Value->Loc->Led->Prop} (hd:d6 S C d kvs) (h:∀ v,C v=none->Q (.ref v) m (upd C v (yf d))):W S A Qg L E (call (.builtin "dict.keys") [.ref d]) m C Q:=.mk λF s R=>by
 refine ck hd λlo o ho hi=>?_; clear hd
 refine aF R.list λl N hl=>?_;refine kdl_view_keys R.fr N (hl _ _ (aI ho)) hi lo λD h' F' N' lt=>?_
 have fr:=R.fresh_of hl lt;exact ⟨m,_,R.of_new hl F' N' fr.2 (tk:=s.toks),h D fr.1⟩
theorem gT {d:Addr}{kvs:List (Int×Value)}{pl:Sem Bool}{Q:Value×List Value->Loc->Led->Prop} (hd:d6 S C d kvs) (h:Q (.builtin "dict.keys",[.ref d]) m C):W S A Qg L E (getMethod (.ref d) "keys" pl) m C Q:=.mk λF s R=>by
 refine ck hd λlo o ho hi=>?_; clear hd
 refine aF R.list λl N hl=>?_;have hD:=kda_dict N (hl _ _ (aI ho)) hi
 exact getMethod_builtin hD.typeIs PySem.F.plainAttrs_dict PySem.F.slot_dict_keys PySem.F.type_dict_keys hD.mapOf.noDict ⟨m,C,R,h⟩
noncomputable def kinds (l:List Int):Nat:=(l.foldl step_dedup []).length
theorem range_getD (l:List Int):(List.range l.length).map (λi=>l.getD i 0)=l:=by
 apply List.ext_getElem
 ·simp
 ·intro i h1 h2;simp only [List.length_map,List.length_range] at h1;simp [List.getD_eq_getElem?_getD,h1]
theorem Ct (l:List Int):kinds l≤l.length:=by
 have:=firstMet_length_le (λi=>l.getD i 0) l.length;unfold firstMet at this;rw [range_getD] at this;exact this
theorem bR.newSet {s:Shared}{h':Heap}{tk:Nat}{Sf:Int->Bool}{k:Nat} (R:bR S Qg L m C F s) (hS:h'.SetOf (intKind S.prog S.w) s.heap.objs.size Sf k) (hk:∀ b o,b < s.heap.objs.size->s.heap.get? b=some o->h'.get? b=some o) :
  ∃ o,C s.heap.objs.size=none∧o.SetObjOf (intKind S.prog S.w) Sf k∧bR S Qg L m (upd C s.heap.objs.size o) F { s with heap:=h',toks:=tk }:=by
 refine aF hS.objOf λo ho Ko=>?_;refine cz R.fr.ns λoL z9 z8 hL z7=>?_
 have Du:L < s.heap.objs.size:=Heap.lt_size hL;have fr:=R.fresh_size (Nat.le_refl s.heap.objs.size);refine ⟨o,fr.1,Ko,?_,R.d.upd_new o fr.2⟩;rw [bJ];refine ⟨⟨R.fr.ns.at' λo' e=>hk L o' Du e,λb o' e=>hk b o' (Heap.lt_size (R.fr.keep b o' e)) (R.fr.keep b o' e),R.fr.above⟩,λa x e=>?_,R.r.g,R.r.o⟩;by_cases q:a=s.heap.objs.size
 ·subst q;replace e:=eG (af ..) e; subst e;refine ⟨ho,Nat.ne_of_gt Du,?_⟩;cases hq:Qg.get? s.heap.objs.size with
  | none=>rfl
  | some o'=>exact absurd (Heap.lt_size (R.fr.keep _ _ hq)) (Nat.lt_irrefl _)
 ·rw [ag _ _ q] at e;have z:=R.r.N a x e;exact ⟨hk _ _ (Heap.lt_size z.1) z.1,z.2⟩
theorem wq:isSubtype (.type "dict_keys") (.type "set")=pure false:=by refine ae (isSubtype_type _ _) ?_; kernel_rfl
theorem wu:isSubtype (.type "dict_keys") (.type "frozenset")=pure false:=by refine ae (isSubtype_type _ _) ?_; kernel_rfl
theorem qJ {d v:Addr}{kvs:List (Int×Value)}{Q:Value->Loc->Led->Prop} (G:Gd S n A Qg L env) (hd:d6 S C d kvs) (hv:C v=some (yf d)) (hz:kvs.length≤1000)
  (h:∀ a C',C a=none->(∃ o,C'=upd C a o)->xI S C' a (λk=>(kvs.map (·.1)).any (· == k)) (kinds (kvs.map (·.1)))->Q (.ref a) m C'):W S A Qg L E (call (.type "set") [.ref v]) m C Q:=.mk λF s R=>by
 refine ck hd λlo o ho hi=>?_; clear hd
 refine aF R.list λl N hl=>?_;have hD:=kda_dict N (hl _ _ (aI ho)) hi
 refine aQ hD.dictAt λep Gh=>?_;have Wl:kvs.length+1 < scanBound:=by unfold scanBound; exact Nat.lt_of_not_le λq=>Ql (Qa hz q)
 refine t7 (val:=λi=>(kvs.map (·.1)).getD i 0) (kdl_keys (r:=v) (d:=d) (kvs:=kvs) (knd:=intKind S.prog S.w) (ep:=ep)) G.hh ⟨⟨_,R.get hv,rfl,rfl⟩,Gh⟩ (λi v ⟨k,x,hx,hk⟩=>?_) Wl wq wu (by decide) λh' tk hS hk=>?_
 ·refine aQ (Value.isInt_shape hk) λt e=>?_;refine ⟨t,?_⟩
  refine ae e (ae List.getD_eq_getElem?_getD (ae List.getElem?_map (ae hx ?_))); rfl
 ·refine bF (R.newSet (tk:=tk) hS hk) λo' f1 f2 R'=>?_;refine ⟨m,_,R',h _ _ f1 ⟨o',rfl⟩ ⟨?_,o',af _ _ _,?_⟩⟩
  ·have:=Ct (kvs.map (·.1)); rw [List.length_map] at this; exact Nat.lt_of_not_le λq=>Ql (Qa (Qf Wl) (Qa this q))
  ·have e1:firstMet (λi=>(kvs.map (·.1)).getD i 0) kvs.length=(kvs.map (·.1)).foldl step_dedup []:=by
    unfold firstMet;have:=range_getD (kvs.map (·.1));rw [List.length_map] at this;exact ae this rfl
   have e2:∀ k,(firstMet (λi=>(kvs.map (·.1)).getD i 0) kvs.length).any (· == k)=(kvs.map (·.1)).any (· == k):=λk=>by
    refine ae (firstMet_any _ _ _) ?_;have:=range_getD (kvs.map (·.1));rw [List.length_map] at this;exact ae this rfl
   have e3:(firstMet (λi=>(kvs.map (·.1)).getD i 0) kvs.length).length=kinds (kvs.map (·.1)):=by refine ae e1 ?_; rfl
   rw [e3,show (λk'=>(firstMet (λi=>(kvs.map (·.1)).getD i 0) kvs.length).any (· == k'))=λk=>(kvs.map (·.1)).any (· == k) from funext e2] at f2;exact f2
end
theorem dz:Slot "set_iterator" "__next__" "set_iterator.__next__" :=
 .of (owner:="set_iterator") (n:="__next__") (by refine ae (typeLookup_type _ _) (ae builtinLookup_eq_fast ?_); kernel_rfl) (by decide +kernel) (by decide +kernel) (by decide +kernel)
  (by first | exact .inl (by decide +kernel) | exact .inr (by decide +kernel)) (by rw [isSubtype_type]; kernel_rfl)
theorem iD:entryFor table "set_iterator.__next__"=some Builtin.«set_iterator.__next__»:=entryFor_of_tree (by kernel_rfl)
theorem oP:Manifest.owners.lookup (String.ofList ['r','o','t','a','r','e','t','i','_','t','e','s'].reverse)=some Manifest.sig_set_iterator:=by kernel_rfl
theorem jj (a:Value):argsOk "set_iterator.__next__" ⟨[a],[]⟩:=by
 unfold argsOk; refine ae (signature?_of (id:="set_iterator.__next__") (n:=['_','_','t','x','e','n','_','_']) (o:=['r','o','t','a','r','e','t','i','_','t','e','s']) (by kernel_rfl) oP) ?_; kernel_rfl
theorem iT:Slot "set_iterator" "__iter__" "set_iterator.__iter__" :=
 .of (owner:="set_iterator") (n:="__iter__") (by refine ae (typeLookup_type _ _) (ae builtinLookup_eq_fast ?_); kernel_rfl) (by decide +kernel) (by decide +kernel) (by decide +kernel)
  (by first | exact .inl (by decide +kernel) | exact .inr (by decide +kernel)) (by rw [isSubtype_type]; kernel_rfl)
theorem nA:entryFor table "set_iterator.__iter__"=some Builtin.«dict_keyiterator.__iter__» :=
 entryFor_alias (id':="dict_keyiterator.__iter__") (by kernel_rfl) rfl (by decide +kernel) (by kernel_rfl)
theorem pR (a:Value):argsOk "set_iterator.__iter__" ⟨[a],[]⟩:=by
 unfold argsOk; refine ae (signature?_of (id:="set_iterator.__iter__") (n:=['_','_','r','e','t','i','_','_']) (o:=['r','o','t','a','r','e','t','i','_','t','e','s']) (by kernel_rfl) oP) ?_; kernel_rfl
noncomputable def dS (p:Array Nat):Nat->Nat
 | 0=>0
 | i+1=>p.getD i 0+1
noncomputable def jm (w:World) (a:Addr) (es:Array (Int×Value)) (ep:Nat) (t:SetTable) (ord:List Value):Prop :=
 t.fits es.size=true∧es.size=ord.length ∧
 ((w.params.followText "set-order"=true∧(pickOrder (w.params.setOrder a ep) es).toList.map (·.2)=ord) ∨
  (w.params.followText "set-order"=false∧(t.led=true∨es.size=0)∧t.plain=true∧(∀ i,i≤es.size->SetTable.below t.place (dS t.place i)=i)∧es.toList.map (·.2)=ord))
noncomputable def jz (w:World) (h:Heap) (a:Addr) (ord:List Value) (ep:Nat):Prop:=∃ o es t,h.get? a=some o∧o.ExactSet∧o.data=.set es ep t∧jm w a es ep t ord
noncomputable abbrev xP (a:Addr) (sl i n ep:Nat):Obj:={ cls:=.type "set_iterator",data:=.fields #[.int sl 0,.int i 0,.ref a,.int n 0,.int ep 0] }
noncomputable def iy (w:World) (h:Heap) (I a:Addr) (ord:List Value) (ep i:Nat):Prop :=
 ∃ o es t sl,h.get? a=some o∧o.ExactSet∧o.data=.set es ep t∧jm w a es ep t ord∧h.get? I=some (xP a sl i ord.length ep)∧(w.params.followText "set-order"=true∨sl=dS t.place i)
section
variable {prog:Program}{w:World}{A:Around}{E:Value->Shared->Prop}{s:Shared}
theorem cP {Q:Bool->Shared->Prop} (h:Q (w.params.followText "set-order") s):wpAny (model prog w) A setsByText Q E s:=by
 unfold setsByText;exact wpAny_bind (wpAny_askSetting (wpAny_pure h))
theorem rN {a:Addr}{o:Obj}{es:Array (Int×Value)}{ep:Nat}{t:SetTable}{ord:List Value}{sl i:Nat}{v:Value}{Q:Option (Value×Nat)->Shared->Prop} (ho:s.heap.get? a=some o) (hd:o.data=.set es ep t) (hH:jm w a es ep t ord)
  (hs:w.params.followText "set-order"=true∨sl=dS t.place i) (hv:ord[i]?=some v) (h:∀ nx,(w.params.followText "set-order"=true∨nx=dS t.place (i+1))->Q (some (v,nx)) s) :
  wpAny (model prog w) A (setNext a sl i ep) Q E s:=by
 refine bw hH λhf hn hh=>?_; clear hH
 have hi:i < ord.length:=(List.getElem?_eq_some_iff.mp hv).1;unfold setNext;refine wpAny_bind (wpAny_setState_of ho hd hf ?_);dsimp only;refine wpAny_bind (cP ?_);rcases hh with ⟨hb,hp⟩ | ⟨hb,hl,xq,en,hp⟩
 ·refine ae hb (ae (if_pos rfl) ?_);refine ae (if_neg (by simp)) ?_;unfold setWalk;refine wpAny_bind (wpAny_bind (wpAny_setState_of ho hd hf ?_));dsimp only;refine wpAny_bind (cP ?_);refine ae hb (ae (if_pos rfl) ?_);refine wpAny_bind (wpAny_askSetting (wpAny_pure ?_));have:((pickOrder (w.params.setOrder a ep) es)[i]?).map (·.2)=some v:=by
   refine eI Array.getElem?_toList (eI List.getElem?_map (ae hp ?_)); exact hv
  refine aF (Option.map_eq_some_iff.mp this) λe he ak=>?_; subst ak
  refine wpAny_pure ?_;show Q (((pickOrder (w.params.setOrder a ep) es)[i]?).map λe=>(e.2,sl)) s;exact ae he (h sl (.inl hb))
 ·refine ae hb (ae (if_neg (by decide)) ?_);have iu:sl=dS t.place i:=hs.resolve_left (by refine ae hb ?_; decide);rw [if_neg (λq=>by
   have q':(!t.plain && decide (es.size > 1))=true:=q;rw [xq] at q'; exact mi q')]
  refine wpAny_bind ?_;refine wpAny_ite_split (λq=>?_) (λz9=>wpAny_pure ?_)
  ·have q':(!t.led && !es.isEmpty)=true:=q;rcases hl with hl | hl
   ·rw [hl] at q'; exact mi q'
   ·rw [show es.isEmpty=true by simpa [Array.isEmpty] using hl] at q'; simp at q'
  have Td:SetTable.below t.place sl=i:=by exact ae iu (en i (Qd λq=>Ql (Qa (Qc (Eq.symm hn)) (Qa (Qf hi) q))))
  have Hq:∃ e,es[i]?=some e∧e.2=v:=by
   have:(es[i]?).map (·.2)=some v:=by refine eI Array.getElem?_toList (eI List.getElem?_map (ae hp ?_)); exact hv
   exact Option.map_eq_some_iff.mp this
  refine aF Hq λak he aZ=>?_; clear Hq; obtain ⟨hk,x⟩:=ak; subst aZ
  have uh:t.place.size=es.size:=by
   simp only [SetTable.fits,Bool.and_eq_true,beq_iff_eq] at hf;exact hf.1
  have hpi:t.place[i]?=some (t.place.getD i 0):=by
   have gk:i < t.place.size:=Nat.lt_of_not_le λq=>Ql (Qa (Qc (Eq.symm hn)) (Qa (Qf hi) (Qa (Qc (Eq.symm uh)) q)))
   refine ae (Array.getElem?_eq_getElem gk) ?_; rw [Array.getD]; refine ae (dif_pos gk) ?_; rfl
  refine ae Td (ae he (ae hpi ?_));exact wpAny_pure (h _ (.inr rfl))
theorem rO {a:Addr}{o:Obj}{es:Array (Int×Value)}{ep:Nat}{t:SetTable}{ord:List Value}{sl:Nat}{Q:Option (Value×Nat)->Shared->Prop} (ho:s.heap.get? a=some o) (hd:o.data=.set es ep t) (hH:jm w a es ep t ord)
  (hs:w.params.followText "set-order"=true∨sl=dS t.place ord.length) (h:Q none s) :
  wpAny (model prog w) A (setNext a sl ord.length ep) Q E s:=by
 refine bw hH λhf hn hh=>?_; clear hH
 unfold setNext;refine wpAny_bind (wpAny_setState_of ho hd hf ?_);dsimp only;refine wpAny_bind (cP ?_);rcases hh with ⟨hb,hp⟩ | ⟨hb,hl,xq,en,hp⟩
 ·refine ae hb (ae (if_pos rfl) ?_);refine ae (if_neg (by simp)) ?_;unfold setWalk;refine wpAny_bind (wpAny_bind (wpAny_setState_of ho hd hf ?_));dsimp only;refine wpAny_bind (cP ?_);refine ae hb (ae (if_pos rfl) ?_);refine wpAny_bind (wpAny_askSetting (wpAny_pure ?_));have:(pickOrder (w.params.setOrder a ep) es)[ord.length]?=none:=by
   refine eI Array.getElem?_toList ?_;refine List.getElem?_eq_none ?_;refine eI hp (ae (List.length_map _) ?_); exact Nat.le_refl _
  refine wpAny_pure ?_;show Q (((pickOrder (w.params.setOrder a ep) es)[ord.length]?).map λe=>(e.2,sl)) s;exact ae this h
 ·refine ae hb (ae (if_neg (by decide)) ?_);have iu:sl=dS t.place ord.length:=hs.resolve_left (by refine ae hb ?_; decide);rw [if_neg (λq=>by
   have q':(!t.plain && decide (es.size > 1))=true:=q;rw [xq] at q'; exact mi q')]
  refine wpAny_bind ?_;refine wpAny_ite_split (λq=>?_) (λz9=>wpAny_pure ?_)
  ·have q':(!t.led && !es.isEmpty)=true:=q;rcases hl with hl | hl
   ·rw [hl] at q'; exact mi q'
   ·rw [show es.isEmpty=true by simpa [Array.isEmpty] using hl] at q'; simp at q'
  have Td:SetTable.below t.place sl=ord.length:=by exact ae iu (en _ (Qc (Eq.symm hn)))
  refine ae Td (ae (Array.getElem?_eq_none (Qc hn)) ?_);exact wpAny_pure h
theorem iy.keep {h h':Heap}{I a:Addr}{ord:List Value}{ep i:Nat} (x:iy w h I a ord ep i) (k:∀ b,b=I∨b=a->∀ o,h.get? b=some o->h'.get? b=some o):iy w h' I a ord ep i:=by
 refine bP x λo es t sl ak=>?_; clear x; refine gZ ak λh1 h2 h3 h4 h5 h6=>?_; clear ak
 exact ⟨o,es,t,sl,k a (.inr rfl) _ h1,h2,h3,h4,k I (.inl rfl) _ h5,h6⟩
theorem iy.typeIs {s:Shared}{I a:Addr}{ord:List Value}{ep i:Nat} (x:iy w s.heap I a ord ep i):s.TypeIs (.ref I) "set_iterator":=by
 refine bP x λo es t sl ak=>?_; clear x; refine gZ ak λh1 h2 h3 h4 h5 h6=>?_; clear ak
 exact ⟨_,h5,rfl⟩
theorem Bk (hh:A.handled=none) (I a:Addr) (bS:a≠I) (ord:List Value) (ep:Nat) :
  Walks prog w A I [I,a] [I] ord.length (λi v=>ord[i]?=some v) (λi h=>iy w h I a ord ep i) where
 sub:=λb hb=>by simp at hb; simp [hb]
 frame:=λi h h' st hk=>st.keep λb hb o e=>hk b (by rcases hb with rfl | rfl <;> simp) o e
 item:=λi s Q E hi st hQ=>by
  have hT:=st.typeIs;refine bP st λo es t sl ak=>?_; clear st; refine gZ ak λh1 h2 h3 h4 h5 h6=>?_; clear ak
  refine aQ (⟨ord[i],by simp [hi]⟩:∃ v,ord[i]?=some v) λv hv=>?_;unfold pyNext
  refine wpAny_bind (wpAny_attempt (wpAny_callSpecial?_slot (name:=Str.ofString "__next__") hT dz (wpAny_call_entry dz hT iD ?_ (jj _))));unfold Builtin.«set_iterator.__next__»;refine wpAny_bind (wpAny_pure ?_);refine wpAny_bind (wpAny_fieldsOf h5 rfl ?_);dsimp only;refine wpAny_bind (wpAny_setEntries_of h1 h3 h4.1 ?_);rw [if_neg (by rw [h4.2.1]; simp)];refine wpAny_bind (rN h1 h3 h4 (by simpa using h6) hv λnx Ja=>?_);refine wpAny_bind (wpAny_setField h5 rfl (by simp) ?_);have e1:(s.heap.update I (Obj.mapFields (·.setIfInBounds 0 (rawInt nx)))).get? I=some { cls:=.type "set_iterator",data:=.fields #[.int nx 0,.int i 0,.ref a,.int ord.length 0,.int ep 0] }:=by
   refine ae (Heap.get?_update_self _ h5 rfl) ?_; rfl
  refine wpAny_bind (wpAny_setField e1 rfl (by simp) ?_);have e2:((s.heap.update I (Obj.mapFields (·.setIfInBounds 0 (rawInt nx)))).update I (Obj.mapFields (·.setIfInBounds 1 (rawInt ((i:Int)+1))))).get? I=some (xP a nx (i+1) ord.length ep):=by
   refine ae (Heap.get?_update_self _ e1 rfl) ?_; rfl
  have e3:∀ b,b≠I->((s.heap.update I (Obj.mapFields (·.setIfInBounds 0 (rawInt nx)))).update I (Obj.mapFields (·.setIfInBounds 1 (rawInt ((i:Int)+1))))).get? b=s.heap.get? b:=λb hb=>by
   rw [Heap.get?_update_other _ _ (Ne.symm hb),Heap.get?_update_other _ _ (Ne.symm hb)]
  refine wpAny_pure ⟨_,rfl,wpAny_pure (hQ v _ s.toks hv ⟨o,es,t,nx,(e3 a bS).trans h1,h2,h3,h4,e2,Ja⟩ λb o hb e=>(e3 b (λq=>hb (by simp [q]))).trans e)⟩
 done:=λs Q E st hQ=>by
  have hT:=st.typeIs;refine bP st λo es t sl ak=>?_; clear st; refine gZ ak λh1 h2 h3 h4 h5 h6=>?_; clear ak
  unfold pyNext;refine wpAny_bind (wpAny_attempt (wpAny_callSpecial?_slot (name:=Str.ofString "__next__") hT dz (wpAny_call_entry dz hT iD ?_ (jj _))));unfold Builtin.«set_iterator.__next__»;refine wpAny_bind (wpAny_pure ?_);refine wpAny_bind (wpAny_fieldsOf h5 rfl ?_);dsimp only;refine wpAny_bind (wpAny_setEntries_of h1 h3 h4.1 ?_);rw [if_neg (by rw [h4.2.1]; simp)];refine wpAny_bind (rO h1 h3 h4 (by simpa using h6) ?_);refine wpAny_bind (wpAny_setField h5 rfl (by simp) ?_);refine wpAny_bind ?_;simp only [newExc,newTuple];refine wpAny_bind (wpAny_newObj_type ?_ (by size_fits));refine wpAny_bind (m:=firstArgMember _ _) (wpAny_of_eq (a:=Value.none) (by first | rfl | (simp only [firstArgMember]; rfl)) ?_);refine wpAny_newObj_type ?_ (by size_fits);simp only [raiseNew];refine wpAny_bind (wpAny_handled ?_);refine ae (show A.in1.handled=none from hh) ?_;refine wpAny_bind (wpAny_pure (wpAny_throw ?_));refine wpAny_bind (wpAny_isInstance (T:="StopIteration") (b:=true) ⟨_,Heap.get?_push_size _ rfl,rfl⟩ isSubtype_stop ?_);have x:=(((Heap.SameBut.update (h:=s.heap) I (Obj.mapFields (·.setIfInBounds 2 Value.none))).extBut.push { cls:=.type "tuple",data:=.seq #[] }).push { cls:=.type "StopIteration",data:=.fields #[] });refine wpAny_pure (hQ _ s.toks λb o hb e=>?_);exact Heap.get?_push_of_some _ (Heap.get?_push_of_some _ ((Heap.get?_update_other _ _ (λq=>hb (by simp [q]))).trans e))
 self:=λi s Q E st hQ=>by
  have hT:=st.typeIs;refine wpAny_pyIter_slot hT iT (wpAny_call_entry iT hT nA ?_ (pR _));show wpAny _ _ (ret (.ref I)) _ _ s;exact wpAny_pure ⟨_,rfl,"set_iterator",_,hT,dz.lookup,hQ⟩
theorem jz.typeIs {s:Shared}{a:Addr}{ord:List Value}{ep:Nat} (x:jz w s.heap a ord ep):s.TypeIs (.ref a) "set":=by
 refine gX x λo es t h1 h2 h3 h4=>?_; clear x
 exact ⟨_,h1,h2.1⟩
theorem Bj {a:Addr}{Q:Bool->Shared->Prop} (hT:s.TypeIs (.ref a) "set") (h:Q false s):wpAny (model prog w) A (Builtin.List.listLengthHint (.ref a)) Q E s:=by
 unfold Builtin.List.listLengthHint;refine wpAny_bind (wpAny_specialOf hT PySem.F.slot_set_len.lookup ?_);generalize WM:("set.__len__":String)=id0
 wp_delta
 refine ae (show splitId id0=some ("set","__len__") from by subst WM; decide +kernel) ?_;subst WM;refine wpAny_bind (wpAny_isInstance (T:="set") (b:=true) hT (by refine ae (isSubtype_type _ _) ?_; kernel_rfl) ?_);refine wpAny_ite_split (λEk=>absurd Ek (by decide)) (λz9=>?_);refine wpAny_ite_split (λz9=>?_) (λEk=>absurd (by decide +kernel) Ek);refine wpAny_bind (wpAny_typeOf hT ?_);exact wpAny_pure h
theorem wy {a:Addr}{ord:List Value}{ep:Nat}{Q:Value->Shared->Prop} (hv:jz w s.heap a ord ep) (hQ:Q (.ref s.heap.objs.size) { s with heap:=s.heap.push (xP a 0 0 ord.length ep) }) :
  wpAny (model prog w) A (pyIter (.ref a)) Q E s:=by
 have hT:=hv.typeIs;refine gX hv λo es t h1 h2 h3 h4=>?_; clear hv
 refine wpAny_pyIter_slot hT PySem.F.slot_set_iter (wpAny_call_entry PySem.F.slot_set_iter hT pG ?_ (PySem.F.args_set_iter_1 _));unfold Builtin.«frozenset.__iter__»;refine wpAny_bind ?_;unfold Builtin.Frozenset.slot0;refine wpAny_bind (wpAny_pure (wpAny_pure ?_));refine wpAny_bind ?_;unfold Builtin.Frozenset.sizeOf;refine wpAny_bind (wpAny_setEntries_of h1 h3 h4.1 (wpAny_pure ?_));refine wpAny_bind ?_;unfold setDrawn;refine wpAny_bind (wpAny_setState_of h1 h3 h4.1 ?_);dsimp only;refine wpAny_bind (cP (wpAny_pure ?_));have qw:¬ ((!w.params.followText "set-order" && (!t.plain && decide (es.size > 1)))=true):=by
  rcases h4.2.2 with ⟨hb,-⟩ | ⟨hb,-,hp,-⟩
  ·refine ae hb ?_; simp
  ·refine ae hb (ae hp ?_); simp
 refine wpAny_ite_split (λq=>absurd q qw) (λz9=>?_);refine wpAny_bind (wpAny_pure ?_);refine wpAny_bind (wpAny_setEpoch_of h1 h3 h4.1 ?_);refine wpAny_bind ?_;unfold newFields;refine wpAny_newObj_type ?_ (by size_fits);refine wpAny_pure ⟨_,rfl,"set_iterator",_,⟨_,Heap.get?_push_size _ rfl,rfl⟩,dz.lookup,?_⟩;exact ae h4.2.1 hQ
theorem Fy {a:Addr}{ord:List Value}{ep:Nat}:KdlSrc prog w "set" a a ord.length (λi v=>ord[i]?=some v) (λh=>jz w h a ord ep) where
 type:=λz9 hm=>hm.typeIs
 there:=λz9 hm=>let ⟨_,_,_,ho,_⟩:=hm; ⟨Heap.lt_size ho,Heap.lt_size ho⟩
 keep:=λz9 z8 hm hk=>let ⟨o,es,t,ho,x⟩:=hm; ⟨o,es,t,hk a (.inl rfl) o ho,x⟩
 notList:=by decide
 notTuple:=by decide
 hint:=λz9 z8 z7 z6 hm hq=>Bj hm.typeIs hq
 iter:=λz9 s hh hm=>⟨xP a 0 0 ord.length ep,λi h=>iy w h s.heap.objs.size a ord ep i,(λz9 z8 hq=>wy hm hq),Bk hh _ a (let ⟨_,_,_,ho,_⟩:=hm; Nat.ne_of_lt (Heap.lt_size ho)) ord ep,
  let ⟨o,es,t,h1,h2,h3,h4⟩:=hm
  ⟨o,es,t,0,Heap.get?_push_of_some _ h1,h2,h3,h4,Heap.get?_push_size _ rfl,.inr rfl⟩⟩
end
section
variable {S:Setup}{A:Around}{Qg:Heap}{L:Addr}{E:Value->Shared->Prop}{m:Loc}{C F:Led}{env:Env}{n:Nat}
theorem bR.addAt {s:Shared}{a:Addr}{o:Obj} (R:bR S Qg L m C F s) (hF:F a=none) (ho:s.heap.get? a=some o) (hL:a≠L) (h0:Qg.get? a=none):bR S Qg L m (upd C a o) F s:=by
 refine ⟨?_,R.d.upd_new o hF⟩;rw [bJ];refine ⟨R.fr,λb x e=>?_,R.r.g,R.r.o⟩;by_cases q:b=a
 ·subst q; replace e:=eG (af ..) e; subst e; exact ⟨ho,hL,h0⟩
 ·rw [ag _ _ q] at e; exact R.r.N b x e
noncomputable def xH (S:Setup) (C:Led) (a:Addr) (ord:List Value):Prop:=∃ o es ep t,C a=some o∧o.ExactSet∧o.data=.set es ep t∧jm S.w a es ep t ord
theorem uG {a:Addr}{ord:List Value}{ns:List Int}{Q:Value->Loc->Led->Prop} (G:Gd S n A Qg L env) (hs:xH S C a ord) (hi:IntsAre ord ns) (hz:ord.length < 64)
  (h:∀ D vs ms k C',(∀ z o,C z=some o->C' z=some o)->C D=none->C' D=some (listOf vs.toArray k)->IntsAre vs ms->ms.Perm ns->Q (.ref D) m C'):W S A Qg L E (call (.builtin "sorted") [.ref a]) m C Q:=.mk λF s R=>by
 refine bP hs λo es ep t ak=>?_; clear hs; refine dI ak λho h2 h3 h4=>?_; clear ak
 refine aF R.list λl N hl=>?_;refine kdu_sorted (Fy (a:=a) (ord:=ord) (ep:=ep)) G.hh R.fr N ⟨o,es,t,R.get ho,h2,h3,h4⟩ (by refine ae sizeLine_eq ?_; exact Qb (by walk_at "A") (Qb (Qf hz) (by walk_at "A"))) λD h' tk vs F' N' lt ky G_=>?_
 have evs:vs=ord:=by
  apply List.ext_getElem? ;intro i;cases e:vs[i]? with
  | none =>
   have:vs.length≤i:=List.getElem?_eq_none_iff.mp e;exact ae (List.getElem?_eq_none (Qd λq=>Ql (Qa (Qc (Eq.symm ky)) (Qa this q)))) rfl
  | some v=>exact (G_ i v e).symm
 subst evs;have fr:=R.fresh_of hl lt;have hD:=N' _ (.head _);have R1:bR S Qg L m C F { s with heap:=h',toks:=tk }:=(R.of_new hl F' N' fr.2 (tk:=tk)).sub λb x e=>by
  refine ae (ag _ _ (λq=>by rw [q] at e; exact bo fr.1 e)) ?_; exact e
 have hT:Shared.TypeIs { s with heap:=h',toks:=tk } (.ref D) "list":=⟨_,hD.1,rfl⟩;refine wpAny_call_entry slot_list_sort hT entry_list_sort ?_ (args_list_sort _);refine list_sort_tree (n:=0) hD.1 hi hz λout YW h1 Xv h3'=>?_;refine ⟨_,rfl,?_⟩
 have gk:=Heap.lt_size hD.1;have hk:∀ b o,b ∉ [D]->h'.get? b=some o->(sortedHeap h' D vs out).get? b=some o:=λb o hb e=>by
  have fC:D≠b:=λq=>hb (by simp [q])
  unfold sortedHeap;refine ae (Heap.get?_update_other _ _ fC) ?_;exact Heap.get?_push_of_some _ (Heap.get?_push_of_some _ ((Heap.get?_update_other _ _ fC).trans e))
 have R2:=R1.movedTo (s':={ s with heap:=sortedHeap h' D vs out,toks:=tk }) [D] hk (λb hb=>by
  rw [List.mem_singleton] at hb;subst hb;refine ⟨hD.2.1,hD.2.2,?_⟩;unfold join; refine ae fr.1 (ae fr.2 ?_); rfl) rfl rfl rfl
 obtain ⟨k,rg⟩:∃ k,(sortedHeap h' D vs out).get? D=some (listOf out k):=by
  unfold sortedHeap;have e1:=Heap.get?_update_self (Obj.mapSeq λz9=>(#[]:Array Value)) hD.1 rfl;have e2:=Heap.get?_push_of_some (seqObj "list" #[] 0) (Heap.get?_push_of_some (seqObj "tuple" vs.toArray 0) e1);exact ⟨_,Heap.get?_update_self (Obj.mapSeq λz9=>out) e2 rfl⟩
 refine ⟨m,_,R2.addAt fr.2 rg hD.2.1 hD.2.2,h D out.toList YW k _ (aB fr.1) fr.1 (ae (af _ _ _) (ae Array.toArray_toList rfl)) h1 Xv⟩
end
noncomputable def hW (led:Bool) (h:Int):SetTable:={ mask:=7,place:=#[SetTable.bits h % 8],dummies:=#[],finger:=0,led:=led,moves:=0,plain:=true }
theorem P1 (led:Bool) (h:Int) (x:Value):layNew (.fresh 0 0 led) #[] h x=(#[(h,x)],hW led h,false,false):=rfl
noncomputable def J0 (led:Bool) (h1 h2:Int):Bool :=
 match (hW led h1).freeSlot h2 with
 | some (j,false)=>(((hW led h1).put j).2 == 0 || ((hW led h1).put j).2 == 1) && ((hW led h1).put j).1.fits 2 && ((hW led h1).put j).1.plain && (((hW led h1).put j).1.led == led) && !((hW led h1).put j).1.tooFull &&
   (List.range 3).all λi=>SetTable.below ((hW led h1).put j).1.place (dS ((hW led h1).put j).1.place i) == i
 | _=>false
theorem DI:∀ led:Bool,((List.range 12).all λa=>(List.range 12).all λb=>a == b || J0 led a b)=true:=by decide +kernel
theorem Ex {h:Int} (b:h < 12):h.toNat < 12:=by omega
theorem P0 (led:Bool) (h1 h2:Int) (x1 x2:Value) (a1:0≤h1) (b1:h1 < 12) (a2:0≤h2) (b2:h2 < 12) (bS:h1≠h2) :
  ∃ es t,layNew (hW led h1) #[(h1,x1)] h2 x2=(es,t,false,false)∧(es=#[(h1,x1),(h2,x2)]∨es=#[(h2,x2),(h1,x1)])∧t.plain=true∧t.led=led∧t.fits 2=true∧t.tooFull=false∧∀ i,i≤2->SetTable.below t.place (dS t.place i)=i:=by
 have hc:J0 led h1 h2=true:=by
  have:=List.all_eq_true.mp (List.all_eq_true.mp (DI led) h1.toNat (List.mem_range.mpr (Ex b1))) h2.toNat (List.mem_range.mpr (Ex b2));rw [Int.toNat_of_nonneg a1,Int.toNat_of_nonneg a2] at this;rcases Bool.or_eq_true_iff.mp this with q | q
  ·exact absurd (by rw [beq_iff_eq] at q; omega) bS
  ·exact q
 unfold J0 at hc;cases hf:(hW led h1).freeSlot h2 with
 | none=>rw [hf] at hc; exact mi hc
 | some p =>
  obtain ⟨j,d⟩:=p;cases d with
  | true=>rw [hf] at hc; exact mi hc
  | false =>
   rw [hf] at hc;simp only [Bool.and_eq_true,Bool.not_eq_true',Bool.or_eq_true,beq_iff_eq,List.all_eq_true,List.mem_range] at hc;refine aS hc λak c6=>?_; clear hc; obtain ⟨⟨⟨⟨c1,c2⟩,c3⟩,c4⟩,c5⟩:=ak
   generalize hp:(hW led h1).put j=pp at c1 c2 c3 c4 c5 c6;obtain ⟨t',p⟩:=pp;dsimp only at c1 c2 c3 c4 c5 c6;have e:layNew (hW led h1) #[(h1,x1)] h2 x2=(SetTable.insertAt #[(h1,x1)] p (h2,x2),t'.orStandIn (SetTable.insertAt #[(h1,x1)] p (h2,x2)).size,false,!t'.fits (SetTable.insertAt #[(h1,x1)] p (h2,x2)).size):=by
    unfold layNew;refine ae hf ?_;dsimp only;exact ae hp rfl
   have Hq:SetTable.insertAt #[(h1,x1)] p (h2,x2)=#[(h1,x1),(h2,x2)]∨SetTable.insertAt #[(h1,x1)] p (h2,x2)=#[(h2,x2),(h1,x1)]:=by
    rcases c1 with rfl | rfl
    ·exact .inr rfl
    ·exact .inl rfl
   have jw:(SetTable.insertAt #[(h1,x1)] p (h2,x2)).size=2:=by rcases Hq with q | q <;> rw [q] <;> rfl
   refine ⟨_,t',?_,Hq,c3,c4,c2,c5,λi hi=>c6 i (Nat.lt_of_le_of_lt hi (Nat.le_add_left (Nat.succ 2) 0))⟩;refine ae e (ae jw (ae c2 ?_));unfold SetTable.orStandIn;refine ae c2 ?_;rfl
theorem JK:∀ a:Nat,a < 12->hashInt (a:Int)=a:=by decide +kernel
theorem pF (prog:Program) (w:World) (k:Int) (a:0≤k) (b:k < 12):(intKind prog w).hash k=k:=by
 have z:=JK k.toNat (Ex b);rwa [Int.toNat_of_nonneg a] at z
noncomputable abbrev ei (es:Array (Int×Value)) (ep:Nat) (t:SetTable):Obj:={ cls:=.type "set",dict:=none,data:=.set es ep t }
section
variable {prog:Program}{w:World}{A:Around}{E:Value->Shared->Prop}{s:Shared}
theorem mE {r:Addr}{es es':Array (Int×Value)}{ep:Nat}{t t':SetTable}{k:Int}{tk:Tok}{Q:Bool->Shared->Prop} (ho:s.heap.get? r=some (ei es ep t)) (hf:t.fits es.size=true) (WY:ElemsOf (intKind prog w) es.toList) (hz:es.size < 100) (uf:es'.size < 100)
  (Tj:∀ e∈es.toList,(intKind prog w).is k e.2=false) (Jj:layNew t es ((intKind prog w).hash k) (.int k tk)=(es',t',false,false)) (xq:t'.plain=true) (htf:t'.tooFull=false)
  (h:∀ h',h'.get? r=some (ei es' (ep+1) t')->(∀ b,b≠r->h'.get? b=s.heap.get? b)->Q true { s with heap:=h',toks:=s.toks+1 }):wpAny (model prog w) A (setAdd r (.int k tk)) Q E s:=by
 unfold setAdd;refine wpAny_holding ?_;refine wpAny_bind ((intKind prog w).pyHash (k:=k) (intKind_is _ _ _ _) ?_);unfold setAddHashed setAddHashedIn;refine wpAny_holding (wpAny_bind (wpAny_setState_of (s:={ s with toks:=s.toks+1 }) ho rfl hf ?_));dsimp only;refine ae (byScan_of rfl (by unfold scanBound; exact Qb hz (Nat.le_add_left 100 3996)) WY) (ae (if_pos rfl) ?_);unfold setAddByScan;refine wpAny_bind ?_;refine wpAny_bind (wpAny_rule ?_);refine wpAny_bind (wpAny_setScan_of (s:={ s with toks:=s.toks+1 }) (intKind_is _ _ _ _) ho rfl hf WY ?_);refine ae (List.findIdx?_eq_none_iff.mpr Tj) ?_;dsimp only;simp only [Jj];refine wpAny_bind ?_;show wpAny _ _ (Pure.pure ()) _ _ _;refine wpAny_pure ?_;refine ae xq (ae (if_pos rfl) ?_);refine wpAny_bind ?_;refine ae (hashByValue_scannable 8 rfl) ?_;refine wpAny_pure ?_;refine ae (show plainKind (.int k tk)=true from rfl) (ae (if_pos rfl) ?_);refine wpAny_bind (wpAny_storeSet_of (s:={ s with toks:=s.toks+1 }) ho rfl ?_ (by refine ae sizeLine_eq ?_; exact Qb (by walk_at "A") (Qb (Qf uf) (by walk_at "A"))));refine ae htf ?_;refine wpAny_pure (wpAny_pure (h _ ?_ λb hb=>Heap.get?_update_other _ _ (Ne.symm hb)));exact Heap.get?_update_self _ ho rfl
noncomputable def fE (led:Bool) (ps:List Int) (o:Obj):Prop :=
 (ps=[]∧∃ ep zG,o=ei #[] ep (.fresh 0 0 zG)) ∨
 (∃ p t ep,ps=[p]∧(0≤p∧p < 12)∧o=ei #[(p,.int p t)] ep (hW led p)) ∨
 (∃ p q es ep t,ps=[p,q]∧(∃ tp tq,es=#[(p,.int p tp),(q,.int q tq)]∨es=#[(q,.int q tq),(p,.int p tp)])∧o=ei es ep t∧t.plain=true∧t.led=led∧t.fits 2=true∧∀ i,i≤2->SetTable.below t.place (dS t.place i)=i)
theorem wm:isSubtype (.type "list") (.type "set")=pure false:=by refine ae (isSubtype_type _ _) ?_; kernel_rfl
theorem wo:isSubtype (.type "list") (.type "frozenset")=pure false:=by refine ae (isSubtype_type _ _) ?_; kernel_rfl
theorem xC {a:Addr}{ps:List Int}{o:Obj}{Q:Value->Shared->Prop} (ho:s.heap.get? a=some o) (hp:fE (!w.params.followText "set-order") ps o) (hl:ps.length≤1)
  (h:∀ h' o',fE (!w.params.followText "set-order") ps o'->(ps=[]->∃ ep,o'=ei #[] ep (.fresh 0 0 (!w.params.followText "set-order")))->h'.objs.size=s.heap.objs.size+1->h'.get? s.heap.objs.size=some o'->(∀ b x,s.heap.get? b=some x->h'.get? b=some x)->Q (.ref s.heap.objs.size) { s with heap:=h' }) :
  wpAny (model prog w) A (Builtin.Frozenset.copyOf a) Q E s:=by
 have bS:s.heap.objs.size≠a:=Nat.ne_of_gt (Heap.lt_size ho);have hT:s.TypeIs (.ref a) "set":=by
  rcases hp with ⟨-,ep,zG,rfl⟩ | ⟨p,t,ep,-,-,rfl⟩ | ⟨p,q,es,ep,t,-,-,rfl,-⟩ <;> exact ⟨_,ho,rfl⟩
 unfold Builtin.Frozenset.copyOf Builtin.Frozenset.baseOf;refine wpAny_bind (wpAny_bind (wpAny_isInstance hT sub_set_self ?_));refine ae (if_pos rfl) ?_;refine wpAny_pure ?_;refine wpAny_bind ?_;unfold newSet;refine wpAny_bind (cP ?_);dsimp only;simp only [newObj];refine wpAny_bind (wpAny_alloc (wpAny_pure ?_));have h0:(s.heap.push (ei #[] 0 (.fresh 0 0 (!w.params.followText "set-order")))).get? s.heap.objs.size=some (ei #[] 0 (.fresh 0 0 (!w.params.followText "set-order"))):=Heap.get?_push_size _ rfl;have ha:=Heap.get?_push_of_some (ei #[] 0 (.fresh 0 0 (!w.params.followText "set-order"))) ho;show wpAny _ _ (Builtin.Frozenset.addrOf (.ref s.heap.objs.size) >>= _) _ _ _;refine wpAny_bind (wpAny_pure ?_);refine wpAny_bind ?_;unfold setMerge;refine ae (if_neg (by simpa using bS)) ?_;rcases hp with ⟨rfl,ep,zG,rfl⟩ | ⟨p,t,ep,rfl,hr,rfl⟩ | ⟨p,q,es,ep,t,rfl,-⟩
 ·refine wpAny_bind (wpAny_setState_of ha rfl rfl ?_);dsimp only;refine ae (if_pos (show (#[]:Array (Int×Value)).isEmpty=true from rfl)) ?_;refine wpAny_pure (wpAny_pure (h _ _ (.inl ⟨rfl,0,_,rfl⟩) (λz9=>⟨0,rfl⟩) (Heap.size_push ..) h0 λb x e=>Heap.get?_push_of_some _ e))
 ·refine wpAny_bind (wpAny_setState_of ha rfl rfl ?_);dsimp only;refine ae (if_neg (by simp)) ?_;refine wpAny_bind ?_;unfold setRoomFor;refine wpAny_bind (wpAny_setState_of h0 rfl rfl ?_);refine wpAny_pure ?_;refine wpAny_bind (wpAny_setState_of h0 rfl rfl ?_);show wpAny _ _ (storeSet _ _ _) _ _ _;refine wpAny_storeSet_of h0 rfl ?_ (by refine ae sizeLine_eq ?_; simp);refine wpAny_pure (h _ (ei #[(p,.int p t)] 1 (hW (!w.params.followText "set-order") p)) (.inr (.inl ⟨p,t,1,rfl,hr,rfl⟩)) (λe=>by injection e) ?_ ?_ λb x e=>?_)
  ·rw [Heap.size_update,Heap.size_push]
  ·refine ae (Heap.get?_update_self _ h0 rfl) ?_;show some (ei #[(p,.int p t)] 1 _)=_;simp [hW,SetTable.fresh]
  ·have hb:s.heap.objs.size≠b:=Nat.ne_of_gt (Heap.lt_size e);refine ae (Heap.get?_update_other _ _ hb) ?_;exact Heap.get?_push_of_some _ e
 ·simp at hl
theorem Az {prog:Program}{w:World}{p:Int}{t:Tok} (hr:0≤p∧p < 12):ElemsOf (intKind prog w) (#[(p,Value.int p t)]:Array (Int×Value)).toList:=λe he=>by
 simp only [List.mem_singleton] at he;subst he;exact ⟨⟨p,intKind_is _ _ _ _,(pF prog w p hr.1 hr.2).symm⟩,rfl⟩
theorem we {r I l:Addr}{ps:List Int}{o:Obj}{x:Int}{tk:Tok}{R:Result->Shared->Prop} (hh:A.handled=none) (ho:s.heap.get? r=some o) (hp:fE (!w.params.followText "set-order") ps o)
  (he:ps=[]->∃ ep,o=ei #[] ep (.fresh 0 0 (!w.params.followText "set-order"))) (hl:ps.length≤1) (hx:0≤x∧x < 12) (Ja:x ∉ ps)
  (hit:s.heap.IsListIter I l 0) (yu:s.heap.IsList l #[.int x tk]) (Ot:r≠I) (iG:r≠l)
  (h:∀ h' o' HP,fE (!w.params.followText "set-order") (ps++[x]) o'->h'.get? r=some o'->(∀ b y,b≠r->b≠I->s.heap.get? b=some y->h'.get? b=some y)->R (.ok (.ret .none)) { s with heap:=h',toks:=HP }) :
  codeAny (model prog w) A (.builtin "set.update.loop" ⟨[.ref r,.ref I],[]⟩) R s:=by
 have Jk:l≠I:=λe=>by
  refine bF hit λo1 h1 h2 z9=>?_; clear hit
  refine bF yu λo2 h3 h4 z9=>?_; clear yu
  rw [e] at h3; replace h3:=eG h1 h3; subst h3;rw [h2] at h4; exact absurd h4 (by decide)
 refine codeAny_builtin PyProof.Rows.F.entry_set_update_loop ?_;refine ae (Around.under_plainId PyProof.Rows.F.plain_set_update_loop _) ?_;show wpAny _ A.in1 (pyNext (.ref I) >>= _) _ _ s;refine wpAny_bind (wpAny_pyNext_list_item hit yu (x:=.int x tk) rfl λh1 CY FI=>?_);have k1:∀ b y,b≠I->s.heap.get? b=some y->h1.get? b=some y:=λb y hb e=>FI.extBut b y hb e
 show wpAny _ A.in1 (holding [Value.int x tk] (setAdd r (.int x tk)) >>= _) _ _ _;refine wpAny_bind (wpAny_holding ?_);have Hp:=pF prog w x hx.1 hx.2;have CT:h1.IsList l #[.int x tk]:=yu.at λo e=>k1 l o Jk e
 have fin:∀ (h2:Heap) (o':Obj) (HO:Nat),fE (!w.params.followText "set-order") (ps++[x]) o'->h2.get? r=some o'->(∀ b,b≠r->h2.get? b=h1.get? b) →
   codeAny (model prog w) A (.builtin "set.update.loop" ⟨[.ref r,.ref I],[]⟩) R { s with heap:=h2,toks:=HO }:=λh2 o' HO vx vz kI=>by
  refine codeAny_builtin PyProof.Rows.F.entry_set_update_loop ?_;refine ae (Around.under_plainId PyProof.Rows.F.plain_set_update_loop _) ?_;show wpAny _ A.in1 (pyNext (.ref I) >>= _) _ _ _;have xw:h2.IsListIter I l 1:=CY.at λo e=>(kI I (Ne.symm Ot)).trans e
  have Sl:h2.IsList l #[.int x tk]:=CT.at λo e=>(kI l (Ne.symm iG)).trans e
  refine wpAny_bind (wpAny_pyNext_list_end (s:={ s with heap:=h2,toks:=HO }) hh xw Sl rfl λh3 I4=>?_);show wpAny _ A.in1 (ret Value.none) _ _ _;exact wpAny_pure (h h3 o' HO vx (I4 r _ Ot vz) λb y hb JI e=>I4 b y JI ((kI b hb).trans (k1 b y JI e)))
 rcases hp with ⟨rfl,-⟩ | ⟨p,t,ep,rfl,hr,rfl⟩ | ⟨p,q,es,ep,t,rfl,-⟩
 ·refine aQ (he rfl) λep ak=>?_; subst ak
  refine mE (s:={ s with heap:=h1 }) (k1 r _ Ot ho) rfl (λe he=>by simp at he) (by simp) (es':=#[(x,.int x tk)]) (by simp) (λe he=>by simp at he) (by refine ae Hp ?_; exact P1 _ _ _) rfl rfl λh2 vz kI=>?_;refine wpAny_pure ⟨plainId_quiet PyProof.Rows.F.plain_set_update_loop _,fin h2 _ _ (.inr (.inl ⟨x,tk,_,rfl,hx,rfl⟩)) vz kI⟩
 ·have bS:p≠x:=λe=>Ja (by exact ae e (List.mem_cons_self ..))
  refine dB (P0 (!w.params.followText "set-order") p x (.int p t) (.int x tk) hr.1 hr.2 hx.1 hx.2 bS) λes t' ak=>?_; refine gc ak λe1 e2 e3 e4 e5 e6 e7=>?_; clear ak
  have jw:es.size=2:=by rcases e2 with q | q <;> rw [q] <;> rfl
  refine mE (s:={ s with heap:=h1 }) (k1 r _ Ot ho) rfl (Az hr) (by simp) (es':=es) (Nat.lt_of_le_of_lt (Qc jw) (by decide)) (λe he=>?_) (by refine ae Hp ?_; exact e1) e3 e6 λh2 vz kI=>?_
  ·simp only [List.mem_singleton] at he;subst he;have:=KeyKind.is_eq_decide (knd:=intKind prog w) (intKind_is prog w p t) x;exact ae this (decide_eq_false (Ne.symm bS))
  ·refine wpAny_pure ⟨plainId_quiet PyProof.Rows.F.plain_set_update_loop _,fin h2 _ _ (.inr (.inr ⟨p,x,es,_,t',rfl,⟨t,tk,e2⟩,rfl,e3,e4,e5,e7⟩)) vz kI⟩
 ·simp at hl
theorem wi {a l:Addr}{ps:List Int}{o:Obj}{x:Int}{tk:Tok}{Q:Fin->Shared->Prop} (hh:A.handled=none) (ho:s.heap.get? a=some o) (hp:fE (!w.params.followText "set-order") ps o) (hl:ps.length≤1) (hx:0≤x∧x < 12) (Ja:x ∉ ps)
  (yu:s.heap.IsList l #[.int x tk]) (mh:a≠l)
  (h:∀ h' o' HP,fE (!w.params.followText "set-order") (ps++[x]) o'->h'.get? s.heap.objs.size=some o'->(∀ b y,b < s.heap.objs.size->s.heap.get? b=some y->h'.get? b=some y)->Q (.done (.ret (.ref s.heap.objs.size))) { s with heap:=h',toks:=HP }) :
  wpAny (model prog w) A (Builtin.«frozenset.union» ⟨[.ref a,.ref l],[]⟩) Q E s:=by
 unfold Builtin.«frozenset.union» Builtin.Frozenset.manyOthers;refine wpAny_bind ?_;refine ae (if_neg (by simp)) ?_;refine wpAny_bind (wpAny_pure ?_);refine wpAny_pure ?_;dsimp only;refine wpAny_bind (xC ho hp hl λh1 o1 Eb Jy FI pd iP=>?_);refine wpAny_bind (wpAny_holding ?_);rw [List.forIn_cons];refine wpAny_bind (wpAny_bind ?_);have hla:(Value.ref l != Value.ref a)=true:=by simp [Ne.symm mh]
 refine ae (if_pos hla) ?_;refine wpAny_bind (wpAny_pure ?_);have CT:h1.IsList l #[.int x tk]:=yu.at λo e=>iP l o e
 have hT:Shared.TypeIs { s with heap:=h1 } (.ref l) "list":=CT.typeIs;refine wpAny_bind ?_;unfold Builtin.Frozenset.updateFrom;have f1:=wm;have f2:=wo;have bS:(Value.type "list" == Value.type "dict")=false:=by decide
 generalize Nq:pyIter=PI
 wp_walk
 subst Nq;refine wpAny_pyIter_list CT ?_;refine wpAny_bind (wpAny_runValue ?_);have gk:a < s.heap.objs.size:=Heap.lt_size ho;have Sj:l < s.heap.objs.size:=by refine aF yu λo2 h3 z9=>?_; clear yu; exact Heap.lt_size h3
 refine we (s:={ s with heap:=h1.push { cls:=.type "list_iterator",data:=.fields #[.ref l,.int 0 0] } }) hh (Heap.get?_push_of_some _ pd) Eb Jy hl hx Ja ⟨_,Heap.get?_push_size _ rfl,rfl,rfl⟩ (CT.at λo e=>Heap.get?_push_of_some _ e) (by show s.heap.objs.size≠h1.objs.size; exact λq=>Ql (Qa (Qc (Eq.symm FI)) (Qc (Eq.symm q)))) (Nat.ne_of_gt Sj) λh2 o2 HO vx vz kI=>?_;refine wpAny_pure ?_
 refine wpAny_pure ?_;dsimp only;refine ae List.forIn_nil ?_;refine wpAny_pure ?_;refine wpAny_pure ?_;exact wpAny_pure (h h2 o2 HO vx vz λb y hb e=>kI b y (Nat.ne_of_lt hb) (by show b≠h1.objs.size; exact λq=>Ql (Qa (Qc (Eq.symm FI)) (Qa (Qf hb) (Qc (Eq.symm q))))) (Heap.get?_push_of_some _ (iP b y e)))
end
section
variable {S:Setup}{A:Around}{Qg:Heap}{L:Addr}{E:Value->Shared->Prop}{m:Loc}{C F:Led}{env:Env}{n:Nat}
theorem bR.newObj {s:Shared}{h':Heap}{tk:Nat}{o:Obj} (R:bR S Qg L m C F s) (hS:h'.get? s.heap.objs.size=some o) (hk:∀ b x,b < s.heap.objs.size->s.heap.get? b=some x->h'.get? b=some x) :
  C s.heap.objs.size=none∧bR S Qg L m (upd C s.heap.objs.size o) F { s with heap:=h',toks:=tk }:=by
 refine cz R.fr.ns λoL z9 z8 hL z7=>?_;have Du:L < s.heap.objs.size:=Heap.lt_size hL
 have fr:=R.fresh_size (Nat.le_refl s.heap.objs.size);refine ⟨fr.1,?_,R.d.upd_new o fr.2⟩;rw [bJ];refine ⟨⟨R.fr.ns.at' λo' e=>hk L o' Du e,λb o' e=>hk b o' (Heap.lt_size (R.fr.keep b o' e)) (R.fr.keep b o' e),R.fr.above⟩,λa x e=>?_,R.r.g,R.r.o⟩;by_cases q:a=s.heap.objs.size
 ·subst q;replace e:=eG (af ..) e; subst e;refine ⟨hS,Nat.ne_of_gt Du,?_⟩;cases hq:Qg.get? s.heap.objs.size with
  | none=>rfl
  | some o'=>exact absurd (Heap.lt_size (R.fr.keep _ _ hq)) (Nat.lt_irrefl _)
 ·rw [ag _ _ q] at e;have z:=R.r.N a x e;exact ⟨hk _ _ (Heap.lt_size z.1) z.1,z.2⟩
noncomputable def eE (S:Setup) (C:Led) (a:Addr) (ps:List Int):Prop:=∃ o,C a=some o∧fE (!S.w.params.followText "set-order") ps o
theorem eE.sub {C':Led}{a:Addr}{ps:List Int} (h:eE S C a ps) (k:∀ x o,C x=some o->C' x=some o):eE S C' a ps:=let ⟨o,x,y⟩:=h; ⟨o,k _ _ x,y⟩
theorem H3 {Q:Value->Loc->Led->Prop} (h:∀ a o,C a=none->eE S (upd C a o) a []->Q (.ref a) m (upd C a o)):W S A Qg L E (call (.type "set") []) m C Q:=.mk λF s R=>by
 refine PySem.call_set_0 λled=>?_;have e:(s.heap.push (ei #[] 0 (.fresh 0 0 led))).get? s.heap.objs.size=some (ei #[] 0 (.fresh 0 0 led)):=Heap.get?_push_size _ rfl
 refine aS (R.newObj (tk:=s.toks) e λb x z9 hb=>Heap.get?_push_of_some _ hb) λf R'=>?_;exact ⟨m,_,R',h _ _ f ⟨_,af _ _ _,.inl ⟨rfl,_,_,rfl⟩⟩⟩
theorem fE.plain {led:Bool}{ps:List Int}{o:Obj} (h:fE led ps o):o.cls=.type "set"∧o.dict=none:=by
 rcases h with ⟨-,ep,zG,rfl⟩ | ⟨p,t,ep,-,-,rfl⟩ | ⟨p,q,es,ep,t,-,-,rfl,-⟩ <;> exact ⟨rfl,rfl⟩
theorem gC {a:Addr}{ps:List Int}{pl:Sem Bool}{Q:Value×List Value->Loc->Led->Prop} (hd:eE S C a ps) (h:Q (.builtin "set.union",[.ref a]) m C):W S A Qg L E (getMethod (.ref a) "union" pl) m C Q:=.mk λF s R=>by
 refine aF hd λo ho hp=>?_; clear hd
 have hg:=R.get ho;exact getMethod_builtin (T:="set") ⟨o,hg,hp.plain.1⟩ PySem.F.plainAttrs_set PySem.F.slot_set_union PySem.F.type_set_union (λb e=>by replace e:=PySem.Value.ref.inj e; subst e; exact ⟨o,hg,hp.plain.2⟩) ⟨m,C,R,h⟩
theorem xS {a l:Addr}{k:Nat}{ps:List Int}{x:Int}{tk:Tok}{Q:Value->Loc->Led->Prop} (G:Gd S n A Qg L env) (hd:eE S C a ps) (hl:ps.length≤1) (hx:0≤x∧x < 12) (Ja:x ∉ ps) (yu:C l=some (listOf #[.int x tk] k)) (mh:a≠l)
  (h:∀ b o,C b=none->eE S (upd C b o) b (ps++[x])->Q (.ref b) m (upd C b o)):W S A Qg L E (call (.builtin "set.union") [.ref a,.ref l]) m C Q:=.mk λF s R=>by
 refine aF hd λo ho hp=>?_; clear hd
 have hg:=R.get ho;have hT:s.TypeIs (.ref a) "set":=⟨o,hg,hp.plain.1⟩;refine wpAny_call_entry PySem.F.slot_set_union hT nB ?_ (PySem.F.args_set_union_2 _ _);refine wi G.hh hg hp hl hx Ja ⟨_,R.get yu,rfl,_,rfl⟩ mh λh' o' HP hp' ph hk=>?_;refine aS (R.newObj (tk:=HP) ph hk) λf R'=>?_
 exact ⟨_,rfl,m,_,R',h _ _ f ⟨_,af _ _ _,hp'⟩⟩
theorem Dw {α:Type}{f:Nat->Nat}{n k i:Nat}{l:List α}{out:Array α}{x:α} (e:f k % l.length=i) (h:l[i]?=some x):pickOrder.go f (n+1) k l out=pickOrder.go f n (k+1) (l.eraseIdx i) (out.push x):=by
 subst e;exact congrArg (λo:Option α=>match o with | some x=>pickOrder.go f n (k+1) (l.eraseIdx (f k % l.length)) (out.push x) | none=>out) h
theorem BL {α:Type} (f:Nat->Nat) (x:α):pickOrder f #[x]=#[x]:=Dw (i:=0) (Nat.mod_one _) rfl
theorem BK {α:Type} (f:Nat->Nat) (x y:α):pickOrder f #[x,y]=#[x,y]∨pickOrder f #[x,y]=#[y,x] :=
 (Nat.mod_two_eq_zero_or_one (f 0)).imp (λe=>(Dw (i:=0) e rfl).trans (Dw (i:=0) (Nat.mod_one _) rfl)) λe=>(Dw (i:=1) e rfl).trans (Dw (i:=0) (Nat.mod_one _) rfl)
theorem J4:∀ a:Nat,a < 12->∀ i:Nat,i < 2->SetTable.below (hW (!false) (a:Int)).place (dS (hW (!false) (a:Int)).place i)=i:=by decide +kernel
theorem eE.ord {a:Addr}{ps:List Int} (h:eE S C a ps):∃ ord ns,xH S C a ord∧IntsAre ord ns∧ns.Perm ps∧ord.length≤2:=by
 refine aF h λo ho hp=>?_; clear h
 rcases hp with ⟨rfl,ep,zG,rfl⟩ | ⟨p,t,ep,rfl,hr,rfl⟩ | ⟨p,q,es,ep,t,rfl,Hq,rfl,h1,h2,h3,h4⟩
 ·refine ⟨[],[],⟨_,#[],ep,_,ho,⟨rfl,rfl,rfl⟩,rfl,rfl,rfl,?_⟩,.nil,.refl _,by simp⟩;cases hb:S.w.params.followText "set-order"
  ·refine .inr ⟨rfl,.inr rfl,rfl,λi hi=>?_,rfl⟩;have:i=0:=by simpa using hi
   subst this; rfl
  ·exact .inl ⟨rfl,rfl⟩
 ·refine ⟨[.int p t],[p],⟨_,#[(p,.int p t)],ep,_,ho,⟨rfl,rfl,rfl⟩,rfl,rfl,rfl,?_⟩,.cons _ _ .nil,.refl _,by simp⟩;cases hb:S.w.params.followText "set-order"
  ·refine .inr ⟨rfl,.inl rfl,rfl,λi hi=>?_,rfl⟩;have z:=J4 p.toNat (Ex hr.2) i (Nat.lt_succ_of_le hi);rwa [Int.toNat_of_nonneg hr.1] at z
  ·refine .inl ⟨rfl,?_⟩;refine ae (BL _ _) ?_; rfl
 ·have key:∀ v w:Int,∀ tv tw:Tok,es=#[(v,.int v tv),(w,.int w tw)]->[v,w].Perm [p,q]->∃ ord ns,xH S C a ord∧IntsAre ord ns∧ns.Perm [p,q]∧ord.length≤2:=λv w tv tw e jX=>by
   subst e;have ex:(ei #[(v,.int v tv),(w,.int w tw)] ep t).ExactSet:=⟨rfl,rfl,rfl⟩;cases hb:S.w.params.followText "set-order"
   ·refine ⟨[.int v tv,.int w tw],[v,w],⟨_,_,ep,_,ho,ex,rfl,h3,rfl,.inr ⟨hb,.inl (by refine ae h2 (ae hb ?_); rfl),h1,λi hi=>h4 i hi,rfl⟩⟩,.cons _ _ (.cons _ _ .nil),jX,by simp⟩
   ·rcases BK (S.w.params.setOrder a ep) (v,Value.int v tv) (w,Value.int w tw) with e | e
    ·exact ⟨[.int v tv,.int w tw],[v,w],⟨_,_,ep,_,ho,ex,rfl,h3,rfl,.inl ⟨hb,by refine ae e ?_; rfl⟩⟩,.cons _ _ (.cons _ _ .nil),jX,by simp⟩
    ·exact ⟨[.int w tw,.int v tv],[w,v],⟨_,_,ep,_,ho,ex,rfl,h3,rfl,.inl ⟨hb,by refine ae e ?_; rfl⟩⟩,.cons _ _ (.cons _ _ .nil),(List.Perm.swap _ _ _).trans jX,by simp⟩
  refine dB Hq λtp tq ak=>?_; clear Hq; obtain e | e:=ak
  ·exact key p q tp tq e (.refl _)
  ·exact key q p tq tp e (List.Perm.swap _ _ _)
end
section
variable {S:Setup}{A:Around}{base Qg:Heap}{outer:List Env}{L:Addr}{nl:List (Addr×Obj)}{E:Value->Shared->Prop}{m:Loc}{C F:Led}{env:Env}{n:Nat}
theorem bR.ext {s:Shared}{h':Heap}{tk:Nat} (R:bR S Qg L m C F s) (hk:∀ b x,b < s.heap.objs.size->s.heap.get? b=some x->h'.get? b=some x):bR S Qg L m C F { s with heap:=h',toks:=tk }:=by
 refine cz R.fr.ns λoL z9 z8 hL z7=>?_;refine ⟨⟨⟨R.fr.ns.at' λo' e=>hk L o' (Heap.lt_size hL) e,λb o' e=>hk b o' (Heap.lt_size (R.fr.keep b o' e)) (R.fr.keep b o' e),R.fr.above⟩,λa x e=>?_,R.r.g,R.r.o⟩,R.d⟩
 have z:=R.r.N a x e;exact ⟨hk _ _ (Heap.lt_size z.1) z.1,z.2⟩
theorem eJ {elts:List Expr}{k:Nat}{pos:Pos}{t:Addr}{vs:List Value}{Q:Unit->Loc->Led->Prop} (G:Gd S n A Qg L env) (ht:wa C t vs) (h:W S A Qg L E (assignInOrder ((assignEach elts env).map (·.2)) vs) m C Q)
  (hn:autoParam ((assignEach elts env).length=vs.length) aR) (CE:autoParam ((assignEach elts env).findIdx? (·.1)=none) aR):W S A Qg L E (assign (.Tuple elts k pos) env (.ref t)) m C Q:=.mk2 λF s R=>by
 refine wpAny_assign_Tuple G.hh (let ⟨_,_,_,r⟩:=R; r.isTup ht) (by simpa using hn) CE λh' hx=>?_;obtain ⟨Fo,le,tb,R⟩:=R
 exact h.go F _ ⟨Fo,le,tb,R.ext (tk:=s.toks) λb x hb e=>hx b x (Nat.ne_of_lt hb) e⟩
theorem yY {elts:List Expr}{k:Nat}{pos:Pos}{t:Addr}{vs:List Value}{Q:Unit->Loc->Led->Prop} (G:Gd S n A Qg L env) (ht:cN C t vs) (h:W S A Qg L E (assignInOrder ((assignEach elts env).map (·.2)) vs) m C Q)
  (hn:autoParam ((assignEach elts env).length=vs.length) aR) (CE:autoParam ((assignEach elts env).findIdx? (·.1)=none) aR):W S A Qg L E (assign (.Tuple elts k pos) env (.ref t)) m C Q:=.mk2 λF s R=>by
 obtain ⟨Fo,le,tb,R⟩:=R;refine aF R.list λl N hl=>?_;refine kun_list R.fr N (R.isList ht) G.hh (by simpa using hn) CE λh' F' N'=>?_
 exact h.go F _ ⟨Fo,le,tb,R.of_same (tk:=s.toks) hl F' N'⟩
theorem js {Q:Unit->Loc->Led->Prop} (h:Q () m C):W S A Qg L E (assignInOrder [] []) m C Q:=.mk λF s R=>wpAny_pure ⟨m,C,R,h⟩
theorem bc {f:Value->Sem Unit}{fs:List (Value->Sem Unit)}{v:Value}{vs:List Value}{Q:Unit->Loc->Led->Prop} (h:W S A Qg L E (f v) m C (Bd S A Qg L E (λz9=>assignInOrder fs vs) Q)):W S A Qg L E (assignInOrder (f::fs) (v::vs)) m C Q:=.mk2 λF s R=>by
 show wpAny _ _ (do holding vs (f v); assignInOrder fs vs) _ _ _;exact wpAny_bind (wpAny_holding (h.run R λz9 m' C' s' R' q=>q.go F s' R'))
noncomputable abbrev jc (d:Addr):Obj:={ cls:=.type "dict_items",data:=.fields #[.ref d] }
theorem kT {d:Addr}{kvs:List (Int×Value)}{pl:Sem Bool}{Q:Value×List Value->Loc->Led->Prop} (hd:d6 S C d kvs) (h:Q (.builtin "dict.items",[.ref d]) m C):W S A Qg L E (getMethod (.ref d) "items" pl) m C Q:=.mk λF s R=>by
 refine ck hd λlo o ho hi=>?_; clear hd
 refine aF R.list λl N hl=>?_;have hD:=kda_dict N (hl _ _ (aI ho)) hi
 exact getMethod_builtin hD.typeIs PySem.F.plainAttrs_dict PySem.F.slot_dict_items PySem.F.type_dict_items hD.mapOf.noDict ⟨m,C,R,h⟩
theorem uO {d:Addr}{kvs:List (Int×Value)}{Q:Value->Loc->Led->Prop} (hd:d6 S C d kvs) (h:∀ v,C v=none->Q (.ref v) m (upd C v (jc d))):W S A Qg L E (call (.builtin "dict.items") [.ref d]) m C Q:=.mk λF s R=>by
 refine ck hd λlo o ho hi=>?_; clear hd
 refine aF R.list λl N hl=>?_;have hD:=kda_dict N (hl _ _ (aI ho)) hi
 have e:=Heap.get?_push_size (h:=s.heap) (o:=jc d) rfl;refine aS (R.newObj (tk:=s.toks) e λb x z9 hb=>Heap.get?_push_of_some _ hb) λf R'=>?_;exact call_meetsIn PySem.F.slot_dict_items hD.typeIs PySem.F.entry_dict_items (PySem.F.args_dict_items_1 _) (meets_dict_items _ d lo) ⟨⟨kvs,hD⟩,m,_,R',h _ f⟩
theorem rR {d:Addr}{kvs:List (Int×Value)}{Q:Bool->Loc->Led->Prop} (hd:d6 S C d kvs) (hz:kvs.length≤10000) (h:Q (!kvs.isEmpty) m C):W S A Qg L E (truthy (.ref d)) m C Q:=.mk λF s R=>by
 refine ck hd λlo o ho hi=>?_; clear hd
 refine aF R.list λl N hl=>?_;have hD:=kda_dict N (hl _ _ (aI ho)) hi
 exact wpAny_truthy_dict lo hD (Int.lt_of_le_of_lt (Int.ofNat_le.mpr hz) (by decide)) ⟨m,C,R.ext λb x z9 e=>e,h⟩
noncomputable abbrev ts (fst:Value) (d:Addr) (i n ep:Nat) (ok ov:Value):Obj:={ cls:=.type "dict_itemiterator",dict:=none,data:=.fields #[fst,.bool false,.ref d,.int i 0,.int n 0,.int ep 0,ok,ov],slots:=#[] }
theorem oq {v d:Addr}{kvs:List (Int×Value)}{Q:Value->Loc->Led->Prop} (hv:C v=some (jc d)) (hd:d6 S C d kvs) (h:∀ a ep,C a=none->(∃ od es,C d=some od∧od.data=.dict es ep)->Q (.ref a) m (upd C a (ts .none d 0 kvs.length ep .none .none))):W S A Qg L E (pyIter (.ref v)) m C Q:=.mk λF s R=>by
 refine ck hd λlo o ho hi=>?_; clear hd
 refine aF R.list λl N hl=>?_;refine dB hi λes ep ak=>?_; refine d9 ak λhx pC hk hp hn=>?_; clear ak
 have Gh:s.heap.DictAt (intKind S.prog S.w) d kvs ep:=⟨o,es,R.get ho,hx,pC,hk,hp,hn⟩;refine wpAny_pyIter_items ⟨_,R.get hv,rfl,rfl⟩ Gh ?_;have e:=Heap.get?_push_size (h:=s.heap) (o:=ts .none d 0 kvs.length ep .none .none) rfl;refine aS (R.newObj (tk:=s.toks) e λb x z9 hb=>Heap.get?_push_of_some _ hb) λf R'=>?_;exact ⟨m,_,R',h _ _ f ⟨o,es,ho,pC⟩⟩
theorem bR.hid_change' {s:Shared}{a:Addr}{o o':Obj}{h':Heap}{tk:Nat} (R:bR S Qg L m C (upd F a o) s) (hs:∀ b x,b≠a->s.heap.get? b=some x->h'.get? b=some x) (ho:h'.get? a=some o'):bR S Qg L m C (upd F a o') { s with heap:=h',toks:=tk }:=by
 have hC:C a=none:=(R.d a).resolve_right λe=>by exact bo e (af ..)
 have ha:=R.r.N a o (aT R.d (af F a o));have key:∀ b x,join C (upd F a o') b=some x->b=a∧x=o'∨b≠a∧join C (upd F a o) b=some x:=λb x e=>by
  by_cases q:b=a
  ·subst q;unfold join at e;rw [hC,af] at e;replace e:=Option.some.inj e; subst e; exact .inl ⟨rfl,rfl⟩
  ·refine .inr ⟨q,?_⟩;unfold join at e ⊢;rw [ag _ _ q] at e ⊢;exact e
 refine ⟨⟨⟨R.fr.ns.at' λo' e=>hs L o' (Ne.symm ha.2.1) e,λb x e=>hs b x (λq=>?_) (R.fr.keep b x e),R.fr.above⟩,λb x e=>?_,R.r.g,R.r.o⟩,λb=>?_⟩
 ·subst q; exact bo ha.2.2 e
 ·rcases key b x e with ⟨rfl,rfl⟩ | ⟨q,e'⟩
  ·exact ⟨ho,ha.2⟩
  ·have z:=R.r.N b x e';exact ⟨hs b _ q z.1,z.2⟩
 ·by_cases q:b=a
  ·subst q; exact .inl hC
  ·have:=R.d b;rw [ag _ _ q] at this ⊢;exact this
theorem Rel.hid_change' {s:Shared}{a:Addr}{o o':Obj}{h':Heap}{tk:Nat} (R:Rel S Qg L m C (upd F a o) s) (hf:F a=none) (hs:∀ b x,b≠a->s.heap.get? b=some x->h'.get? b=some x) (ho:h'.get? a=some o'):Rel S Qg L m C (upd F a o') { s with heap:=h',toks:=tk }:=by
 refine bE (R.hidOpen hf) λT tb dj n n2 r=>?_;exact (r.hid_change' hs ho).hidClose tb dj n
end
section
variable {S:Setup}{A:Around}{base Qg:Heap}{outer:List Env}{L:Addr}{nl:List (Addr×Obj)}{E:Value->Shared->Prop}{m:Loc}{C F:Led}{env:Env}{n:Nat}
theorem r9 {T:String}{e:Expr}{rest:List Expr}{pos:Pos}{Q:Value->Loc->Led->Prop}
  (h:W S A Qg L E (spliced (backTo pos (starEach (e::rest) env))) m C (Bd S A Qg L E (λvs=>call (.type T) vs) Q))
  (he:autoParam (starEach (e::rest) env=(false,eval e env)::starEach rest env) aU) (eC:autoParam ((backTo pos (starEach rest env)).any (·.1)=false) aU) :
  W S A Qg L E (callWith pos (.type T) [] (backTo pos (starEach (e::rest) env)) []) m C Q:=.mk2 λF s R=>by
 have h':wpAny (model S.prog S.w) A (spliced (backTo pos (starEach (e::rest) env))) (λvs aC=>wpAny (model S.prog S.w) A (call (.type T) ([]++vs)) (AH S Qg L F Q) E aC) E s :=
  h.run R λz9 z8 z7 s' R' q=>W.go q F s' R'
 rw [he] at h' ⊢;exact PyProof.Rows.callWith_type (by show (false || (backTo pos (starEach rest env)).any (·.1))=false; refine ae eC ?_; rfl) (Calls.evalArgs_plain h')
theorem qj {T:String}{pos:Pos}{Q:Value->Loc->Led->Prop} (h:W S A Qg L E (call (.type T) []) m C Q):W S A Qg L E (callWith pos (.type T) [] (backTo pos (starEach [] env)) []) m C Q:=.mk2 λF s R =>
 PyProof.Rows.callWith_type0 (h.go F s R)
theorem ql {id:String}{first:List Value}{pos:Pos}{Q:Value->Loc->Led->Prop} (h:W S A Qg L E (call (.builtin id) first) m C Q):W S A Qg L E (callWith pos (.builtin id) first (backTo pos (starEach [] env)) []) m C Q:=.mk2 λF s R =>
 PyProof.Rows.callWith_method0 (h.go F s R)
theorem Bx {a b:Int}{t u:Tok}{Q:Value->Loc->Led->Prop} (hm:IntMulOk a b) (h:∀ t,Q (.int (a * b) t) m C):W S A Qg L E (binaryOp .Mult (.int a t) (.int b u)) m C Q:=.mk λF s R=>PyProof.Rows.mul_int ⟨m,C,R.tok,h _⟩ hm
theorem i_ {a b:Int} (h1:-1000000≤a) (h2:a≤1000000):IntMulOk a b:=IntMulOk.of_left (PySem.intBits_le_64 (Int.lt_of_lt_of_le (by decide) h1) (Int.lt_of_le_of_lt h2 (Int.NonNeg.mk (2 ^ 64 - Nat.succ 1000000))))
theorem bR.change {s:Shared}{a:Addr}{o o':Obj}{h':Heap}{tk:Nat} (R:bR S Qg L m C F s) (ha:C a=some o) (hs:∀ b x,b≠a->s.heap.get? b=some x->h'.get? b=some x) (ho:h'.get? a=some o'):bR S Qg L m (upd C a o') F { s with heap:=h',toks:=tk }:=by
 have z:=R.r.N a o (aI ha);refine ⟨?_,R.d.upd_own o' ha⟩;rw [bJ];refine ⟨⟨R.fr.ns.at' λo' e=>hs L o' (Ne.symm z.2.1) e,λb x e=>hs b x (λq=>?_) (R.fr.keep b x e),R.fr.above⟩,λb x e=>?_,R.r.g,R.r.o⟩
 ·subst q; exact bo z.2.2 e
 ·by_cases q:b=a
  ·subst q;replace e:=eG (af ..) e; subst e;exact ⟨ho,z.2⟩
  ·rw [ag _ _ q] at e;have w:=R.r.N b x e;exact ⟨hs b x q w.1,w.2⟩
theorem ze {l:Addr}{vs:List Value}{i:Int}{t:Tok}{v:Value}{k:Nat}{Q:Unit->Loc->Led->Prop} (hl:C l=some (listOf vs.toArray k)) (h0:0≤i) (hf:i < vs.length) (hz:vs.length≤10000) (h:∀ k',Q () m (upd C l (listOf (vs.set i.toNat v).toArray k'))) :
  W S A Qg L E (setItem (.ref l) (.int i t) v) m C Q:=.mk λF s R=>by
 have hg:=R.get hl;refine ki_setAt hg h0 (Int.lt_of_lt_of_le hf (Int.le_trans (Int.ofNat_le.mpr hz) (by decide))) (by simpa using hf) ?_;have e:(s.heap.update l (Obj.mapSeq (·.setIfInBounds i.toNat v))).get? l=some (listOf (vs.set i.toNat v).toArray k):=by
  refine ae (Heap.get?_update_self _ hg rfl) ?_;simp [Obj.mapSeq,W.listOf]
 exact ⟨m,_,R.change (tk:=s.toks) hl (λb x hb e=>(Heap.get?_update_other _ _ (Ne.symm hb)).trans e) e,h _⟩
theorem qm {elts:List Expr}{k:Nat}{p8 pos:Pos}{value:Expr}{Q:Flow->Loc->Led->Prop}
  (h:W S A Qg L E (eval value env) m C (Bd S A Qg L E (assign (.Tuple elts k p8) env) (Mp (λz9=>Flow.next) Q)))
  (hs:autoParam (swapsWithSole [.Tuple elts k p8] value pos.line env=Pure.pure false) aU) (hw:autoParam (swappedStores [.Tuple elts k p8] value env=Pure.pure none) aU) :
  W S A Qg L E (exec (.Assign [.Tuple elts k p8] value pos) env) m C Q:=.mk2 λF s R =>
 PyProof.Rows.Assign_Tuple (h.run R λz9 z8 z7 s' R' q=>q.run R' λz9 z8 z7 z6 dR q'=>⟨_,_,dR,q'⟩) hs hw
theorem iB {d:Addr}{kvs:List (Int×Value)}{pl:Sem Bool}{Q:Value×List Value->Loc->Led->Prop} (hd:d6 S C d kvs) (h:Q (.builtin "dict.get",[.ref d]) m C):W S A Qg L E (getMethod (.ref d) "get" pl) m C Q:=.mk λF s R=>by
 refine ck hd λlo o ho hi=>?_; clear hd
 refine aF R.list λl N hl=>?_;exact kdg_method N (hl _ _ (aI ho)) hi ⟨m,C,R,h⟩
theorem oJ {d:Addr}{kvs:List (Int×Value)}{k:Int}{t:Tok}{dflt:Value}{Q:Value->Loc->Led->Prop} (hd:d6 S C d kvs) (h:Q ((valueAt kvs k).getD dflt) m C):W S A Qg L E (call (.builtin "dict.get") [.ref d,.int k t,dflt]) m C Q:=.mk λF s R=>by
 refine ck hd λlo o ho hi=>?_; clear hd
 refine aF R.list λl N hl=>?_;exact kdg_get2 N (hl _ _ (aI ho)) hi lo (int_is S k t) _ rfl ⟨m,C,R.tok,h⟩
end
section
variable {S:Setup}{A:Around}{base Qg:Heap}{outer:List Env}{L:Addr}{nl:List (Addr×Obj)}{E:Value->Shared->Prop}{m:Loc}{C F:Led}{env:Env}{n:Nat}
noncomputable abbrev n9 (k:Int) (t u v:Tok):Obj:={ cls:=.type "range",dict:=none,data:=.fields #[.int 0 t,.int k u,.int 1 v],slots:=#[] }
noncomputable abbrev HY (x left:Int):Obj:={ cls:=.type "range_iterator",dict:=none,data:=.fields #[rawInt x,rawInt left,rawInt 1],slots:=#[] }
theorem uQ {k:Int}{t:Tok}{Q:Value->Loc->Led->Prop} (h:∀ a t u v,C a=none->Q (.ref a) m (upd C a (n9 k t u v))):W S A Qg L E (call (.type "range") [.int k t]) m C Q:=.mk λF s R=>by
 refine call_range_1 ?_;have e:=Heap.get?_push_size (h:=s.heap) (o:=n9 k s.toks t (s.toks+1)) rfl;refine aS (R.newObj (tk:=s.toks+1+1) e λb x z9 hb=>Heap.get?_push_of_some _ hb) λf R'=>?_;exact ⟨m,_,R',h _ _ _ _ f⟩
noncomputable abbrev gS (b k:Int) (t u v:Tok):Obj:={ cls:=.type "range",dict:=none,data:=.fields #[.int b t,.int k u,.int 1 v],slots:=#[] }
theorem se {b k:Int}{t u:Tok}{Q:Value->Loc->Led->Prop} (h:∀ a t u v,C a=none->Q (.ref a) m (upd C a (gS b k t u v))):W S A Qg L E (call (.type "range") [.int b t,.int k u]) m C Q:=.mk λF s R=>by
 refine call_range_2 ?_;have e:=Heap.get?_push_size (h:=s.heap) (o:=gS b k t u s.toks) rfl;refine aS (R.newObj (tk:=s.toks+1) e λb x z9 hb=>Heap.get?_push_of_some _ hb) λf R'=>?_;exact ⟨m,_,R',h _ _ _ _ f⟩
theorem iA {r:Addr}{b k:Int}{t u v:Tok}{Q:Value->Loc->Led->Prop} (hr:C r=some (gS b k t u v)) (hb:0≤b) (h0:b≤k) (hz:k≤1000) (h:∀ a,C a=none->Q (.ref a) m (upd C a (HY b (k - b)))):W S A Qg L E (pyIter (.ref r)) m C Q:=.mk λF s R=>by
 have hs:Builtin.Range.rangeSize b k 1=k - b:=by
  rw [rangeSize_one]; split
  ·rfl
  ·rename_i q; exact (Int.sub_eq_zero.mpr (Int.le_antisymm (Int.le_of_not_gt q) h0)).symm
 refine wpAny_pyIter_range (R.get hr) (small_one (Int.le_trans (by decide) hb) (Int.lt_of_le_of_lt h0 (Int.lt_of_le_of_lt hz (by decide))) (Int.le_trans (by decide) (Int.le_trans hb h0)) (Int.lt_of_le_of_lt hz (Int.NonNeg.mk (2 ^ 62 - Nat.succ 1000)))) ?_;refine ae hs ?_;have e:=Heap.get?_push_size (h:=s.heap) (o:=HY b (k - b)) rfl;refine aS (R.newObj (tk:=s.toks) e λb x z9 hb=>Heap.get?_push_of_some _ hb) λf R'=>?_;exact ⟨m,_,R',h _ f⟩
theorem mH {b:Nat}{x:Str}{px:Pos}{body orelse:List Stmt}{a:Addr}{k:Nat}{Q:Flow->Loc->Led->Prop} (G:Gd S n A Qg L env) (ha:C a=none) (I:Nat->Loc->Led->Prop) (start:I b m C) (hbk:b≤k)
  (turn:∀ E i t m C,i < k->I i m C->∀ J,wb (I (i+1)) J->W S A Qg L E (assign (.Name x px) env (.int i t)) m C (Bd S A Qg L E (λz9=>execs body env) (LQ J Q)))
  (fin:∀ E m C,I k m C->W S A Qg L E (execs orelse env) m C Q) :
  ∀ E,CF S A Qg L E (.forLoop (.Name x px) (.ref a) body orelse env) m (upd C a (HY b (k - b))) Q:=λE F s R=>by
 have hF:=R.free;refine codeAny_forLoop_any (λj s=>∃ i m C,j+i=k∧Rel S Qg L m C (upd F a (HY i (k - i))) s∧I i m C) (λj s hj=>?_) (k - b) ⟨b,m,C,Nat.sub_add_cancel hbk,R.hideAt ha,start⟩;refine fJ hj λi m C Hn R hi=>?_; clear hj
 have hit:=(R.hidN hF).1;cases j with
 | zero =>
  obtain rfl:i=k:=Nat.le_antisymm (Qb (by walk_at "A") (Qc Hn)) (Qb (Qc (Eq.symm Hn)) (by walk_at "A"));refine wpAny_pyNext_range_end G.hh hit (Int.le_of_not_gt λq=>absurd (Int.add_one_le_of_lt q) (by simp +arith only [Int.reduceNeg,not_false_eq_true,Int.reducePow])) λh' hs=>?_;exact (fin _ m C hi).run (R.hid_drop hF hs) λf m' C' s' R' q=>⟨m',C',R',q⟩
 | succ j =>
  refine wpAny_pyNext_range_item hit (Int.sub_pos_of_lt (Int.ofNat_lt.mpr (Hn▸Nat.lt_add_of_pos_left (Nat.succ_pos _)))) λh' md hs=>?_;have R1:Rel S Qg L m C (upd F a (HY ((i+1:Nat):Int) (k - ((i+1:Nat):Int)))) { s with heap:=h',toks:=s.toks+1 }:=R.hid_change' hF (λb x hb e=>hs.extBut b x hb e) (by
   have e1:((i+1:Nat):Int)=(i:Int)+1:=by push_cast; rfl
   have e2:(k:Int) - ((i+1:Nat):Int)=(k:Int) - i - 1:=by push_cast; exact (Int.sub_sub _ _ _).symm
   refine ae e2 (ae e1 ?_); exact md)
  refine wpAny_pure ?_;refine (turn _ i s.toks m C (Nat.lt_of_lt_of_le (by walk_at "A") (Qc Hn)) hi _ (wb.refl _)).run R1 λz9 m' C' s' R' q=>?_;refine q.run R' λf hM cf fK dR q'=>?_
  have drop:Rel S Qg L hM cf F fK:=dR.hid_drop hF (h':=fK.heap) λz9 z8 z7 e=>e
  cases f with
  | next=>exact ⟨j,Nat.lt_succ_self _,i+1,hM,cf,by exact Nat.le_antisymm (Qb (by walk_at "A") (Qc Hn)) (Qb (Qc (Eq.symm Hn)) (by walk_at "A")),dR,q'⟩
  | cont=>exact ⟨j,Nat.lt_succ_self _,i+1,hM,cf,by exact Nat.le_antisymm (Qb (by walk_at "A") (Qc Hn)) (Qb (Qc (Eq.symm Hn)) (by walk_at "A")),dR,q'⟩
  | brk=>exact ⟨hM,cf,drop,q'⟩
  | ret v=>exact ⟨hM,cf,drop,q'⟩
theorem oo {r:Addr}{k:Int}{t u v:Tok}{Q:Value->Loc->Led->Prop} (hr:C r=some (n9 k t u v)) (h0:0≤k) (hz:k≤1000) (h:∀ a,C a=none->Q (.ref a) m (upd C a (HY 0 k))):W S A Qg L E (pyIter (.ref r)) m C Q :=
 iA (b:=0) hr (Int.le_refl 0) h0 hz λa ha=>by rw [Int.sub_zero]; exact h a ha
theorem wG {x:Str}{px:Pos}{body orelse:List Stmt}{a:Addr}{k:Nat}{Q:Flow->Loc->Led->Prop} (G:Gd S n A Qg L env) (ha:C a=none) (I:Nat->Loc->Led->Prop) (start:I 0 m C)
  (turn:∀ E i t m C,i < k->I i m C->∀ J,wb (I (i+1)) J->W S A Qg L E (assign (.Name x px) env (.int i t)) m C (Bd S A Qg L E (λz9=>execs body env) (LQ J Q)))
  (fin:∀ E m C,I k m C->W S A Qg L E (execs orelse env) m C Q) :
  ∀ E,CF S A Qg L E (.forLoop (.Name x px) (.ref a) body orelse env) m (upd C a (HY 0 k)) Q:=by
 have q:=mH (b:=0) G ha I start (Nat.zero_le k) turn fin;rw [show ((0:Nat):Int)=0 from rfl,Int.sub_zero] at q;exact q
theorem n_ {value slice:Expr}{d:Addr}{kvs:List (Int×Value)}{k:Int}{t:Tok}{v:Value}{Q:Value->Loc->Led->Prop} (hd:d6 S C d kvs) (hv:valueAt kvs k=some v) (h:Q v m C)
  (hs:autoParam (subscripted slice false (.ref d) (.int k t)=operate [.ref d,.int k t] (getItem (.ref d) (.int k t))) aU) :
  W S A Qg L E (subscriptTail value slice (.ref d) (.int k t)) m C Q:=.mk λF s R=>by
 refine ck hd λlo o ho hi=>?_; clear hd
 refine aF R.list λl N hl=>?_;have hD:=kda_dict N (hl _ _ (aI ho)) hi
 exact tail_any hD.typeIs slot_dict_getitem.lookup (wpAny_getItem_of (int_is S k t) hD.mapOf hv ⟨m,C,R.tok,h⟩) hs
end
inductive ud (a1 a2 a3 a4:Prop):Prop
 | mk:a1->a2->a3->a4->ud a1 a2 a3 a4
inductive A4 (a1 a2 a3 a4 a5:Prop):Prop
 | mk:a1->a2->a3->a4->a5->A4 a1 a2 a3 a4 a5
inductive HJ (a1 a2 a3 a4 a5 a6:Prop):Prop
 | mk:a1->a2->a3->a4->a5->a6->HJ a1 a2 a3 a4 a5 a6
inductive Ur (a1 a2 a3 a4 a5 a6 a7 a8:Prop):Prop
 | mk:a1->a2->a3->a4->a5->a6->a7->a8->Ur a1 a2 a3 a4 a5 a6 a7 a8
inductive X5 (a1 a2 a3 a4 a5 a6 a7 a8 a9:Prop):Prop
 | mk:a1->a2->a3->a4->a5->a6->a7->a8->a9->X5 a1 a2 a3 a4 a5 a6 a7 a8 a9
section
variable {S:Setup}{A:Around}{Qg:Heap}{L:Addr}{E:Value->Shared->Prop}{m:Loc}{C F:Led}{env:Env}{n:Nat}
theorem uR {x attr:Str}{np pos:Pos}{a dx c:Addr}{od:Obj}{fs:List (Str×Value)}{v:Value}{Q:Value->Loc->Led->Prop} (G:Gd S n A Qg L env) (hv:m x=some (.ref a)) (hx:C a=some (instObj c dx)) (hd:C dx=some od) (hf:dk od fs)
  (hk:fT S.K c attr=true) (hl:fs.lookup attr=some v) (hh:handedIn v=true) (h:Q v m C) (xg:autoParam (env.kindOf x=some .local) aR) (pX:autoParam ((x == ("__debug__":Str))=false) aD) :
  W S A Qg L E (eval (.Attribute (.Name x np) attr pos) env) m C Q:=mK (cy G hv (dA G hx hd hf hk hl hh h) xg pX)
theorem wD {x:Str}{np pos:Pos}{rest:List Expr}{v:Value}{Q:List Value->Loc->Led->Prop} (G:Gd S n A Qg L env) (hv:m x=some v) (h:W S A Qg L E (spliced (backTo pos (starEach rest env))) m C (Mp (List.cons v) Q))
  (xg:autoParam (env.kindOf x=some .local) aR) (pX:autoParam ((x == ("__debug__":Str))=false) aD):W S A Qg L E (spliced (backTo pos (starEach (.Name x np::rest) env))) m C Q:=hZ (cy G hv h xg pX)
theorem uF {x:Str}{np pos:Pos}{v:Value}{Q:List Value->Loc->Led->Prop} (G:Gd S n A Qg L env) (hv:m x=some v) (h:Q [v] m C)
  (xg:autoParam (env.kindOf x=some .local) aR) (pX:autoParam ((x == ("__debug__":Str))=false) aD):W S A Qg L E (spliced (backTo pos (starEach [.Name x np] env))) m C Q:=hZ (cy G hv (lX h) xg pX)
theorem zm {f:Str}{np pos:Pos}{fv:Value}{e:Expr}{rest:List Expr}{Q:Value->Loc->Led->Prop} (G:Gd S n A Qg L env) (hv:nsIn S.K mainGlobals f=some (some fv)) (hk:keepIn S.K fv=true)
  (h:W S A Qg L E (spliced (backTo pos (starEach (e::rest) env))) m C (Bd S A Qg L E (λvs=>call fv ([]++vs)) Q))
  (xg:autoParam (env.kindOf f=some .globalImplicit) aR) (pX:autoParam ((f == ("__debug__":Str))=false) aD) (he:autoParam (starEach (e::rest) env=(false,eval e env)::starEach rest env) aR) (eC:autoParam ((backTo pos (starEach rest env)).any (·.1)=false) aR) :
  W S A Qg L E (eval (.Call (.Name f np) (e::rest) [] pos) env) m C Q:=oN (jR G hv (kg G hk h he eC) xg pX)
theorem uL {pl:Sem Bool}{x name:Str}{np apos pos:Pos}{a dx c f:Addr}{od:Obj}{fs:List (Str×Value)}{e:Expr}{rest:List Expr}{Q:Value->Loc->Led->Prop} (G:Gd S n A Qg L env) (hv:m x=some (.ref a)) (hx:C a=some (instObj c dx)) (hd:C dx=some od) (hf:dk od fs)
  (hk:bI S.K c name f=true) (hl:fs.lookup name=none) (MU:keepIn S.K (.ref f)=true)
  (h:W S A Qg L E (spliced (backTo pos (starEach (e::rest) env))) m C (Bd S A Qg L E (λvs=>call (.ref f) ([.ref a]++vs)) Q))
  (xg:autoParam (env.kindOf x=some .local) aR) (pX:autoParam ((x == ("__debug__":Str))=false) aD) (he:autoParam (starEach (e::rest) env=(false,eval e env)::starEach rest env) aR) (eC:autoParam ((backTo pos (starEach rest env)).any (·.1)=false) aR)
  (hc:autoParam (eval (.Call (.Attribute (.Name x np) name apos) (e::rest) [] pos) env=(do
   let ov ← eval (.Name x np) env
   standAt apos.atName
   let (f,first) ← holding [ov] (getMethod ov name pl)
   callWith pos f first (backTo pos (starEach (e::rest) env)) (backToKw pos (keywordEach [] env)))) aR) :
  W S A Qg L E (eval (.Call (.Attribute (.Name x np) name apos) (e::rest) [] pos) env) m C Q:=kh (cy G hv (fH G hx hd hf hk hl (kg G MU h he eC)) xg pX) hc
theorem rY {pl:Sem Bool}{x name:Str}{np apos pos:Pos}{a dx c f:Addr}{od:Obj}{fs:List (Str×Value)}{Q:Value->Loc->Led->Prop} (G:Gd S n A Qg L env) (hv:m x=some (.ref a)) (hx:C a=some (instObj c dx)) (hd:C dx=some od) (hf:dk od fs)
  (hk:bI S.K c name f=true) (hl:fs.lookup name=none) (MU:keepIn S.K (.ref f)=true)
  (h:W S A Qg L E (call (.ref f) ([.ref a]++[])) m C Q) (xg:autoParam (env.kindOf x=some .local) aR) (pX:autoParam ((x == ("__debug__":Str))=false) aD)
  (hc:autoParam (eval (.Call (.Attribute (.Name x np) name apos) [] [] pos) env=(do
   let ov ← eval (.Name x np) env
   standAt apos.atName
   let (f,first) ← holding [ov] (getMethod ov name pl)
   callWith pos f first (backTo pos (starEach [] env)) (backToKw pos (keywordEach [] env)))) aR) :
  W S A Qg L E (eval (.Call (.Attribute (.Name x np) name apos) [] [] pos) env) m C Q:=kh (cy G hv (fH G hx hd hf hk hl (mJ G MU h)) xg pX) hc
theorem H5 {a b:Value}{Q:Value->Loc->Led->Prop} (hp:plainIs a b=true) (hr:(a == b)=true) (h:Q (.bool true) m C):W S A Qg L E (compareOp .Is a b) m C Q:=Lj hp hr h
theorem H6 {a b:Value}{Q:Value->Loc->Led->Prop} (hp:plainIs a b=true) (hr:(a == b)=false) (h:Q (.bool false) m C):W S A Qg L E (compareOp .Is a b) m C Q:=Lj hp hr h
theorem zi {a b:Value}{Q:Value->Loc->Led->Prop} (hp:plainIs a b=true) (hr:(!(a == b))=true) (h:Q (.bool true) m C):W S A Qg L E (compareOp .IsNot a b) m C Q:=xU hp hr h
theorem zj {a b:Value}{Q:Value->Loc->Led->Prop} (hp:plainIs a b=true) (hr:(!(a == b))=false) (h:Q (.bool false) m C):W S A Qg L E (compareOp .IsNot a b) m C Q:=xU hp hr h
end
theorem Ip {m:Loc}{x y:Str}{v w:Value} (h:(y == x)=false) (e:m y=some w):p9 m x v y=some w:=(if_neg λq=>by rw [q] at h; simp at h).trans e
theorem HM {C:Led}{a b:Addr}{o x:Obj} (h:b≠a) (e:C b=some x):upd C a o b=some x:=(ag C o h).trans e
def wkTab:List String:=[
 "as",sT "assumption" "'assumption",
 "rf",sT "tacticRfl" "'rfl",
 "ne",sR (sO [sT "assumption" "'assumption",sT "exact" ("'exact ( Ne.symm "++sB (sT "assumption" "'assumption")++" )")]),
 "kr","( #tacticKernel_rfl 'kernel_rfl )",
 "bf","( #PyProof.Rows.tacticBoot_fast 'boot_fast )",
 "de",sT "decide" "'decide ( #Lean.Parser.Tactic.optConfig ( #null ) )",
 "le",sT "exact" "'exact ( Nat.le_of_ble_eq_true rfl )",
 "r",sT "tacticRepeat_" ("'repeat "++sS (sW "st")),
 "gl","Nz; TL; TK; TJ; Gn; gl_tree; gl_taken; gl_put; Gm; Gl; Av; Au",
 "k","Fx; Fu; Fv; IP; IH; II; IK; IJ; IL; IM; IG; IE; IF",
 "ks","yc; Fp; Fq; sX; w6; Iy; IA; Iz; IB; IC; Ce; Iu; Iw",
 "km","vg; Cq; sZ; vi; w9; Cr; xa; w_; zR; Cj; zM; zO; sY; zN; Cn; vf; Cp; ve; Ck; w8; Cm; Co; zQ; vd; w7; zL; zK; Ci; u_; u9",
 "nm","! as; B6; = Eq ( p9 _ _ _ _ ) _ => Ip kr nm; @ rf",
 "at","! as; af _ _ _; = Eq ( upd _ _ _ _ ) _ => HM ne at",
 "ev","eval ( Expr.Name _ _ ) _ => cy a nm ? r; eval ( Expr.Name _ _ ) _ => mG a r at a ? r; eval ( Expr.Name _ _ ) _ => uK a r at a ? r; eval ( Expr.Name _ _ ) _ => jR a gl ? r; eval ( Expr.Name _ _ ) _ => oB a kr bf ? r; Lk f; H4 ?; EP ?; eval ( Expr.Attribute ( Expr.Name _ _ ) _ _ ) _ => uR a nm at at a k r r ?; mK ?; wM ?; BD ?; uT ?; ET ?; zp ?; ES ?; ER ?; H7 ?; eval ( Expr.Subscript _ ( Expr.Slice _ _ _ _ ) _ ) _ => zd ?; uS ?; eval ( Expr.Call ( Expr.Name _ _ ) ( List.cons _ _ ) List.nil _ ) _ => zm a gl kr ?; oN ?; eval ( Expr.Call ( Expr.Attribute ( Expr.Name _ _ ) _ _ ) ( List.cons _ _ ) List.nil _ ) _ => uL a nm at at a km r kr ?; eval ( Expr.Call ( Expr.Attribute ( Expr.Name _ _ ) _ _ ) List.nil List.nil _ ) _ => rY a nm at at a km r kr ?; kh ?",
 "ex","BE ?; r_Return0 ?; PC ?; H8 ?; wL ?; ie ?; sj ?; qm ?; uU ?; exec ( Stmt.AugAssign ( Expr.Subscript _ _ _ ) _ _ _ ) _ => BF ?; Ln ?; exec ( Stmt.For _ _ _ _ _ ) _ => Lo ?",
 "cm","PB ?; Pw ?; Px ?; Py ?; Pz ?; PA ?; zl ?; compareOp CmpOp.Is _ _ => H5 r r ?; compareOp CmpOp.Is _ _ => H6 r r ?; compareOp CmpOp.IsNot _ _ => zi r r ?; compareOp CmpOp.IsNot _ _ => zj r r ?",
 "sw","eval _ _ => @ ev; bq ?; mI ?; exec _ _ => @ ex; getAttr _ _ _ => dA a at at a k r r ?; setAttr _ _ _ => eK a at at a ks le F; compareOp _ _ _ => @ cm; kR ?; r8 ?; ni ?; oD ?; oC ?; forIn ( List.cons _ List.nil ) true _ => uD ?; forIn List.nil true _ => uE ?; zf ?; Bu ?; wK ?; r_and_nil ?; jQ ?; jO ?; storeName _ _ _ => gL a ? r; aW ?; r_assign_attr ?; assignInOrder _ List.nil => js ?; getMethod _ _ _ => fH a at at a km r ?; callWith _ ( Value.type _ ) _ ( backTo _ ( starEach List.nil _ ) ) _ => qj ?; callWith _ ( Value.type _ ) _ ( backTo _ ( starEach ( List.cons _ _ ) _ ) ) _ => r9 ?; callWith _ ( Value.builtin _ ) _ ( backTo _ ( starEach List.nil _ ) ) _ => ql ?; callWith _ _ _ ( backTo _ ( starEach List.nil _ ) ) _ => mJ a kr ?; callWith _ ( Value.builtin _ ) _ ( backTo _ ( starEach ( List.cons _ _ ) _ ) ) _ => r_ ?; callWith _ _ _ ( backTo _ ( starEach ( List.cons _ _ ) _ ) ) _ => kg a kr ?; spliced ( backTo _ ( starEach ( List.cons ( Expr.Name _ _ ) List.nil ) _ ) ) => uF a nm ?; spliced ( backTo _ ( starEach ( List.cons ( Expr.Name _ _ ) _ ) _ ) ) => wD a nm ?; hZ ?; lX ?; wJ ?; oK ?; Lm f; Le f; Lf ?; Lh f",
 "st","= W _ _ _ _ _ _ _ _ _ => @ sw; = nC _ _ _ _ _ _ _ _ _ _ _ => nV ?; = nC _ _ _ _ _ _ _ _ _ _ _ => jo ?; = nC _ _ _ _ _ _ _ _ _ _ _ => A9 ?; = nC _ _ _ _ _ _ _ _ _ _ _ => yN ?; = nC _ _ _ _ _ _ _ _ _ _ _ => then_brk ?; = LQ _ _ _ _ _ => E6 ?; = LQ _ _ _ _ _ => Il ?; = LQ _ _ _ _ _ => E7 ?; = LQ _ _ _ _ _ => lq_brk ?; = ite ( Eq true true ) _ _ => cq T ?; = ite ( Eq false true ) _ _ => bN de ?; BH a ?; EY a ?; E2 a ?; nG a ?; mN ?"]
open PyProof.V
noncomputable def mU (ps:List (Int×Int)) (k:Int):List (Int×Int):=ps.filter λp=>decide (p.1≠k)
theorem eF.without {kvs:List (Int×Value)}{ps:List (Int×Int)} (h:eF kvs ps) (k:Int):eF (PySem.without kvs k) (mU ps k):=by
 induction h with
 | nil=>exact .nil
 | @cons k' c t kvs ps _ ih =>
  unfold PySem.without mU at ih ⊢;by_cases q:k'=k
  ·simpa [q] using ih
  ·simpa [q] using eF.cons (t:=t) ih
theorem eF.flat {kvs:List (Int×Value)}{ps:List (Int×Int)} (h:eF kvs ps):FlatPairs PyData.int kvs (ps.map λp=>(PyData.int p.1,PyData.int p.2)):=by
 induction h with
 | nil=>exact .nil
 | cons _ ih=>exact .cons (Flat.int _ _) ih
section
variable {S:Setup}{A:Around}{Qg:Heap}{L:Addr}{E:Value->Shared->Prop}{m:Loc}{C F:Led}{env:Env}{n:Nat}
theorem uP {d:Addr}{ps:List (Int×Int)}{k:Int}{t:Tok}{Q:Unit->Loc->Led->Prop} (hd:dn S C d ps) (hz:ps.length≤10000) (hk:bt ps k≠none) (h:∀ C',(∃ o,C'=upd C d o)->dn S C' d (mU ps k)->Q () m C') :
  W S A Qg L E (delItem (.ref d) (.int k t)) m C Q:=.mk λF s R=>by
 refine aF hd λkvs ak hv=>?_; clear hd; obtain ⟨lo,o,ho,hi⟩:=ak
 refine bF (R.pick ho) λl N a hl=>?_;have hf:=hv.flat
 have M8:∀ a b:Int,PySem.Spec.same (PyData.int a) (PyData.int b)=decide (a=b):=λa b=>by first | rfl | simp [PySem.Spec.same]
 refine kt_del_K M8 (int_is S k t) R.fr N (UpdF.head a) hi hf ?_ (λh' o' F' N' AV z9=>⟨m,_,R.of_pick ho hl F' N',h _ ⟨o',rfl⟩ ⟨_,⟨lo,o',af _ _ _,AV⟩,hv.without k⟩⟩) (by refine ae (List.length_map _) (ae sizeLine_eq ?_); exact Qb hz (Nat.le_add_left 10000 16767216));refine eI (hf.isSome M8 k) ?_;rcases hv.at k with ⟨-,q⟩ | ⟨c,t,q,-⟩
 ·exact absurd q hk
 ·refine ae q ?_; rfl
theorem qM {o i:Expr}{px pos:Pos}{Q:Flow->Loc->Led->Prop} (h:W S A Qg L E (eval o env) m C (pZ S A Qg L E (λz9=>eval i env) λov=>Bd S A Qg L E (delItem ov) (Mp (λz9=>Flow.next) Q))):W S A Qg L E (exec (.Delete [.Subscript o i px] pos) env) m C Q:=.mk2 λF s R =>
 wpAny_Delete (wpAny_deleteEach_cons (delete_Subscript (h.run R λz9 z8 z7 s' R' q=>q.run R' λz9 z8 z7 z6 dR q'=>q'.run dR λz9 z8 z7 z6 R3 q3=>wpAny_deleteEach_nil ⟨_,_,R3,q3⟩)))
theorem wI {elts:List Expr}{x1:Nat}{pos:Pos}{body orelse:List Stmt}{a d:Addr}{kvs:List (Int×Value)}{ep:Nat}{od:Obj}{Q:Flow->Loc->Led->Prop} (G:Gd S n A Qg L env) (ha:C a=none) (I:List (Int×Value)->Loc->Led->Prop)
  (hI:∀ rest m C,I rest m C->C d=some od) (Hd:od.IsDictOf (intKind S.prog S.w) kvs) (WX:∃ es,od.data=.dict es ep) (start:I kvs m C)
  (turn:∀ E' k v rest m C T t,(∃ pre,kvs=pre++(k,v)::rest)->I ((k,v)::rest) m C->C T=none->∀ J,wb (I rest) J->W S A Qg L E' (assign (.Tuple elts x1 pos) env (.ref T)) m (upd C T (bU [.int k t,v] 0)) λz9 m C=>W S A Qg L E' (execs body env) m C (LQ J Q))
  (fin:∀ E' m C,I [] m C->W S A Qg L E' (execs orelse env) m C Q) :
  ∀ E,CF S A Qg L E (.forLoop (.Tuple elts x1 pos) (.ref a) body orelse env) m (upd C a (ts .none d 0 kvs.length ep .none .none)) Q:=λE F s R=>by
 have hF:=R.free;refine codeAny_forLoop_any (λk s=>∃ rest m C i ok ov,k=rest.length∧Rel S Qg L m C (upd F a (ts .none d i kvs.length ep ok ov)) s∧kvs.drop i=rest∧I rest m C) (λk s hk=>?_) kvs.length ⟨kvs,m,C,0,.none,.none,rfl,R.hideAt ha,rfl,start⟩;refine bL hk λrest m C i ok aZ=>?_; clear hk; refine c9 aZ λov ak R hd hi=>?_; clear aZ; subst ak
 have hit:=(R.hidN hF).1;have Gh:s.heap.DictAt (intKind S.prog S.w) d kvs ep:=by
  refine dB Hd λes XG ak=>?_; clear Hd; refine d9 ak λhx pC hk hp hn=>?_; clear ak
  refine aQ WX λes' he=>?_; clear WX
  rw [pC] at he;refine aS (PySem.Data.dict.inj he) λkE j0=>?_; clear he; subst kE; replace j0:=Eq.symm j0; subst j0
  exact ⟨od,es,R.get (hI _ _ _ hi),hx,pC,hk,hp,hn⟩
 cases rest with
 | nil =>
  refine wpAny_pyNext_items_end G.hh hit Gh (List.getElem?_eq_none (by simpa using List.drop_eq_nil_iff.mp hd)) λh' hs=>?_;exact (fin _ m C hi).run (R.hid_drop hF hs) λf m' C' s' R' q=>⟨m',C',R',q⟩
 | cons kv rest =>
  obtain ⟨k,v⟩:=kv;have hv:kvs[i]?=some (k,v):=by
   have:=congrArg List.head? hd;simpa [List.head?_drop] using this
  have gy:kvs.drop (i+1)=rest:=by
   refine eI List.drop_drop (ae hd ?_); rfl
  refine wpAny_pyNext_items_item hit Gh hv λkey h1 Sr ho hT jw iP=>?_;refine wpAny_letOwnedTupleGo_items ho λh2 he vX=>?_
  refine aQ (Value.isInt_shape Sr) λt ak=>?_; subst ak
  have Hu:s.heap.objs.size≠a:=Nat.ne_of_gt (Heap.lt_size hit);have kp:∀ b x,b≠a->s.heap.get? b=some x->h2.get? b=some x:=λb x hb e=>vX.extBut b x hb (iP b x hb e)
  refine bE (R.hidOpen hF) λTx HQ JT nx n1 R=>?_;have fr:=R.fresh_size (Nat.le_refl s.heap.objs.size)
  refine cz R.fr.ns λoL z9 z8 hL z7=>?_;have R1:=R.hid_change' (tk:=s.toks) kp he
  have R2:=R1.addAt (a:=s.heap.objs.size) (o:=bU [.int k t,v] 0) (by refine ae (ag _ _ Hu) ?_; rw [ag _ _ Hu] at fr; exact fr.2) (vX.extBut _ _ Hu hT) (Nat.ne_of_gt (Heap.lt_size hL)) (by
   cases hq:Qg.get? s.heap.objs.size with
   | none=>rfl
   | some o'=>exact absurd (Heap.lt_size (R.fr.keep _ _ hq)) (Nat.lt_irrefl _))
  refine (turn _ k v rest m C _ t ⟨kvs.take i,by exact eI hd (ae (List.take_append_drop _ _) rfl)⟩ hi fr.1 _ (wb.refl _)).run (R2.hidClose HQ JT nx) λz9 m' C' s' R' q=>?_;refine q.run R' λf hM cf fK dR q'=>?_
  have drop:Rel S Qg L hM cf F fK:=dR.hid_drop hF (h':=fK.heap) λz9 z8 z7 e=>e
  cases f with
  | next=>exact ⟨rest.length,Nat.lt_succ_self _,rest,hM,cf,i+1,_,_,rfl,dR,gy,q'⟩
  | cont=>exact ⟨rest.length,Nat.lt_succ_self _,rest,hM,cf,i+1,_,_,rfl,dR,gy,q'⟩
  | brk=>exact ⟨hM,cf,drop,q'⟩
  | ret v=>exact ⟨hM,cf,drop,q'⟩
theorem oM {x:Str}{v:Value}{Q:Unit->Loc->Led->Prop} (h:W S A Qg L E (storeName env x v) m C Q):W S A Qg L E (bindName env x v) m C Q:=.mk2 λF s R=>wpAny_bindName (h.go F s R)
theorem qo {elts:List Expr}{k:Nat}{p8 pos:Pos}{value:Expr}{x y:Str}{Q:Flow->Loc->Led->Prop} (G:Gd S n A Qg L env)
  (h:W S A Qg L E (eval value env) m C λv m C=>∃ t a b,v=.ref t∧wa C t [a,b]∧W S A Qg L E (storeName env y b) m C (Bd S A Qg L E (λz9=>storeName env x a) (Mp (λz9=>Flow.next) Q)))
  (hs:autoParam (swapsWithSole [.Tuple elts k p8] value pos.line env=Pure.pure false) aU) (hw:autoParam (swappedStores [.Tuple elts k p8] value env=Pure.pure (some [x,y])) aU) :
  W S A Qg L E (exec (.Assign [.Tuple elts k p8] value pos) env) m C Q:=.mk2 λF s R=>by
 have w2:∀ {a b:Value}{m':Loc}{C':Led},W S A Qg L E (storeName env y b) m' C' (Bd S A Qg L E (λz9=>storeName env x a) (Mp (λz9=>Flow.next) Q))->W S A Qg L E (assignInOrder [λv=>bindName env y v,λv=>bindName env x v] [b,a]) m' C' (λz9=>Q .next):=λq =>
  bc (oM (W.mono q λz9 m1 C1 z=>bc (oM (W.mono z λz9 m2 C2 z2=>js z2))))
 refine Assign_Tuple_swapped (names:=[x,y]) (wpAny_mono (h.go F s R) (λv s' z=>?_) λz9 z8 x=>x) hs hw;walk_at "bh";obtain ⟨m',C',R',t,a,b,rfl,ht,q⟩:=z;walk_at "ch";obtain ⟨Fo,le,tb,R'⟩:=R';have CC:=R'.isTup ht;show wpAny _ _ (unpackItems (.ref t) ([a,b]:List Value).toArray.size none) _ _ _;refine unpackItems_tuple G.hh CC λh' hx=>?_;exact wpAny_mono ((w2 q).go F _ ⟨Fo,le,tb,R'.ext (tk:=s'.toks) λb x hb e=>hx b x (Nat.ne_of_lt hb) e⟩) (λ_ s' ⟨m,C,R,q⟩=>⟨m,C,R,q⟩) λz9 z8 x=>x
end
noncomputable def Fd (a b:Int×Int×Int):Bool:=if a.1=b.1 then (if a.2.1=b.2.1 then decide (a.2.2 < b.2.2) else decide (a.2.1 < b.2.1)) else decide (a.1 < b.1)
section
variable {S:Setup}{A:Around}{Qg:Heap}{L:Addr}{E:Value->Shared->Prop}{m:Loc}{C F:Led}{env:Env}{n:Nat}
noncomputable def Row3 (C:Led) (a:Addr) (iv:Int×Int×Int):Prop:=∃ t0 t1 t2 k,C a=some (bU [.int iv.1 t0,.int iv.2.1 t1,.int iv.2.2 t2] k)
theorem HW {prog:Program}{w:World}{s:Shared}{x y:Addr}{a b:Int×Int×Int}{t0 t1 t2 u0 u1 u2:Tok}{k j:Nat}{Q:Bool->Shared->Prop} (hx:s.heap.get? x=some (bU [.int a.1 t0,.int a.2.1 t1,.int a.2.2 t2] k)) (hy:s.heap.get? y=some (bU [.int b.1 u0,.int b.2.1 u1,.int b.2.2 u2] j))
  (h:Q (Fd a b) s):wpAny (model prog w) A (keyLt' (tuples' true) (.ref x) (.ref y)) Q E s:=by
 refine kat_lt hx rfl hy rfl ?_;show KatLex prog w A true false Q [(.int a.1 t0,.int b.1 u0),(.int a.2.1 t1,.int b.2.1 u1),(.int a.2.2 t2,.int b.2.2 u2)] 0 s;unfold Fd at h;refine kat_cons (wpAny_eqBool_int ?_);by_cases e:a.1=b.1
 ·rw [if_pos e] at h;refine ae (show (a.1 == b.1)=true by simp [e]) ?_;refine kat_yes (kat_cons (wpAny_eqBool_int ?_));by_cases e2:a.2.1=b.2.1
  ·rw [if_pos e2] at h;refine ae (show (a.2.1 == b.2.1)=true by simp [e2]) ?_;refine kat_yes (kat_cons (wpAny_eqBool_int ?_));by_cases e3:a.2.2=b.2.2
   ·refine ae (show (a.2.2 == b.2.2)=true by simp [e3]) ?_;refine kat_yes (kat_nil ?_);rw [show decide (a.2.2 < b.2.2)=false by simp [e3]] at h;exact h
   ·refine ae (show (a.2.2 == b.2.2)=false by simp [e3]) ?_;refine kat_no (kat_one _ _ ?_);exact lt_int h
  ·rw [if_neg e2] at h;refine ae (show (a.2.1 == b.2.1)=false by simp [e2]) ?_;refine kat_no (kat_one _ _ ?_);exact lt_int h
 ·rw [if_neg e] at h;exact ae (show (a.1 == b.1)=false by simp [e]) (kat_no (oneLt_int h))
theorem zb {κ:SortKind}{x:Value}{vs:List Value}{lt:Nat->Nat->Bool}{Q:Value->Loc->Led->Prop} (o:lQ lt) (h2:2≤vs.length) (h6:vs.length≤6)
  (gz:∀ E F s Q,Rel S Qg L m C F s->(∀ s',Rel S Qg L m C F s'->Q vs s')->wpAny (model S.prog S.w) A.in1 (collect x) Q E s)
  (kind:∀ C' F s Q,(∀ z o,C z=some o->C' z=some o)->Rel S Qg L m C' F s->(∀ s',Rel S Qg L m C' F s'->Q κ s')->wpAny (model S.prog S.w) A.in1.in1 (keyKind' vs.toArray) Q (λz9 z8=>False) s)
  (ask:∀ i j C' F s Q,i < vs.length->j < vs.length->(∀ z o,C z=some o->C' z=some o)->Rel S Qg L m C' F s →
   (∀ cf s',(∀ z o,C' z=some o->cf z=some o)->Rel S Qg L m cf F s'->Q (lt i j) s')->wpAny (model S.prog S.w) A.in1.in1 (keyLt' κ (vs.getD i .none) (vs.getD j .none)) Q (λz9 z8=>False) s)
  (fin:∀ D p k C',p.Perm (List.range vs.length)->DU lt p->(∀ z o,C z=some o->C' z=some o)->C' D=none->Q (.ref D) m (upd C' D (listOf (p.map λi=>vs.getD i .none).toArray k))) :
  W S A Qg L E (call (.builtin "sorted") [x]) m C Q:=.mk2 λF s R=>by
 refine Calls.call_function_entry kind_sorted plain_sorted entry_sorted (args_sorted1 _) ?_;unfold Builtin.«sorted»;refine wpAny_bind (m:=checkCount "sorted" 1 1 _) (wpAny_pure ?_);refine wpAny_bind (gz _ F s _ R λaC bQ=>?_);obtain ⟨lL,tb,dj,bQ⟩:=bQ;refine wpAny_bind (wpAny_newList ?_ (by refine ae sizeLine_eq ?_; exact Qb h6 (Nat.le_add_left 6 16777210)));have d_:=bQ.push (seqObj "list" vs.toArray 0);have fD:=bQ.fresh_size (Nat.le_refl _);generalize hD:aC.heap.objs.size=D at *;have I_:=d_.get (af C D _);refine aF bQ.list λl N hl=>?_;have di:=d_.hideAt fD.1 fD.2
 have tD:=(join_none fD.2).1;have NX:=(join_none fD.2).2;have Aq:=di.r.N D _ (aT di.d (af _ D _));have CV:∀ b x,aC.heap.get? b=some x->(aC.heap.push (seqObj "list" vs.toArray 0)).get? b=some x:=λb x e=>Heap.get?_push_of_some _ e
 show wpAny _ _ _ _ _ { aC with heap:=aC.heap.push (seqObj "list" vs.toArray 0) };refine wpAny_bind (wpAny_holding (wpAny_call_entry slot_list_sort ⟨_,I_,rfl⟩ entry_list_sort ?body (args_list_sort _)))
 case body =>
  refine kat_list_sort (news:=l) (vs:=vs) (s:={ aC with heap:=aC.heap.push (seqObj "list" vs.toArray 0) }) d_.fr (N.grown CV) I_ Aq.2.1 Aq.2.2 (λp hp q=>?_) h2 (by exact Nat.lt_of_le_of_lt h6 (Nat.le_add_left (Nat.succ 6) 57)) (λe1 h' F' N'=>?_)
  ·have:=Heap.lt_size (N p hp).1;rw [hD,q] at this;exact Nat.lt_irrefl _ this
  ·have RR:bR S Qg L m C (upd (join F lL) D (listOf ([]:List Value).toArray e1)) { aC with heap:=h' }:=by
    refine ⟨⟨F',λb x e=>?_,bQ.r.g,bQ.r.o⟩,λb=>?_⟩
    ·by_cases q:b=D
     ·subst q;unfold join at e;rw [fD.1,af] at e;replace e:=Option.some.inj e; subst e;exact N' _ (.head _)
     ·refine N' _ (.tail _ (hl b x ?_));unfold join at e ⊢;rw [ag _ _ q] at e;exact e
    ·by_cases q:b=D
     ·exact .inl (q▸fD.1)
     ·exact ae (ag _ _ q) (bQ.d b)
   refine kind _ _ _ _ (λz9 z8 e=>e) (RR.hidClose tb dj NX) λs' R'=>?_;refine jb o (I:=λs'=>∃ C',(∀ z o,C z=some o->C' z=some o)∧Rel S Qg L m C' (upd F D (listOf ([]:List Value).toArray e1)) s') (λi j K s' hi hj ⟨C',hC,R'⟩ hK=>?_) (λp s' hp hr ⟨C',hC,R'⟩=>?_) _ [] _ (λz9 h=>nomatch h) (j8 h2 h6) ⟨C,λz9 z8 e=>e,R'⟩
   ·exact ask i j C' _ s' K hi hj hC R' λcf fK tN dR=>hK fK ⟨cf,λz o e=>tN z o (hC z o e),dR⟩
   ·have Dv:C' D=none:=R'.own tD;refine bE (R'.hidOpen tD) λTx HQ JT nx n1 R'=>?_;have R4:=R'.unhide n1
    refine bF (R4.pick (af C' D _)) λls N4 a mQ=>?_;refine KasFin.intro R4.fr N4 (UpdF.head a) λh5 c F5 N5=>?_
    refine ⟨_,rfl,wpAny_pure ⟨_,rfl,m,_,?_,fin D p.toList c C' hp hr hC Dv⟩⟩;have:=R4.of_pick (o':=listOf (p.toList.map λi=>vs.getD i .none).toArray c) (tk:=s'.toks) (af C' D _) mQ F5 N5;have e:upd (upd C' D (listOf ([]:List Value).toArray e1)) D (listOf (p.toList.map λi=>vs.getD i .none).toArray c)=upd C' D (listOf (p.toList.map λi=>vs.getD i .none).toArray c):=by
     funext b; unfold upd; split <;> rfl
    rw [e] at this;exact ⟨Tx,HQ,JT,this⟩
end
section
variable {S:Setup}{A:Around}{Qg:Heap}{L:Addr}{E:Value->Shared->Prop}{m:Loc}{C F:Led}{env:Env}{n:Nat}
theorem DD:∀ {l p q:List Value}{y:Value},l=p++y::q->kl_cut l p.length=some (p,y,q)
 | _,[],q,y,rfl=>rfl
 | _,x::p,q,y,rfl=>by
  show kl_cut (x::(p++y::q)) (p.length+1)=_;rw [kl_cut,DD rfl]
theorem EN {l:Addr}{p q:List Value}{y:Value}{k:Nat}{i:Int}{u:Tok}{Q:Value->Loc->Led->Prop} (hl:C l=some (listOf (p++y::q).toArray k)) (hi:i=p.length) (hz:(p++y::q).length≤1000) (h:Q y m (upd C l (listOf (p++q).toArray (k+1)))) :
  W S A Qg L E (call (.builtin "list.pop") [.ref l,.int i u]) m C Q:=.mk λF s r=>by
 refine bF (r.pick hl) λls N a mQ=>?_;have hp:p.length < (p++y::q).length:=by simp
 refine kl_popAt (k:=p.length) (p:=p) (q:=q) (y:=y) r.fr N ?_ ?_ (DD (List.toList_toArray ..)) (Upd.head a) (by simp [sizeLine_eq] at hz ⊢; exact Qb hz (Nat.le_add_left 1000 16776216)) (λh' F' N'=>?_)
 ·unfold Builtin.List.listFitsIndex;simp only [Bool.and_eq_true,decide_eq_true_eq];exact hi▸⟨Int.le_trans (by decide) (Int.natCast_nonneg _),Int.lt_of_lt_of_le (Int.ofNat_lt.mpr hp) (Int.le_trans (Int.ofNat_le.mpr hz) (by decide))⟩
 ·refine ae hi (ae List.size_toArray ?_);unfold seqIndex?;simp only [List.length_append,List.length_cons] at hp ⊢;simp only [if_neg (Int.not_lt_of_ge (Int.NonNeg.mk (p.length+0)):¬ (p.length:Int) < 0)];refine ae (if_pos (by simp only [Bool.and_eq_true,decide_eq_true_eq]; exact ⟨Int.natCast_nonneg _,Int.ofNat_lt.mpr (Nat.lt_add_of_pos_right (Nat.succ_pos _))⟩)) ?_;rfl
 exact ⟨m,_,r.of_pick hl mQ F' N' (tk:=s.toks),h⟩
theorem fO {l:Addr}{vs:List Value}{pl:Sem Bool}{Q:Value×List Value->Loc->Led->Prop} (hl:cN C l vs) (h:Q (.builtin "list.pop",[.ref l]) m C):W S A Qg L E (getMethod (.ref l) "pop" pl) m C Q:=.mk λF s r=>by
 refine aQ hl λk hk=>?_; clear hl
 exact getMethod_builtin ⟨_,r.get hk,rfl⟩ PySem.F.plainAttrs_list PySem.F.slot_list_pop PySem.F.type_list_pop (λa e=>by replace e:=PySem.Value.ref.inj e; subst e; exact ⟨_,r.get hk,rfl⟩) ⟨m,C,r,h⟩
theorem yO (vs:List Value) {y:Int} (h:0≤y):(slicePick vs.toArray none (some y) none).toList=vs.take y.toNat:=by
 have e:sliceBounds none (some y) none vs.toArray.size=(((0:Nat):Int),((min y.toNat vs.toArray.size:Nat):Int),1):=by
  simp only [sliceBounds,Option.getD_none,show (1:Int) > 0 by decide,if_true,if_neg (show ¬ (y < 0) by exact Int.not_lt_of_ge h)];refine aQ (Int.eq_ofNat_of_zero_le h) λn ak=>?_; subst ak
  rw [Int.toNat_natCast];congr 1;congr 1;by_cases q:n≤vs.toArray.size
  ·rw [Nat.min_eq_left q,Int.min_eq_left (Int.ofNat_le.mpr q),Int.max_eq_right (Int.natCast_nonneg n)]
  ·have q':=Nat.le_of_lt (Nat.lt_of_not_le q);rw [Nat.min_eq_right q',Int.min_eq_right (Int.ofNat_le.mpr q'),Int.max_eq_right (Int.natCast_nonneg _)]
 refine ae (kmk_pick_nat _ e) ?_;show (vs.drop 0).take (min y.toNat vs.toArray.size - 0)=_;exact ae List.drop_zero (ae (Nat.sub_zero _) (ae List.size_toArray (ae (kmk_take_min _ _) rfl)))
theorem zd {value upper:Expr}{p pos:Pos}{Q:Value->Loc->Led->Prop} (h:W S A Qg L E (eval value env) m C (λo m1 C1=>W S A Qg L E (eval upper env) m1 C1 (λvu m2 C2=>∃ l vs k t,o=.ref l∧cN C2 l vs∧vs.length≤1000∧vu=.int k t∧0≤k ∧
  ∀ d0 o0 d,C2 d0=none->upd C2 d0 o0 d=none->Q (.ref d) m2 (upd (upd C2 d0 o0) d (listOf (vs.take k.toNat).toArray 0)))))
  (ht:∀ o r,letTemporaryGo value o r=pure ():=by intro _ _; rfl):W S A Qg L E (eval (.Subscript value (.Slice none (some upper) none p) pos) env) m C Q:=.mk2 λF s R=>by
 refine wpAny_Subscript_list_slice ?_ ht;refine h.run R λo m1 C1 s1 R1 q1=>?_;refine ae (evalPart_none _) ?_
 refine wpAny_pure ?_;refine q1.run R1 λvu m2 C2 s2 R2 q2=>?_;refine bP q2 λl vs k t gw=>?_; clear q2; refine gZ gw λak hl hz aZ h0 hq=>?_; clear gw; subst ak; subst aZ
 have e:slicePick vs.toArray none (some k) none=(vs.take k.toNat).toArray:=eI (yO vs h0) (ae Array.toArray_toList rfl);refine ⟨l,vs.toArray,none,some k,rfl,R2.isList hl,by simp [sizeLine_eq]; exact Qb hz (Nat.le_add_left 1000 16776216),by constructor,by constructor,?_⟩;refine ae e ?_;obtain ⟨Fo,le,tb,R2⟩:=R2;have R3:=R2.push { cls:=Value.type "slice",data:=Data.fields #[Value.none,.int k t,Value.none] };have q:=hq _ _ _ (R2.fresh_size (Nat.le_refl _)).1 (R3.fresh_size (Nat.le_refl _)).1;have sz:=Heap.size_push s2.heap { cls:=Value.type "slice",data:=Data.fields #[Value.none,.int k t,Value.none] };exact ⟨m2,_,⟨Fo,le,tb,R3.push _⟩,by exact eI sz q⟩
end
section
variable {prog:Program}{w:World}{A:Around}{E:Value->Shared->Prop}{s:Shared}{Qg:Heap}{L:Addr}{m:Loc}{news:List (Addr×Obj)}
theorem zT {a kS:Addr}{f v:Value}{e1:Nat}{P:PySem.Fin->Shared->Prop} (hk:s.heap.get? kS=some (seqObj "list" #[] 0))
  (h:KatKeys prog w A Qg L m kS f (λks e s'=>KatFin Qg L m kS a ks e e1 [v] (λs4=>P (.done (.ret .none)) s4) s') [v] [] 0 s) :
  wpAny (model prog w) A (ksk_rest a f false #[v] e1 (.ref kS)) P E s:=by
 unfold ksk_rest;refine wpAny_bind (wpAny_rule ?_);refine eI Array.forIn_toList ?_;refine wpAny_bind (wpAny_mono (kat_fold (n:=1) (by decide) (λx ks e s' C hz hx=>?_) [v] [] 0 s (by simp) hk h) (λz9 s' hd=>?_) λz9 z8 x=>x)
 ·refine wpAny_bind (wpAny_attempt (wpAny_mono hx (λk fK hk=>?_) λz9 z8 hF=>hF.elim));refine cL hk λUQ g F' N' U c=>?_; clear hk
  refine cL U.split λpre post e0 hg x1 x2=>?_;rw [e0] at N'
  have nk:=N' (kS,seqObj "list" (List.toArray ks) e) (List.mem_append_right _ (.head _));have s1:=Heap.SameBut.update fK.heap kS (Obj.mapSeq (·.push k));have ea:(List.toArray ks).push k=List.toArray (ks++[k]):=by simp
  refine aQ (⟨_,by refine eI ea ?_; exact get?_update_seq nk.1 (·.push k)⟩:∃ c2,(fK.heap.update kS (Obj.mapSeq (·.push k))).get? kS=some (seqObj "list" (List.toArray (ks++[k])) c2)) λc2 Am=>?_;try dsimp only
  refine wpAny_bind (listUpdate_at nk.1 rfl ?_ (by refine ae List.size_toArray (ae sizeLine_eq ?_); exact Qb (by walk_at "A") (Qb (Qf hz) (by walk_at "A"))) (Qb (Qc (Array.size_push ..)) (by refine ae List.size_toArray (ae sizeLine_eq ?_); exact Qb hz (Nat.le_add_left 64 16777153))));exact wpAny_pure ⟨rfl,k,c2,Am,c _ c2 (kas_fr F' s1 nk.2.1 nk.2.2) (by exact ae (hg _) (news_set N' x1 x2 s1 Am))⟩
 ·refine bx hd λks e rg hl fin=>?_; clear hd
  try dsimp only
  refine wpAny_bind (listItems_at rg rfl ?_);refine aQ (List.length_eq_one_iff.mp (show ks.length=1 from hl):∃ k0,ks=[k0]) λk0 ak=>?_; subst ak
  unfold ksk_end;try dsimp only
  rw [if_pos (show (#[v]:Array Value).size < 2 from Nat.lt_succ_self 1),if_pos (show (#[v]:Array Value).size < 2 from Nat.lt_succ_self 1)];simp only [Bool.false_eq_true,if_false];refine wpAny_bind (wpAny_pure ?_);refine ae (StateT.run_pure _ _) ?_;refine wpAny_bind (wpAny_pure ?_);exact kat_tail (out:=[v]) (ks:=[k0]) (by show (#[k0].zip #[v]).map (·.2)=#[v]; simp) (show 1 < 64 by decide) (show 1 < 64 by decide) (by rfl) fin
theorem xb {a:Addr}{f v:Value}{n:Nat}{P:PySem.Fin->Shared->Prop} (F:Fr Qg L s.heap m) (N:News Qg L s.heap news) (ho:s.heap.get? a=some (seqObj "list" #[v] n)) (W8:a≠L) (W9:Qg.get? a=none) (Je:∀ p∈news,p.1≠a)
  (h:∀ kS e1 h',Fr Qg L h' m->News Qg L h' ((kS,seqObj "list" #[] 0)::(a,seqObj "list" #[] e1)::news)->a < kS->(∀ q∈news,q.1 < kS) →
   KatKeys prog w A Qg L m kS f (λks e s'=>KatFin Qg L m kS a ks e e1 [v] (λs4=>P (.done (.ret .none)) s4) s') [v] [] 0 { s with heap:=h' }) :
  wpAny (model prog w) A (ksk_tree a f false) P E s:=by
 have ha:a < s.heap.objs.size:=Heap.lt_size ho;have s1:=Heap.SameBut.update s.heap a (Obj.mapSeq λz9=>(#[]:Array Value));refine aQ (⟨_,get?_update_seq ho λz9=>#[]⟩:∃ e1,(s.heap.update a (Obj.mapSeq λz9=>(#[]:Array Value))).get? a=some (seqObj "list" #[] e1)) λe1 pd=>?_;have F1:=kas_fr F s1 W8 W9
 have N1:=kas_news N s1 Je;have WG:((s.heap.update a (Obj.mapSeq λz9=>(#[]:Array Value))).push (seqObj "tuple" #[v] 0)).objs.size=s.heap.objs.size+1:=by exact ae (size_push' _ _) (ae (Heap.size_update _ _ _) rfl)
 have Nr:L < ((s.heap.update a (Obj.mapSeq λz9=>(#[]:Array Value))).push (seqObj "tuple" #[v] 0)).objs.size:=(F1.push _).ns.lt;unfold ksk_tree;refine wpAny_bind (listItems_at ho rfl ?_);refine wpAny_bind (listUpdate_at ho rfl ?_ (by refine ae sizeLine_eq ?_; exact Qe rfl) (Nat.zero_le _));refine wpAny_bind (seqEpoch_at pd rfl ?_);refine wpAny_bind (wpAny_newTuple ?_ (by show 1≤_; exact ae sizeLine_eq (Qe rfl)));refine wpAny_bind (wpAny_newList ?_ (Nat.zero_le _));refine wpAny_holding ?_;refine zT (s:={ s with heap:=((s.heap.update a (Obj.mapSeq λz9=>(#[]:Array Value))).push (seqObj "tuple" #[v] 0)).push (seqObj "list" #[] 0) }) (kS:=((s.heap.update a (Obj.mapSeq λz9=>(#[]:Array Value))).push (seqObj "tuple" #[v] 0)).objs.size)
  (Heap.get?_push_size _ rfl) (h _ e1 _ ((F1.push _).push _) (λp hp=>?_) (by exact ae WG (Nat.lt_succ_of_lt ha)) λq hq=>by exact ae WG (Nat.lt_succ_of_lt (Heap.lt_size (N q hq).1)))
 rcases List.mem_cons.mp hp with rfl | hp
 ·exact ⟨Heap.get?_push_size _ rfl,Nat.ne_of_gt Nr,Heap.get?_none_of_le (Qb F.above (Nat.le_of_lt Nr))⟩
 ·rcases List.mem_cons.mp hp with rfl | hp
  ·exact ⟨Heap.get?_push_of_some _ (Heap.get?_push_of_some _ pd),W8,W9⟩
  ·exact ⟨Heap.get?_push_of_some _ (Heap.get?_push_of_some _ (N1 p hp).1),(N1 p hp).2⟩
end
theorem rI {a b:Int}{c:Value} (l:List Value) (h:TriplesOk l):TriplesOk (l++[rawInt a,rawInt b,c]):=TriplesOk_snoc a b c l h
theorem xF {pos pos':Pos}{c cv:Value} (l:List Value) (h:TriplesOk l) (e:codeAmong pos' (l++[rawInt pos.line,rawInt pos.col,c])=some cv) :
  codeAmong pos' l=some cv∨(cv=c∧pos.line=pos'.line∧pos.col=pos'.col):=by
 fun_induction TriplesOk l with
 | case1 =>
  simp only [List.nil_append,codeAmong,rawInt] at e;split at e
  ·rename_i q;simp only [Bool.and_eq_true,beq_iff_eq,Int.natCast_inj] at q;exact .inr ⟨(Option.some.inj e).symm,q.1,q.2⟩
  ·exact iO e
 | case2 _ _ _ _ _ rest ih =>
  simp only [List.cons_append,codeAmong] at e ⊢;split at e
  ·rename_i q;exact ae (if_pos q) (.inl e)
  ·rename_i q;exact ae (if_neg q) (ih h e)
 | case3=>exact h.elim
theorem qV {F T:Led}{a:Addr}{o:Obj} (hF:F a=none):join F (upd T a o)=upd (join F T) a o:=by
 funext z;unfold join upd;by_cases q:z=a
 ·refine ae (if_pos q) (ae (if_pos q) (ae q (ae hF ?_))); rfl
 ·exact ae (if_neg q) (ae (if_neg q) rfl)
noncomputable abbrev Setup.withCode (S:Setup) (c:Addr) (o:Obj):Setup:={ S with cd:=upd S.cd c o }
noncomputable def vV (o:Obj) (q:Str):Prop:=∃ vs t,o.data=.fields vs∧(vs[1]?:Option Value)=some (.str q t)
section
variable {S:Setup}{A:Around}{Qg:Heap}{L:Addr}{E:Value->Shared->Prop}{m:Loc}{C F T:Led}{env:Env}{n:Nat}
theorem Rel.less {s:Shared}{c:Addr}{o:Obj} (hc:S.cd c=none∨S.cd c=some o) (R:Rel (S.withCode c o) Qg L m C F s):Rel S Qg L m C F s:=by
 obtain ⟨T,tb,dj,r⟩:=R;exact ⟨T,⟨tb.t,λa x e=>tb.c a x (by
  by_cases q:a=c
  ·subst q;rcases hc with hc | hc <;> rw [hc] at e <;> cases e
   exact af _ _ _
  ·exact (ag _ _ q).trans e)⟩,dj,⟨⟨r.r.F,r.r.N,r.r.g,r.r.o⟩,r.d⟩⟩
theorem Gd.withCode {c:Addr}{o:Obj} (G:Gd S n A Qg L env):Gd (S.withCode c o) n A Qg L env:=⟨G.X,G.T,G.hk,G.d,G.u,G.hh,G.hloc,G.hgl,G.hbi⟩
theorem u7 {P c bm:Addr}{pos:Pos}{qual:Str}{ob:Value->Value->Value->Obj}{t:Sem Value}{s:Shared}{Q:Value->Shared->Prop} (G:Gd S n A Qg L env) (hP:S.tb P=true) (Ng:S.cd P=none) (hq:S.tq pos.line pos.col=qual) (iJ:codeHdIn S.K c P=true)
  (JG:nsIn S.K mainGlobals "__builtins__"=some (some (.ref bm))) (JF:bm≠builtinsNs) (Ni:bm≠mainGlobals) (AY:∃ sl,S.K.lookup bm=some ⟨.type "module",some builtinsNs,.plain,sl⟩) (OE:∀ a b c,(ob a b c).isFreed=false)
  (miss:∀ ps,s.heap.Ns mainGlobals S.mg->CodeHd s.heap c P->s.heap.get? P=some (tabObj ps)->TriplesOk ps.toList->codeAmong pos ps.toList=none->mainGlobals≠P->s.heap.BuiltinsAt S.mg P →
   (∀ (c':Addr) (hU doc:Value) (h':Heap) (tk:Tok),Heap.ExtBut P s.heap h'->s.heap.objs.size≤c'->c' < h'.objs.size->h'.CodeRec (.ref c') qual->h'.get? P=some (tabObj (ps++#[rawInt pos.line,rawInt pos.col,.ref c']))->Q (.ref h'.objs.size) { s with heap:=h'.push (ob (.ref c') hU doc),toks:=tk })->wpAny (model S.prog S.w) A t Q E s)
  (hit:∀ ps cv,s.heap.Ns mainGlobals S.mg->CodeHd s.heap c P->s.heap.get? P=some (tabObj ps)->TriplesOk ps.toList->codeAmong pos ps.toList=some cv->s.heap.BuiltinsAt S.mg P →
   (∀ (hU doc:Value) (h':Heap) (tk:Tok),(∀ b o,s.heap.get? b=some o->h'.get? b=some o)->s.heap.objs.size≤h'.objs.size->Q (.ref h'.objs.size) { s with heap:=h'.push (ob cv hU doc),toks:=tk })->wpAny (model S.prog S.w) A t Q E s)
  (R:Rel S Qg L m C F s)
  (h:∀ f c' oc hU doc s',C f=none->S.cd c'=none∨S.cd c'=some oc->vV oc qual->Rel (S.withCode c' oc) Qg L m (upd C f (ob (.ref c') hU doc)) F s'->Q (.ref f) s'):wpAny (model S.prog S.w) A t Q E s:=by
 obtain ⟨T,tb,dj,R⟩:=R;refine bF (tb.t P hP) λps eP ht Dj=>?_;have Tu:F P=none:=(dj P).resolve_right λe=>by exact bo e eP
 have hJ:join F T P=some (tabObj ps):=aT dj eP;have zP:=R.r.N P _ (aT R.d hJ);have nO:=G.T.g.keeps R.fr.keep;have X:=G.X.keeps R.fr.keep;have M5:mainGlobals≠P:=λq=>by
  refine fJ nO λo es ep e hd z9=>?_; clear nO
  rw [q] at e; replace e:=eG zP.1 e; subst e; injection hd
 refine aQ AY λsl AY=>?_;have Ej:s.heap.BuiltinsAt S.mg P:=⟨bm,_,mg_of G.X G.T.g JG,JF,Ni,(λq=>by have e:=X _ _ AY; rw [q] at e; replace e:=eG zP.1 e; refine dI (PySem.Obj.mk.inj e) λkE j0 XI XH=>?_; clear e; injection kE),X _ _ AY,rfl,rfl,rfl⟩
 have Nf:=codeHd_of_K X iJ;cases Ec:codeAmong pos ps.toList with
 | some cv =>
  refine bP (Dj _ _ Ec) λc' oc vs tt aZ=>?_; refine dI aZ λak Ae G_ vq=>?_; clear aZ; subst ak
  rw [hq] at vq;refine hit ps _ nO Nf zP.1 ht Ec Ej λhU doc h' tk hk jw=>?_;have R1:=R.keeps (tk:=tk) (m':=m) ⟨R.fr.ns.keeps hk,λb o e=>hk b o (R.fr.keep b o e),R.fr.above⟩ (λa o e=>hk a o (R.r.N a o e).1)
  have R2:=R1.push (ob (.ref c') hU doc) (OE _ _ _);refine h _ c' oc hU doc _ (R1.fresh_size (Nat.le_refl _)).1 ?_ ⟨vs,tt,G_,vq⟩ ⟨T,⟨tb.t,λa x e=>?_⟩,dj,⟨⟨R2.r.F,R2.r.N,R2.r.g,R2.r.o⟩,R2.d⟩⟩
  ·cases q:S.cd c' with
   | none=>exact .inl rfl
   | some x=>have:=tb.c c' x q; rw [Ae] at this; exact .inr this.symm
  ·have e:upd S.cd c' oc a=some x:=e;by_cases q:a=c'
   ·subst q; replace e:=eG (af ..) e; subst e; exact Ae
   ·rw [ag _ _ q] at e; exact tb.c a x e
 | none =>
  refine miss ps nO Nf zP.1 ht Ec M5 Ej λc' hU doc h' tk hx SE gk Aa htb=>?_;refine bP Aa λc₂ oc vs tt ak=>?_; clear Aa; refine dI ak λe2 Ae hd hv=>?_; clear ak
  replace e2:=PySem.Value.ref.inj e2; subst e2;have fr:=R.fresh_size SE;have HB:=join_none fr.2;have JE:c'≠P:=λq=>by rw [q,eP] at HB; exact uy HB.2
  have e0:join F T=upd (join F (hide T P)) P (tabObj ps):=by
   funext z;unfold join upd hide;by_cases q:z=P
   ·refine ae (if_pos q) (ae q (ae Tu (ae eP ?_))); rfl
   ·refine ae (if_neg q) ?_; show _=(F z).or (if z=P then none else T z); exact ae (if_neg q) rfl
  rw [e0] at R;have R1:=R.hid_change' (tk:=tk) (λb x hb e=>hx b x hb e) htb;have hL:c'≠L:=λq=>by
   refine cz R.fr.ns λoL z9 z8 hL z7=>?_;exact absurd (Heap.lt_size hL) (Nat.not_lt.mpr (q▸SE))
  have h0:Qg.get? c'=none:=by
   cases q:Qg.get? c' with
   | none=>rfl
   | some o=>exact absurd (Heap.lt_size (R.fr.keep _ _ q)) (Nat.not_lt.mpr SE)
  have Wx:upd (join F (hide T P)) P (tabObj (ps++#[rawInt pos.line,rawInt pos.col,.ref c'])) c'=none:=by
   refine ae (ag _ _ JE) ?_;unfold join hide;refine ae (if_neg JE) (ae HB.1 (ae HB.2 ?_)); rfl
  have R2:=(R1.addAt Wx Ae hL h0).hideAt fr.1 Wx;have R3:=R2.push (ob (.ref c') hU doc) (OE _ _ _);have e1:upd (upd (join F (hide T P)) P (tabObj (ps++#[rawInt pos.line,rawInt pos.col,.ref c']))) c' oc=join F (upd (upd T P (tabObj (ps++#[rawInt pos.line,rawInt pos.col,.ref c']))) c' oc):=by
   refine ae (qV HB.1) (ae (qV Tu) ?_);congr 1;funext z;unfold upd join hide;by_cases q:z=P
   ·exact ae (if_pos q) (ae (if_pos q) rfl)
   ·exact ae (if_neg q) (ae (if_neg q) (ae (if_neg q) rfl))
  rw [e1] at R3;have up:∀ {z o},T z=some o->z≠P->upd (upd T P (tabObj (ps++#[rawInt pos.line,rawInt pos.col,.ref c']))) c' oc z=some o:=λ{z o} e q=>by
   refine ae (ag _ _ (λw=>by rw [w] at e; exact bo HB.2 e)) (ae (ag _ _ q) ?_); exact e
  have Us:∀ {q cv},xM T q cv->xM (upd (upd T P (tabObj (ps++#[rawInt pos.line,rawInt pos.col,.ref c']))) c' oc) q cv:=λ{q cv} z=>by
   refine bP z λc1 o1 v1 t1 aZ=>?_; clear z; refine dI aZ λak h1 h2 h3=>?_; clear aZ; subst ak
   refine ⟨c1,o1,v1,t1,rfl,up h1 λw=>?_,h2,h3⟩;rw [w,eP] at h1;replace h1:=Option.some.inj h1; subst h1;replace h2:=PySem.Data.fields.inj h2; subst h2;have mP:=ht;cases hl:ps.toList with
   | nil=>rw [← Array.getElem?_toList,hl] at h3; exact iO h3
   | cons x l =>
    rw [hl] at mP;rw [← Array.getElem?_toList,hl] at h3;cases l with
    | nil=>exact iO h3
    | cons y l =>
     replace h3:=Option.some.inj h3; subst h3;unfold TriplesOk at mP;split at mP <;> simp_all
  have qD:t9 (S.withCode c' oc) (upd (upd T P (tabObj (ps++#[rawInt pos.line,rawInt pos.col,.ref c']))) c' oc):=by
   refine ⟨λa ha=>?_,λa x e=>?_⟩
   ·by_cases q:a=P
    ·subst q;refine ae (ag _ _ (Ne.symm JE)) (ae (af _ _ _) ?_);refine ⟨_,rfl,by refine ae Array.toList_append ?_; exact rI _ ht,λpos' cv e=>?_⟩;rw [Array.toList_append] at e;rcases xF _ ht e with e | ⟨rfl,w1,w2⟩
     ·exact Us (Dj _ _ e)
     ·refine ⟨c',oc,vs,tt,rfl,af _ _ _,hd,?_⟩;rw [show S.tq pos'.line pos'.col=qual by rw [← w1,← w2]; exact hq];exact hv
    ·refine bF (tb.t a ha) λD6 e' t' k'=>?_;refine ⟨D6,up e' q,t',λpos' cv e=>Us (k' _ _ e)⟩
   ·have e:upd S.cd c' oc a=some x:=e;by_cases q:a=c'
    ·rw [q,af] at e; refine ae q (ae (af _ _ _) ?_); exact e
    ·rw [ag _ _ q] at e;exact up (tb.c a x e) λw=>by rw [w] at e; exact bo Ng e
  refine h _ c' oc hU doc _ ?_ ?_ ⟨vs,tt,hd,hv⟩ ⟨_,qD,λz=>?_,⟨⟨R3.r.F,R3.r.N,R3.r.g,R3.r.o⟩,R3.d⟩⟩
  ·exact (R2.fresh_size (Nat.le_refl _)).1
  ·cases q:S.cd c' with
   | none=>exact .inl rfl
   | some x=>have:=tb.c c' x q; exact bo HB.2 this
  ·by_cases q:z=c'
   ·exact ae q (.inl HB.1)
   ·by_cases q2:z=P
    ·exact ae q2 (.inl Tu)
    ·refine ae (ag _ _ q) (ae (ag _ _ q2) ?_); exact dj z
theorem pN {s:Shared}{c:Addr}{oc:Obj}{qual:Str} (R:Rel S Qg L m C F s) (hc:S.cd c=some oc) (ho:vV oc qual):s.heap.CodeRec (.ref c) qual:=by
 obtain ⟨T,tb,dj,r⟩:=R;refine bg ho λvs t h1 h2=>?_; clear ho
 exact ⟨c,oc,vs,t,rfl,(r.r.N _ _ (aT r.d (aT dj (tb.c _ _ hc)))).1,h1,h2⟩
theorem Bc {name qual:Str}{params:Arguments}{body:Expr}{scope:Scope}{pm hU:Value}{c' f:Addr}{oc:Obj}{args:List Value}{binds:List (Str×Value)}{R:Value->Led->Prop}
  (hf:C f=some (kla_obj name qual params body scope [] pm c' hU)) (hc:S.cd c'=some oc) (ho:vV oc qual)
  (gm:bindArgs (kla_fn name qual params body scope [] pm (.ref c') hU) ⟨args,[]⟩=Pure.pure binds) (hloc:∀ y∈binds,scope.names.lookup y.1=some .local)
  (h:∀ A Qg L E,Gd S n A Qg L (envOf qual scope L f (.ref c'))->W S A Qg L E (eval body (envOf qual scope L f (.ref c'))) (λy=>binds.reverse.lookup y) C λv z9 C'=>R v C')
  (cF:∀ x∈scope.names,x.2≠.cell) (rh:scope.isCoroutine=false) (pz:scope.isGenerator=false) (hk:scope.kind=.function):Spec S (n+1) (.ref f) args [] C R:=by
 intro A Qg L E env m G Fo s nc;have Aa:=pN nc hc ho;obtain ⟨T,tb,dj,r⟩:=nc;refine aQ (⟨_,rfl⟩:∃ F,F=join Fo T) λF hF=>?_;rw [← hF] at r
 refine cW r.ground λg jw nO en Fg tK back=>?_;have gi:A.depth < recursionLimit:=by have:=G.d; exact Nat.lt_of_lt_of_le (by walk_at "A") (Qf this)
 refine kla_callFunE gi (r.get hf) rfl rh pz rfl Aa ?_;refine ae gm ?_;refine wpAny_pure (wpAny_newFunctionEnv cF hloc (λek vA Mi=>⟨(G.T.nolimit.keeps r.fr.keep).fresh _ Mi,?_⟩) hk);show codeAny _ _ (.expr body (envOf qual scope s.heap.objs.size f (.ref c'))) _ _;have gF:∀ b o,s.heap.get? b=some o->ek.get? b=some o:=λb o e=>Mi.extBut b o (Nat.ne_of_lt (Heap.lt_size e)) (Heap.get?_push_of_some _ e)
 have G':Gd S n (A.deeper (envOf qual scope s.heap.objs.size f (.ref c'))) g s.heap.objs.size (envOf qual scope s.heap.objs.size f (.ref c')):=by
  refine ⟨G.X.keeps en,G.T.keeps en,hk,?_,?_,G.hh,rfl,rfl,rfl⟩
  ·show A.depth+1+2 * n < _;have:=G.d; exact Nat.lt_of_lt_of_le (by walk_at "A") (Qf this)
  ·show A.units+3+8 * n < _;have:=G.u; exact Nat.lt_of_lt_of_le (by walk_at "A") (Qf this)
 have bQ:bR S g s.heap.objs.size (λy=>binds.reverse.lookup y) C F { s with heap:=ek,toks:=s.toks+binds.length } :=
  ⟨⟨⟨vA,λb o e=>gF b o (nO b o e),Qc jw⟩,λa o e=>⟨gF _ _ (r.r.N a o e).1,Nat.ne_of_lt (Heap.lt_size (r.r.N a o e).1),tK a o e⟩,r.r.g,r.r.o⟩,r.d⟩
 refine kla_codeExpr (wpAny_mono ((h _ g _ _ G').go Fo _ (bR.rel (hF▸bQ) tb dj)) (λv s' z=>?_) λz9 z8 z=>z);walk_at "bh";obtain ⟨m',C',r',q⟩:=z;walk_at "ch";exact ⟨m,C',r'.back back,rfl,q⟩
theorem uH {np E8 kp ap pos:Pos}{oE body:Expr}{attr:Str}{params:Arguments}{scope:Scope}{qual:Str}{P c bm x:Addr}{Q:Value->Loc->Led->Prop} (G:Gd S n A Qg L env) (hP:S.tb P=true) (Ng:S.cd P=none) (hq:S.tq E8.line E8.col=qual) (pD:env.code=.ref c) (iJ:codeHdIn S.K c P=true)
  (JG:nsIn S.K mainGlobals "__builtins__"=some (some (.ref bm))) (JF:bm≠builtinsNs) (Ni:bm≠mainGlobals) (AY:∃ sl,S.K.lookup bm=some ⟨.type "module",some builtinsNs,.plain,sl⟩)
  (MF:∀ {Q:Value->Loc->Led->Prop},Q (.builtin "sorted") m C->W S A Qg L E (eval (.Name "sorted" np) env) m C Q)
  (Ti:∀ {Q:Value->Loc->Led->Prop},Q (.ref x) m C->W S A Qg L E (eval (.Attribute oE attr ap) env) m C Q)
  (SQ:defaultsOf params env=([],[])) (Al:closureFor scope env=Pure.pure []) (CL:env.qual++"<lambda>"=qual)
  (h:∀ f c' oc pm hU,C f=none->vV oc qual->W (S.withCode c' oc) A Qg L E (call (.builtin "sorted") [.ref x] [("key",.ref f)]) m (upd C f (kla_obj "<lambda>" qual params body scope [] pm c' hU)) Q) :
  W S A Qg L E (eval (.Call (.Name "sorted" np) [.Attribute oE attr ap] [⟨some "key",.Lambda params body scope E8,kp⟩] pos) env) m C Q:=.mk2 λF s R=>by
 refine wpAny_Call_ofName ((MF (Q:=λv m' C'=>v=.builtin "sorted"∧m'=m∧C'=C) ⟨rfl,rfl,rfl⟩).run R λv m' C' aC bQ q=>?_);refine bw q λak e1 e2=>?_; clear q; subst ak
 obtain rfl:m=m':=e1.symm;obtain rfl:C=C':=e2.symm;refine PyProof.Rows.callWith_kw ?_;refine Calls.spliced_cons ((Ti (Q:=λv m' C'=>v=.ref x∧m'=m∧C'=C) ⟨rfl,rfl,rfl⟩).run bQ λv m' C' cG d_ q=>?_);refine bw q λak e1 e2=>?_; clear q; subst ak
 obtain rfl:m=m':=e1.symm;obtain rfl:C=C':=e2.symm;refine Calls.spliced_nil ?_;refine kwAll_cons (kla_eval SQ ?_);refine ae CL ?_;refine u7 (pos:=E8) (ob:=λcv hU doc=>{ cls:=.type "function",data:=.func (kla_fn "<lambda>" qual params body scope [] ((S.mg "__name__").getD .none) cv hU) }) G hP Ng hq iJ JG JF Ni AY (λz9 z8 z7=>rfl) (λps hg C hp ht Ec M5 hb k=>?_) (λps cv hg C hp ht hf hb k=>?_) d_ λf c' oc hU doc s' hf xy ho R'=>?_
 ·exact kla_makeFunction Al G.hgl hg pD C hp ht Ec M5 hb λc' hU h' tk a1 a2 a3 a4 a5=>k c' hU .none h' tk a1 a2 a3 a4 a5
 ·exact kla_makeFunctionHit Al G.hgl hg pD C hp ht hf hb λhU h' tk a1 a2=>k hU .none h' tk a1 a2
 ·exact kwAll_nil (wpAny_mono ((h f c' oc _ hU hf ho).go F s' R') (λv fK ⟨m',C',dR,q⟩=>⟨m',C',dR.less xy,q⟩) λz9 z8 x=>x)
theorem Rel.upFin {s:Shared}{a:Addr}{o:Obj} (R:Rel S Qg L m C (upd F a o) s) (hF:F a=none):∃ news g,Fr Qg L s.heap m∧News Qg L s.heap news∧UpdF a o news g∧∀ h' o',Fr Qg L h' m->News Qg L h' (g o')->Rel S Qg L m C (upd F a o') { s with heap:=h' }:=by
 refine bE (R.hidOpen hF) λT tb dj n n2 r=>?_;have hC:=(r.d a).resolve_right λe=>by exact bo e (af ..)
 have R4:=r.unhide n2;refine bF (R4.pick (af _ _ _)) λls N4 ha mQ=>?_;refine ⟨_,_,R4.fr,N4,UpdF.head ha,λh' o' F' N'=>?_⟩
 have:=R4.of_pick (o':=o') (tk:=s.toks) (af C a o) mQ F' N';have e:upd (upd C a o) a o'=upd C a o':=by
  funext b; unfold upd; split <;> rfl
 rw [e] at this;exact (this.hideAt hC n2).hidClose tb dj n
theorem kQ {x:Value}{f:Addr}{vs:List Value}{Q:Value->Loc->Led->Prop} (h6:vs.length≤6)
  (gz:∀ E F s Q,Rel S Qg L m C F s->(∀ s',Rel S Qg L m C F s'->Q vs s')->wpAny (model S.prog S.w) A.in1 (collect x) Q E s)
  (h:∀ E F s D,F D=none->C D=none->Rel S Qg L m C (upd F D (listOf vs.toArray 0)) s->wpAny (model S.prog S.w) A.in1.in1 (ksk_tree D (.ref f) false) (λr s'=>r=.done (.ret .none)∧∃ m' C',Rel S Qg L m' C' F s'∧Q (.ref D) m' C') E s) :
  W S A Qg L E (call (.builtin "sorted") [x] [("key",.ref f)]) m C Q:=.mk2 λF s R=>by
 refine call_function_entry_kw kind_sorted plain_sorted entry_sorted (ksk_s1 _ _) ?_;unfold Builtin.«sorted»;refine wpAny_bind (m:=checkCount "sorted" 1 1 _) (wpAny_pure ?_);refine wpAny_bind (gz _ F s _ R λaC bQ=>?_);obtain ⟨lL,tb,dj,bQ⟩:=bQ;refine wpAny_bind (wpAny_newList ?_ (by refine ae sizeLine_eq ?_; exact Qb h6 (Nat.le_add_left 6 16777210)));have d_:=bQ.push (seqObj "list" vs.toArray 0);have fD:=bQ.fresh_size (Nat.le_refl _);generalize hD:aC.heap.objs.size=D at *;have I_:=d_.get (af C D _);have di:=d_.hideAt fD.1 fD.2;show wpAny _ _ _ _ _ { aC with heap:=aC.heap.push (seqObj "list" vs.toArray 0) };refine wpAny_bind (wpAny_holding (wpAny_call_entry_kw slot_list_sort ⟨_,I_,rfl⟩ entry_list_sort ?body (ksk_l1 _ _)))
 case body =>
  show wpAny _ _ (Builtin.«list.sort» ⟨[.ref D],[(Str.ofString "key",.ref f)]⟩) _ _ _;refine ae (ksk_t1 _ _) ?_;refine wpAny_mono (h _ F _ D (join_none fD.2).1 fD.1 (di.hidClose tb dj (join_none fD.2).2)) (λr s' z=>?_) λz9 z8 x=>x
  refine aS z λak aZ=>?_; clear z; refine bg aZ λm' C' R' q=>?_; clear aZ; subst ak
  exact ⟨_,rfl,wpAny_pure ⟨_,rfl,m',C',R',q⟩⟩
theorem Rel.keyed {s:Shared}{D kS:Addr}{e1:Nat}{h':Heap}{l:List (Addr×Obj)}{o:Obj} (R:bR S Qg L m C (upd (join F T) D o) s) (tb:t9 S T) (dj:g_ F T) (nD:F D=none) (tD:T D=none) (hl:∀ b x,join C (join F T) b=some x->b≠D->(b,x)∈l) (lk:D < kS) (LI:∀ q∈l,q.1 < kS)
  (F':Fr Qg L h' m) (N':News Qg L h' ((kS,seqObj "list" #[] 0)::(D,seqObj "list" #[] e1)::l)):F kS=none∧Rel S Qg L m C (upd (upd F D (seqObj "list" #[] e1)) kS (seqObj "list" #[] 0)) { s with heap:=h' }:=by
 have Ap:D≠kS:=Nat.ne_of_lt lk;have cD:C D=none:=(R.d D).resolve_right λe=>by exact bo e (af ..)
 have fk:C kS=none∧join F T kS=none:=by
  apply join_none;cases q:join C (join F T) kS with
  | none=>rfl
  | some x=>exact absurd (LI _ (hl _ _ q (Ne.symm Ap))) (Nat.lt_irrefl _)
 have Xz:=join_none fk.2;have RR:bR S Qg L m C (upd (upd (join F T) D (seqObj "list" #[] e1)) kS (seqObj "list" #[] 0)) { s with heap:=h' }:=by
  refine ⟨⟨F',λb x e=>?_,R.r.g,R.r.o⟩,λb=>?_⟩
  ·by_cases q:b=kS
   ·subst q;unfold join at e;rw [fk.1,af] at e;replace e:=Option.some.inj e; subst e;exact N' _ (.head _)
   ·by_cases q2:b=D
    ·subst q2;unfold join at e;rw [cD,ag _ _ q,af] at e;replace e:=Option.some.inj e; subst e;exact N' _ (.tail _ (.head _))
    ·refine N' _ (.tail _ (.tail _ (hl b x ?_ q2)));unfold join at e ⊢;rw [ag _ _ q,ag _ _ q2] at e;exact e
  ·by_cases q:b=kS
   ·exact .inl (q▸fk.1)
   ·have:=R.d b;by_cases q2:b=D
    ·exact .inl (q2▸cD)
    ·refine ae (ag _ _ q) (ae (ag _ _ q2) ?_); rw [ag _ _ q2] at this; exact this
 rw [← bJ] at RR;exact ⟨Xz.1,RR.hidClose tb (dj.upd_new _ tD) Xz.2⟩
theorem uI {κ:SortKind}{x:Value}{f:Addr}{vs:List Value}{lt:Nat->Nat->Bool}{Q:Value->Loc->Led->Prop} (o:lQ lt) (h2:2≤vs.length) (h6:vs.length≤6) (rB:Led->Nat->Value->Prop)
  (gz:∀ E F s Q,Rel S Qg L m C F s->(∀ s',Rel S Qg L m C F s'->Q vs s')->wpAny (model S.prog S.w) A.in1 (collect x) Q E s)
  (mono:∀ C' cf i k,(∀ z o,C' z=some o->cf z=some o)->rB C' i k->rB cf i k)
  (key:∀ i C' F s Q',i < vs.length->(∀ z o,C z=some o->C' z=some o)->Rel S Qg L m C' F s->(∀ k cf s',(∀ z o,C' z=some o->cf z=some o)->rB cf i k->Rel S Qg L m cf F s'->Q' k s')->wpAny (model S.prog S.w) A.in1.in1 (call (.ref f) [vs.getD i .none]) Q' (λz9 z8=>False) s)
  (kind:∀ (ks:List Value) C' F s Q',ks.length=vs.length->(∀ i,i < vs.length->rB C' i (ks.getD i .none))->Rel S Qg L m C' F s->(∀ s',Rel S Qg L m C' F s'->Q' κ s')->wpAny (model S.prog S.w) A.in1.in1 (keyKind' ks.toArray) Q' (λz9 z8=>False) s)
  (ask:∀ (ks:List Value) i j C' F s Q',i < vs.length->j < vs.length->(∀ i,i < vs.length->rB C' i (ks.getD i .none))->Rel S Qg L m C' F s->(∀ s',Rel S Qg L m C' F s'->Q' (lt i j) s')->wpAny (model S.prog S.w) A.in1.in1 (keyLt' κ (ks.getD i .none) (ks.getD j .none)) Q' (λz9 z8=>False) s)
  (fin:∀ D p k C',p.Perm (List.range vs.length)->DU lt p->(∀ z o,C z=some o->C' z=some o)->C' D=none->Q (.ref D) m (upd C' D (listOf (p.map λi=>vs.getD i .none).toArray k))) :
  W S A Qg L E (call (.builtin "sorted") [x] [("key",.ref f)]) m C Q:=kQ h6 gz λE F s D tD cD Qk=>by
 refine bE (Qk.hidOpen tD) λlL tb dj n0 n1 di=>?_;refine bF (bR.pick (di.unhide n1) (af _ _ _)) λl N Je mQ=>?_
 have Aq:=di.r.N D _ (aT di.d (af _ D _));refine kat_keyed (news:=l) (vs:=vs) di.fr (λp hp=>N p (.tail _ hp)) Aq.1 Aq.2.1 Aq.2.2 Je h2 (Nat.lt_of_le_of_lt h6 (Nat.le_add_left (Nat.succ 6) 57)) (λkS e1 h' F' N' lk LI=>?_);have Ap:D≠kS:=Nat.ne_of_lt lk;refine aS (Rel.keyed di tb dj tD n0 (λb x e q=>mQ b x (by rw [bJ]; exact ae (ag _ _ q) e) q) lk LI F' N') λfk Un=>?_;have nK:∀ {o},upd F D o kS=none:=λ{o}=>(ag _ _ (Ne.symm Ap)).trans fk
 refine (?_:∀ (r ks:List Value) (e:Nat) (s':Shared) (C':Led),vs.drop ks.length=r->(∀ z o,C z=some o->C' z=some o)->Rel S Qg L m C' (upd (upd F D (seqObj "list" #[] e1)) kS (seqObj "list" ks.toArray e)) s'->(∀ i,i < ks.length->rB C' i (ks.getD i .none))->ks.length≤vs.length->KatKeys S.prog S.w A.in1.in1 Qg L m kS (.ref f) _ r ks e s') vs [] 0 _ C rfl (λz9 z8 e=>e) Un (λi hi=>absurd hi (Nat.not_lt_zero _)) (Nat.zero_le _);intro r;induction r with
 | nil =>
  intro ks e s' C' hr hC R' hK hle;have hlen:ks.length=vs.length:=Nat.le_antisymm hle (List.drop_eq_nil_iff.mp hr);rw [hlen] at hK;refine KatKeys.nil (kind ks C' _ s' _ hlen hK R' λfK dR=>?_);refine jb o (I:=λs=>Rel S Qg L m C' (upd (upd F D (seqObj "list" #[] e1)) kS (seqObj "list" ks.toArray e)) s) (λi j K s hi hj R hK'=>ask ks i j C' _ s K hi hj hK R λs' R'=>hK' s' R') (λp s3 hp CI R=>?_) _ [] _ (λz9 h=>nomatch h) (j8 h2 h6) dR;refine cL (R.upFin nK) λnews g F4 N4 U k=>?_;refine KatFin.intro F4 N4 U λh5 c F5 N5=>?_
  have R5:=k h5 _ F5 N5;rw [iR Ap] at R5;refine cL (R5.upFin ((ag _ _ Ap).trans tD)) λLA g2 F6 N6 U2 k2=>?_;refine KasFin.intro F6 N6 U2 λh7 c2 F7 N7=>?_
  have R7:=k2 h7 _ F7 N7;have Dv:=R7.own ((ag _ _ Ap).trans tD);refine ⟨rfl,m,_,?_,fin D p.toList c2 C' hp CI hC Dv⟩;exact (R7.unhide ((ag _ _ Ap).trans tD)).hid_drop (h':=h7) fk λz9 z8 z7 e=>e
 | cons v r ih =>
  intro ks e s' C' hr hC R' hK hle;have gk:ks.length < vs.length:=by
   rcases Nat.lt_or_ge ks.length vs.length with w | w
   ·exact w
   ·rw [List.drop_eq_nil_of_le w] at hr; injection hr
  have hv:vs.getD ks.length .none=v:=by
   have:=congrArg List.head? hr;rw [List.head?_drop,List.head?_cons] at this;refine ae List.getD_eq_getElem?_getD (ae this ?_); rfl
  refine KatKeys.cons ?_;refine eI hv ?_;refine key ks.length C' _ s' _ gk hC R' λk cf fK tN hk dR=>?_;refine cL (dR.upFin nK) λnews g F4 N4 U kk=>?_
  refine ⟨news,g,F4,N4,U,λh5 c F5 N5=>?_⟩;refine ih (ks++[k]) c _ cf ?_ (λz o e=>tN z o (hC z o e)) (kk h5 _ F5 N5) (λi hi=>?_) (by refine ae List.length_append (ae List.length_singleton ?_); exact gk)
  ·refine ae List.length_append (ae List.length_singleton (eI List.drop_drop (ae hr ?_))); rfl
  ·rw [List.length_append,List.length_singleton] at hi;rcases Nat.lt_or_ge i ks.length with w | w
   ·have:=mono _ _ _ _ tN (hK i w);rw [List.getD_eq_getElem?_getD] at this ⊢;refine ae (List.getElem?_append_left w) ?_; exact this
   ·obtain rfl:i=ks.length:=by exact Nat.le_antisymm (Qd λq=>Ql (Qa q (Qf hi))) (Qd λq=>Ql (Qa q w))
    refine ae List.getD_eq_getElem?_getD (ae (List.getElem?_append_right (Nat.le_refl _)) (ae (Nat.sub_self _) ?_));exact hk
theorem rT {x:Value}{f:Addr}{v:Value}{Q:Value->Loc->Led->Prop} (gz:∀ E F s Q,Rel S Qg L m C F s->(∀ s',Rel S Qg L m C F s'->Q [v] s')->wpAny (model S.prog S.w) A.in1 (collect x) Q E s)
  (key:∀ C' F s Q',(∀ z o,C z=some o->C' z=some o)->Rel S Qg L m C' F s->(∀ k cf s',(∀ z o,C' z=some o->cf z=some o)->Rel S Qg L m cf F s'->Q' k s')->wpAny (model S.prog S.w) A.in1.in1 (call (.ref f) [v]) Q' (λz9 z8=>False) s)
  (fin:∀ D k C',(∀ z o,C z=some o->C' z=some o)->C' D=none->Q (.ref D) m (upd C' D (listOf #[v] k))) :
  W S A Qg L E (call (.builtin "sorted") [x] [("key",.ref f)]) m C Q:=kQ (vs:=[v]) (show 1≤6 by decide) gz λE F s D tD cD Qk=>by
 refine bE (Qk.hidOpen tD) λlL tb dj n0 n1 di=>?_;refine bF (bR.pick (di.unhide n1) (af _ _ _)) λl N Je mQ=>?_
 have Aq:=di.r.N D _ (aT di.d (af _ D _));refine xb (news:=l) (v:=v) di.fr (λp hp=>N p (.tail _ hp)) Aq.1 Aq.2.1 Aq.2.2 Je (λkS e1 h' F' N' lk LI=>?_);have Ap:D≠kS:=Nat.ne_of_lt lk;refine aS (Rel.keyed di tb dj tD n0 (λb x e q=>mQ b x (by rw [bJ]; exact ae (ag _ _ q) e) q) lk LI F' N') λfk Un=>?_;have nK:∀ {o},upd F D o kS=none:=λ{o}=>(ag _ _ (Ne.symm Ap)).trans fk
 refine KatKeys.cons (key C _ _ _ (λz9 z8 e=>e) Un λk C' s' hC R'=>?_);refine cL (R'.upFin nK) λnews g F4 N4 U kk=>?_;refine ⟨news,g,F4,N4,U,λh5 c F5 N5=>KatKeys.nil ?_⟩
 refine cL ((kk h5 _ F5 N5).upFin nK) λnews g F4 N4 U k3=>?_;refine KatFin.intro F4 N4 U λh5 c F5 N5=>?_
 have R5:=k3 h5 _ F5 N5;rw [iR Ap] at R5;refine cL (R5.upFin ((ag _ _ Ap).trans tD)) λLA g2 F6 N6 U2 k2=>?_;refine KasFin.intro F6 N6 U2 λh7 c2 F7 N7=>?_
 have R7:=k2 h7 _ F7 N7;have Dv:=R7.own ((ag _ _ Ap).trans tD);refine ⟨rfl,m,_,?_,fin D c2 C' hC Dv⟩;exact (R7.unhide ((ag _ _ Ap).trans tD)).hid_drop (h':=h7) fk λz9 z8 z7 e=>e
end
theorem qT:∀ (p:List Value) (y:Value),kl_last (p++[y])=some (p,y)
 | [],y=>rfl
 | x::p,y=>by
  have ih:=qT p y;cases p with
  | nil=>rfl
  | cons z p=>simp only [List.cons_append] at ih ⊢; unfold kl_last; rw [ih]
section
variable {S:Setup}{A:Around}{Qg:Heap}{L:Addr}{E:Value->Shared->Prop}{m:Loc}{C F T:Led}{env:Env}{n:Nat}
theorem qK {l:Addr}{p:List Value}{y:Value}{k:Nat}{Q:Value->Loc->Led->Prop} (hl:C l=some (listOf (p++[y]).toArray k)) (hz:p.length≤1000) (h:Q y m (upd C l (listOf p.toArray (k+1)))):W S A Qg L E (call (.builtin "list.pop") [.ref l]) m C Q:=.mk λF s R=>by
 refine bF (R.pick hl) λls N a mQ=>?_;exact kl_pop R.fr N (qT p y) (Upd.head a) (by refine ae List.length_append (ae List.length_singleton (ae sizeLine_eq ?_)); exact Nat.lt_of_le_of_lt hz (Nat.le_add_left (Nat.succ 1000) 16776215)) λh' F' N'=>⟨m,_,R.of_pick (tk:=s.toks) hl mQ F' N',h⟩
theorem xW {test:Expr}{body orelse:List Stmt}{pos:Pos}{Q:Flow->Loc->Led->Prop} (I:Nat->Loc->Led->Prop) (k:Nat) (start:I k m C)
  (turn:∀ E j m C,I j m C->∀ J,wb (λm C=>∃ j',j' < j∧I j' m C) J->W S A Qg L E (isTrue test env (eval test env)) m C (λb m C=>if b then W S A Qg L E (execs body env) m C (LQ J Q) else W S A Qg L E (execs orelse env) m C Q)):W S A Qg L E (exec (.While test body orelse pos) env) m C Q:=.mk2 λF s R=>by
 refine wpAny_While (codeAny_whileLoop (λn s=>∃ m C,Rel S Qg L m C F s∧I n m C) (λn s hk=>?_) k ⟨m,C,R,start⟩);refine bg hk λm C R hi=>?_; clear hk
 refine (turn _ n m C hi _ (wb.refl _)).run R λb m' C' s' R' q=>?_;cases b with
 | true =>
  rw [if_pos rfl] at q ⊢;refine q.run R' λf hM cf fK dR q'=>?_;cases f with
  | next=>obtain ⟨j',hj,q'⟩:=q'; exact ⟨j',hj,hM,cf,dR,q'⟩
  | cont=>obtain ⟨j',hj,q'⟩:=q'; exact ⟨j',hj,hM,cf,dR,q'⟩
  | brk=>exact ⟨hM,cf,dR,q'⟩
  | ret v=>exact ⟨hM,cf,dR,q'⟩
 | false =>
  rw [if_neg (by decide)] at q ⊢;exact q.run R' λf hM cf fK dR q'=>⟨hM,cf,dR,q'⟩
theorem Lp {name qual:Str}{params:Arguments}{body:List Stmt}{scope:Scope}{clos:List (Str×Addr)}{GA:Pos}{rest:List Stmt}{P c bm:Addr}{Q:Flow->Loc->Led->Prop} (G:Gd S n A Qg L env) (hP:S.tb P=true) (Ng:S.cd P=none) (hq:S.tq GA.line GA.col=qual) (pD:env.code=.ref c) (iJ:codeHdIn S.K c P=true)
  (JG:nsIn S.K mainGlobals "__builtins__"=some (some (.ref bm))) (JF:bm≠builtinsNs) (Ni:bm≠mainGlobals) (AY:∃ sl,S.K.lookup bm=some ⟨.type "module",some builtinsNs,.plain,sl⟩)
  (pX:params.defaults=[]) (nN:params.kw_defaults=[]) (ha:annTrees params none env=[]) (Al:closureFor scope env=Pure.pure clos) (CL:qualnameIn env name name=qual) (hloc:env.kindOf name=some .local)
  (h:∀ f c' oc pm hU doc,C f=none->vV oc qual->W (S.withCode c' oc) A Qg L E (execs rest env) (p9 m name (.ref f)) (upd C f (fnMade name qual params body scope clos doc pm c' hU)) Q) :
  W S A Qg L E (execs (.FunctionDef name params body [] none [] scope none name GA::rest) env) m C Q:=.mk2 λF s R=>by
 refine wpAny_execs_cons (nestDef_K pX nN ha ?_);refine ae CL ?_;refine u7 (pos:=GA) (ob:=λcv hU doc=>{ cls:=.type "function",data:=.func (fnX name qual params body scope clos .none .none doc ((S.mg "__name__").getD .none) none cv hU) }) G hP Ng hq iJ JG JF Ni AY (λz9 z8 z7=>rfl) (λps hg C hp ht Ec M5 hb k=>?_) (λps cv hg C hp ht hf hb k=>?_) R λf c' oc hU doc s' hf xy ho R'=>?_
 ·exact makeFunction_K Al G.hgl hg pD C hp ht Ec M5 hb k
 ·exact makeFunction_hit Al G.hgl hg pD C hp ht hf hb k
 ·refine (gL (E:=E) (A:=A) (Q:=λz9 m' C'=>m'=p9 m name (.ref f)∧C'=_) (G.withCode (c:=c') (o:=oc)) ⟨rfl,rfl⟩ hloc).run R' λz9 m' C' fK dR q=>?_;refine aS q λak aZ=>?_; clear q; subst ak; subst aZ
  exact wpAny_mono ((h f c' oc _ hU doc hf ho).go F fK dR) (λv s3 ⟨m',C',R3,q⟩=>⟨m',C',R3.less xy,q⟩) λz9 z8 x=>x
end
noncomputable def Sg (M:Model) (A:Around) (R:Result->Shared->Prop) (Y:Value->Shared->(Resume->Sem PySem.Fin)->Code->List Frame->Prop) (c:Code) (t:Sem PySem.Fin) (fs:List Frame) (s:Shared):Prop :=
 ∀ Γ p,Γ.code=c->Γ.Woken A->∃ e s',Runs M Γ p t fs s e s'∧(match e with
  | .ret r=>R r s'
  | .susp v g l k c p fs=>(End.susp v g l k c p fs).quiet=true∧Y v s' k c fs)
section
variable {M:Model}{A:Around}{R:Result->Shared->Prop}{Y:Value->Shared->(Resume->Sem PySem.Fin)->Code->List Frame->Prop}{c:Code}{fs:List Frame}{s:Shared}
theorem Sg.mono {R':Result->Shared->Prop}{Y':Value->Shared->(Resume->Sem PySem.Fin)->Code->List Frame->Prop}{t:Sem PySem.Fin} (h:Sg M A R Y c t fs s) (hR:∀ r s',R r s'->R' r s') (hY:∀ v s' k c fs,Y v s' k c fs->Y' v s' k c fs):Sg M A R' Y' c t fs s:=λΓ p a b=>by
 refine bg (h Γ p a b) λe s' hr he=>?_;refine ⟨e,s',hr,?_⟩
 cases e with
 | ret r=>exact hR _ _ he
 | susp v g l k c p fs=>exact ⟨he.1,hY _ _ _ _ _ he.2⟩
theorem nE {α:Type}{m:Sem α}{K:α->Sem PySem.Fin}{H:Value->Sem PySem.Fin}{gd lv}
  (h:wpAny M (A.over c fs) m (λa s'=>Sg M A R Y c (K a) fs s') (λx s'=>Sg M A R Y c (H x) fs s') s):Sg M A R Y c (m.wrap K H gd lv) fs s:=by
 rintro Γ p rfl qt;exact runs_wrap_of_wp K H gd lv m (h (Γ.over fs) p (qt.over fs)) (λa p' s' h'=>h' Γ p' rfl qt) (λx p' s' h'=>h' Γ p' rfl qt)
theorem bW {α β:Type}{m:Sem α}{K:α->Sem β}{K':β->Sem PySem.Fin}{H':Value->Sem PySem.Fin}{gd lv}
  (h:wpAny M (A.over c fs) m (λa s'=>Sg M A R Y c ((K a).wrap K' H' gd lv) fs s') (λx s'=>Sg M A R Y c (H' x) fs s') s):Sg M A R Y c ((m >>= K).wrap K' H' gd lv) fs s:=by
 refine ae (Sem.bind_eq_wrap' _ _) ?_; rw [Sem.wrap_wrap]; exact nE h
theorem GL {p':Pos}{k:Unit->Sem PySem.Fin} (h:Sg M A R Y c (k ()) fs s):Sg M A R Y c (.at p' k) fs s :=
 nE (m:=standAt p') (K:=k) (H:=.raise) (gd:=id) (lv:=id) (wpAny_standAt h)
theorem Bh {l:List Value}{k:Unit->Sem PySem.Fin} (h:Sg M A R Y c (k ()) fs s):Sg M A R Y c (.point l k) fs s :=
 nE (m:=point) (K:=k) (H:=.raise) (gd:=id) (lv:=λz9=>l) (wpAny_point h)
theorem EH {c':Code}{h g l}{k:Result->Sem PySem.Fin} (hc:∀ p,Sg M A R Y c' (M.den c') (.ret k h g l c p []::fs) s):Sg M A R Y c (.call c' h g l k) fs s:=by
 rintro Γ p rfl qt;refine bg (hc p (Γ.goto c') p rfl (qt.goto c')) λe s' hr he=>?_;exact ⟨e,s',runs_call_seg hr,he⟩
theorem EF {k h g l c₁ Lr kp} (r:Result) (hk:Sg M A R Y c₁ (k r) fs s):Sg M A R Y c (leafOf r) (.ret k h g l c₁ Lr kp::fs) s:=by
 rintro Γ p rfl qt;refine bg (hk (Γ.goto c₁) Lr rfl (qt.goto c₁)) λe s' hr he=>?_;exact ⟨e,s',Runs.pop r hr,he⟩
theorem n7 {c':Code} (hq:c'.quiet=true) (hc:Sg M A R Y c' (M.den c') fs s):Sg M A R Y c (.pure (.again c')) fs s:=by
 rintro Γ p rfl qt;refine bg (hc (Γ.goto c') p rfl (qt.goto c')) λe s' hr he=>?_;exact ⟨e,s',Runs.head (c₁:=c') (λz9 z8 x=>.again hq x) hr,he⟩
theorem HS (r:Result) (h:R r s):Sg M A R Y c (leafOf r) [] s:=by
 rintro Γ p rfl _;exact ⟨.ret r,s,Runs.leaf r,h⟩
theorem Bg {v g l}{k:Resume->Sem PySem.Fin} (ui:splitAtGen fs=none) (hg:g=false) (SI:fs.any Frame.guarded=false) (h:Y v s k c fs):Sg M A R Y c (.yield v g l k) fs s:=by
 rintro Γ p rfl _;exact ⟨_,s,Runs.yield' fs ui,And.intro (by simp [End.quiet,hg,SI]) h⟩
end
section
variable {M:Model}{A:Around}{R:Result->Shared->Prop}{Y:Value->Shared->(Resume->Sem PySem.Fin)->Code->List Frame->Prop}{c:Code}{fs:List Frame}{s:Shared}{env:Env}{K:Flow->Sem PySem.Fin}{H:Value->Sem PySem.Fin}{gd:Bool->Bool}{lv:List Value->List Value}
theorem gK {st:Stmt}{rest:List Stmt} (h:Sg M A R Y c ((exec st env).wrap (λf=>match f with | .next=>(execs rest env).wrap K H gd lv | f=>K f) H gd lv) fs s):Sg M A R Y c ((execs (st::rest) env).wrap K H gd lv) fs s:=by
 exact ae (execs_cons_wrap _ _) h
theorem Bi {e:Expr}{HK pos:Pos} (ui:splitAtGen fs=none) (Kv:gd false=false) (SI:fs.any Frame.guarded=false)
  (h:wpAny M (A.over c fs) (eval e env) (λv s'=>∀ k:Resume->Sem PySem.Fin,(∀ R' Y' fK,Sg M A R' Y' c (K .next) fs fK->Sg M A R' Y' c (k (.send .none)) fs fK)->Y v s' k c fs) (λx s'=>Sg M A R Y c (H x) fs s') s)
  (rh:env.scope.isCoroutine=false) (hi:interactive env=false):Sg M A R Y c ((exec (.Expr (.Yield (some e) HK) pos) env).wrap K H gd lv) fs s:=by
 refine ae (exec_Expr env _ pos hi rfl) ?_;show Sg M A R Y c (.at pos λz9=>((eval e env >>= λv=>(standAt HK >>= λz9=>yieldOut env v)) >>= λx=>dropValue (.Yield (some e) HK) pos x).wrap K H gd lv) fs s;have hy:∀ v,yieldOut env v=yieldValue v:=λv=>by simp only [yieldOut,rh,Bool.false_eq_true,if_false]
 simp only [hy];refine GL ?_;refine ae (Sem.bind_eq_wrap' _ _) (ae (Sem.bind_eq_wrap' _ _) ?_); rw [Sem.wrap_wrap,Sem.wrap_wrap];refine nE (wpAny_mono h (λv s' h'=>?_) λz9 z8 x=>x);refine GL (Bg ui Kv SI ?_);exact h' _ λR' Y' fK hs=>hs
end
section
variable {prog:Program}{w:World}{A:Around}{R:Result->Shared->Prop}{Y:Value->Shared->(Resume->Sem PySem.Fin)->Code->List Frame->Prop}{fs:List Frame}{s:Shared}{env:Env}
theorem EG {body:List Stmt}
  (h:Sg (model prog w) A R Y (.func body env) ((execs body env).wrap (λf=>.pure (.done (.ret (match f with | .ret v=>v | _=>.none)))) (λe=>(leaving env e).wrap (λz9=>.raise e) .raise id id) id id) fs s) :
  Sg (model prog w) A R Y (.func body env) ((model prog w).den (.func body env)) fs s:=by
 show Sg _ A R Y _ (.point [] λz9=>((execs body env).onRaise (leaving env)) >>= _) fs s;refine Bh ?_;refine ae (Sem.onRaise_eq_wrap _ _) (ae (Sem.bind_eq_wrap' _ _) ?_); rw [Sem.wrap_wrap];rw [Sem.wrap_congr (execs body env) _ _ (K':=λf=>.pure (.done (.ret (match f with | .ret v=>v | _=>.none)))) (H':=λe=>(leaving env e).wrap (λz9=>.raise e) .raise id id) (λf=>by cases f <;> rfl)
  (λe=>by refine ae (Sem.bind_eq_wrap _ _) ?_; rw [Sem.wrap_wrap]; rfl)]
 exact h
end
section
variable {M:Model}{A:Around}{R:Result->Shared->Prop}{Y:Value->Shared->(Resume->Sem PySem.Fin)->Code->List Frame->Prop}{c:Code}{fs:List Frame}{s:Shared}{env:Env}
 {K:Flow->Sem PySem.Fin}{H:Value->Sem PySem.Fin}{gd:Bool->Bool}{lv:List Value->List Value}
noncomputable def gW (K:Flow->Sem PySem.Fin) (H:Value->Sem PySem.Fin) (gd:Bool->Bool) (lv:List Value->List Value) (env:Env) (c:Code) (p:Pos):Frame :=
 .ret (λr=>((match r with | .ok f=>(.pure f:Sem Flow) | .error e=>.raise e).onRaise λ(x:Value)=>do
    if (← field x 1) == Value.none then unsupported "frame.own-activation:exception-without-traceback"
    setFlight x env.frame).wrap K H gd lv) none (gd false) (lv []) c p []
theorem K6 {test:Expr}{body orelse:List Stmt}{pos:Pos}
  (h:wpAny M (A.over c fs) (isTrue test env (eval test env)) (λb s'=>if b=true then Sg M A R Y c ((execs body env).wrap K H gd lv) fs s' else Sg M A R Y c ((execs orelse env).wrap K H gd lv) fs s') (λx s'=>Sg M A R Y c (H x) fs s') s) :
  Sg M A R Y c ((exec (.If test body orelse pos) env).wrap K H gd lv) fs s:=by
 rw [exec_If];refine bW (wpAny_standAt (?_:Sg M A R Y c (Sem.wrap K H gd lv (isTrue test env (eval test env) >>= λb=>if b=true then execs body env else execs orelse env)) fs s));refine bW (wpAny_mono h (λb s' hb=>?_) λz9 z8 x=>x);cases b
 ·rw [if_neg (by decide)] at hb ⊢; exact hb
 ·rw [if_pos rfl] at hb ⊢; exact hb
theorem HT {target iter:Expr}{body orelse:List Stmt}{pos:Pos} (hs:∀ x,foldedSetIterable iter env x=Pure.pure x)
  (h:wpAny M (A.over c fs) (eval iter env) (λx aC=>wpAny M (A.over c fs) (pyIter x) (λit cG=>∀ p,Sg M A R Y (.forLoop target it body orelse env) (M.den (.forLoop target it body orelse env)) (gW K H gd lv env c p::fs) cG)
   (λx s'=>Sg M A R Y c (H x) fs s') aC) (λx s'=>Sg M A R Y c (H x) fs s') s) :
  Sg M A R Y c ((exec (.For target iter body orelse pos) env).wrap K H gd lv) fs s:=by
 rw [exec_For];refine bW (wpAny_standAt ?_);refine bW (wpAny_mono h (λx aC ek=>?_) λz9 z8 x=>x);refine bW (wpAny_of_eq (hs x) ?_);refine bW (wpAny_standAt ?_);refine bW (wpAny_holding (wpAny_mono ek (λit cG nq=>?_) λz9 z8 x=>x));exact EH nq
end
section
variable {prog:Program}{w:World}{A:Around}{R:Result->Shared->Prop}{Y:Value->Shared->(Resume->Sem PySem.Fin)->Code->List Frame->Prop}{fs:List Frame}{s:Shared}{env:Env}
noncomputable def KV (c:Code) (f:Flow):Sem PySem.Fin:=match f with
 | .next | .cont=>.pure (.again c)
 | .brk=>.pure (.done .next)
 | .ret v=>.pure (.done (.ret v))
noncomputable def KW (env:Env) (e:Value):Sem PySem.Fin:=(do noteFrame e env; theTreesLotGoes e:Sem Unit).bind λz9=>.raise e
theorem nZ {target:Expr}{it:Value}{body orelse:List Stmt}
  (h:wpAny (model prog w) (A.over (.forLoop target it body orelse env) fs) (pyNext it) (λr aC=>match r with
   | none=>Sg (model prog w) A R Y (.block orelse env) ((model prog w).den (.block orelse env)) fs aC
   | some v=>wpAny (model prog w) (A.over (.forLoop target it body orelse env) fs) (letOwnedTupleGo target it v) (λz9 cG=>wpAny (model prog w) (A.over (.forLoop target it body orelse env) fs) (assign target env v)
     (λz9 kM=>Sg (model prog w) A R Y (.forLoop target it body orelse env) ((execs body env).wrap (KV (.forLoop target it body orelse env)) (KW env) id id) fs kM) (λz9 z8=>False) cG) (λz9 z8=>False) aC) (λz9 z8=>False) s) :
  Sg (model prog w) A R Y (.forLoop target it body orelse env) ((model prog w).den (.forLoop target it body orelse env)) fs s:=by
 show Sg _ A R Y _ ((forTurn target it body orelse env).onRaise (λx=>do noteFrame x env; theTreesLotGoes x)) fs s;refine ae (Sem.onRaise_eq_wrap _ _) ?_;unfold forTurn;refine bW (wpAny_standAt ?_);refine bW (wpAny_onRaise (wpAny_mono h (λr aC ek=>?_) λz9 z8 x=>x.elim));cases r with
 | none=>exact n7 rfl ek
 | some v =>
  refine bW (wpAny_mono ek (λz9 cG nq=>?_) λz9 z8 x=>x.elim);refine bW (wpAny_mono nq (λz9 kM jF=>?_) λz9 z8 x=>x.elim);refine ae (Sem.bind_eq_wrap' _ _) ?_; rw [Sem.wrap_wrap];refine Eq.mp (congrArg (λt=>Sg (model prog w) A R Y (.forLoop target it body orelse env) t fs kM) (Sem.wrap_congr (execs body env) id id (λf=>?_) (λe=>?_))).symm jF
  ·cases f <;> rfl
  ·rfl
theorem rM (h:Sg (model prog w) A R Y (.block [] env) (.pure (.done .next)) fs s):Sg (model prog w) A R Y (.block [] env) ((model prog w).den (.block [] env)) fs s:=h
end
noncomputable abbrev Setup.quiet (S:Setup) (s:Shared):Setup:={ S with os:=s.os,dr:=s.drawn,gn:=λg=>g=s.gens,tb:=λz9=>false,cd:=λz9=>none }
inductive Ready (S:Setup) (Lg:Addr) (Cg:Led) (m:Loc) (s:Shared):Prop
 | mk:∀ hg:Heap,S.K.In hg->TopRead S.p S.loose S.mg S.mb hg->hg.objs.size≤Lg->(∀ b o,hg.get? b=some o->s.heap.get? b=some o)->(∀ a o,Cg a=some o->s.heap.get? a=some o∧a≠Lg∧hg.get? a=none)->s.heap.Ns Lg m->Ready S Lg Cg m s
structure lN (Lg I:Addr) (bD s:Shared):Prop where
 k:∀ b o,b≠Lg->b≠I->bD.heap.get? b=some o->s.heap.get? b=some o
 g:s.gens=bD.gens
 o:s.os=bD.os
 d:s.drawn=bD.drawn
theorem lN.trans {Lg I:Addr}{a b c:Shared} (h:lN Lg I a b) (h':lN Lg I b c):lN Lg I a c:=⟨λz o h1 h2 e=>h'.k z o h1 h2 (h.k z o h1 h2 e),h'.g.trans h.g,h'.o.trans h.o,h'.d.trans h.d⟩
inductive mA (S:Setup) (Lg:Addr) (Cg:Led) (m:Loc) (hg:Heap) (F:Led) (bD s:Shared) (C:Led):Prop
 | mk:S.K.In hg->TopRead S.p S.loose S.mg S.mb hg->Rel (S.quiet bD) hg Lg m C F s->(∀ b o,hg.get? b=some o->bD.heap.get? b=some o)->(∀ b o,b≠Lg->Cg b=none->hg.get? b=none->bD.heap.get? b=some o->F b=some o)->mA S Lg Cg m hg F bD s C
section
variable {S:Setup}{Lg:Addr}{Cg:Led}{m:Loc}{s:Shared}
theorem Ready.inside (h:Ready S Lg Cg m s):∃ hg F,mA S Lg Cg m hg F s s Cg:=by
 obtain ⟨hg,X,T,hz,hk,hC,hn⟩:=h;refine ⟨hg,λb=>if b=Lg∨Cg b≠none∨hg.get? b≠none then none else s.heap.get? b,X,T,⟨λz9=>none,⟨(λa q=>by exact mi q),(λa o q=>by exact iO q)⟩,λz9=>.inr rfl,⟨⟨⟨hn,hk,hz⟩,λa o e=>?_,rfl,rfl,rfl⟩,λa=>?_⟩⟩,hk,λb o h1 h2 h3 e=>?_⟩
 ·unfold join at e;cases q:Cg a with
  | some x=>rw [q] at e; replace e:=Option.some.inj e; replace e:=Eq.symm e; subst e; exact hC _ _ q
  | none =>
   rw [q] at e;by_cases w:a=Lg∨Cg a≠none∨hg.get? a≠none
   ·simp only [if_pos w] at e; exact iO e
   ·simp only [if_neg w] at e;have e:s.heap.get? a=some o:=by
     cases z:s.heap.get? a with
     | none=>rw [z] at e; exact iO e
     | some y=>rw [z] at e; exact e
    refine ⟨e,λz=>w (.inl z),?_⟩;cases z:hg.get? a with
    | none=>rfl
    | some y=>exact absurd (.inr (.inr (by rw [z]; intro q; exact uy q))) w
 ·by_cases q:Cg a=none
  ·exact .inl q
  ·refine .inr ?_;unfold join;show Option.or (if a=Lg∨Cg a≠none∨hg.get? a≠none then none else s.heap.get? a) none=none;refine ae (if_pos (Or.inr (Or.inl q))) ?_; rfl
 ·show (if b=Lg∨Cg b≠none∨hg.get? b≠none then none else s.heap.get? b)=some o;rw [if_neg]
  ·exact e
  ·rintro (w | w | w)
   ·exact h1 w
   ·exact w h2
   ·exact w h3
theorem mA.since {hg:Heap}{F C:Led}{bD:Shared}{I:Addr} (h:mA S Lg Cg m hg F bD s C) (hC:∀ a o,a≠I->Cg a=some o->C a=some o) (h0:∀ a o,a≠I->Cg a=some o->bD.heap.get? a=some o):lN Lg I bD s:=by
 obtain ⟨X,T,⟨lL,tb,dj,r⟩,hk,hF⟩:=h;refine ⟨λb o h1 h2 e=>?_,r.r.g,r.r.o.1,r.r.o.2⟩;cases q:Cg b with
 | some x =>
  have:=h0 b x h2 q;rw [e] at this;replace this:=Option.some.inj this; subst this;exact (r.r.N b o (aI (hC b o h2 q))).1
 | none =>
  cases z:hg.get? b with
  | some y =>
   have e1:=hk b y z;rw [e] at e1;replace e1:=Option.some.inj e1; subst e1;exact r.r.F.keep b o z
  | none=>exact (r.r.N b o (aT r.d (aI (hF b o h1 q z e)))).1
end
theorem qO {Ag:Around}{t:Expr}{it:Value}{b o B:List Stmt}{e env env':Env}{K:Flow->Sem PySem.Fin}{H:Value->Sem PySem.Fin}{gd:Bool->Bool}{lv:List Value->List Value}{p:Pos} (hh:Ag.handled=none) :
  (Ag.over (.forLoop t it b o e) [gW K H gd lv env (.func B env') p]).handled=none∧(Ag.over (.forLoop t it b o e) [gW K H gd lv env (.func B env') p]).depth≤Ag.depth+3∧(Ag.over (.forLoop t it b o e) [gW K H gd lv env (.func B env') p]).units≤Ag.units+8:=by
 refine ⟨?_,?_,?_⟩
 ·show (marksOver [gW K H gd lv env (.func B env') p] (Ag.handled,Ag.handled)).1=none;refine ae hh ?_; rfl
 ·show Ag.depth+frameCount [((.func B env':Code),p)]+(Code.forLoop t it b o e).weight≤_;have h1:frameCount [((.func B env':Code),p)]=1:=rfl;have h2:(Code.forLoop t it b o e).weight=0:=rfl;exact Nat.le_of_lt (Nat.le_of_lt (Nat.le_refl (Ag.depth+frameCount [(Code.func B env',p)]+(Code.forLoop t it b o e).weight).succ.succ))
 ·show Ag.units+unitsOf [((.func B env':Code),p)]+(Code.forLoop t it b o e).cUnits≤_;have h1:unitsOf [((.func B env':Code),p)]=3:=rfl;have h2:(Code.forLoop t it b o e).cUnits=0:=rfl;exact Qd λq=>Ql (Qa (Qc h1) (Qa (Qc h2) q))
theorem zu {Ag:Around}{B:List Stmt}{env:Env} (hh:Ag.handled=none):(Ag.over (.func B env) []).handled=none∧(Ag.over (.func B env) []).depth≤Ag.depth+3∧(Ag.over (.func B env) []).units≤Ag.units+8:=by
 refine ⟨hh,?_,?_⟩
 ·show Ag.depth+frameCount []+(Code.func B env).weight≤_;have h1:frameCount []=0:=rfl;have h2:(Code.func B env).weight=1:=rfl;exact Nat.le_of_lt (Nat.le_of_lt (Nat.le_refl (Ag.depth+frameCount []+(Code.func B env).weight).succ.succ))
 ·show Ag.units+unitsOf []+(Code.func B env).cUnits≤_;have h1:unitsOf []=0:=rfl;have h2:(Code.func B env).cUnits=3:=rfl;exact Qd λq=>Ql (Qa (Qc h1) (Qa (Qc h2) q))
noncomputable def DW (o:Obj) (l:Addr) (i:Nat):Prop:=o.cls=.type "list_iterator"∧o.data=.fields #[.ref l,.int i 0]
noncomputable def Gs (Lg I:Addr) (n:Nat) (bD:Shared):Result->Shared->Prop:=λr s'=>n=0∧r=.ok (.ret .none)∧lN Lg I bD s'∧∃ m',s'.heap.Ns Lg m'∧m' ("begin":Str)=none
noncomputable def Gr (S:Setup) (Ag:Around) (Lg l:Addr) (Cg:Led) (vs:List Value) (tr:Nat->Bool) (I:Addr):Nat->Shared->Value->Shared->(Resume->Sem PySem.Fin)->Code->List Frame->Prop
 | 0=>λz9 z8 z7 z6 zA zB=>False
 | n+1=>λbD v s' k c fs=>∃ i o,i < vs.length∧tr i=true∧vs[i]?=some v∧(passing tr vs.length (i+1)).length=n∧lN Lg I bD s'∧DW o l (i+1)∧s'.heap.get? I=some o∧(∃ m',s'.heap.Ns Lg m'∧m' ("begin":Str)=none) ∧
   ∀ fK hM,hM ("begin":Str)=none->Ready S Lg (upd Cg I o) hM fK->Sg (model S.prog S.w) Ag (Gs Lg I n fK) (Gr S Ag Lg l Cg vs tr I n fK) c (k (.send .none)) fs fK
section
variable {S:Setup}{Lg l I:Addr}{Cg:Led}{vs:List Value}{tr:Nat->Bool}{env:Env}{x:Str}{px xp yp ep ip:Pos}{test:Expr}{Ag:Around}{ng:Nat}{c0:Code}{B:List Stmt}{K:Flow->Sem PySem.Fin}{H:Value->Sem PySem.Fin}{gd:Bool->Bool}{lv:List Value->List Value}{env':Env}{p:Pos}
theorem Dz (hh:Ag.handled=none) (hK:K .next=.pure (.done (.ret .none))) (Kv:gd false=false) (hx:env.kindOf x=some .local) (Dh:(x == ("__debug__":Str))=false) (Km:("begin":Str)≠x) (rh:env.scope.isCoroutine=false) (hint:interactive env=false)
  (hI:Cg I=none) (Hx:I≠Lg) (hl:cN Cg l vs) (hz:vs.length≤1000)
  (hG:∀ A' s hg,A'.handled=none->A'.depth≤Ag.depth+3->A'.units≤Ag.units+8->S.K.In hg->TopRead S.p S.loose S.mg S.mb hg->Gd (S.quiet s) ng A' hg Lg env)
  (vw:∀ i v bD A' hg E m C,Gd (S.quiet bD) ng A' hg Lg env->vs[i]?=some v->m x=some v->(∀ a o,Cg a=some o->C a=some o)->W (S.quiet bD) A' hg Lg E (isTrue test env (eval test env)) m C (λb m' C'=>b=tr i∧m'=m∧C'=C)) :
  ∀ (k r:Nat) (bD s:Shared) (m:Loc) (hg:Heap) (F:Led) (wO o:Obj),vs.length - r=k->r≤vs.length->DW o l r->mA S Lg (upd Cg I wO) m hg F bD s (upd Cg I o)->(∀ a o,Cg a=some o->bD.heap.get? a=some o)->m ("begin":Str)=none →
   Sg (model S.prog S.w) Ag (Gs Lg I (passing tr vs.length r).length bD) (Gr S Ag Lg l Cg vs tr I (passing tr vs.length r).length bD) (.forLoop (.Name x px) (.ref I) [.If test [.Expr (.Yield (some (.Name x xp)) yp) ep] [] ip] [] env)
    ((model S.prog S.w).den (.forLoop (.Name x px) (.ref I) [.If test [.Expr (.Yield (some (.Name x xp)) yp) ep] [] ip] [] env)) [gW K H gd lv env' (.func B env) p] s:=by
 intro k;induction k with
 | zero =>
  intro r bD s m hg F wO o hk hr ho ins h0 FV;have e:r=vs.length:=Nat.le_antisymm hr (Nat.le_of_sub_eq_zero hk);refine bw (qO (Ag:=Ag) (t:=.Name x px) (it:=.ref I) (b:=[.If test [.Expr (.Yield (some (.Name x xp)) yp) ep] [] ip]) (o:=[]) (e:=env) (B:=B) (env:=env') (env':=env) (K:=K) (H:=H) (gd:=gd) (lv:=lv) (p:=p) hh) λa1 a2 a3=>?_;obtain ⟨X,T,R,iP,hF⟩:=id ins
  refine nZ ?_;have Jk:cN (upd Cg I o) l vs:=hl.imp λk e=>(ag _ _ λq=>by rw [q] at e; exact bo hI e).trans e
  refine wpAny_pyNext_list_end a1 (i:=r) ⟨o,R.get (af _ _ _),ho.1,ho.2⟩ (R.isList Jk) (by refine ae List.getElem?_toArray ?_; exact List.getElem?_eq_none (Qc (Eq.symm e))) λh' hs=>?_;refine rM (EF (.ok .next) ?_)
  show Sg _ _ _ _ _ (K .next) [] _;refine ae hK ?_;refine HS (.ok (.ret .none)) ⟨by refine ae e (ae (passing_end _ _) ?_); rfl,rfl,(ins.since (λa x q e=>?_) (λa x q e=>?_)).trans ⟨λb x h1 h2 e=>hs b x h2 e,rfl,rfl,rfl⟩,m,?_,FV⟩
  ·rw [ag _ _ q] at e ⊢; exact e
  ·rw [ag _ _ q] at e; exact h0 a x e
  ·refine cz R.fr.ns λoL es ep e1 r1=>?_;exact ⟨oL,es,ep,hs _ _ (Ne.symm Hx) e1,r1⟩
 | succ k ih =>
  intro r bD s m hg F wO o hk hr ho ins h0 FV;have gk:r < vs.length:=Nat.lt_of_sub_pos (hk▸Nat.succ_pos _);refine aQ (⟨_,List.getElem?_eq_getElem gk⟩:∃ v,vs[r]?=some v) λv hv=>?_;refine bw (qO (Ag:=Ag) (t:=.Name x px) (it:=.ref I) (b:=[.If test [.Expr (.Yield (some (.Name x xp)) yp) ep] [] ip]) (o:=[]) (e:=env) (B:=B) (env:=env') (env':=env) (K:=K) (H:=H) (gd:=gd) (lv:=lv) (p:=p) hh) λa1 a2 a3=>?_
  obtain ⟨X,T,R,iP,hF⟩:=id ins;have G:=hG _ bD hg a1 a2 a3 X T;have hpn:(passing tr vs.length r).length=(passing tr vs.length (r+1)).length+(if tr r=true then 1 else 0):=by
   cases Oj:tr r with
   | true=>rw [passing_true gk Oj]; rfl
   | false=>rw [passing_false gk Oj]; rfl
  refine ae hpn ?_;refine nZ ?_;have Jk:∀ o,cN (upd Cg I o) l vs:=λo=>hl.imp λk e=>(ag _ _ λq=>by rw [q] at e; exact bo hI e).trans e
  have aX:∀ o a x,Cg a=some x->upd Cg I o a=some x:=λo=>aB hI
  refine wpAny_pyNext_list_item (i:=r) ⟨o,R.get (af _ _ _),ho.1,ho.2⟩ (R.isList (Jk o)) (by refine ae List.getElem?_toArray ?_; exact hv) λh' md hs=>?_;have OS:=R.free
  refine bF md λo' ph An gy=>?_;have R1:=((R.hideAt hI).hid_change OS hs ph).unhide OS
  refine gM md ?_;refine (aW (pos:=px) (gL (E:=λz9 z8=>False) (Q:=λz9 m' C'=>m'=p9 m x v∧C'=upd Cg I o') G ⟨rfl,rfl⟩ hx)).run R1 λz9 m' C' s2 R2 q=>?_;refine aS q λak aZ=>?_; clear q; subst ak; subst aZ
  have Kr:p9 m x v x=some v:=if_pos rfl;have MJ:p9 m x v ("begin":Str)=none:=(if_neg Km).trans FV;have since:∀ {s':Shared}{m':Loc},Rel (S.quiet bD) hg Lg m' (upd Cg I o') F s'->lN Lg I bD s':=λR'=>mA.since (Cg:=upd Cg I wO) (C:=upd Cg I o') ⟨X,T,R',iP,hF⟩ (λa x q e=>by rw [ag _ _ q] at e ⊢; exact e) (λa x q e=>by rw [ag _ _ q] at e; exact h0 a x e)
  refine gK (K6 ?_);refine (vw r v bD _ hg _ _ _ G hv Kr (aX o')).run R2 λb m' C' s3 R3 q=>?_;refine bw q λak aZ gw=>?_; clear q; subst ak; subst aZ; subst gw
  have vz:DW o' l (r+1):=⟨An,gy⟩;cases Oj:tr r with
  | true =>
   refine ae (if_pos rfl) (ae (if_pos rfl) ?_);refine gK (Bi rfl rfl (by show (gd false || false)=false; refine ae Kv ?_; rfl) ?_ rh hint);refine (cy (E:=λz9 z8=>False) (pos:=xp) (Q:=λv' m' C'=>v'=v∧m'=p9 m x v∧C'=upd Cg I o') G Kr ⟨rfl,rfl,rfl⟩ hx Dh) |>.run R3 (λv' m' C' s4 R4 q=>?_) |> λz=>wpAny_mono z (λz9 z8 y=>y) λz9 z8 y=>y.elim
   refine bw q λak aZ gw=>?_; clear q; subst ak; subst aZ; subst gw
   intro kap Ss;refine ⟨r,o',gk,Oj,hv,rfl,since R4,vz,R4.get (af _ _ _),⟨_,R4.fr.ns,MJ⟩,λs5 m5 Hg hR=>Ss _ _ s5 ?_⟩;show Sg _ _ _ _ _ (.pure (.again _)) _ _;refine n7 rfl ?_;refine dB hR.inside λhg5 F5 Ra=>?_;refine ih (r+1) s5 s5 m5 hg5 F5 o' o' (congrArg Nat.pred hk) gk vz Ra (λa x e=>?_) Hg
   obtain ⟨hg6,X6,T6,hz6,MX,OV,MH⟩:=hR;exact (OV a x (aX o' a x e)).1
  | false =>
   refine ae (if_neg (by decide)) (ae (if_neg (by decide)) ?_);show Sg _ _ _ _ _ (.pure (.again _)) _ _;exact n7 rfl (ih (r+1) bD s3 _ hg F wO o' (congrArg Nat.pred hk) gk vz ⟨X,T,R3,iP,hF⟩ h0 MJ)
theorem Aw {iter:Expr}{Ax:Pos}{s:Shared}{m:Loc} (hh:Ag.handled=none) (hx:env.kindOf x=some .local) (Dh:(x == ("__debug__":Str))=false) (Km:("begin":Str)≠x) (rh:env.scope.isCoroutine=false) (hint:interactive env=false) (vE:∀ x,foldedSetIterable iter env x=Pure.pure x)
  (hl:cN Cg l vs) (hz:vs.length≤1000)
  (hG:∀ A' s hg,A'.handled=none->A'.depth≤Ag.depth+3->A'.units≤Ag.units+8->S.K.In hg->TopRead S.p S.loose S.mg S.mb hg->Gd (S.quiet s) ng A' hg Lg env)
  (vw:∀ i v bD A' hg E m C,Gd (S.quiet bD) ng A' hg Lg env->vs[i]?=some v->m x=some v->(∀ a o,Cg a=some o->C a=some o)->W (S.quiet bD) A' hg Lg E (isTrue test env (eval test env)) m C (λb m' C'=>b=tr i∧m'=m∧C'=C))
  (pq:∀ bD A' hg E m,Gd (S.quiet bD) ng A' hg Lg env->W (S.quiet bD) A' hg Lg E (eval iter env) m Cg (λv m' C'=>m'=m∧C'=Cg∧W (S.quiet bD) A' hg Lg E (pyIter v) m Cg (λit m' C'=>∃ a,it=.ref a∧Cg a=none∧m'=m∧C'=upd Cg a (lit l 0))))
  (hr:Ready S Lg Cg m s) (FV:m ("begin":Str)=none) :
  Sg (model S.prog S.w) Ag (λr s'=>∃ I,Cg I=none∧I≠Lg∧s.heap.get? I=none∧Gs Lg I (passing tr vs.length 0).length s r s') (λv s' k c fs=>∃ I,Cg I=none∧I≠Lg∧s.heap.get? I=none∧Gr S Ag Lg l Cg vs tr I (passing tr vs.length 0).length s v s' k c fs)
   (.func [.For (.Name x px) iter [.If test [.Expr (.Yield (some (.Name x xp)) yp) ep] [] ip] [] Ax] env) ((model S.prog S.w).den (.func [.For (.Name x px) iter [.If test [.Expr (.Yield (some (.Name x xp)) yp) ep] [] ip] [] Ax] env)) [] s:=by
 refine dB hr.inside λhg F ins=>?_;obtain ⟨X,T,R,hk,hF⟩:=id ins
 have h0:∀ a o,Cg a=some o->s.heap.get? a=some o:=λa o e=>R.get e
 refine bw (zu (Ag:=Ag) (B:=[.For (.Name x px) iter [.If test [.Expr (.Yield (some (.Name x xp)) yp) ep] [] ip] [] Ax]) (env:=env) hh) λa1 a2 a3=>?_;have G:=hG _ s hg a1 a2 a3 X T
 refine EG (gK (HT vE ?_));refine (pq s _ hg (λz9 z8=>False) m G).run R (λv m' C' s1 R1 q=>?_) |> λz=>wpAny_mono z (λz9 z8 y=>y) λz9 z8 y=>y.elim
 refine bw q λak aZ q=>?_; subst ak; subst aZ
 refine q.run R1 (λit m' C' s2 R2 q2=>?_) |> λz=>wpAny_mono z (λz9 z8 y=>y) λz9 z8 y=>y.elim
 refine c9 q2 λI ak hI aZ gw=>?_; clear q2; subst ak; subst aZ; subst gw
 intro p;have Hx:I≠Lg:=by
  obtain ⟨lL,tb,dj,r⟩:=R2;exact (r.r.N I _ (aI (af _ _ _))).2.1
 have Xk:s.heap.get? I=none:=by
  cases e:s.heap.get? I with
  | none=>rfl
  | some o =>
   obtain ⟨lL,tb,dj,r⟩:=R2;have n1:=(r.r.N I _ (aI (af _ _ _))).2.2;have n2:=(join_none ((r.d I).resolve_left λe=>by exact bo e (af ..))).1;exact bo n2 (hF I o Hx hI n1 e)
 refine Sg.mono (Dz (env':=env) (B:=_) (K:=_) hh rfl rfl hx Dh Km rh hint hI Hx hl hz hG vw vs.length 0 s s2 m' hg F (lit l 0) (lit l 0) (Nat.sub_zero _) (Nat.zero_le _) ⟨rfl,rfl⟩ ⟨X,T,R2,hk,λb o h1 h2 h3 e=>hF b o h1 ?_ h3 e⟩ h0 FV) (λr s' y=>⟨I,hI,Hx,Xk,y⟩) λv s' k c fs y=>⟨I,hI,Hx,Xk,y⟩
 cases q:C' b with
 | none=>rfl
 | some y=>exact bo h2 (aB hI b y q)
end
noncomputable def Uo (M:Model) (A:Around) (R:Result->Shared->Prop) (Y:Value->Shared->(Resume->Sem PySem.Fin)->Code->List Frame->Prop) (gs:GenState) (s:Shared):Prop:=match gs with
 | .fresh c=>Sg M A R Y c (M.den c) [] s
 | .suspended k _ c _ fs _=>Sg M A R Y c (k (.send .none)) fs s
 | _=>False
section
variable {M:Model}{A:Around}{R:Result->Shared->Prop}{Y:Value->Shared->(Resume->Sem PySem.Fin)->Code->List Frame->Prop}
theorem rE {E:Value->Shared->Prop}{s:Shared}{g:Nat}{gs:GenState}{l:List Value}{α:Type}{k:GenResult->Sem α}{Q:α->Shared->Prop} (hg:s.gens[g]?=some gs) (Eg:Uo M A R Y gs (s.setGen g .running))
  (hR:∀ x aC,R x aC->wpAny M A (k (End.ret x).result) Q E (aC.setGen g .finished))
  (hY:∀ v aC k' l c p fs cl,GenState.bare (.suspended k' l c p fs cl)=true->Y v aC k' c fs->wpAny M A (k (.yielded v)) Q E (aC.setGen g (.suspended k' l c p fs cl))):wpAny M A (.resume g (.send .none) l k) Q E s:=by
 intro Γ p qt;rw [Sem.wp_resume];have hB:∀ c,(Γ.wake c p).Woken A:=λc=>qt.wake c p
 have fin:∀ (iN:End) (aC:Shared),(match iN with | .ret r=>R r aC | .susp v g l k c p fs=>(End.susp v g l k c p fs).quiet=true∧Y v aC k c fs) →
   Sem.wp M Γ (k iN.result) (λa z9 s'=>Q a s') (λe z9 s'=>E e s') p (aC.setGen g iN.genState):=by
  intro iN aC he;cases iN with
  | ret x=>exact hR x aC he Γ p qt
  | susp v TH LH k₀ Qj H9 HA=>exact hY v aC _ _ _ _ _ _ (End.bare_of_quiet he.1) he.2 Γ p qt
 have Wt:∀ (iN:End) (aC:Shared),(match iN with | .ret r=>R r aC | .susp v g l k c p fs=>(End.susp v g l k c p fs).quiet=true∧Y v aC k c fs)->iN.quiet=true:=by
  intro iN aC he;cases iN with
  | ret x=>rfl
  | susp v TH LH k₀ Qj H9 HA=>exact he.1
 cases gs with
 | fresh c =>
  refine bg (Eg (Γ.wake c p) p rfl (hB c)) λiN aC hr he=>?_;exact ⟨_,_,by unfold Wakes; refine ae hg ?_; exact ⟨iN,aC,hr,Wt iN aC he,rfl,rfl⟩,fin iN aC he⟩
 | suspended k₀ LH Qj H9 HA cl =>
  refine bg (Eg (Γ.wake Qj p) H9 rfl (hB Qj)) λiN aC hr he=>?_;exact ⟨_,_,by unfold Wakes; refine ae hg ?_; exact ⟨iN,aC,hr,Wt iN aC he,rfl,rfl⟩,fin iN aC he⟩
 | running=>exact Eg.elim
 | finished=>exact Eg.elim
end
section
variable {prog:Program}{w:World}{A:Around}{E:Value->Shared->Prop}{s:Shared}
theorem rF {a:Addr}{g:Nat}{gs:GenState}{P:Shared->Prop}{R:Result->Shared->Prop}{Y:Value->Shared->(Resume->Sem PySem.Fin)->Code->List Frame->Prop}{Q:Option Value->Shared->Prop} (hh:A.handled=none) (hl:s.heap.NoLimit) (gi:A.depth < recursionLimit)
  (hg:s.heap.IsGen a g) (nO:s.gens[g]?=some gs) (Eg:Uo (model prog w) A.in1 R Y gs (s.setGen g .running)) (hRr:∀ r aC,R r aC->r=.ok (.ret .none)∧P aC)
  (hY:∀ v aC k' l c p fs cl,GenState.bare (.suspended k' l c p fs cl)=true->Y v aC k' c fs->Q (some v) (aC.setGen g (.suspended k' l c p fs cl)))
  (hP:∀ aC,P aC->∀ h',(∀ b o,aC.heap.get? b=some o->h'.get? b=some o)->Q none { aC.setGen g .finished with heap:=h' }) :
  wpAny (model prog w) A (pyNext (.ref a)) Q E s:=by
 unfold pyNext;refine wpAny_bind (wpAny_attempt (wpAny_callSpecial?_slot (name:=Str.ofString "__next__") hg.typeIs PySem.slot_gen_next
  (wpAny_call_entry PySem.slot_gen_next hg.typeIs PySem.entry_gen_next ?_ (PySem.args_gen_next _))))
 show wpAny _ A.in1 (Builtin.Generator.genWake (.ref a) (.send .none)) _ _ s;unfold Builtin.Generator.genWake;refine wpAny_bind (wpAny_holding (wpAny_genNumber hg (wpAny_bind (wpAny_genState nO ?_))));cases gs with
 | running=>exact Eg.elim
 | finished=>exact Eg.elim
 | _ =>
  refine wpAny_bind (wpAny_roomToWake hl gi ?_);show wpAny _ A.in1 (.resume g (.send .none) [] _) _ _ s;refine rE nO Eg (λx aC hx=>?_) (λv aC k' l c p fs cl hb hv=>?_)
  ·refine aS (hRr _ _ hx) λak hp=>?_; subst ak
   show wpAny _ A.in1 (newExc (.type "StopIteration") [] >>= _) _ _ _;refine wpAny_bind ?_;simp only [newExc,newTuple];refine wpAny_bind (wpAny_newObj_type ?_ (by size_fits));refine wpAny_bind (m:=firstArgMember _ _) (wpAny_of_eq (a:=Value.none) (by first | rfl | (simp only [firstArgMember]; rfl)) ?_);refine wpAny_newObj_type ?_ (by size_fits);simp only [raiseNew];refine wpAny_bind (wpAny_bind (wpAny_handled ?_));first | rw [show A.in1.handled=none from hh] | rw [hh]
   refine wpAny_throw ?_;refine wpAny_bind (wpAny_isInstance (T:="StopIteration") (b:=true) ⟨_,Heap.get?_push_size _ rfl,rfl⟩ PySem.isSubtype_stop ?_);exact wpAny_pure (hP aC hp _ λb o hb=>Heap.get?_push_of_some _ (Heap.get?_push_of_some _ hb))
  ·exact wpAny_pure ⟨v,rfl,wpAny_pure (hY v aC k' l c p fs cl hb hv)⟩
end
noncomputable def low (h:Heap) (k:Nat):Heap:={ h with objs:=(h.objs.toList.take k).toArray }
theorem nI {h:Heap}{k:Nat}{a:Addr}:(low h k).get? a=if a < k then h.get? a else none:=by
 unfold low Heap.get?;refine ae List.getElem?_toArray (ae List.getElem?_take (eI Array.getElem?_toList ?_));by_cases q:a < k
 ·exact ae (if_pos q) (ae (if_pos q) rfl)
 ·exact ae (if_neg q) (ae (if_neg q) rfl)
theorem BZ {h:Heap}{k:Nat}:(low h k).objs.size≤k:=by
 unfold low;refine ae List.size_toArray (ae List.length_take ?_);exact Nat.min_le_left _ _
theorem E_ {h:Heap}{k:Nat}{a:Addr}{o:Obj} (e:(low h k).get? a=some o):h.get? a=some o:=by
 rw [nI] at e;split at e
 ·exact e
 ·exact iO e
structure fS (S:Setup) (k:Nat):Prop where
 K:∀ a o,S.K.lookup a=some o->a < k
 g:mainGlobals < k
 b:builtinsNs < k
 c:cStatics < k
theorem DN {S:Setup}{h:Heap}{k:Nat} (X:S.K.In h) (T:TopRead S.p S.loose S.mg S.mb h) (hk:h.objs.size≤k):fS S k :=
 ⟨λa o e=>Nat.lt_of_lt_of_le (Heap.lt_size (X a o e)) hk,Nat.lt_of_lt_of_le T.g.lt hk,Nat.lt_of_lt_of_le T.b.lt hk,let ⟨_,n,_⟩:=T.nolimit; Nat.lt_of_lt_of_le n.lt hk⟩
theorem wY {h:Heap}{k:Nat}{a:Addr}{m:Loc} (n:h.Ns a m) (q:a < k):(low h k).Ns a m:=by
 refine cz n λo es ep e r=>?_; clear n
 exact ⟨o,es,ep,by refine ae nI (ae (if_pos q) ?_); exact e,r⟩
theorem Im {S:Setup}{h:Heap}{k:Nat} (X:S.K.In h) (B:fS S k):S.K.In (low h k):=λa o e=>by refine ae nI (ae (if_pos (B.K a o e)) ?_); exact X a o e
theorem E9 {S:Setup}{h:Heap}{k:Nat} (T:TopRead S.p S.loose S.mg S.mb h) (B:fS S k):TopRead S.p S.loose S.mg S.mb (low h k):=⟨wY T.g B.g,wY T.b B.b,let ⟨m,n,q⟩:=T.nolimit; ⟨m,wY n B.c,q⟩,T.builtins,T.free⟩
theorem rG {M:Model}{A A':Around}{α:Type}{t:Sem α}{Q:α->Shared->Prop}{E:Value->Shared->Prop}{s:Shared} (hh:A.handled=A'.handled) (hd:A.depth≤A'.depth) (hu:A.units≤A'.units) (hf:A'.frames=none) (hg:A'.guards=none) (h:wpAny M A' t Q E s):wpAny M A t Q E s:=λΓ p qt =>
 h Γ p ⟨qt.1.trans hh,Qb qt.2.1 hd,(λl e=>by exact bo hf e),(λl e=>by exact bo hg e),Qb qt.2.2.2.2 hu⟩
noncomputable abbrev Setup.st (S:Setup) (p:Array GenState->Prop):Setup:={ S with gn:=p }
noncomputable def ua (o:Obj) (m:Loc):Prop:=∃ es ep,o.data=.dict es ep∧StrKeys es∧(∀ name,nsFind es name=m name)∧m ("begin":Str)=none
noncomputable def GenObj (o:Obj) (g:Nat):Prop:=∃ nm qn,o.cls=.type "generator"∧o.data=.fields #[.int g 0,nm,qn]∧o.slots=#[]
noncomputable def FJ (F:Led) (J:Option (Addr×Obj)):Led:=match J with | none=>F | some q=>upd F q.1 q.2
noncomputable def O0 (Cg:Led) (Lg:Addr) (J:Option (Addr×Obj)) (I:Addr) (s:Shared):Prop:=match J with | none=>Cg I=none∧I≠Lg∧s.heap.get? I=none | some q=>I=q.1
noncomputable def OZ (Cg F:Led) (Lg:Addr) (J:Option (Addr×Obj)):Prop:=match J with | none=>True | some q=>Cg q.1=none∧q.1≠Lg∧F q.1=none
section
variable {S:Setup}{A:Around}{Qg:Heap}{L:Addr}{E:Value->Shared->Prop}{m:Loc}{C F:Led}{s aC:Shared}{Lg I:Addr}{Cg:Led}{J:Option (Addr×Obj)}{gn gn':Array GenState->Prop}{oL:Obj}{m':Loc}
theorem qI (R:Rel (S.st gn) Qg L m C (FJ F J) s) (hJ:OZ Cg F Lg J) (jJ:C Lg=some oL) (hI:O0 Cg Lg J I s) (Hx:I≠Lg) (sk:∀ b o,b≠Lg->b≠I->s.heap.get? b=some o->aC.heap.get? b=some o) (so:aC.os=s.os) (sd:aC.drawn=s.drawn) (hn:aC.heap.Ns Lg m') (FV:m' ("begin":Str)=none) {h':Heap}{gens':Array GenState} (hk:∀ b o,aC.heap.get? b=some o->h'.get? b=some o) (hg:gn' gens') :
  ∃ qp,ua qp m'∧∃ T,t9 S T∧g_ F T∧T I=none∧join F T I=none∧C I=none∧I≠L∧Qg.get? I=none∧bR (S.st gn') Qg L m (upd C Lg qp) (join F T) { aC with heap:=h',gens:=gens' }:=by
 obtain ⟨T,tb,dj,r⟩:=R;refine gX hn λqp es ep e1 e2 e3 e4=>?_; clear hn
 have hN:F I=none∧T I=none∧C I=none∧I≠L∧Qg.get? I=none:=by
  cases J with
  | none =>
   refine bw hI λi1 i2 i3=>?_; clear hI
   have w:join C (join (FJ F none) T) I=none:=by
    cases q:join C (join (FJ F none) T) I with
    | none=>rfl
    | some x=>exact bo i3 ((r.r.N _ _ q).1)
   refine aS (join_none w) λw1 w2=>?_;refine aS (join_none w2) λw2 w3=>?_
   refine ⟨w2,w3,w1,λq=>?_,?_⟩
   ·refine cz r.r.F.ns λo z9 z8 z z7=>?_;rw [q] at i3; exact bo i3 z
   ·cases q:Qg.get? I with
    | none=>rfl
    | some x=>exact bo i3 (r.r.F.keep _ _ q)
  | some q =>
   obtain rfl:I=q.1:=hI;have z:FJ F (some q) q.1=some q.2:=af _ _ _;have w:=(dj q.1).resolve_left λe=>by exact bo e z
   have n:=r.r.N q.1 q.2 (aT r.d (aI z));exact ⟨hJ.2.2,w,(r.d q.1).resolve_right (λe=>by exact bo e (aI z)),n.2.1,n.2.2⟩
 refine d9 hN λn1 n2 n3 n4 n5=>?_; clear hN
 have OR:∀ z,z≠I->FJ F J z=F z:=λz q=>by
  cases J with
  | none=>rfl
  | some w =>
   obtain rfl:I=w.1:=hI;exact ag _ _ q
 have nL:=r.r.N Lg oL (aI jJ);have djF:g_ F T:=λz=>by
  by_cases q:z=I
  ·exact ae q (.inl n1)
  ·have:=dj z; rwa [OR z q] at this
 have Tv:join F T Lg=none:=by
  have:=(r.d Lg).resolve_left λe=>by exact bo e jJ
  unfold join at this ⊢;rw [OR Lg (Ne.symm Hx)] at this; exact this
 have old:∀ b x,b≠Lg->join C (join F T) b=some x->join C (join (FJ F J) T) b=some x∧b≠I:=λb x hb e=>by
  have JI:b≠I:=λq=>by
   unfold join at e;rw [q,n3,n1] at e; exact bo n2 e
  refine ⟨?_,JI⟩;unfold join at e ⊢;exact ae (OR b JI) e
 have kept:∀ b x,b≠Lg->b≠I->s.heap.get? b=some x->h'.get? b=some x:=λb x h1 h2 e=>hk _ _ (sk b x h1 h2 e)
 refine ⟨qp,⟨es,ep,e2,e3,e4,FV⟩,T,⟨tb.t,tb.c⟩,djF,n2,by unfold join; refine ae n1 (ae n2 ?_); rfl,n3,n4,n5,⟨⟨⟨?_,λb o e=>?_,r.r.F.above⟩,λb x e=>?_,hg,?_⟩,λz=>?_⟩⟩
 ·refine cz r.r.F.ns λo es' XG z rest=>?_;exact ⟨o,es',XG,kept L o (Ne.symm nL.2.1) (Ne.symm n4) z,rest⟩
 ·exact kept b o (λq=>by rw [q] at e; exact bo nL.2.2 e) (λq=>by rw [q] at e; exact bo n5 e) (r.r.F.keep b o e)
 ·rw [bJ] at e;by_cases q:b=Lg
  ·rw [q] at e; replace e:=eG (af ..) e; subst e;refine ae q ?_; exact ⟨hk _ _ e1,nL.2⟩
  ·rw [ag _ _ q] at e;refine aS (old b x q e) λe' JI=>?_;have z:=r.r.N b x e'
   exact ⟨kept b x q JI z.1,z.2⟩
 ·exact ⟨so.trans r.r.o.1,sd.trans r.r.o.2⟩
 ·by_cases q:z=Lg
  ·exact ae q (.inr Tv)
  ·refine ae (ag _ _ q) ?_;by_cases w:z=I
   ·exact ae w (.inl n3)
   ·have:=r.d z;unfold join at this ⊢;rw [OR z w] at this; exact this
end
section
variable {S:Setup}{A:Around}{Qg:Heap}{L:Addr}{E:Value->Shared->Prop}{m:Loc}{C F:Led}{s:Shared}{Lg l Ga:Addr}{Cg:Led}{vs:List Value}{tr:Nat->Bool}{J:Option (Addr×Obj)}{oL og:Obj}{mL:Loc}{g n D U:Nat}
noncomputable abbrev jM (D U:Nat):Around:=Around.in1 { handled:=none,depth:=D,frames:=none,guards:=none,units:=U }
noncomputable def Good (S:Setup) (Ag:Around) (Lg l:Addr) (Cg:Led) (vs:List Value) (tr:Nat->Bool) (n:Nat) (J:Option (Addr×Obj)) (gs:GenState):Prop:=∀ fK hM,hM ("begin":Str)=none->Ready S Lg (FJ Cg J) hM fK →
 Uo (model S.prog S.w) Ag (λr s'=>∃ I,O0 Cg Lg J I fK∧I≠Lg∧Gs Lg I n fK r s') (λv s' k c fs=>∃ I,O0 Cg Lg J I fK∧Cg I=none∧I≠Lg∧Gr S Ag Lg l Cg vs tr I n fK v s' k c fs) gs fK
noncomputable def Gp (S:Setup) (Ag:Around) (Lg l:Addr) (Cg:Led) (vs:List Value) (tr:Nat->Bool) (g n:Nat) (J:Option (Addr×Obj)):Array GenState->Prop:=λgens=>AllBare gens∧∃ gs,gens[g]?=some gs∧Good S Ag Lg l Cg vs tr n J gs
theorem lJ {gens:Array GenState}{g:Nat}{x:GenState} (h:AllBare gens) (hx:x.bare=true):AllBare (gens.setIfInBounds g x):=λy hy=>by
 rcases Array.mem_or_eq_of_mem_setIfInBounds hy with q | rfl
 ·exact h _ q
 ·exact hx
theorem Dy {Q:Option Value->Shared->Prop} (B:fS S Lg) (X:S.K.In Qg) (T:TopRead S.p S.loose S.mg S.mb Qg) (hh:A.handled=none) (hd:A.depth≤D) (hu:A.units≤U) (gi:D < recursionLimit) (hJ:OZ Cg F Lg J) (R:Rel (S.st (Gp S (jM D U) Lg l Cg vs tr g n J)) Qg L m C (FJ F J) s)
  (hC:∀ a o,Cg a=some o->C a=some o) (vI:Cg Lg=none) (jJ:C Lg=some oL) (KG:ua oL mL) (qy:C Ga=some og) (nt:GenObj og g) (tM:Ga≠Lg)
  (hY:∀ i n' v qp E5 J' s',n=n'+1->i < vs.length->tr i=true->vs[i]?=some v->(passing tr vs.length (i+1)).length=n'->ua qp E5->OZ Cg F Lg J'->Rel (S.st (Gp S (jM D U) Lg l Cg vs tr g n' J')) Qg L m (upd C Lg qp) (FJ F J') s'->Q (some v) s')
  (hN:∀ qp E5 s',n=0->ua qp E5->Rel (S.st AllBare) Qg L m (upd C Lg qp) F s'->Q none s'):wpAny (model S.prog S.w) A (pyNext (.ref Ga)) Q E s:=by
 refine rG (A':={ handled:=none,depth:=D,frames:=none,guards:=none,units:=U }) hh hd hu rfl rfl ?_;have jZ:Gp S (jM D U) Lg l Cg vs tr g n J s.gens:=by
  obtain ⟨lL,tb,dj,r⟩:=R;exact r.r.g
 refine ck jZ λhb gs nO Dc=>?_; clear jZ
 refine bx nt λnm qn q1 q2 q3=>?_; clear nt
 have hLh:=R.get jJ;have B5:∀ a,Qg.get? a=none->(low Qg Lg).get? a=none:=λa e=>by rw [nI]; split <;> first | exact e | rfl
 have hCF:∀ a o,FJ Cg J a=some o->s.heap.get? a=some o∧a≠Lg∧(low Qg Lg).get? a=none:=λa o e=>by
  obtain ⟨lL,tb,dj,r⟩:=R;have own:∀ {a o},join C (join (FJ F J) lL) a=some o->s.heap.get? a=some o∧(low Qg Lg).get? a=none:=λ{a o} w=>⟨(r.r.N a o w).1,B5 _ (r.r.N a o w).2.2⟩
  cases J with
  | none =>
   have z:=own (aI (hC a o e));exact ⟨z.1,(λq=>by rw [q] at e; rw [show FJ Cg none Lg=Cg Lg from rfl] at e; exact bo vI e),z.2⟩
  | some q =>
   by_cases w:a=q.1
   ·subst w;have e':o=q.2:=by
     have:FJ Cg (some q) q.1=some q.2:=af _ _ _;rw [this] at e; exact (Option.some.inj e).symm
    subst e';have z:=own (aT r.d (aI (show FJ F (some q) q.1=some q.2 from af _ _ _)));exact ⟨z.1,hJ.2.1,z.2⟩
   ·have e':Cg a=some o:=(ag _ _ w).symm.trans e;have z:=own (aI (hC a o e'));exact ⟨z.1,(λq=>by rw [q] at e'; exact bo vI e'),z.2⟩
 have FV:mL ("begin":Str)=none:=by refine cL KG λz9 z8 z7 z6 zA z=>?_; clear KG; exact z
 have ready:Ready S Lg (FJ Cg J) mL (s.setGen g .running):=by
  refine cL KG λes ep n1 n2 n3 n4=>?_; clear KG
  exact ⟨low Qg Lg,Im X B,E9 T B,BZ,λb o e=>R.fr.keep b o (E_ e),hCF,oL,es,ep,hLh,n1,n2,n3⟩
 refine rF (P:=λaC=>n=0∧∃ I,O0 Cg Lg J I (s.setGen g .running)∧I≠Lg∧lN Lg I (s.setGen g .running) aC∧∃ m',aC.heap.Ns Lg m'∧m' ("begin":Str)=none) rfl (T.nolimit.keeps R.fr.keep) gi ⟨og,nm,qn,R.get qy,q1,q2,q3⟩ nO (Dc _ _ FV ready) (λr aC z=>?_) (λv aC k' l' c p fs cl Dm z=>?_) (λaC z h' hk=>?_)
 ·refine cW z λI i1 i2 z1 z2 z3 z4=>?_; clear z
  exact ⟨z2,z1,I,i1,i2,z3,z4⟩
 ·refine c9 z λI i1 i0 i2 z=>?_;cases n with
  | zero=>exact z.elim
  | succ n' =>
   refine dB z λi o aZ=>?_; clear z; refine cO aZ λy1 y2 y3 y4 sc y6 y7 ak y9=>?_; clear aZ; obtain ⟨m',y8,O1⟩:=ak
   have RF:aC.gens[g]?=some .running:=by exact ae sc.g (setGen_self nO)
   have fC:AllBare (aC.setGen g (.suspended k' l' c p fs cl)).gens:=by
    show AllBare (aC.gens.setIfInBounds g _);exact ae sc.g (lJ (lJ hb rfl) Dm)
   have Jw:Good S (jM D U) Lg l Cg vs tr n' (some (I,o)) (.suspended k' l' c p fs cl):=λfK hM hm hr=>(y9 fK hM hm hr).mono (λr s' w=>⟨I,rfl,i2,w⟩) λv s' k c fs w=>⟨I,rfl,i0,i2,w⟩
   refine aQ (qI (gn':=Gp S (jM D U) Lg l Cg vs tr g n' (some (I,o))) (gens':=(aC.setGen g (.suspended k' l' c p fs cl)).gens) R hJ jJ i1 i2 sc.k sc.o sc.d y8 O1 (h':=aC.heap) (λz9 z8 e=>e) ⟨fC,_,setGen_self RF,Jw⟩) λqp ak=>?_; refine ck ak λyt NO qD aZ=>?_; clear ak; refine gc aZ λT8 tI jI cI iL Wb R'=>?_; clear aZ
   have OS:=(join_none jI).1;have hCI:upd C Lg qp I=none:=(ag _ _ i2).trans cI;have R2:=((R'.addAt jI y7 iL Wb).hideAt hCI jI).hidClose ⟨qD.t,qD.c⟩ T8 tI;exact hY i n' v qp m' (some (I,o)) _ rfl y1 y2 y3 y4 yt ⟨i0,i2,OS⟩ R2
 ·refine ck z λak I i1 aZ=>?_; clear z; refine bw aZ λi2 sc gw=>?_; clear aZ; refine aF gw λm' y8 O1=>?_; clear gw; subst ak
  have fC:AllBare (aC.setGen g .finished).gens:=by
   show AllBare (aC.gens.setIfInBounds g _);exact ae sc.g (lJ (lJ hb rfl) rfl)
  refine aQ (qI (gn':=AllBare) (gens':=(aC.setGen g .finished).gens) R hJ jJ i1 i2 sc.k sc.o sc.d y8 O1 hk fC) λqp ak=>?_; refine ck ak λyt NO qD aZ=>?_; clear ak; refine gc aZ λT8 tI jI cI iL Wb R'=>?_; clear aZ
  exact hN qp m' _ rfl yt ⟨NO,⟨qD.t,qD.c⟩,T8,R'⟩
end
noncomputable def WT {α:Type} (DS S:Setup) (A:Around) (Qg:Heap) (L:Addr) (E:Value->Shared->Prop) (t:Sem α) (m:Loc) (C:Led) (Q:α->Loc->Led->Prop):Prop:=∀ F s,Rel DS Qg L m C F s->wpAny (model S.prog S.w) A t (AH S Qg L F Q) E s
noncomputable def CWT (DS S:Setup) (A:Around) (Qg:Heap) (L:Addr) (E:Value->Shared->Prop) (c:Code) (m:Loc) (C:Led) (Q:Value->Loc->Led->Prop):Prop :=
 ∀ F s,Rel DS Qg L m C F s->codeAny (model S.prog S.w) A c (λr s'=>match r with | .ok (.ret v)=>AH S Qg L F Q v s' | .ok _=>False | .error e=>E e s') s
noncomputable def lM (DS S:Setup) (n:Nat) (f:Value) (args:List Value) (C:Led) (R:Value->Led->Prop):Prop :=
 ∀ A Qg L E env m,Gd S n A Qg L env->CWT DS S A Qg L E (.call f ⟨args,[]⟩) m C λv m' C'=>m'=m∧R v C'
section
variable {S:Setup}{gn:Array GenState->Prop}{A:Around}{Qg:Heap}{L:Addr}{E:Value->Shared->Prop}{m:Loc}{C:Led}{env:Env}{n:Nat}
theorem Gd.st (G:Gd S n A Qg L env):Gd (S.st gn) n A Qg L env:=⟨G.X,G.T,G.hk,G.d,G.u,G.hh,G.hloc,G.hgl,G.hbi⟩
theorem gJ {st:Stmt}{rest:List Stmt}{Q:Flow->Loc->Led->Prop} (h:WT (S.st gn) S A Qg L E (exec st env) m C (nC S A Qg L E rest env Q)):WT (S.st gn) S A Qg L E (execs (st::rest) env) m C Q:=λF s R=>by
 refine wpAny_execs_cons (wpAny_mono (h F s R) (λf s' z=>?_) λz9 z8 x=>x);obtain ⟨m',C',R',q⟩:=z;cases f <;> first | exact W.go q F s' R' | exact ⟨m',C',R',q⟩
theorem jN {st:Stmt}{rest:List Stmt}{Q:Flow->Loc->Led->Prop} (h:W (S.st gn) A Qg L E (exec st env) m C (λfl m' C'=>fl=.next∧WT (S.st gn) S A Qg L E (execs rest env) m' C' Q)):WT (S.st gn) S A Qg L E (execs (st::rest) env) m C Q:=λF s R =>
 wpAny_execs_cons (h.run R λf m' C' s' R' q=>by
  obtain ⟨rfl,q⟩:=q;exact q F s' R')
theorem Ep {e:Expr}{pos:Pos}{Q:Flow->Loc->Led->Prop} (h:WT (S.st gn) S A Qg L E (eval e env) m C (Mp (λz9=>Flow.next) Q))
  (hi:autoParam (interactive env=false) aU) (hs:autoParam (swapsWith e none pos.line env=Pure.pure false) aU):WT (S.st gn) S A Qg L E (exec (.Expr e pos) env) m C Q:=λF s R =>
 wpAny_Expr_any (wpAny_mono (h F s R) (λ_ _ ⟨m',C',R',q⟩=>⟨m',C',R',q⟩) λz9 z8 x=>x) hi hs
theorem uo {o:Expr}{name:Str}{apos pos:Pos}{args:List Expr}{qr:List Keyword}{pl:Sem Bool}{Q:Value->Loc->Led->Prop}
  (h:W (S.st gn) A Qg L E (eval o env) m C λov m C=>W (S.st gn) A Qg L E (getMethod ov name pl) m C λfx m C=>WT (S.st gn) S A Qg L E (callWith pos fx.1 fx.2 (backTo pos (starEach args env)) (backToKw pos (keywordEach qr env))) m C Q)
  (he:autoParam (eval (.Call (.Attribute o name apos) args qr pos) env=(do
   let ov ← eval o env
   standAt apos.atName
   let (f,first) ← holding [ov] (getMethod ov name pl)
   callWith pos f first (backTo pos (starEach args env)) (backToKw pos (keywordEach qr env)))) aU) :
  WT (S.st gn) S A Qg L E (eval (.Call (.Attribute o name apos) args qr pos) env) m C Q:=λF s R =>
 methodCall_KW (h.run R λz9 z8 z7 z6 R' q=>q.run R' λz9 z8 z7 z6 dR q'=>q' F _ dR) he
theorem um {x:Str}{np pos:Pos}{args:List Expr}{qr:List Keyword}{Q:Value->Loc->Led->Prop}
  (h:W (S.st gn) A Qg L E (eval (.Name x np) env) m C λf m C=>WT (S.st gn) S A Qg L E (callWith pos f [] (backTo pos (starEach args env)) (backToKw pos (keywordEach qr env))) m C Q) :
  WT (S.st gn) S A Qg L E (eval (.Call (.Name x np) args qr pos) env) m C Q:=λF s R=>wpAny_Call_ofName (h.run R λz9 z8 z7 z6 R' q=>q F _ R')
theorem mC {f:Value}{first:List Value}{e:Expr}{rest:List Expr}{pos:Pos}{Q:Value->Loc->Led->Prop} (G:Gd S n A Qg L env) (hk:keepIn S.K f=true)
  (h:W (S.st gn) A Qg L E (spliced (backTo pos (starEach (e::rest) env))) m C λvs m C=>WT (S.st gn) S A Qg L E (call f (first++vs)) m C Q)
  (he:autoParam (starEach (e::rest) env=(false,eval e env)::starEach rest env) aR) (eC:autoParam ((backTo pos (starEach rest env)).any (·.1)=false) aR) :
  WT (S.st gn) S A Qg L E (callWith pos f first (backTo pos (starEach (e::rest) env)) []) m C Q:=λF s R =>
 callWith_K G.X hk (h.run R λz9 z8 z7 s' R' q=>⟨G.X.keeps R'.fr.keep,q F _ R'⟩) he eC
theorem rD {f:Value}{args:List Value}{k:Nat}{R:Value->Led->Prop}{Q:Value->Loc->Led->Prop} (G:Gd S n A Qg L env) (sp:lM (S.st gn) S k f args C R) (h:∀ v C',R v C'->Q v m C') (hn:autoParam (k≤n) aO):WT (S.st gn) S A Qg L E (call f args) m C Q:=λF s r =>
 wpAny_call (codeAny_mono (sp A Qg L E env m (G.le hn) F s r) λr s' z=>by
  rcases r with e | (_ | _ | _ | v) <;> first | exact z | exact z.elim | skip
  obtain ⟨m',C',a,rfl,c⟩:=z;exact ⟨m',C',a,h v C' c⟩)
theorem p0 {o:Expr}{attr:Str}{pos' pos:Pos}{value:Expr}{Q:Flow->Loc->Led->Prop}
  (h:WT (S.st gn) S A Qg L E (eval value env) m C (pZ S A Qg L E (λv=>eval o env) λv=>(Bd S A Qg L E (λov=>setAttr ov attr v) (Mp (λz9=>Flow.next) Q))))
  (hs:autoParam (swapsWith value (some (.Attribute o attr pos')) pos.line env=Pure.pure false) aU):WT (S.st gn) S A Qg L E (exec (.Assign [.Attribute o attr pos'] value pos) env) m C Q:=λF s R =>
 plainObj_wpAny_Assign_Attribute (wpAny_mono (h F s R) (λv s' ⟨m',C',R',q⟩=>q.run R' λz9 z8 z7 z6 dR q'=>q'.run dR λz9 z8 z7 z6 R3 q3=>⟨_,_,R3,q3⟩) λz9 z8 x=>x) hs
theorem lV {name qual:Str}{params:Arguments}{body:List Stmt}{scope:Scope}{dV kV doc pm eN ct oc:Value}{an od:Option Addr}{xY:Array (Option Value)}{f:Addr}{args:List Value}
  {binds:List (Str×Value)}{R:Value->Led->Prop}
  (ho:S.K.lookup f=some ⟨oc,od,.func (fnOf name qual params body scope dV kV doc pm an eN ct),xY⟩)
  (gm:∀ s,S.K.In s.heap->BindsTo s (fnOf name qual params body scope dV kV doc pm an eN ct) ⟨args,[]⟩ binds) (hp:plainDef S.K scope eN qual (binds.map (·.1))=true)
  (h:∀ A Qg L E,Gd S n A Qg L (envOf qual scope L f eN)->∀ Q,pV R Q->WT (S.st gn) S A Qg L E (execs body (envOf qual scope L f eN)) (λy=>binds.reverse.lookup y) C Q) :
  lM (S.st gn) S (n+1) (.ref f) args C R:=by
 simp only [plainDef,Bool.and_eq_true,Bool.not_eq_true',List.all_eq_true,beq_iff_eq,bne_iff_ne,ne_eq] at hp;refine aS hp λak hk=>?_; clear hp; obtain ⟨⟨⟨⟨iJ,hloc⟩,cF⟩,rh⟩,pz⟩:=ak
 intro A Qg L E env m G Fo s nc;obtain ⟨T,tb,dj,r⟩:=nc;refine aQ (⟨_,rfl⟩:∃ F,F=join Fo T) λF hF=>?_;rw [← hF] at r
 refine cW r.ground λg jw nO en Fg tK back=>?_;have gi:A.depth < recursionLimit:=by have:=G.d; exact Nat.lt_of_lt_of_le (by walk_at "A") (Qf this)
 refine codeAny_call_def (fd:=fnOf name qual params body scope dV kV doc pm an eN ct) (body:=body) (binds:=binds) gi ((G.X.keeps r.fr.keep) _ _ ho) rfl (G.T.nolimit.keeps r.fr.keep) (codeRec_of (G.X.keeps r.fr.keep) iJ) rfl
  (gm s (G.X.keeps r.fr.keep)) cF (λy hy=>hloc _ (List.mem_map_of_mem hy)) (λek vA gF=>?_) rh pz hk
 have G':Gd S n (A.deeper (envOf qual scope s.heap.objs.size f eN)) g s.heap.objs.size (envOf qual scope s.heap.objs.size f eN):=by
  refine ⟨G.X.keeps en,G.T.keeps en,hk,?_,?_,G.hh,rfl,rfl,rfl⟩
  ·show A.depth+1+2 * n < _;have:=G.d; exact Nat.lt_of_lt_of_le (by walk_at "A") (Qf this)
  ·show A.units+3+8 * n < _;have:=G.u; exact Nat.lt_of_lt_of_le (by walk_at "A") (Qf this)
 have bQ:bR (S.st gn) g s.heap.objs.size (λy=>binds.reverse.lookup y) C F { s with heap:=ek,toks:=s.toks+binds.length } :=
  ⟨⟨⟨vA,λb o e=>gF b o (nO b o e),Qc jw⟩,λa o e=>⟨gF _ _ (r.r.N a o e).1,Nat.ne_of_lt (Heap.lt_size (r.r.N a o e).1),tK a o e⟩,r.r.g,r.r.o⟩,r.d⟩
 refine wpAny_mono (h _ g _ _ G' _ (pV.refl R) Fo _ (bR.rel (hF▸bQ) tb dj)) (λfl s' z=>?_) λz9 z8 z=>z
 obtain ⟨m',C',r',q⟩:=z;exact ⟨m,C',r'.back (λ{F'} x=>by
  have y:bR (S.st gn) g _ m' C' F' { s' with gens:=s.gens }:=⟨⟨x.r.F,x.r.N,r.r.g,x.r.o⟩,x.d⟩;have z:=back y;exact ⟨⟨z.r.F,z.r.N,x.r.g,z.r.o⟩,z.d⟩),rfl,q⟩
theorem qF {c fI:Addr}{args:List Value}{R:Value->Led->Prop} (hm:makesIn S.K c=true) (hi:bM S.K c "__init__" fI=true)
  (h:∀ x dx,C x=none->C dx=none->x≠dx->lM (S.st gn) S n (.ref fI) (.ref x::args) (upd (upd C dx (dictOf [] 0)) x (instObj c dx)) λv C'=>v=.none∧R (.ref x) C') :
  lM (S.st gn) S (n+1) (.ref c) args C R:=by
 intro A Qg L E env m G Fo s nc;obtain ⟨T,tb,dj,r⟩:=nc;refine aQ (⟨_,rfl⟩:∃ F,F=join Fo T) λF hF=>?_;rw [← hF] at r
 refine aF r.list λl N hl=>?_;simp only [bM,Bool.and_eq_true,beq_iff_eq,isFn] at hi
 refine make_K r.fr N (G.X.keeps r.fr.keep) hm hi.1 hi.2 λx dx h' F' N' l1 l2=>?_;have fr:∀ y,dx≤y->C y=none∧F y=none:=λy hy=>r.fresh_of (l:=l) hl λp hp=>Nat.lt_of_lt_of_le (l1 p hp) hy
 have G':Gd S n (A.under (.builtin "type.__call__" ⟨.ref c::args,[]⟩)) Qg L env:=by
  refine ⟨G.X,G.T,G.hk,?_,?_,G.hh,G.hloc,G.hgl,G.hbi⟩
  ·show A.depth+1+2 * n < _;have:=G.d; exact Nat.lt_of_lt_of_le (by walk_at "A") (Qf this)
  ·show A.units+(Code.builtin "type.__call__" ⟨.ref c::args,[]⟩).cUnits+8 * n < _;have:(Code.builtin "type.__call__" ⟨.ref c::args,[]⟩).cUnits=1:=rfl;exact Nat.lt_of_le_of_lt (by rw [this]; walk_at "A") G.u
 have R':bR (S.st gn) Qg L m (upd (upd C dx (dictOf [] 0)) x (instObj c dx)) F { s with heap:=h' }:=by
  refine ⟨?_,(r.d.upd_new _ (fr dx (Nat.le_refl _)).2).upd_new _ (fr x (Nat.le_of_lt l2)).2⟩;rw [bJ,bJ];refine ⟨F',λa o e=>?_,r.r.g,r.r.o⟩;by_cases q:a=x
  ·subst q; replace e:=eG (af ..) e; subst e; exact N' _ (.head _)
  ·rw [ag _ _ q] at e;by_cases q':a=dx
   ·subst q'; replace e:=eG (af ..) e; subst e; exact N' _ (.tail _ (.head _))
   ·rw [ag _ _ q'] at e; exact N' _ (.tail _ (.tail _ (hl _ _ e)))
 refine codeAny_mono (h x dx (fr x (Nat.le_of_lt l2)).1 (fr dx (Nat.le_refl _)).1 (Nat.ne_of_gt l2) _ Qg L E env m G' Fo _ (bR.rel (hF▸R') tb dj)) λrr s' z=>?_;rcases rr with e | (_ | _ | _ | v) <;> first | exact z | exact z.elim | skip
 obtain ⟨m',C',a,b,c',d⟩:=z;exact ⟨c',m',C',a,b,d⟩
theorem rV {Ga:Addr}{og:Obj}{g:Nat}{Q:Value->Loc->Led->Prop} (qy:C Ga=some og) (nt:GenObj og g) (h:Q (.ref Ga) m C):W S A Qg L E (pyIter (.ref Ga)) m C Q:=.mk λF s R=>by
 refine bx nt λnm qn q1 q2 q3=>?_; clear nt
 exact wpAny_pyIter_gen ⟨og,nm,qn,R.get qy,q1,q2,q3⟩ ⟨m,C,R,h⟩
theorem sQ {M:Model}{s:Shared}{target:Expr}{a:Addr}{o:Obj}{g:Nat}{v:Value}{Q:Unit->Shared->Prop}{E:Value->Shared->Prop} (ho:s.heap.get? a=some o) (nt:GenObj o g) (h:Q () s):wpAny M A (letOwnedTupleGo target (.ref a) v) Q E s:=by
 refine bx nt λnm qn hc hd z9=>?_; clear nt
 have key:∀ T:Addr,wpAny M A (do
   let o ← load a
   match o.cls,o.data with
   | .type n,.fields vs =>
    if ["enumerate","zip","dict_itemiterator","dict_reverseitemiterator","odict_iterator","itertools.zip_longest","itertools.pairwise"].contains n && vs[0]? == some (rawInt T) then
     rule "for.unpacks-the-owned-tuple"
     updateField a 0 .none
   | _,_=>Pure.pure ()) Q E s:=λT=>by
  refine wpAny_bind (wpAny_load ho ?_);refine ae hc (ae hd ?_);show wpAny _ A (if (["enumerate","zip","dict_itemiterator","dict_reverseitemiterator","odict_iterator","itertools.zip_longest","itertools.pairwise"].contains "generator" && _)=true then _ else _) Q E s;rw [if_neg (by rw [show (["enumerate","zip","dict_itemiterator","dict_reverseitemiterator","odict_iterator","itertools.zip_longest","itertools.pairwise"].contains "generator")=false from by decide,Bool.false_and]; decide)];exact wpAny_pure h
 cases target <;> first | exact wpAny_pure h | (cases v <;> first | exact wpAny_pure h | exact key _)
theorem sm {tr:Nat->Bool}{N r i n:Nat} (h1:(passing tr N r).length=n+1) (hi:i < N) (ht:tr i=true) (h2:(passing tr N (i+1)).length=n):passing tr N r=i::passing tr N (i+1):=by
 have UG:∀ k,passing tr N k <:+ (List.range N).filter tr:=λk=>List.IsSuffix.filter _ (List.drop_suffix _ _)
 have e:=passing_true hi ht;have hl:(passing tr N i).length=(passing tr N r).length:=ae e (ae List.length_cons (ae h2 (ae h1 rfl)));refine eI e ?_;refine aQ (UG r) λa ha=>?_;refine aQ (UG i) λb hb=>?_
 exact (List.append_inj' (ha.trans hb.symm) hl.symm).2
theorem Gq {target iter:Expr}{body orelse:List Stmt}{pos:Pos}{Lg l Ga:Addr}{Cg:Led}{vs:List Value}{tr:Nat->Bool}{g:Nat}{Q:Flow->Loc->Led->Prop} (G:Gd S n A Qg L env) (h8:8≤n) (B:fS S Lg) (hS:S.gn=AllBare) (vI:Cg Lg=none) (tM:Ga≠Lg) (I:List Nat->Loc->Led->Prop)
  (pq:∀ Q':Value->Loc->Led->Prop,Q' (.ref Ga) m C->W (S.st (Gp S (jM 983 9835) Lg l Cg vs tr g (passing tr vs.length 0).length none)) A Qg L E (eval iter env) m C Q')
  (hI:∀ rest m C,I rest m C->(∀ a o,Cg a=some o->C a=some o)∧(∃ oL mL,C Lg=some oL∧ua oL mL)∧∃ og,C Ga=some og∧GenObj og g)
  (K2:∀ rest m C oL mL,I rest m C->ua oL mL->I rest m (upd C Lg oL))
  (turn:∀ gn E i v rest m C,vs[i]?=some v->I (i::rest) m C->∀ J,wb (I rest) J->W (S.st gn) A Qg L E (assign target env v) m C (Bd (S.st gn) A Qg L E (λz9=>execs body env) (LQ J λz9 z8 z7=>False)))
  (fin:∀ E m C,I [] m C->W S A Qg L E (execs orelse env) m C Q) (start:I (passing tr vs.length 0) m C)
  (hs:∀ x,foldedSetIterable iter env x=Pure.pure x:=by intro _; rfl) :
  WT (S.st (Gp S (jM 983 9835) Lg l Cg vs tr g (passing tr vs.length 0).length none)) S A Qg L E (exec (.For target iter body orelse pos) env) m C Q:=λF s R=>by
 have hd:A.depth≤983:=by have:=G.d; have e:recursionLimit=1000:=rfl; exact Qd λq=>Ql (Qa h8 (Qa h8 (Qa q (Qa (Qf this) (Qc e)))))
 have hu:A.units≤9835:=by have:=G.u; have e:cLine=9900:=rfl; exact Qd λq=>Ql (Qa h8 (Qa h8 (Qa h8 (Qa h8 (Qa h8 (Qa h8 (Qa h8 (Qa h8 (Qa q (Qa (Qf this) (Qc e)))))))))))
 have hSt:S.st AllBare=S:=by
  obtain ⟨a1,a2,a3,a4,a5,a6,a7,a8,a9,a10,a11,a12,a13⟩:=S;simp only [Setup.st] at hS ⊢;exact ae hS rfl
 refine wpAny_For ((pq (λv m' C'=>v=.ref Ga∧m'=m∧C'=C) ⟨rfl,rfl,rfl⟩).run R λv m' C' s1 R1 q=>?_) hs;refine bw q λak e1 e2=>?_; clear q; subst ak
 obtain rfl:m=m':=e1.symm;obtain rfl:C=C':=e2.symm;refine bw (hI _ _ _ start) λz9 z8 ak=>?_; refine aF ak λog qy nt=>?_; clear ak
 refine (rV (S:=S.st (Gp S (jM 983 9835) Lg l Cg vs tr g (passing tr vs.length 0).length none)) (Q:=λv m' C'=>v=.ref Ga∧m'=m∧C'=C) qy nt ⟨rfl,rfl,rfl⟩).run R1 λv m' C' s2 R2 q=>?_;refine bw q λak e1 e2=>?_; clear q; subst ak
 obtain rfl:m=m':=e1.symm;obtain rfl:C=C':=e2.symm;refine codeAny_forLoop_any (λk s=>∃ r m C J,k=(passing tr vs.length r).length∧OZ Cg F Lg J∧Rel (S.st (Gp S (jM 983 9835) Lg l Cg vs tr g (passing tr vs.length r).length J)) Qg L m C (FJ F J) s∧I (passing tr vs.length r) m C) (λk s hk=>?_) _ ⟨0,m,C,none,rfl,trivial,R2,start⟩;refine bP hk λr m C J aZ=>?_; clear hk; refine dI aZ λak hJ R hi=>?_; clear aZ; subst ak
 refine bw (hI _ _ _ hi) λhC ak aZ=>?_; refine aF aZ λog qy nt=>?_; clear aZ; obtain ⟨oL,mL,jJ,KG⟩:=ak
 refine Dy B G.X G.T G.hh hd hu (by decide) hJ R hC vI jJ KG qy nt tM (λi n' v qp E5 J' s' hn h1 h2 h3 h4 yt Xj R'=>?_) (λqp E5 s' hn yt R'=>?_)
 ·have hp:=sm hn h1 h2 h4;have SA:=K2 _ _ _ qp E5 hi yt;rw [hp] at SA;refine bw (hI _ _ _ SA) λz9 z8 ak=>?_; refine aF ak λog2 Tt RO=>?_; clear ak
  refine sQ (R'.get Tt) RO ?_;refine (turn (Gp S (jM 983 9835) Lg l Cg vs tr g n' J') _ i v _ _ _ h3 SA _ (wb.refl _)).run R' λz9 m1 C1 s3 R3 q=>?_;refine q.run R3 λf m2 C2 s4 R4 q2=>?_
  rw [← h4] at R4;cases f with
  | next=>exact ⟨_,by exact Nat.lt_of_not_le λq=>Ql (Qa (Qc (Eq.symm hn)) (Qa (Qc h4) q)),i+1,m2,C2,J',rfl,Xj,R4,q2⟩
  | cont=>exact ⟨_,by exact Nat.lt_of_not_le λq=>Ql (Qa (Qc (Eq.symm hn)) (Qa (Qc h4) q)),i+1,m2,C2,J',rfl,Xj,R4,q2⟩
  | brk=>exact q2.elim
  | ret v=>exact q2.elim
 ·have fQ:passing tr vs.length r=[]:=List.eq_nil_of_length_eq_zero hn;rw [fQ] at hi;rw [hSt] at R';exact (fin _ _ _ (K2 _ _ _ qp E5 hi yt)).run R' λf m' C' s' R' q=>⟨m',C',R',q⟩
end
section
variable {S:Setup}{A:Around}{Qg:Heap}{L:Addr}{E:Value->Shared->Prop}{m:Loc}{C:Led}{env:Env}{n:Nat}
theorem zk {fN aN gN x name qual:Str}{fp ap gp vJ pos px xp yp ep ip Ax:Pos}{iter test:Expr}{fv av:Value}{fo c' l:Addr}{oc:Obj}{params:Arguments}{scope:Scope}{clos:List (Str×Addr)}{doc pm hU:Value}{Cg:Led}{vs:List Value}{tr:Nat->Bool}{Q:Value->Loc->Led->Prop} (G:Gd S n A Qg L env) (h8:8≤n) (hS:S.gn=AllBare) (MU:keepIn S.K fv=true)
  (hf:∀ Q':Value->Loc->Led->Prop,Q' fv m C->W S A Qg L E (eval (.Name fN fp) env) m C Q') (ha:∀ Q':Value->Loc->Led->Prop,Q' av m C->W S A Qg L E (eval (.Name aN ap) env) m C Q') (hg:∀ Q':Value->Loc->Led->Prop,Q' (.ref fo) m C->W S A Qg L E (eval (.Name gN gp) env) m C Q')
  (M7:C fo=some (fnMade name qual params [.For (.Name x px) iter [.If test [.Expr (.Yield (some (.Name x xp)) yp) ep] [] ip] [] Ax] scope clos doc pm c' hU)) (hc:S.cd c'=some oc) (ho:vV oc qual)
  (gm:∀ b,bindArgs (fnX name qual params b scope clos .none .none doc pm none (.ref c') hU) ⟨[],[]⟩=Pure.pure []) (cF:∀ x∈scope.names,x.2≠.cell) (rh:scope.isCoroutine=false) (pz:scope.isGenerator=true) (hk:scope.kind=.function)
  (hx:∀ Lg,(envX qual scope Lg fo (.ref c') clos).kindOf x=some .local) (Dh:(x == ("__debug__":Str))=false) (Km:("begin":Str)≠x) (hint:∀ Lg,interactive (envX qual scope Lg fo (.ref c') clos)=false) (vE:∀ Lg x,foldedSetIterable iter (envX qual scope Lg fo (.ref c') clos) x=Pure.pure x)
  (vI:∀ a o,Cg a=some o->C a=some o) (hl:cN Cg l vs) (hz:vs.length≤1000)
  (vw:∀ Lg i v bD A' hg E m C,Gd (S.quiet bD) 6 A' hg Lg (envX qual scope Lg fo (.ref c') clos)->vs[i]?=some v->m x=some v->(∀ a o,Cg a=some o->C a=some o)->W (S.quiet bD) A' hg Lg E (isTrue test (envX qual scope Lg fo (.ref c') clos) (eval test (envX qual scope Lg fo (.ref c') clos))) m C (λb m' C'=>b=tr i∧m'=m∧C'=C))
  (pq:∀ Lg bD A' hg E m,Gd (S.quiet bD) 6 A' hg Lg (envX qual scope Lg fo (.ref c') clos)->W (S.quiet bD) A' hg Lg E (eval iter (envX qual scope Lg fo (.ref c') clos)) m Cg (λv m' C'=>m'=m∧C'=Cg∧W (S.quiet bD) A' hg Lg E (pyIter v) m Cg (λit m' C'=>∃ a,it=.ref a∧Cg a=none∧m'=m∧C'=upd Cg a (lit l 0))))
  (h:∀ Lg Ga g oL og mL,C Lg=none->C Ga=none->Ga≠Lg->ua oL mL->GenObj og g->fS S Lg->WT (S.st (Gp S (jM 983 9835) Lg l Cg vs tr g (passing tr vs.length 0).length none)) S A Qg L E (call fv [av,.ref Ga]) m (upd (upd C Lg oL) Ga og) Q)
  (he:autoParam (starEach [.Name aN ap,.Call (.Name gN gp) [] [] vJ] env=[(false,eval (.Name aN ap) env),(false,eval (.Call (.Name gN gp) [] [] vJ) env)]) aR) :
  W S A Qg L E (eval (.Call (.Name fN fp) [.Name aN ap,.Call (.Name gN gp) [] [] vJ] [] pos) env) m C Q:=.mk2 λF s R=>by
 refine wpAny_Call_ofName ((hf (λv m' C'=>v=fv∧m'=m∧C'=C) ⟨rfl,rfl,rfl⟩).run R λv m' C' s1 R1 q=>?_);refine bw q λak e1 e2=>?_; clear q; subst ak
 obtain rfl:m=m':=e1.symm;obtain rfl:C=C':=e2.symm;refine callWith_K G.X MU (Calls.spliced_cons ((ha (λv m' C'=>v=av∧m'=m∧C'=C) ⟨rfl,rfl,rfl⟩).run R1 λv2 m' C' s2 R2 q=>Calls.spliced_cons ?_));refine bw q λak e1 e2=>?_; clear q; subst ak
 obtain rfl:m=m':=e1.symm;obtain rfl:C=C':=e2.symm;refine wpAny_Call_ofName ((hg (λv m' C'=>v=.ref fo∧m'=m∧C'=C) ⟨rfl,rfl,rfl⟩).run R2 λv m' C' s3 R3 q=>?_);refine bw q λak e1 e2=>?_; clear q; subst ak
 obtain rfl:m=m':=e1.symm;obtain rfl:C=C':=e2.symm;have gi:A.depth < recursionLimit:=by have:=G.d; exact Nat.lt_of_not_le λq=>Ql (Qa h8 (Qa (Qf this) q))
 have Aa:=pN R3 hc ho;obtain ⟨T,tb,dj,r⟩:=R3;refine callWith_F0 ⟨_,_,_,_,r.get M7⟩ ?_;refine wpAny_call (codeAny_call_generator gi (r.get M7) rfl rh pz rfl Aa ?_);show wpAny _ _ (bindArgs _ ⟨[],[]⟩) _ _ _;refine ae (gm _) ?_;refine wpAny_pure (wpAny_newFunctionEnv cF (by intro y hy; cases hy) (λek vA Mi=>?_) hk);have Sk:ek.NoLimit:=(G.T.nolimit.keeps r.fr.keep).fresh _ Mi;refine gX vA λoL es epo e1 e2 e3 e4=>?_; clear vA
 refine aS (r.newObj (tk:=s3.toks+0) e1 λb o hb e=>Mi.extBut b o (Nat.ne_of_lt hb) (Heap.get?_push_of_some _ e)) λfL R4=>?_;have Tq:s3.heap.objs.size < ek.objs.size:=Heap.lt_size e1
 have hB:fS S s3.heap.objs.size:=DN G.X G.T (Qb r.fr.above (Nat.le_of_lt r.fr.ns.lt));generalize jJ:s3.heap.objs.size=Lg at *;refine ⟨Sk,?_⟩;have R5:=R4.push { cls:=.type "generator",data:=.fields #[.int s3.gens.size 0,.str name (s3.toks+0),.str qual (s3.toks+0+1)] };have fG:=(R4.fresh_size (Nat.le_refl _)).1;have tM:ek.objs.size≠Lg:=Nat.ne_of_gt Tq;have Dm:AllBare s3.gens:=by have:=r.r.g; rw [hS] at this; exact this
 have hgp:Gp S (jM 983 9835) Lg l Cg vs tr s3.gens.size (passing tr vs.length 0).length none (s3.gens.push (.fresh (.func [.For (.Name x px) iter [.If test [.Expr (.Yield (some (.Name x xp)) yp) ep] [] ip] [] Ax] (envX qual scope Lg fo (.ref c') clos)))):=by
  refine ⟨Dm.push rfl,_,Array.getElem?_push_size ..,λfK hM hm hr=>?_⟩;refine (Aw (S:=S) (Ag:=jM 983 9835) (ng:=6) (tr:=tr) rfl (hx Lg) Dh Km rh (hint Lg) (vE Lg) hl hz (λA' s hg a1 a2 a3 X T=>⟨X,T,hk,?_,?_,a1,rfl,rfl,rfl⟩) (vw Lg) (pq Lg) hr hm).mono (λr s' ⟨I,b1,b2,b3,b4⟩=>⟨I,⟨b1,b2,b3⟩,b2,b4⟩) λv s' k c fs ⟨I,b1,b2,b3,b4⟩=>⟨I,⟨b1,b2,b3⟩,b1,b2,b4⟩
  ·have h1:(jM 983 9835).depth=983:=rfl;have h2:recursionLimit=1000:=rfl;exact Nat.lt_of_not_le λq=>Ql (Qa a2 (Qa (Qc (Eq.symm h2)) q))
  ·have h1:(jM 983 9835).units=9836:=rfl;have h2:cLine=9900:=rfl;exact Nat.lt_of_not_le λq=>Ql (Qa a3 (Qa (Qc (Eq.symm h2)) q))
 refine Calls.spliced_nil ⟨(G.X.keeps R5.r.F.keep),?_⟩;exact h Lg ek.objs.size s3.gens.size oL _ _ fL ((ag _ _ tM).symm.trans fG) tM ⟨es,epo,e2,e3,e4,rfl⟩ ⟨_,_,rfl,rfl,rfl⟩ hB F _ ⟨T,⟨tb.t,tb.c⟩,dj,⟨⟨R5.r.F,R5.r.N,hgp,R5.r.o⟩,R5.d⟩⟩
end
noncomputable def oU (a b:Int×Int):Bool:=if a.1=b.1 then decide (a.2 < b.2) else decide (a.1 < b.1)
noncomputable def xJ (C:Led) (a:Addr) (p:Int×Int):Prop:=∃ t0 t1 k,C a=some (bU [.int p.1 t0,.int p.2 t1] k)
section
variable {S:Setup}{A:Around}{Qg:Heap}{L:Addr}{E:Value->Shared->Prop}{m:Loc}{C F:Led}{env:Env}{n:Nat}
theorem EJ {prog:Program}{w:World}{s:Shared}{x y:Addr}{a b:Int×Int}{t0 t1 u0 u1:Tok}{k j:Nat}{Q:Bool->Shared->Prop} (hx:s.heap.get? x=some (bU [.int a.1 t0,.int a.2 t1] k)) (hy:s.heap.get? y=some (bU [.int b.1 u0,.int b.2 u1] j))
  (h:Q (oU a b) s):wpAny (model prog w) A (keyLt' (tuples' true) (.ref x) (.ref y)) Q E s:=by
 refine kat_lt hx rfl hy rfl ?_;show KatLex prog w A true false Q [(.int a.1 t0,.int b.1 u0),(.int a.2 t1,.int b.2 u1)] 0 s;unfold oU at h;refine kat_cons (wpAny_eqBool_int ?_);by_cases e:a.1=b.1
 ·rw [if_pos e] at h;refine ae (show (a.1 == b.1)=true by simp [e]) ?_;refine kat_yes (kat_cons (wpAny_eqBool_int ?_));by_cases e2:a.2=b.2
  ·refine ae (show (a.2 == b.2)=true by simp [e2]) ?_;refine kat_yes (kat_nil ?_);rw [show decide (a.2 < b.2)=false by simp [e2]] at h;exact h
  ·refine ae (show (a.2 == b.2)=false by simp [e2]) ?_;refine kat_no (kat_one _ _ ?_);exact lt_int h
 ·rw [if_neg e] at h;exact ae (show (a.1 == b.1)=false by simp [e]) (kat_no (oneLt_int h))
theorem sJ {a b:Int}{p q:Prop} (h:a < b∨a=b∧p) (hr:p->¬ q):¬(b < a∨b=a∧q) :=
 λk=>h.elim (λh=>k.elim (λk=>Int.lt_irrefl a (Int.lt_trans h k)) λk=>Int.ne_of_lt h k.1.symm) λh=>k.elim (λk=>Int.ne_of_lt k h.1.symm) λk=>hr h.2 k.2
theorem oT {a b c:Int}{p q r:Prop} (h:¬(b < a∨b=a∧p)) (h':¬(c < b∨c=b∧q)) (hr:¬p->¬q->¬r):¬(c < a∨c=a∧r):=by
 have h1:a≤b:=Int.not_lt.mp λk=>h (.inl k)
 have h2:b≤c:=Int.not_lt.mp λk=>h' (.inl k)
 rintro (k | ⟨k,w⟩)
 ·exact Int.not_lt.mpr (Int.le_trans h1 h2) k
 ·have e:b=a:=Int.le_antisymm (k▸h2) h1;exact hr (λv=>h (.inr ⟨e,v⟩)) (λv=>h' (.inr ⟨k.trans e.symm,v⟩)) w
theorem GY {a b:Int}{p q:Prop} (h:¬(a < b∨a=b∧p)) (h':¬(b < a∨b=a∧q)):a=b∧¬p∧¬q :=
 have e:=Int.le_antisymm (Int.not_lt.mp λk=>h' (.inl k)) (Int.not_lt.mp λk=>h (.inl k))
 ⟨e,λv=>h (.inr ⟨e,v⟩),λv=>h' (.inr ⟨e.symm,v⟩)⟩
theorem GZ {a b:Int} (h:¬a < b) (h':¬b < c):¬a < c:=Int.not_lt.mpr (Int.le_trans (Int.not_lt.mp h') (Int.not_lt.mp h))
theorem sM (a b:Int×Int):oU a b=decide (a.1 < b.1∨a.1=b.1∧a.2 < b.2):=by
 unfold oU;by_cases e:a.1=b.1
 ·rw [if_pos e];exact decide_eq_decide.mpr ⟨λh=>.inr ⟨e,h⟩,λh=>h.elim (λh=>absurd e (Int.ne_of_lt h)) And.right⟩
 ·rw [if_neg e];exact decide_eq_decide.mpr ⟨.inl,λh=>h.elim id λh=>absurd h.1 e⟩
theorem zE (a b:Int×Int) (h:oU a b=true):oU b a=false:=by
 rw [sM] at h ⊢;exact decide_eq_false (sJ (of_decide_eq_true h) λh=>Int.not_lt.mpr (Int.le_of_lt h))
theorem wZ (a b c:Int×Int) (h:oU b a=false) (h':oU c b=false):oU c a=false:=by
 rw [sM] at h h' ⊢;exact decide_eq_false (oT (of_decide_eq_false h) (of_decide_eq_false h') λx y=>GZ y x)
theorem B7 {a b:Int×Int} (h:oU b a=false):a.1≤b.1:=by
 rw [sM] at h;exact Int.not_lt.mp λk=>of_decide_eq_false h (.inl k)
theorem xJ.sub {C C':Led}{a:Addr}{p:Int×Int} (h:xJ C a p) (hs:∀ z o,C z=some o->C' z=some o):xJ C' a p:=let ⟨t0,t1,k,e⟩:=h; ⟨t0,t1,k,hs _ _ e⟩
theorem qG {h:Heap} (hC:∀ a o,C a=some o->h.get? a=some o):∀ (ks:List Value),(∀ k∈ks,∃ a p,k=.ref a∧xJ C a p)->∃ fs,KatTups h ks fs∧fs.length=ks.length∧∀ v∈fs,∃ i t,v=.int i t
 | [],_=>⟨[],.nil,rfl,λz9 h=>by cases h⟩
 | k::ks,hk=>by
  refine bF (qG hC ks λk' h=>hk k' (.tail _ h)) λfs k1 k2 k3=>?_;refine dB (hk k (.head _)) λa p aZ=>?_; refine c_ aZ λak t0 t1 kk e=>?_; clear aZ; subst ak
  refine ⟨.int p.1 t0::fs,KatTups.cons (hC _ _ e) rfl rfl (by rfl) k1,by simp [k2],λv hv=>?_⟩;rcases List.mem_cons.mp hv with rfl | hv
  ·exact ⟨_,_,rfl⟩
  ·exact k3 v hv
theorem qg {x:Value}{f:Addr}{vs:List Value}{kf:Nat->Int×Int}{Q:Value->Loc->Led->Prop} (h1:1≤vs.length) (h6:vs.length≤6)
  (gz:∀ E F s Q,Rel S Qg L m C F s->(∀ s',Rel S Qg L m C F s'->Q vs s')->wpAny (model S.prog S.w) A.in1 (collect x) Q E s)
  (key:∀ i C' F s Q',i < vs.length->(∀ z o,C z=some o->C' z=some o)->Rel S Qg L m C' F s->(∀ a cf s',(∀ z o,C' z=some o->cf z=some o)->xJ cf a (kf i)->Rel S Qg L m cf F s'->Q' (.ref a) s')->wpAny (model S.prog S.w) A.in1.in1 (call (.ref f) [vs.getD i .none]) Q' (λz9 z8=>False) s)
  (fin:∀ D (p:List Nat) k C',p.Perm (List.range vs.length)->p.Pairwise (λi j=>(kf i).1≤(kf j).1)->(∀ z o,C z=some o->C' z=some o)->C' D=none->Q (.ref D) m (upd C' D (listOf (p.map λi=>vs.getD i .none).toArray k))) :
  W S A Qg L E (call (.builtin "sorted") [x] [("key",.ref f)]) m C Q:=by
 by_cases h2:2≤vs.length
 ·refine uI (κ:=tuples' true) (lt:=λi j=>oU (kf i) (kf j)) ⟨λz9 z8=>zE _ _,λz9 z8 z7=>wZ _ _ _⟩ h2 h6 (λC i k=>∃ a,k=.ref a∧xJ C a (kf i)) gz (λC' cf i k hs q=>q.elim λa q=>⟨a,q.1,q.2.sub hs⟩) (λi C' F s Q' hi hC R hQ=>key i C' F s Q' hi hC R λa cf s' tN r R'=>hQ _ cf s' tN ⟨a,rfl,r⟩ R') (λks C' F s Q' hl hk R hQ=>?_) (λks i j C' F s Q' hi hj hk R hQ=>?_) (λD p k C' hp hr hC hD=>fin D p k C' hp (hr.imp λh=>B7 h) hC hD)
  ·obtain ⟨fs,k1,k2,k3⟩:=qG (C:=C') (h:=s.heap) (λa o e=>R.get e) ks λk hkm=>by
    obtain ⟨i,hi,rfl⟩:=List.getElem_of_mem hkm;refine aF (hk i (Nat.lt_of_not_le λq=>Ql (Qa (Qc hl) (Qa (Qf hi) q)))) λa e r=>?_;rw [List.getD_eq_getElem?_getD,List.getElem?_eq_getElem hi] at e
    exact ⟨a,_,e,r⟩
   refine kat_kind (T:=.type "int") k1 (by exact Nat.lt_of_not_le λq=>Ql (Qa h1 (Qa (Qc (Eq.symm hl)) (Qa (Qc (Eq.symm k2)) q)))) (λv hv=>?_) (by rfl) ?_
   ·refine dB (k3 v hv) λi t ak=>?_; subst ak
    exact Looks.of_pure rfl
   ·exact hQ s R
  ·refine aQ (hk i hi) λa ak=>?_; refine c_ ak λea t0 t1 k e=>?_; clear ak
   refine aQ (hk j hj) λb ak=>?_; refine c_ ak λeb u0 u1 k' e'=>?_; clear ak
   refine ae ea (ae eb ?_);exact EJ (R.get e) (R.get e') (hQ s R)
 ·refine aQ (List.length_eq_one_iff.mp (Nat.le_antisymm (Qd λq=>Ql (Qa q (Nat.gt_of_not_le h2))) (Qd λq=>Ql (Qa h1 q))):∃ v,vs=[v]) λv ak=>?_; subst ak
  exact rT gz (λC' F s Q' hC R hQ=>key 0 C' F s Q' (Nat.lt_succ_self 0) hC R λa cf s' tN z9 R'=>hQ _ cf s' tN R') λD k C' hC hD=>fin D [0] k C' (List.Perm.refl _) (List.pairwise_singleton _ _) hC hD
theorem fX {o i:Expr}{pos:Pos}{v:Value}{Q:Unit->Loc->Led->Prop} (h:W S A Qg L E (eval o env) m C (pZ S A Qg L E (λov=>eval i env) λov=>(Bd S A Qg L E (λiv=>setItem ov iv v) Q))):W S A Qg L E (assign (.Subscript o i pos) env v) m C Q:=.mk2 λF s R=>by
 exact kas_sub (h.run R λz9 z8 z7 z6 R1 q=>q.run R1 λz9 z8 z7 z6 R2 q2=>q2.go F _ R2)
end
set_option genInjectivity false in
structure e_ where
 w:World
 os:OsState
 dr:Drawn
 gn:Array GenState->Prop
 tb:Addr->Bool
 tq:Nat->Nat->Str
 cd:Led
 loose:List Str
 mg:Str->Option Value
 mb:Str->Option Value
noncomputable def oQ:Frag->Frag
 | []=>[]
 | p::r=>if p.1 == 67 || p.1 == 434 then oQ r else p::oQ r
noncomputable abbrev KK (P:e_):Frag:=oQ (kf P.w.params)
noncomputable abbrev S2 (P:e_):Setup:={ prog:=PySem.Challenge.pw_jr0008_02,w:=P.w,os:=P.os,dr:=P.dr,gn:=P.gn,tb:=P.tb,tq:=P.tq,cd:=P.cd,K:=KK P,p:=topProg,loose:=P.loose,mg:=P.mg,mb:=P.mb }
section
variable {P:e_}
theorem Fx:fT (KK P) 279 "begin"=true:=by kernel_rfl
theorem Fu:fT (KK P) 279 "end"=true:=by kernel_rfl
theorem Fv:fT (KK P) 279 "data"=true:=by kernel_rfl
theorem yc:setOk (KK P) 279 "begin"=true:=by kernel_rfl
theorem Fp:setOk (KK P) 279 "end"=true:=by kernel_rfl
theorem Fq:setOk (KK P) 279 "data"=true:=by kernel_rfl
theorem IP:fT (KK P) 122 "rows"=true:=by kernel_rfl
theorem sX:setOk (KK P) 122 "rows"=true:=by kernel_rfl
theorem IH:fT (KK P) 491 "x_center"=true:=by kernel_rfl
theorem II:fT (KK P) 491 "s_center"=true:=by kernel_rfl
theorem IK:fT (KK P) 491 "left_node"=true:=by kernel_rfl
theorem IJ:fT (KK P) 491 "right_node"=true:=by kernel_rfl
theorem IL:fT (KK P) 491 "depth"=true:=by kernel_rfl
theorem IM:fT (KK P) 491 "balance"=true:=by kernel_rfl
theorem w6:setOk (KK P) 491 "x_center"=true:=by kernel_rfl
theorem Iy:setOk (KK P) 491 "s_center"=true:=by kernel_rfl
theorem IA:setOk (KK P) 491 "left_node"=true:=by kernel_rfl
theorem Iz:setOk (KK P) 491 "right_node"=true:=by kernel_rfl
theorem IB:setOk (KK P) 491 "depth"=true:=by kernel_rfl
theorem IC:setOk (KK P) 491 "balance"=true:=by kernel_rfl
theorem IG:fT (KK P) 857 "all_intervals"=true:=by kernel_rfl
theorem IE:fT (KK P) 857 "top_node"=true:=by kernel_rfl
theorem IF:fT (KK P) 857 "boundary_table"=true:=by kernel_rfl
theorem Ce:setOk (KK P) 857 "all_intervals"=true:=by kernel_rfl
theorem Iu:setOk (KK P) 857 "top_node"=true:=by kernel_rfl
theorem Iw:setOk (KK P) 857 "boundary_table"=true:=by kernel_rfl
theorem gE:bM (KK P) 122 "__contains__" 65=true:=by kernel_rfl
theorem jt:bM (KK P) 122 "__iter__" 44=true:=by kernel_rfl
theorem oX:bM (KK P) 122 "__len__" 51=true:=by kernel_rfl
theorem zJ:bM (KK P) 122 "__bool__" 58=true:=by kernel_rfl
theorem Fj:bM (KK P) 122 "__eq__" 72=true:=by kernel_rfl
theorem Fn:bM (KK P) 279 "__eq__" 213=true:=by kernel_rfl
theorem Fl:bM (KK P) 279 "__lt__" 227=true:=by kernel_rfl
theorem Cc:bM (KK P) 491 "__getitem__" 474=true:=by kernel_rfl
theorem Cb:bM (KK P) 491 "__setitem__" 481=true:=by kernel_rfl
theorem l9:bM (KK P) 122 "__init__" 37=true:=by kernel_rfl
theorem w5:bM (KK P) 279 "__init__" 148=true:=by kernel_rfl
theorem qU:bM (KK P) 491 "__init__" 299=true:=by kernel_rfl
theorem zI:bM (KK P) 857 "__init__" 520=true:=by kernel_rfl
theorem jW:bM (KK P) 857 "__contains__" 825=true:=by kernel_rfl
theorem zH:bM (KK P) 857 "__iter__" 840=true:=by kernel_rfl
theorem Cf:makesIn (KK P) 122=true:=by kernel_rfl
theorem ID:makesIn (KK P) 279=true:=by kernel_rfl
theorem G0:makesIn (KK P) 491=true:=by kernel_rfl
theorem LM:makesIn (KK P) 857=true:=by kernel_rfl
theorem vg:bI (KK P) 122 "update" 86=true:=by kernel_rfl
theorem Cq:bI (KK P) 122 "add" 79=true:=by kernel_rfl
theorem sZ:bI (KK P) 122 "discard" 91=true:=by kernel_rfl
theorem vi:bI (KK P) 122 "remove" 98=true:=by kernel_rfl
theorem w9:bI (KK P) 122 "difference_update" 105=true:=by kernel_rfl
theorem Cr:bI (KK P) 279 "contains_point" 171=true:=by kernel_rfl
theorem xa:bI (KK P) 279 "is_null" 199=true:=by kernel_rfl
theorem w_:bI (KK P) 279 "overlaps" 156=true:=by kernel_rfl
theorem zR:bI (KK P) 279 "compare" 220=true:=by kernel_rfl
theorem Cj:bI (KK P) 491 "rotate" 371=true:=by kernel_rfl
theorem zM:bI (KK P) 491 "srotate" 376=true:=by kernel_rfl
theorem zO:bI (KK P) 491 "drotate" 383=true:=by kernel_rfl
theorem sY:bI (KK P) 491 "refresh_balance" 357=true:=by kernel_rfl
theorem zN:bI (KK P) 491 "init_from_sorted" 336=true:=by kernel_rfl
theorem Cn:bI (KK P) 491 "center_hit" 343=true:=by kernel_rfl
theorem vf:bI (KK P) 491 "hit_branch" 350=true:=by kernel_rfl
theorem Cp:bI (KK P) 491 "add" 390=true:=by kernel_rfl
theorem ve:bI (KK P) 491 "remove" 397=true:=by kernel_rfl
theorem Ck:bI (KK P) 491 "remove_interval_helper" 411=true:=by kernel_rfl
theorem w8:bI (KK P) 491 "prune" 432=true:=by kernel_rfl
theorem Cm:bI (KK P) 491 "pop_greatest_child" 439=true:=by kernel_rfl
theorem Co:bI (KK P) 491 "all_children" 453=true:=by kernel_rfl
theorem zQ:bI (KK P) 491 "all_children_helper" 460=true:=by kernel_rfl
theorem vd:bI (KK P) 491 "verify" 467=true:=by kernel_rfl
theorem w7:bI (KK P) 857 "set_up" 528=true:=by kernel_rfl
theorem zL:bI (KK P) 857 "_add_boundaries" 542=true:=by kernel_rfl
theorem zK:bI (KK P) 857 "_remove_boundaries" 549=true:=by kernel_rfl
theorem Ci:bI (KK P) 857 "add" 556=true:=by kernel_rfl
theorem u_:bI (KK P) 857 "remove" 578=true:=by kernel_rfl
theorem u9:bI (KK P) 857 "verify" 811=true:=by kernel_rfl
theorem DJ:specialIn (KK P) (.ref 491) "__getattribute__"=some (some (.builtin "type.__getattribute__")):=by kernel_rfl
theorem DE:typeIn (KK P) (.ref 491)=some (.type "type"):=by kernel_rfl
theorem DF:readsIn (KK P) 491 (.type "type")=true:=by kernel_rfl
theorem HF:findCls (KK P) (.ref 491) (.type "type") "from_interval"=some (.get (.builtin "classmethod.__get__") (.ref 308) .none (.ref 491)):=by kernel_rfl
theorem J1:findCls (KK P) (.ref 491) (.type "type") "from_intervals"=some (.get (.builtin "classmethod.__get__") (.ref 318) .none (.ref 491)):=by kernel_rfl
theorem DK:findCls (KK P) (.ref 491) (.type "type") "from_sorted_intervals"=some (.get (.builtin "classmethod.__get__") (.ref 328) .none (.ref 491)):=by kernel_rfl
theorem Nz:nsIn (KK P) mainGlobals "Interval"=some (some (.ref 279)):=by kernel_rfl
theorem TL:nsIn (KK P) mainGlobals "Members"=some (some (.ref 122)):=by kernel_rfl
theorem TK:nsIn (KK P) mainGlobals "Node"=some (some (.ref 491)):=by kernel_rfl
theorem TJ:nsIn (KK P) mainGlobals "IntervalTree"=some (some (.ref 857)):=by kernel_rfl
end
class jl (P:e_):Prop where
 g:P.gn=AllBare
 t:P.tb 434=true
 c:P.cd 434=none
 q1:P.tq 317 44="Node.pop_greatest_child.<locals>.<lambda>"
 q2:P.tq 326 12="Node.pop_greatest_child.<locals>.get_new_s_center"
noncomputable def nU (P:e_) (body:List Stmt) (qual:Str) (scope:Scope):Prop :=
 ∀ [jl P] {fa:Addr}{eN:Value}{A:Around}{base:Heap}{L:Addr}{E:Value->Shared->Prop},Gd (S2 P) 300 A base L (envOf qual scope L fa eN) →
  ∀ {C:Led}{sl:Addr}{vs:List Value}{ns:List Int},C sl=some (listOf vs.toArray 0)->IntsAre vs ns->ns.length≤63->dZ C 67 →
   ∀ Q,Mon (λfl z9 C'=>fl=.ret (.bool true)∧C' sl=some (listOf vs.toArray 0)∧dZ C' 67) Q->W (S2 P) A base L E (execs body (envOf qual scope L fa eN)) (λy=>[(("script":Str),Value.ref sl)].reverse.lookup y) C Q
noncomputable def fnAt (K:Frag) (a:Addr):List Stmt×Str×Scope:=match K.lookup a with
 | some ⟨_,_,.func f,_⟩=>(match f.body with | .stmts b=>(b,f.qualname,f.scope) | _=>([],f.qualname,f.scope))
 | _=>([],default,default)
noncomputable def mz (P:e_):Prop:=nU P (fnAt (KK P) 897).1 (fnAt (KK P) 897).2.1 (fnAt (KK P) 897).2.2
theorem BM:Nonempty e_:=⟨{ w:=⟨λz9 z8=>0,{ strHash:=λz9=>0,shareClass:=λz9=>0,mergeTok:=id,idOf:=λz9=>0,idOfShared:=λz9 z8=>0,followText:=λz9=>false,idOfImm:=λz9=>0 }⟩,os:={},dr:={},gn:=λz9=>True,tb:=λz9=>false,tq:=λz9 z8=>"",cd:=λz9=>none,loose:=[],mg:=λz9=>none,mb:=λz9=>none }⟩
@[irreducible] noncomputable def P:e_:=@Classical.epsilon e_ BM λP=>¬ mz P
theorem Fi (h:mz P):∀ Q:e_,mz Q:=by
 unfold P at h;refine Classical.not_exists_not.mp λ⟨Q,n⟩=>?_;exact @Classical.epsilon_spec_aux e_ BM (λP=>¬ mz P) ⟨Q,n⟩ h
section
variable {P:e_}
theorem Gn:nsIn (KK P) mainGlobals "_law_next"=some (some (.ref 868)):=by kernel_rfl
theorem Gm:nsIn (KK P) mainGlobals "_law_told"=some (some (.ref 873)):=by kernel_rfl
theorem Gl:nsIn (KK P) mainGlobals "_law_walk"=some (some (.ref 878)):=by kernel_rfl
theorem Av:nsIn (KK P) mainGlobals "_law_bounds"=some (some (.ref 885)):=by kernel_rfl
theorem Au:nsIn (KK P) mainGlobals "_law_stands"=some (some (.ref 892)):=by kernel_rfl
end
section
local macro_rules | `(tactic| walk_at $s:str)=>sKey wkTab s.getString
section
variable {P:e_}
noncomputable abbrev Iv:=Int×Int×Int
noncomputable abbrev U3 (iv:Iv) (tb te td:Tok):List (Str×Value):=[("begin",.int iv.1 tb),("end",.int iv.2.1 te),("data",.int iv.2.2 td)]
inductive b_ (C:Led) (x:Addr) (iv:Iv):Prop
 | mk:∀ d od tb te td,C x=some (instObj 279 d)->C d=some od->dk od (U3 iv tb te td)->b_ C x iv
theorem xd {C:Led}{x y:Addr}{a b:Iv} (hx:b_ C x a) (hy:b_ C y b):Spec (S2 P) 2 (.ref 213) [.ref x,.ref y] [] C λv C'=>v=.bool (decide (a=b))∧C'=C:=by
 obtain ⟨dx,ox,yL,AK,Kb,ug,tH,D9⟩:=hx;obtain ⟨dy,oy,GK,GJ,Ut,Kl,L0,LZ⟩:=hy;refine' ax (n:=1) (binds:=[("self",.ref x),("other",.ref y)]) ?ho ?hb ?hp ?_;walk_at "D";walk_at "r";refine cB (λh1=>?_) (λh1=>?_)
 ·walk_at "r";refine cB (λh2=>?_) (λh2=>?_)
  ·walk_at "r";refine ⟨?_,rfl⟩;obtain ⟨a1,a2,a3⟩:=a;obtain ⟨b1,b2,b3⟩:=b;simp only [beq_iff_eq] at h1 h2;subst h1 h2;simp [gf];rfl
  ·walk_at "r";refine ⟨?_,rfl⟩;simp only [beq_iff_eq] at h2;have:a≠b:=λe=>h2 (ae e rfl)
   simp [gf,h2,this]
 ·walk_at "r";refine ⟨?_,rfl⟩;simp only [beq_iff_eq] at h1;have:a≠b:=λe=>h1 (ae e rfl)
  simp [gf,h1,this]
theorem qB {S:Setup}{Qg:Heap}{L:Addr}{m:Loc}{C:Led}{y:Addr}{b:Iv} (hy:b_ C y b) (M:Model) (F:Led) (s:Shared) (R:Rel S Qg L m C F s):Looks M s.heap (typeOf (.ref y)) (.ref 279):=by
 obtain ⟨dy,oy,GK,GJ,Ut,Kl,L0,LZ⟩:=hy;exact kK R Kl
theorem LL:notFirst (KK P) 279 (.ref 279)=true:=by kernel_rfl
theorem r0 {A:Around}{Qg:Heap}{L:Addr}{E:Value->Shared->Prop}{m:Loc}{env:Env}{n:Nat}{C:Led}{x y:Addr}{a b:Iv}{Q:Value->Loc->Led->Prop} (G:Gd (S2 P) n A Qg L env) (hx:b_ C x a) (hy:b_ C y b)
  (h:Q (.bool (decide (a=b))) m C) (hn:autoParam (3≤n) aO):W (S2 P) A Qg L E (compareOp .Eq (.ref x) (.ref y)) m C Q:=by
 obtain ⟨dx,ox,yL,AK,Kb,ug,tH,D9⟩:=id hx;refine GS (n:=2) (G.le hn) ug tH (qB hy) LL Fn rfl ((xd hx hy).mono (R':=λv C'=>v≠.notImplemented∧v=.bool (decide (a=b))∧C'=C) λv C' q=>⟨(by refine ae q.1 ?_; intro e; injection e),q⟩) λv C' q=>?_;refine ae q.1 (ae q.2 ?_); exact h
inductive aP (C:Led):List Addr->List Iv->Prop
 | nil:aP C [] []
 | cons {a:Addr}{iv:Iv}{as:List Addr}{ivs:List Iv}:b_ C a iv->aP C as ivs->aP C (a::as) (iv::ivs)
end
section
variable {P:e_}
noncomputable abbrev FP:=Addr->Nat
noncomputable def one (a:Addr):FP:=λz=>if z=a then 1 else 0
theorem aj (a:Addr):one a a=1:=if_pos rfl
theorem aG {a z:Addr} (h:z≠a):one a z=0:=if_neg h
theorem one_pos {a z:Addr} (h:one a z≠0):z=a:=by
 by_cases q:z=a
 ·exact q
 ·exact absurd (aG q) h
theorem one_le (a z:Addr):one a z≤1:=by unfold one; split <;> exact Qe rfl
theorem A8 {a b:Addr} (h:a≠b) (z:Addr):one a z+one b z≤1:=by
 by_cases q:z=a
 ·exact ae (aG (a:=b) (z:=z) (q▸h)) (one_le a z)
 ·exact ae (aG (a:=a) q) (ae (Nat.zero_add _) (one_le b z))
theorem two_pos {a b z:Addr} (h:one a z+one b z≠0):z=a∨z=b:=by
 by_cases q:one a z=0
 ·exact .inr (one_pos (bK (vM h (Gv q (vK au)))))
 ·exact .inl (one_pos q)
noncomputable def isDict (o:Obj):Prop:=∃ es n,o=dictOf es n
noncomputable def LU (o:Obj):Prop:=∃ vs n,o=listOf vs n
noncomputable def yF (o:Obj):Prop:=(∃ iv tb te td,dk o (U3 iv tb te td))∨(¬ isDict o∧¬ LU o∧∀ vs,o.data≠.fields vs)
noncomputable def aq (fp:FP) (C C':Led):Prop:=∀ a o,C a=some o->(yF o∨fp a=0)->C' a=some o
noncomputable def Own (C:Led) (fp fp':FP):Prop:=(∀ z,fp' z≤1)∧∀ z,fp' z≠0->fp z≠0∨C z=none
noncomputable def m9 (C:Led) (fp:FP):Prop:=∀ z,fp z≠0->C z≠none
theorem cE (c d:Addr):yF (instObj c d):=.inr ⟨λ⟨es,n,e⟩=>(by have:=congrArg Obj.data e; injection this),λ⟨es,n,e⟩=>(by have:=congrArg Obj.data e; injection this),(by intro vs e; injection e)⟩
theorem yj (vs:List Value) (n:Nat):yF (bU vs n):=.inr ⟨λ⟨es,n,e⟩=>(by have:=congrArg Obj.data e; injection this),λ⟨es,n,e⟩=>(by have:Value.type "tuple"=Value.type "list":=congrArg Obj.cls e; exact absurd this (by decide)),(by intro vs e; injection e)⟩
theorem dk.inj {o:Obj}{fs gs:List (Str×Value)} (h:dk o fs) (h':dk o gs):fs=gs:=by
 refine bg h λes n ak he=>?_; clear h; subst ak
 refine bg h' λes' n' e v8=>?_; clear h'
 have q:es=es':=by
  have:=congrArg Obj.data e;simp only [Data.dict.injEq] at this;have:=this.1;simpa using this
 subst q;rw [he] at v8;clear he e;induction fs generalizing gs with
 | nil=>cases gs with
  | nil=>rfl
  | cons _ _=>simp at v8
 | cons p fs ih=>cases gs with
  | nil=>simp at v8
  | cons q gs =>
   simp only [List.map_cons,List.cons.injEq,Prod.mk.injEq,Option.some.injEq] at v8;refine aS v8 λak c=>?_; clear v8; obtain ⟨a,b⟩:=ak
   refine ae (ih c) ?_;congr 1;exact Prod.ext a b
theorem dk.isDict {o:Obj}{fs:List (Str×Value)} (h:dk o fs):isDict o:=by
 refine bg h λes n ak he=>?_; clear h; subst ak
 exact ⟨es,n,rfl⟩
theorem ig {o:Obj}{fs:List (Str×Value)} (h:dk o fs) (hf:fs.head?.map (·.1)≠some ("begin":Str)):¬ yF o:=by
 rintro (⟨iv,tb,te,td,h'⟩ | ⟨h',-⟩)
 ·have:=h.inj h';subst this;exact hf rfl
 ·exact h' h.isDict
theorem fq {o:Obj}{v:Value} (h:dk o [("rows",v)]):¬ yF o:=ig h (by intro e; exact absurd (Option.some.inj e) (by decide:("rows":Str)≠"begin"))
theorem dX {vs:Array Value}{n:Nat}:¬ yF (listOf vs n):=by
 rintro (⟨iv,tb,te,td,h'⟩ | ⟨-,h'⟩)
 ·refine bg h' λes n e z9=>?_; clear h'
  have:=congrArg Obj.data e;injection this
 ·exact h'.1 ⟨vs,n,rfl⟩
theorem aq.refl {fp:FP}{C:Led}:aq fp C C:=λz9 z8 e z7=>e
theorem aq.of_sub {fp:FP}{C C':Led} (h:∀ a o,C a=some o->C' a=some o):aq fp C C':=λa o e z9=>h a o e
theorem aq.mono {fp fp':FP}{C C':Led} (h:aq fp C C') (hf:∀ z,fp' z=0->fp z=0):aq fp' C C':=λa o e q=>h a o e (q.imp id (hf a))
theorem aq.trans {fp fp':FP}{C C' cf:Led} (h:aq fp C C') (h':aq fp' C' cf) (hf:∀ z,fp' z≠0->fp z≠0∨C z=none):aq fp C cf:=λa o e q=>by
 refine h' a o (h a o e q) (q.imp id λz=>?_);by_cases y:fp' a=0
 ·exact y
 ·rcases hf a y with w | w
  ·exact absurd z w
  ·exact bo w e
theorem aq.new {fp:FP}{C C':Led}{a:Addr}{o:Obj} (h:aq fp C C') (ha:C a=none):aq fp C (upd C' a o):=λb x e q=>by
 have:b≠a:=λz=>by rw [z] at e; exact bo ha e
 exact ae (ag _ _ this) (h b x e q)
theorem aq.upd {fp:FP}{C C':Led}{a:Addr}{o:Obj} (h:aq fp C C') (hf:fp a≠0) (hi:∀ o,C a=some o->¬ yF o):aq fp C (upd C' a o):=λb x e q=>by
 have:b≠a:=λz=>by
  subst z;rcases q with q | q
  ·exact hi x e q
  ·exact hf q
 exact ae (ag _ _ this) (h b x e q)
theorem Own.refl {C:Led}{fp:FP} (h:∀ z,fp z≤1):Own C fp fp:=⟨h,λz9 q=>.inl q⟩
theorem Own.trans {C C':Led}{fp fp' Ay:FP} (h:Own C fp fp') (h':Own C' fp' Ay) (hC:∀ z,C' z=none->C z=none):Own C fp Ay:=⟨h'.1,λz q=>by
 rcases h'.2 z q with w | w
 ·exact h.2 z w
 ·exact .inr (hC z w)⟩
noncomputable def More (C C':Led):Prop:=∀ z,C' z=none->C z=none
theorem More.refl {C:Led}:More C C:=λz9 h=>h
theorem More.trans {C C' cf:Led} (h:More C C') (h':More C' cf):More C cf:=λz q=>h z (h' z q)
theorem More.upd {C C':Led}{a:Addr}{o:Obj} (h:More C C'):More C (upd C' a o):=λz q=>by
 by_cases y:z=a
 ·subst y; exact bo q (af ..)
 ·rw [ag _ _ y] at q; exact h z q
theorem More.of_sub {C C':Led} (h:∀ a o,C a=some o->C' a=some o):More C C':=λz q=>by
 cases e:C z with
 | none=>rfl
 | some o=>exact bo q (h z o e)
theorem m9.more {C C':Led}{fp:FP} (h:m9 C fp) (hm:More C C'):m9 C' fp:=λz q y=>h z q (hm z y)
theorem b_.keep {fp:FP}{C C':Led}{x:Addr}{iv:Iv} (h:b_ C x iv) (k:aq fp C C'):b_ C' x iv:=by
 obtain ⟨d,od,tb,te,td,h1,h2,h3⟩:=h;exact ⟨d,od,tb,te,td,k _ _ h1 (.inl (cE _ _)),k _ _ h2 (.inl (.inl ⟨_,_,_,_,h3⟩)),h3⟩
theorem aP.keep {fp:FP}{C C':Led}{as:List Addr}{ivs:List Iv} (h:aP C as ivs) (k:aq fp C C'):aP C' as ivs:=by
 induction h with
 | nil=>exact .nil
 | cons a _ ih=>exact .cons (a.keep k) ih
theorem aP.len {C:Led}{as:List Addr}{ivs:List Iv} (h:aP C as ivs):as.length=ivs.length:=by
 induction h with
 | nil=>rfl
 | cons a _ ih=>simp [ih]
theorem aP.app {C:Led}{as bs:List Addr}{ivs gv:List Iv} (h:aP C as ivs) (h':aP C bs gv):aP C (as++bs) (ivs++gv):=by
 induction h with
 | nil=>exact h'
 | cons a _ ih=>exact .cons a ih
theorem cN.keep {fp:FP}{C C':Led}{l:Addr}{vs:List Value} (h:cN C l vs) (k:aq fp C C') (hf:fp l=0):cN C' l vs:=by
 refine aQ h λn h=>?_;exact ⟨n,k _ _ h (.inr hf)⟩
inductive br (C:Led) (x:Addr) (fp:FP) (ivs:List Iv):Prop
 | mk:∀ dx od rl as,C x=some (instObj 122 dx)->C dx=some od->dk od [("rows",.ref rl)]->cN C rl (as.map Value.ref)->aP C as ivs->(∀ z,fp z=one dx z+one rl z)->br C x fp ivs
theorem br.keep {fp fp':FP}{C C':Led}{x:Addr}{ivs:List Iv} (h:br C x fp ivs) (k:aq fp' C C') (hd:∀ z,fp z≠0->fp' z=0):br C' x fp ivs:=by
 obtain ⟨dx,od,rl,as,h1,h2,h3,h4,h5,h6⟩:=h;have e1:fp dx≠0:=by refine ae (h6 _) (ae (aj _) ?_); exact bK (bT (az au))
 have e2:fp rl≠0:=by refine ae (h6 _) (ae (aj _) ?_); exact bK (bT (aV au))
 exact ⟨dx,od,rl,as,k _ _ h1 (.inl (cE _ _)),k _ _ h2 (.inr (hd _ e1)),h3,h4.keep k (hd _ e2),h5.keep k,h6⟩
theorem br.alive {fp:FP}{C:Led}{x:Addr}{ivs:List Iv} (h:br C x fp ivs):m9 C fp:=by
 obtain ⟨dx,od,rl,as,h1,h2,h3,⟨k,h4⟩,h5,h6⟩:=h;intro z hz e;rw [h6] at hz;by_cases q:one dx z=0
 ·have:=one_pos (a:=rl) (z:=z) (bK (vM hz (Gv q (vK au))));rw [this] at e; exact bo e h4
 ·rw [one_pos q] at e; exact bo e h2
theorem gG {o:Obj}{fs:List (Str×Value)}{vs:Array Value}{k:Nat} (h:dk o fs):o≠listOf vs k:=by
 refine bg h λes n ak he=>?_; clear h; subst ak
 intro e;have:=congrArg Obj.data e;injection this
theorem br.sep {fp:FP}{C:Led}{x:Addr}{ivs:List Iv} (h:br C x fp ivs):∀ z,fp z≤1:=by
 obtain ⟨dx,od,rl,as,h1,h2,h3,⟨k,h4⟩,h5,h6⟩:=h;intro z;refine ae (h6 _) ?_;by_cases q:z=dx
 ·subst q;have:z≠rl:=λe=>by
   subst e;rw [h4] at h2;replace h2:=Option.some.inj h2; subst h2;exact gG h3 rfl
  refine ae (aj _) (ae (aG this) ?_);exact Nat.le_refl _
 ·refine ae (aG q) ?_;unfold one;split <;> exact Qe rfl
end
section
variable {P:e_}
theorem gP {C:Led}{x v:Addr}{fp:FP}{ivs:List Iv}{iv:Iv} (hm:br C x fp ivs) (hv:b_ C v iv):Spec (S2 P) 5 (.ref 65) [.ref x,.ref v] [] C λr C'=>r=.bool (decide (iv∈ivs))∧C'=C:=by
 obtain ⟨dx,od,rl,as,hx,bC,hf,hl,dQ,aM⟩:=hm;refine' ax (n:=4) (binds:=[("self",.ref x),("member",.ref v)]) ?ho ?hb ?hp ?_;walk_at "D";walk_at "r";refine bO hl (λa ha=>?_);refine bX (vs:=as.map Value.ref) G ha (λrest m C'=>C'=C∧m "member"=some (.ref v)∧∃ bV aK,rest=bV.map Value.ref∧aP C bV aK∧decide (iv∈ivs)=decide (iv∈aK)) ?_ ?_ ?_ ?_
 ·rintro rest m C' ⟨rfl,-⟩; exact hl
 ·exact ⟨rfl,rfl,as,ivs,rfl,dQ,rfl⟩
 ·intro E u rest m C' _ q0 J hJ;refine bw q0 λak hm aZ=>?_; clear q0; refine bx aZ λbV aK hr hi hd=>?_; clear aZ; subst ak
  cases hi with
  | nil=>injection hr
  | @cons b jv bs gv hb gR =>
   simp only [List.map_cons,List.cons.injEq] at hr;refine aS hr λak aZ=>?_; clear hr; subst ak; subst aZ
   walk_at "r";refine r0 G hb hv ?_;walk_at "r";refine cB (λh=>?_) (λh=>?_)
   ·walk_at "r";simp only [decide_eq_true_eq] at h;subst h;exact ⟨by refine ae hd ?_; simp [gf],rfl⟩
   ·walk_at "r";simp only [decide_eq_true_eq] at h;refine ⟨rfl,by walk_at "nm",bs,gv,rfl,gR,?_⟩;refine ae hd ?_;have:iv≠jv:=λe=>h e.symm
    simp [this]
 ·intro E m C' q0;refine bw q0 λak hm aZ=>?_; clear q0; refine bx aZ λbV aK hr hi hd=>?_; clear aZ; subst ak
  cases hi with
  | cons _ _=>injection hr
  | nil =>
   walk_at "r";exact ⟨by refine ae hd ?_; simp [gf],rfl⟩
end
section
variable {P:e_}
noncomputable def eZ (ms:List Iv) (iv:Iv):List Iv:=if iv∈ms then ms else ms++[iv]
inductive bA (C:Led) (x:Addr) (fp:FP) (ms:List Iv) (C':Led):Prop
 | mk:∀ fp',br C' x fp' ms->Own C fp fp'->aq fp C C'->More C C'->bA C x fp ms C'
theorem g7 {C:Led}{x v:Addr}{fp:FP}{ivs:List Iv}{iv:Iv} (hm:br C x fp ivs) (hv:b_ C v iv) (hz:ivs.length≤1000):Spec (S2 P) 7 (.ref 79) [.ref x,.ref v] [] C λr C'=>r=.none∧bA C x fp (eZ ivs iv) C':=by
 obtain ⟨dx,od,rl,as,hx,bC,hf,hl,dQ,aM⟩:=id hm;refine' ax (n:=6) (binds:=[("self",.ref x),("member",.ref v)]) ?ho ?hb ?hp ?_;walk_at "D";walk_at "r";refine rW G hx bC gE ((gP hm hv).le (Qe rfl)) ?_;intro C' e;obtain rfl:C=C':=e.symm;clear e;walk_at "r";by_cases h:iv∈ivs
 ·refine ae (show (!decide (iv∈ivs))=false by simp [h]) ?_;refine bN (by decide) ?_;walk_at "r";refine ⟨rfl,?_⟩;unfold eZ;refine ae (if_pos h) ?_;exact ⟨fp,hm,.refl hm.sep,.refl,.refl⟩
 ·refine ae (show (!decide (iv∈ivs))=true by simp [h]) ?_;refine cq rfl ?_;walk_at "r";refine bH (vs:=[Value.ref v]) (λb hb=>?_) (by simp [sizeLine_eq]);refine gU (vs:=as.map Value.ref) (ws:=[Value.ref v]) (hl.imp λk hk=>?_) ⟨0,af _ _ _⟩ ?_ (λa ha=>?_)
  ·exact (ag _ _ (λe=>by rw [e] at hk; exact bo hb hk)).trans hk
  ·refine ae (List.length_map _) (ae dQ.len (ae sizeLine_eq ?_)); simp; exact Qb hz (Nat.le_add_left 1000 16776215)
  have iI:dx≠a:=λe=>by rw [← e] at ha; unfold upd at ha; split at ha; exact uy ha; exact bo ha bC
  have hxa:x≠a:=λe=>by rw [← e] at ha; unfold upd at ha; split at ha; exact uy ha; exact bo ha hx
  have W2:dx≠b:=λe=>by rw [e] at bC; exact bo hb bC
  have Km:x≠b:=λe=>by rw [e] at hx; exact bo hb hx
  have FG:x≠dx:=λe=>by
   rw [e,bC] at hx;replace hx:=Option.some.inj hx; subst hx;exact (fq hf) (cE _ _)
  have Tz:C a=none:=by
   unfold upd at ha; split at ha; exact uy ha; exact ha
  walk_at "r";rename_i jT jG;refine ⟨rfl,λz=>one dx z+one a z,?_,⟨?_,?_⟩,?_,?_⟩
  ·have hk:aq (one dx) C (upd (upd (upd C b (listOf [Value.ref v].toArray 0)) a (listOf (as.map Value.ref++[Value.ref v]).toArray 0)) dx jT) :=
    ((aq.new .refl hb).new Tz).upd (by refine ae (aj _) ?_; decide) (λo ho=>by replace ho:=eG bC ho; subst ho; exact fq hf)
   refine ⟨dx,jT,a,as++[v],?_,af _ _ _,jG,⟨0,?_⟩,?_,λz=>rfl⟩
   ·walk_at "at"
   ·refine ae (ag _ _ (Ne.symm iI)) (ae (af _ _ _) (ae List.map_append ?_)); rfl
   ·unfold eZ;exact ae (if_neg h) ((dQ.keep hk).app (.cons (hv.keep hk) .nil))
  ·exact A8 iI
  ·intro z hz;rcases two_pos (a:=dx) (b:=a) hz with q | q
   ·left; refine ae (aM _) (ae q (ae (aj _) ?_)); exact bK (bT (az au))
   ·right; exact ae q Tz
  ·refine ((aq.new .refl hb).new Tz).upd (by refine ae (aM _) (ae (aj _) ?_); exact bK (bT (az au))) (λo ho=>by replace ho:=eG bC ho; subst ho; exact fq hf)
  ·exact ((More.refl.upd).upd).upd
end
section
variable {P:e_}
theorem uZ {C a_:Led}{x dx a rl:Addr}{od jT:Obj}{fp:FP}{bV:List Addr}{aK:List Iv} (hx:C x=some (instObj 122 dx)) (bC:C dx=some od) (hf:dk od [("rows",.ref rl)]) (aM:∀ z,fp z=one dx z+one rl z)
  (aX:∀ b o,C b=some o->a_ b=some o) (ha:C a=none) (hl:cN a_ a (bV.map Value.ref)) (hi:aP a_ bV aK) (jG:dk jT [("rows",.ref a)]):bA C x fp aK (upd a_ dx jT):=by
 have iI:a≠dx:=λe=>by rw [e] at ha; exact bo ha bC
 have FG:x≠dx:=λe=>by
  rw [e,bC] at hx;replace hx:=Option.some.inj hx; subst hx;exact (fq hf) (cE _ _)
 have hk:∀ f:FP,f dx≠0->aq f a_ (upd a_ dx jT):=λf AW=>aq.refl.upd AW (λo ho=>by replace ho:=eG (aX _ _ bC) ho; subst ho; exact fq hf)
 refine ⟨λz=>one dx z+one a z,⟨dx,jT,a,bV,(ag _ _ FG).trans (aX _ _ hx),af _ _ _,jG,?_,hi.keep (hk (one dx) (by refine ae (aj _) ?_; decide)),λz=>rfl⟩,⟨A8 (Ne.symm iI),?_⟩,?_,(More.of_sub aX).upd⟩
 ·refine aQ hl λk hl=>?_;exact ⟨k,(ag _ _ iI).trans hl⟩
 ·intro z hz;rcases two_pos (a:=dx) (b:=a) hz with q | q
  ·left; refine ae (aM _) (ae q (ae (aj _) ?_)); exact bK (bT (az au))
  ·right; exact ae q ha
 ·exact (aq.of_sub aX).upd (by rw [aM,aj]; exact bK (bT (az au))) (λo ho=>by rw [bC] at ho; cases ho; exact fq hf)
theorem bA.refl {C:Led}{x:Addr}{fp:FP}{ms:List Iv} (h:br C x fp ms):bA C x fp ms C:=⟨fp,h,.refl h.sep,.refl,.refl⟩
theorem bA.trans {C C' cf:Led}{x:Addr}{fp:FP}{ms fP:List Iv} (h:bA C x fp ms C') (h':∀ fp',br C' x fp' ms->bA C' x fp' fP cf):bA C x fp fP cf:=by
 obtain ⟨fp',h1,h2,h3,h4⟩:=h;obtain ⟨Ay,k1,k2,k3,k4⟩:=h' fp' h1;exact ⟨Ay,k1,h2.trans k2 h4,h3.trans k3 h2.2,h4.trans k4⟩
theorem lK (ms:List Iv) (iv:Iv):(eZ ms iv).length≤ms.length+1:=by
 unfold eZ; split <;> simp
noncomputable def aH (ms ivs:List Iv):List Iv:=ivs.foldl eZ ms
noncomputable def rC (P:e_) (C:Led) (v:Value) (l:Addr):Prop:=∀ {n:Nat}{A:Around}{Qg:Heap}{L:Addr}{E:Value->Shared->Prop}{m:Loc}{env:Env}{Q:Value->Loc->Led->Prop},Gd (S2 P) n A Qg L env->4≤n →
 (∀ a,C a=none->Q (.ref a) m (upd C a (lit l 0)))->W (S2 P) A Qg L E (pyIter v) m C Q
theorem ku {C:Led}{l:Addr}{vs:List Value} (hl:cN C l vs):rC P C (.ref l) l:=λz9 z8 h=>bO hl h
theorem ju {C:Led}{x dx rl:Addr}{od:Obj}{vs:List Value} (hx:C x=some (instObj 122 dx)) (bC:C dx=some od) (hf:dk od [("rows",.ref rl)]) (hl:cN C rl vs) :
  Spec (S2 P) 3 (.ref 44) [.ref x] [] C λr C'=>∃ a,r=.ref a∧C a=none∧C'=upd C a (lit rl 0):=by
 refine' ax (n:=2) (binds:=[("self",.ref x)]) ?ho ?hb ?hp ?_;walk_at "D";walk_at "r";refine uN hl (λa ha=>?_);walk_at "r";exact ⟨a,rfl,ha,rfl⟩
theorem dP {C:Led}{x dx rl:Addr}{od:Obj}{vs:List Value} (hx:C x=some (instObj 122 dx)) (bC:C dx=some od) (hf:dk od [("rows",.ref rl)]) (hl:cN C rl vs):rC P C (.ref x) rl :=
 λG hn h=>fV (vs:=vs) G hx bC jt ((ju hx bC hf hl).le (Nat.le_of_lt hn)) h
theorem iQ {C:Led}{x l:Addr}{v:Value}{fp:FP}{ms ivs:List Iv}{as:List Addr} (hm:br C x fp ms) (hit:rC P C v l) (hl:cN C l (as.map Value.ref)) (dQ:aP C as ivs) (lR:fp l=0) (hz:ms.length+ivs.length≤1000) :
  Spec (S2 P) 8 (.ref 86) [.ref x,v] [] C λr C'=>r=.none∧bA C x fp (aH ms ivs) C':=by
 obtain ⟨NF,Ly,La,NM,L3,-⟩:=id hm;refine' ax (n:=7) (binds:=[("self",.ref x),("members",v)]) ?ho ?hb ?hp ?_;walk_at "D";walk_at "r";refine hit G (Qe rfl) (λa ha=>?_);refine bX (vs:=as.map Value.ref) G ha (λrest m C'=>m "self"=some (.ref x)∧∃ bV aK fP,rest=bV.map Value.ref∧aP C' bV aK∧bA C x fp fP C'∧aH fP aK=aH ms ivs∧fP.length+aK.length≤1000) ?_ ?_ ?_ ?_
 ·intro rest m C' q0;refine c_ q0 λz9 bV aK fP aZ=>?_; clear q0; refine dI aZ λz9 z8 ak z7=>?_; clear aZ; obtain ⟨fp',-,-,hk,-⟩:=ak
  exact hl.keep hk lR
 ·exact ⟨rfl,as,ivs,ms,rfl,dQ,.refl hm,rfl,hz⟩
 ·intro E u rest m C' _ q0 J hJ;refine c_ q0 λhs bV aK fP ak=>?_; clear q0; refine d9 ak λhr hi hp hd hz=>?_; clear ak
  cases hi with
  | nil=>injection hr
  | @cons b jv bs gv hb gR =>
   simp only [List.map_cons,List.cons.injEq] at hr;refine aS hr λak aZ=>?_; clear hr; subst ak; subst aZ
   obtain ⟨fp',v5,ph,rg,WA⟩:=id hp;obtain ⟨NG,jT,Lb,bV,xh,nu,AW,q_,me,pB⟩:=id v5;simp only [List.length_cons] at hz;walk_at "r";refine aE G (g7 v5 hb (Qb (by walk_at "A") hz)) (λr cf q=>?_);walk_at "r";refine aS q λz9 q=>?_;obtain ⟨Ay,-,-,Jn,-⟩:=id q
   have:=lK fP jv;refine ⟨by walk_at "nm",bs,gv,eZ fP jv,rfl,gR.keep Jn,hp.trans λvL jY=>?_,hd,by exact Qd λq=>Ql (Qa hz (Qa this q))⟩;have e:vL=fp':=by
    obtain ⟨HD,GW,GO,HG,oZ,kz,vD,Hh,CZ,pA⟩:=jY;rw [xh] at oZ;cases oZ;rw [nu] at kz;cases kz;have:=AW.inj vD;cases this;funext z;exact ae (pA _) (ae (pB _) rfl)
   exact e▸q
 ·intro E m C' q0;refine c_ q0 λhs bV aK fP ak=>?_; clear q0; refine d9 ak λhr hi hp hd hz=>?_; clear ak
  cases hi with
  | cons _ _=>cases hr
  | nil =>
   walk_at "r";exact ⟨rfl,hd▸hp⟩
end
section
variable {P:e_}
theorem m_ {C:Led}{x t:Addr} (ht:t8 (KK P) C t []):Spec (S2 P) 8 (.ref 86) [.ref x,.ref t] [] C λr C'=>r=.none∧C'=C:=by
 refine' ax (n:=7) (binds:=[("self",.ref x),("members",.ref t)]) ?ho ?hb ?hp ?_;walk_at "D";walk_at "r";refine rU G ht (λa ha=>?_);refine BB (vs:=[]) G ha (λrest m C'=>C'=C) ?_ rfl ?_ ?_
 ·rintro rest m C' rfl; exact ht
 ·rintro E v rest m C' ⟨pre,e⟩ - J hJ;cases pre <;> cases e
 ·rintro E m C' rfl;walk_at "r";exact ⟨rfl,rfl⟩
inductive gu (C:Led) (ms:List Iv) (r:Value) (C':Led):Prop
 | mk:∀ x fp,r=.ref x->C x=none->br C' x fp ms->(∀ z,fp z≠0->C z=none)->(∀ a o,C a=some o->C' a=some o)->gu C ms r C'
theorem il {C:Led}{x dx:Addr}{o o':Obj} (hx:C x=none) (bC:C dx=none):∀ a b,C a=some b->upd (upd C dx o) x o' a=some b:=λa b e=>by
 refine ae (ag _ _ (λq=>by rw [q] at e; exact bo hx e)) (ae (ag _ _ (λq=>by rw [q] at e; exact bo bC e)) ?_); exact e
theorem eY:dk (dictOf [] 0) []:=⟨[],0,rfl,rfl⟩
theorem l8 {C:Led}{x dx rl:Addr}{od:Obj} (hx:C x=none) (bC:C dx=none) (bS:x≠dx) (iG:upd (upd C dx (dictOf [] 0)) x (instObj 122 dx) rl=none) (hf:dk od [("rows",.ref rl)]) :
  br (upd (upd (upd (upd C dx (dictOf [] 0)) x (instObj 122 dx)) rl (listOf ([]:List Value).toArray 0)) dx od) x (λz=>one dx z+one rl z) []:=by
 have h1:rl≠x:=λe=>by rw [e] at iG; exact bo iG (af ..)
 have h2:rl≠dx:=λe=>by rw [e,ag _ _ (Ne.symm bS)] at iG; exact bo iG (af ..)
 refine ⟨dx,od,rl,[],?_,af _ _ _,hf,⟨0,?_⟩,.nil,λz=>rfl⟩
 ·exact ae (ag _ _ bS) (ae (ag _ _ (Ne.symm h1)) (ae (af _ _ _) rfl))
 ·refine ae (ag _ _ h2) (ae (af _ _ _) ?_); rfl
theorem bY {C:Led}{a b:Addr}{o:Obj} (h:upd C b o a=none):C a=none∧a≠b:=by
 by_cases q:a=b
 ·subst q; exact bo h (af ..)
 ·exact ⟨(ag _ _ q).symm.trans h,q⟩
theorem wW {C:Led}{x dx l:Addr}{v:Value}{ivs:List Iv}{as:List Addr} (hx:C x=none) (bC:C dx=none) (bS:x≠dx) (hit:∀ a_,(∀ a o,C a=some o->a_ a=some o)->rC P a_ v l) (hl:cN C l (as.map Value.ref)) (dQ:aP C as ivs) (hz:ivs.length≤1000) :
  Spec (S2 P) 9 (.ref 37) [.ref x,v] [] (upd (upd C dx (dictOf [] 0)) x (instObj 122 dx)) λr C'=>r=.none∧gu C (aH [] ivs) (.ref x) C':=by
 refine' ax (n:=8) (binds:=[("self",.ref x),("members",v)]) ?ho ?hb ?hp ?_
 case ho=>exact rfl
 case hb=>exact λs X=>binds_K X rfl rfl rfl rfl rfl
 case hp=>exact rfl
 intro A Qg L E G Qp et;walk_at "r";refine bH (vs:=[]) (λrl iG=>?_) (by simp [sizeLine_eq]);have q1:=bY iG;have q2:=bY q1.1;walk_at "r";refine eK (c:=122) (dx:=dx) G ((ag _ _ (Ne.symm q1.2)).trans (af _ _ _)) ((ag _ _ (Ne.symm q2.2)).trans ((ag _ _ (Ne.symm bS)).trans (af _ _ _))) eY sX (Qe rfl) (λod Hd=>?_);have hm:=l8 hx bC bS iG Hd;have aX:∀ a o,C a=some o->upd (upd (upd (upd C dx (dictOf [] 0)) x (instObj 122 dx)) rl (listOf ([]:List Value).toArray 0)) dx od a=some o:=λa o e=>by
  refine ae (ag _ _ (λq=>by rw [q] at e; exact bo bC e)) (ae (ag _ _ (λq=>by rw [q] at e; exact bo q2.1 e)) ?_);exact il hx bC a o e
 obtain ⟨NG,jT,Lb,bV,xh,nu,AW,q_,me,pB⟩:=id hm;walk_at "r";have Oy:C l≠none:=by refine aQ hl λk hk=>?_; clear hl; refine ae hk ?_; intro e; exact uy e
 have lR:(λz=>one dx z+one rl z) l=0:=by
  show one dx l+one rl l=0;rw [aG (a:=dx) (z:=l) (λq=>Oy (by rw [q]; exact bC)),aG (a:=rl) (z:=l) (λq=>Oy (by rw [q]; exact q2.1))]
 refine aE G (iQ (ms:=[]) (ivs:=ivs) hm (hit _ aX) (hl.imp λk hk=>aX _ _ hk) (dQ.keep (fp:=λz9=>0) (aq.of_sub aX)) lR (by simpa using hz)) (λr C' q=>?_);refine aS q λz9 ak=>?_; clear q; obtain ⟨fp',k1,k2,k3,k4⟩:=ak
 walk_at "r";have hn:∀ z,one dx z+one rl z≠0->C z=none:=λz hz=>by
  rcases two_pos hz with e | e
  ·exact ae e bC
  ·exact ae e q2.1
 refine ⟨rfl,x,fp',rfl,hx,k1,λz hz=>?_,λa o e=>k3 a o (aX a o e) (.inr ?_)⟩
 ·rcases k2.2 z hz with w | w
  ·exact hn z w
  ·cases e:C z with
   | none=>rfl
   | some o=>exact bo w (aX _ _ e)
 ·by_cases w:one dx a+one rl a=0
  ·exact w
  ·exact bo (hn a w) e
theorem oS {C:Led}{x dx t:Addr}{args:List Value} (hx:C x=none) (bC:C dx=none) (bS:x≠dx) (ht:∀ a_,(∀ a o,C a=some o->a_ a=some o)->t8 (KK P) a_ t []) (ha:args=[.ref t]∨(args=[]∧t=29)) :
  Spec (S2 P) 9 (.ref 37) (.ref x::args) [] (upd (upd C dx (dictOf [] 0)) x (instObj 122 dx)) λr C'=>r=.none∧gu C [] (.ref x) C':=by
 refine' ax (n:=8) (binds:=[("self",.ref x),("members",.ref t)]) ?ho ?hb ?hp ?_
 case ho=>exact rfl
 case hb =>
  intro s X;rcases ha with rfl | ⟨rfl,rfl⟩
  ·exact binds_K X rfl rfl rfl rfl rfl
  ·exact binds_K X rfl rfl rfl rfl rfl
 case hp=>exact rfl
 intro A Qg L E G Qp et;walk_at "r";refine bH (vs:=[]) (λrl iG=>?_) (by simp [sizeLine_eq]);have q1:=bY iG;have q2:=bY q1.1;walk_at "r";refine eK (c:=122) (dx:=dx) G ((ag _ _ (Ne.symm q1.2)).trans (af _ _ _)) ((ag _ _ (Ne.symm q2.2)).trans ((ag _ _ (Ne.symm bS)).trans (af _ _ _))) eY sX (Qe rfl) (λod Hd=>?_);have hm:=l8 hx bC bS iG Hd;have aX:∀ a o,C a=some o->upd (upd (upd (upd C dx (dictOf [] 0)) x (instObj 122 dx)) rl (listOf ([]:List Value).toArray 0)) dx od a=some o:=λa o e=>by
  refine ae (ag _ _ (λq=>by rw [q] at e; exact bo bC e)) (ae (ag _ _ (λq=>by rw [q] at e; exact bo q2.1 e)) ?_);exact il hx bC a o e
 obtain ⟨NG,jT,Lb,bV,xh,nu,AW,q_,me,pB⟩:=id hm;walk_at "r";refine aE G (m_ (ht _ aX)) (λr C' q=>?_);refine aS q λz9 ak=>?_; clear q; subst ak
 walk_at "r";refine ⟨rfl,x,_,rfl,hx,hm,λz hz=>?_,aX⟩;rcases two_pos (a:=dx) (b:=rl) hz with e | e
 ·exact ae e bC
 ·exact ae e q2.1
theorem l7 {C:Led}{l:Addr}{v:Value}{ivs:List Iv}{as:List Addr} (hit:∀ a_,(∀ a o,C a=some o->a_ a=some o)->rC P a_ v l) (hl:cN C l (as.map Value.ref)) (dQ:aP C as ivs) (hz:ivs.length≤1000) :
  Spec (S2 P) 10 (.ref 122) [v] [] C (gu C (aH [] ivs)) :=
 iS Cf l9 λx dx hx bC bS=>wW hx bC bS hit hl dQ hz
theorem jV {C:Led}{t:Addr}{args:List Value} (ht:∀ a_,(∀ a o,C a=some o->a_ a=some o)->t8 (KK P) a_ t []) (ha:args=[.ref t]∨(args=[]∧t=29)):Spec (S2 P) 10 (.ref 122) args [] C (gu C []) :=
 iS Cf l9 λx dx hx bC bS=>oS hx bC bS ht ha
theorem KY (a_:Led):t8 (KK P) a_ 29 []:=.inr ⟨0,rfl⟩
theorem oR {C:Led}:Spec (S2 P) 10 (.ref 122) [] [] C (gu C []):=jV (t:=29) (λa_ z9=>KY a_) (.inr ⟨rfl,rfl⟩)
theorem oV {C:Led}{x:Addr}{fp:FP}{ivs:List Iv} (hm:br C x fp ivs) (hz:ivs.length≤1000000):Spec (S2 P) 3 (.ref 51) [.ref x] [] C λr C'=>(∃ t,r=.int ivs.length t)∧C'=C:=by
 obtain ⟨dx,od,rl,as,hx,bC,hf,hl,dQ,aM⟩:=hm;refine' ax (n:=2) (binds:=[("self",.ref x)]) ?ho ?hb ?hp ?_;walk_at "D";walk_at "r";refine dU hl (by refine ae (List.length_map _) (ae dQ.len ?_); omega +splitMinMax) (λt=>?_);walk_at "r";exact ⟨⟨t,by refine ae (List.length_map _) (ae dQ.len ?_); rfl⟩,rfl⟩
theorem AE {C:Led}{x:Addr}{fp:FP}{ivs:List Iv} (hm:br C x fp ivs) (hz:ivs.length≤1000000):Spec (S2 P) 3 (.ref 58) [.ref x] [] C λr C'=>r=.bool (!ivs.isEmpty)∧C'=C:=by
 obtain ⟨dx,od,rl,as,hx,bC,hf,hl,dQ,aM⟩:=hm;refine' ax (n:=2) (binds:=[("self",.ref x)]) ?ho ?hb ?hp ?_;walk_at "D";walk_at "r";refine dU hl (by refine ae (List.length_map _) (ae dQ.len ?_); omega +splitMinMax) (λt=>?_);walk_at "r";refine ⟨?_,rfl⟩;refine ae (List.length_map _) (ae dQ.len ?_);cases ivs <;> simp [gf]
end
section
variable {P:e_}
theorem lC {C:Led}{x v:Addr}{fp:FP}{ivs:List Iv}{iv:Iv} (hm:br C x fp ivs) (hv:b_ C v iv) (hz:ivs.length≤1000):Spec (S2 P) 6 (.ref 91) [.ref x,.ref v] [] C λr C'=>r=.none∧bA C x fp (ivs.filter (λj=>!decide (j=iv))) C':=by
 obtain ⟨dx,od,rl,as,hx,bC,hf,hl,dQ,aM⟩:=id hm;refine' eB (n:=5) (binds:=[("self",.ref x),("member",.ref v)]) ?ho ?hb ?hp ?_
 case ho=>exact rfl
 case hb=>exact λs z9=>BindsTo.of_eq rfl
 case hp=>exact rfl
 intro A Qg L E a_ G aX cF Qp et;obtain ⟨pY,oc,hc,iJ⟩:C (L+1)=none∧∃ o,a_ (L+1)=some o∧o.data=.cell (some (.ref v)):=cF "member" (L+1) rfl;have G9:=aX _ _ hx;have Df:=aX _ _ bC;have Hi:cN a_ rl (as.map Value.ref):=hl.imp λk hk=>aX _ _ hk
 have gF:aq (λz9=>0) C a_:=aq.of_sub aX;have Jo:=dQ.keep gF;have L_:=hv.keep gF;walk_at "r";refine ic G rfl (by decide) rfl (by decide) ?_;walk_at "r";refine bO Hi (λa ha=>?_);refine iz.intro (vs:=as.map Value.ref) ha (by refine ae (List.length_map _) (ae dQ.len ?_); exact Qb hz (Nat.le_add_left 1000 999000))
  (λout rest C'=>C'=a_∧∃ outs kZ bV aK,out=outs.map Value.ref∧aP a_ outs kZ∧rest=bV.map Value.ref∧aP a_ bV aK∧kZ++aK.filter (λj=>!decide (j=iv))=ivs.filter (λj=>!decide (j=iv))∧outs.length+bV.length≤as.length) ?_ ?_ ?_ ?_
 ·intro out rest _ q0;walk_at "bh";obtain ⟨rfl,outs,kZ,bV,aK,rfl,-,rfl,-,-,hz⟩:=q0;walk_at "ch";exact ⟨Hi,by simpa using hz⟩
 ·exact ⟨rfl,[],[],as,ivs,rfl,.nil,rfl,Jo,rfl,by simp⟩
 ·intro g Lc E' mc _ u rest out G' q0 J hJ;walk_at "bh";obtain ⟨rfl,outs,kZ,bV,aK,rfl,ho,hr,hi,hd,hz⟩:=q0;walk_at "ch";cases hi with
  | nil=>injection hr
  | @cons b jv bs gv hb gR =>
   simp only [List.map_cons,List.cons.injEq] at hr;obtain ⟨rfl,rfl⟩:=hr;walk_at "r";refine r0 G' hb L_ ?_;walk_at "r";refine cB (λh=>?_) (λh=>?_)
   ·walk_at "r";refine ⟨rfl,outs++[b],kZ++[jv],bs,gv,by simp,ho.app (.cons hb .nil),rfl,gR,?_,?_⟩
    ·refine eI hd ?_;simp only [Bool.not_eq_true',decide_eq_false_iff_not] at h;refine ae (List.filter_cons_of_pos (by simp [h])) ?_;simp
    ·simp only [List.length_append,List.length_cons,List.length_nil] at hz ⊢; exact Qb (by walk_at "A") hz
   ·refine nG hJ ?_;refine ⟨rfl,outs,kZ,bs,gv,rfl,ho,rfl,gR,?_,?_⟩
    ·refine eI hd ?_;simp only [Bool.not_eq_true',decide_eq_false_iff_not,Classical.not_not] at h;exact ae (List.filter_cons_of_neg (by simp [h])) rfl
    ·simp only [List.length_cons] at hz; exact Nat.le_of_lt hz
 ·rintro D out _ ⟨rfl,outs,kZ,bV,aK,rfl,ho,hr,hi,hd,hz⟩ hD;cases hi with
  | cons _ _=>injection hr
  | nil =>
   have hDx:x≠D:=λe=>by rw [e] at G9; exact bo hD G9
   have hDd:dx≠D:=λe=>by rw [e] at Df; exact bo hD Df
   walk_at "r";rename_i jT jG;refine ⟨rfl,?_⟩;refine eI hd ?_;have Dv:C D=none:=by
    cases e:C D with
    | none=>rfl
    | some o=>exact bo hD (aX _ _ e)
   refine uZ hx bC hf aM (λb o e=>?_) Dv ⟨_,af _ _ _⟩ ?_ jG
   ·refine ae (ag _ _ (λq=>by rw [q] at e; exact bo Dv e)) ?_; exact aX _ _ e
   ·simpa using ho.keep (fp:=λz9=>0) (aq.refl.new hD)
end
section
variable {P:e_}
theorem r7 {A:Around}{Qg:Heap}{L:Addr}{E:Value->Shared->Prop}{m:Loc}{env:Env}{n:Nat}{C:Led}{c:Addr}{i:Int}{t:Tok}{b:Bool}{Q:Value->Loc->Led->Prop} (G:Gd (S2 P) n A Qg L env)
  (e:kitOne (KK P) (.type "int") (.ref c)=some b) (h:Q (.bool b) m C):W (S2 P) A Qg L E (call (.builtin "isinstance") [.int i t,.ref c]) m C Q:=.mk λF s R =>
 kia_one kitx_int (G.X.keeps R.fr.keep) trivial e (by intro q; cases q) λtk=>⟨m,C,R.tok,h⟩
theorem zS:kitOne (KK P) (.type "int") (.ref 279)=some false:=by kernel_rfl
theorem LO:isIn (KK P) (.ref 279) 279=true:=by kernel_rfl
theorem lD {C:Led}{x:Addr}{iv:Iv}{p:Int}{t:Tok} (hx:b_ C x iv):Spec (S2 P) 2 (.ref 171) [.ref x,.int p t] [] C λr C'=>r=.bool (decide (iv.1≤p∧p < iv.2.1))∧C'=C:=by
 obtain ⟨dx,ox,yL,AK,Kb,ug,tH,D9⟩:=hx;refine' ax (n:=1) (binds:=[("self",.ref x),("p",.int p t)]) ?ho ?hb ?hp ?_;walk_at "D";walk_at "r";refine cB (λh1=>?_) (λh1=>?_)
 ·walk_at "r";refine ⟨?_,rfl⟩;simp only [decide_eq_true_eq] at h1;simp [gf,h1]
 ·walk_at "r";refine ⟨?_,rfl⟩;simp only [decide_eq_true_eq] at h1;simp [gf,h1]
theorem l6 {C:Led}{x:Addr}{iv:Iv} (hx:b_ C x iv):Spec (S2 P) 2 (.ref 199) [.ref x] [] C λr C'=>r=.bool (decide (iv.2.1≤iv.1))∧C'=C:=by
 obtain ⟨dx,ox,yL,AK,Kb,ug,tH,D9⟩:=hx;refine' ax (n:=1) (binds:=[("self",.ref x)]) ?ho ?hb ?hp ?_;walk_at "D";walk_at "r";exact ⟨rfl,rfl⟩
theorem zt {C:Led}{x:Addr}{iv:Iv}{p:Int}{t:Tok} (hx:b_ C x iv):Spec (S2 P) 4 (.ref 156) [.ref x,.int p t] [] C λr C'=>r=.bool (decide (iv.1≤p∧p < iv.2.1))∧C'=C:=by
 obtain ⟨dx,ox,yL,AK,Kb,ug,tH,D9⟩:=id hx;refine' ax (n:=3) (binds:=[("self",.ref x),("begin",.int p t),("end",.none)]) ?ho ?hb ?hp ?_
 case ho=>exact rfl
 case hb=>exact λs X=>binds_K X rfl rfl rfl rfl rfl
 case hp=>exact rfl
 intro A Qg L E G Qp et;walk_at "r";refine r7 G zS ?_;walk_at "r";refine eS G (lD hx) ?_;walk_at "r";exact ⟨rfl,rfl⟩
noncomputable def HI (C:Led) (iv:Iv) (r:Value) (C':Led):Prop:=∃ x,r=.ref x∧C x=none∧b_ C' x iv∧∀ a o,C a=some o->C' a=some o
theorem vk {C:Led}{x dx:Addr}{b e d:Int}{tb te td:Tok} (hx:C x=none) (bC:C dx=none) (bS:x≠dx) :
  Spec (S2 P) 2 (.ref 148) [.ref x,.int b tb,.int e te,.int d td] [] (upd (upd C dx (dictOf [] 0)) x (instObj 279 dx)) λr C'=>r=.none∧HI C (b,e,d) (.ref x) C':=by
 refine' ax (n:=1) (binds:=[("self",.ref x),("begin",.int b tb),("end",.int e te),("data",.int d td)]) ?ho ?hb ?hp ?_
 case ho=>exact rfl
 case hb=>exact λs X=>binds_K X rfl rfl rfl rfl rfl
 case hp=>exact rfl
 intro A Qg L E G Qp et;have pj:dx≠x:=Ne.symm bS;walk_at "r";refine eK (c:=279) (dx:=dx) G (af _ _ _) ((ag _ _ pj).trans (af _ _ _)) eY yc (Qe rfl) (λo1 h1=>?_);walk_at "r";rename_i o2 h2 o3 h3;refine ⟨rfl,x,rfl,hx,⟨dx,o3,tb,te,td,by walk_at "at",af _ _ _,h3⟩,λa o e=>?_⟩;have n1:a≠dx:=λq=>by rw [q] at e; exact bo bC e
 refine ae (ag _ _ n1) (ae (ag _ _ n1) (ae (ag _ _ n1) ?_));exact il hx bC a o e
theorem ko {C:Led}{b e d:Int}{tb te td:Tok}:Spec (S2 P) 3 (.ref 279) [.int b tb,.int e te,.int d td] [] C (HI C (b,e,d)) :=
 iS ID w5 λx dx hx bC bS=>vk hx bC bS
theorem iU {C:Led}{x v:Addr}{fp:FP}{ivs:List Iv}{iv:Iv} (hm:br C x fp ivs) (hv:b_ C v iv) (hz:ivs.length≤1000) (jy:iv∈ivs):Spec (S2 P) 7 (.ref 98) [.ref x,.ref v] [] C λr C'=>r=.none∧bA C x fp (ivs.filter (λj=>!decide (j=iv))) C':=by
 obtain ⟨dx,od,rl,as,hx,bC,hf,hl,dQ,aM⟩:=id hm;refine' ax (n:=6) (binds:=[("self",.ref x),("member",.ref v)]) ?ho ?hb ?hp ?_;walk_at "D";walk_at "r";refine rW G hx bC gE ((gP hm hv).le (Qe rfl)) ?_;intro C' e;obtain rfl:C=C':=e.symm;clear e;walk_at "r";refine ae (show (!decide (iv∈ivs))=false by simp [jy]) ?_;walk_at "r";refine aE G (lC hm hv hz) (λr C' q=>?_);walk_at "r";exact ⟨rfl,q.2⟩
end
section
variable {P:e_}
noncomputable def iq (a b:Iv):Bool:=decide (a.1 < b.1∨(a.1=b.1∧(a.2.1 < b.2.1∨(a.2.1=b.2.1∧a.2.2 < b.2.2))))
theorem tY {C:Led}{x y:Addr}{a b:Iv} (hx:b_ C x a) (hy:b_ C y b):Spec (S2 P) 2 (.ref 220) [.ref x,.ref y] [] C λr C'=>(∃ c t,r=.int c t∧decide (c < 0)=iq a b)∧∀ z o,C z=some o->C' z=some o:=by
 walk_at "bh";obtain ⟨dx,ox,yL,AK,Kb,ug,tH,D9⟩:=id hx;walk_at "ch";walk_at "bh";obtain ⟨dy,oy,GK,GJ,Ut,Kl,L0,LZ⟩:=id hy;walk_at "ch";refine' ax (n:=1) (binds:=[("self",.ref x),("other",.ref y)]) ?ho ?hb ?hp ?_;walk_at "D";walk_at "r";refine cg (vs:=[.int a.1 yL,.int a.2.1 AK]) (λp hp=>?_) (by simp [sizeLine_eq]);have s1:∀ z o,C z=some o->upd C p (bU [.int a.1 yL,.int a.2.1 AK]) z=some o:=λz o e=>(ag _ _ λq=>by rw [q,hp] at e; cases e).trans e
 have Eb:wa (upd C p (bU [.int a.1 yL,.int a.2.1 AK])) p [.int a.1 yL,.int a.2.1 AK]:=⟨0,af _ _ _⟩;generalize upd C p (bU [.int a.1 yL,.int a.2.1 AK])=C1 at *;have x1:=s1 _ _ ug;have x2:=s1 _ _ tH;have y1:=s1 _ _ Kl;have y2:=s1 _ _ L0;walk_at "r";refine ib G y1 LO ?_;walk_at "r";refine cg (vs:=[.int b.1 GK,.int b.2.1 GJ]) (λq hq=>?_) (by simp [sizeLine_eq]);have s2:∀ z o,C1 z=some o->upd C1 q (bU [.int b.1 GK,.int b.2.1 GJ]) z=some o:=λz o e=>(ag _ _ λq'=>by rw [q'] at e; exact bo hq e).trans e
 have Mu:wa (upd C1 q (bU [.int b.1 GK,.int b.2.1 GJ])) q [.int b.1 GK,.int b.2.1 GJ]:=⟨0,af _ _ _⟩;have vx:wa (upd C1 q (bU [.int b.1 GK,.int b.2.1 GJ])) p [.int a.1 yL,.int a.2.1 AK]:=Eb.imp λk e=>s2 _ _ e
 generalize upd C1 q (bU [.int b.1 GK,.int b.2.1 GJ])=C2 at *;have x3:=s2 _ _ x1;have x4:=s2 _ _ x2;have y3:=s2 _ _ y1;have y4:=s2 _ _ y2;have ss:∀ z o,C z=some o->C2 z=some o:=λz o e=>s2 z o (s1 z o e)
 walk_at "r";refine zg G vx Mu ?_;walk_at "r";by_cases e1:a.1=b.1∧a.2.1=b.2.1
 ·refine ae (show (!decide (a.1=b.1∧a.2.1=b.2.1))=false by simp [e1]) ?_;walk_at "r";by_cases e2:a.2.2=b.2.2
  ·refine cq (beq_iff_eq.mpr e2) ?_;walk_at "r";refine ⟨⟨_,_,rfl,?_⟩,ss⟩;simp [iq,e1.1,e1.2,e2]
  ·refine bN (λq=>e2 (beq_iff_eq.mp q)) ?_;walk_at "r";refine cB (λe3=>?_) (λe3=>?_)
   ·walk_at "r";refine ⟨⟨_,_,rfl,?_⟩,ss⟩;simp only [decide_eq_true_eq] at e3;simp [iq,e1.1,e1.2,e3]
   ·walk_at "r";refine ⟨⟨_,_,rfl,?_⟩,ss⟩;simp only [decide_eq_true_eq] at e3;simp [iq,e1.1,e1.2,e3]
 ·refine ae (show (!decide (a.1=b.1∧a.2.1=b.2.1))=true by simp [e1]) ?_;walk_at "r";refine zh G vx Mu ?_;walk_at "r";have e4:iq a b=decide (a.1 < b.1∨(a.1=b.1∧a.2.1 < b.2.1)):=by
   unfold iq;by_cases f1:a.1=b.1
   ·have f2:a.2.1≠b.2.1:=λq=>e1 ⟨f1,q⟩
    simp [f1,f2]
   ·simp [f1]
  refine cB (λe3=>?_) (λe3=>?_)
  ·walk_at "r";refine ⟨⟨_,_,rfl,?_⟩,ss⟩;refine ae e4 (ae e3 ?_); rfl
  ·walk_at "r";refine ⟨⟨_,_,rfl,?_⟩,ss⟩;rw [Bool.not_eq_true] at e3;refine ae e4 (ae e3 ?_); rfl
theorem zU {C:Led}{x y:Addr}{a b:Iv} (hx:b_ C x a) (hy:b_ C y b):Spec (S2 P) 3 (.ref 227) [.ref x,.ref y] [] C λr C'=>r=.bool (iq a b)∧∀ z o,C z=some o->C' z=some o:=by
 walk_at "bh";obtain ⟨dx,ox,yL,AK,Kb,ug,tH,D9⟩:=id hx;walk_at "ch";refine' ax (n:=2) (binds:=[("self",.ref x),("other",.ref y)]) ?ho ?hb ?hp ?_;walk_at "D";walk_at "r";refine aE G (tY hx hy) (λr C' q=>?_);refine aS q λak hs=>?_; clear q; obtain ⟨c,t,rfl,hc⟩:=ak
 walk_at "r";exact ⟨by refine eI hc ?_; rfl,hs⟩
end
section
variable {P:e_}
theorem cQ {C:Led}{a:Addr}{x y:Obj}:upd (upd C a x) a y=upd C a y:=by
 funext b; unfold upd; split <;> rfl
noncomputable abbrev N0 (xv:Value) (s:Addr) (vl vr:Value) (d:Int) (td:Tok) (b:Int) (tb:Tok):List (Str×Value) :=
 [("x_center",xv),("s_center",.ref s),("left_node",vl),("right_node",vr),("depth",.int d td),("balance",.int b tb)]
inductive aJ (C:Led) (a da:Addr) (xv:Value) (s:Addr) (vl vr:Value) (d b:Int):Prop
 | mk:C a=some (instObj 491 da)->∀ od td tb,C da=some od->dk od (N0 xv s vl vr d td b tb)->aJ C a da xv s vl vr d b
noncomputable def iF (C:Led) (v:Value) (d:Int):Prop:=(v=.none∧d=0)∨∃ a da xv s vl vr b,v=.ref a∧aJ C a da xv s vl vr d b
theorem ki {o:Obj}{xv:Value}{s:Addr}{vl vr:Value}{d b:Int}{td tb:Tok} (h:dk o (N0 xv s vl vr d td b tb)):¬ yF o:=ig h (by intro e; exact absurd (Option.some.inj e) (by decide:("x_center":Str)≠"begin"))
theorem aJ.ne {C:Led}{a da:Addr}{xv:Value}{s:Addr}{vl vr:Value}{d b:Int} (h:aJ C a da xv s vl vr d b):a≠da:=λe=>by
 obtain ⟨h1,od,td,tb,h2,h3⟩:=h;rw [e,h2] at h1;replace h1:=Option.some.inj h1; subst h1;exact ki h3 (cE _ _)
theorem aJ.keep {fp:FP}{C C':Led}{a da:Addr}{xv:Value}{s:Addr}{vl vr:Value}{d b:Int} (h:aJ C a da xv s vl vr d b) (k:aq fp C C') (hf:fp da=0):aJ C' a da xv s vl vr d b:=by
 obtain ⟨h1,od,td,tb,h2,h3⟩:=h;exact ⟨k _ _ h1 (.inl (cE _ _)),od,td,tb,k _ _ h2 (.inr hf),h3⟩
theorem aJ.set {C:Led}{a da:Addr}{xv A5:Value}{s s':Addr}{vl vr AJ AI:Value}{d b d' b':Int}{od:Obj}{td tb:Tok} (h:aJ C a da xv s vl vr d b) (hf:dk od (N0 A5 s' AJ AI d' td b' tb)):aJ (upd C da od) a da A5 s' AJ AI d' b' :=
 ⟨(ag _ _ h.ne).trans h.1,od,td,tb,af _ _ _,hf⟩
theorem aJ.keepSet {fp:FP}{C:Led}{a da:Addr}{xv:Value}{s:Addr}{vl vr:Value}{d b:Int}{o:Obj} (h:aJ C a da xv s vl vr d b) (hf:fp da≠0):aq fp C (upd C da o):=by
 obtain ⟨h1,od,td,tb,h2,h3⟩:=h;exact aq.refl.upd hf (λo ho=>by replace ho:=eG h2 ho; subst ho; exact ki h3)
noncomputable def Idx (v:Value) (b:Bool):Prop:=v=.bool b∨∃ k t,v=.int k t∧b=(k != 0)
theorem kP {A:Around}{Qg:Heap}{L:Addr}{E:Value->Shared->Prop}{m:Loc}{C:Led}{v:Value}{b:Bool}{Q:Bool->Loc->Led->Prop} (hi:Idx v b) (h:Q b m C):W (S2 P) A Qg L E (truthy v) m C Q:=by
 rcases hi with rfl | ⟨k,t,rfl,rfl⟩
 ·exact jQ h
 ·exact .mk λF s R=>PyProof.Rows.truthy_int ⟨m,C,R,h⟩
theorem FA:findIn (KK P) (.ref 491) "__bool__"=some none:=by kernel_rfl
theorem Ft:findIn (KK P) (.ref 491) "__len__"=some none:=by kernel_rfl
theorem jP {A:Around}{Qg:Heap}{L:Addr}{E:Value->Shared->Prop}{m:Loc}{env:Env}{n:Nat}{C:Led}{a da:Addr}{xv:Value}{s:Addr}{vl vr:Value}{d b:Int}{Q:Bool->Loc->Led->Prop} (G:Gd (S2 P) n A Qg L env) (hx:aJ C a da xv s vl vr d b) (h:Q true m C) :
  W (S2 P) A Qg L E (truthy (.ref a)) m C Q:=by
 obtain ⟨h1,od,td,tb,h2,h3⟩:=hx;exact rQ G h1 h2 FA Ft h
noncomputable def isNode (v:Value):Bool:=match v with | .ref _=>true | _=>false
theorem bG {A:Around}{Qg:Heap}{L:Addr}{E:Value->Shared->Prop}{m:Loc}{env:Env}{n:Nat}{C:Led}{v:Value}{d:Int}{Q:Bool->Loc->Led->Prop} (G:Gd (S2 P) n A Qg L env) (hv:iF C v d) (h:Q (isNode v) m C) :
  W (S2 P) A Qg L E (truthy v) m C Q:=by
 rcases hv with ⟨rfl,rfl⟩ | ⟨a,da,xv,s,vl,vr,b,rfl,hn⟩
 ·exact jO h
 ·exact jP G hn h
theorem zw {C:Led}{a da:Addr}{xv:Value}{s:Addr}{vl vr:Value}{d b:Int}{i:Value}{c:Bool} (h:aJ C a da xv s vl vr d b) (hi:Idx i c) (hl:handedIn vl=true) (hr:handedIn vr=true) :
  Spec (S2 P) 2 (.ref 474) [.ref a,i] [] C λr C'=>r=(if c then vr else vl)∧C'=C:=by
 obtain ⟨h1,od,td,tb,h2,h3⟩:=h;refine' ax (n:=1) (binds:=[("self",.ref a),("index",i)]) ?ho ?hb ?hp ?_;walk_at "D";walk_at "r";refine kP hi ?_;cases c
 ·walk_at "r";refine dA G h1 h2 h3 (by walk_at "k") (by rfl) hl ?_;walk_at "r";exact ⟨rfl,rfl⟩
 ·walk_at "r";refine dA G h1 h2 h3 (by walk_at "k") (by rfl) hr ?_;walk_at "r";exact ⟨rfl,rfl⟩
inductive cT (C:Led) (da:Addr) (xv:Value) (s:Addr) (vl vr:Value) (d b:Int) (C':Led):Prop
 | mk:∀ od td tb,C'=upd C da od->dk od (N0 xv s vl vr d td b tb)->cT C da xv s vl vr d b C'
theorem zv {C:Led}{a da:Addr}{xv:Value}{s:Addr}{vl vr:Value}{d b:Int}{i v:Value}{c:Bool} (h:aJ C a da xv s vl vr d b) (hi:Idx i c) :
  Spec (S2 P) 2 (.ref 481) [.ref a,i,v] [] C λz9 C'=>cT C da xv s (if c then vl else v) (if c then v else vr) d b C':=by
 obtain ⟨h1,od,td,tb,h2,h3⟩:=h;refine' ax (n:=1) (binds:=[("self",.ref a),("key",i),("value",v)]) ?ho ?hb ?hp ?_;walk_at "D";walk_at "r";refine kP hi ?_;cases c
 ·walk_at "r";rename_i jT jG;exact ⟨jT,td,tb,rfl,jG⟩
 ·walk_at "r";rename_i jT jG;exact ⟨jT,td,tb,rfl,jG⟩
theorem yB {A:Around}{Qg:Heap}{L:Addr}{E:Value->Shared->Prop}{m:Loc}{env:Env}{n:Nat}{C:Led}{a da:Addr}{xv:Value}{s:Addr}{vl vr:Value}{d b:Int}{Q:Value->Loc->Led->Prop} (G:Gd (S2 P) n A Qg L env) (hx:aJ C a da xv s vl vr d b) (h:∀ t,Q (.int d t) m C) :
  W (S2 P) A Qg L E (getAttr (.ref a) "depth" true) m C Q:=by
 obtain ⟨h1,od,td,tb,h2,h3⟩:=hx;exact dA G h1 h2 h3 (by walk_at "k") (by rfl) (by rfl) (h _)
theorem eO {C:Led}{a da:Addr}{xv:Value}{s:Addr}{vl vr:Value}{d b dl dr:Int} (h:aJ C a da xv s vl vr d b) (hl:iF C vl dl) (hr:iF C vr dr) :
  Spec (S2 P) 3 (.ref 357) [.ref a] [] C λr C'=>r=.none∧cT C da xv s vl vr (1+(if dr > dl then dr else dl)) (dr - dl) C':=by
 have bS:=h.ne;have pj:=Ne.symm bS;obtain ⟨h1,od,td,tb,h2,h3⟩:=h;have ky:handedIn vl=true:=by rcases hl with ⟨rfl,-⟩ | ⟨_,_,_,_,_,_,_,rfl,-⟩ <;> rfl
 have nM:handedIn vr=true:=by rcases hr with ⟨rfl,-⟩ | ⟨_,_,_,_,_,_,_,rfl,-⟩ <;> rfl
 refine' ax (n:=2) (binds:=[("self",.ref a)]) ?ho ?hb ?hp ?_;walk_at "D";refine bq (ie (W.mid (λv m' C'=>m' "self"=some (.ref a)∧C'=C∧∃ t,v=.int dl t) (λQm qx=>?_) ?_))
 ·walk_at "r";refine dA G h1 h2 h3 (by walk_at "k") (by rfl) ky ?_;refine bG G hl ?_;rcases hl with ⟨rfl,rfl⟩ | ⟨a',da',A5,s',AJ,AI,b',rfl,hn⟩
  ·refine bN (by intro e; exact mi e) ?_;walk_at "r";exact ⟨by walk_at "nm",rfl,_,rfl⟩
  ·refine cq rfl ?_;walk_at "r";exact yB G hn λt=>qx.h _ _ _ ⟨by walk_at "nm",rfl,_,rfl⟩
 rintro v m C' ⟨hs,e,tl,rfl⟩;obtain rfl:C=C':=e.symm;clear e;walk_at "st";walk_at "st";refine bq (ie (W.mid (λv m' C'=>ud (m' "self"=some (.ref a)) (m' "left_depth"=some (.int dl tl)) (C'=C) (∃ t,v=.int dr t)) (λQm qx=>?_) ?_))
 ·walk_at "r";refine dA G h1 h2 h3 (by walk_at "k") (by rfl) nM ?_;refine bG G hr ?_;rcases hr with ⟨rfl,rfl⟩ | ⟨a',da',A5,s',AJ,AI,b',rfl,hn⟩
  ·refine bN (by intro e; cases e) ?_;walk_at "r";exact ⟨by walk_at "nm",by walk_at "nm",rfl,_,rfl⟩
  ·refine cq rfl ?_;walk_at "r";exact yB G hn λt=>qx.h _ _ _ ⟨by walk_at "nm",by walk_at "nm",rfl,_,rfl⟩
 rintro v m' C' ⟨D_,q_,e,tr,rfl⟩;obtain rfl:C=C':=e.symm;clear e;walk_at "r";refine Bz G (λtm=>?_);walk_at "r";rename_i o1 k1 qD o2 k2;refine ⟨rfl,o2,_,_,cQ,k2⟩
end
section
variable {P:e_}
theorem J7 {a b:Int}:decide ((if a - b < 0 then -(a - b) else a - b) < 2)=decide (a - b < 2∧b - a < 2):=by
 rw [Int.neg_sub]; split
 ·rename_i h; exact decide_eq_decide.mpr ⟨λk=>⟨Int.lt_trans h (by decide),k⟩,λk=>k.2⟩
 ·rename_i h; exact decide_eq_decide.mpr ⟨λk=>⟨k,Int.lt_of_le_of_lt (Int.sub_nonpos_of_le (Int.le_of_sub_nonneg (Int.le_of_not_gt h))) (by decide)⟩,λk=>k.1⟩
theorem cT.at {C C':Led}{a da:Addr}{xv A5:Value}{s s':Addr}{vl vr AJ AI:Value}{d b d' b':Int} (h:aJ C a da xv s vl vr d b) (k:cT C da A5 s' AJ AI d' b' C'):aJ C' a da A5 s' AJ AI d' b':=by
 obtain ⟨od,td,tb,rfl,hf⟩:=k;exact h.set hf
theorem cT.keep {fp:FP}{C C':Led}{a da:Addr}{xv A5:Value}{s s':Addr}{vl vr AJ AI:Value}{d b d' b':Int} (h:aJ C a da xv s vl vr d b) (k:cT C da A5 s' AJ AI d' b' C') (hf:fp da≠0):aq fp C C':=by
 obtain ⟨od,td,tb,rfl,-⟩:=k;exact h.keepSet hf
theorem cT.more {C C':Led}{da:Addr}{xv:Value}{s:Addr}{vl vr:Value}{d b:Int} (k:cT C da xv s vl vr d b C'):More C C':=by
 obtain ⟨od,td,tb,rfl,-⟩:=k;exact More.refl.upd
theorem cT.other {C C':Led}{da z:Addr}{xv:Value}{s:Addr}{vl vr:Value}{d b:Int} (k:cT C da xv s vl vr d b C') (h:z≠da):C' z=C z:=by
 obtain ⟨od,td,tb,rfl,-⟩:=k;exact ag _ _ h
theorem qH {C:Led}{a da:Addr}{xv:Value}{s:Addr}{vl vr:Value}{d b dl dr:Int} (h:aJ C a da xv s vl vr d b) (hl:iF C vl dl) (hr:iF C vr dr) (h1:dr - dl < 2) (h2:dl - dr < 2) :
  Spec (S2 P) 4 (.ref 371) [.ref a] [] C λr C'=>r=.ref a∧cT C da xv s vl vr (1+(if dr > dl then dr else dl)) (dr - dl) C':=by
 obtain ⟨k1,od,td,tb,k2,k3⟩:=id h;refine' ax (n:=3) (binds:=[("self",.ref a)]) ?ho ?hb ?hp ?_;walk_at "D";walk_at "r";refine aE G (eO h hl hr) (λr C' q=>?_);refine aS q λz9 q=>?_;obtain ⟨j1,jT,A_,qD,j2,j3⟩:=q.at h
 walk_at "r";refine xV (λt=>?_);walk_at "r";rw [J7,decide_eq_true ⟨h1,h2⟩];walk_at "r";exact ⟨rfl,q⟩
inductive gI (C:Led) (xv:Value) (ms:List Iv) (r:Value) (C':Led):Prop
 | mk:∀ a da s fs,r=.ref a->C a=none->aJ C' a da xv s .none .none 1 0->br C' s fs ms->(∀ z,one da z+fs z≠0->C z=none)->(∀ z,one da z+fs z≤1)->(∀ z o,C z=some o->C' z=some o)->gI C xv ms r C'
theorem wV {C:Led}{x dx:Addr}{xv sv:Value}{ms:List Iv}{args:List Value} (hx:C x=none) (bC:C dx=none) (bS:x≠dx)
  (hm:∀ a_,(∀ a o,C a=some o->a_ a=some o)->Spec (S2 P) 10 (.ref 122) [sv] [] a_ (gu a_ ms)) (ha:args=[xv,sv]∨(args=[]∧xv=.none∧sv=.ref 291)) (L4:handedIn xv=true) :
  Spec (S2 P) 12 (.ref 299) (.ref x::args) [] (upd (upd C dx (dictOf [] 0)) x (instObj 491 dx)) λr C'=>r=.none∧gI C xv ms (.ref x) C':=by
 refine' ax (n:=11) (binds:=[("self",.ref x),("x_center",xv),("s_center",sv),("left_node",.none),("right_node",.none)]) ?ho ?hb ?hp ?_
 case ho=>exact rfl
 case hb =>
  intro s X;rcases ha with rfl | ⟨rfl,rfl,rfl⟩
  ·exact binds_K X rfl rfl rfl rfl rfl
  ·exact binds_K X rfl rfl rfl rfl rfl
 case hp=>exact rfl
 intro A Qg L E G Qp et;have pj:dx≠x:=Ne.symm bS;walk_at "r";refine eK (c:=491) (dx:=dx) G (af _ _ _) ((ag _ _ pj).trans (af _ _ _)) eY w6 (Qe rfl) (λo1 h1=>?_);walk_at "r";have aX:∀ a o,C a=some o->upd (upd (upd C dx (dictOf [] 0)) x (instObj 491 dx)) dx o1 a=some o:=λa o e=>by
  exact ae (ag _ _ (λq=>by rw [q] at e; exact bo bC e)) (il hx bC a o e)
 refine aE G (hm _ aX) (λr C' q=>?_);obtain ⟨s,fs,rfl,hs,pk,ui,lu⟩:=q;have xh:C' x=some (instObj 491 dx):=lu _ _ ((ag _ _ bS).trans (af _ _ _));have nu:C' dx=some o1:=lu _ _ (af _ _ _);walk_at "r";rename_i o2 h2 o3 h3 o4 h4 td o5 h5 tb o6 h6;simp only [cQ] at *;have hn:aJ (upd C' dx o6) x dx xv s .none .none 0 0:=⟨(ag _ _ bS).trans xh,o6,_,_,af _ _ _,h6⟩;refine aE G (qH hn (.inl ⟨rfl,rfl⟩) (.inl ⟨rfl,rfl⟩) (by decide) (by decide)) (λr cf q=>?_);refine aS q λz9 q=>?_;walk_at "r"
 have vF:fs dx=0:=by
  by_cases w:fs dx=0
  ·exact w
  ·have:=ui dx w;exact bo this (af ..)
 have M6:∀ z,fs z≠0->C z=none:=λz w=>by
  have e:=ui z w;cases q:C z with
  | none=>rfl
  | some o=>exact bo e (aX _ _ q)
 have kk:aq (one dx) C' cf:=by
  obtain ⟨od,td,tb,rfl,-⟩:=q;refine ae cQ ?_;exact aq.refl.upd (by refine ae (aj _) ?_; decide) (λo ho=>by replace ho:=eG nu ho; subst ho; exact ig h1 (by intro e; exact absurd (Option.some.inj e) (by decide:("x_center":Str)≠"begin")))
 refine ⟨rfl,x,dx,s,fs,rfl,hx,q.at hn,pk.keep kk (λz w=>aG λe=>w (e▸vF)),λz w=>?_,λz=>?_,λz o e=>?_⟩
 ·by_cases y:fs z=0
  ·have:z=dx:=one_pos (bK (vM w (Gu y (vK au))));exact ae this bC
  ·exact M6 z y
 ·have h1:=pk.sep z;by_cases y:z=dx
  ·subst y; refine ae (aj _) (ae vF ?_); exact Nat.le_refl _
  ·exact ae (aG y) (Qb (by walk_at "A") h1)
 ·have n1:z≠dx:=λq=>by rw [q] at e; exact bo bC e
  refine ae (q.other n1) (ae (ag _ _ n1) ?_);exact lu _ _ (aX _ _ e)
theorem qP {C:Led}{xv sv:Value}{ms:List Iv}{args:List Value} (hm:∀ a_,(∀ a o,C a=some o->a_ a=some o)->Spec (S2 P) 10 (.ref 122) [sv] [] a_ (gu a_ ms)) (ha:args=[xv,sv]∨(args=[]∧xv=.none∧sv=.ref 291)) (L4:handedIn xv=true) :
  Spec (S2 P) 13 (.ref 491) args [] C (gI C xv ms) :=
 iS G0 qU λx dx hx bC bS=>wV hx bC bS hm ha L4
end
section
variable {P:e_}
inductive T where
 | nil
 | node (x:Int) (ms:List Iv) (l r:T) (d b:Int)
noncomputable def T.dep:T->Int
 | .nil=>0
 | .node _ _ _ _ d _=>d
inductive vU (C:Led) (v:Value) (x:Int) (ms:List Iv) (d b:Int) (fp:FP) (l r:Value->FP->Prop):Prop
 | mk:∀ a da s fs vl vr fl fr tx,v=.ref a->aJ C a da (.int x tx) s vl vr d b->br C s fs ms->l vl fl->r vr fr->(∀ z,fp z=one da z+fs z+fl z+fr z)->vU C v x ms d b fp l r
noncomputable def ah (C:Led):Value->T->FP->Prop
 | v,.nil,fp=>v=.none∧∀ z,fp z=0
 | v,.node x ms l r d b,fp=>vU C v x ms d b fp (λv f=>ah C v l f) (λv f=>ah C v r f)
theorem ah.dep {C:Led}{v:Value}{t:T}{fp:FP} (h:ah C v t fp):iF C v t.dep:=by
 cases t with
 | nil=>exact .inl ⟨h.1,rfl⟩
 | node x ms l r d b =>
  obtain ⟨a,da,s,fs,vl,vr,fl,fr,tx,e,hn,-⟩:=h;exact .inr ⟨a,da,_,s,vl,vr,b,e,hn⟩
theorem iF.handed {C:Led}{v:Value}{d:Int} (h:iF C v d):handedIn v=true:=by
 rcases h with ⟨rfl,-⟩ | ⟨a,da,xv,s,vl,vr,b,rfl,-⟩ <;> rfl
theorem aJ.some {C:Led}{a da:Addr}{xv:Value}{s:Addr}{vl vr:Value}{d b:Int} (h:aJ C a da xv s vl vr d b):C da≠none:=by
 obtain ⟨h1,od,td,tb,h2,h3⟩:=h;refine ae h2 ?_; intro e; exact uy e
theorem ah.keep {f:FP}{C C':Led} (k:aq f C C'):∀ {t:T}{v:Value}{fp:FP},ah C v t fp->(∀ z,fp z≠0->f z=0)->ah C' v t fp
 | .nil,_,_,h,_=>h
 | .node x ms l r d b,v,fp,⟨a,da,s,fs,vl,vr,fl,fr,tx,e,hn,hm,hl,hr,aM⟩,hd =>
  ⟨a,da,s,fs,vl,vr,fl,fr,tx,e,hn.keep k (hd _ (by refine ae (aM _) (ae (aj _) ?_); exact bK (bT (az (az (az au)))))),hm.keep k (λz q=>hd _ (by exact ae (aM _) (bK (cj q (az (az (aV au))))))),ah.keep k hl (λz q=>hd _ (by exact ae (aM _) (bK (cj q (az (aV au)))))),ah.keep k hr (λz q=>hd _ (by exact ae (aM _) (bK (cj q (aV au))))),aM⟩
theorem ah.alive {C:Led}:∀ {t:T}{v:Value}{fp:FP},ah C v t fp->m9 C fp
 | .nil,_,_,h,z,q=>absurd (h.2 z) q
 | .node x ms l r d b,v,fp,⟨a,da,s,fs,vl,vr,fl,fr,tx,e,hn,hm,hl,hr,aM⟩,z,q=>by
  rw [aM] at q;by_cases q1:one da z=0
  ·by_cases q2:fs z=0
   ·by_cases q3:fl z=0
    ·exact hr.alive z (by omega)
    ·exact hl.alive z q3
   ·exact hm.alive z q2
  ·exact ae (one_pos q1) hn.some
inductive eA (C:Led) (t:T) (r:Value) (C':Led):Prop
 | mk:∀ fp,ah C' r t fp->(∀ z,fp z≤1)->(∀ z,fp z≠0->C z=none)->(∀ a o,C a=some o->C' a=some o)->eA C t r C'
noncomputable def mk (x:Int) (ms:List Iv) (l r:T):T:=.node x ms l r (1+(if r.dep > l.dep then r.dep else l.dep)) (r.dep - l.dep)
noncomputable def gV (ivs:List Iv):Int:=(ivs[ivs.length / 2]?.getD (0,0,0)).1
noncomputable def dY (x:Int) (ivs:List Iv):List Iv:=ivs.filter λi=>decide (i.2.1≤x)
noncomputable def cM (x:Int) (ivs:List Iv):List Iv:=ivs.filter λi=>!decide (i.2.1≤x) && decide (x < i.1)
noncomputable def fY (x:Int) (ivs:List Iv):List Iv:=ivs.filter λi=>!decide (i.2.1≤x) && !decide (x < i.1)
theorem mY (ms ivs:List Iv) (iv:Iv):aH ms (ivs++[iv])=eZ (aH ms ivs) iv:=by unfold aH; refine ae List.foldl_append ?_; rfl
theorem gr (ms ivs:List Iv):(aH ms ivs).length≤ms.length+ivs.length:=by
 induction ivs generalizing ms with
 | nil=>exact Nat.le_refl _
 | cons iv ivs ih =>
  have h1:=ih (eZ ms iv);have h2:=lK ms iv;show (aH (eZ ms iv) ivs).length≤_;simp only [List.length_cons]; exact Qd λq=>Ql (Qa h1 (Qa h2 q))
structure eD (C:Led) (a da:Addr) (x:Int) (s sl sr:Addr) (pre:List Iv) (C':Led):Prop where
 k:∀ z o,C z=some o->z≠da->C' z=some o
 n:∃ tx,aJ C' a da (.int x tx) s .none .none 1 0
 m:∃ fs,br C' s fs (aH [] (fY x pre))∧(∀ z,fs z≠0->C z=none)∧fs sl=0∧fs sr=0
 l:∃ as kl,C' sl=some (listOf (as.map Value.ref).toArray kl)∧aP C' as (dY x pre)
 r:∃ as kr,C' sr=some (listOf (as.map Value.ref).toArray kr)∧aP C' as (cM x pre)
 nl:C sl=none
 nr:C sr=none
 ne:sl≠sr
end
section
variable {P:e_}
theorem T7 {a b:Nat}{x y:Int} (h:a≤b+1) (e1:x=a) (e2:y=b):x - y≤1:=e1▸e2▸Int.sub_left_le_of_le_add (Int.ofNat_le.mpr h)
theorem A1 {a b:Nat}{x y:Int} (h:a≤b+1) (e1:x=a) (e2:y=b):x - y < 2:=Int.lt_of_le_of_lt (T7 h e1 e2) (by decide)
theorem PT {a b:Nat}{x y:Int} (h:b≤a+1) (e1:x=a) (e2:y=b):-2 < x - y:=Int.neg_sub y x▸Int.neg_lt_neg (A1 h e2 e1)
theorem WV {R S:Nat} (h:R+S / 2+1≤S):R≤S / 2:=by omega
theorem IQ:fnIn (KK P) 474=true:=by kernel_rfl
theorem LK:noSeq (KK P) 491=true:=by kernel_rfl
theorem iW {A:Around}{Qg:Heap}{L:Addr}{E:Value->Shared->Prop}{m:Loc}{env:Env}{n:Nat}{C:Led}{value slice:Expr}{a da:Addr}{xv:Value}{s:Addr}{vl vr:Value}{d b:Int}{i:Value}{c:Bool}{Q:Value->Loc->Led->Prop} (G:Gd (S2 P) n A Qg L env)
  (h:aJ C a da xv s vl vr d b) (hi:Idx i c) (hl:handedIn vl=true) (hr:handedIn vr=true) (hQ:Q (if c then vr else vl) m C) (hn:3≤n:=by omega +splitMinMax)
  (iu:autoParam (subscripted slice true (.ref a) i=runValue (.builtin "lifetime.subscript" ⟨[.ref a,i],[]⟩)) aU):W (S2 P) A Qg L E (subscriptTail value slice (.ref a) i) m C Q:=by
 refine aQ (⟨n - 1,by omega +splitMinMax⟩:∃ k,n=k+1) λk ak=>?_; subst ak
 obtain ⟨h1,od,td,tb,h2,h3⟩:=id h;exact yZ G h1 h2 Cc IQ ((zw h hi hl hr).le (by omega +splitMinMax)) (λv C' q=>by refine ae q.1 (ae q.2 ?_); exact hQ) iu
theorem IX {t:Tok}:Idx (.int 0 t) false:=.inr ⟨0,t,rfl,rfl⟩
theorem IW {t:Tok}:Idx (.int 1 t) true:=.inr ⟨1,t,rfl,rfl⟩
theorem eT {A:Around}{Qg:Heap}{L:Addr}{E:Value->Shared->Prop}{m:Loc}{env:Env}{n:Nat}{C:Led}{value slice:Expr}{a da:Addr}{xv:Value}{s:Addr}{vl vr:Value}{d b:Int}{t:Tok}{Q:Value->Loc->Led->Prop} (G:Gd (S2 P) n A Qg L env)
  (h:aJ C a da xv s vl vr d b) (hl:handedIn vl=true) (hr:handedIn vr=true) (hQ:Q vl m C) (hn:autoParam (3≤n) aO)
  (iu:autoParam (subscripted slice true (.ref a) (.int 0 t)=runValue (.builtin "lifetime.subscript" ⟨[.ref a,.int 0 t],[]⟩)) aU):W (S2 P) A Qg L E (subscriptTail value slice (.ref a) (.int 0 t)) m C Q :=
 iW (c:=false) G h IX hl hr hQ hn iu
theorem gB {A:Around}{Qg:Heap}{L:Addr}{E:Value->Shared->Prop}{m:Loc}{env:Env}{n:Nat}{C:Led}{value slice:Expr}{a da:Addr}{xv:Value}{s:Addr}{vl vr:Value}{d b:Int}{t:Tok}{Q:Value->Loc->Led->Prop} (G:Gd (S2 P) n A Qg L env)
  (h:aJ C a da xv s vl vr d b) (hl:handedIn vl=true) (hr:handedIn vr=true) (hQ:Q vr m C) (hn:autoParam (3≤n) aO)
  (iu:autoParam (subscripted slice true (.ref a) (.int 1 t)=runValue (.builtin "lifetime.subscript" ⟨[.ref a,.int 1 t],[]⟩)) aU):W (S2 P) A Qg L E (subscriptTail value slice (.ref a) (.int 1 t)) m C Q :=
 iW (c:=true) G h IW hl hr hQ hn iu
noncomputable def T.isNil:T->Bool
 | .nil=>true
 | _=>false
theorem Bv {A:Around}{Qg:Heap}{L:Addr}{E:Value->Shared->Prop}{m:Loc}{env:Env}{n:Nat}{C:Led}{a da:Addr}{xv:Value}{s:Addr}{vl vr:Value}{d b:Int}{i v:Value}{c:Bool}{Q:Unit->Loc->Led->Prop} (G:Gd (S2 P) n A Qg L env)
  (h:aJ C a da xv s vl vr d b) (hi:Idx i c) (hQ:∀ C',cT C da xv s (if c then vl else v) (if c then v else vr) d b C'->Q () m C') (hn:autoParam (2≤n) aO):W (S2 P) A Qg L E (setItem (.ref a) i v) m C Q:=by
 obtain ⟨h1,od,td,tb,h2,h3⟩:=id h;exact qh G h1 h2 LK Cb ((zv h hi).le hn) (λv C' q=>hQ C' q)
noncomputable abbrev lo (c:Bool) (v w:Value):Value:=if c then v else w
noncomputable abbrev hi (c:Bool) (v w:Value):Value:=if c then w else v
section
variable {A:Around}{Qg:Heap}{L:Addr}{E:Value->Shared->Prop}{m:Loc}{env:Env}{n:Nat}{C:Led}{value slice:Expr}{a da:Addr}{xv:Value}{s:Addr}{vl vh:Value}{d b:Int}{i v:Value}{c c':Bool}
theorem jr {Q:Value->Loc->Led->Prop} (G:Gd (S2 P) n A Qg L env)
  (h:aJ C a da xv s (lo c vl vh) (hi c vl vh) d b) (hi:Idx i c) (hl:handedIn vl=true) (hh:handedIn vh=true) (hQ:Q vh m C) (hn:autoParam (3≤n) aO)
  (iu:autoParam (subscripted slice true (.ref a) i=runValue (.builtin "lifetime.subscript" ⟨[.ref a,i],[]⟩)) aU):W (S2 P) A Qg L E (subscriptTail value slice (.ref a) i) m C Q:=by
 refine iW G h hi (by cases c <;> assumption) (by cases c <;> assumption) ?_ hn iu;cases c <;> exact hQ
theorem rX {Q:Value->Loc->Led->Prop} (G:Gd (S2 P) n A Qg L env)
  (h:aJ C a da xv s (lo c vl vh) (hi c vl vh) d b) (hi:Idx i (!c)) (hl:handedIn vl=true) (hh:handedIn vh=true) (hQ:Q vl m C) (hn:autoParam (3≤n) aO)
  (iu:autoParam (subscripted slice true (.ref a) i=runValue (.builtin "lifetime.subscript" ⟨[.ref a,i],[]⟩)) aU):W (S2 P) A Qg L E (subscriptTail value slice (.ref a) i) m C Q:=by
 refine iW G h hi (by cases c <;> assumption) (by cases c <;> assumption) ?_ hn iu;cases c <;> exact hQ
theorem fW {Q:Unit->Loc->Led->Prop} (G:Gd (S2 P) n A Qg L env)
  (h:aJ C a da xv s (lo c vl vh) (hi c vl vh) d b) (hi:Idx i c) (hQ:∀ C',cT C da xv s (lo c vl v) (dD.hi c vl v) d b C'->Q () m C') (hn:autoParam (2≤n) aO):W (S2 P) A Qg L E (setItem (.ref a) i v) m C Q :=
 Bv G h hi (λC' q=>hQ C' (by cases c <;> exact q)) hn
theorem xT {Q:Unit->Loc->Led->Prop} (G:Gd (S2 P) n A Qg L env)
  (h:aJ C a da xv s (lo c vl vh) (hi c vl vh) d b) (hi:Idx i (!c)) (hQ:∀ C',cT C da xv s (lo c v vh) (dD.hi c v vh) d b C'->Q () m C') (hn:autoParam (2≤n) aO):W (S2 P) A Qg L E (setItem (.ref a) i v) m C Q :=
 Bv G h hi (λC' q=>hQ C' (by cases c <;> exact q)) hn
end
noncomputable def nd (c:Bool) (x:Int) (ms:List Iv) (tl th:T) (d b:Int):T:=if c then .node x ms tl th d b else .node x ms th tl d b
noncomputable def gx (c:Bool) (x:Int) (ms:List Iv) (tl th:T):T:=if c then mk x ms tl th else mk x ms th tl
noncomputable def pick (c:Bool) (l r:T):T:=if c then r else l
theorem gD (c:Bool) (x:Int) (ms:List Iv) (l r:T) (d b:Int):T.node x ms l r d b=nd c x ms (pick (!c) l r) (pick c l r) d b:=by cases c <;> rfl
inductive DV (C:Led) (v:Value) (c:Bool) (x:Int) (ms:List Iv) (tl th:T) (d b:Int) (fp:FP):Prop
 | mk:∀ a da s fs vl vh fl fh tx,v=.ref a->aJ C a da (.int x tx) s (lo c vl vh) (hi c vl vh) d b->br C s fs ms->ah C vl tl fl->ah C vh th fh->(∀ z,fp z=one da z+fs z+fl z+fh z)->DV C v c x ms tl th d b fp
theorem ah.nd {C:Led}{c:Bool}{v:Value}{x:Int}{ms:List Iv}{tl th:T}{d b:Int}{fp:FP} (h:ah C v (nd c x ms tl th d b) fp):DV C v c x ms tl th d b fp:=by
 cases c
 ·obtain ⟨a,da,s,fs,vl,vr,fl,fr,tx,e,hn,hm,hl,hr,aM⟩:=h;exact ⟨a,da,s,fs,vr,vl,fr,fl,tx,e,hn,hm,hr,hl,λz=>by exact ae (aM _) (by walk_at "A")⟩
 ·obtain ⟨a,da,s,fs,vl,vr,fl,fr,tx,e,hn,hm,hl,hr,aM⟩:=h;exact ⟨a,da,s,fs,vl,vr,fl,fr,tx,e,hn,hm,hl,hr,aM⟩
theorem ah.ofNd {C:Led}{c:Bool}{a da s:Addr}{fs fl fh fp:FP}{vl vh:Value}{tx:Tok}{x:Int}{ms:List Iv}{tl th:T}{d b:Int} (hn:aJ C a da (.int x tx) s (lo c vl vh) (hi c vl vh) d b) (hm:br C s fs ms) (hl:ah C vl tl fl) (hh:ah C vh th fh)
  (aM:∀ z,fp z=one da z+fs z+fl z+fh z):ah C (.ref a) (dD.nd c x ms tl th d b) fp:=by
 cases c
 ·exact ⟨a,da,s,fs,vh,vl,fh,fl,tx,rfl,hn,hm,hh,hl,λz=>by exact ae (aM _) (by walk_at "A")⟩
 ·exact ⟨a,da,s,fs,vl,vh,fl,fh,tx,rfl,hn,hm,hl,hh,aM⟩
end
section
variable {P:e_}
noncomputable def hits (x:Int) (iv:Iv):Bool:=decide (iv.1≤x∧x < iv.2.1)
noncomputable def T.bal:T->Int
 | .nil=>0
 | .node _ _ _ _ _ b=>b
noncomputable def hX (f:Iv->T->Option (T×Bool)):List Iv->T->Option T
 | [],t=>some t
 | iv::ivs,t =>
  match f iv t with
  | none=>none
  | some p=>hX f ivs p.1
noncomputable def ff (x:Int) (ms:List Iv):Int:=ms.foldl (λm i=>if m < i.2.1 then i.2.1 else m) x
noncomputable def newX (x:Int) (ms:List Iv):Int:=(ms.filter λi=>!decide (i.2.1=ff x ms)).foldl (λm i=>if m < i.2.1 then i.2.1 else m) x
mutual
noncomputable def dT:Nat->T->Option T
 | 0,_=>none
 | _+1,.nil=>none
 | k+1,.node x ms l r _ _ =>
  if r.dep - l.dep < 2∧l.dep - r.dep < 2 then some (mk x ms l r)
  else if (pick (decide (0 < r.dep - l.dep)) l r).isNil then none
  else if decide (0 < r.dep - l.dep)=decide (0 < (pick (decide (0 < r.dep - l.dep)) l r).bal)∨(pick (decide (0 < r.dep - l.dep)) l r).bal=0 then ec k (mk x ms l r) else jh k (mk x ms l r)
noncomputable def ec:Nat->T->Option T
 | 0,_=>none
 | _+1,.nil=>none
 | k+1,.node x ms l r d b =>
  match pick (decide (0 < b)) l r with
  | .nil=>none
  | .node sx K5 sl sr _ _ =>
   match dT k (nd (decide (0 < b)) x ms (pick (!decide (0 < b)) l r) (pick (!decide (0 < b)) sl sr) d b) with
   | none=>none
   | some .nil=>none
   | some (.node x1 zC l1 r1 d1 b1) =>
    if 300 < K5.length+zC.length then none else
    match hX (fe k) (zC.filter (hits sx)) (.node x1 zC l1 r1 d1 b1) with
    | none=>none
    | some t2=>some (gx (decide (0 < b)) sx (aH K5 (zC.filter (hits sx))) t2 (pick (decide (0 < b)) sl sr))
noncomputable def jh:Nat->T->Option T
 | 0,_=>none
 | _+1,.nil=>none
 | k+1,.node x ms l r _ b =>
  match ec k (pick (decide (0 < b)) l r) with
  | none=>none
  | some ch=>ec k (gx (decide (0 < b)) x ms (pick (!decide (0 < b)) l r) ch)
noncomputable def fe:Nat->Iv->T->Option (T×Bool)
 | 0,_,_=>none
 | _+1,_,.nil=>none
 | k+1,iv,.node x ms l r d b =>
  if hits x iv then
   if iv∈ms∧ms.length≤300 then
    if (ms.filter λj=>!decide (j=iv)).isEmpty then
     match cR k (.node x [] l r d b) with
     | none=>none
     | some t=>some (t,false)
    else some (.node x (ms.filter λj=>!decide (j=iv)) l r d b,true)
   else none
  else
   match fe k iv (pick (decide (x < iv.1)) l r) with
   | none=>none
   | some (t,true)=>some (nd (decide (x < iv.1)) x ms (pick (!decide (x < iv.1)) l r) t d b,true)
   | some (t,false) =>
    match dT k (nd (decide (x < iv.1)) x ms (pick (!decide (x < iv.1)) l r) t d b) with
    | none=>none
    | some t'=>some (t',false)
noncomputable def cR:Nat->T->Option T
 | 0,_=>none
 | _+1,.nil=>none
 | k+1,.node x _ l r d b=>if l.isNil then some r else if r.isNil then some l else
  match jC k l with
  | none=>none
  | some p=>dT k (.node p.1.1 p.1.2 p.2 r 1 0)
noncomputable def jC:Nat->T->Option ((Int×List Iv)×T)
 | 0,_=>none
 | _+1,.nil=>none
 | k+1,.node x ms l r d b=>if r.isNil then if ms.isEmpty || decide (6 < ms.length) then none else
   some ((newX x ms,aH [] (ms.filter (hits (newX x ms)))),if (ms.filter λj=>!hits (newX x ms) j).isEmpty then l else .node x (ms.filter λj=>!hits (newX x ms) j) l r d b)
  else match jC k r with
  | none=>none
  | some p=>if 300 < ms.length+p.1.2.length then none else
   match (if (ms.filter λj=>!hits p.1.1 j).isEmpty then cR k (.node x [] l p.2 d b) else dT k (.node x (ms.filter λj=>!hits p.1.1 j) l p.2 d b)) with
   | none=>none
   | some t=>some ((p.1.1,aH p.1.2 ((aH [] ms).filter (hits p.1.1))),t)
end
noncomputable def qz:Nat->Iv->T->Option T
 | 0,_,_=>none
 | _+1,_,.nil=>none
 | k+1,iv,.node x ms l r d b =>
  if hits x iv then some (.node x (eZ ms iv) l r d b)
  else if (pick (decide (x < iv.1)) l r).isNil then some (gx (decide (x < iv.1)) x ms (pick (!decide (x < iv.1)) l r) (mk iv.1 [iv] .nil .nil))
  else match qz k iv (pick (decide (x < iv.1)) l r) with
   | none=>none
   | some t=>dT k (nd (decide (x < iv.1)) x ms (pick (!decide (x < iv.1)) l r) t d b)
inductive dE (C:Led) (fp:FP) (t:T) (r:Value) (C':Led):Prop
 | mk:∀ fp',ah C' r t fp'->Own C fp fp'->aq fp C C'->More C C'->dE C fp t r C'
theorem dE.after {C C1 C':Led}{fp:FP}{t:T}{r:Value} (k1:aq fp C C1) (m1:More C C1) (h:dE C1 fp t r C'):dE C fp t r C':=by
 obtain ⟨fp',a1,a2,a3,a4⟩:=h;exact ⟨fp',a1,⟨a2.1,λz q=>(a2.2 z q).imp id (m1 z)⟩,k1.trans a3 (λz q=>.inl q),m1.trans a4⟩
noncomputable def ba (k:Nat):Nat:=24+3 * k
noncomputable def lO (P:e_) (k:Nat):Prop:=∀ {C:Led}{v:Value}{t t':T}{fp:FP},ah C v t fp->(∀ z,fp z≤1)->dT k t=some t'->Spec (S2 P) (ba k) (.ref 371) [v] [] C (dE C fp t')
noncomputable def pU (P:e_) (k:Nat):Prop:=∀ {C:Led}{v:Value}{t t':T}{fp:FP},ah C v t fp->(∀ z,fp z≤1)->ec k t=some t'->Spec (S2 P) (ba k) (.ref 376) [v] [] C (dE C fp t')
noncomputable def ub (P:e_) (k:Nat):Prop:=∀ {C:Led}{v:Value}{t t':T}{fp:FP},ah C v t fp->(∀ z,fp z≤1)->jh k t=some t'->Spec (S2 P) (ba k) (.ref 383) [v] [] C (dE C fp t')
noncomputable def jA (P:e_) (k:Nat):Prop:=∀ {C:Led}{v:Value}{t t':T}{fp:FP},ah C v t fp->(∀ z,fp z≤1)->cR k t=some t'->Spec (S2 P) (ba k) (.ref 432) [v] [] C (dE C fp t')
inductive nS (C:Led) (fp:FP) (l:Addr) (t:T) (b:Bool) (r:Value) (C':Led):Prop
 | mk:∀ fp' vs,ah C' r t fp'->Own C fp fp'->aq (λz=>fp z+one l z) C C'->More C C'->cN C' l vs->vs.isEmpty=(!b)->vs.length≤1->nS C fp l t b r C'
noncomputable def mZ (P:e_) (k:Nat):Prop:=∀ {C:Led}{v:Value}{t t':T}{b:Bool}{fp:FP}{va l:Addr}{iv:Iv}{args:List Value}{kw:List (Str×Value)},ah C v t fp->(∀ z,fp z≤1)->b_ C va iv->cN C l []->fp l=0->fe k iv t=some (t',b) →
 (args=[v,.ref va,.ref l,.bool true]∧kw=[]∨args=[v,.ref va,.ref l]∧kw=[(("should_raise_error":Str),Value.bool true)])->Spec (S2 P) (ba k) (.ref 411) args kw C (nS C fp l t' b)
end
section
theorem cX {C C':Led}{a da:Addr}{xv A5:Value}{s s':Addr}{vl vr AJ AI:Value}{d b d' b':Int} (hn:aJ C a da xv s vl vr d b) (q:cT C da A5 s' AJ AI d' b' C'):aq (one da) C C':=cT.keep hn q (by rw [aj]; decide)
theorem bp {da:Addr}{f:FP} (h:f da=0):∀ z,f z≠0->one da z=0:=λz q=>aG λe=>q (e▸h)
theorem lq {da:Addr}{fp fs fl fr:FP} (aM:∀ z,fp z=one da z+fs z+fl z+fr z):∀ z,fp z=0->one da z=0:=λz q=>by have:=aM z; exact bj (cH q (dO this (az (az (az au)))))
theorem BN {C:Led}{fp:FP} (h:∀ z,fp z≤1):Own C fp fp:=.refl h
theorem Bm {k:Nat} (LV:pU P k) (ihd:ub P k):lO P (k+1):=by
 intro C v t t' fp ht aL hr;cases t with
 | nil=>simp [dT] at hr
 | node x ms l r d b =>
  obtain ⟨a,da,s,fs,vl,vr,fl,fr,tx,rfl,hn,hm,hl,gQ,aM⟩:=ht;have yV:=aL da;rw [aM,aj] at yV;have e1:fs da=0:=bj (bZ yV (dq (dq (cZ au (bT au)))));have e2:fl da=0:=bj (bZ yV (dq (cZ au (bT (az au)))));have e3:fr da=0:=bj (bZ yV (cZ au (bT (az (az au)))));obtain ⟨k1,od,td,tb,k2,k3⟩:=id hn;refine' ax (n:=ba k+2) (binds:=[("self",.ref a)]) ?ho ?hb ?hp ?_;walk_at "D";have hc:ba k=24+3 * k:=rfl;walk_at "r";refine aE G (eO hn hl.dep gQ.dep) (λz9 C1 q=>?_) (Qb (by walk_at "A") (Qb (Qc (Eq.symm hc)) (by walk_at "A")));refine aS q λz9 q=>?_;have kk:=cX hn q
  have iH:=q.at hn;have vZ:=hm.keep kk (bp e1);have jx:=ah.keep kk hl (bp e2);have Ac:=ah.keep kk gQ (bp e3);have OB:aq fp C C1:=kk.mono (lq aM);have mR:ah C1 (.ref a) (mk x ms l r) fp:=⟨a,da,s,fs,vl,vr,fl,fr,tx,rfl,iH,vZ,jx,Ac,aM⟩;obtain ⟨j1,jT,A_,qD,j2,j3⟩:=id iH;walk_at "r";refine xV (λt=>?_);walk_at "r";rw [dT] at hr;by_cases hb:r.dep - l.dep < 2∧l.dep - r.dep < 2
  ·rw [if_pos hb] at hr;replace hr:=Option.some.inj hr; subst hr;rw [J7,decide_eq_true hb];walk_at "r";exact ⟨fp,mR,BN aL,OB,q.more⟩
  ·rw [if_neg hb] at hr;rw [J7,decide_eq_false hb];walk_at "r";refine aQ (⟨_,rfl⟩:∃ c,c=decide (0 < r.dep - l.dep)) λc An=>?_;rw [← An] at hr ⊢
   have uj:ah C1 (if c then vr else vl) (pick c l r) (if c then fr else fl):=by cases c <;> assumption
   cases e:pick c l r with
   | nil=>rw [e] at hr; simp [T.isNil] at hr
   | node cx XS cl cr cd cb =>
    rw [e] at uj hr;obtain ⟨ca,AD,cs,cfs,A3,A2,Ub,Ua,ctx,ev,pY,-⟩:=uj;obtain ⟨w1,JY,JW,JX,w2,w3⟩:=id pY;have ky:=hl.dep.handed;have nM:=gQ.dep.handed;refine iW G iH (.inl rfl) ky nM ?_ (Qb (by walk_at "A") (Qb (Qc (Eq.symm hc)) (by walk_at "A")));refine ae ev ?_;walk_at "r";rw [show (T.node cx XS cl cr cd cb).isNil=false from rfl,if_neg (show ¬ (false=true) by decide)] at hr;refine cB (λq1=>?_) (λq1=>?_)
    ·simp only [beq_iff_eq] at q1;rw [if_pos (.inl q1)] at hr;walk_at "r";refine aE G (LV mR aL hr) (λv C2 z=>?_) (Qb (Nat.le_refl (ba k)) (Nat.le_add_right (ba k) 2));walk_at "r";exact z.after OB q.more
    ·simp only [beq_iff_eq] at q1;walk_at "r";refine iW G iH (.inl rfl) ky nM ?_ (Qb (by walk_at "A") (Qb (Qc (Eq.symm hc)) (by walk_at "A")));refine ae ev ?_;walk_at "r";refine cB (λq2=>?_) (λq2=>?_)
     ·simp only [beq_iff_eq] at q2;rw [if_pos (.inr q2)] at hr;walk_at "r";refine aE G (LV mR aL hr) (λv C2 z=>?_) (Qb (Nat.le_refl (ba k)) (Nat.le_add_right (ba k) 2));walk_at "r";exact z.after OB q.more
     ·simp only [beq_iff_eq] at q2;rw [if_neg (λq3=>q3.elim q1 q2)] at hr;walk_at "r";refine aE G (ihd mR aL hr) (λv C2 z=>?_) (Qb (Nat.le_refl (ba k)) (Nat.le_add_right (ba k) 2));walk_at "r";exact z.after OB q.more
end
section
theorem je {C:Led}{a da:Addr}{x:Int}{tx:Tok}{s:Addr}{vl vr:Value}{d b:Int}{v:Addr}{iv:Iv} (hn:aJ C a da (.int x tx) s vl vr d b) (hv:b_ C v iv) :
  Spec (S2 P) 3 (.ref 343) [.ref a,.ref v] [] C λr C'=>r=.bool (hits x iv)∧C'=C:=by
 obtain ⟨h1,od,td,tb,h2,h3⟩:=id hn;obtain ⟨dv,ov,Et,NS,Es,vq,yk,I1⟩:=id hv;refine' ax (n:=2) (binds:=[("self",.ref a),("interval",.ref v)]) ?ho ?hb ?hp ?_;walk_at "D";walk_at "r";refine eS G (lD hv) ?_;walk_at "r";exact ⟨rfl,rfl⟩
theorem mX {C:Led}{a da:Addr}{x:Int}{tx:Tok}{s:Addr}{vl vr:Value}{d b:Int}{v:Addr}{iv:Iv} (hn:aJ C a da (.int x tx) s vl vr d b) (hv:b_ C v iv) :
  Spec (S2 P) 2 (.ref 350) [.ref a,.ref v] [] C λr C'=>r=.bool (decide (x < iv.1))∧C'=C:=by
 obtain ⟨h1,od,td,tb,h2,h3⟩:=id hn;obtain ⟨dv,ov,Et,NS,Es,vq,yk,I1⟩:=id hv;refine' ax (n:=1) (binds:=[("self",.ref a),("interval",.ref v)]) ?ho ?hb ?hp ?_;walk_at "D";walk_at "r";exact ⟨rfl,rfl⟩
theorem xQ {k:Nat} (IV:mZ P k) {C:Led}{v:Value}{t t':T}{b:Bool}{fp:FP}{va:Addr}{iv:Iv} (ht:ah C v t fp) (aL:∀ z,fp z≤1) (hv:b_ C va iv) (hr:fe k iv t=some (t',b)) :
  Spec (S2 P) (ba k+1) (.ref 397) [v,.ref va] [] C (dE C fp t'):=by
 cases k with
 | zero=>simp [fe] at hr
 | succ k =>
 cases t with
 | nil=>simp [fe] at hr
 | node x ms l r d bb =>
  obtain ⟨a,da,s,fs,vl,vr,fl,fr,tx,rfl,hn,hm,hl,gQ,aM⟩:=id ht;obtain ⟨h1,od,td,tb,h2,h3⟩:=id hn;refine' ax (n:=ba (k+1)) (binds:=[("self",.ref a),("interval",.ref va)]) ?ho ?hb ?hp ?_;walk_at "D";walk_at "r";refine bH (vs:=[]) (λl hl=>?_) (by simp [sizeLine_eq]);have cu:ba (k+1)=24+3 * (k+1):=rfl;have kk:aq (λz9=>0) C (upd C l (listOf ([]:List Value).toArray 0)):=aq.refl.new hl;have yt:=hn.keep kk rfl;obtain ⟨h1',jT,A_,qD,Xv,h3'⟩:=id yt;have lR:fp l=0:=by
   by_cases q:fp l=0
   ·exact q
   ·exact absurd hl (ht.alive _ q)
  walk_at "r";refine qi G (by kernel_rfl) rfl ?_;walk_at "r";refine rZ ?_;walk_at "r";refine uM ?_;refine aE G (IV (ah.keep kk ht (λz9 z8=>rfl)) aL (hv.keep kk) ⟨0,af _ _ _⟩ lR hr (.inr ⟨rfl,rfl⟩)) (λr C' q=>?_);walk_at "r";obtain ⟨fp',vs,hT,own,k',mo,-⟩:=q;refine ⟨fp',hT,⟨own.1,λz q=>(own.2 z q).imp id λw=>(bY w).1⟩,?_,(More.of_sub (aB hl)).trans mo⟩;refine λz o e w=>k' z o (kk z o e (.inr rfl)) (w.imp id λw=>?_)
  show fp z+one l z=0;exact ae w (ae (aG (λy=>by rw [y] at e; exact bo hl e)) rfl)
theorem yR {k:Nat} (zY:lO P k) (IV:mZ P k):pU P (k+1):=by
 intro C v t t' fp ht aL hs;cases t with
 | nil=>simp [ec] at hs
 | node x ms l r d b =>
  rw [ec] at hs;refine aQ (⟨_,rfl⟩:∃ c,c=decide (0 < b)) λc hc=>?_;rw [← hc] at hs
  rw [gD c] at ht;obtain ⟨a,da,s,fs,vo,vc,fo,fc,tx,rfl,hn,hm,ho,hh,aM⟩:=ht.nd;cases e:pick c l r with
  | nil=>rw [e] at hs; exact iO hs
  | node sx K5 sl sr sd sb =>
   rw [e] at hs hh;dsimp only at hs;rw [gD c sx] at hh;obtain ⟨sa,hO,ss,Gw,wl,wh,fl,fh,Uu,rfl,jd,qZ,Kn,Oi,jH⟩:=hh.nd;cases e1:dT k (nd c x ms (pick (!c) l r) (pick (!c) sl sr) d b) with
   | none=>rw [e1] at hs; exact iO hs
   | some t1 =>
    rw [e1] at hs;cases t1 with
    | nil=>exact iO hs
    | node x1 zC l1 r1 d1 b1 =>
     dsimp only at hs;by_cases hlen:300 < K5.length+zC.length
     ·exact bo (if_pos hlen) hs
     rw [if_neg hlen] at hs;cases e2:hX (fe k) (zC.filter (hits sx)) (.node x1 zC l1 r1 d1 b1) with
     | none=>rw [e2] at hs; exact iO hs
     | some t2 =>
      rw [e2] at hs;replace hs:=Option.some.inj hs; subst hs;have mh:=ht.alive;refine' eB (n:=ba k+2) (binds:=[("self",.ref a)]) ?ho ?hb ?hp ?_
      case ho=>exact rfl
      case hb=>exact λs z9=>BindsTo.of_eq rfl
      case hp=>exact rfl
      intro A Qg L E a_ G aX cF Qp et;refine ck (cF "save" (L+1) rfl:C (L+1)=none∧∃ o,a_ (L+1)=some o∧o.data=.cell none) λpY oc v9 iJ=>?_;have cu:ba k=24+3 * k:=rfl
      have gh:aq (λz9=>0) C a_:=aq.of_sub aX;have CQ:=hn.keep gh rfl;obtain ⟨g1,od,td,tb,g2,g3⟩:=id CQ;have hvo:=ho.dep.handed;walk_at "r";refine eI hc ?_;refine jr G CQ (.inl rfl) hvo rfl ?_ (Qb (by walk_at "A") (Qb (Qc (Eq.symm cu)) (by walk_at "A")));refine eQ G rfl v9 iJ (λo' ph=>?_) (by rfl);have kk:aq (λz9=>0) C (upd a_ (L+1) o'):=gh.new pY;have mo:More C (upd a_ (L+1) o'):=(More.of_sub aX).upd;have Al:upd a_ (L+1) o' (L+1)=some o':=af _ _ _;generalize upd a_ (L+1) o'=C2 at kk mo Al ⊢;have hfc:fp (L+1)=0:=by
       by_cases q:fp (L+1)=0
       ·exact q
       ·exact absurd pY (mh _ q)
      have vB:yF o':=.inr ⟨λ⟨es,n,e⟩=>(by rw [e] at ph; injection ph),λ⟨es,n,e⟩=>(by rw [e] at ph; injection ph),(by intro vs e; rw [ph] at e; injection e)⟩;have x1:=aL da;rw [aM da,jH da,aj] at x1;have x2:=aL hO;rw [aM hO,jH hO,aj hO] at x2;have x3:=hfc;rw [aM,jH] at x3;have z:∀ {f:FP}{u:Addr} ,f u=0->∀ z,f z≠0->one u z=0:=λh z q=>aG λe=>q (e▸h)
      have RT:=hn.keep kk rfl;have MI:=jd.keep kk rfl;have hmB:=hm.keep kk (λz9 z8=>rfl);have R8:=qZ.keep kk (λz9 z8=>rfl);have hoB:=ah.keep kk ho (λz9 z8=>rfl);have Rn:=ah.keep kk Kn (λz9 z8=>rfl);have Rp:=ah.keep kk Oi (λz9 z8=>rfl);clear CQ g1 g2 g3 v9 iJ gh aX cF;walk_at "r";refine rX G MI (.inl rfl) Kn.dep.handed Oi.dep.handed ?_ (Qb (by walk_at "A") (Qb (Qc (Eq.symm cu)) (by walk_at "A")));walk_at "r";refine fW G RT (.inl rfl) (λC3 q3=>?_) (Qe rfl);have k3:=cX RT q3;have Wy:=q3.at RT;have S1:C3 (L+1)=some o':=k3 _ _ Al (.inl vB);have hmC:=hmB.keep k3 (z (Nat.le_zero.mp (Qd λq=>Ql (Qa x1 q))));have MM:=R8.keep k3 (z (bj (bZ x1 (cZ (az (az (aV au))) (bT (az (az au)))))));have hoC:=ah.keep k3 hoB (z (Nat.le_zero.mp (Qd λq=>Ql (Qa x1 q))));have Rm:=ah.keep k3 Rn (z (bj (bZ x1 (cZ (az (aV au)) (bT (az (az au)))))));have L8:=ah.keep k3 Rp (z (bj (bZ x1 (cZ (aV au) (bT (az (az au)))))));have Jg:=MI.keep k3 (aG (λe=>by rw [e,aj] at x2; exact Ql x2));have mR:ah C3 (.ref a) (nd c x ms (pick (!c) l r) (pick (!c) sl sr) d b) (λz=>one da z+fs z+fo z+fl z):=ah.ofNd Wy hmC hoC Rm (λz9=>rfl);obtain ⟨g1,od,td,tb,g2,g3⟩:=id Wy;walk_at "r";refine aE G (zY mR (λz=>by have:=aL z; rw [aM,jH] at this; show one da z+fs z+fo z+fl z≤1; exact Qb (by walk_at "A") this) e1) (λv1 C4 q4=>?_) (Qb (Nat.le_refl (ba k)) (Nat.le_add_right (ba k) 2));obtain ⟨f4,El,wQ,k4,N2⟩:=q4;have f4z:∀ u,C3 u≠none->one da u+fs u+fo u+fl u=0->f4 u=0:=λu h1 h2=>by
       by_cases q:f4 u=0
       ·exact q
       ·rcases wQ.2 u q with w | w
        ·exact absurd h2 w
        ·exact absurd w h1
      have S0:C4 (L+1)=some o':=k4 _ _ S1 (.inl vB);have Jf:=Jg.keep k4 (by show one da hO+fs hO+fo hO+fl hO=0; exact Nat.le_zero.mp (Qd λq=>Ql (Qa x2 q)));have XC:f4 hO=0:=f4z _ Jg.some (Nat.le_zero.mp (Qd λq=>Ql (Qa x2 q)));walk_at "r";refine xT G Jf (.inl rfl) (λC5 q5=>?_) (Qe rfl);have k5:=cX Jf q5;have CR:=q5.at Jf;have SY:C5 (L+1)=some o':=k5 _ _ S0 (.inl vB);have KD:=ah.keep k5 El (z XC);have ML:=(MM.keep k4 (λz q=>by have:=aL z; rw [aM,jH] at this; show one da z+fs z+fo z+fl z=0; exact Nat.le_zero.mp (Qd λq9=>Ql (Qa (Nat.pos_of_ne_zero q) (Qa q9 this))))).keep k5 (z (Nat.le_zero.mp (Qd λq=>Ql (Qa x2 q))));have Ro:=ah.keep k5 (ah.keep k4 L8 (λz q=>by have:=aL z; rw [aM,jH] at this; show one da z+fs z+fo z+fl z=0; exact Nat.le_zero.mp (Qd λq9=>Ql (Qa (Nat.pos_of_ne_zero q) (Qa q9 this))))) (z (Nat.le_zero.mp (Qd λq=>Ql (Qa x2 q))));obtain ⟨a1,da1,s1,fs1,vl1,vr1,fl1,Xy,yL,rfl,iH,vZ,jx,Ac,hfp1⟩:=id KD;walk_at "r";obtain ⟨w1,od1,O7,NW,w2,w3⟩:=id iH;obtain ⟨dm,om,rm,am,m1,m2,m3,m4,m5,m6⟩:=id vZ;have MQ:=m5.len;refine kW G rfl rfl (by decide) rfl (by decide) (by rfl) ?_;walk_at "r";refine rX G CR (.inl rfl) rfl Oi.dep.handed ?_ (Qb (by walk_at "A") (Qb (Qc (Eq.symm cu)) (by walk_at "A")));walk_at "r";refine dP m1 m2 m3 m4 G (Qb (by walk_at "A") (Qb (Qc (Eq.symm cu)) (by walk_at "A"))) (λit hit=>?_);obtain ⟨n1,on2,Uy,O9,n2,n3⟩:=id CR;refine iz.intro (vs:=am.map Value.ref) hit (by refine ae (List.length_map _) ?_; exact Qd λq=>Ql (Qa (Qd hlen) (Qa (Qc MQ) q)))
       (λout rest C'=>C'=C5∧∃ outs kZ bV aK,HJ (out=outs.map Value.ref) (aP C5 outs kZ) (rest=bV.map Value.ref) (aP C5 bV aK) (kZ++aK.filter (hits sx)=zC.filter (hits sx)) (outs.length+bV.length≤am.length)) ?_ ?_ ?_ ?_
      ·intro out rest _ q0;refine gY q0 λak outs kZ bV aK aZ=>?_; clear q0; subst ak; obtain ⟨rfl,-,rfl,-,-,hz⟩:=aZ
       exact ⟨m4,by simpa using hz⟩
      ·exact ⟨rfl,[],[],am,zC,rfl,.nil,rfl,m5,rfl,by simp⟩
      ·intro g Lc E' mc _ u rest out G' q0 J hJ;refine gY q0 λak outs kZ bV aK aZ=>?_; clear q0; subst ak; obtain ⟨rfl,pd,hr,hi,hd,hz⟩:=aZ
       cases hi with
       | nil=>injection hr
       | @cons bb jv bs gv hb gR =>
        simp only [List.map_cons,List.cons.injEq] at hr;refine aS hr λak aZ=>?_; clear hr; subst ak; subst aZ
        walk_at "r";refine eS G' (je CR hb) ?_ (Qb (by walk_at "A") (Qb (Qc (Eq.symm cu)) (by walk_at "A")));walk_at "r";refine cB (λh=>?_) (λh=>?_)
        ·walk_at "r";refine ⟨rfl,outs++[bb],kZ++[jv],bs,gv,by simp,pd.app (.cons hb .nil),rfl,gR,?_,?_⟩
         ·refine eI hd (ae (List.filter_cons_of_pos h) ?_);simp
         ·simp only [List.length_append,List.length_cons,List.length_nil] at hz ⊢; exact Qd λq=>Ql (Qa q hz)
        ·refine nG hJ ?_;refine ⟨rfl,outs,kZ,bs,gv,rfl,pd,rfl,gR,?_,?_⟩
         ·exact eI hd (ae (List.filter_cons_of_neg h) rfl)
         ·simp only [List.length_cons] at hz; exact Nat.le_of_lt hz
      ·rintro D out C5' ⟨e5,outs,kZ,bV,aK,rfl,pd,hr,hi,hd,hz⟩ hD;obtain rfl:C5=C5':=e5.symm;clear e5;cases hi with
       | cons _ _=>injection hr
       | nil =>
       rw [List.filter_nil,List.append_nil] at hd;subst hd;have hloc:=pd.len;have k6:aq (λz9=>0) C5 (upd C5 D (listOf (outs.map Value.ref).toArray (outs.map Value.ref).length)):=aq.refl.new hD;have OT:cN (upd C5 D (listOf (outs.map Value.ref).toArray (outs.map Value.ref).length)) D (outs.map Value.ref):=⟨_,af _ _ _⟩;have Ic:More C (upd C5 D (listOf (outs.map Value.ref).toArray (outs.map Value.ref).length)):=(((mo.trans q3.more).trans N2).trans q5.more).upd;have LR:aq fp C C5:=by
        have y1:aq fp C C3:=(kk.mono (λz9 z8=>rfl)).trans (k3.mono (λz q=>by have:=aM z; exact bj (cH q (dO this (az (az (az au))))))) (λz q=>.inl q);have y2:aq fp C C4:=y1.trans (k4.mono (fp':=fp) (λz q=>by have h7:=aM z; have h8:=jH z; exact bj (nv (cH q (dO h7 (az au))) (cH q (dO h7 (aV (dO h8 (az (aV au))))))))) (λz q=>.inl q);exact y2.trans (k5.mono (fp':=fp) (λz q=>by have h7:=aM z; have h8:=jH z; exact bj (cH q (dO h7 (aV (dO h8 (az (az (az au))))))))) (λz q=>.inl q)
       have Oc:aq fp C (upd C5 D (listOf (outs.map Value.ref).toArray (outs.map Value.ref).length)):=LR.trans k6 (λz q=>absurd rfl q);have Dv:C D=none:=(((mo.trans q3.more).trans N2).trans q5.more) _ hD;generalize upd C5 D (listOf (outs.map Value.ref).toArray (outs.map Value.ref).length)=C6 at *;have Xm:f4 D=0:=by
        by_cases q:f4 D=0
        ·exact q
        ·exact absurd hD (KD.alive _ q)
       have Xl:D≠hO:=λe=>CR.some (e▸hD)
       have TQ:∀ u,f4 u≠0->fp u≠0∨C u=none:=λu q=>by
        rcases wQ.2 u q with w | w
        ·left; have h7:=aM u; have h8:=jH u; exact λe=>w (bj (nv (cH e (dO h7 (az au))) (cH e (dO h7 (aV (dO h8 (az (aV au))))))))
        ·exact .inr (mo _ (q3.more _ w))
       have mf:∀ u,one hO u+Gw u+f4 u+fh u≤1:=λu=>by
        have y1:=aL u;rw [aM,jH] at y1;have y2:=wQ.1 u;by_cases q:f4 u=0
        ·exact Qd λq9=>Ql (Qa q9 (Qa y1 (Qc q)))
        ·rcases wQ.2 u q with w | w
         ·have w':one da u+fs u+fo u+fl u≠0:=w;exact Qd λq9=>Ql (Qa q9 (Qa y1 (Qa y2 (Nat.pos_of_ne_zero w'))))
         ·have y3:one hO u=0:=by
           by_cases y:one hO u=0
           ·exact y
           ·rw [one_pos y] at w; exact absurd w Jg.some
          have y4:Gw u=0:=by
           by_cases y:Gw u=0
           ·exact y
           ·exact absurd w (MM.alive u y)
          have y5:fh u=0:=by
           by_cases y:fh u=0
           ·exact y
           ·exact absurd w (L8.alive u y)
          exact Qd λq=>Ql (Qa q (Qa (Qc y3) (Qa (Qc y4) (Qa y2 (Qc y5)))))
       have uh:(zC.filter (hits sx)).length≤300:=by
        have:=List.length_filter_le (hits sx) zC;exact Qd λq=>Ql (Qa q (Qa this (Qd hlen)))
       have FU:=CR.keep k6 rfl;have JB:C6 (L+1)=some o':=k6 _ _ SY (.inl vB);have OO:=ah.keep k6 KD (λz9 z8=>rfl);have Ji:=ML.keep k6 (λz9 z8=>rfl);have IZ:=ah.keep k6 Ro (λz9 z8=>rfl);have Jp:=pd.keep k6;generalize zC.filter (hits sx)=ps at *;refine jo (bq (W.mid (λf m' C'=>f=Flow.next∧∃ f7 v7 JP,X5 (aJ C' sa hO (.int sx Uu) ss (lo c v7 wh) (hi c v7 wh) sd sb) (ah C' v7 t2 f7) (br C' ss JP (aH K5 ps)) (ah C' wh (pick c sl sr) fh) (aq fp C C') (More C C') (C' (L+1)=some o') ((∀ u,one hO u+JP u+f7 u+fh u≤1)) (∀ u,one hO u+JP u+f7 u+fh u≠0->fp u≠0∨C u=none)) (λQm qx=>?_) ?_))
       ·walk_at "r";refine eu OT (by refine ae (List.length_map _) ?_; exact Nat.lt_of_not_le λq=>Ql (Qa (Qc hloc) (Qa uh q))) ?_;by_cases bS:outs=[]
        ·subst bS;cases Jp;refine bN (by decide) ?_;walk_at "r";simp only [hX,Option.some.injEq] at e2;subst e2;refine ⟨rfl,f4,.ref a1,Gw,FU,OO,Ji,IZ,Oc,Ic,JB,mf,λu q=>?_⟩;by_cases y:f4 u=0
         ·left; have h7:=aM u; have h8:=jH u; exact λe=>q (bj (nv (nv (cH e (dO h7 (aV (dO h8 (az (az au)))))) (cH y au)) (cH e (dO h7 (aV (dO h8 (aV au)))))))
         ·exact TQ u y
        ·refine ae (show (!(outs.map Value.ref).isEmpty)=true by cases outs with | nil=>exact absurd rfl bS | cons _ _=>rfl) ?_;refine cq rfl ?_;walk_at "r";refine bO OT (λit hit=>?_);refine bX (vs:=outs.map Value.ref) G hit (λrest m' C'=>m' "light"=some (.bool (!c))∧m' "promotees"=some (.ref D)∧∃ bV aK f v tc,Ur (rest=bV.map Value.ref) (aP C' bV aK) (hX (fe k) aK tc=some t2) (aJ C' sa hO (.int sx Uu) ss (lo c v wh) (hi c v wh) sd sb) (ah C' v tc f) (Own C6 f4 f) (aq (λz=>one hO z+f4 z) C6 C') (More C6 C')) ?_ ?_ ?_ ?_
         ·intro rest m' C' q0;refine bw q0 λz9 z8 aZ=>?_; clear q0; refine bL aZ λbV aK f v tc ak=>?_; clear aZ; obtain ⟨-,-,-,-,-,-,kx,-⟩:=ak
          exact OT.keep kx (by show one hO D+f4 D=0; exact ae (aG Xl) (ae Xm rfl))
         ·exact ⟨by walk_at "nm",by walk_at "nm",outs,ps,f4,.ref a1,_,rfl,Jp,e2,FU,OO,.refl (λu=>by have:=mf u; exact fR (jK this (az (aV au)))),.refl,.refl⟩
         ·intro E' u rest m' C' _ q0 J hJ;refine bw q0 λmm1 mm2 aZ=>?_; clear q0; refine bL aZ λbV aK f v tc ak=>?_; clear aZ; obtain ⟨hr,hi,FN,vY,Nm,Ae,kx,mx⟩:=ak
          cases hi with
          | nil=>injection hr
          | @cons bb jv bs gv hb gR =>
           simp only [List.map_cons,List.cons.injEq] at hr;refine aS hr λak aZ=>?_; clear hr; subst ak; subst aZ
           simp only [hX] at FN;cases e3:fe k jv tc with
           | none=>rw [e3] at FN; exact iO FN
           | some pp =>
            rw [e3] at FN;obtain ⟨t3,b3⟩:=pp;dsimp only at FN;have vF:f hO=0:=by
             by_cases q:f hO=0
             ·exact q
             ·rcases Ae.2 hO q with w | w
              ·have:=mf hO; rw [aj] at this; exact absurd XC w
              ·exact absurd w FU.some
            have Dl:C' (L+1)=some o':=kx _ _ JB (.inl vB);cases tc with
            | nil=>cases k <;> simp [fe] at e3
            | node cx XS ctl ctr cd cb =>
             obtain ⟨ca,AD,cs,cfs,A3,A2,Ub,Ua,ctx,rfl,Gf,-⟩:=id Nm;obtain ⟨y1,JY,JW,JX,y2,y3⟩:=id Gf;walk_at "r";refine rX G vY (.inl rfl) rfl Oi.dep.handed ?_ (Qb (by walk_at "A") (Qb (Qc (Eq.symm cu)) (by walk_at "A")));walk_at "r";refine aE G (xQ IV Nm Ae.1 hb e3) (λv' cf zz=>?_) (by walk_at "A");obtain ⟨f',hT',ph,Oa,mm'⟩:=zz;have W6:cf (L+1)=some o':=Oa _ _ Dl (.inl vB);have Jb:=vY.keep Oa vF;walk_at "r";refine xT G Jb (.inl rfl) (λC3' q'=>?_) (Qe rfl);have kq:=cX Jb q';have SK:f' hO=0:=by
              by_cases q:f' hO=0
              ·exact q
              ·rcases ph.2 hO q with w | w
               ·exact absurd vF w
               ·exact absurd w vY.some
             walk_at "r";refine ⟨by walk_at "nm",by walk_at "nm",bs,gv,f',v',t3,rfl,(gR.keep Oa).keep kq,FN,q'.at Jb,ah.keep kq hT' (z SK),Ae.trans ph mx,?_,(mx.trans mm').trans q'.more⟩;refine (kx.trans Oa (λu q=>?_)).trans kq (λu q=>.inl (by show one hO u+f4 u≠0; exact bK (cj q (az au))));rcases Ae.2 u q with w | w
             ·exact .inl (by show one hO u+f4 u≠0; exact bK (cj w (aV au)))
             ·exact .inr w
         ·intro E' m' C' q0;refine bw q0 λmm1 mm2 aZ=>?_; clear q0; refine bL aZ λbV aK f v tc ak=>?_; clear aZ; obtain ⟨hr,hi,FN,vY,Nm,Ae,kx,mx⟩:=ak
          cases hi with
          | cons _ _=>injection hr
          | nil =>
           simp only [hX,Option.some.injEq] at FN;subst FN;have Dl:C' (L+1)=some o':=kx _ _ JB (.inl vB);have Ob:aq fp C C':=Oc.trans kx (λu q=>by
            have q':one hO u+f4 u≠0:=q;by_cases y:f4 u=0
            ·left; have h7:=aM u; have h8:=jH u; exact λe=>q (bj (nv (cH e (dO h7 (aV (dO h8 (az (az (az au))))))) (cH y au)))
            ·exact TQ u y)
           have MN:=Ji.keep kx (λu q=>by have:=mf u; show one hO u+f4 u=0; exact Nat.le_zero.mp (Qd λq9=>Ql (Qa (Nat.pos_of_ne_zero q) (Qa q9 this))));have L9:=ah.keep kx IZ (λu q=>by have:=mf u; show one hO u+f4 u=0; exact Nat.le_zero.mp (Qd λq9=>Ql (Qa (Nat.pos_of_ne_zero q) (Qa q9 this))));have Xn:cN C' D (outs.map Value.ref):=OT.keep kx (by show one hO D+f4 D=0; exact ae (aG Xl) (ae Xm rfl));have me:=Jp.keep kx;obtain ⟨dw,ow,Kf,aw,u1,u2,u3,u4,u5,u6⟩:=id MN;obtain ⟨Y6,YR,A_,qD,Y5,Y4⟩:=id vY;have Rv:Gw D=0:=by
            by_cases y:Gw D=0
            ·exact y
            ·exact absurd hD (ML.alive D y)
           walk_at "r";refine aE G (iQ MN (ku Xn) Xn me Rv (Qd λq=>Ql (Qa q (Qa (Qd hlen) uh)))) (λr C8 q8=>?_) (Qb (by walk_at "A") (Qb (Qc (Eq.symm cu)) (by walk_at "A")));refine aS q8 λz9 ak=>?_; clear q8; obtain ⟨TM,p1,p2,p3,p4⟩:=ak
           walk_at "r";have yy:∀ u,one hO u+Gw u+f u+fh u≤1:=λu=>by
            have y1:=mf u;have y2:=Ae.1 u;by_cases q:f u=0
            ·exact fR (tQ y1 (iM (iM iK (tR q)) iK))
            ·rcases Ae.2 u q with w | w
             ·exact Qd λq=>Ql (Qa (Nat.pos_of_ne_zero w) (Qa q (Qa y1 y2)))
             ·have y3:one hO u=0:=by
               by_cases y:one hO u=0
               ·exact y
               ·rw [one_pos y] at w; exact absurd w FU.some
              have y4:Gw u=0:=by
               by_cases y:Gw u=0
               ·exact y
               ·exact absurd w (Ji.alive u y)
              have y5:fh u=0:=by
               by_cases y:fh u=0
               ·exact y
               ·exact absurd w (IZ.alive u y)
              exact Qd λq=>Ql (Qa q (Qa (Qc y3) (Qa (Qc y4) (Qa y2 (Qc y5)))))
           refine ⟨rfl,f,v,TM,vY.keep p3 (by have:=yy hO; rw [aj] at this; exact Nat.le_zero.mp (Qd λq=>Ql (Qa x2 q))),ah.keep p3 Nm (λu q=>by have:=yy u; exact bj (bZ this (dq (nz (aV au) (cj q au))))),p1,ah.keep p3 L9 (λu q=>by have:=yy u; exact bj (bZ this (nz (az (aV au)) (cj q au)))),?_,?_,p3 _ _ Dl (.inl vB),λu=>?_,λu q=>?_⟩
           ·exact Ob.trans p3 (λu q=>.inl (by have h7:=aM u; have h8:=jH u; exact bK (cj q (dO h7 (aV (dO h8 (az (az (aV au)))))))))
           ·exact (Ic.trans mx).trans p4
           ·have y1:=yy u;have y2:=p2.1 u;by_cases q:TM u=0
            ·exact fR (tQ y1 (iM (iM (iM iK (tR q)) iK) iK))
            ·rcases p2.2 u q with w | w
             ·exact Qd λq=>Ql (Qa (Nat.pos_of_ne_zero w) (Qa q (Qa y1 y2)))
             ·have y3:one hO u=0:=by
               by_cases y:one hO u=0
               ·exact y
               ·rw [one_pos y] at w; exact absurd w vY.some
              have y4:f u=0:=by
               by_cases y:f u=0
               ·exact y
               ·exact absurd w (Nm.alive u y)
              have y5:fh u=0:=by
               by_cases y:fh u=0
               ·exact y
               ·exact absurd w (L9.alive u y)
              exact Qd λq=>Ql (Qa q (Qa (Qc y3) (Qa y2 (Qa (Qc y4) (Qc y5)))))
           ·by_cases y:TM u=0
            ·by_cases y':f u=0
             ·left; have h7:=aM u; have h8:=jH u; exact λe=>q (bj (nv (nv (nv (cH e (dO h7 (aV (dO h8 (az (az (az au))))))) (cH y au)) (cH y' au)) (cH e (dO h7 (aV (dO h8 (aV au)))))))
             ·rcases Ae.2 u y' with w | w
              ·exact TQ u w
              ·exact .inr (Ic _ w)
            ·rcases p2.2 u y with w | w
             ·left; have h7:=aM u; have h8:=jH u; exact bK (cj w (dO h7 (aV (dO h8 (az (az (aV au)))))))
             ·exact .inr (Ic _ (mx _ w))
       ·intro f m' C' q0;refine c_ q0 λak f7 v7 JP aZ=>?_; clear q0; subst ak; obtain ⟨yq,Dr,Ed,I0,k7,AO,S3,Wm,RP⟩:=aZ
        refine jo ?_;obtain ⟨Y6,YR,A_,qD,Y5,Y4⟩:=id yq;have AX:iF C' (lo c v7 wh) (if c then t2.dep else (pick c sl sr).dep):=by cases c; exact I0.dep; exact Dr.dep
        have Jz:iF C' (hi c v7 wh) (if c then (pick c sl sr).dep else t2.dep):=by cases c; exact Dr.dep; exact I0.dep
        walk_at "r";refine aE G (eO yq AX Jz) (λr C9 q9=>?_) (Qb (by walk_at "A") (Qb (Qc (Eq.symm cu)) (by walk_at "A")));refine aS q9 λz9 q9=>?_;have k9:=cX yq q9
        have hcl9:C9 (L+1)=some o':=k9 _ _ S3 (.inl vB);walk_at "r";have x9:=Wm hO;rw [aj] at x9;refine ⟨λu=>one hO u+JP u+f7 u+fh u,?_,⟨Wm,RP⟩,k7.trans k9 (λu q=>.inl ?_),AO.trans q9.more⟩
        ·have y:=q9.at yq;have:=ah.ofNd (c:=c) (tl:=t2) (th:=pick c sl sr) y (Ed.keep k9 (z (bj (bZ x9 (dq (dq (cZ au (bT au)))))))) (ah.keep k9 Dr (z (bj (bZ x9 (dq (cZ au (bT (az au)))))))) (ah.keep k9 I0 (z (Nat.le_zero.mp (Qd λq=>Ql (Qa x2 q))))) (λz9=>rfl);cases c <;> exact this
        ·have h7:=aM u; have h8:=jH u; exact bK (cj q (dO h7 (aV (dO h8 (az (az (az au)))))))
end
section
theorem ah.isNode {C:Led}{v:Value}{t:T}{fp:FP} (h:ah C v t fp):isNode v=!t.isNil:=by
 cases t with
 | nil=>rw [h.1]; rfl
 | node x ms l r d b =>
  obtain ⟨a,da,s,fs,vl,vr,fl,fr,tx,rfl,-⟩:=h;rfl
theorem d8 {P:e_}{A:Around}{Qg:Heap}{L:Addr}{E:Value->Shared->Prop}{m:Loc}{env:Env}{n:Nat}{C:Led}{x:Addr}{fp:FP}{ivs:List Iv}{Q:Bool->Loc->Led->Prop} (G:Gd (S2 P) n A Qg L env) (hm:br C x fp ivs) (hz:ivs.length≤1000000) (h:Q (!ivs.isEmpty) m C) (hn:autoParam (3≤n) aO):W (S2 P) A Qg L E (truthy (.ref x)) m C Q:=by
 obtain ⟨dx,od,rl,as,hx,bC,hf,hl,dQ,aM⟩:=id hm;refine qc (R:=λv C'=>v=.bool (!ivs.isEmpty)∧C'=C) G hx bC zJ (((AE hm hz).le hn).mono λv C' q=>⟨_,q.1,rfl,q.2⟩) (λb C' q=>?_);obtain ⟨q,rfl⟩:=q;replace q:=PySem.Value.bool.inj q; subst q;exact h
theorem AA {k:Nat} (LV:pU P k):ub P (k+1):=by
 intro C v t t' fp ht aL hs;cases t with
 | nil=>simp [jh] at hs
 | node x ms l r d b =>
  rw [jh] at hs;refine aQ (⟨_,rfl⟩:∃ c,c=decide (0 < b)) λc hc=>?_;rw [← hc] at hs
  rw [gD c] at ht;obtain ⟨a,da,s,fs,vo,vc,fo,fc,tx,rfl,hn,hm,ho,hh,aM⟩:=ht.nd;cases e1:ec k (pick c l r) with
  | none=>rw [e1] at hs; exact iO hs
  | some t1 =>
   rw [e1] at hs;dsimp only at hs;have fQ:pick c l r≠.nil:=λe=>by rw [e] at e1; cases k <;> simp [ec] at e1
   obtain ⟨g1,od,td,tb,g2,g3⟩:=id hn;have yV:=aL da;rw [aM,aj] at yV;refine' ax (n:=ba k+2) (binds:=[("self",.ref a)]) ?ho ?hb ?hp ?_;walk_at "D";have cu:ba k=24+3 * k:=rfl;obtain ⟨ca,AD,HE,cs,A3,A2,cb,rfl,pY⟩:∃ ca AD HE cs A3 A2 cb,vc=.ref ca∧aJ C ca AD HE cs A3 A2 (pick c l r).dep cb:=by
    rcases hh.dep with ⟨rfl,-⟩ | ⟨ca,AD,HE,cs,A3,A2,cb,e,pY⟩
    ·cases e:pick c l r with
     | nil=>exact absurd e fQ
     | node _ _ _ _ _ _=>rw [e] at hh; obtain ⟨_,_,_,_,_,_,_,_,_,e',_⟩:=hh; injection e'
    ·exact ⟨ca,AD,HE,cs,A3,A2,cb,e,pY⟩
   obtain ⟨w1,JY,JW,JX,w2,w3⟩:=id pY;walk_at "r";refine eI hc ?_;refine jr G hn (.inl rfl) ho.dep.handed rfl ?_ (Qb (by walk_at "A") (Qb (Qc (Eq.symm cu)) (by walk_at "A")));walk_at "r";refine aE G (LV hh (λz=>by have:=aL z; rw [aM] at this; exact fR (jK this (aV au))) e1) (λv1 C1 q1=>?_) (Qb (Nat.le_refl (ba k)) (Nat.le_add_right (ba k) 2));obtain ⟨f1,mR,jE,k1,uY⟩:=q1;have iH:=hn.keep k1 (bj (bZ yV (cZ au (bT (az (az au))))));walk_at "r";refine fW G iH (.inl rfl) (λC2 q2=>?_) (Qe rfl);have k2:=cX iH q2;have jd:=q2.at iH;have kJ:∀ u,one da u+fs u+fo u+f1 u≤1:=λu=>by
    have y1:=aL u;rw [aM] at y1;have y2:=jE.1 u;by_cases q:f1 u=0
    ·exact fR (tQ y1 (iM iK (tR q)))
    ·rcases jE.2 u q with w | w
     ·exact Qd λq=>Ql (Qa (Nat.pos_of_ne_zero w) (Qa q (Qa y1 y2)))
     ·have y3:one da u=0:=by
       by_cases y:one da u=0
       ·exact y
       ·rw [one_pos y] at w; exact absurd w hn.some
      have y4:fs u=0:=by
       by_cases y:fs u=0
       ·exact y
       ·exact absurd w (hm.alive u y)
      have y5:fo u=0:=by
       by_cases y:fo u=0
       ·exact y
       ·exact absurd w (ho.alive u y)
      exact Qd λq=>Ql (Qa q (Qa (Qc y3) (Qa (Qc y4) (Qa (Qc y5) y2))))
   have DC:=kJ da;rw [aj] at DC;have qZ:=(hm.keep k1 (λu q=>by have:=aL u; rw [aM] at this; exact bj (bZ this (cZ au (cj q (az (aV au))))))).keep k2 (bp (bj (bZ yV (dq (dq (cZ au (bT au)))))));have vz:=ah.keep k2 (ah.keep k1 ho (λu q=>by have:=aL u; rw [aM] at this; exact bj (bZ this (cZ au (cj q (aV au)))))) (bp (bj (bZ yV (dq (cZ au (bT (az au)))))));have AZ:=ah.keep k2 mR (bp (Nat.le_zero.mp (Qd λq=>Ql (Qa yV (Qa DC q)))));obtain ⟨g1',jT,A_,qD,g2',g3'⟩:=id jd;have AX:iF C2 (lo c vo v1) (if c then (pick (!c) l r).dep else t1.dep):=by cases c; exact AZ.dep; exact vz.dep
   have Jz:iF C2 (hi c vo v1) (if c then t1.dep else (pick (!c) l r).dep):=by cases c; exact vz.dep; exact AZ.dep
   walk_at "r";refine aE G (eO jd AX Jz) (λz9 C3 q3=>?_) (Qb (by walk_at "A") (Qb (Qc (Eq.symm cu)) (by walk_at "A")));refine aS q3 λz9 q3=>?_;have k3:=cX jd q3
   have AR:=q3.at jd;obtain ⟨g1'',YU,Yu,Yy,g2'',g3''⟩:=id AR;have Em:ah C3 (.ref a) (gx c x ms (pick (!c) l r) t1) (λu=>one da u+fs u+fo u+f1 u):=by
    have:=ah.ofNd (c:=c) (tl:=pick (!c) l r) (th:=t1) AR (qZ.keep k3 (bp (bj (bZ yV (dq (dq (cZ au (bT au)))))))) (ah.keep k3 vz (bp (bj (bZ yV (dq (cZ au (bT (az au)))))))) (ah.keep k3 AZ (bp (Nat.le_zero.mp (Qd λq=>Ql (Qa yV (Qa DC q)))))) (λz9=>rfl);cases c <;> exact this
   walk_at "r";refine aE G (LV Em kJ hs) (λv4 C4 q4=>?_) (Qb (Nat.le_refl (ba k)) (Nat.le_add_right (ba k) 2));walk_at "r";obtain ⟨f4,El,wQ,k4,N2⟩:=q4;have IT:aq fp C C3:=((k1.mono (fp':=fp) (λu q=>by have:=aM u; exact bj (cH q (dO this (aV au))))).trans (k2.mono (fp':=fp) (λu q=>by have:=aM u; exact bj (cH q (dO this (az (az (az au))))))) (λu q=>.inl q)).trans (k3.mono (fp':=fp) (λu q=>by have:=aM u; exact bj (cH q (dO this (az (az (az au))))))) (λu q=>.inl q);have GX:More C C3:=(uY.trans q2.more).trans q3.more;have nj:∀ u,one da u+fs u+fo u+f1 u≠0->fp u≠0∨C u=none:=λu q=>by
    by_cases y:f1 u=0
    ·left; exact ae (aM _) (λq9=>Ql (Qa (Nat.pos_of_ne_zero q) (Qa (Qc q9) (Qc y))))
    ·rcases jE.2 u y with w | w
     ·left; exact ae (aM _) (bK (cj w (aV au)))
     ·exact .inr w
   refine ⟨f4,El,⟨wQ.1,λu q=>?_⟩,IT.trans k4 nj,GX.trans N2⟩;rcases wQ.2 u q with w | w
   ·exact nj u w
   ·exact .inr (GX u w)
end
section
theorem gb {C:Led}{v:Value}{t:T}{fp:FP} (h:ah C v t fp) (hn:t≠.nil):∃ a da xv s vl vr d b,v=.ref a∧aJ C a da xv s vl vr d b:=by
 cases t with
 | nil=>exact absurd rfl hn
 | node x ms l r d b =>
  walk_at "bh";obtain ⟨a,da,s,fs,vl,vr,fl,fr,tx,e,hn,-⟩:=h;walk_at "ch";exact ⟨a,da,_,s,vl,vr,d,b,e,hn⟩
theorem EL {k:Nat} (LW:jA P k) {C:Led}{x:Int}{ms:List Iv}{tl tr:T}{d bb:Int}{v:Value}{t':T}{b:Bool}{fp:FP}{va l:Addr}{iv:Iv}{args:List Value}{kw:List (Str×Value)}
  (ht:ah C v (.node x ms tl tr d bb) fp) (aL:∀ z,fp z≤1) (hv:b_ C va iv) (hl:cN C l []) (lR:fp l=0) (hh:hits x iv=true) (hr:fe (k+1) iv (.node x ms tl tr d bb)=some (t',b))
  (ha:args=[v,.ref va,.ref l,.bool true]∧kw=[]∨args=[v,.ref va,.ref l]∧kw=[(("should_raise_error":Str),Value.bool true)]):Spec (S2 P) (ba (k+1)) (.ref 411) args kw C (nS C fp l t' b):=by
 walk_at "bh";obtain ⟨a,da,s,fs,vl,vr,fl,fr,tx,rfl,hn,hm,gk,qY,aM⟩:=id ht;walk_at "ch";rw [fe,hh,if_pos rfl] at hr;by_cases jy:iv∈ms∧ms.length≤300
 ·rw [if_pos jy] at hr;refine aS jy λjy hlen=>?_;walk_at "bh"
  obtain ⟨h1,od,td,tb,h2,h3⟩:=id hn;walk_at "ch";walk_at "bh";obtain ⟨dm,om,rm,am,m1,m2,m3,m4,m5,m6⟩:=id hm;walk_at "ch";refine' ax (n:=ba k+2) (binds:=[("self",.ref a),("interval",.ref va),("done",.ref l),("should_raise_error",.bool true)]) ?ho ?hb ?hp ?_
  case ho=>exact rfl
  case hb=>rcases ha with ⟨rfl,rfl⟩ | ⟨rfl,rfl⟩ <;> exact λs z9=>BindsTo.of_eq rfl
  case hp=>exact rfl
  intro A Qg L E G Qp et;have cu:ba k=24+3 * k:=rfl;have x1:=aL da;rw [aM,aj] at x1;walk_at "r";refine eS G (je hn hv) ?_ (Qb (by walk_at "A") (Qb (Qc (Eq.symm cu)) (by walk_at "A")));refine ae hh ?_;walk_at "r";refine bN (by decide) ?_;walk_at "r";refine aE G (iU hm hv (Qb hlen (Nat.le_add_left 300 700)) jy) (λr C1 q=>?_) (Qb (by walk_at "A") (Qb (Qc (Eq.symm cu)) (by walk_at "A")));refine aS q λz9 ak=>?_; clear q; obtain ⟨gA,p1,p2,p3,p4⟩:=ak
  have iH:=hn.keep p3 (bj (bZ x1 (dq (dq (cZ au (bT au))))));walk_at "bh";obtain ⟨j1,jT,A_,qD,j2,j3⟩:=id iH;walk_at "ch";have NC:∀ u,one da u+gA u+fl u+fr u≤1:=λu=>by
   have y1:=aL u;rw [aM] at y1;have y2:=p2.1 u;by_cases q:gA u=0
   ·exact fR (tQ y1 (iM (iM (iM iK (tR q)) iK) iK))
   ·rcases p2.2 u q with w | w
    ·exact Qd λq=>Ql (Qa (Nat.pos_of_ne_zero w) (Qa q (Qa y1 y2)))
    ·have y3:one da u=0:=by
      by_cases y:one da u=0
      ·exact y
      ·rw [one_pos y] at w; exact absurd w hn.some
     have y4:fl u=0:=by
      by_cases y:fl u=0
      ·exact y
      ·exact absurd w (gk.alive u y)
     have y5:fr u=0:=by
      by_cases y:fr u=0
      ·exact y
      ·exact absurd w (qY.alive u y)
     exact Qd λq=>Ql (Qa q (Qa (Qc y3) (Qa y2 (Qa (Qc y4) (Qc y5)))))
  have jx:=ah.keep p3 gk (λu q=>by have:=aL u; rw [aM] at this; exact bj (bZ this (dq (nz (aV au) (cj q au)))));have Ac:=ah.keep p3 qY (λu q=>by have:=aL u; rw [aM] at this; exact bj (bZ this (nz (az (aV au)) (cj q au))));have ly:cN C1 l []:=hl.keep p3 (by rw [aM] at lR; exact bj (cH lR (az (az (aV au)))));have MR:=List.length_filter_le (λj=>!decide (j=iv)) ms;have nj:∀ u,one da u+gA u+fl u+fr u≠0->fp u≠0∨C u=none:=λu q=>by
   by_cases y:gA u=0
   ·left; exact ae (aM _) (λq9=>Ql (Qa (Nat.pos_of_ne_zero q) (Qa (Qc q9) (Qc y))))
   ·rcases p2.2 u y with w | w
    ·left; exact ae (aM _) (bK (cj w (az (az (aV au)))))
    ·exact .inr w
  have Ob:aq (λz=>fp z+one l z) C C1:=p3.mono (λu q=>by have q':fp u+one l u=0:=q; rw [aM] at q'; exact bj (cH q' (az (az (az (aV au))))));walk_at "r";refine d8 G p1 (Qd λq=>Ql (Qa hlen (Qa MR q))) ?_ (Qb (by walk_at "A") (Qb (Qc (Eq.symm cu)) (by walk_at "A")));cases he:(ms.filter λj=>!decide (j=iv)).isEmpty
  ·rw [he,if_neg (show ¬ (false=true) by decide)] at hr;replace hr:=Option.some.inj hr; refine aS (Prod.mk.inj hr) λkE j0=>?_; clear hr; subst kE; subst j0
   refine cq rfl ?_;walk_at "r";refine aQ ly λkl ly=>?_;refine dG ⟨kl,ly⟩ ?_
   walk_at "r";rename_i tk;refine kU ly (by simp [sizeLine_eq]) ?_;have hlC:C l≠none:=by refine aQ hl λz9 q=>?_; clear hl; refine ae q ?_; intro e; exact uy e
   have Gb:da≠l:=λe=>by rw [← e] at ly; replace ly:=eG j2 ly; subst ly; exact gG j3 rfl
   have kn:aq (one l) C1 (upd C1 l (listOf ([]++[Value.int 1 tk]).toArray (kl+1))):=aq.refl.upd (by refine ae (aj _) ?_; decide) (λo ho=>by replace ho:=eG ly ho; subst ho; exact dX);have De:gA l=0:=by
    by_cases y:gA l=0
    ·exact y
    ·rcases p2.2 l y with w | w
     ·rw [aM] at lR; exact Nat.le_zero.mp (Qd λq=>Ql (Qa (Nat.pos_of_ne_zero w) (Qc lR)))
     ·exact absurd w hlC
   have zz:∀ {f:FP},f l=0->∀ z,f z≠0->one l z=0:=λh z q=>aG λe=>q (e▸h)
   rw [aM] at lR;walk_at "r";refine ⟨λu=>one da u+gA u+fl u+fr u,[.int 1 tk],⟨a,da,s,gA,vl,vr,fl,fr,tx,rfl,iH.keep kn (aG Gb),p1.keep kn (zz De),ah.keep kn jx (zz (bj (cH lR (az (aV au))))),ah.keep kn Ac (zz (bj (cH lR (aV au)))),λz9=>rfl⟩,⟨NC,nj⟩,?_,p4.upd,⟨_,af _ _ _⟩,rfl,by simp⟩;exact Ob.trans kn (λu q=>.inl (by show fp u+one l u≠0; exact bK (cj q (aV au))))
  ·rw [he,if_pos rfl] at hr;have fQ:(ms.filter λj=>!decide (j=iv))=[]:=List.isEmpty_iff.mp he;rw [fQ] at p1;cases e1:cR k (.node x [] tl tr d bb) with
   | none=>rw [e1] at hr; exact iO hr
   | some t1 =>
    rw [e1] at hr;replace hr:=Option.some.inj hr; refine aS (Prod.mk.inj hr) λkE j0=>?_; clear hr; replace kE:=Eq.symm kE; subst kE; subst j0
    refine bN (by decide) ?_;walk_at "r";refine aE G (LW (t:=.node x [] tl tr d bb) (fp:=λu=>one da u+gA u+fl u+fr u) ⟨a,da,s,gA,vl,vr,fl,fr,tx,rfl,iH,p1,jx,Ac,λz9=>rfl⟩ NC e1) (λr C2 q=>?_) (Qb (Nat.le_refl (ba k)) (Nat.le_add_right (ba k) 2));walk_at "r";walk_at "bh";obtain ⟨f2,AZ,Lv,k2,qq⟩:=q;walk_at "ch";refine ⟨f2,[],AZ,⟨Lv.1,λu q=>?_⟩,Ob.trans k2 (λu q=>(nj u q).imp (λw=>by show fp u+one l u≠0; exact bK (cj w (az au))) id),p4.trans qq,ly.keep k2 ?_,rfl,by simp⟩
    ·rcases Lv.2 u q with w | w
     ·exact nj u w
     ·exact .inr (p4 u w)
    ·by_cases y:one da l+gA l+fl l+fr l=0
     ·exact y
     ·rcases nj l y with w | w
      ·exact absurd lR w
      ·refine aQ hl λz9 q=>?_; clear hl; exact bo w q
 ·exact bo (if_neg jy) hr
theorem Bs {k:Nat} (zY:lO P k) (IV:mZ P k) {C:Led}{x:Int}{ms:List Iv}{tl tr:T}{d bb:Int}{v:Value}{t':T}{b:Bool}{fp:FP}{va l:Addr}{iv:Iv}{args:List Value}{kw:List (Str×Value)}
  (ht:ah C v (.node x ms tl tr d bb) fp) (aL:∀ z,fp z≤1) (hv:b_ C va iv) (hl:cN C l []) (lR:fp l=0) (hh:hits x iv=false) (hr:fe (k+1) iv (.node x ms tl tr d bb)=some (t',b))
  (ha:args=[v,.ref va,.ref l,.bool true]∧kw=[]∨args=[v,.ref va,.ref l]∧kw=[(("should_raise_error":Str),Value.bool true)]):Spec (S2 P) (ba (k+1)) (.ref 411) args kw C (nS C fp l t' b):=by
 rw [fe,hh,if_neg (show ¬ (false=true) by decide)] at hr;refine aQ (⟨_,rfl⟩:∃ c,c=decide (x < iv.1)) λc hc=>?_;rw [← hc] at hr
 rw [gD c] at ht;walk_at "bh";obtain ⟨a,da,s,fs,vo,vc,fo,fc,tx,rfl,hn,hm,ho,uj,aM⟩:=ht.nd;walk_at "ch";cases e1:fe k iv (pick c tl tr) with
 | none=>rw [e1] at hr; exact iO hr
 | some pp =>
  obtain ⟨t1,b1⟩:=pp;rw [e1] at hr;have fQ:pick c tl tr≠.nil:=λe=>by rw [e] at e1; cases k <;> simp [fe] at e1
  refine bL (gb uj fQ) λca AD HE cs A3 aZ=>?_; refine cz aZ λA2 cd cb ak pY=>?_; clear aZ; subst ak
  walk_at "bh";obtain ⟨h1,od,td,tb,h2,h3⟩:=id hn;walk_at "ch";walk_at "bh";obtain ⟨w1,JY,JW,JX,w2,w3⟩:=id pY;walk_at "ch";refine' ax (n:=ba k+2) (binds:=[("self",.ref a),("interval",.ref va),("done",.ref l),("should_raise_error",.bool true)]) ?ho ?hb ?hp ?_
  case ho=>exact rfl
  case hb=>rcases ha with ⟨rfl,rfl⟩ | ⟨rfl,rfl⟩ <;> exact λs z9=>BindsTo.of_eq rfl
  case hp=>exact rfl
  intro A Qg L E G Qp et;have cu:ba k=24+3 * k:=rfl;have x1:=aL da;rw [aM,aj] at x1;have SH:fc l=0:=by rw [aM] at lR; exact bj (cH lR (aV au))
  walk_at "r";refine eS G (je hn hv) ?_ (Qb (by walk_at "A") (Qb (Qc (Eq.symm cu)) (by walk_at "A")));refine ae hh ?_;walk_at "r";refine eS G (mX hn hv) ?_ (Qe rfl);refine eI hc ?_;walk_at "r";refine jr G hn (.inl rfl) ho.dep.handed rfl ?_ (Qb (by walk_at "A") (Qb (Qc (Eq.symm cu)) (by walk_at "A")));refine jP G pY ?_;refine bN (by decide) ?_;walk_at "r";refine jr G hn (.inl rfl) ho.dep.handed rfl ?_ (Qb (by walk_at "A") (Qb (Qc (Eq.symm cu)) (by walk_at "A")));walk_at "r";refine aE G (IV uj (λz=>by have:=aL z; rw [aM] at this; exact fR (jK this (aV au))) hv hl SH e1 (.inl ⟨rfl,rfl⟩)) (λr1 C1 q=>?_) (Qb (Nat.le_refl (ba k)) (Nat.le_add_right (ba k) 2));walk_at "bh";obtain ⟨f1,vs,mR,jE,k1,uY,MO,G_,ky⟩:=q;walk_at "ch";have Gb:da≠l:=λe=>by
   refine aQ hl λz9 q=>?_; clear hl
   rw [← e] at q; replace q:=eG h2 q; subst q; exact gG h3 rfl
  have iH:=hn.keep k1 (by show fc da+one l da=0; exact ae (aG Gb) (bj (bZ x1 (cZ au (bT (az (az au)))))));walk_at "r";refine fW G iH (.inl rfl) (λC2 q2=>?_) (Qe rfl);have k2:=cX iH q2;have jd:=q2.at iH;walk_at "bh";obtain ⟨j1,jT,A_,qD,j2,j3⟩:=id jd;walk_at "ch";have mQ:C l≠none:=by refine aQ hl λz9 q=>?_; clear hl; refine ae q ?_; intro e; exact uy e
  have ks:∀ {f:FP},(∀ u,f u≠0->fc u=0)->f l=0->∀ u,f u≠0->fc u+one l u=0:=λh1 h2 u q=>by
   rw [h1 u q,aG (λe=>q (by rw [e]; exact h2))]
  have De:=lR;rw [aM] at De;have vZ:=hm.keep k1 (ks (λu q=>by have:=aL u; rw [aM] at this; exact bj (bZ this (cZ au (cj q (az (aV au)))))) (bj (cH De (az (az (aV au))))));have pd:=ah.keep k1 ho (ks (λu q=>by have:=aL u; rw [aM] at this; exact bj (bZ this (cZ au (cj q (aV au))))) (bj (cH De (az (aV au)))));have kJ:∀ u,one da u+fs u+fo u+f1 u≤1:=λu=>by
   have y1:=aL u;rw [aM] at y1;have y2:=jE.1 u;by_cases q:f1 u=0
   ·exact fR (tQ y1 (iM iK (tR q)))
   ·rcases jE.2 u q with w | w
    ·exact Qd λq=>Ql (Qa (Nat.pos_of_ne_zero w) (Qa q (Qa y1 y2)))
    ·have y3:one da u=0:=by
      by_cases y:one da u=0
      ·exact y
      ·rw [one_pos y] at w; exact absurd w hn.some
     have y4:fs u=0:=by
      by_cases y:fs u=0
      ·exact y
      ·exact absurd w (hm.alive u y)
     have y5:fo u=0:=by
      by_cases y:fo u=0
      ·exact y
      ·exact absurd w (ho.alive u y)
     exact Qd λq=>Ql (Qa q (Qa (Qc y3) (Qa (Qc y4) (Qa (Qc y5) y2))))
  have DC:=kJ da;rw [aj] at DC;have qZ:=vZ.keep k2 (bp (bj (bZ x1 (dq (dq (cZ au (bT au)))))));have vz:=ah.keep k2 pd (bp (bj (bZ x1 (dq (cZ au (bT (az au)))))));have AZ:=ah.keep k2 mR (bp (Nat.le_zero.mp (Qd λq=>Ql (Qa x1 (Qa DC q)))));have CS:=MO.keep k2 (aG (Ne.symm Gb));have hT:ah C2 (.ref a) (nd c x ms (pick (!c) tl tr) t1 d bb) (λu=>one da u+fs u+fo u+f1 u):=ah.ofNd jd qZ vz AZ (λz9=>rfl);have nj:∀ u,one da u+fs u+fo u+f1 u≠0->fp u≠0∨C u=none:=λu q=>by
   by_cases y:f1 u=0
   ·left; exact ae (aM _) (λq9=>Ql (Qa (Nat.pos_of_ne_zero q) (Qa (Qc q9) (Qc y))))
   ·rcases jE.2 u y with w | w
    ·left; exact ae (aM _) (bK (cj w (aV au)))
    ·exact .inr w
  have G3:aq (λz=>fp z+one l z) C C2:=(k1.mono (fp':=λz=>fp z+one l z) (λu q=>by
   have q':fp u+one l u=0:=q;show fc u+one l u=0;rw [aM] at q'; exact Nat.le_zero.mp (Qd λq=>Ql (Qa q (Qc q'))))).trans (k2.mono (fp':=λz=>fp z+one l z) (λu q=>by
   have q':fp u+one l u=0:=q;rw [aM] at q'; exact bj (cH q' (az (az (az (az au))))))) (λu q=>.inl q)
  have Ki:More C C2:=uY.trans q2.more;walk_at "r";refine eu CS (Nat.lt_of_le_of_lt ky (by decide)) ?_;cases b1
  ·refine ae G_ ?_;dsimp only at hr;cases e2:dT k (nd c x ms (pick (!c) tl tr) t1 d bb) with
   | none=>rw [e2] at hr; exact iO hr
   | some t2 =>
    rw [e2] at hr;replace hr:=Option.some.inj hr; refine aS (Prod.mk.inj hr) λkE j0=>?_; clear hr; replace kE:=Eq.symm kE; subst kE; subst j0
    refine cq rfl ?_;walk_at "r";refine aE G (zY hT kJ e2) (λr C3 q=>?_) (Qb (Nat.le_refl (ba k)) (Nat.le_add_right (ba k) 2));walk_at "r";walk_at "bh";obtain ⟨f3,Em,Lu,k3,Ie⟩:=q;walk_at "ch";refine ⟨f3,vs,Em,⟨Lu.1,λu q=>?_⟩,G3.trans k3 (λu q=>(nj u q).imp (λw=>by show fp u+one l u≠0; exact bK (cj w (az au))) id),Ki.trans Ie,CS.keep k3 ?_,G_,ky⟩
    ·rcases Lu.2 u q with w | w
     ·exact nj u w
     ·exact .inr (Ki u w)
    ·by_cases y:one da l+fs l+fo l+f1 l=0
     ·exact y
     ·rcases nj l y with w | w
      ·exact absurd lR w
      ·exact absurd w mQ
  ·refine ae G_ ?_;replace hr:=Option.some.inj hr; refine aS (Prod.mk.inj hr) λkE j0=>?_; clear hr; subst kE; subst j0
   refine bN (by decide) ?_;walk_at "r";exact ⟨_,vs,hT,⟨kJ,nj⟩,G3,Ki,CS,G_,ky⟩
theorem Bq {k:Nat} (zY:lO P k) (IV:mZ P k) (LW:jA P k):mZ P (k+1):=by
 intro C v t t' b fp va l iv args kw ht aL hv hl lR hr ha;cases t with
 | nil=>simp [fe] at hr
 | node x ms tl tr d bb =>
  cases hh:hits x iv
  ·exact Bs zY IV ht aL hv hl lR hh hr ha
  ·exact EL LW ht aL hv hl lR hh hr ha
end
section
inductive lP (C:Led) (a:Addr) (t:T) (fp g:FP) (C2:Led):Prop
 | mk:∀ f',ah C2 (.ref a) t f'->(∀ z,f' z≤1)->(∀ z,f' z≠0->fp z≠0∨C z=none)->aq (λz=>fp z+g z) C C2->More C C2->lP C a t fp g C2
theorem tj {C:Led}{da:Addr}{fp fs fo fc f1:FP} (aM:∀ z,fp z=one da z+fs z+fo z+fc z) (aL:∀ z,fp z≤1) (al:C da≠none) (as:m9 C fs) (ao:m9 C fo) (own:Own C fc f1):∀ z,one da z+fs z+fo z+f1 z≤1:=λu=>by
 have y1:=aL u;rw [aM] at y1;by_cases q:f1 u=0
 ·exact fR (tQ y1 (iM iK (tR q)))
 ·have y2:=own.1 u;rcases own.2 u q with w | w
  ·exact Qd λq=>Ql (Qa (Nat.pos_of_ne_zero w) (Qa q (Qa y1 y2)))
  ·have y3:one da u=0:=aG λe=>al (e▸w)
   have y4:fs u=0:=Classical.byContradiction λy=>as u y w
   have y5:fo u=0:=Classical.byContradiction λy=>ao u y w
   exact Qd λq=>Ql (Qa q (Qa (Qc y3) (Qa (Qc y4) (Qa (Qc y5) y2))))
theorem s_ {C:Led}{da:Addr}{fp fs fo fc f1:FP} (aM:∀ z,fp z=one da z+fs z+fo z+fc z) (own:Own C fc f1):∀ z,one da z+fs z+fo z+f1 z≠0->fp z≠0∨C z=none:=λu q=>by
 by_cases y:f1 u=0
 ·left; exact ae (aM _) (λq9=>Ql (Qa (Nat.pos_of_ne_zero q) (Qa (Qc q9) (Qc y))))
 ·rcases own.2 u y with w | w
  ·left; exact ae (aM _) (bK (cj w (aV au)))
  ·exact .inr w
theorem lp {fp f fc g:FP} (aL:∀ z,fp z≤1) (hg:∀ z,fp z≠0->g z=0) (h:∀ z,f z+fc z≤fp z):∀ z,f z≠0->fc z+g z=0:=λz q=>by
 have h1:=aL z;have h2:=h z;have h3:=hg z (λq9=>Ql (Qa (Nat.pos_of_ne_zero q) (Qa h2 (Qc q9))));exact Nat.le_zero.mp (Qd λq9=>Ql (Qa (Nat.pos_of_ne_zero q) (Qa q9 (Qa h2 (Qa (Qc h3) h1)))))
theorem ja {C C1:Led}{a da s:Addr}{xv vl vr:Value}{d b:Int}{fp fs fo fc g:FP} (hn:aJ C a da xv s vl vr d b) (aM:∀ z,fp z=one da z+fs z+fo z+fc z) (aL:∀ z,fp z≤1) (hg:∀ z,fp z≠0->g z=0) (k1:aq (λz=>fc z+g z) C C1):aJ C1 a da xv s vl vr d b :=
 hn.keep k1 (lp aL hg (f:=one da) (λz=>by exact ae (aM _) (by walk_at "A")) da (by refine ae (aj _) ?_; decide))
theorem ye {C C1 C2:Led}{a da s:Addr}{c:Bool}{x:Int}{tx:Tok}{ms:List Iv}{tl t1:T}{d b:Int}{vo vc v1:Value}{fp fs fo fc f1 g:FP} (hn:aJ C a da (.int x tx) s (lo c vo vc) (hi c vo vc) d b) (hm:br C s fs ms) (ho:ah C vo tl fo)
  (aM:∀ z,fp z=one da z+fs z+fo z+fc z) (aL:∀ z,fp z≤1) (hg:∀ z,fp z≠0->g z=0) (mR:ah C1 v1 t1 f1) (jE:Own C fc f1) (k1:aq (λz=>fc z+g z) C C1) (uY:More C C1) (q2:cT C1 da (.int x tx) s (lo c vo v1) (hi c vo v1) d b C2) :
  lP C a (nd c x ms tl t1 d b) fp g C2:=by
 have iH:=ja hn aM aL hg k1;have k2:=cX iH q2;have kJ:=tj aM aL hn.some hm.alive ho.alive jE;have DC:=kJ da;rw [aj] at DC;have vZ:=(hm.keep k1 (lp aL hg λz=>by exact ae (aM _) (by walk_at "A"))).keep k2 (bp (bj (bZ DC (dq (dq (cZ au (bT au)))))));have pd:=ah.keep k2 (ah.keep k1 ho (lp aL hg λz=>by exact ae (aM _) (by walk_at "A"))) (bp (bj (bZ DC (dq (cZ au (bT (az au)))))));refine ⟨_,ah.ofNd (q2.at iH) vZ pd (ah.keep k2 mR (bp (bj (bZ DC (cZ au (bT (az (az au)))))))) (λz9=>rfl),kJ,s_ aM jE,(k1.mono λu q=>?_).trans (k2.mono (fp':=λz=>fp z+g z) λu q=>?_) (λu q=>.inl q),uY.trans q2.more⟩
 ·rw [aM] at q; exact Nat.le_zero.mp (Qb (by walk_at "A") (Qc q))
 ·rw [aM] at q; exact bj (cH q (az (az (az (az au)))))
theorem mem_set {C C1:Led}{a da s:Addr}{c:Bool}{x:Int}{tx:Tok}{ms:List Iv}{tl th:T}{d b:Int}{vo vc:Value}{fp fs fo fc:FP} (hn:aJ C a da (.int x tx) s (lo c vo vc) (hi c vo vc) d b) (ho:ah C vo tl fo) (hc:ah C vc th fc)
  (aM:∀ z,fp z=one da z+fs z+fo z+fc z) (aL:∀ z,fp z≤1) (q:bA C s fs ms C1):lP C a (nd c x ms tl th d b) fp (λz9=>0) C1∧aJ C1 a da (.int x tx) s (lo c vo vc) (hi c vo vc) d b:=by
 walk_at "bh";obtain ⟨f1,m1,own,k1,mo⟩:=q;walk_at "ch";have pB:∀ z,fp z=one da z+fo z+fc z+fs z:=λz=>by exact ae (aM _) (by walk_at "A")
 have off:∀ {f:FP},(∀ z,f z+fs z≤fp z)->∀ z,f z≠0->fs z=0:=λh z q=>lp (g:=λz9=>0) aL (λz9 z8=>rfl) h z q
 have iH:=hn.keep k1 (off (f:=one da) (λz=>by exact ae (aM _) (by walk_at "A")) da (by refine ae (aj _) ?_; decide));refine ⟨⟨λz=>one da z+fo z+fc z+f1 z,ah.ofNd iH m1 (ah.keep k1 ho (off λz=>by refine ae (aM _) ?_; exact (by walk_at "A"))) (ah.keep k1 hc (off λz=>by exact ae (aM _) (by walk_at "A"))) λz=>by exact (by walk_at "A"),tj pB aL hn.some ho.alive hc.alive own,s_ pB own,k1.mono λu q=>?_,mo⟩,iH⟩;have:=aM u;exact bj (cH q (az (dO this (az (az (aV au))))))
theorem lP.tpost {C C1:Led}{a:Addr}{t:T}{fp:FP} (h:lP C a t fp (λz9=>0) C1):dE C fp t (.ref a) C1:=by
 walk_at "bh";obtain ⟨f,h1,h2,h3,h4,h5⟩:=h;walk_at "ch";exact ⟨f,h1,⟨h2,h3⟩,h4.mono λz q=>q,h5⟩
theorem dE.behind {C C1 C2:Led}{f fp:FP}{t':T}{r:Value} (h:dE C1 f t' r C2) (g3:∀ z,f z≠0->fp z≠0∨C z=none) (g4:aq fp C C1) (g5:More C C1):dE C fp t' r C2:=by
 walk_at "bh";obtain ⟨f2,k1,k2,k3,k4⟩:=h;walk_at "ch";refine ⟨f2,k1,⟨k2.1,λz q=>?_⟩,g4.trans k3 g3,g5.trans k4⟩;rcases k2.2 z q with w | w
 ·exact g3 z w
 ·exact .inr (g5 z w)
theorem fU {C:Led}{a:Addr}{x:Int}{ms:List Iv}{l r:T}{d b:Int}{fp:FP} (ht:ah C (.ref a) (.node x ms l r d b) fp) (aL:∀ z,fp z≤1):Spec (S2 P) 3 (.ref 357) [.ref a] [] C λrv C'=>rv=.none∧dE C fp (dD.mk x ms l r) (.ref a) C':=by
 walk_at "bh";obtain ⟨a',da,s,fs,vl,vr,fl,fr,tx,e,hn,hm,hl,hr,aM⟩:=ht;walk_at "ch";replace e:=PySem.Value.ref.inj e; subst e;have e1:=aL da;rw [aM,aj] at e1;refine (eO hn hl.dep hr.dep).mono λrv C' q=>⟨q.1,?_⟩
 have q:=q.2;have k1:=cX hn q;exact ⟨fp,⟨a,da,s,fs,vl,vr,fl,fr,tx,rfl,q.at hn,hm.keep k1 (bp (bj (bZ e1 (dq (dq (cZ au (bT au))))))),ah.keep k1 hl (bp (bj (bZ e1 (dq (cZ au (bT (az au))))))),ah.keep k1 hr (bp (bj (bZ e1 (cZ au (bT (az (az au))))))),aM⟩,.refl aL,k1.mono (lq aM),q.more⟩
theorem wC {C:Led}{a:Addr}{c:Bool}{x:Int}{ms:List Iv}{tl th:T}{d b:Int}{fp:FP} (ht:ah C (.ref a) (nd c x ms tl th d b) fp) (aL:∀ z,fp z≤1):Spec (S2 P) 3 (.ref 357) [.ref a] [] C λrv C'=>rv=.none∧dE C fp (gx c x ms tl th) (.ref a) C':=by
 cases c <;> exact fU ht aL
theorem vj {C C1:Led}{a da s:Addr}{c:Bool}{x:Int}{tx:Tok}{ms:List Iv}{tl t1:T}{d b:Int}{vo vc:Value}{fp fs fo fc:FP} (hn:aJ C a da (.int x tx) s (lo c vo vc) (hi c vo vc) d b) (hm:br C s fs ms) (ho:ah C vo tl fo)
  (aM:∀ z,fp z=one da z+fs z+fo z+fc z) (aL:∀ z,fp z≤1) (q:dE C fc t1 vc C1):dE C fp (nd c x ms tl t1 d b) (.ref a) C1:=by
 walk_at "bh";obtain ⟨f1,mR,jE,k1,uY⟩:=q;walk_at "ch";have D8:aq (λz=>fc z+0) C C1:=k1;have off:∀ {f:FP},(∀ z,f z+fc z≤fp z)->∀ z,f z≠0->fc z+0=0:=λh=>lp (g:=λz9=>0) aL (λz9 z8=>rfl) h
 refine ⟨_,ah.ofNd (ja (g:=λz9=>0) hn aM aL (λz9 z8=>rfl) D8) (hm.keep D8 (off λz=>by refine ae (aM _) ?_; exact (by walk_at "A"))) (ah.keep D8 ho (off λz=>by exact ae (aM _) (by walk_at "A"))) mR (λz9=>rfl),⟨tj aM aL hn.some hm.alive ho.alive jE,s_ aM jE⟩,k1.mono λu q=>?_,uY⟩;have:=aM u;exact bj (cH q (dO this (aV au)))
end
section
variable {P:e_}
theorem hide_ne {C:Led}{a b:Addr} (h:b≠a):hide C a b=C b:=if_neg h
theorem hide_self {C:Led}{a:Addr}:hide C a a=none:=if_pos rfl
theorem ez {C:Led}{a:Addr}:∀ z o,hide C a z=some o->C z=some o:=λz o e=>by
 by_cases q:z=a
 ·rw [q] at e; exact bo hide_self e
 ·rw [hide_ne q] at e; exact e
theorem cK {C:Led}{a z:Addr}{o:Obj} (e:C z=some o) (h:z≠a):hide C a z=some o:=(hide_ne h).trans e
theorem C_ {C:Led}{a:Addr}{o:Obj}:hide (upd C a o) a=hide C a:=by
 funext z;unfold hide upd;split <;> rfl
theorem BR {o:Obj}{m:Loc}{fs:List (Str×Value)} (h:ua o m) (hf:dk o fs) (hb:∃ v,fs.lookup ("begin":Str)=some v):False:=by
 refine cL h λes ep h1 z9 h3 h4=>?_; clear h
 refine bg hf λl n ak hl=>?_; clear hf; subst ak
 refine aQ hb λv hv=>?_; clear hb
 have e:es=l.toArray:=by refine aS (PySem.Data.dict.inj h1) λkE j0=>?_; clear h1; subst kE; replace j0:=Eq.symm j0; subst j0; rfl
 subst e;have z:=h3 ("begin":Str);rw [h4] at z;have zZ:∀ (l:List DictEntry) (fs:List (Str×Value)),l.map (λe=>(keyOf e,e.val))=fs.map (λp=>(some p.1,p.2))->fs.lookup ("begin":Str)=some v->(l.find? λe=>e.key.isStr ("begin":Str))≠none:=by
  intro l;induction l with
  | nil =>
   intro fs hl hv;cases fs with
   | nil=>exact iO hv
   | cons p fs=>injection hl
  | cons e l ih =>
   intro fs hl hv hn;cases fs with
   | nil=>injection hl
   | cons p fs =>
    simp only [List.map_cons,List.cons.injEq,Prod.mk.injEq] at hl;have hk:=(l_ hl.1.1 ("begin":Str)).1;rw [List.find?_cons,hk] at hn;rw [List.lookup_cons] at hv;by_cases q:p.1=("begin":Str)
    ·rw [show (p.1 == ("begin":Str))=true by simpa using q] at hn; exact uy hn
    ·rw [show (p.1 == ("begin":Str))=false by simpa using q] at hn;rw [show (("begin":Str) == p.1)=false by simpa using Ne.symm q] at hv;exact ih fs hl.2 hv hn
 refine zZ l fs hl hv ?_;unfold nsFind findBy at z;rw [List.find?_toArray] at z;cases q:l.find? λe=>e.key.isStr ("begin":Str) with
 | none=>rfl
 | some e=>rw [q] at z; exact uy z
theorem uX {o:Obj}{m:Loc} (h:ua o m):∃ es ep,o.data=.dict es ep:=let ⟨es,ep,e,_⟩:=h; ⟨es,ep,e⟩
theorem b_.hide {C:Led}{a Lg:Addr}{iv:Iv}{oL:Obj}{mL:Loc} (h:b_ C a iv) (hL:C Lg=some oL) (hn:ua oL mL):b_ (hide C Lg) a iv:=by
 obtain ⟨d,o,t1,t2,t3,h1,h2,h3⟩:=h;refine ⟨d,o,t1,t2,t3,cK h1 λq=>?_,cK h2 λq=>?_,h3⟩
 ·refine dB (uX hn) λes ep e=>?_;rw [q] at h1; replace h1:=eG hL h1; subst h1; injection e
 ·rw [q] at h2; replace h2:=eG hL h2; subst h2;exact BR hn h3 ⟨_,rfl⟩
theorem aP.hide {C:Led}{as:List Addr}{ivs:List Iv}{Lg:Addr}{oL:Obj}{mL:Loc} (h:aP C as ivs) (hL:C Lg=some oL) (hn:ua oL mL):aP (dD.hide C Lg) as ivs:=by
 induction h with
 | nil=>exact .nil
 | cons h1 _ ih=>exact .cons (h1.hide hL hn) ih
theorem br.hide {C:Led}{x Lg:Addr}{fp:FP}{ms:List Iv}{oL:Obj}{mL:Loc} (h:br C x fp ms) (hf:fp Lg=0) (hL:C Lg=some oL) (hn:ua oL mL):br (dD.hide C Lg) x fp ms:=by
 obtain ⟨dx,od,rl,as,h1,h2,h3,⟨k,h4⟩,h5,h6⟩:=h;rw [h6] at hf;refine ⟨dx,od,rl,as,cK h1 λq=>?_,cK h2 λq=>?_,h3,⟨k,cK h4 λq=>?_⟩,h5.hide hL hn,h6⟩
 ·refine dB (uX hn) λes ep e=>?_;rw [q] at h1; replace h1:=eG hL h1; subst h1; injection e
 ·rw [q,aj] at hf; exact Ql (Qc hf)
 ·rw [q,aj] at hf; exact Ql (Qc hf)
theorem bA.hide {C C':Led}{x Lg:Addr}{fp:FP}{ms:List Iv}{oL:Obj}{mL:Loc} (h:bA C x fp ms C') (hf:fp Lg=0) (hL:C Lg=some oL) (hn:ua oL mL):bA (dD.hide C Lg) x fp ms (dD.hide C' Lg)∧C' Lg=some oL:=by
 obtain ⟨fp',h1,h2,h3,h4⟩:=h;have OQ:=h3 _ _ hL (.inr hf);have AW:fp' Lg=0:=by
  by_cases q:fp' Lg=0
  ·exact q
  ·rcases h2.2 _ q with w | w
   ·exact absurd hf w
   ·exact bo w hL
 refine ⟨⟨fp',h1.hide AW OQ hn,⟨h2.1,λz q=>(h2.2 z q).imp id λw=>?_⟩,λa o e i=>?_,λz e=>?_⟩,OQ⟩
 ·unfold dD.hide; split <;> first | rfl | exact w
 ·have ha:a≠Lg:=λq=>by rw [q] at e; exact bo hide_self e
  exact cK (h3 a o (ez _ _ e) i) ha
 ·by_cases q:z=Lg
  ·exact ae q hide_self
  ·rw [hide_ne q] at e ⊢; exact h4 z e
noncomputable def n8 (ivs:List Iv) (r:List Nat):List Iv:=r.filterMap λi=>ivs[i]?
noncomputable def lU (x:Int) (ivs:List Iv) (i:Nat):Bool:=match ivs[i]? with | some iv=>hits x iv | none=>false
theorem Bp (x:Int):∀ ivs:List Iv,n8 ivs (passing (lU x ivs) ivs.length 0)=ivs.filter (hits x):=by
 intro ivs;have h:∀ (ivs:List Iv),((List.range ivs.length).filter (lU x ivs)).filterMap (λi=>ivs[i]?)=ivs.filter (hits x):=by
  intro ivs;induction ivs with
  | nil=>rfl
  | cons iv ivs ih =>
   have e1:(λi=>lU x (iv::ivs) (i+1))=lU x ivs:=rfl;refine ae List.length_cons (ae List.range_succ_eq_map (ae List.filter_cons (ae List.filter_cons ?_)));have e2:((List.map Nat.succ (List.range ivs.length)).filter (lU x (iv::ivs))).filterMap (λi=>(iv::ivs)[i]?)=((List.range ivs.length).filter (lU x ivs)).filterMap (λi=>ivs[i]?):=by
    refine ae List.filter_map (ae List.filterMap_map ?_); rfl
   by_cases q:hits x iv=true
   ·refine ae (if_pos (show lU x (iv::ivs) 0=true from q)) (ae (if_pos q) (ae List.filterMap_cons ?_));show iv::_=_;exact ae e2 (ae ih rfl)
   ·exact ae (if_neg (show ¬ lU x (iv::ivs) 0=true from q)) (ae (if_neg q) (ae e2 (ae ih rfl)))
 unfold n8 passing;exact ae List.drop_zero (h ivs)
theorem qW {C:Led}{as:List Addr}{ivs:List Iv} (h:aP C as ivs):∀ {i:Nat}{v:Value},(as.map Value.ref)[i]?=some v->∃ a iv,v=.ref a∧ivs[i]?=some iv∧b_ C a iv:=by
 induction h with
 | nil=>intro i v e; exact iO e
 | @cons a iv as ivs h1 _ ih =>
  intro i v e;cases i with
  | zero=>replace e:=Option.some.inj e; subst e; exact ⟨a,iv,rfl,rfl,h1⟩
  | succ i=>exact ih e
section
variable {Lg Ga l x:Addr}{Cg C:Led}{as:List Addr}{ivs ms:List Iv}{xc:Int}{g:Nat}{fp:FP}{oL og:Obj}{mL:Loc}
noncomputable abbrev kH (P:e_) (Lg l:Addr) (Cg:Led) (as:List Addr) (ivs:List Iv) (xc:Int) (g:Nat):Array GenState->Prop:=Gp (S2 P) (jM 983 9835) Lg l Cg (as.map Value.ref) (lU xc ivs) g (passing (lU xc ivs) (as.map Value.ref).length 0).length none
theorem O5 (jZ:P.gn=AllBare) (hB:fS (S2 P) Lg) (vI:Cg Lg=none) (tM:Ga≠Lg) (hC:∀ a o,Cg a=some o->C a=some o) (dQ:aP Cg as ivs) (jJ:C Lg=some oL) (hn:ua oL mL) (qy:C Ga=some og) (nt:GenObj og g)
  (hm:br C x fp ms) (hfL:fp Lg=0) (hfG:fp Ga=0) (WW:∀ a,Cg a≠none->fp a=0) (hz:ms.length+ivs.length≤1000) :
  lM ((S2 P).st (kH P Lg l Cg as ivs xc g)) (S2 P) 9 (.ref 86) [.ref x,.ref Ga] C λr C'=>r=.none∧bA (dD.hide C Lg) x fp (aH ms (ivs.filter (hits xc))) C':=by
 refine' lV (n:=8) (binds:=[("self",.ref x),("members",.ref Ga)]) ?ho ?hb ?hp ?_;walk_at "D";have hlen:(as.map Value.ref).length=ivs.length:=ae (List.length_map _) (ae dQ.len rfl);refine gJ (Gq G (Nat.le_refl 8) hB jZ vI tM (λrest m C'=>m "self"=some (.ref x)∧∃ fP oL mL,A4 (C' Lg=some oL) (ua oL mL) (bA (dD.hide C Lg) x fp fP (dD.hide C' Lg)) (aH fP (n8 ivs rest)=aH ms (ivs.filter (hits xc))) (fP.length+rest.length≤1000)) (λQ' q=>?_) (λrest m C' q=>?_) (λrest m C' qp E5 q yt=>?_) (λgn E i v rest m C' hv q J hJ=>?_) (λE m C' q=>?_) ?_)
 ·have G2:Gd (S2 { P with gn:=kH P Lg l Cg as ivs xc g }) 8 A Qg L _:=G.st;exact cy G2 rfl q
 ·refine c_ q λz9 fP oL mL ak=>?_; clear q; obtain ⟨h1,h2,⟨fp',-,-,hk,-⟩,-,-⟩:=ak
  have kk:∀ a o,C a=some o->a≠Lg->fp a=0->C' a=some o:=λa o e q w=>ez _ _ (hk a o (cK e q) (.inr w))
  exact ⟨λa o e=>kk a o (hC a o e) (λq=>by rw [q,vI] at e; cases e) (WW a λz=>by rw [z] at e; cases e),⟨oL,mL,h1,h2⟩,og,kk Ga og qy tM hfG,nt⟩
 ·refine c_ q λhs fP oL mL ak=>?_; clear q; obtain ⟨h1,h2,h3,h4,h5⟩:=ak
  exact ⟨hs,fP,qp,E5,af _ _ _,yt,by refine ae C_ ?_; exact h3,h4,h5⟩
 ·refine c_ q λhs fP oL mL ak=>?_; clear q; obtain ⟨h1,h2,h3,h4,h5⟩:=ak
  refine bx (qW dQ hv) λa iv ak Sw Rt=>?_; subst ak
  obtain ⟨fp',v5,ph,rg,WA⟩:=id h3;have Rr:b_ C' a iv:=by
   obtain ⟨d,o,t1,t2,t3,w1,w2,w3⟩:=Rt;have kk:∀ z o,Cg z=some o->C' z=some o:=λz o e=>ez _ _ (rg z o (cK (hC z o e) λq=>by rw [q] at e; exact bo vI e) (.inr (WW z λq=>by exact bo q e)))
   exact ⟨d,o,t1,t2,t3,kk _ _ w1,kk _ _ w2,w3⟩
  have qZ:br C' x fp' fP:=v5.keep (fp':=λz9=>0) (aq.of_sub ez) λz9 z8=>rfl
  have SM:fp' Lg=0:=Classical.byContradiction λw=>v5.alive Lg w hide_self
  obtain ⟨NG,jT,Lb,bV,xh,nu,AW,q_,me,pB⟩:=id qZ;rw [List.length_cons] at h5;have jf:aH (eZ fP iv) (n8 ivs rest)=aH ms (ivs.filter (hits xc)):=by
   refine eI h4 ?_; unfold n8;refine ae List.filterMap_cons (ae Sw ?_); rfl
  have G2:Gd (S2 { P with gn:=gn }) 8 A Qg L _:=G.st;show W (S2 { P with gn:=gn }) A Qg L E _ m C' (Bd (S2 { P with gn:=gn }) A Qg L E _ _);generalize ({ P with gn:=gn }:e_)=P' at G2 ⊢;clear G;walk_at "r";refine aE G2 (g7 qZ Rr (Qb (by walk_at "A") h5)) (λr cf q=>?_);walk_at "r";refine aS q λz9 q=>?_;refine aS (q.hide SM h1 h2) λq1 q2=>?_
  have hz:=lK fP iv;refine ⟨by walk_at "nm",eZ fP iv,oL,mL,q2,h2,h3.trans λvL jY=>?_,jf,by exact Qd λq=>Ql (Qa h5 (Qa hz q))⟩;have e:vL=fp':=by
   obtain ⟨HD,GW,GO,HG,oZ,kz,vD,Hh,CZ,pA⟩:=jY;have y1:=ez _ _ oZ;rw [xh] at y1;cases y1;have y2:=ez _ _ kz;rw [nu] at y2;cases y2;have:=AW.inj vD;cases this;funext z;exact ae (pA _) (ae (pB _) rfl)
  exact e▸q1
 ·refine c_ q λhs fP oL mL ak=>?_; clear q; obtain ⟨h1,h2,h3,h4,h5⟩:=ak
  refine W.shrink (mI ⟨dD.hide C' Lg,ez,nV (et.h _ _ _ ⟨rfl,?_⟩)⟩);have e:fP=aH ms (ivs.filter (hits xc)):=h4;exact e▸h3
 ·refine ⟨rfl,ms,oL,mL,jJ,hn,bA.refl (hm.hide hfL jJ hn),by exact ae hlen (ae (Bp _ _) rfl),?_⟩;have:=List.length_filter_le (lU xc ivs) ((List.range (as.map Value.ref).length).drop 0);rw [List.drop_zero,List.length_range,hlen] at this;refine ae hlen ?_;unfold passing;exact ae List.drop_zero (Qd λq=>Ql (Qa hz (Qa this q)))
theorem Ig {dx:Addr} (jZ:P.gn=AllBare) (hB:fS (S2 P) Lg) (vI:Cg Lg=none) (tM:Ga≠Lg) (hC:∀ a o,Cg a=some o->C a=some o) (dQ:aP Cg as ivs) (jJ:C Lg=some oL) (hn:ua oL mL) (qy:C Ga=some og) (nt:GenObj og g)
  (hx:C x=none) (bC:C dx=none) (bS:x≠dx) (hz:ivs.length≤1000) :
  lM ((S2 P).st (kH P Lg l Cg as ivs xc g)) (S2 P) 10 (.ref 37) [.ref x,.ref Ga] (upd (upd C dx (dictOf [] 0)) x (instObj 122 dx)) λr C'=>r=.none∧gu (dD.hide C Lg) (aH [] (ivs.filter (hits xc))) (.ref x) C':=by
 refine' lV (n:=9) (binds:=[("self",.ref x),("members",.ref Ga)]) ?ho ?hb ?hp ?_
 case ho=>exact rfl
 case hb=>exact λs X=>binds_K X rfl rfl rfl rfl rfl
 case hp=>exact rfl
 intro A Qg L E G Qp et;have G2:Gd (S2 { P with gn:=kH P Lg l Cg as ivs xc g }) 9 A Qg L _:=G.st;refine jN ?_;show W (S2 { P with gn:=kH P Lg l Cg as ivs xc g }) A Qg L E _ _ _ _;walk_at "r";refine bH (vs:=[]) (λrl iG=>?_) (by simp [sizeLine_eq]);have q1:=bY iG;have q2:=bY q1.1;walk_at "r";refine eK (c:=122) (dx:=dx) G2 ((ag _ _ (Ne.symm q1.2)).trans (af _ _ _)) ((ag _ _ (Ne.symm q2.2)).trans ((ag _ _ (Ne.symm bS)).trans (af _ _ _))) eY sX (Qe rfl) (λod Hd=>?_);have hm:=l8 hx bC bS iG Hd;have aX:∀ a o,C a=some o->upd (upd (upd (upd C dx (dictOf [] 0)) x (instObj 122 dx)) rl (listOf ([]:List Value).toArray 0)) dx od a=some o:=λa o e=>by
  refine ae (ag _ _ (λq=>by rw [q] at e; exact bo bC e)) (ae (ag _ _ (λq=>by rw [q] at e; exact bo q2.1 e)) ?_);exact il hx bC a o e
 have We:upd (upd (upd (upd C dx (dictOf [] 0)) x (instObj 122 dx)) rl (listOf ([]:List Value).toArray 0)) dx od x=some (instObj 122 dx):=by
  exact ae (ag _ _ bS) (ae (ag _ _ (Ne.symm q1.2)) (ae (af _ _ _) rfl))
 have OF:∀ z,C z≠none->(λz=>one dx z+one rl z) z=0:=λz w=>by
  show one dx z+one rl z=0;rw [aG λq=>w (by rw [q]; exact bC),aG λq=>w (by rw [q]; exact q2.1)]
 have RX:∀ z,dD.hide (upd (upd (upd (upd C dx (dictOf [] 0)) x (instObj 122 dx)) rl (listOf ([]:List Value).toArray 0)) dx od) Lg z=none->dD.hide C Lg z=none:=λz e=>by
  by_cases q:z=Lg
  ·exact ae q hide_self
  ·rw [hide_ne q] at e ⊢;cases w:C z with
   | none=>rfl
   | some o=>exact bo e (aX _ _ w)
 generalize upd (upd (upd (upd C dx (dictOf [] 0)) x (instObj 122 dx)) rl (listOf ([]:List Value).toArray 0)) dx od=C2 at *;obtain ⟨NG,jT,Lb,bV,xh,nu,AW,q_,me,pB⟩:=id hm;refine ⟨rfl,gJ (Ep (uo ?_))⟩;show W (S2 { P with gn:=kH P Lg l Cg as ivs xc g }) A Qg L E _ _ _ λov m C=>W (S2 { P with gn:=kH P Lg l Cg as ivs xc g }) A Qg L E _ m C _
 walk_at "r";refine mC G (by kernel_rfl) ?_;show W (S2 { P with gn:=kH P Lg l Cg as ivs xc g }) A Qg L E _ _ _ _;walk_at "r";refine rD G (O5 jZ hB vI tM (λa o e=>aX _ _ (hC a o e)) dQ (aX _ _ jJ) hn (aX _ _ qy) nt (ms:=[]) hm (OF Lg (by refine ae jJ ?_; exact nofun)) (OF Ga (by exact ae qy nofun)) (λa w=>OF a λe=>w ?_) (by simpa using hz)) (λr C' q=>?_)
 ·cases z:Cg a with
  | none=>rfl
  | some o=>exact bo e (hC a o z)
 ·refine aS q λz9 ak=>?_; clear q; obtain ⟨fp',k1,k2,k3,k4⟩:=ak
  refine nV (et.h _ _ _ ⟨rfl,x,fp',rfl,?_,k1,λz w=>?_,λa o e=>?_⟩)
  ·unfold dD.hide; split <;> first | rfl | exact hx
  ·rcases k2.2 z w with y | y
   ·rcases two_pos y with q | q
    ·rw [q]; unfold dD.hide; split <;> first | rfl | exact bC
    ·rw [q]; unfold dD.hide; split <;> first | rfl | exact q2.1
   ·exact RX z y
  ·have ha:a≠Lg:=λq=>by rw [q] at e; exact bo hide_self e
   have e':=ez _ _ e;exact k3 a o (cK (aX _ _ e') ha) (.inr (OF a (by exact ae e' nofun)))
theorem LF (jZ:P.gn=AllBare) (hB:fS (S2 P) Lg) (vI:Cg Lg=none) (tM:Ga≠Lg) (hC:∀ a o,Cg a=some o->C a=some o) (dQ:aP Cg as ivs) (jJ:C Lg=some oL) (hn:ua oL mL) (qy:C Ga=some og) (nt:GenObj og g) (hz:ivs.length≤1000) :
  lM ((S2 P).st (kH P Lg l Cg as ivs xc g)) (S2 P) 11 (.ref 122) [.ref Ga] C (gu (dD.hide C Lg) (aH [] (ivs.filter (hits xc)))) :=
 qF Cf l9 λx dx hx bC bS=>Ig jZ hB vI tM hC dQ jJ hn qy nt hx bC bS hz
theorem Ib {dx:Addr}{xv:Value} (jZ:P.gn=AllBare) (hB:fS (S2 P) Lg) (vI:Cg Lg=none) (tM:Ga≠Lg) (hC:∀ a o,Cg a=some o->C a=some o) (dQ:aP Cg as ivs) (jJ:C Lg=some oL) (hn:ua oL mL) (qy:C Ga=some og) (nt:GenObj og g)
  (hx:C x=none) (bC:C dx=none) (bS:x≠dx) (hz:ivs.length≤1000) (L4:handedIn xv=true) :
  lM ((S2 P).st (kH P Lg l Cg as ivs xc g)) (S2 P) 13 (.ref 299) [.ref x,xv,.ref Ga] (upd (upd C dx (dictOf [] 0)) x (instObj 491 dx)) λr C'=>r=.none∧gI (dD.hide C Lg) xv (aH [] (ivs.filter (hits xc))) (.ref x) C':=by
 refine' lV (n:=12) (binds:=[("self",.ref x),("x_center",xv),("s_center",.ref Ga),("left_node",.none),("right_node",.none)]) ?ho ?hb ?hp ?_
 case ho=>exact rfl
 case hb=>exact λs X=>binds_K X rfl rfl rfl rfl rfl
 case hp=>exact rfl
 intro A Qg L E G Qp et;have G2:Gd (S2 { P with gn:=kH P Lg l Cg as ivs xc g }) 12 A Qg L _:=G.st;have pj:dx≠x:=Ne.symm bS;refine jN ?_;show W (S2 { P with gn:=kH P Lg l Cg as ivs xc g }) A Qg L E _ _ _ _;walk_at "r";refine eK (c:=491) (dx:=dx) G2 (af _ _ _) ((ag _ _ pj).trans (af _ _ _)) eY w6 (Qe rfl) (λo1 h1=>?_);have aX:∀ a o,C a=some o->upd (upd (upd C dx (dictOf [] 0)) x (instObj 491 dx)) dx o1 a=some o:=λa o e=>by
  exact ae (ag _ _ (λq=>by rw [q] at e; exact bo bC e)) (il hx bC a o e)
 have We:upd (upd (upd C dx (dictOf [] 0)) x (instObj 491 dx)) dx o1 x=some (instObj 491 dx):=ae (ag _ _ bS) (ae (af _ _ _) rfl);have W4:upd (upd (upd C dx (dictOf [] 0)) x (instObj 491 dx)) dx o1 dx=some o1:=af _ _ _;generalize upd (upd (upd C dx (dictOf [] 0)) x (instObj 491 dx)) dx o1=C2 at *;refine ⟨rfl,gJ (p0 (um ?_))⟩;show W (S2 { P with gn:=kH P Lg l Cg as ivs xc g }) A Qg L E _ _ _ _;walk_at "r";refine mC G (by kernel_rfl) ?_;show W (S2 { P with gn:=kH P Lg l Cg as ivs xc g }) A Qg L E _ _ _ _;walk_at "r";refine rD G (LF jZ hB vI tM (λa o e=>aX _ _ (hC a o e)) dQ (aX _ _ jJ) hn (aX _ _ qy) nt hz) (λr C' q=>?_);obtain ⟨s,fs,rfl,hs,pk,ui,lu⟩:=q;have hxL:x≠Lg:=λq=>by rw [q] at hx; exact bo hx jJ
 have W3:dx≠Lg:=λq=>by rw [q] at bC; exact bo bC jJ
 have xh:C' x=some (instObj 491 dx):=lu _ _ (cK We hxL);have nu:C' dx=some o1:=lu _ _ (cK W4 W3);clear G2;walk_at "r";rename_i o2 h2 o3 h3 o4 h4 td o5 h5 tb o6 h6;simp only [cQ] at *;have hn:aJ (upd C' dx o6) x dx xv s .none .none 0 0:=⟨(ag _ _ bS).trans xh,o6,_,_,af _ _ _,h6⟩;refine aE G (qH hn (.inl ⟨rfl,rfl⟩) (.inl ⟨rfl,rfl⟩) (by decide) (by decide)) (λr cf q=>?_);refine aS q λz9 q=>?_;walk_at "r"
 have vF:fs dx=0:=by
  by_cases w:fs dx=0
  ·exact w
  ·have:=ui dx w;exact bo this (cK W4 W3)
 have up:∀ z,dD.hide C2 Lg z=none->dD.hide C Lg z=none:=λz e=>by
  cases w:dD.hide C Lg z with
  | none=>rfl
  | some o =>
   have uf:z≠Lg:=λq=>by rw [q] at w; exact bo hide_self w
   exact bo e (cK (aX _ _ (ez _ _ w)) uf)
 have kk:aq (one dx) C' cf:=by
  obtain ⟨od,td,tb,rfl,-⟩:=q;refine ae cQ ?_;exact aq.refl.upd (by refine ae (aj _) ?_; decide) (λo ho=>by replace ho:=eG nu ho; subst ho; exact ig h1 (by intro e; exact absurd (Option.some.inj e) (by decide:("x_center":Str)≠"begin")))
 have MZ:∀ {z},C z=none->dD.hide C Lg z=none:=λ{z} e=>by unfold dD.hide; split <;> first | rfl | exact e
 refine ⟨rfl,x,dx,s,fs,rfl,MZ hx,q.at hn,pk.keep kk (λz w=>aG λe=>w (e▸vF)),λz w=>?_,λz=>?_,λz o e=>?_⟩
 ·by_cases y:fs z=0
  ·have:z=dx:=one_pos (bK (vM w (Gu y (vK au))));exact ae this (MZ bC)
  ·exact up z (ui z y)
 ·have h1:=pk.sep z;by_cases y:z=dx
  ·subst y; refine ae (aj _) (ae vF ?_); exact Nat.le_refl _
  ·exact ae (aG y) (Qb (by walk_at "A") h1)
 ·have e':=ez _ _ e;have uf:z≠Lg:=λq=>by rw [q] at e; exact bo hide_self e
  have n1:z≠dx:=λq=>by rw [q] at e'; exact bo bC e'
  refine ae (q.other n1) (ae (ag _ _ n1) ?_);exact lu _ _ (cK (aX _ _ e') uf)
theorem Lz {xv:Value} (jZ:P.gn=AllBare) (hB:fS (S2 P) Lg) (vI:Cg Lg=none) (tM:Ga≠Lg) (hC:∀ a o,Cg a=some o->C a=some o) (dQ:aP Cg as ivs) (jJ:C Lg=some oL) (hn:ua oL mL) (qy:C Ga=some og) (nt:GenObj og g) (hz:ivs.length≤1000) (L4:handedIn xv=true) :
  lM ((S2 P).st (kH P Lg l Cg as ivs xc g)) (S2 P) 14 (.ref 491) [xv,.ref Ga] C (gI (dD.hide C Lg) xv (aH [] (ivs.filter (hits xc)))) :=
 qF G0 qU λx dx hx bC bS=>Ib jZ hB vI tM hC dQ jJ hn qy nt hx bC bS hz L4
end
end
section
theorem aP.get {C:Led}{as:List Addr}{ivs:List Iv} (h:aP C as ivs):∀ {i:Nat}{iv:Iv},ivs[i]?=some iv->∃ a,as[i]?=some a∧b_ C a iv:=by
 induction h with
 | nil=>intro i iv e; simp at e
 | cons a _ ih =>
  intro i iv e;cases i with
  | zero=>simp only [List.getElem?_cons_zero,Option.some.injEq] at e; subst e; exact ⟨_,rfl,a⟩
  | succ i=>exact ih (by simpa using e)
theorem l0 {α:Type} (d:α) (l:List α) {p:List Nat} (h:p.Perm (List.range l.length)):(p.map λi=>l.getD i d).Perm l:=by
 have e:(List.range l.length).map (λi=>l.getD i d)=l:=by
  refine List.ext_getElem? λi=>?_;refine ae List.getElem?_map ?_
  by_cases hi:i < l.length
  ·refine ae (List.getElem?_range hi) ?_; simp [hi]
  ·refine ae (List.getElem?_eq_none (by simpa using hi)) (ae (List.getElem?_eq_none (Nat.le_of_lt_succ (Nat.lt_of_not_le hi))) ?_); rfl
 have:=h.map (λi=>l.getD i d);rw [e] at this;exact this
theorem aP.getD {C:Led}{as:List Addr}{ivs:List Iv} (h:aP C as ivs) {i:Nat} (hi:i < ivs.length):∃ a,(as.map Value.ref).getD i .none=.ref a∧b_ C a (ivs.getD i (0,0,0)):=by
 refine aF (h.get (i:=i) (List.getElem?_eq_getElem hi)) λa e hv=>?_;refine ⟨a,?_,?_⟩
 ·refine ae List.getD_eq_getElem?_getD (ae List.getElem?_map (ae e ?_)); rfl
 ·refine ae List.getD_eq_getElem?_getD (ae (List.getElem?_eq_getElem hi) ?_); exact hv
theorem aP.pick {C:Led}{as:List Addr}{ivs:List Iv} (h:aP C as ivs):∀ {p:List Nat},(∀ i∈p,i < ivs.length)->∃ bs,p.map (λi=>(as.map Value.ref).getD i .none)=bs.map Value.ref∧aP C bs (p.map λi=>ivs.getD i (0,0,0))
 | [],_=>⟨[],rfl,.nil⟩
 | i::p,hp=>by
  refine aF (h.getD (hp i (.head _))) λa e hv=>?_;refine aF (aP.pick h (p:=p) λj hj=>hp j (.tail _ hj)) λbs e' zZ=>?_
  exact ⟨a::bs,by exact ae List.map_cons (ae List.map_cons (ae e (ae e' rfl))),.cons hv zZ⟩
theorem xO:codeHdIn (KK P) 438 434=true:=by kernel_rfl
theorem Dx:nsIn (KK P) mainGlobals "__builtins__"=some (some (.ref 4)):=by kernel_rfl
noncomputable abbrev Ir:Arguments:={ posonlyargs:=[],args:=[{ arg:="iv",annotation:=none,pos:=⟨317,51,317,53⟩ }],vararg:=none,kwonlyargs:=[],kw_defaults:=[],kwarg:=none,defaults:=[] }
noncomputable abbrev It:Expr:=.Tuple [.Attribute (.Name "iv" ⟨317,56,317,58⟩) "end" ⟨317,56,317,62⟩,.Attribute (.Name "iv" ⟨317,64,317,66⟩) "begin" ⟨317,64,317,72⟩] 0 ⟨317,55,317,73⟩
noncomputable abbrev Iq:Scope:={ kind:=.function,names:=[(Str.ofString "iv",.local)],isGenerator:=false,isCoroutine:=false,more:=[] }
theorem Ca {P:e_}{C:Led}{f c' P8:Addr}{oc:Obj}{pm hU:Value}{iv:Iv}{q:Str} (hf:C f=some (kla_obj "<lambda>" q Ir It Iq [] pm c' hU)) (hc:P.cd c'=some oc) (ho:vV oc q) (hv:b_ C P8 iv) :
  Spec (S2 P) 3 (.ref f) [.ref P8] [] C (λr C'=>∃ a,r=.ref a∧(∀ z o,C z=some o->C' z=some o)∧xJ C' a (iv.2.1,iv.1)):=by
 obtain ⟨dx,ox,t1,t2,t3,h1,h2,h3⟩:=id hv;refine' Bc (n:=2) (binds:=[("iv",.ref P8)]) hf hc ho ?hb ?hl ?h ?_ rfl rfl rfl
 case hb=>exact rfl
 case hl=>intro y hy; cases hy with | head=>rfl | tail _ h=>cases h
 case h =>
  intro A Qg L E G;walk_at "r";refine cg (vs:=[Value.int iv.2.1 t2,Value.int iv.1 t1]) (λa ha=>?_) (by simp [sizeLine_eq]);exact ⟨a,rfl,aB ha,t2,t1,0,af _ _ _⟩
 ·intro x hx; cases hx with | head=>decide | tail _ h=>cases h
theorem zc {P:e_}{A:Around}{Qg:Heap}{L:Addr}{E:Value->Shared->Prop}{m:Loc}{env:Env}{n:Nat}{C:Led}{x f c':Addr}{fp:FP}{ivs:List Iv}{oc:Obj}{pm hU:Value}{q:Str}{Q:Value->Loc->Led->Prop} (G:Gd (S2 P) n A Qg L env) (hn:8≤n) (hm:br C x fp ivs) (h1:ivs≠[]) (h6:ivs.length≤6)
  (hf:C f=some (kla_obj "<lambda>" q Ir It Iq [] pm c' hU)) (hc:P.cd c'=some oc) (ho:vV oc q)
  (fin:∀ D bs aK C',aK.Perm ivs->aK.Pairwise (λa b=>a.2.1≤b.2.1)->(∀ z o,C z=some o->C' z=some o)->C D=none->cN C' D (bs.map Value.ref)->aP C' bs aK->Q (.ref D) m C'):W (S2 P) A Qg L E (call (.builtin "sorted") [.ref x] [("key",.ref f)]) m C Q:=by
 obtain ⟨dx,od,rl,as,hx,hd,lR,hl,dQ,aM⟩:=id hm;refine aQ (⟨n - 3,(Nat.sub_add_cancel (Qb (by decide) hn)).symm⟩:∃ k,n=k+3) λk ak=>?_; subst ak
 have hlen:(as.map Value.ref).length=ivs.length:=ae (List.length_map _) (ae dQ.len rfl);have o_:1≤ivs.length:=by cases ivs with | nil=>exact absurd rfl h1 | cons _ _=>exact Nat.succ_le_succ (Nat.zero_le _)
 have gz:∀ E F s Q,Rel (S2 P) Qg L m C F s->(∀ s',Rel (S2 P) Qg L m C F s'->Q (as.map Value.ref) s')->wpAny (model (S2 P).prog (S2 P).w) A.in1 (collect (.ref x)) Q E s:=λE F s Q R hQ =>
  mV (n:=k) (rl:=rl) G.in1 R hx hd jt (λC' hC=>(ju (hC _ _ hx) (hC _ _ hd) lR (hl.imp λz9 e=>hC _ _ e)).le (Qd λq=>Ql (Qa hn q))) oX
   (λC' hC=>((oV (hm.keep (fp':=λz9=>0) (aq.of_sub hC) (λz9 z8=>rfl)) (Qb h6 (Nat.le_add_left 6 999994))).le (Qd λq=>Ql (Qa hn q))).mono λr cf q=>by exact ae hlen q) hl (Qd λq=>Ql (Qa h6 (Qa (Qc hlen) q))) hQ
 refine qg (vs:=as.map Value.ref) (kf:=λi=>((ivs.getD i (0,0,0)).2.1,(ivs.getD i (0,0,0)).1)) (Qd λq=>Ql (Qa (Qc (Eq.symm hlen)) (Qa o_ q))) (Qd λq=>Ql (Qa h6 (Qa (Qc hlen) q))) gz (λi C' F s Q' hi hC R hQ=>?_) λD p kk C' hp hr hC hD=>?_
 ·refine aF (dQ.getD (i:=i) (Nat.lt_of_not_le λq=>Ql (Qa (Qc hlen) (Qa (Qf hi) q)))) λa ea ha=>?_;refine ae ea ?_
  have G2:=G.in1.in1;refine fZ G2 ((Ca (hC _ _ hf) hc ho (ha.keep (fp:=λz9=>0) (aq.of_sub hC))).le (Qd λq=>Ql (Qa hn q))) R λv cf s' R' q=>?_;refine bF q λb ak q1 q2=>?_; clear q; subst ak
  exact hQ b cf s' q1 q2 R'
 ·have aX:∀ z o,C z=some o->upd C' D (listOf (p.map λi=>(as.map Value.ref).getD i .none).toArray kk) z=some o:=λz o e=>aB hD z o (hC z o e)
  rw [hlen] at hp;refine aF (dQ.pick (p:=p) λi hi=>List.mem_range.mp (hp.mem_iff.mp hi)) λbs e1 e2=>?_;rw [e1] at aX ⊢
  refine fin D bs _ _ (l0 _ _ hp) ?_ aX (More.of_sub hC D hD) ⟨kk,af _ _ _⟩ (e2.keep (fp:=λz9=>0) (aq.of_sub aX));exact List.Pairwise.map _ (λz9 z8 h=>h) hr
theorem xA {P:e_}{C:Led}{x l:Addr}{v:Value}{fp:FP}{ms ivs:List Iv}{as:List Addr} (hm:br C x fp ms) (hit:rC P C v l) (hl:cN C l (as.map Value.ref)) (dQ:aP C as ivs) (lR:fp l=0) (hz:ms.length≤1000) (G8:ivs.length≤1000) :
  Spec (S2 P) 8 (.ref 105) [.ref x,v] [] C λr C'=>r=.none∧bA C x fp (ms.filter λj=>!decide (j∈ivs)) C':=by
 obtain ⟨NF,Ly,La,NM,L3,-⟩:=id hm;refine' ax (n:=7) (binds:=[("self",.ref x),("members",v)]) ?ho ?hb ?hp ?_;walk_at "D";walk_at "r";refine hit G (Qe rfl) (λa ha=>?_);have mh:=dQ.len;refine bX (vs:=as.map Value.ref) G ha (λrest m C'=>m "self"=some (.ref x)∧∃ bV aK fP,rest=bV.map Value.ref∧aP C' bV aK∧bA C x fp fP C'∧(fP.filter λj=>!decide (j∈aK))=(ms.filter λj=>!decide (j∈ivs))∧fP.length≤1000) ?_ ?_ ?_ ?_
 ·intro rest m C' q0;refine c_ q0 λz9 bV aK fP aZ=>?_; clear q0; refine dI aZ λz9 z8 ak z7=>?_; clear aZ; obtain ⟨fp',-,-,hk,-⟩:=ak
  exact hl.keep hk lR
 ·exact ⟨rfl,as,ivs,ms,rfl,dQ,.refl hm,rfl,hz⟩
 ·intro E u rest m C' _ q0 J hJ;refine c_ q0 λhs bV aK fP ak=>?_; clear q0; refine d9 ak λhr hi hp hd hz=>?_; clear ak
  cases hi with
  | nil=>injection hr
  | @cons b jv bs gv hb gR =>
   simp only [List.map_cons,List.cons.injEq] at hr;refine aS hr λak aZ=>?_; clear hr; subst ak; subst aZ
   obtain ⟨fp',v5,ph,rg,WA⟩:=id hp;obtain ⟨NG,jT,Lb,bV,xh,nu,AW,q_,me,pB⟩:=id v5;walk_at "r";refine aE G (lC v5 hb hz) (λr cf q=>?_);walk_at "r";refine aS q λz9 q=>?_;obtain ⟨Ay,-,-,Jn,-⟩:=id q
   refine ⟨by walk_at "nm",bs,gv,fP.filter λj=>!decide (j=jv),rfl,gR.keep Jn,hp.trans λvL jY=>?_,?_,Qb (List.length_filter_le _ _) hz⟩
   ·have e:vL=fp':=by
     obtain ⟨HD,GW,GO,HG,oZ,kz,vD,Hh,CZ,pA⟩:=jY;rw [xh] at oZ;cases oZ;rw [nu] at kz;cases kz;have:=AW.inj vD;cases this;funext z;exact ae (pA _) (ae (pB _) rfl)
    exact e▸q
   ·refine eI hd (ae List.filter_filter ?_);refine List.filter_congr λj z9=>?_;by_cases q:j=jv <;> by_cases q2:j∈gv <;> simp [q,q2]
 ·intro E m C' q0;refine c_ q0 λhs bV aK fP ak=>?_; clear q0; refine d9 ak λhr hi hp hd hz=>?_; clear ak
  cases hi with
  | cons _ _=>cases hr
  | nil =>
   walk_at "r";have e:fP=ms.filter λj=>!decide (j∈ivs):=by exact eI hd ((List.filter_eq_self.mpr λz9 z8=>by simp).symm)
   exact e▸⟨rfl,hp⟩
theorem BV {C:Led}{v:Value}{x:Int}{ms:List Iv}{l r:T}{d b:Int}{fp:FP}{va:Addr}{iv:Iv} (ht:ah C v (.node x ms l r d b) fp) (aL:∀ z,fp z≤1) (hv:b_ C va iv) (hz:ms.length≤1000) (hh:hits x iv=true) :
  Spec (S2 P) 14 (.ref 390) [v,.ref va] [] C λrv C'=>rv=v∧dE C fp (.node x (eZ ms iv) l r d b) v C':=by
 rw [gD true] at ht;walk_at "bh";obtain ⟨a,da,s,fs,vo,vc,fo,fc,tx,rfl,hn,hm,ho,uj,aM⟩:=ht.nd;walk_at "ch";walk_at "bh";obtain ⟨h1,od,td,tb,h2,h3⟩:=id hn;walk_at "ch";walk_at "bh";obtain ⟨dm,om,rm,am,m1,m2,m3,m4,m5,m6⟩:=id hm;walk_at "ch";refine' ax (n:=13) (binds:=[("self",.ref a),("interval",.ref va)]) ?ho ?hb ?hp ?_;walk_at "D";walk_at "r";refine eS G (je hn hv) ?_ (Qe rfl);refine ae hh ?_;walk_at "r";refine aE G (g7 hm hv hz) (λr C1 q=>?_) (Qe rfl);walk_at "r";rw [gD true];exact ⟨rfl,(mem_set hn ho uj aM aL q.2).1.tpost⟩
noncomputable def eV (E:Int) (l:List Iv) (y:Int):Int:=l.foldr (λz y=>if z.2.1=E then y else if z.2.1 > y then z.2.1 else y) y
theorem kX (E:Int) (l:List Iv) (z:Iv) (y:Int):eV E (l++[z]) y=eV E l (if z.2.1=E then y else if z.2.1 > y then z.2.1 else y):=by
 unfold eV; refine ae List.foldr_append ?_; rfl
inductive j5 (x:Int) (p:Iv->Prop) (v:Int):Prop
 | mk:x≤v->(∀ i,p i->i.2.1≤v)->(v=x∨∃ i,p i∧v=i.2.1)->j5 x p v
theorem j5.uniq {x v w:Int}{p:Iv->Prop} (h:j5 x p v) (h':j5 x p w):v=w:=by
 obtain ⟨a1,a2,a3⟩:=h;obtain ⟨b1,b2,b3⟩:=h';rcases a3 with rfl | ⟨i,hi,rfl⟩
 ·rcases b3 with rfl | ⟨j,hj,rfl⟩
  ·rfl
  ·have:=a2 j hj; exact Int.le_antisymm b1 this
 ·rcases b3 with rfl | ⟨j,hj,rfl⟩
  ·have:=b2 i hi; exact Int.le_antisymm this a1
  ·exact Int.le_antisymm (b2 i hi) (a2 j hj)
theorem mM (E x:Int):∀ l:List Iv,j5 x (λi=>i∈l∧i.2.1≠E) (eV E l x)
 | []=>⟨Int.le_refl _,(λi h=>by cases h.1),.inl rfl⟩
 | z::l=>by
  obtain ⟨h1,h2,h3⟩:=mM E x l;show j5 x _ (if z.2.1=E then eV E l x else if z.2.1 > eV E l x then z.2.1 else eV E l x);generalize eV E l x=y at *;refine ⟨?_,λi hi=>?_,?_⟩
  ·split <;> (try split) <;> (first | exact h1 | omega)
  ·rcases List.mem_cons.mp hi.1 with rfl | AV
   ·rw [if_neg hi.2]; split <;> (first | exact Int.le_trans (Int.le_refl i.snd.fst) (Int.le_refl i.snd.fst) | omega)
   ·have:=h2 i ⟨AV,hi.2⟩;split <;> (try split) <;> (first | exact this | omega)
  ·by_cases w:z.2.1=E
   ·refine ae (if_pos w) ?_; exact h3.imp id λ⟨i,q,e⟩=>⟨i,⟨.tail _ q.1,q.2⟩,e⟩
   ·refine ae (if_neg w) ?_;by_cases w2:z.2.1 > y
    ·exact ae (if_pos w2) (.inr ⟨z,⟨.head _,w⟩,rfl⟩)
    ·refine ae (if_neg w2) ?_; exact h3.imp id λ⟨i,q,e⟩=>⟨i,⟨.tail _ q.1,q.2⟩,e⟩
theorem mj:∀ (ms:List Iv) (x:Int),j5 x (λi=>i∈ms) (ms.foldl (λm i=>if m < i.2.1 then i.2.1 else m) x)
 | [],x=>⟨Int.le_refl _,(λi h=>by cases h),.inl rfl⟩
 | z::ms,x=>by
  obtain ⟨h1,h2,h3⟩:=mj ms (if x < z.2.1 then z.2.1 else x);refine ae List.foldl_cons ?_;generalize ms.foldl (λm i=>if m < i.2.1 then i.2.1 else m) (if x < z.2.1 then z.2.1 else x)=y at *;by_cases w:x < z.2.1
  ·rw [if_pos w] at h1 h3;refine ⟨by exact Int.le_of_not_gt λq=>absurd (Int.add_le_add h1 (Int.add_le_add (Int.add_one_le_of_lt q) (Int.add_one_le_of_lt w))) (by simp +arith only [Int.reduceNeg,not_false_eq_true,Int.reducePow]),λi hi=>?_,.inr ?_⟩
   ·rcases List.mem_cons.mp hi with rfl | hi
    ·exact h1
    ·exact h2 i hi
   ·rcases h3 with h3 | ⟨i,hi,h3⟩
    ·exact ⟨z,.head _,h3⟩
    ·exact ⟨i,.tail _ hi,h3⟩
  ·rw [if_neg w] at h1 h3;refine ⟨h1,λi hi=>?_,h3.imp id λ⟨i,hi,e⟩=>⟨i,.tail _ hi,e⟩⟩;rcases List.mem_cons.mp hi with rfl | hi
   ·exact Int.le_of_not_gt λq=>absurd (Int.add_le_add h1 (Int.add_le_add (Int.add_one_le_of_lt q) (Int.le_of_not_gt w))) (by simp +arith only [Int.reduceNeg,not_false_eq_true,Int.reducePow])
   ·exact h2 i hi
theorem BS {x:Int}{ms S:List Iv}{z:Iv} (hp:(S++[z]).Perm ms) (hs:(S++[z]).Pairwise λa b=>a.2.1≤b.2.1):eV z.2.1 S x=newX x ms:=by
 have hm:∀ i,i∈ms↔i∈S∨i=z:=λi=>by rw [← hp.mem_iff,List.mem_append,List.mem_singleton]
 have hle:∀ i∈S,i.2.1≤z.2.1:=λi hi=>(List.pairwise_append.mp hs).2.2 i hi z (.head _)
 obtain ⟨a1,a2,a3⟩:=mM z.2.1 x S;have hE:j5 x (λi=>i∈ms) (ff x ms):=mj ms x;have hN:j5 x (λi=>i∈ms.filter λi=>!decide (i.2.1=ff x ms)) (newX x ms):=mj _ x;obtain ⟨e1,e2,e3⟩:=hE;obtain ⟨n1,n2,n3⟩:=hN;have yx:∀ i,i∈ms.filter (λi=>!decide (i.2.1=ff x ms))↔i∈ms∧i.2.1≠ff x ms:=λi=>by simp [List.mem_filter]
 by_cases w:x < z.2.1
 ·have he:ff x ms=z.2.1:=by
   have h1:=e2 z ((hm z).mpr (.inr rfl));rcases e3 with e3 | ⟨i,hi,e3⟩
   ·exact Int.le_antisymm (Int.le_of_not_gt λq=>absurd (Int.add_le_add (Int.add_one_le_of_lt w) (Int.add_le_add (Int.add_one_le_of_lt q) (Int.le_of_eq e3))) (by simp +arith only [Int.reduceNeg,not_false_eq_true,Int.reducePow])) (Int.le_of_not_gt λq=>absurd (Int.add_le_add (Int.add_one_le_of_lt q) h1) (by simp +arith only [Int.reduceNeg,not_false_eq_true,Int.reducePow]))
   ·rcases (hm i).mp hi with hi | rfl
    ·have:=hle i hi; exact Int.le_antisymm (Int.le_of_not_gt λq=>absurd (Int.add_le_add this (Int.add_le_add (Int.add_one_le_of_lt q) (Int.le_of_eq e3))) (by simp +arith only [Int.reduceNeg,not_false_eq_true,Int.reducePow])) (Int.le_of_not_gt λq=>absurd (Int.add_le_add (Int.add_one_le_of_lt q) h1) (by simp +arith only [Int.reduceNeg,not_false_eq_true,Int.reducePow]))
    ·exact e3
  refine j5.uniq (p:=λi=>i∈S∧i.2.1≠z.2.1) ⟨a1,a2,a3⟩ ⟨n1,λi hi=>n2 i ((yx i).mpr ⟨(hm i).mpr (.inl hi.1),by rw [he]; exact hi.2⟩),n3.imp id λ⟨i,hi,e⟩=>?_⟩;have h:=(yx i).mp hi;rw [he] at h;rcases (hm i).mp h.1 with hi | rfl
  ·exact ⟨i,⟨hi,h.2⟩,e⟩
  ·exact absurd rfl h.2
 ·have h1:eV z.2.1 S x=x:=by
   rcases a3 with a3 | ⟨i,hi,a3⟩
   ·exact a3
   ·have:=hle i hi.1; exact Int.le_antisymm (Int.le_of_not_gt λq=>absurd (Int.add_le_add this (Int.add_le_add (Int.le_of_not_gt w) (Int.add_le_add (Int.add_one_le_of_lt q) (Int.le_of_eq a3)))) (by simp +arith only [Int.reduceNeg,not_false_eq_true,Int.reducePow])) (Int.le_of_not_gt λq=>absurd (Int.add_le_add (Int.add_one_le_of_lt q) a1) (by simp +arith only [Int.reduceNeg,not_false_eq_true,Int.reducePow]))
  have h2:newX x ms=x:=by
   rcases n3 with n3 | ⟨i,hi,n3⟩
   ·exact n3
   ·rcases (hm i).mp ((yx i).mp hi).1 with hi | rfl
    ·have:=hle i hi; exact Int.le_antisymm (Int.le_of_not_gt λq=>absurd (Int.add_le_add this (Int.add_le_add (Int.le_of_not_gt w) (Int.add_le_add (Int.add_one_le_of_lt q) (Int.le_of_eq n3)))) (by simp +arith only [Int.reduceNeg,not_false_eq_true,Int.reducePow])) (Int.le_of_not_gt λq=>absurd (Int.add_le_add (Int.add_one_le_of_lt q) n1) (by simp +arith only [Int.reduceNeg,not_false_eq_true,Int.reducePow]))
    ·exact Int.le_antisymm (Int.le_of_not_gt λq=>absurd (Int.add_le_add (Int.le_of_not_gt w) (Int.add_le_add (Int.add_one_le_of_lt q) (Int.le_of_eq n3))) (by simp +arith only [Int.reduceNeg,not_false_eq_true,Int.reducePow])) (Int.le_of_not_gt λq=>absurd (Int.add_le_add (Int.add_one_le_of_lt q) n1) (by simp +arith only [Int.reduceNeg,not_false_eq_true,Int.reducePow]))
  omega
theorem DQ {a:List Iv}{i j:Iv}:j∈eZ a i↔j∈a∨j=i:=by
 unfold eZ;by_cases h:i∈a
 ·refine ae (if_pos h) ?_;exact ⟨.inl,λq=>q.elim id λe=>e▸h⟩
 ·rw [if_neg h,List.mem_append,List.mem_singleton]
theorem ix:∀ (b a:List Iv) (j:Iv),j∈aH a b↔j∈a∨j∈b
 | [],a,j=>⟨.inl,λq=>q.elim id λh=>by cases h⟩
 | i::b,a,j=>by
  show j∈aH (eZ a i) b↔_;rw [ix b,DQ,List.mem_cons,or_assoc]
theorem DP {a:List Iv}{i:Iv} (h:a.Nodup):(eZ a i).Nodup:=by
 unfold eZ;by_cases w:i∈a
 ·exact ae (if_pos w) h
 ·refine ae (if_neg w) ?_;refine List.nodup_append.mpr ⟨h,List.nodup_cons.mpr ⟨by simp,List.nodup_nil⟩,λx hx y hy e=>?_⟩;rw [List.mem_singleton] at hy;exact w (hy▸e▸hx)
theorem kG:∀ (b a:List Iv),a.Nodup->(aH a b).Nodup
 | [],a,h=>h
 | i::b,a,h=>kG b _ (DP h)
end
section
inductive nT (C:Led) (fp:FP) (g:Int×List Iv) (t':T) (r:Value) (C':Led):Prop
 | mk:∀ tup ch v' fc fp',r=.ref tup->wa C' tup [.ref ch,v']->ah C' (.ref ch) (.node g.1 g.2 .nil .nil 1 0) fc->ah C' v' t' fp'->(∀ z,fc z+fp' z≤1)->(∀ z,fc z+fp' z≠0->fp z≠0∨C z=none)->aq fp C C'->More C C'->nT C fp g t' r C'
noncomputable def pW (P:e_) (k:Nat):Prop:=∀ {C:Led}{v:Value}{t t':T}{g:Int×List Iv}{fp:FP},ah C v t fp->(∀ z,fp z≤1)->jC k t=some (g,t')->Spec (S2 P) (ba k) (.ref 439) [v] [] C (nT C fp g t')
theorem aP.last {C:Led}{z:Iv}:∀ {S:List Iv}{as:List Addr},aP C as (S++[z])->∃ bV a,as=bV++[a]∧aP C bV S∧b_ C a z
 | [],as,h=>by
  cases h with
  | cons h1 h2=>cases h2; exact ⟨[],_,rfl,.nil,h1⟩
 | i::S,as,h=>by
  cases h with
  | cons h1 h2 =>
   refine bx (aP.last h2) λbV a ak q1 q2=>?_; subst ak
   exact ⟨_::bV,a,rfl,.cons h1 q1,q2⟩
theorem W.born {α:Type}{S:Setup}{A:Around}{Qg:Heap}{L f:Addr}{E:Value->Shared->Prop}{t:Sem α}{m:Loc}{C:Led}{o:Obj}{Q:α->Loc->Led->Prop} (hf:C f=none) (h:∀ C5,C5 f=some o->(∀ z x,C z=some x->C5 z=some x)->(∀ {fp C0},aq fp C0 C->More C0 C->aq fp C0 C5∧More C0 C5)->W S A Qg L E t m C5 Q):W S A Qg L E t m (upd C f o) Q :=
 h _ (af _ _ _) (aB hf) λk m=>⟨k.new (m f hf),m.upd⟩
theorem nP {l:List Iv} (h:l≠[]):l.isEmpty=false:=by cases l with | nil=>exact absurd rfl h | cons _ _=>rfl
theorem b_.offcell {C:Led}{a c:Addr}{iv:Iv}{oc o':Obj}{w:Option Value} (h:b_ C a iv) (hc:C c=some oc) (hd:oc.data=.cell w):b_ (upd C c o') a iv:=by
 obtain ⟨d,o,t1,t2,t3,h1,h2,h3⟩:=h;refine ⟨d,o,t1,t2,t3,(ag _ _ λe=>?_).trans h1,(ag _ _ λe=>?_).trans h2,h3⟩
 ·rw [e] at h1; replace h1:=eG hc h1; subst h1; injection hd
 ·rw [e] at h2; replace h2:=eG hc h2; subst h2;refine bg h3 λl n ak z9=>?_; clear h3; subst ak
  cases hd
theorem aP.offcell {C:Led}{as:List Addr}{c:Addr}{ivs:List Iv}{oc o':Obj}{w:Option Value} (h:aP C as ivs) (hc:C c=some oc) (hd:oc.data=.cell w):aP (upd C c o') as ivs:=by
 induction h with
 | nil=>exact .nil
 | cons h1 _ ih=>exact .cons (h1.offcell hc hd) ih
theorem zr {k:Nat} [hP:jl P] {C:Led}{v:Value}{x:Int}{ms:List Iv}{l:T}{d b:Int}{fp:FP} (ht:ah C v (.node x ms l .nil d b) fp) (aL:∀ z,fp z≤1) (bS:ms≠[]) (h6:ms.length≤6) :
  Spec (S2 P) (ba (k+1)) (.ref 439) [v] [] C (nT C fp (newX x ms,aH [] (ms.filter (hits (newX x ms)))) (if (ms.filter λj=>!hits (newX x ms) j).isEmpty then l else .node x (ms.filter λj=>!hits (newX x ms) j) l .nil d b)):=by
 have mh:=ht.alive;obtain ⟨a,da,s,fs,vl,vr,fl,fr,tx,rfl,hn,hm,hl,gQ,aM⟩:=ht;have ky:=hl.dep.handed;refine aS gQ λak OE=>?_; clear gQ; subst ak
 have cu:ba k=24+3 * k:=rfl;refine' eB (n:=ba k+2) (binds:=[("self",.ref a)]) ?ho ?hb ?hp ?_
 case ho=>exact rfl
 case hb=>exact λs z9=>BindsTo.of_eq rfl
 case hp=>exact rfl
 intro A Qg L E a_ G aX cF Qp et;obtain ⟨SX,o1,v9,lS⟩:C (L+1)=none∧∃ o,a_ (L+1)=some o∧o.data=.cell (some (.ref a)):=cF "self" (L+1) rfl;obtain ⟨Gf,o2,Am,hd2⟩:C (L+1+1)=none∧∃ o,a_ (L+1+1)=some o∧o.data=.cell none:=cF "new_x_center" (L+1+1) rfl;have gh:aq (λz9=>0) C a_:=aq.of_sub aX;have CQ:=hn.keep gh rfl;have Ox:=hm.keep (fp':=λz9=>0) gh (λz9 z8=>rfl);have Sn:=ah.keep gh hl (λz9 z8=>rfl);obtain ⟨g1,od,td,tb,g2,g3⟩:=id CQ;walk_at "r";refine cq rfl ?_;walk_at "st";walk_at "st";refine uH (P:=434) (c:=438) (x:=s) (qual:="Node.pop_greatest_child.<locals>.<lambda>") G hP.t hP.c ?k1 rfl xO Dx (by decide) (by decide) ⟨_,rfl⟩ (λh=>?k2) (λh=>?k3) ?k4 ?k5 ?k6 (λf c' oc pm hU hf ho=>?k7)
 case k1=>exact hP.q1
 case k4=>rfl
 case k5=>rfl
 case k6=>rfl
 case k2=>walk_at "ev"; exact h
 case k3=>walk_at "st"; walk_at "st"; walk_at "st"; exact h
 have s1:=aB (o:=kla_obj "<lambda>" "Node.pop_greatest_child.<locals>.<lambda>" Ir It Iq [] pm c' hU) hf;have G1:Gd (S2 { P with cd:=upd P.cd c' oc }) (ba k+2) A Qg L _:=G.withCode;show W (S2 { P with cd:=upd P.cd c' oc }) A Qg L E _ _ _ _;refine zc (P:={ P with cd:=upd P.cd c' oc }) G1 (Qb (by walk_at "A") (Qb (Qc (Eq.symm cu)) (by walk_at "A"))) (Ox.keep (fp':=λz9=>0) (aq.of_sub s1) λz9 z8=>rfl) bS h6 (af _ _ _) (af _ _ _) ho (λD bs S C2 jX Me vX hD Ee WO=>?_);have HV:∀ z o,a_ z=some o->C2 z=some o:=λz o e=>vX _ _ (s1 _ _ e)
 have En:a_ D=none:=More.of_sub s1 D hD;have D7:aq (λz9=>0) a_ C2:=aq.of_sub HV;have qq:More a_ C2:=More.of_sub HV;have Nh:=HV _ _ v9;have Gg:=HV _ _ Am;have Hy:D≠L+1:=λe=>by rw [e] at En; exact bo En v9
 have rj:D≠L+1+1:=λe=>by rw [e] at En; exact bo En Am
 clear s1 vX G1 hf hD;clear v9 Am;walk_at "r";refine dB (⟨_,_,(List.dropLast_concat_getLast (λe=>by rw [e] at jX; exact bS jX.nil_eq.symm)).symm⟩:∃ S' z,S=S'++[z]) λS' z ak=>?_; subst ak
 refine bx WO.last λvP za ak Ju Wc=>?_; subst ak
 rw [List.map_append] at Ee;refine aQ Ee λkD OC=>?_; clear Ee
 have hlen:S'.length≤6:=by have:=jX.length_eq; rw [List.length_append] at this; exact Qd λq=>Ql (Qa h6 (Qa (Qc this) q))
 have Ht:(vP.map Value.ref).length≤1000:=by refine ae (List.length_map _) (ae Ju.len ?_); exact Qb hlen (Nat.le_add_left 6 994)
 refine fO ⟨kD,OC⟩ ?_;walk_at "r";refine qK OC Ht ?_;have jd:=CQ.keep D7 rfl;obtain ⟨u1,jT,A_,qD,u2,u3⟩:=id jd;have Nv:D≠a:=λe=>by rw [e] at En; exact bo En g1
 have Nu:D≠da:=λe=>by rw [e] at En; exact bo En g2
 have v1:=(ag C2 (listOf (vP.map Value.ref).toArray (kD+1)) (Ne.symm Nv)).trans u1;have v2:=(ag C2 (listOf (vP.map Value.ref).toArray (kD+1)) (Ne.symm Nu)).trans u2;walk_at "r";refine eQ G rfl ((ag _ _ (Ne.symm rj)).trans Gg) hd2 (λo3 hd3=>?_) (by rfl);have Xp:C D=none:=More.of_sub aX D En;have kk3:aq (λz9=>0) C (upd (upd C2 D (listOf (vP.map Value.ref).toArray (kD+1))) (L+1+1) o3):=by
  have w:aq (λz9=>0) C (upd C2 D (listOf (vP.map Value.ref).toArray (kD+1))):=(aq.of_sub λz o e=>HV z o (aX z o e)).new Xp;exact w.new Gf
 have Ie:More C (upd (upd C2 D (listOf (vP.map Value.ref).toArray (kD+1))) (L+1+1) o3):=by
  have w:More C (upd C2 D (listOf (vP.map Value.ref).toArray (kD+1))):=(More.of_sub λz o e=>HV z o (aX z o e)).upd;exact w.upd
 have kL:∀ o,aq (one D) C2 (upd C2 D o):=λo=>aq.refl.upd (by refine ae (aj _) ?_; decide) (λo e=>by replace e:=eG OC e; subst e; exact dX)
 have Rg:=(Wc.keep (kL (listOf (vP.map Value.ref).toArray (kD+1)))).offcell (o':=o3) ((ag _ _ (Ne.symm rj)).trans Gg) hd2;have hS3:=(Ju.keep (kL (listOf (vP.map Value.ref).toArray (kD+1)))).offcell (o':=o3) ((ag _ _ (Ne.symm rj)).trans Gg) hd2;have S_:=(ag (upd C2 D (listOf (vP.map Value.ref).toArray (kD+1))) o3 (show L+1≠L+1+1 from Nat.ne_of_lt (Nat.lt_succ_self _))).trans ((ag _ _ (Ne.symm Hy)).trans Nh);have S9:upd (upd C2 D (listOf (vP.map Value.ref).toArray (kD+1))) (L+1+1) o3 (L+1+1)=some o3:=af _ _ _;have KH:cN (upd (upd C2 D (listOf (vP.map Value.ref).toArray (kD+1))) (L+1+1) o3) D (vP.map Value.ref):=⟨kD+1,(ag _ _ rj).trans (af _ _ _)⟩;have vE:=BS (x:=x) jX Me;clear HV En D7 qq Nh Gg WO OC Ht jd u1 u2 v1 v2 Nv Nu kL Ju Wc;generalize upd (upd C2 D (listOf (vP.map Value.ref).toArray (kD+1))) (L+1+1) o3=C3 at *;walk_at "r";refine xW (λj m C'=>m "ivs"=some (.ref D)∧m "max_iv"=some (.ref za)∧∃ rs NY y ty oc,j=rs.length∧cN C' D (NY.map Value.ref)∧aP C' NY rs∧rs.length≤6∧C' (L+1+1)=some oc∧oc.data=.cell (some (.int y ty))∧C' (L+1)=some o1∧b_ C' za z∧eV z.2.1 rs y=newX x ms∧aq (λz9=>0) C C'∧More C C') S'.length ?start (λE j m C' hI J hJ=>?turn)
 case start=>exact ⟨by walk_at "nm",by walk_at "nm",S',vP,x,tx,o3,rfl,KH,hS3,hlen,S9,hd3,S_,Rg,vE,kk3,Ie⟩
 case turn =>
  refine bw hI λvZ qZ aZ=>?_; clear hI; refine bL aZ λrs NY y ty oc gw=>?_; clear aZ; refine cO gw λak i1 i2 i3 i4 i5 i6 i7 HC=>?_; clear gw; refine bw HC λi8 i9 Od=>?_; clear HC; subst ak
  have iG:(NY.map Value.ref).length≤1000:=by refine ae (List.length_map _) (ae i2.len ?_); exact Qb i3 (Nat.le_add_left 6 994)
  walk_at "r";refine eu i1 (Nat.lt_of_le_of_lt iG (by decide)) ?_;by_cases Wq:rs≠[]
  ·refine dB (⟨_,_,(List.dropLast_concat_getLast Wq).symm⟩:∃ S' z,rs=S'++[z]) λGN zq ak=>?_; subst ak
   refine bx i2.last λnf qa ak Wa hq=>?_; subst ak
   refine cq (by simp) ?_;rw [List.map_append] at i1 iG;refine aQ i1 λkq Oz=>?_; clear i1
   rw [List.length_append] at iG i3;walk_at "r";refine fO ⟨kq,Oz⟩ ?_;walk_at "r";refine qK Oz (Nat.le_of_lt iG) ?_;have N9:∀ o,aq (one D) C' (upd C' D o):=λo=>aq.refl.upd (by refine ae (aj _) ?_; decide) (λo e=>by rw [Oz] at e; cases e; exact dX)
   have j1:cN (upd C' D (listOf (nf.map Value.ref).toArray (kq+1))) D (nf.map Value.ref):=⟨kq+1,af _ _ _⟩;have j2:=Wa.keep (N9 (listOf (nf.map Value.ref).toArray (kq+1)));have j3:=hq.keep (N9 (listOf (nf.map Value.ref).toArray (kq+1)));have j4:=(ag C' (listOf (nf.map Value.ref).toArray (kq+1)) (Ne.symm rj)).trans i4;have j6:=(ag C' (listOf (nf.map Value.ref).toArray (kq+1)) (Ne.symm Hy)).trans i6;have j7:=i7.keep (N9 (listOf (nf.map Value.ref).toArray (kq+1)));have j9:aq (λz9=>0) C (upd C' D (listOf (nf.map Value.ref).toArray (kq+1))):=i9.new Xp;have U1:More C (upd C' D (listOf (nf.map Value.ref).toArray (kq+1))):=Od.upd;clear Wa hq i4 i6 i7 i9 Od Oz N9 i2;generalize upd C' D (listOf (nf.map Value.ref).toArray (kq+1))=C4 at *;obtain ⟨d1,b1,Pc,Pb,Pa,w1,w2,w3⟩:=id j3;obtain ⟨d2,b2,NW,O9,UE,y1,y2,y3⟩:=id j7;walk_at "r";refine cB (λh=>?_) (λh=>?_)
   ·have h':zq.2.1=z.2.1:=by simpa using h
    walk_at "r";refine ⟨GN.length,by refine ae List.length_append (ae List.length_singleton ?_); exact Qb (Nat.le_refl GN.length.succ) (Nat.le_refl GN.length.succ),by walk_at "nm",by walk_at "nm",GN,nf,y,ty,oc,rfl,j1,j2,by exact Nat.le_of_lt i3,j4,i5,j6,j7,?_,j9,U1⟩;rw [← i8,kX,if_pos h']
   ·have h':¬ zq.2.1=z.2.1:=by simpa using h
    walk_at "r";refine Bz G (λt=>?_);walk_at "r";refine eQ G rfl j4 i5 (λo5 W5=>?_) (by rfl);walk_at "r";refine ⟨GN.length,by refine ae List.length_append (ae List.length_singleton ?_); exact Qb (Nat.le_refl GN.length.succ) (Nat.le_refl GN.length.succ),by walk_at "nm",by walk_at "nm",GN,nf,_,t,o5,rfl,j1.imp λk e=>(ag _ _ rj).trans e,j2.offcell j4 i5,by exact Nat.le_of_lt i3,af _ _ _,W5,(ag _ _ (show L+1≠L+1+1 from Nat.ne_of_lt (Nat.lt_succ_self _))).trans j6,j7.offcell j4 i5,?_,j9.new Gf,U1.upd⟩;rw [← i8,kX,if_neg h']
  ·obtain rfl:rs=[]:=Classical.byContradiction Wq;cases i2;refine bN (by decide) ?_;walk_at "st";walk_at "st";obtain rfl:y=newX x ms:=i8;clear i1 i3 i7 iG;refine Lp (P:=434) (c:=438) (qual:="Node.pop_greatest_child.<locals>.get_new_s_center") (clos:=[("self",L+1),("new_x_center",L+1+1)]) G hP.t hP.c ?d1 rfl xO Dx (by decide) (by decide) ⟨_,rfl⟩ rfl rfl ?d2 ?d3 ?d4 ?d5 (λf c' Kh pm hU doc hf ho=>?d7)
   case d1=>exact hP.q2
   case d2=>rfl
   case d3=>rfl
   case d4=>rfl
   case d5=>rfl
   have G1:Gd (S2 { P with cd:=upd P.cd c' Kh }) (ba k+2) A Qg L _:=G.withCode;have jZ:({ P with cd:=upd P.cd c' Kh }:e_).gn=AllBare:=hP.g;have iJ:({ P with cd:=upd P.cd c' Kh }:e_).cd c'=some Kh:=af _ _ _;show W (S2 { P with cd:=upd P.cd c' Kh }) A Qg L _ _ _ _ _;clear G;generalize ({ P with cd:=upd P.cd c' Kh }:e_)=P' at G1 jZ iJ ⊢;refine W.born hf (λC5 M7 s5 kk=>?_);refine aS (kk i9 Od) λN_ LC=>?_;have e1:=s5 _ _ i6
   have e2:=s5 _ _ i4;clear s5 hf i9 Od i4 i6 kk;walk_at "st";walk_at "st";have Hg:=hm.keep (fp':=λz9=>0) N_ (λz9 z8=>rfl);have yr:=hn.keep N_ rfl;obtain ⟨Y3,UN,Ux,UD,Y2,Y1⟩:=id yr;obtain ⟨dx,odm,rl,as,hx,bC,yx,Hk,FY,SG⟩:=id Hg;refine zk (fo:=f) (Cg:=C5) (l:=rl) (vs:=as.map Value.ref) (tr:=lU (newX x ms) ms) (fv:=.ref 491) (av:=.int (newX x ms) ty) G1 (Qb (by walk_at "A") (Qb (Qc (Eq.symm cu)) (by walk_at "A"))) jZ (by kernel_rfl) (λQ' q=>?_) (λQ' q=>?_) (λQ' q=>?_) M7 iJ ho ?e1 ?e2 rfl rfl rfl ?e3 ?e4 ?e5 ?e6 ?e7 (λz9 z8 e=>e) Hk (by refine ae (List.length_map _) (ae FY.len ?_); exact Qb h6 (Nat.le_add_left 6 994)) ?e8 ?e9 ?e10
   ·walk_at "ev"; exact q
   ·refine mG G1 rfl e2 i5 q rfl
   ·walk_at "ev"; exact q
   case e1=>intro b; rfl
   case e2=>intro y hy; simp only [List.mem_cons,List.not_mem_nil,or_false] at hy; rcases hy with rfl | rfl | rfl <;> decide
   case e3=>intro _; rfl
   case e4=>decide
   case e5=>decide
   case e6=>intro _; rfl
   case e7=>intro _ _; rfl
   case e8 =>
    intro Lg i v bD A' hg E m C6 G6 hv Kr OV;refine bx (qW FY hv) λia iv ak Sw Rt=>?_; subst ak
    have G7:Gd (S2 { P' with os:=bD.os,dr:=bD.drawn,gn:=λg=>g=bD.gens,tb:=λz9=>false,cd:=λz9=>none }) 6 A' hg Lg _:=G6;show W (S2 { P' with os:=bD.os,dr:=bD.drawn,gn:=λg=>g=bD.gens,tb:=λz9=>false,cd:=λz9=>none }) A' hg Lg E _ _ _ _;clear G6;generalize ({ P' with os:=bD.os,dr:=bD.drawn,gn:=λg=>g=bD.gens,tb:=λz9=>false,cd:=λz9=>none }:e_)=P'' at G7 ⊢;have Wh:b_ C6 ia iv:=Rt.keep (fp:=λz9=>0) (aq.of_sub OV);have e3:=OV _ _ e2;obtain ⟨d1,b1,Pc,Pb,Pa,w1,w2,w3⟩:=id Wh;walk_at "r";refine aE G7 (lD Wh) (λr C7 q=>?_);refine aS q λak aZ=>?_; clear q; subst ak; subst aZ
    walk_at "r";refine ⟨?_,rfl,rfl⟩;unfold lU;refine ae Sw ?_;rfl
   case e9 =>
    intro Lg bD A' hg E m G6;have G7:Gd (S2 { P' with os:=bD.os,dr:=bD.drawn,gn:=λg=>g=bD.gens,tb:=λz9=>false,cd:=λz9=>none }) 6 A' hg Lg _:=G6;show W (S2 { P' with os:=bD.os,dr:=bD.drawn,gn:=λg=>g=bD.gens,tb:=λz9=>false,cd:=λz9=>none }) A' hg Lg E _ _ _ (λv m' C'=>m'=m∧C'=C5∧W (S2 { P' with os:=bD.os,dr:=bD.drawn,gn:=λg=>g=bD.gens,tb:=λz9=>false,cd:=λz9=>none }) A' hg Lg E (pyIter v) m C5 _);clear G6;generalize ({ P' with os:=bD.os,dr:=bD.drawn,gn:=λg=>g=bD.gens,tb:=λz9=>false,cd:=λz9=>none }:e_)=P'' at G7 ⊢;walk_at "r";exact ⟨rfl,rfl,(dP hx bC yx Hk) G7 (Qe rfl) (λai Ao=>⟨ai,rfl,Ao,rfl,rfl⟩)⟩
   case e10 =>
    intro Lg Ga g oL og mL jJ qy tM MD nt hB;have w1:=aB (o:=oL) jJ;have w2:=aB (o:=og) ((ag C5 oL tM).trans qy);have w3:upd (upd C5 Lg oL) Ga og Lg=some oL:=w2 _ _ (af _ _ _);refine rD G1 (Lz jZ hB jJ tM (λa o e=>w2 _ _ (w1 _ _ e)) FY w3 MD (af _ _ _) nt (Qb h6 (Nat.le_add_left 6 994)) rfl) (λr C7 q=>?_);walk_at "bh";obtain ⟨ch,mu,Ke,A0,rfl,-,yo,xt,q1,q2,q3⟩:=q;walk_at "ch";have s7:∀ z o,C5 z=some o->C7 z=some o:=λz o e=>q3 z o (cK (w2 _ _ (w1 _ _ e)) λy=>by rw [y] at e; exact bo jJ e)
    have NZ:∀ z,one mu z+A0 z≠0->C5 z=none:=λz y=>by
     cases e:C5 z with
     | none=>rfl
     | some o =>
      have:=cK (w2 _ _ (w1 _ _ e)) (λy=>by rw [y] at e; exact bo jJ e);exact bo (q1 z y) this
    have UY:aq (λz9=>0) C5 C7:=aq.of_sub s7;have LN:aq (λz9=>0) C C7:=N_.trans UY (λz9 h=>absurd rfl h);have AO:More C C7:=LC.trans (More.of_sub s7);have yq:=hn.keep LN rfl;have Ed:=hm.keep (fp':=λz9=>0) LN (λz9 z8=>rfl);have WD:=ah.keep LN hl (λz9 z8=>rfl);have XY:=s7 _ _ e1;clear w1 w2 w3 q3 q1 jJ qy MD nt hB M7 s7 UY N_ Y3 Y2 Y1 hx bC yx Hk FY SG yr Hg e1 e2;obtain ⟨n1,UM,Uw,UB,n2,n3⟩:=id yq;obtain ⟨v1,YT,Yt,Yx,v2,v3⟩:=id yo;obtain ⟨dm,om,Pu,asm,y1,y2,y3,y4,y5,y6⟩:=id xt;obtain ⟨dm',om',YF,asm',Yd,Yc,Yb,X_,X9,X8⟩:=id Ed;have jf:∀ j,j∈aH [] (ms.filter (hits (newX x ms)))↔j∈ms∧hits (newX x ms) j=true:=λj=>by rw [ix]; refine ae (propext List.mem_filter) ?_; simp
    have Kk:(aH [] (ms.filter (hits (newX x ms)))).length≤1000:=by
     have:=gr [] (ms.filter (hits (newX x ms)));have h2:=List.length_filter_le (hits (newX x ms)) ms;simp only [List.length_nil] at this;exact Qd λq=>Ql (Qa h6 (Qa this (Qa h2 q)))
    walk_at "r";refine aE G1 (xA Ed (dP y1 y2 y3 y4) y4 y5 ?_ (Qb h6 (Nat.le_add_left 6 994)) Kk) (λr C8 q=>?_)
    ·refine Classical.byContradiction λw=>?_;have hw:A0 Pu≠0:=by refine ae (y6 _) (ae (aj _) ?_); exact bK (bT (aV au))
     exact hm.alive Pu w (LC _ (NZ Pu (bK (cj hw (aV au)))))
    walk_at "r";have Mh:(ms.filter λj=>!decide (j∈aH [] (ms.filter (hits (newX x ms)))))=ms.filter λj=>!hits (newX x ms) j:=List.filter_congr λj hj=>by
     have:=jf j;cases e:hits (newX x ms) j <;> simp_all
    have q:=q.2;rw [Mh] at q;clear Mh jf Kk Yd Yc Yb X_ X9 X8 n1 n2 n3;have Ku:=mem_set (c:=true) (tl:=l) (th:=.nil) (fo:=fl) (fc:=fr) (vo:=vl) (vc:=.none) yq WD ⟨rfl,OE⟩ aM aL q;obtain ⟨f1,m1,-,N8,-⟩:=q;refine aS Ku λak Wz=>?_; clear Ku; obtain ⟨f2,T2,p2,p3,p4,p5⟩:=ak
    have MG:aJ C8 a da (.int x tx) s vl .none d b:=Wz;obtain ⟨n1,od8,td8,tb8,n2,n3⟩:=id MG;have vB:yF o1:=.inr ⟨λ⟨es,n,e⟩=>(by rw [e] at lS; injection lS),λ⟨es,n,e⟩=>(by rw [e] at lS; injection lS),(by intro vs e; rw [lS] at e; injection e)⟩;have c18:=N8 _ _ XY (.inl vB);have EX:∀ z,one mu z+A0 z≠0->fp z=0:=λz w=>Classical.byContradiction λy=>mh z y (LC _ (NZ z w))
    have ui:∀ z,fs z≤fp z∧fl z+fs z≤fp z:=λz=>by refine ae (aM _) ?_; exact ⟨(by walk_at "A"),(by walk_at "A")⟩
    have ct:ah C8 (.ref ch) (.node (newX x ms) (aH [] (ms.filter (hits (newX x ms)))) .nil .nil 1 0) (λz=>one mu z+A0 z) :=
     ⟨ch,mu,Ke,A0,.none,.none,λz9=>0,λz9=>0,ty,rfl,yo.keep N8 (by have h7:=EX mu (by exact ae (aj _) (bK (bT (az au)))); have h8:=ui mu; exact Nat.le_zero.mp (Qb h8.1 (Qc h7))),xt.keep N8 (λz w=>by have h7:=EX z (bK (cj w (aV au))); have h8:=ui z; exact Nat.le_zero.mp (Qb h8.1 (Qc h7))),⟨rfl,λz9=>rfl⟩,⟨rfl,λz9=>rfl⟩,λz9=>rfl⟩
    have R9:(ms.filter λj=>!hits (newX x ms) j).length≤1000000:=by
     have:=List.length_filter_le (λj=>!hits (newX x ms) j) ms;exact Qd λq=>Ql (Qa h6 (Qa this q))
    have cC:∀ z,one mu z+A0 z≠0->C z=none:=λz w=>LC _ (NZ z w)
    have cA:∀ z,one mu z+A0 z≠0->C7 z≠none:=λz w e=>by
     by_cases y:A0 z=0
     ·have:z=mu:=one_pos (bK (vM w (Gu y (vK au))));rw [this] at e; exact bo e v2
     ·exact xt.alive z y e
    clear Wz yq Ed xt yo v1 v2 v3 y1 y2 y3 y4 y5 y6 NZ LC XY;walk_at "r";refine d8 G1 m1 R9 ?_ (Qb (by walk_at "A") (Qb (Qc (Eq.symm cu)) (by walk_at "A")));walk_at "r";by_cases yz:(ms.filter λj=>!hits (newX x ms) j)=[]
    ·refine bN (by refine ae yz ?_; decide) ?_;walk_at "r";refine eT G1 MG ky rfl ?_ (Qb (by walk_at "A") (Qb (Qc (Eq.symm cu)) (by walk_at "A")));walk_at "r";refine cg (vs:=[Value.ref ch,vl]) (λtu AP=>?_) (by simp [sizeLine_eq]);walk_at "r";have su:=aq.of_sub (fp:=λz9=>0) (aB (o:=bU [Value.ref ch,vl] 0) AP);refine ae yz (ae (if_pos (show ([]:List Iv).isEmpty=true from rfl)) ?_);refine ⟨tu,ch,vl,_,fl,rfl,⟨0,af _ _ _⟩,ah.keep su ct (λz9 z8=>rfl),ah.keep su (ah.keep N8 WD λz w=>by have h7:=aL z; have h8:=ui z; exact Nat.le_zero.mp (Qd λq9=>Ql (Qa (Nat.pos_of_ne_zero w) (Qa q9 (Qb h8.2 h7))))) (λz9 z8=>rfl),λz=>?_,λz w=>?_,(LN.mono (λz9 z8=>rfl)).trans ((p4.mono (λz w=>by exact w)).trans (su.mono λz9 z8=>rfl) λz w=>.inl w) λz w=>.inl w,(AO.trans p5).upd⟩
     ·have h7:=aL z;have h8:=ui z;by_cases y:one mu z+A0 z=0
      ·exact Qd λq9=>Ql (Qa q9 (Qa (Qc y) (Qb h8.2 h7)))
      ·exact Qd λq9=>Ql (Qa q9 (Qa (q2 z) (Qb h8.2 (Qc (EX z y)))))
     ·by_cases y:one mu z+A0 z=0
      ·left; have:=ui z; exact λq=>Ql (Qa (Nat.pos_of_ne_zero w) (Qa this.2 (Qa (Qc y) (Qc q))))
      ·exact .inr (cC z y)
    ·refine cq (by refine ae (nP yz) ?_; rfl) ?_;walk_at "r";refine cg (vs:=[Value.ref ch,Value.ref a]) (λtu AP=>?_) (by simp [sizeLine_eq]);walk_at "r";have su:=aq.of_sub (fp:=λz9=>0) (aB (o:=bU [Value.ref ch,Value.ref a] 0) AP);refine ae (nP yz) (ae (if_neg (show ¬ (false=true) by decide)) ?_);refine ⟨tu,ch,.ref a,_,f2,rfl,⟨0,af _ _ _⟩,ah.keep su ct (λz9 z8=>rfl),ah.keep su T2 (λz9 z8=>rfl),λz=>?_,λz w=>?_,(LN.mono (λz9 z8=>rfl)).trans ((p4.mono (λz w=>by exact w)).trans (su.mono λz9 z8=>rfl) λz w=>.inl w) λz w=>.inl w,(AO.trans p5).upd⟩
     ·have:=p2 z;by_cases y:one mu z+A0 z=0
      ·exact Qd λq=>Ql (Qa this (Qa (Qc y) q))
      ·have h1:=EX z y;have h2:=q2 z;by_cases y2:f2 z=0
       ·exact Qd λq=>Ql (Qa q (Qa h2 (Qc y2)))
       ·rcases p3 z y2 with w | w
        ·exact absurd h1 w
        ·exact absurd w (cA z y)
     ·by_cases y:one mu z+A0 z=0
      ·rcases p3 z (bK (vM w (Gv y (vK au)))) with w | w
       ·exact .inl w
       ·exact .inr (AO _ w)
      ·exact .inr (cC z y)
end
section
theorem uC {k:Nat}{x:Int}{ms:List Iv}{l r:T}{d b d' b':Int}:dT k (.node x ms l r d b)=dT k (.node x ms l r d' b'):=by
 cases k with
 | zero=>simp [dT]
 | succ k=>simp only [dT]
theorem xX {C C' C7:Led}{fp f2 fc:FP}{g:Int×List Iv}{t':T}{ch tu:Addr}{r:Value} (ct:ah C' (.ref ch) (.node g.1 g.2 .nil .nil 1 0) fc) (hc:∀ z,fc z≤1) (kJ:∀ z,fc z≠0->f2 z=0) (own:∀ z,fc z+f2 z≠0->fp z≠0∨C z=none) (kk:aq fp C C') (mo:More C C') (q:dE C' f2 t' r C7) (AP:C7 tu=none) :
  nT C fp g t' (.ref tu) (upd C7 tu (bU [.ref ch,r])):=by
 walk_at "bh";obtain ⟨f7,h1,h2,h3,h4⟩:=q;walk_at "ch";have su:=aq.of_sub (fp:=λz9=>0) (aB (o:=bU [Value.ref ch,r] 0) AP);have k7:aq fp C C7:=kk.trans h3 λz w=>own z (bK (cj w (aV au)))
 refine ⟨tu,ch,r,fc,f7,rfl,⟨0,af _ _ _⟩,ah.keep su (ah.keep h3 ct kJ) (λz9 z8=>rfl),ah.keep su h1 (λz9 z8=>rfl),λz=>?_,λz w=>?_,k7.trans (su.mono λz9 z8=>rfl) (λz w=>.inl w),(mo.trans h4).upd⟩
 ·have h5:=hc z;have h6:=h2.1 z;by_cases w:fc z=0
  ·exact Qd λq=>Ql (Qa h6 (Qa (Qc w) q))
  ·by_cases y:f7 z=0
   ·exact Qd λq=>Ql (Qa q (Qa h5 (Qc y)))
   ·rcases h2.2 z y with v | v
    ·exact absurd (kJ z w) v
    ·exact absurd v (ct.alive z w)
 ·by_cases y:f7 z=0
  ·exact own z (bK (vM w (Gu y (vK (az au)))))
  ·rcases h2.2 z y with v | v
   ·exact own z (bK (cj v (aV au)))
   ·exact .inr (mo z v)
theorem BI {k:Nat} [jl P] (zY:lO P k) (LW:jA P k) (ih:pW P k):pW P (k+1):=by
 intro C v t t' g fp ht aL hr;cases t with
 | nil=>simp [jC] at hr
 | node x ms l r d b =>
 rw [jC] at hr;cases xk:r.isNil
 ·rw [xk,if_neg (show ¬ (false=true) by decide)] at hr;cases e1:jC k r with
  | none=>rw [e1] at hr; exact iO hr
  | some p =>
  rw [e1] at hr;dsimp only at hr;by_cases hz:300 < ms.length+p.1.2.length
  ·exact bo (if_pos hz) hr
  rw [if_neg hz] at hr;cases e2:(if (ms.filter λj=>!hits p.1.1 j).isEmpty then cR k (.node x [] l p.2 d b) else dT k (.node x (ms.filter λj=>!hits p.1.1 j) l p.2 d b)) with
  | none=>rw [e2] at hr; exact iO hr
  | some t2 =>
  rw [e2] at hr;replace hr:=Option.some.inj hr; refine aS (Prod.mk.inj hr) λkE j0=>?_; clear hr; subst kE; replace j0:=Eq.symm j0; subst j0
  have mh:=ht.alive;walk_at "bh";obtain ⟨a,da,s,fs,vl,vr,fl,fr,tx,rfl,hn,hm,hl,gQ,aM⟩:=ht;walk_at "ch";refine bL (gb gQ (λe=>by rw [e] at xk; exact EB xk)) λra rda rxv rs rvl aZ=>?_; refine cz aZ λrvr rd rb ak Mk=>?_; clear aZ; subst ak
  have ky:=hl.dep.handed;have cu:ba k=24+3 * k:=rfl;refine' eB (n:=ba k+2) (binds:=[("self",.ref a)]) ?ho ?hb ?hp ?_
  case ho=>exact rfl
  case hb=>exact λs z9=>BindsTo.of_eq rfl
  case hp=>exact rfl
  intro A Qg L E a_ G aX cF Qp et;obtain ⟨SX,o1,v9,lS⟩:C (L+1)=none∧∃ o,a_ (L+1)=some o∧o.data=.cell (some (.ref a)):=cF "self" (L+1) rfl;clear cF;have vB:yF o1:=.inr ⟨λ⟨es,n,e⟩=>(by rw [e] at lS; injection lS),λ⟨es,n,e⟩=>(by rw [e] at lS; injection lS),(by intro vs e; rw [lS] at e; injection e)⟩;have gh:aq (λz9=>0) C a_:=aq.of_sub aX;have x_:More C a_:=More.of_sub aX;have CQ:=hn.keep gh rfl;have Ox:=hm.keep (fp':=λz9=>0) gh (λz9 z8=>rfl);have Sn:=ah.keep gh hl (λz9 z8=>rfl);have Ou:=ah.keep gh gQ (λz9 z8=>rfl);have Mj:=Mk.keep gh rfl;have Nj:∀ z,fp z≠0->a_ z≠none:=λz w e=>mh z w (x_ z e)
  clear hn hm hl gQ Mk aX;obtain ⟨g1,od,td,tb,g2,g3⟩:=id CQ;obtain ⟨y1,yd,ytd,ytb,y2,y3⟩:=id Mj;walk_at "r";refine bG G Ou.dep ?_;refine ae Ou.isNode (ae xk ?_);walk_at "r";refine bN (by decide) ?_;walk_at "r";refine gB G CQ ky rfl ?_ (Qb (by walk_at "A") (Qb (Qc (Eq.symm cu)) (by walk_at "A")));walk_at "r";refine aE G (ih Ou (λz=>by have:=aL z; rw [aM] at this; exact fR (jK this (aV au))) e1) (λr1 C2 q=>?_) (Qb (Nat.le_refl (ba k)) (Nat.le_add_right (ba k) 2));walk_at "bh";obtain ⟨tup,ch,v',fc,uk,rfl,Cz,Kz,hT,sep,own,k2,qq⟩:=q;walk_at "ch";have EW:∀ z,one da z+fs z+fl z≠0->fr z=0:=λz w=>by have:=aL z; rw [aM] at this; exact bj (bZ this (cZ au (cj w au)))
  have jd:=CQ.keep k2 (EW da (by exact ae (aj _) (bK (bT (az (az au))))));have qZ:=Ox.keep k2 (λz w=>EW z (bK (cj w (az (aV au)))));have lz:=ah.keep k2 Sn (λz w=>EW z (bK (cj w (aV au))));have Am:=k2 _ _ v9 (.inl vB);have kJ:∀ z,one da z+fs z+fl z+uk z+fc z≤1:=λz=>by
   have h1:=sep z;have h2:=aL z;rw [aM] at h2;by_cases w:fc z+uk z=0
   ·exact Qd λq=>Ql (Qa h2 (Qa (Qc w) q))
   ·rcases own z w with y | y
    ·exact Qd λq=>Ql (Qa (Nat.pos_of_ne_zero y) (Qa q (Qa h2 h1)))
    ·have h3:fp z=0:=Classical.byContradiction λq=>Nj z q y
     rw [aM] at h3;exact Qd λq=>Ql (Qa q (Qa (Qc h3) h1))
  have sq:∀ z,one da z+fs z+fl z+uk z+fc z≠0->fp z≠0∨C z=none:=λz w=>by
   by_cases y:fc z+uk z=0
   ·left; exact ae (aM _) (λq=>Ql (Qa (Nat.pos_of_ne_zero w) (Qa (Qc y) (Qc q))))
   ·rcases own z y with q | q
    ·left; exact ae (aM _) (bK (cj q (aV au)))
    ·exact .inr (x_ z q)
  have G3:aq fp C C2:=(gh.mono (λz9 z8=>rfl)).trans (k2.mono (fp':=fp) (λz w=>by rw [aM] at w; exact bj (cH w (aV au)))) (λz w=>.inl w);have Ki:=x_.trans qq;clear CQ Ox Sn Ou Mj g1 g2 g3 y1 y2 y3 k2 qq own sep EW gh x_ Nj v9;walk_at "r";refine eJ G Cz (bc (aW ?_));walk_at "r";refine bc (fX ?_);walk_at "r";refine fW G (c:=true) (vl:=vl) (vh:=.ref ra) jd IW (λC3 q=>?_) (Qe rfl);have AR:aJ C3 a da (.int x tx) s vl v' d b:=q.at jd;have k3:=cX jd q;have iI:=kJ da;rw [aj] at iI;have AS:=qZ.keep k3 (bp (Nat.le_zero.mp (Qd λq=>Ql (Qa iI q))));have Hl:=ah.keep k3 lz (bp (bj (bZ iI (dq (dq (cZ au (bT (az au))))))));have Em:=ah.keep k3 hT (bp (bj (bZ iI (dq (cZ au (bT (az (az au))))))));have Ak:=ah.keep k3 Kz (bp (bj (bZ iI (cZ au (bT (az (az (az au))))))));have KA:=k3 _ _ Am (.inl vB);have IT:aq fp C C3:=G3.trans k3 (λz w=>by left; exact ae (aM _) (bK (cj w (az (az (az au))))));have GX:=Ki.trans q.more;clear jd qZ lz hT Kz Am G3 Ki k3 q Cz;walk_at "bh";obtain ⟨g1,od3,td3,UE,g2,g3⟩:=id AR;walk_at "ch";walk_at "bh";obtain ⟨dm,om,rm,am,m1,m2,m3,m4,m5,m6⟩:=id AS;walk_at "ch";walk_at "r";refine aE G (l7 (λa_ hs=>dP (hs _ _ m1) (hs _ _ m2) m3 (m4.imp λz9 e=>hs _ _ e)) m4 m5 (Qb (by walk_at "A") (Qb (Qd hz) (by walk_at "A")))) (λr1 C4 q=>?_) (Qb (by walk_at "A") (Qb (Qc (Eq.symm cu)) (by walk_at "A")));walk_at "bh";obtain ⟨mx,fm,rfl,-,Kr,yx,s4⟩:=q;walk_at "ch";walk_at "bh";obtain ⟨dmx,omx,GP,X0,x1,x2,x3,x4,x5,x6⟩:=id Kr;walk_at "ch";have k4:aq (λz9=>0) C3 C4:=aq.of_sub s4;have iG:fs GP+fc GP=0:=by
   have h1:C3 GP=none:=yx GP (by refine ae (x6 _) (ae (aj _) ?_); exact bK (bT (aV au)));have h2:fs GP=0:=Classical.byContradiction λw=>AS.alive GP w h1
   have h3:fc GP=0:=Classical.byContradiction λw=>Ak.alive GP w h1
   exact bj (nv (cH h2 au) (cH h3 au))
  have FT:=AR.keep k4 rfl;have MK:=AS.keep (fp':=λz9=>0) k4 (λz9 z8=>rfl);have Sp:=ah.keep k4 Hl (λz9 z8=>rfl);have El:=ah.keep k4 Em (λz9 z8=>rfl);have Ge:=ah.keep k4 Ak (λz9 z8=>rfl);have S8:=s4 _ _ KA;have LS:aq fp C C4:=IT.trans (k4.mono λz9 z8=>rfl) (λz w=>.inl w);have Ik:More C C4:=GX.trans (More.of_sub s4);clear g1 g2 g3 m1 m2 m3 m4 m5 m6 AR AS Hl Em Ak KA IT GX yx s4 k4;have WC:=gr [] ms;simp only [List.length_nil,Nat.zero_add] at WC;refine dP x1 x2 x3 x4 G (Qb (by walk_at "A") (Qb (Qc (Eq.symm cu)) (by walk_at "A"))) (λai Ao=>?_);refine bX (vs:=X0.map Value.ref) G Ao (λrest m C'=>m "greatest_child"=some (.ref ch)∧∃ bV aK gs cur gA yA,ud (rest=bV.map Value.ref) (aP C' bV aK) (br C' s gA cur) (ah C' (.ref ch) (.node p.1.1 gs .nil .nil 1 0) yA)∧A4 (Own C4 fs gA) (Own C4 fc yA) (∀ z,gA z+yA z≤1) (aq (λz=>fs z+fc z) C4 C') (More C4 C') ∧
   HJ (aH gs (aK.filter (hits p.1.1))=aH p.1.2 ((aH [] ms).filter (hits p.1.1))) ((cur.filter λj=>!(hits p.1.1 j && decide (j∈aK)))=ms.filter λj=>!hits p.1.1 j) (∀ i∈aK,i∈cur) aK.Nodup (cur.length≤300) (gs.length+aK.length≤300)) ?_ ?_ ?_ ?_
  ·rintro rest m C' ⟨-,bV,aK,gs,cur,gA,yA,-,⟨-,-,-,kk,-⟩,-⟩;exact x4.keep kk iG
  ·refine ⟨by walk_at "nm",X0,aH [] ms,p.1.2,ms,fs,fc,⟨rfl,x5,MK,Ge⟩,⟨.refl λz=>by have:=kJ z; exact fR (jK this (az (az (az (aV au))))),.refl λz=>by have:=kJ z; exact fR (jK this (aV au)),λz=>by have:=kJ z; exact Qb (by walk_at "A") this,.refl,.refl⟩,rfl,List.filter_congr λj hj=>?_,λi hi=>((ix _ _ _).mp hi).resolve_left (λh=>by cases h),kG _ _ .nil,by exact Qb (by walk_at "A") (Qd hz),by exact Qd λq=>Ql (Qa (Qd hz) (Qa WC q))⟩;exact ae (show decide (j∈aH [] ms)=true from decide_eq_true ((ix _ _ _).mpr (.inr hj))) (ae (Bool.and_true _) rfl)
  ·intro E u rest m C' _ q0 J hJ;refine gY q0 λuj bV aK gs cur HC=>?_; clear q0; refine bx HC λgA yA ak aZ gw=>?_; clear HC; obtain ⟨hr,hi,xt,xy⟩:=ak; obtain ⟨Kg,GU,sp,kk,mo⟩:=aZ; obtain ⟨jf,xx,jy,qw,jx,lz⟩:=gw
   cases hi with
   | nil=>injection hr
   | @cons b jv bs gv hb gR =>
    simp only [List.map_cons,List.cons.injEq] at hr;refine aS hr λak aZ=>?_; clear hr; subst ak; subst aZ
    walk_at "bh";obtain ⟨ch',mu,Ke,KJ,A3,A2,Ub,Ua,ctx,JR,yo,RW,Al,OG,F9⟩:=id xy;walk_at "ch";replace JR:=PySem.Value.ref.inj JR; subst JR;have yr:=FT.keep kk (by have:=kJ da; rw [aj] at this; exact Nat.le_zero.mp (Qd λq=>Ql (Qa iI q)));have OH:=kk _ _ S8 (.inl vB);walk_at "bh";obtain ⟨v1,YT,Yt,Yx,v2,v3⟩:=id yo;walk_at "ch";walk_at "bh";obtain ⟨d1,b1,Pc,Pb,Pa,w1,w2,w3⟩:=id hb;walk_at "ch";walk_at "bh";obtain ⟨g1,UN,Ux,UD,g2,g3⟩:=id yr;walk_at "ch";walk_at "bh";obtain ⟨dmc,omc,rmc,amc,m1,m2,m3,m4,m5,m6⟩:=id xt;walk_at "ch";walk_at "r";refine aE G (lD hb) (λr cf q=>?_) (Qe rfl);refine aS q λak e=>?_; clear q; subst ak
    obtain rfl:C'=cf:=e.symm;clear e;walk_at "r";have WI:cur.length≤1000∧gs.length≤1000:=⟨by exact Qb jx (Nat.le_add_left 300 700),by exact Qb (by walk_at "A") (Qb lz (by walk_at "A"))⟩;rw [List.length_cons] at lz;have Jd:=List.nodup_cons.mp qw;refine cB (λhh=>?_) (λhh=>?_)
    ·have hh:hits p.1.1 jv=true:=hh;walk_at "r";refine aE G (iU xt hb WI.1 (jy jv (.head _))) (λr1 C5 q=>?_) (Qb (by walk_at "A") (Qb (Qc (Eq.symm cu)) (by walk_at "A")));refine aS q λz9 ak=>?_; clear q; obtain ⟨TN,R0,PK,k6,Ic⟩:=ak
     have Nc:=ah.keep k6 xy (λz w=>by have:=sp z; exact bj (bZ this (nz au (cj w au))));have hb6:=hb.keep k6;have Tc:=gR.keep k6;have CP:=yo.keep k6 (by have:=sp mu; rw [F9,aj] at this; exact bj (bZ this (nz au (bT (az (az (az au)))))));clear v1 v2 v3 w1 w2 w3 g1 g2 g3 m1 m2 m3 m4 m5 m6 yo RW Al OG;walk_at "bh";obtain ⟨v1,YS,Ys,Yw,v2,v3⟩:=id CP;walk_at "ch";walk_at "r";refine aE G (BV Nc (λz=>by have:=sp z; exact fR (jK this (aV au))) hb6 WI.2 hh) (λr2 C6 q=>?_) (Qb (by walk_at "A") (Qb (Qc (Eq.symm cu)) (by walk_at "A")));refine aS q λz9 ak=>?_; clear q; obtain ⟨XB,SV,BP,k7,AO⟩:=ak
     have hal6:=Nc.alive;have XM:∀ z,TN z≠0->yA z=0:=λz w=>Classical.byContradiction λy=>by
      rcases PK.2 z w with v | v
      ·have:=sp z; exact Ql (Qa (Nat.pos_of_ne_zero y) (Qa (Nat.pos_of_ne_zero v) this))
      ·exact xy.alive z y v
     have Ed:=R0.keep k7 XM;walk_at "r";have Hk:=lK gs jv;have Oy:=List.length_filter_le (λj=>!decide (j=jv)) cur;refine ⟨by walk_at "nm",bs,gv,eZ gs jv,cur.filter λj=>!decide (j=jv),TN,XB,⟨rfl,Tc.keep k7,Ed,SV⟩,⟨Kg.trans PK mo,GU.trans ⟨BP.1,λz w=>(BP.2 z w).imp id (Ic z)⟩ mo,λz=>?_,?_,(mo.trans Ic).trans AO⟩,?_,?_,λi hi=>?_,Jd.2,by exact Qb Oy jx,by exact Qd λq=>Ql (Qa lz (Qa Hk q))⟩
     ·have h1:=PK.1 z;have h2:=BP.1 z;by_cases y1:TN z=0
      ·exact Qd λq=>Ql (Qa h2 (Qa (Qc y1) q))
      ·by_cases y2:XB z=0
       ·exact Qd λq=>Ql (Qa q (Qa h1 (Qc y2)))
       ·rcases BP.2 z y2 with v | v
        ·exact absurd (XM z y1) v
        ·exact absurd v (R0.alive z y1)
     ·refine (kk.trans k6 λz w=>?_).trans k7 λz w=>?_
      ·exact (Kg.2 z w).imp (λv=>by exact bK (cj v (az au))) id
      ·exact (GU.2 z w).imp (λv=>by exact bK (cj v (aV au))) id
     ·refine eI jf (ae (List.filter_cons_of_pos hh) ?_); rfl
     ·refine eI xx (ae List.filter_filter ?_);refine List.filter_congr λj z9=>?_;by_cases q:j=jv
      ·subst q; simp [hh]
      ·simp [q]
     ·refine List.mem_filter.mpr ⟨jy i (.tail _ hi),?_⟩;have:i≠jv:=λe=>Jd.1 (e▸hi)
      simp [this]
    ·have hh:hits p.1.1 jv=false:=(Bool.not_eq_true _).mp hh;walk_at "r";refine ⟨by walk_at "nm",bs,gv,gs,cur,gA,yA,⟨rfl,gR,xt,xy⟩,⟨Kg,GU,sp,kk,mo⟩,?_,?_,λi hi=>jy i (.tail _ hi),Jd.2,jx,by exact Nat.le_of_lt lz⟩
     ·rw [← jf,List.filter_cons_of_neg (by rw [hh]; decide)]
     ·refine eI xx ?_;refine List.filter_congr λj z9=>?_;by_cases q:j=jv
      ·subst q; simp [hh]
      ·simp [q]
  ·intro E m C' q0;refine gY q0 λuj bV aK gs cur HC=>?_; clear q0; refine bx HC λgA yA ak aZ gw=>?_; clear HC; obtain ⟨hr,hi,xt,xy⟩:=ak; obtain ⟨Kg,GU,sp,kk,mo⟩:=aZ; obtain ⟨jf,xx,jy,qw,jx,lz⟩:=gw
   cases hi with
   | cons _ _=>injection hr
   | nil =>
   have xx:cur=ms.filter λj=>!hits p.1.1 j:=by exact eI xx ((List.filter_eq_self.mpr λz9 z8=>by simp).symm)
   obtain rfl:gs=aH p.1.2 ((aH [] ms).filter (hits p.1.1)):=jf;have off:∀ {f:FP},(∀ z,f z+fs z+fc z≤one da z+fs z+fl z+uk z+fc z)->∀ z,f z≠0->fs z+fc z=0:=λh z w=>by exact Nat.le_zero.mp (Qd λq9=>Ql (Qa (Nat.pos_of_ne_zero w) (Qa q9 (Qb (h z) (kJ z)))))
   have yr:=FT.keep kk (off (f:=one da) (λz=>by exact (by walk_at "A")) da (by refine ae (aj _) ?_; decide));have Kt:=ah.keep kk Sp (off λz=>by exact (by walk_at "A"));have KD:=ah.keep kk El (off λz=>by exact (by walk_at "A"));have OH:=kk _ _ S8 (.inl vB);have hT:ah C' (.ref a) (.node x cur l p.2 d b) (λz=>one da z+gA z+fl z+uk z):=⟨a,da,s,gA,vl,v',fl,uk,tx,rfl,yr,xt,Kt,KD,λz9=>rfl⟩;have X1:∀ z,one da z+fl z+uk z≠0->C4 z≠none:=λz w=>by
    by_cases y1:one da z=0
    ·by_cases y2:fl z=0
     ·exact El.alive z (λq=>Ql (Qa (Nat.pos_of_ne_zero w) (Qa (Qc y1) (Qa (Qc y2) (Qc q)))))
     ·exact Sp.alive z y2
    ·exact ae (one_pos y1) FT.some
   have T5:∀ z,gA z+yA z≠0->one da z+fl z+uk z=0:=λz w=>Classical.byContradiction λy=>by
    have h1:=kJ z;have h2:=X1 z y;by_cases y1:gA z=0
    ·rcases GU.2 z (bK (vM w (Gv y1 (vK au)))) with v | v
     ·exact Ql (Qa (Nat.pos_of_ne_zero y) (Qa h1 (Nat.pos_of_ne_zero v)))
     ·exact h2 v
    ·rcases Kg.2 z y1 with v | v
     ·exact Ql (Qa (Nat.pos_of_ne_zero y) (Qa h1 (Nat.pos_of_ne_zero v)))
     ·exact h2 v
   have Ol:∀ z,one da z+gA z+fl z+uk z≤1:=λz=>by
    have h1:=kJ z;have h2:=sp z;by_cases y:gA z+yA z=0
    ·exact Qd λq=>Ql (Qa h1 (Qa (Qc y) q))
    ·have:=T5 z y; exact Qd λq=>Ql (Qa q (Qa h2 (Qc this)))
   have iJ:∀ z,yA z≠0->one da z+gA z+fl z+uk z=0:=λz w=>by
    exact Nat.le_zero.mp (Qd λq9=>Ql (Qa q9 (Qa (Nat.pos_of_ne_zero w) (Qa (sp z) (Qc (T5 z (bK (cj w (aV au)))))))))
   have vy:∀ z,yA z+(one da z+gA z+fl z+uk z)≠0->fp z≠0∨C z=none:=λz w=>by
    by_cases y1:one da z+fl z+uk z=0
    ·by_cases y2:gA z=0
     ·rcases GU.2 z (λq=>Ql (Qa (Nat.pos_of_ne_zero w) (Qa (Qc y1) (Qa (Qc y2) (Qc q))))) with v | v
      ·exact sq z (bK (cj v (aV au)))
      ·exact .inr (Ik z v)
     ·rcases Kg.2 z y2 with v | v
      ·exact sq z (bK (cj v (az (az (az (aV au))))))
      ·exact .inr (Ik z v)
    ·exact sq z (λq=>Ql (Qa (Nat.pos_of_ne_zero y1) (Qc q)))
   have LR:aq fp C C':=LS.trans kk λz w=>sq z (λq=>Ql (Qa (Nat.pos_of_ne_zero w) (Qc q)))
   have Ij:=Ik.trans mo;have R9:cur.length≤1000000:=Qb jx (Nat.le_add_left 300 999700);clear kk mo FT MK Sp El Ge S8 LS Ik Kt KD X1 T5 kJ sq x1 x2 x3 x4 x5 x6 Kr Ao iG off jy qw jx lz;walk_at "bh";obtain ⟨g1,UN,Ux,UD,g2,g3⟩:=id yr;walk_at "ch";walk_at "r";refine d8 G xt R9 ?_ (Qb (by walk_at "A") (Qb (Qc (Eq.symm cu)) (by walk_at "A")));walk_at "r";by_cases yz:cur=[]
   ·rw [← xx,yz,if_pos (show ([]:List Iv).isEmpty=true from rfl)] at e2;refine bN (by refine ae yz ?_; decide) ?_;rw [yz] at hT;walk_at "r";refine aE G (LW hT Ol e2) (λr1 C7 q=>?_) (Qb (Nat.le_refl (ba k)) (Nat.le_add_right (ba k) 2));walk_at "r";refine cg (vs:=[Value.ref ch,r1]) (λtu AP=>?_) (by simp [sizeLine_eq]);walk_at "r";exact xX (g:=(p.1.1,aH p.1.2 ((aH [] ms).filter (hits p.1.1)))) xy GU.1 iJ vy LR Ij q AP
   ·rw [← xx,nP yz,if_neg (show ¬ (false=true) by decide)] at e2;refine cq (by refine ae (nP yz) ?_; rfl) ?_;walk_at "r";refine aE G (fU hT Ol) (λr1 C7 q=>?_) (Qb (by walk_at "A") (Qb (Qc (Eq.symm cu)) (by walk_at "A")));refine aS q λz9 ak=>?_; clear q; obtain ⟨f7,Dr,BP,k7,AO⟩:=ak
    have hc7:=k7 _ _ OH (.inl vB);have S6:=ah.keep k7 xy iJ;have S5:∀ z,yA z≠0->f7 z=0:=λz w=>Classical.byContradiction λy=>by
     rcases BP.2 z y with v | v
     ·exact v (iJ z w)
     ·exact xy.alive z w v
    have Mx:∀ z,yA z+f7 z≠0->fp z≠0∨C z=none:=λz w=>by
     by_cases y:f7 z=0
     ·exact vy z (λq=>Ql (Qa (Nat.pos_of_ne_zero w) (Qa (Qc y) (Qc q))))
     ·rcases BP.2 z y with v | v
      ·exact vy z (bK (cj v (aV au)))
      ·exact .inr (Ij z v)
    have LP:aq fp C C7:=LR.trans k7 λz w=>vy z (bK (cj w (aV au)))
    have mC7:=Ij.trans AO;clear k7 AO hT xy vy iJ LR Ij g1 g2 g3 yr xt;walk_at "bh";obtain ⟨a7,XO,s7,JP,Yj,Yh,fl7,fr7,Ym,JS,yq,-⟩:=id Dr;walk_at "ch";replace JS:=PySem.Value.ref.inj JS; subst JS;walk_at "bh";obtain ⟨g1,UM,Uw,UB,g2,g3⟩:=id yq;walk_at "ch";walk_at "r";refine aE G (zY Dr BP.1 (uC.trans e2)) (λr2 C8 q=>?_) (Qb (Nat.le_refl (ba k)) (Nat.le_add_right (ba k) 2));walk_at "r";refine cg (vs:=[Value.ref ch,r2]) (λtu AP=>?_) (by simp [sizeLine_eq]);walk_at "r";exact xX (g:=(p.1.1,aH p.1.2 ((aH [] ms).filter (hits p.1.1)))) S6 GU.1 S5 Mx LP mC7 q AP
 ·rw [xk,if_pos rfl] at hr;by_cases hg:ms.isEmpty || decide (6 < ms.length)
  ·exact bo (if_pos hg) hr
  ·rw [if_neg hg] at hr;simp only [Bool.or_eq_true,decide_eq_true_eq,not_or] at hg;replace hr:=Option.some.inj hr; refine aS (Prod.mk.inj hr) λkE j0=>?_; clear hr; subst kE; subst j0
   obtain rfl:r=.nil:=by cases r with | nil=>rfl | node=>exact mi xk
   exact zr ht aL (λe=>hg.1 (by refine ae e ?_; rfl)) (Qb (Qd hg.2) (by decide))
end
section
theorem wN {k:Nat} (zY:lO P k) (iho:pW P k):jA P (k+1):=by
 intro C v t t' fp ht aL hr;cases t with
 | nil=>simp [cR] at hr
 | node x ms l r d b =>
  obtain ⟨a,da,s,fs,vl,vr,fl,fr,tx,rfl,hn,hm,hl,gQ,aM⟩:=ht;rw [cR] at hr;refine' ax (n:=ba k+2) (binds:=[("self",.ref a)]) ?ho ?hb ?hp ?_;walk_at "D";have hc:ba k=24+3 * k:=rfl;have ky:=hl.dep.handed;have nM:=gQ.dep.handed;walk_at "r";refine eT G hn ky nM ?_ (Qb (by walk_at "A") (Qb (Qc (Eq.symm hc)) (by walk_at "A")));refine bG G hl.dep ?_;refine mN ?_;refine ae hl.isNode (ae (Bool.not_not _) ?_);cases AU:l.isNil
  ·rw [AU,if_neg (show ¬ (false=true) by decide)] at hr;refine bN (by decide) ?_;walk_at "r";refine gB G hn ky nM ?_ (Qb (by walk_at "A") (Qb (Qc (Eq.symm hc)) (by walk_at "A")));refine bG G gQ.dep ?_;refine mN ?_;refine ae gQ.isNode (ae (Bool.not_not _) ?_);cases xk:r.isNil
   ·rw [xk,if_neg (show ¬ (false=true) by decide)] at hr;cases e1:jC k l with
    | none=>rw [e1] at hr; exact iO hr
    | some p =>
    rw [e1] at hr;dsimp only at hr;refine bL (gb hl (λe=>by rw [e] at AU; exact EB AU)) λla lda lxv ls lvl aZ=>?_; refine cz aZ λlvr ld lb ak MP=>?_; clear aZ; subst ak
    have mh:∀ z,fp z≠0->C z≠none:=λz w=>by
     rw [aM] at w;by_cases y1:one da z=0
     ·by_cases y2:fs z=0
      ·by_cases y3:fl z=0
       ·exact gQ.alive z (λq=>Ql (Qa (Nat.pos_of_ne_zero w) (Qa (Qc y1) (Qa (Qc y2) (Qa (Qc y3) (Qc q))))))
       ·exact hl.alive z y3
      ·exact hm.alive z y2
     ·exact ae (one_pos y1) hn.some
    refine bN (by decide) ?_;walk_at "bh";obtain ⟨w1,lod,ltd,ltb,w2,w3⟩:=id MP;walk_at "ch";walk_at "r";refine eT G hn rfl nM ?_ (Qb (by walk_at "A") (Qb (Qc (Eq.symm hc)) (by walk_at "A")));walk_at "r";refine aE G (iho hl (λz=>by have:=aL z; rw [aM] at this; exact fR (jK this (az (aV au)))) e1) (λr1 C2 q=>?_) (Qb (Nat.le_refl (ba k)) (Nat.le_add_right (ba k) 2));walk_at "bh";obtain ⟨tup,ch,v',fc,Gy,rfl,Cz,Kz,hT,sep,own,k2,qq⟩:=q;walk_at "ch";have H_:∀ z,one da z+fs z+fr z≠0->fl z=0:=λz w=>by have:=aL z; rw [aM] at this; exact Nat.le_zero.mp (Qd λq=>Ql (Qa (Nat.pos_of_ne_zero w) (Qa this q)))
    have jd:=hn.keep k2 (H_ da (by exact ae (aj _) (bK (bT (az (az au))))));have CK:=ah.keep k2 gQ (λz w=>H_ z (bK (cj w (aV au))));have kJ:∀ z,one da z+fs z+fr z+Gy z+fc z≤1:=λz=>by
     have h1:=sep z;have h2:=aL z;rw [aM] at h2;by_cases w:fc z+Gy z=0
     ·exact Qd λq=>Ql (Qa h2 (Qa (Qc w) q))
     ·rcases own z w with y | y
      ·exact Qd λq=>Ql (Qa (Nat.pos_of_ne_zero y) (Qa q (Qa h2 h1)))
      ·have h3:fp z=0:=Classical.byContradiction λq=>mh z q y
       rw [aM] at h3;exact Qd λq=>Ql (Qa q (Qa (Qc h3) h1))
    have sq:∀ z,fr z+Gy z+fc z≠0->fp z≠0∨C z=none:=λz w=>by
     by_cases y:fc z+Gy z=0
     ·left; exact ae (aM _) (λq=>Ql (Qa (Nat.pos_of_ne_zero w) (Qa (Qc y) (Qc q))))
     ·rcases own z y with q | q
      ·left; exact ae (aM _) (bK (cj q (az (aV au))))
      ·exact .inr q
    have G3:aq fp C C2:=k2.mono λz w=>by rw [aM] at w; exact bj (cH w (az (aV au)))
    clear hn hm hl gQ MP w1 w2 w3 k2 own sep H_ mh;walk_at "r";refine eJ G Cz (bc (aW ?_));walk_at "r";refine bc (fX ?_);walk_at "r";refine fW G (c:=false) (vl:=vr) (vh:=.ref la) jd IX (λC3 q=>?_) (Qe rfl);have AR:aJ C3 a da (.int x tx) s v' vr d b:=q.at jd;have k3:=cX jd q;have iI:=kJ da;rw [aj] at iI;have RI:=ah.keep k3 CK (bp (bj (bZ iI (dq (dq (cZ au (bT (az au))))))));have Em:=ah.keep k3 hT (bp (bj (bZ iI (dq (cZ au (bT (az (az au))))))));have Ak:=ah.keep k3 Kz (bp (bj (bZ iI (cZ au (bT (az (az (az au))))))));have IT:aq fp C C3:=G3.trans k3 (λz w=>by left; exact ae (aM _) (bK (cj w (az (az (az au))))));have GX:=qq.trans q.more;clear jd CK hT Kz G3 qq k3 q Cz;have zZ:=Em.dep.handed;walk_at "r";refine eT G AR zZ nM ?_ (Qb (by walk_at "A") (Qb (Qc (Eq.symm hc)) (by walk_at "A")));walk_at "r";refine gB G AR zZ nM ?_ (Qb (by walk_at "A") (Qb (Qc (Eq.symm hc)) (by walk_at "A")));walk_at "r";refine cg (vs:=[v',vr]) (λtu AP=>?_) (by simp [sizeLine_eq]);have su:=aq.of_sub (fp:=λz9=>0) (aB (o:=bU [v',vr] 0) AP);have Ma:wa (upd C3 tu (bU [v',vr] 0)) tu [v',vr]:=⟨0,af _ _ _⟩;have Kq:=ah.keep su RI (λz9 z8=>rfl);have El:=ah.keep su Em (λz9 z8=>rfl);have Ge:=ah.keep su Ak (λz9 z8=>rfl);have LS:aq fp C (upd C3 tu (bU [v',vr] 0)):=IT.trans (su.mono λz9 z8=>rfl) (λz w=>.inl w);have Ik:More C (upd C3 tu (bU [v',vr] 0)):=GX.upd;clear su RI Em Ak IT GX AR AP;generalize upd C3 tu (bU [v',vr] 0)=C4 at *;walk_at "bh";obtain ⟨ch',mu,Ke,KJ,A3,A2,Ub,Ua,ctx,JR,yo,xt,⟨rfl,Al⟩,⟨rfl,OG⟩,F9⟩:=Ge;walk_at "ch";replace JR:=PySem.Value.ref.inj JR; subst JR;walk_at "r";refine eJ G Ma (bc (fX ?_));walk_at "r";refine fW G (c:=false) (vl:=.none) (vh:=.none) yo IX (λC5 q=>?_) (Qe rfl);have FR:aJ C5 ch mu (.int p.1.1 ctx) Ke v' .none 1 0:=q.at yo;have k5:=cX yo q;have Ij:=Ik.trans q.more;refine bc (fX ?_);walk_at "r";refine fW G (c:=true) (vl:=v') (vh:=.none) FR IW (λC6 q6=>?_) (Qe rfl);have CP:aJ C6 ch mu (.int p.1.1 ctx) Ke v' vr 1 0:=q6.at FR;have k6:=k5.trans (cX FR q6) (λz w=>.inl w);have UR:=Ij.trans q6.more;have F_:=kJ mu;rw [F9,aj] at F_;have OO:ah C6 (.ref ch) (.node p.1.1 p.1.2 p.2 r 1 0) (λz=>one mu z+KJ z+Gy z+fr z) :=
     ⟨ch,mu,Ke,KJ,v',vr,Gy,fr,ctx,rfl,CP,xt.keep k6 (bp (Nat.le_zero.mp (Qd λq=>Ql (Qa F_ q)))),ah.keep k6 El (bp (bj (bZ F_ (nz (aV au) (bT (az (az (az au)))))))),ah.keep k6 Kq (bp (bj (bZ F_ (nz (az (aV au)) (bT (az (az (az au)))))))),λz9=>rfl⟩
    have vF:∀ z,one mu z+KJ z≤fc z:=λz=>by exact ae (F9 _) (by walk_at "A")
    have Rw:∀ z,one mu z+KJ z+Gy z+fr z≤1:=λz=>by exact Qd λq9=>Ql (Qa q9 (Qa (kJ z) (vF z)))
    have Hc:∀ z,one mu z+KJ z+Gy z+fr z≠0->fp z≠0∨C z=none:=λz w=>sq z (by have:=vF z; exact λq=>Ql (Qa (Nat.pos_of_ne_zero w) (Qa this (Qc q))))
    have Oc:aq fp C C6:=LS.trans k6 (λz w=>sq z (by have:=vF z; exact λq=>Ql (Qa (Nat.pos_of_ne_zero w) (Qa this (Qc q)))));clear k5 k6 q q6 Ij Ik LS yo FR xt El Kq kJ sq Ma;walk_at "bh";obtain ⟨w1,JY,JW,JX,w2,w3⟩:=id CP;walk_at "ch";walk_at "r";refine aE G (fU OO Rw) (λr1 C7 q=>?_) (Qb (by walk_at "A") (Qb (Qc (Eq.symm hc)) (by walk_at "A")));refine aS q λz9 ak=>?_; clear q; obtain ⟨f7,Dr,BP,k7,AO⟩:=ak
    clear w1 w2 w3 CP;walk_at "bh";obtain ⟨a7,XO,s7,JP,Yj,Yh,fl7,fr7,Ym,JS,yq,-⟩:=id Dr;walk_at "ch";replace JS:=PySem.Value.ref.inj JS; subst JS;walk_at "bh";obtain ⟨w1,UM,Uw,UB,w2,w3⟩:=id yq;walk_at "ch";walk_at "r";refine aE G (zY Dr BP.1 (uC.trans hr)) (λr2 C8 q=>?_) (Qb (Nat.le_refl (ba k)) (Nat.le_add_right (ba k) 2));walk_at "r";refine q.behind (λz w=>?_) (Oc.trans k7 Hc) (UR.trans AO);rcases BP.2 z w with v | v
    ·exact Hc z v
    ·exact .inr (UR z v)
   ·rw [xk,if_pos rfl] at hr;replace hr:=Option.some.inj hr; replace hr:=Eq.symm hr; subst hr;refine cq rfl ?_;walk_at "r";refine eT G hn ky nM ?_ (Qb (by walk_at "A") (Qb (Qc (Eq.symm hc)) (by walk_at "A")));walk_at "st";refine bG G hl.dep ?_;refine ae hl.isNode (ae AU ?_);walk_at "r";refine iW G hn (c:=false) (.inl rfl) ky nM ?_ (Qb (by walk_at "A") (Qb (Qc (Eq.symm hc)) (by walk_at "A")));walk_at "r";exact ⟨fl,hl,⟨λz=>by have:=aL z; rw [aM] at this; exact fR (jK this (az (aV au))),λz q=>.inl (by exact ae (aM _) (bK (cj q (az (aV au)))))⟩,.refl,.refl⟩
  ·rw [AU,if_pos rfl] at hr;replace hr:=Option.some.inj hr; replace hr:=Eq.symm hr; subst hr;refine cq rfl ?_;walk_at "r";refine eT G hn ky nM ?_ (Qb (by walk_at "A") (Qb (Qc (Eq.symm hc)) (by walk_at "A")));walk_at "st";refine bG G hl.dep ?_;refine ae hl.isNode (ae AU ?_);walk_at "r";refine iW G hn (c:=true) (.inl rfl) ky nM ?_ (Qb (by walk_at "A") (Qb (Qc (Eq.symm hc)) (by walk_at "A")));walk_at "r";exact ⟨fr,gQ,⟨λz=>by have:=aL z; rw [aM] at this; exact fR (jK this (aV au)),λz q=>.inl (by exact ae (aM _) (bK (cj q (aV au))))⟩,.refl,.refl⟩
end
section
theorem xG [jl P]:∀ k,(lO P k∧pU P k∧ub P k)∧mZ P k∧jA P k∧pW P k
 | 0=>⟨⟨λz9 z8 h=>by simp [dT] at h,λz9 z8 h=>by simp [ec] at h,λz9 z8 h=>by simp [jh] at h⟩,λz9 z8 z7 z6 zA h zB=>by simp [fe] at h,λz9 z8 h=>by simp [cR] at h,λz9 z8 h=>by simp [jC] at h⟩
 | k+1=>by
  refine dI (xG k:(lO P k∧pU P k∧ub P k)∧mZ P k∧jA P k∧pW P k) λak h4 h5 h6=>?_; obtain ⟨h1,h2,h3⟩:=ak
  exact ⟨⟨Bm h2 h3,yR h1 h4,AA h2⟩,Bq h1 h4 h5,wN h1 h6,BI h1 h5 h6⟩
theorem Bn [jl P] (k:Nat):lO P k:=(xG k).1.1
theorem EK [jl P] (k:Nat):mZ P k:=(xG k).2.1
end
section
noncomputable def cS:Nat->List Iv->Option T
 | 0,_=>some .nil
 | n+1,ivs=>if ivs.isEmpty then some .nil else
  match cS n (dY (gV ivs) ivs) with
  | none=>none
  | some l =>
   match cS n (cM (gV ivs) ivs) with
   | none=>none
   | some r=>dT 30 (.node (gV ivs) (aH [] (fY (gV ivs) ivs)) l r 1 0)
section
variable {C C':Led}{a da s sl sr v:Addr}{x:Int}{pre:List Iv}{iv:Iv}
theorem eD.here (h:eD C a da x s sl sr pre C'):C' sl≠none∧C' sr≠none:=by
 refine bg h.l λas kl h1 z9=>?_;refine bg h.r λbs kr h2 z9=>?_
 refine ae h1 (ae h2 ?_);exact ⟨(by intro e; exact uy e),(by intro e; exact uy e)⟩
theorem eD.ds (h:eD C a da x s sl sr pre C') (iI:C da≠none):da≠sl∧da≠sr:=⟨λe=>iI (e▸h.nl),λe=>iI (e▸h.nr)⟩
theorem eD.goL (h:eD C a da x s sl sr pre C') (iI:C da≠none) (hv:b_ C' v iv) (hc:iv.2.1≤x) {as:List Addr}{kl:Nat} (hs:C' sl=some (listOf (as.map Value.ref).toArray kl)) (hi:aP C' as (dY x pre)) :
  eD C a da x s sl sr (pre++[iv]) (upd C' sl (listOf (as.map Value.ref++[Value.ref v]).toArray (kl+1))):=by
 have kk:aq (one sl) C' (upd C' sl (listOf (as.map Value.ref++[Value.ref v]).toArray (kl+1))):=aq.refl.upd (by refine ae (aj _) ?_; decide) (λo ho=>by replace ho:=eG hs ho; subst ho; exact dX);refine aQ h.n λtx hn=>?_;refine c9 h.m λfs hm m1 m2 m3=>?_
 refine bg h.r λbs kr r1 r2=>?_;have eM:fY x (pre++[iv])=fY x pre:=by unfold fY; refine ae (List.filter_append _ _) ?_; simp [hc]
 have eR:cM x (pre++[iv])=cM x pre:=by unfold cM; refine ae (List.filter_append _ _) ?_; simp [hc]
 have eL:dY x (pre++[iv])=dY x pre++[iv]:=by unfold dY; refine ae (List.filter_append _ _) ?_; simp [hc]
 refine ⟨λz o e q=>?_,⟨tx,hn.keep kk (aG (h.ds iI).1)⟩,⟨fs,eM▸hm.keep kk (λz q=>aG λe=>q (e▸m2)),m1,m2,m3⟩,⟨as++[v],kl+1,?_,?_⟩,⟨bs,kr,?_,eR▸r2.keep kk⟩,h.nl,h.nr,h.ne⟩
 ·refine ae (ag _ _ (λy=>by rw [y] at e; exact bo h.nl e)) ?_; exact h.k z o e q
 ·refine ae (af _ _ _) (ae List.map_append ?_); rfl
 ·exact ae eL ((hi.keep kk).app (.cons (hv.keep kk) .nil))
 ·exact ae (ag _ _ (Ne.symm h.ne)) r1
theorem eD.goR (h:eD C a da x s sl sr pre C') (iI:C da≠none) (hv:b_ C' v iv) (hc:¬ iv.2.1≤x) (hd:x < iv.1) {as:List Addr}{kr:Nat} (hs:C' sr=some (listOf (as.map Value.ref).toArray kr)) (hi:aP C' as (cM x pre)) :
  eD C a da x s sl sr (pre++[iv]) (upd C' sr (listOf (as.map Value.ref++[Value.ref v]).toArray (kr+1))):=by
 have kk:aq (one sr) C' (upd C' sr (listOf (as.map Value.ref++[Value.ref v]).toArray (kr+1))):=aq.refl.upd (by refine ae (aj _) ?_; decide) (λo ho=>by replace ho:=eG hs ho; subst ho; exact dX);refine aQ h.n λtx hn=>?_;refine c9 h.m λfs hm m1 m2 m3=>?_
 refine bg h.l λbs kl r1 r2=>?_;have eM:fY x (pre++[iv])=fY x pre:=by unfold fY; refine ae (List.filter_append _ _) ?_; simp [hc,hd]
 have eR:cM x (pre++[iv])=cM x pre++[iv]:=by unfold cM; refine ae (List.filter_append _ _) ?_; simp [hc,hd]
 have eL:dY x (pre++[iv])=dY x pre:=by unfold dY; refine ae (List.filter_append _ _) ?_; simp [hc]
 refine ⟨λz o e q=>?_,⟨tx,hn.keep kk (aG (h.ds iI).2)⟩,⟨fs,eM▸hm.keep kk (λz q=>aG λe=>q (e▸m3)),m1,m2,m3⟩,⟨bs,kl,?_,eL▸r2.keep kk⟩,⟨as++[v],kr+1,?_,?_⟩,h.nl,h.nr,h.ne⟩
 ·refine ae (ag _ _ (λy=>by rw [y] at e; exact bo h.nr e)) ?_; exact h.k z o e q
 ·exact ae (ag _ _ h.ne) r1
 ·refine ae (af _ _ _) (ae List.map_append ?_); rfl
 ·exact ae eR ((hi.keep kk).app (.cons (hv.keep kk) .nil))
theorem eD.goM (h:eD C a da x s sl sr pre C') (iI:C da≠none) (hc:¬ iv.2.1≤x) (hd:¬ x < iv.1) {fs:FP}{cf:Led} (hm:br C' s fs (aH [] (fY x pre))) (m1:∀ z,fs z≠0->C z=none) (m2:fs sl=0) (m3:fs sr=0)
  (hp:bA C' s fs (eZ (aH [] (fY x pre)) iv) cf):eD C a da x s sl sr (pre++[iv]) cf:=by
 walk_at "bh";obtain ⟨gA,p1,p2,p3,p4⟩:=hp;walk_at "ch";refine aQ h.n λtx hn=>?_;refine bg h.l λbs kl l1 l2=>?_
 refine bg h.r λcs kr r1 r2=>?_;have hh:=h.here
 have eM:fY x (pre++[iv])=fY x pre++[iv]:=by unfold fY; refine ae (List.filter_append _ _) ?_; simp [hc,hd]
 have eR:cM x (pre++[iv])=cM x pre:=by unfold cM; refine ae (List.filter_append _ _) ?_; simp [hc,hd]
 have eL:dY x (pre++[iv])=dY x pre:=by unfold dY; refine ae (List.filter_append _ _) ?_; simp [hc]
 have z1:∀ z o,C z=some o->fs z=0:=λz o e=>by
  by_cases q:fs z=0
  ·exact q
  ·exact bo (m1 z q) e
 have z2:∀ z,C' z≠none->fs z=0->gA z=0:=λz q1 q2=>by
  by_cases q:gA z=0
  ·exact q
  ·rcases p2.2 z q with w | w
   ·exact absurd q2 w
   ·exact absurd w q1
 have SR:fs da=0:=by
  by_cases q:fs da=0
  ·exact q
  ·exact absurd (m1 da q) iI
 refine ⟨λz o e q=>p3 z o (h.k z o e q) (.inr (z1 z o e)),⟨tx,hn.keep p3 SR⟩,⟨gA,?_,λz q=>?_,z2 _ hh.1 m2,z2 _ hh.2 m3⟩,⟨bs,kl,p3 _ _ l1 (.inr m2),eL▸l2.keep p3⟩,⟨cs,kr,p3 _ _ r1 (.inr m3),eR▸r2.keep p3⟩,h.nl,h.nr,h.ne⟩
 ·refine ae eM (ae (mY _ _ _) ?_); exact p1
 ·rcases p2.2 z q with w | w
  ·exact m1 z w
  ·cases e:C z with
   | none=>rfl
   | some o =>
    by_cases y:z=da
    ·subst y; exact absurd w hn.some
    ·exact bo w (h.k z o e y)
end
noncomputable def DX (P:e_) (c k:Nat):Prop:=∀ (C:Led) (l:Addr) (as:List Addr) (ivs:List Iv),cN C l (as.map Value.ref)->aP C as ivs->ivs.length≤k->ivs.length≤1000->(∀ i∈ivs,i.1 < i.2.1)->∀ t,cS k ivs=some t->Spec (S2 P) c (.ref 326) [.ref 491,.ref l] [] C (eA C t)
end
section
theorem NB (n:Nat):(n:Int).fdiv 2=((n / 2:Nat):Int):=by
 refine ae (Int.fdiv_eq_ediv_of_nonneg _ (by decide)) ?_; rfl
theorem yC:recIn (KK P) 328 "classmethod"=some [.ref 326,.bool false]:=by kernel_rfl
theorem Cu:fnIn (KK P) 326=true:=by kernel_rfl
theorem zF (x:Int) (ivs:List Iv):(dY x ivs).length≤ivs.length:=List.length_filter_le _ _
theorem wB (x:Int) (ivs:List Iv):(cM x ivs).length≤ivs.length:=List.length_filter_le _ _
theorem B8 {ivs:List Iv}{ci:Iv} (h:ci∈ivs) (hw:ci.1 < ci.2.1):(dY ci.1 ivs).length < ivs.length:=List.length_filter_lt_length_iff_exists.mpr ⟨ci,h,by simp; omega +splitMinMax⟩
theorem yW {ivs:List Iv}{ci:Iv} (h:ci∈ivs):(cM ci.1 ivs).length < ivs.length:=List.length_filter_lt_length_iff_exists.mpr ⟨ci,h,by simp⟩
theorem BX (x:Int) (ivs:List Iv):(fY x ivs).length≤ivs.length:=List.length_filter_le _ _
theorem GR {c k:Nat} (ok:DX P c k) {A:Around}{Qg:Heap}{L:Addr}{E:Value->Shared->Prop}{m:Loc}{env:Env}{n:Nat}{C:Led}{l:Addr}{as:List Addr}{ivs:List Iv}{e:Expr}{pos:Pos}{pl:Sem Bool}{Q:Value->Loc->Led->Prop} (G:Gd (S2 P) n A Qg L env)
  (hl:cN C l (as.map Value.ref)) (dQ:aP C as ivs) (hk:ivs.length≤k) (hz:ivs.length≤1000) (hw:∀ i∈ivs,i.1 < i.2.1) {t:T} (ht:cS k ivs=some t) (hc:c≤n)
  (ha:∀ {a_:Led}{Q:Value->Loc->Led->Prop},Q (.ref l) m a_->W (S2 P) A Qg L E (eval e env) m a_ Q)
  (h:∀ r C',eA C t r C'->Q r m C')
  (he:autoParam (starEach [e] env=(false,eval e env)::starEach [] env) aR) :
  W (S2 P) A Qg L E (getMethod (.ref 491) "from_sorted_intervals" pl) m C λfx m C=>W (S2 P) A Qg L E (callWith pos fx.1 fx.2 (backTo pos (starEach [e] env)) (backToKw pos (keywordEach [] env))) m C Q:=by
 refine dW G DJ DE DF DK yC (λq hq=>?_);refine eU G Cu (af _ _ _) ?_ he rfl;refine hZ (ha ?_) he;refine lX ⟨af _ _ _,_,(ok (upd C q (methodObj (.ref 326) (.ref 491))) l as ivs ?_ ?_ hk hz hw t ht).le hc,λv cf z=>?_⟩
 ·refine aQ hl λkk hl=>?_;exact ⟨kk,(ag _ _ λy=>by rw [y] at hl; exact bo hq hl).trans hl⟩
 ·exact dQ.keep (fp:=λz9=>0) (aq.refl.new hq)
 ·walk_at "bh";obtain ⟨fp,a1,a2,a3,a4⟩:=z;walk_at "ch";refine h v cf ⟨fp,a1,a2,λz hz=>?_,λz o e=>a4 z o ((ag _ _ λy=>by rw [y] at e; exact bo hq e).trans e)⟩;exact (bY (a3 z hz)).1
theorem zX [jl P] {c k:Nat} (ok:DX P c k) {C:Led}{a da bD l:Addr}{as:List Addr}{ivs:List Iv} (hn:aJ C a da .none bD .none .none 1 0) (hl:cN C l (as.map Value.ref)) (dQ:aP C as ivs) (hk:ivs.length≤k+1) (hz:ivs.length≤1000) (hw:∀ i∈ivs,i.1 < i.2.1) (bS:ivs≠[]) (xy:120≤c) {t:T} (ht:cS (k+1) ivs=some t) :
  Spec (S2 P) (c+11) (.ref 336) [.ref a,.ref l] [] C λr C'=>∃ fp,ud (ah C' r t fp) ((∀ z,fp z≤1)) ((∀ z,fp z≠0->z=da∨C z=none)) (∀ z o,C z=some o->z≠da->C' z=some o):=by
 walk_at "bh";obtain ⟨h1,od,td,tb,h2,h3⟩:=id hn;walk_at "ch";have hlen:=dQ.len;have o_:0 < ivs.length:=by cases ivs with | nil=>exact absurd rfl bS | cons _ _=>simp
 refine aQ (⟨_,List.getElem?_eq_getElem (by exact Nat.div_lt_self o_ (of_decide_eq_true (id (Eq.refl true))))⟩:∃ ci,ivs[ivs.length / 2]?=some ci) λci S4=>?_;refine aF (dQ.get S4) λca hca SU=>?_
 have ex:gV ivs=ci.1:=by unfold gV; refine ae S4 ?_; rfl
 refine' ax (n:=c+10) (binds:=[("self",.ref a),("intervals",.ref l)]) ?ho ?hb ?hp ?_;walk_at "D";walk_at "r";refine dU hl (by refine ae (List.length_map _) ?_; exact Nat.lt_of_not_le λq=>Ql (Qa hz (Qa (Qc hlen) q))) (λt=>?_);walk_at "r";refine oG (by decide) (by decide) (λt'=>?_);refine ae (List.length_map _) (ae (NB _) ?_);refine gg hl (Int.NonNeg.mk (as.length / 2+0)) (Int.lt_of_le_of_lt (Int.ofNat_le.mpr (Qb (Nat.div_le_self _ _) (Qb (Qc hlen) hz))) (by decide)) (x:=.ref ca) (by refine ae (Int.toNat_natCast _) (ae List.getElem?_map (ae hlen (ae hca ?_))); rfl) ?_;walk_at "r";walk_at "bh";obtain ⟨dc,oc,NV,O8,Uz,v9,Am,KA⟩:=id SU;walk_at "ch";walk_at "r";rename_i o1 k1;have iH:aJ (upd C da o1) a da (.int ci.1 NV) bD .none .none 1 0:=hn.set k1;have pj:=hn.ne;refine aE G oR (λr C2 q=>?_);walk_at "bh";obtain ⟨s,fs,rfl,hs,hm,ui,aX⟩:=q;walk_at "ch";have jd:aJ C2 a da (.int ci.1 NV) bD .none .none 1 0:=iH.keep (fp:=λz9=>0) (aq.of_sub aX) rfl;walk_at "bh";obtain ⟨g1,o2,Uy,O9,g2,g3⟩:=id jd;walk_at "ch";walk_at "r";rename_i o3 k3;have AR:aJ (upd C2 da o3) a da (.int ci.1 NV) s .none .none 1 0:=jd.set k3;refine bH (vs:=[]) (λsl iu=>?_) (by simp [sizeLine_eq]);walk_at "r";refine bH (vs:=[]) (λsr hsr=>?_) (by simp [sizeLine_eq]);walk_at "r";have u1:=bY iu;have u2:=bY hsr;have u3:=bY u2.1;have cn:∀ z,C2 z=none->z≠da->C z=none:=λz q y=>by
  cases e:C z with
  | none=>rfl
  | some o=>exact bo q (aX z o ((ag _ _ y).trans e))
 have c2:∀ z o,C z=some o->z≠da->C2 z=some o:=λz o e y=>aX z o ((ag _ _ y).trans e)
 have iI:C da≠none:=hn.some;have SJ:fs da=0:=by
  by_cases q:fs da=0
  ·exact q
  ·have:=ui da q; exact bo this (af ..)
 have f0:∀ z,C2 z=none->fs z=0:=λz q=>by
  by_cases w:fs z=0
  ·exact w
  ·exact absurd q (hm.alive z w)
 have kk:aq (one da) C2 (upd (upd (upd C2 da o3) sl (listOf ([]:List Value).toArray 0)) sr (listOf ([]:List Value).toArray 0)):=(((jd.keepSet (fp:=one da) (o:=o3) (by refine ae (aj _) ?_; decide))).new u1.1).new u3.1;have kn:aq (λz9=>0) (upd C2 da o3) (upd (upd (upd C2 da o3) sl (listOf ([]:List Value).toArray 0)) sr (listOf ([]:List Value).toArray 0)):=(aq.refl.new iu).new u2.1;have hP:eD C a da ci.1 s sl sr [] (upd (upd (upd C2 da o3) sl (listOf ([]:List Value).toArray 0)) sr (listOf ([]:List Value).toArray 0)):=by
  refine ⟨λz o e y=>kk z o (c2 z o e y) (.inr (aG y)),⟨NV,AR.keep kn rfl⟩,⟨fs,hm.keep kk (λz q=>aG λe=>q (e▸SJ)),λz q=>?_,f0 _ u1.1,f0 _ u3.1⟩,⟨[],0,?_,.nil⟩,⟨[],0,af _ _ _,.nil⟩,cn _ u1.1 u1.2,cn _ u3.1 u3.2,Ne.symm u2.2⟩
  ·have e:=ui z q;exact (bY e).1
  ·exact ae (ag _ _ (Ne.symm u2.2)) (af _ _ _)
 generalize (upd (upd (upd C2 da o3) sl (listOf ([]:List Value).toArray 0)) sr (listOf ([]:List Value).toArray 0))=C3 at hP ⊢;have lk:∀ C',(∀ z o,C z=some o->z≠da->C' z=some o)->cN C' l (as.map Value.ref):=λC' q=>by
  refine aQ hl λkl hl=>?_;refine ⟨kl,q l _ hl λe=>?_⟩
  rw [e] at hl; replace hl:=eG h2 hl; subst hl; exact gG h3 rfl
 have ik:∀ C' as ivs,(∀ z o,C z=some o->z≠da->C' z=some o)->aP C as ivs->aP C' as ivs:=λC' as ivs q hi=>hi.keep (fp:=one da) λz o e w=>q z o e λy=>by
  rcases w with w | w
  ·subst y; replace e:=eG h2 e; subst e; exact ki h3 w
  ·rw [y,aj] at w; injection w
 refine bO (lk _ hP.k) (λit hit=>?_);refine bX (vs:=as.map Value.ref) G hit (λrest m C'=>ud (m "self"=some (.ref a)) (m "s_left"=some (.ref sl)) (m "s_right"=some (.ref sr)) (∃ bV aK pre,ud (rest=bV.map Value.ref) (aP C bV aK) (ivs=pre++aK) (eD C a da ci.1 s sl sr pre C'))) ?_ ?_ ?_ ?_
 ·intro rest m C' q0;walk_at "bh";obtain ⟨-,-,-,bV,aK,pre,-,-,-,hP⟩:=q0;walk_at "ch";exact lk _ hP.k
 ·exact ⟨by walk_at "nm",by walk_at "nm",by walk_at "nm",as,ivs,[],rfl,dQ,rfl,hP⟩
 ·intro E' u rest m C' _ q0 J hJ;walk_at "bh";obtain ⟨m1,m2,m3,bV,aK,pre,hr,hi,hd,hP⟩:=q0;walk_at "ch";cases hi with
  | nil=>injection hr
  | @cons b jv bs gv hb gR =>
   simp only [List.map_cons,List.cons.injEq] at hr;refine aS hr λak aZ=>?_; clear hr; subst ak; subst aZ
   have fC:b_ C' b jv:=by
    have:=ik C' [b] [jv] hP.k (.cons hb .nil);cases this with | cons h _=>exact h
   walk_at "bh";obtain ⟨db,ob,NW,O9,UE,OM,OL,OJ⟩:=id fC;walk_at "ch";refine aQ hP.n λtx vY=>?_;walk_at "bh"
   obtain ⟨n1,on,Uv,UA,n2,n3⟩:=id vY;walk_at "ch";refine c9 hP.m λgA v5 w1 w2 w3=>?_;walk_at "bh"
   obtain ⟨dm,om,rm,am,vZ,qZ,AS,MK,Hg,R0⟩:=id v5;walk_at "ch";refine bg hP.l λal kl l1 l2=>?_;refine bg hP.r λar kr r1 r2=>?_
   have lj:=congrArg List.length hd;rw [List.length_append,List.length_cons] at lj;walk_at "r";refine cB (λq=>?_) (λq=>?_)
   ·simp only [decide_eq_true_eq] at q;walk_at "r";refine dG ⟨kl,l1⟩ ?_;walk_at "r";refine kU l1 (by refine ae (List.length_map _) (ae l2.len (ae sizeLine_eq ?_)); have:=zF ci.1 pre; exact Qd λq=>Ql (Qa hz (Qa (Qc (Eq.symm lj)) (Qa this q)))) ?_;walk_at "r";exact ⟨by walk_at "nm",by walk_at "nm",by walk_at "nm",bs,gv,pre++[jv],rfl,gR,by refine ae hd ?_; simp,hP.goL iI fC q l1 l2⟩
   ·simp only [decide_eq_true_eq] at q;walk_at "r";refine cB (λq'=>?_) (λq'=>?_)
    ·simp only [decide_eq_true_eq] at q';walk_at "r";refine dG ⟨kr,r1⟩ ?_;walk_at "r";refine kU r1 (by refine ae (List.length_map _) (ae r2.len (ae sizeLine_eq ?_)); have:=wB ci.1 pre; exact Qd λq=>Ql (Qa hz (Qa (Qc (Eq.symm lj)) (Qa this q)))) ?_;walk_at "r";exact ⟨by walk_at "nm",by walk_at "nm",by walk_at "nm",bs,gv,pre++[jv],rfl,gR,by refine ae hd ?_; simp,hP.goR iI fC q q' r1 r2⟩
    ·simp only [decide_eq_true_eq] at q';walk_at "r";have Hk:=gr [] (fY ci.1 pre);have Sh:=BX ci.1 pre;refine aE G (g7 v5 fC (by simp only [List.length_nil] at Hk; exact Qd λq=>Ql (Qa hz (Qa (Qc (Eq.symm lj)) (Qa Hk (Qa Sh q)))))) (λr cf z=>?_);walk_at "r";exact ⟨by walk_at "nm",by walk_at "nm",by walk_at "nm",bs,gv,pre++[jv],rfl,gR,by refine ae hd ?_; simp,hP.goM iI q q' v5 w1 w2 w3 z.2⟩
 ·intro E' m C' q0;walk_at "bh";obtain ⟨m1,m2,m3,bV,aK,pre,hr,hi,hd,hP⟩:=q0;walk_at "ch";cases hi with
  | cons _ _=>injection hr
  | nil =>
   rw [List.append_nil] at hd;subst hd;refine aQ hP.n λtx vY=>?_;walk_at "bh"
   obtain ⟨n1,on,Uv,UA,n2,n3⟩:=id vY;walk_at "ch";refine c9 hP.m λgA v5 w1 w2 w3=>?_;refine bg hP.l λal kl l1 l2=>?_
   refine bg hP.r λar kr r1 r2=>?_;rw [cS,if_neg (by cases ivs with | nil=>exact absurd rfl bS | cons _ _=>simp),ex] at ht
   cases t3:cS k (dY ci.1 ivs) with
   | none=>rw [t3] at ht; exact iO ht
   | some tl =>
   rw [t3] at ht;dsimp only at ht;cases t4:cS k (cM ci.1 ivs) with
   | none=>rw [t4] at ht; exact iO ht
   | some tr =>
   rw [t4] at ht;dsimp only at ht;walk_at "r";have JC:ci∈ivs:=List.mem_of_getElem? S4;have q1:=B8 JC (hw _ JC);have q2:=yW JC;refine GR ok G (e:=_) ⟨kl,l1⟩ l2 (Qd λq=>Ql (Qa hk (Qa (Qf q1) q))) (Qd λq=>Ql (Qa hz (Qa (Qf q1) q))) (λi hi=>hw i (List.mem_filter.mp hi).1) t3 (Qb (Nat.le_refl c) (Nat.le_add_right c 10)) (λh=>cy G m2 h (by rfl)) (λvl C4 z=>?_);walk_at "bh";obtain ⟨fl,a1,a2,a3,a4⟩:=z;walk_at "ch";have FT:aJ C4 a da (.int ci.1 tx) s .none .none 1 0:=vY.keep (fp:=λz9=>0) (aq.of_sub a4) rfl;walk_at "bh";obtain ⟨e1,o4,td4,tb4,e2,e3⟩:=id FT;walk_at "ch";walk_at "r";rename_i o5 k5;have yr:aJ (upd C4 da o5) a da (.int ci.1 tx) s vl .none 1 0:=FT.set k5;have WH:aq (one da) C' (upd C4 da o5):=(aq.of_sub a4).trans (FT.keepSet (by refine ae (aj _) ?_; decide)) (λz q=>.inl q);have XA:∀ z,C' z≠none->fl z=0:=λz q=>by
    by_cases w:fl z=0
    ·exact w
    ·exact absurd (a3 z w) q
   have hds:=hP.ds iI;refine GR ok G (e:=_) (C:=upd C4 da o5) (l:=sr) ⟨kr,WH _ _ r1 (.inr (aG (Ne.symm hds.2)))⟩ (r2.keep WH) (Qd λq=>Ql (Qa hk (Qa (Qf q2) q))) (Qd λq=>Ql (Qa hz (Qa (Qf q2) q))) (λi hi=>hw i (List.mem_filter.mp hi).1) t4 (Qb (Nat.le_refl c) (Nat.le_add_right c 10)) (λh=>cy G m3 h (by rfl)) (λvr C6 z=>?_);walk_at "bh";obtain ⟨fr,b1,b2,b3,b4⟩:=z;walk_at "ch";have MH:aJ C6 a da (.int ci.1 tx) s vl .none 1 0:=yr.keep (fp:=λz9=>0) (aq.of_sub b4) rfl;walk_at "bh";obtain ⟨f1,o6,td6,UC,f2,f3⟩:=id MH;walk_at "ch";walk_at "r";rename_i o7 k7;have yq:aJ (upd C6 da o7) a da (.int ci.1 tx) s vl vr 1 0:=MH.set k7;have hk7:aq (one da) (upd C4 da o5) (upd C6 da o7):=(aq.of_sub b4).trans (MH.keepSet (by refine ae (aj _) ?_; decide)) (λz q=>.inl q);have TO:∀ z,upd C4 da o5 z≠none->fr z=0:=λz q=>by
    by_cases w:fr z=0
    ·exact w
    ·exact absurd (b3 z w) q
   have XQ:fr da=0:=TO da (by refine ae (af _ _ _) ?_; intro e; exact uy e);have XR:fl da=0:=XA da vY.some;have UZ:aq (one da) C4 (upd C6 da o7):=((FT.keepSet (fp:=one da) (by refine ae (aj _) ?_; decide))).trans hk7 (λz q=>.inl q);have Yo:ah (upd C6 da o7) vl _ fl:=ah.keep UZ a1 (λz q=>aG λe=>q (e▸XR));have Yn:ah (upd C6 da o7) vr _ fr:=ah.keep (MH.keepSet (fp:=one da) (by refine ae (aj _) ?_; decide)) b1 (λz q=>aG λe=>q (e▸XQ));have w0:gA da=0:=by
    by_cases q:gA da=0
    ·exact q
    ·exact absurd (w1 da q) iI
   have LP:aq (one da) C' (upd C6 da o7):=(aq.of_sub a4).trans UZ (λz q=>.inl q);have mf:∀ z,one da z+gA z+fl z+fr z≤1:=λz=>by
    have s1:=v5.sep z;have s2:=a2 z;have s3:=b2 z;by_cases y:z=da
    ·subst y; refine ae (aj _) (ae w0 (ae XR (ae XQ ?_))); exact Nat.le_refl _
    ·refine ae (aG y) ?_;by_cases q1:C' z=none
     ·have e1:gA z=0:=by
       by_cases q:gA z=0
       ·exact q
       ·exact absurd q1 (v5.alive z q)
      by_cases q2:fl z=0
      ·exact Qd λq=>Ql (Qa s3 (Qa (Qc e1) (Qa (Qc q2) q)))
      ·have:=TO z (by exact ae (ag _ _ y) (a1.alive z q2));exact Qd λq=>Ql (Qa q (Qa (Qc e1) (Qa s2 (Qc this))))
     ·have e1:=XA z q1;have e2:=TO z (by
       refine ae (ag _ _ y) ?_;cases e:C' z with
       | none=>exact absurd e q1
       | some o=>rw [a4 z o e]; intro w; exact uy w)
      exact Qd λq=>Ql (Qa s1 (Qa (Qc e1) (Qa (Qc e2) q)))
   have vy:∀ z,one da z+gA z+fl z+fr z≠0->z=da∨C z=none:=λz uf=>by
    by_cases y:z=da
    ·exact .inl y
    ·right;rw [aG y] at uf;have cc:C' z=none->C z=none:=λq=>by
      cases e:C z with
      | none=>rfl
      | some o=>exact bo q (hP.k z o e y)
     by_cases e1:gA z=0
     ·by_cases e2:fl z=0
      ·have:=b3 z (λq=>Ql (Qa (Nat.pos_of_ne_zero uf) (Qa (Qc e1) (Qa (Qc e2) (Qc q)))));rw [ag _ _ y] at this;refine cc ?_;cases e:C' z with
       | none=>rfl
       | some o=>exact bo this (a4 z o e)
      ·exact cc (a3 z e2)
     ·exact w1 z e1
   have Dr:ah (upd C6 da o7) (.ref a) (.node ci.1 (aH [] (fY ci.1 ivs)) tl tr 1 0) (λz=>one da z+gA z+fl z+fr z):=⟨a,da,s,gA,vl,vr,fl,fr,tx,rfl,yq,v5.keep LP (λz q=>aG λe=>q (e▸w0)),Yo,Yn,λz9=>rfl⟩;refine aE G (Bn 30 Dr mf ht) (λr C8 z=>?_) (by have:ba 30=114:=rfl; exact Qd λq=>Ql (Qa xy (Qa (Qc this) q)));walk_at "bh";obtain ⟨f8,hT8,Ls,k8,mo8⟩:=z;walk_at "ch";walk_at "r";have cc7:∀ z,upd C6 da o7 z=none->z≠da->C z=none:=λz q y=>by
    cases e:C z with
    | none=>rfl
    | some o=>exact bo q (LP z o (hP.k z o e y) (.inr (aG y)))
   refine ⟨f8,hT8,Ls.1,λz hz=>?_,λz o e y=>?_⟩
   ·rcases Ls.2 z hz with w | w
    ·exact vy z w
    ·by_cases y:z=da
     ·exact .inl y
     ·exact .inr (cc7 z w y)
   ·refine k8 z o (LP z o (hP.k z o e y) (.inr (aG y))) (.inr ?_);by_cases q:one da z+gA z+fl z+fr z=0
    ·exact q
    ·rcases vy z q with w | w
     ·exact absurd w y
     ·exact bo w e
end
section
theorem HN (a_:Led):t8 (KK P) a_ 291 []:=.inr ⟨0,rfl⟩
theorem wU {C:Led}:Spec (S2 P) 13 (.ref 491) [] [] C (gI C .none []) :=
 qP (sv:=.ref 291) (λa_ z9=>jV (t:=291) (λuc z9=>HN uc) (.inl rfl)) (.inr ⟨rfl,rfl,rfl⟩) rfl
theorem DA [jl P]:∀ k,DX P (121+13 * k) k
 | 0=>λC l as ivs hl dQ hk hz hw t ht=>by
  have e:ivs=[]:=List.length_eq_zero_iff.mp (Nat.le_zero.mp (Qb hk (by decide)));subst e;have e2:as=[]:=List.length_eq_zero_iff.mp dQ.len;subst e2;refine' ax (n:=120) (binds:=[("cls",.ref 491),("intervals",.ref l)]) ?ho ?hb ?hp ?_;walk_at "D";walk_at "r";refine eu hl (by decide) ?_;refine cq rfl ?_;walk_at "r";replace ht:=Option.some.inj ht; subst ht;exact ⟨λz9=>0,⟨rfl,λz9=>rfl⟩,λz9=>Nat.zero_le _,λz9 h=>absurd rfl h,λz9 z8 e=>e⟩
 | k+1=>λC l as ivs hl dQ hk hz hw t ht=>by
  refine' ax (n:=121+13 * k+12) (binds:=[("cls",.ref 491),("intervals",.ref l)]) ?ho ?hb ?hp ?_;walk_at "D";walk_at "r";refine eu hl (by refine ae (List.length_map _) (ae dQ.len ?_); exact Nat.lt_of_le_of_lt hz (Nat.le_add_left (Nat.succ 1000) 9223372036854774807)) ?_;by_cases bS:ivs=[]
  ·subst bS;have e2:as=[]:=List.length_eq_zero_iff.mp dQ.len;subst e2;refine cq rfl ?_;walk_at "r";rw [cS,if_pos (show ([]:List Iv).isEmpty=true from rfl)] at ht;replace ht:=Option.some.inj ht; subst ht;exact ⟨λz9=>0,⟨rfl,λz9=>rfl⟩,λz9=>Nat.zero_le _,λz9 h=>absurd rfl h,λz9 z8 e=>e⟩
  ·have Je:as≠[]:=λe=>bS (List.length_eq_zero_iff.mp (by refine eI dQ.len (ae e ?_); rfl))
   refine mN ?_;refine ae (show (!(!(as.map Value.ref).isEmpty))=false by cases as with | nil=>exact absurd rfl Je | cons _ _=>rfl) ?_;refine bN (by decide) ?_;walk_at "r";refine aE G wU (λr C1 z=>?_);obtain ⟨a,da,s,fs,rfl,hx,hn,hm,h4,h5,h6⟩:=z;obtain ⟨n1,on,Uv,UA,n2,n3⟩:=id hn;walk_at "r";have aX:aq (λz9=>0) C C1:=aq.of_sub h6;refine aE G (zX (DA k) hn (hl.imp λkk e=>h6 _ _ e) (dQ.keep aX) hk hz hw bS (Nat.le_of_lt (Nat.le_add_right (Nat.succ 120) (13 * k))) ht) (λr C2 z=>?_);refine aQ z λfp ak=>?_; clear z; obtain ⟨a1,a2,a3,a4⟩:=ak
   walk_at "r";have AD:C da=none:=h4 da (by exact ae (aj _) (bK (bT (az au))));refine ⟨fp,a1,a2,λz hz=>?_,λz o e=>a4 z o (h6 z o e) λy=>by rw [y] at e; exact bo AD e⟩;rcases a3 z hz with w | w
   ·exact ae w AD
   ·cases e:C z with
    | none=>rfl
    | some o=>exact bo w (h6 z o e)
end
section
theorem zV (a b:Iv) (h:iq a b=true):iq b a=false :=
 decide_eq_false (sJ (of_decide_eq_true h) λh=>sJ h λh=>Int.not_lt.mpr (Int.le_of_lt h))
theorem xf (a b c:Iv) (h:iq b a=false) (h':iq c b=false):iq c a=false :=
 decide_eq_false (oT (of_decide_eq_false h) (of_decide_eq_false h') λx y=>oT x y λx y=>GZ y x)
theorem G4 (ivs:List Iv):lQ λi j=>iq (ivs.getD i (0,0,0)) (ivs.getD j (0,0,0)):=⟨λz9 z8=>zV _ _,λz9 z8 z7=>xf _ _ _⟩
noncomputable def dM (l:List Iv):Prop:=l.Pairwise λa b=>iq b a=false
theorem kN:∀ {l:List Iv},l.length < 2->dM l
 | [],_=>.nil
 | [a],_=>List.pairwise_singleton _ _
 | _::_::_,h=>by simp only [List.length_cons] at h; omega
theorem wX {C:Led}{as:List Addr}{ivs:List Iv} (h:aP C as ivs) {v:Value} (hv:v∈as.map Value.ref):∃ a iv,v=.ref a∧b_ C a iv:=by
 induction h with
 | nil=>cases hv
 | cons a _ ih =>
  rcases List.mem_cons.mp hv with rfl | hv
  ·exact ⟨_,_,rfl,a⟩
  ·exact ih hv
theorem rS {A:Around}{Qg:Heap}{L:Addr}{E:Value->Shared->Prop}{m:Loc}{env:Env}{n:Nat}{C:Led}{x:Addr}{fp:FP}{ivs:List Iv}{Q:Value->Loc->Led->Prop} (G:Gd (S2 P) n A Qg L env) (hn:8≤n) (hm:br C x fp ivs) (h6:ivs.length≤6)
  (fin:∀ D bs aK C',aK.Perm ivs->dM aK->(∀ z o,C z=some o->C' z=some o)->C D=none->cN C' D (bs.map Value.ref)->aP C' bs aK->Q (.ref D) m C'):W (S2 P) A Qg L E (call (.builtin "sorted") [.ref x]) m C Q:=by
 obtain ⟨dx,od,rl,as,hx,hd,hf,hl,dQ,aM⟩:=id hm;refine aQ (⟨n - 3,(Nat.sub_add_cancel (Qb (by decide) hn)).symm⟩:∃ k,n=k+3) λk ak=>?_; subst ak
 have hlen:(as.map Value.ref).length=ivs.length:=ae (List.length_map _) (ae dQ.len rfl);have gz:∀ E F s Q,Rel (S2 P) Qg L m C F s->(∀ s',Rel (S2 P) Qg L m C F s'->Q (as.map Value.ref) s')->wpAny (model (S2 P).prog (S2 P).w) A.in1 (collect (.ref x)) Q E s:=λE F s Q R hQ =>
  mV (n:=k) (rl:=rl) G.in1 R hx hd jt (λC' hC=>(ju (hC _ _ hx) (hC _ _ hd) hf (hl.imp λz9 e=>hC _ _ e)).le (Qd λq=>Ql (Qa hn q))) oX
   (λC' hC=>((oV (hm.keep (fp':=λz9=>0) (aq.of_sub hC) (λz9 z8=>rfl)) (Qb h6 (Nat.le_add_left 6 999994))).le (Qd λq=>Ql (Qa hn q))).mono λr cf q=>by exact ae hlen q) hl (Qd λq=>Ql (Qa h6 (Qa (Qc hlen) q))) hQ
 by_cases h2:ivs.length < 2
 ·refine iV (vs:=as.map Value.ref) (Nat.lt_of_not_le λq=>Ql (Qa (Qc hlen) (Qa (Qf h2) q))) gz λD kk C' hC hD=>?_;have aX:∀ z o,C z=some o->upd C' D (listOf (as.map Value.ref).toArray kk) z=some o:=λz o e=>aB hD z o (hC z o e)
  refine fin D as ivs _ (List.Perm.refl _) ?_ aX ?_ ⟨kk,af _ _ _⟩ (dQ.keep (fp:=λz9=>0) (aq.of_sub aX))
  ·exact kN h2
  ·exact More.of_sub hC D hD
 ·refine Bt (vs:=as.map Value.ref) (T:=.ref 279) (G4 ivs) (Qd λq=>Ql (Qa (Qc (Eq.symm hlen)) (Qa (Qd h2) q))) (Qd λq=>Ql (Qa h6 (Qa (Qc hlen) q))) gz (λM C' F s hC R v hv=>?_) (by rfl) (λi j C' F s Q hi hj hC R hQ=>?_) λD p kk C' hp hr hC hD=>?_
  ·refine bg (wX dQ hv) λa iv ak ha=>?_; subst ak
   exact qB (ha.keep (fp:=λz9=>0) (aq.of_sub hC)) M F s R
  ·refine aF (dQ.getD (i:=i) (Nat.lt_of_not_le λq=>Ql (Qa (Qc hlen) (Qa (Qf hi) q)))) λa ea ha=>?_;refine aF (dQ.getD (i:=j) (Nat.lt_of_not_le λq=>Ql (Qa (Qc hlen) (Qa (Qf hj) q)))) λb eb hb=>?_
   have W_:=ha.keep (fp:=λz9=>0) (aq.of_sub hC);have fC:=hb.keep (fp:=λz9=>0) (aq.of_sub hC);refine ae ea (ae eb ?_);obtain ⟨da,oa,Pc,Pb,Pa,ha1,ha2,ha3⟩:=id W_;have G2:=G.in1.in1;refine aS (fB (S:=S2 P) Fl) λq1 q2=>?_;refine kas_lt_inst (by have:=G2.u; exact Nat.lt_of_not_le λq=>Ql (Qa hn (Qa (Qf this) q))) R.fr G.X (ew R ha1 ha2) q1 q2 ?_
   refine fZ G2 ((zU W_ fC).le (Qd λq=>Ql (Qa hn q))) R λv cf s' R' q=>?_;obtain ⟨rfl,q⟩:=q
   exact hQ cf s' q R'
  ·have aX:∀ z o,C z=some o->upd C' D (listOf (p.map λi=>(as.map Value.ref).getD i .none).toArray kk) z=some o:=λz o e=>aB hD z o (hC z o e)
   rw [hlen] at hp;refine aF (dQ.pick (p:=p) λi hi=>List.mem_range.mp (hp.mem_iff.mp hi)) λbs e1 e2=>?_;rw [e1] at aX ⊢
   refine fin D bs _ _ (l0 _ _ hp) ?_ aX (More.of_sub hC D hD) ⟨kk,af _ _ _⟩ (e2.keep (fp:=λz9=>0) (aq.of_sub aX));exact List.Pairwise.map _ (λz9 z8 h=>h) hr
end
section
theorem GC:recIn (KK P) 318 "classmethod"=some [.ref 316,.bool false]:=by kernel_rfl
theorem DL:recIn (KK P) 308 "classmethod"=some [.ref 306,.bool false]:=by kernel_rfl
theorem IS:fnIn (KK P) 316=true:=by kernel_rfl
theorem Cv:fnIn (KK P) 306=true:=by kernel_rfl
theorem eA.sub {C a_ C':Led}{t:T}{r:Value} (h:eA a_ t r C') (hs:∀ z o,C z=some o->a_ z=some o):eA C t r C':=by
 obtain ⟨fp,a1,a2,a3,a4⟩:=h;exact ⟨fp,a1,a2,λz q=>More.of_sub hs z (a3 z q),λz o e=>a4 z o (hs z o e)⟩
theorem DB [jl P] {C:Led}{x:Addr}{fp:FP}{ivs:List Iv} (hm:br C x fp ivs) (h6:ivs.length≤6) (hw:∀ i∈ivs,i.1 < i.2.1) (ht:∀ l,l.Perm ivs->dM l->∃ t,cS 6 l=some t) :
  Spec (S2 P) 201 (.ref 316) [.ref 491,.ref x] [] C λr C'=>∃ l t,l.Perm ivs∧dM l∧cS 6 l=some t∧eA C t r C':=by
 refine' ax (n:=200) (binds:=[("cls",.ref 491),("intervals",.ref x)]) ?ho ?hb ?hp ?_;walk_at "D";walk_at "r";refine d8 G hm (Qb h6 (Nat.le_add_left 6 999994)) ?_;by_cases bS:ivs=[]
 ·subst bS;refine cq rfl ?_;walk_at "r";exact ⟨[],.nil,.refl _,.nil,rfl,λz9=>0,⟨rfl,λz9=>rfl⟩,λz9=>Nat.zero_le _,λz9 h=>absurd rfl h,λz9 z8 e=>e⟩
 ·refine mN ?_;rw [show (!(!ivs.isEmpty))=false by cases ivs with | nil=>exact absurd rfl bS | cons _ _=>rfl];refine bN (by decide) ?_;walk_at "r";refine dW G DJ DE DF DK yC (λq hq=>?_);refine eU G Cu (af _ _ _) ?_ rfl rfl;have s0:=aB (o:=methodObj (.ref 326) (.ref 491)) hq;walk_at "r";refine rS G (Qe rfl) (hm.keep (fp':=λz9=>0) (aq.of_sub s0) λz9 z8=>rfl) h6 λD bs l C' hp hs hC hD hl hi=>?_;walk_at "r"
  have WE:l.length=ivs.length:=hp.length_eq;refine aQ (ht l hp hs) λt ht=>?_;refine ⟨hC _ _ (af _ _ _),_,(DA 6 C' D bs l hl hi (Qd λq=>Ql (Qa h6 (Qa (Qc WE) q))) (Qd λq=>Ql (Qa h6 (Qa (Qc WE) q))) (λi hi=>hw i (hp.mem_iff.mp hi)) t ht).le (Qe rfl),λv cf z=>?_⟩
  walk_at "r";exact ⟨l,t,hp,hs,ht,z.sub λz o e=>hC z o (s0 z o e)⟩
end
section
noncomputable def T.ht:T->Nat
 | .nil=>0
 | .node _ _ l r _ _=>1+max l.ht r.ht
noncomputable def T.size:T->Nat
 | .nil=>0
 | .node _ ms l r _ _=>ms.length+l.size+r.size
noncomputable def dh (ms:List Iv):T->List Iv
 | .nil=>ms
 | .node _ s l r _ _=>dh (dh (aH ms s) l) r
theorem gH:∀ (t:T) (ms:List Iv),(dh ms t).length≤ms.length+t.size
 | .nil,ms=>Nat.le_refl _
 | .node _ s l r _ _,ms=>by
  have h1:=gr ms s;have h2:=gH l (aH ms s);have h3:=gH r (dh (aH ms s) l);show (dh (dh (aH ms s) l) r).length≤ms.length+(s.length+l.size+r.size);exact Qd λq=>Ql (Qa h1 (Qa h2 (Qa h3 q)))
theorem Own.apart {C:Led}{fr uk fp:FP} (h:Own C fr uk) (hd:∀ z,fr z=0∨fp z=0) (ha:m9 C fp):∀ z,uk z=0∨fp z=0:=λz=>by
 by_cases q:uk z=0
 ·exact .inl q
 ·rcases h.2 z q with w | w
  ·rcases hd z with y | y
   ·exact absurd y w
   ·exact .inr y
  ·by_cases y:fp z=0
   ·exact .inr y
   ·exact absurd w (ha z y)
theorem br.fp_eq {C:Led}{x:Addr}{f1 f2:FP}{l1 l2:List Iv} (h1:br C x f1 l1) (h2:br C x f2 l2):f1=f2:=by
 obtain ⟨dx,od,rl,as,a1,a2,a3,a4,a5,a6⟩:=h1;obtain ⟨dy,oy,ry,bs,b1,b2,b3,b4,b5,b6⟩:=h2;rw [a1] at b1; cases b1;rw [a2] at b2; cases b2;have:=a3.inj b3;cases this;funext z;exact ae (a6 _) (ae (b6 _) rfl)
theorem mw:∀ (t:T) {C:Led}{v:Value}{fp:FP}{r:Addr}{fr:FP}{ms:List Iv},t.isNil=false->ah C v t fp->br C r fr ms->(∀ z,fr z=0∨fp z=0)->ms.length+t.size≤1000 →
  Spec (S2 P) (10+t.ht) (.ref 460) [v,.ref r] [] C λrv C'=>rv=.ref r∧bA C r fr (dh ms t) C'
 | .nil,_,_,_,_,_,_,h,_,_,_,_=>by exact EB h
 | .node x s l rt d b,C,v,fp,r,fr,ms,_,ht,hm,hd,hz=>by
  obtain ⟨a,da,sa,fs,vl,vr,fl,frr,tx,rfl,hn,hs,hl,hr,aM⟩:=id ht;obtain ⟨n1,od,td,tb,n2,n3⟩:=id hn;obtain ⟨ds,os,UI,ass,s1,s2,s3,s4,s5,s6⟩:=id hs;obtain ⟨dr,orr,rlr,asr,r1,r2,r3,r4,r5,r6⟩:=id hm;have jw:ms.length+(s.length+l.size+rt.size)≤1000:=hz;have e1:∀ z,fr z=0∨fs z=0:=λz=>(hd z).imp id λq=>by rw [aM] at q; exact bj (cH q (az (az (aV au))))
  have e2:∀ z,fr z=0∨fl z=0:=λz=>(hd z).imp id λq=>by rw [aM] at q; exact bj (cH q (az (aV au)))
  have e3:∀ z,fr z=0∨frr z=0:=λz=>(hd z).imp id λq=>by rw [aM] at q; exact bj (cH q (aV au))
  have e4:fr da=0:=(hd da).resolve_right λq=>by rw [aM,aj] at q; exact Ql (Qc q)
  have iG:fr UI=0:=(e1 UI).resolve_right λq=>by rw [s6,aj] at q; exact Ql (Qc q)
  refine ae (show 10+(T.node x s l rt d b).ht=9+(1+max l.ht rt.ht)+1 from by show 10+(1+max l.ht rt.ht)=_; exact (by walk_at "A")) ?_;refine' ax (n:=9+(1+max l.ht rt.ht)) (binds:=[("self",.ref a),("result",.ref r)]) ?ho ?hb ?hp ?_;walk_at "D";walk_at "st";refine W.mid (λf m' C'=>ud (f=.next) (m' "self"=some (.ref a)) (m' "result"=some (.ref r)) (bA C r fr (aH ms s) C')) (λQm qx=>?_) ?_
  ·walk_at "r";refine aE G (iQ hm (dP s1 s2 s3 s4) s4 s5 iG (Qb (by walk_at "A") jw)) (λrv C1 q=>?_);exact qx.h _ _ _ ⟨rfl,by walk_at "nm",by walk_at "nm",q.2⟩
  rintro f m C1 ⟨rfl,D_,Ov,q⟩;have L1:=gr ms s;obtain ⟨Xy,m1,o1,k1,g1⟩:=id q;have iH:=hn.keep k1 e4;have jx:=ah.keep k1 hl λz w=>(e2 z).resolve_right w
  have Ac:=ah.keep k1 hr λz w=>(e3 z).resolve_right w
  have d1:=o1.apart hd ht.alive;walk_at "st";walk_at "st";refine W.mid (λf m' C'=>ud (f=.next) (m' "self"=some (.ref a)) (m' "result"=some (.ref r)) (bA C1 r Xy (dh (aH ms s) l) C')) (λQm qx=>?_) ?_
  ·walk_at "r";refine eT G iH jx.dep.handed Ac.dep.handed ?_;refine bG G jx.dep ?_;refine ae jx.isNode ?_;cases fQ:l.isNil
   ·refine cq rfl ?_;walk_at "r";refine eT G iH jx.dep.handed Ac.dep.handed ?_;obtain ⟨al,T_,xl,sl,O4,Yg,bl,TS,RQ⟩:=jx.dep.resolve_left λw=>by
     have:=jx.isNode;rw [w.1,fQ] at this;exact mi this
    subst TS;obtain ⟨w1,ol,Yq,Yv,w2,w3⟩:=id RQ;refine fH G w1 w2 w3 (by walk_at "km") (by rfl) ?_;walk_at "r";refine aE G (mw l fQ jx m1 (λz=>(d1 z).imp id λy=>by rw [aM] at y; exact bj (cH y (az (aV au)))) (Qd λq=>Ql (Qa jw (Qa L1 q)))) (λrv C2 q2=>?_);walk_at "r";exact ⟨rfl,by walk_at "nm",by walk_at "nm",q2.2⟩
   ·refine bN (by intro e; exact mi e) ?_;walk_at "r";refine ⟨rfl,by walk_at "nm",by walk_at "nm",?_⟩;cases l with
    | nil=>exact bA.refl m1
    | node _ _ _ _ _ _=>exact mi fQ
  rintro f m' C2 ⟨rfl,vX,CK,q2⟩;have L2:=gH l (aH ms s);obtain ⟨fr2,m2,o2,k2,g2⟩:=id q2;have jd:=iH.keep k2 ((d1 da).resolve_right λq=>by rw [aM,aj] at q; exact Ql (Qc q));have lz:=ah.keep k2 jx λz w=>(d1 z).resolve_right λy=>w (by rw [aM] at y; exact bj (cH y (az (aV au))))
  have xn:=ah.keep k2 Ac λz w=>(d1 z).resolve_right λy=>w (by rw [aM] at y; exact bj (cH y (aV au)))
  have d2:=o2.apart d1 (ht.alive.more g1);walk_at "st";walk_at "st";refine W.mid (λf m' C'=>ud (f=.next) (m' "self"=some (.ref a)) (m' "result"=some (.ref r)) (bA C2 r fr2 (dh (dh (aH ms s) l) rt) C')) (λQm qx=>?_) ?_
  ·walk_at "r";refine gB G jd lz.dep.handed xn.dep.handed ?_;refine bG G xn.dep ?_;refine ae xn.isNode ?_;cases fQ:rt.isNil
   ·refine cq rfl ?_;walk_at "r";refine gB G jd lz.dep.handed xn.dep.handed ?_;obtain ⟨al,T_,xl,sl,O4,Yg,bl,TS,RQ⟩:=xn.dep.resolve_left λw=>by
     have:=xn.isNode;rw [w.1,fQ] at this;exact mi this
    subst TS;obtain ⟨w1,ol,Yq,Yv,w2,w3⟩:=id RQ;refine fH G w1 w2 w3 (by walk_at "km") (by rfl) ?_;walk_at "r";refine aE G (mw rt fQ xn m2 (λz=>(d2 z).imp id λy=>by rw [aM] at y; exact bj (cH y (aV au))) (Qd λq=>Ql (Qa jw (Qa L1 (Qa L2 q))))) (λrv C3 q3=>?_);walk_at "r";exact ⟨rfl,by walk_at "nm",by walk_at "nm",q3.2⟩
   ·refine bN (by intro e; exact mi e) ?_;walk_at "r";refine ⟨rfl,by walk_at "nm",by walk_at "nm",?_⟩;cases rt with
    | nil=>exact bA.refl m2
    | node _ _ _ _ _ _=>exact mi fQ
  rintro f m3 C3 ⟨rfl,I4,RI,q3⟩;walk_at "r";have inj:∀ {D:Led}{f1 f2:FP}{l1 l2:List Iv},br D r f1 l1->br D r f2 l2->f1=f2:=λ{D f1 f2 l1 l2} h1 h2=>h1.fp_eq h2
  refine ⟨rfl,q.trans λf1 hf1=>?_⟩;refine ae (hf1.fp_eq m1) ?_;refine q2.trans λf2 Eh=>?_;exact ae (Eh.fp_eq m2) q3
end
section
theorem AF {C:Led}{v:Value}{t:T}{fp:FP} (bS:t.isNil=false) (ht:ah C v t fp) (hz:t.size≤1000):Spec (S2 P) (12+t.ht) (.ref 453) [v] [] C (gu C (dh [] t)):=by
 obtain ⟨a,da,xv,s,vl,vr,b,rfl,hn⟩:=ht.dep.resolve_left λw=>by
  have:=ht.isNode;rw [w.1,bS] at this;exact mi this
 obtain ⟨n1,od,td,tb,n2,n3⟩:=id hn;refine ae (show 12+t.ht=(11+t.ht)+1 from by exact (by walk_at "A")) ?_;refine' ax (n:=11+t.ht) (binds:=[("self",.ref a)]) ?ho ?hb ?hp ?_;walk_at "D";walk_at "r";refine aE G oR (λr C1 q=>?_);obtain ⟨x,fx,rfl,hx,hm,M6,hs⟩:=q;have k1:aq (λz9=>0) C C1:=aq.of_sub hs;have Mc:=ah.keep k1 ht λz9 z8=>rfl
 have hd:∀ z,fx z=0∨fp z=0:=λz=>by
  by_cases q:fx z=0
  ·exact .inl q
  ·by_cases y:fp z=0
   ·exact .inr y
   ·exact absurd (M6 z q) (ht.alive z y)
 walk_at "r";refine aE G (mw t bS Mc hm hd (by simpa using hz)) (λr C2 q=>?_);refine aS q λak aZ=>?_; clear q; subst ak; obtain ⟨fx',m2,o2,k2,g2⟩:=aZ
 walk_at "r";refine ⟨x,fx',rfl,hx,m2,λz q=>?_,λz o e=>k2 z o (hs z o e) (.inr ?_)⟩
 ·rcases o2.2 z q with w | w
  ·exact M6 z w
  ·exact More.of_sub hs z w
 ·by_cases q:fx z=0
  ·exact q
  ·exact bo (M6 z q) e
end
section
theorem pL {P:e_}{C:Led}{x v:Addr}{fp:FP}{ivs:List Iv}{iv:Iv} (hm:br C x fp ivs) (hv:b_ C v iv) (tK:∀ a,P.tb a=false∧P.cd a=none):HH (S2 P) 5 (.ref 65) [.ref x,.ref v] C λr C'=>r=.bool (decide (iv∈ivs))∧C'=C:=by
 walk_at "bh";obtain ⟨dx,od,rl,as,hx,bC,hf,hl,dQ,aM⟩:=hm;walk_at "ch";refine' yS (n:=4) (binds:=[("self",.ref x),("member",.ref v)]) ?ho ?hb ?hp ?_ tK;walk_at "D";walk_at "r";refine bO hl (λa ha=>?_);refine bX (vs:=as.map Value.ref) G ha (λrest m C'=>C'=C∧m "member"=some (.ref v)∧∃ bV aK,rest=bV.map Value.ref∧aP C bV aK∧decide (iv∈ivs)=decide (iv∈aK)) ?_ ?_ ?_ ?_
 ·rintro rest m C' ⟨rfl,-⟩; exact hl
 ·exact ⟨rfl,rfl,as,ivs,rfl,dQ,rfl⟩
 ·intro E u rest m C' _ q0 J hJ;refine bw q0 λak hm aZ=>?_; clear q0; refine bx aZ λbV aK hr hi hd=>?_; clear aZ; subst ak
  cases hi with
  | nil=>injection hr
  | @cons b jv bs gv hb gR =>
   simp only [List.map_cons,List.cons.injEq] at hr;refine aS hr λak aZ=>?_; clear hr; subst ak; subst aZ
   walk_at "r";refine r0 G hb hv ?_;walk_at "r";refine cB (λh=>?_) (λh=>?_)
   ·walk_at "r";simp only [decide_eq_true_eq] at h;subst h;exact ⟨by refine ae hd ?_; simp [gf],rfl⟩
   ·walk_at "r";simp only [decide_eq_true_eq] at h;refine ⟨rfl,by walk_at "nm",bs,gv,rfl,gR,?_⟩;refine ae hd ?_;have:iv≠jv:=λe=>h e.symm
    simp [this]
 ·intro E m C' q0;refine bw q0 λak hm aZ=>?_; clear q0; refine bx aZ λbV aK hr hi hd=>?_; clear aZ; subst ak
  cases hi with
  | cons _ _=>injection hr
  | nil =>
   walk_at "r";exact ⟨by refine ae hd ?_; simp [gf],rfl⟩
theorem jU {o:Obj}{ps:Array Value} (h:o.data=.fields ps):¬ yF o:=by
 rintro (⟨iv,tb,te,td,h'⟩ | ⟨-,-,h'⟩)
 ·refine bg h' λes n ak z9=>?_; clear h'; subst ak
  injection h
 ·exact h' ps h
noncomputable def less (C:Led) (P:Addr):Led:=λa=>if a=P then none else C a
theorem qS {C:Led}{P:Addr} (h:dZ C P):aq (one P) C (less C P):=λa o e w=>by
 by_cases q:a=P
 ·subst q;refine bx h λo' ps e' hd z9=>?_; clear h
  replace e:=eG e' e; replace e:=Eq.symm e; subst e;rcases w with w | w
  ·exact absurd w (jU hd)
  ·rw [aj] at w; injection w
 ·exact (if_neg q).trans e
theorem qR {C:Led}{P a:Addr}{o:Obj} (h:less C P a=some o):a≠P∧C a=some o:=by
 unfold less at h;split at h
 ·exact iO h
 ·exact ⟨by assumption,h⟩
theorem dZ.keep {fp:FP}{C C':Led}{P:Addr} (h:dZ C P) (k:aq fp C C') (hf:fp P=0):dZ C' P:=by
 refine bx h λo ps e hd ht=>?_; clear h
 exact ⟨o,ps,k _ _ e (.inr hf),hd,ht⟩
theorem br.off {C:Led}{P x:Addr}{fp:FP}{ivs:List Iv} (h:br C x fp ivs) (ht:dZ C P):fp P=0:=by
 walk_at "bh";obtain ⟨dx,od,rl,as,h1,h2,h3,⟨k,h4⟩,h5,h6⟩:=h;walk_at "ch";refine bx ht λo ps e hd z9=>?_; clear ht
 rw [h6,aG (λq=>?_),aG (λq=>?_)]
 ·rw [q,h4] at e;replace e:=Option.some.inj e; subst e;injection hd
 ·rw [q,h2] at e;replace e:=Option.some.inj e; subst e;refine bg h3 λes n ak z9=>?_; clear h3; subst ak
  injection hd
theorem HR:codeHdIn (KK P) 71 67=true:=by kernel_rfl
theorem all_range (ys:List Iv):∀ xs:List Iv,((List.range xs.length).all λi=>decide (xs.getD i (0,0,0)∈ys))=xs.all λi=>decide (i∈ys)
 | []=>rfl
 | a::xs=>by
  refine ae List.length_cons (ae List.range_succ_eq_map (ae List.all_cons (ae List.all_map (ae List.all_cons (eI (all_range ys xs) ?_)))));rfl
noncomputable def atP (P:e_) (s:Shared):e_:={ P with tb:=λz9=>false,cd:=λz9=>none,os:=s.os,dr:=s.drawn,gn:=λg=>g=s.gens }
theorem Gz {C:Led}{x y:Addr}{fx fy:FP}{xs ys:List Iv} (jZ:P.gn=AllBare) (hm:br C x fx xs) (hy:br C y fy ys) (ht:dZ C 67) (hz:xs.length≤1000) (uf:ys.length≤1000) :
  Spec (S2 P) 21 (.ref 72) [.ref x,.ref y] [] C λr C'=>ud (r=.bool (decide (xs.length=ys.length) && xs.all λi=>decide (i∈ys))) (dZ C' 67) (aq (one 67) C C') (More C C'):=by
 walk_at "bh";obtain ⟨dx,ox,rx,as,ug,tH,D9,Rl,Oh,hx6⟩:=id hm;walk_at "ch";walk_at "bh";obtain ⟨dy,oy,ry,bs,Kl,L0,LZ,hy4,hy5,hy6⟩:=id hy;walk_at "ch";refine' eB (n:=20) (binds:=[("self",.ref x),("other",.ref y)]) ?ho ?hb ?hp ?_
 case ho=>exact rfl
 case hb=>exact λs z9=>BindsTo.of_eq rfl
 case hp=>exact rfl
 intro A Qg L E a_ G aX cF Qp et;obtain ⟨pY,oc,hc,iJ⟩:C (L+1)=none∧∃ o,a_ (L+1)=some o∧o.data=.cell (some (.ref y)):=cF "other" (L+1) rfl;have k1:aq (λz9=>0) C a_:=aq.of_sub aX;have Ri:=hy.keep k1 λz9 z8=>rfl
 have mP:=ht.keep k1 rfl;have Rk:=Oh.keep k1;have a1:=aX _ _ ug;have a2:=aX _ _ tH;have b1:=aX _ _ Kl;have b2:=aX _ _ L0;have a4:cN a_ rx (as.map Value.ref):=Rl.imp λk hk=>aX _ _ hk
 have hlen:(as.map Value.ref).length=xs.length:=ae (List.length_map _) (ae Oh.len rfl);have So:rx≠67:=λq=>by
  walk_at "bh";obtain ⟨o,ps,e,hd,-⟩:=mP;walk_at "ch";obtain ⟨k,hk⟩:=a4;rw [q] at hk; replace hk:=eG e hk; subst hk; injection hd
 have S7:L+1≠67:=λq=>by
  walk_at "bh";obtain ⟨o,ps,e,hd,-⟩:=mP;walk_at "ch";rw [q,e] at hc; cases hc; rw [hd] at iJ; cases iJ
 walk_at "st";walk_at "st";refine uT (oK ?_);walk_at "r";refine dU a4 (Nat.lt_of_not_le λq=>Ql (Qa hz (Qa (Qc hlen) q))) (λt=>?_);walk_at "r";refine qL (n:=19) (R:=λC'=>C'=a_) G b1 b2 oX (Nat.lt_of_le_of_lt uf (Nat.le_add_left (Nat.succ 1000) 9223372036854774807)) ((oV Ri (Qb uf (Nat.le_add_left 1000 999000))).le (Qe rfl)) (λt' C' e=>?_);obtain rfl:a_=C':=e.symm;clear e;walk_at "r";rw [hlen];by_cases hq:xs.length=ys.length
 ·refine cq (by simp [hq]) ?_;walk_at "st";walk_at "st";walk_at "st";have Rh:=Ri.keep (qS mP) (λz w=>aG λq=>w (by exact ae q (Ri.off mP)));refine zo (l:=rx) (vs:=as.map Value.ref) (tr:=λi=>decide (xs.getD i (0,0,0)∈ys)) G rfl HR mP Dx (by decide) ⟨_,rfl⟩ rfl rfl (by decide) rfl rfl rfl (by have:=G.d; exact Nat.lt_of_lt_of_le (by walk_at "A") (Qf this)) ?_ a4 So (λA' E' i v cG Qh Lg code hA hd hu hv vA jY G5=>?_) jZ (λC' tN tJ=>?_)
  ·walk_at "r";exact ⟨rfl,rfl,rfl⟩
  ·rw [List.getElem?_map] at hv;refine aF (Option.map_eq_some_iff.mp hv) λb hb hbv=>?_;subst hbv
   have hi:i < xs.length:=by
    by_cases w:i < as.length
    ·exact eI Oh.len w
    ·exact bo (List.getElem?_eq_none (Nat.le_of_lt_succ (Nat.lt_of_not_le w))) hb
   refine aF (Rk.getD hi) λb' e1 hbi=>?_;have e2:b'=b:=by
    rw [List.getD_eq_getElem?_getD,List.getElem?_map,hb] at e1;exact (Value.ref.inj e1).symm
   subst e2;refine wpAny_Compare1 (wpAny_Name (wpAny_loadName_local rfl rfl vA jY (wpAny_Name (wpAny_loadName_free (c:=L+1) rfl rfl rfl ⟨oc,(G5.c _ _ S7 hc).1,iJ⟩ ?_ (by decide)) (by decide))) (by decide)) (by rfl);have X7:y≠67:=λq=>by
    refine bx mP λo ps e gy z9=>?_; clear mP
    rw [q] at b1; replace b1:=eG e b1; subst b1; injection gy
   have TX:dy≠67:=λq=>by
    refine bx mP λo ps e gy z9=>?_; clear mP
    rw [q] at b2; replace b2:=eG e b2; replace b2:=Eq.symm b2; subst b2;refine bg LZ λes nn ak z9=>?_; clear LZ; subst ak
    injection gy
   refine aS (fB (S:=S2 P) gE) λq1 q2=>?_;refine in_K (od:=some oy) ⟨vA,G5.k,G5.a⟩ G.X ⟨(G5.c _ _ X7 b1).1,rfl,rfl,(G5.c _ _ TX b2).1⟩ q1 q2 ?_
   have Tf:=hbi.keep (qS mP);have dd:=G.d;have uu:=G.u;refine wpAny_call (codeAny_mono (pL (P:=atP P cG) Rh Tf (λz9=>⟨rfl,rfl⟩) A' cG Qg G.X G.T G5.k (Nat.lt_of_not_le λq=>Ql (Qa hd (Qa (Qf dd) q))) (Nat.lt_of_not_le λq=>Ql (Qa hu (Qa (Qf uu) q))) hA (λa o e=>?_) rfl ⟨rfl,rfl⟩) λr s' z=>?_)
   ·refine aS (qR e) λw1 w2=>?_;have:=G5.c a o w1 w2
    exact ⟨this.1,this.2.1⟩
   ·rcases r with e | (_ | _ | _ | v) <;> first | exact z.elim | skip
    refine cW z λC' ak z1 z2 z3 z4 z5=>?_; clear z; obtain ⟨rfl,rfl⟩:=ak
    refine wpAny_truthy_bool ⟨rfl,s'.heap,s'.toks,?_,λb o e=>?_⟩
    ·walk_at "bh";obtain ⟨hh,g,d,t,os⟩:=s';walk_at "ch";have e1:g=cG.gens:=z3;have e2:os=cG.os:=z4;have e3:d=cG.drawn:=z5;subst e1 e2 e3;rfl
    ·cases w:less a_ 67 b with
     | none=>exact z2 b o e w
     | some o' =>
      have y1:=z1 b o' w;have y2:=qR w;have y3:=(G5.c b o' y2.1 y2.2).1;rw [e] at y3;replace y3:=Option.some.inj y3; subst y3;exact y1
  ·walk_at "r";have lu:∀ a o,C a=some o->a≠67->C' a=some o:=λa o e w=>(tN a w).trans (aX a o e)
   refine ⟨?_,tJ,λa o e w=>lu a o e λq=>?_,λz w=>?_⟩
   ·show Value.bool _=_;refine ae (show decide (xs.length=ys.length)=true by simp [hq]) (ae (Bool.true_and _) (ae hlen ?_));congr 1;exact all_range ys xs
   ·subst q;refine bx ht λo' ps e' gy z9=>?_; clear ht
    replace e:=eG e' e; replace e:=Eq.symm e; subst e;rcases w with w | w
    ·exact jU gy w
    ·rw [aj] at w; injection w
   ·by_cases q:z=67
    ·refine bg tJ λo' ps e' z9=>?_; clear tJ
     rw [q] at w; exact bo w e'
    ·rw [tN z q] at w;exact More.of_sub aX z w
 ·refine bN (by simp; omega) ?_;walk_at "r";refine ⟨?_,mP,aq.of_sub aX,More.of_sub aX⟩;show Value.bool _=_;refine ae (show decide (xs.length=ys.length)=false by simp [hq]) (ae (Bool.false_and _) ?_);congr 1;simp; omega
end
section
theorem eW {C:Led}{d:Addr}{kvs:List (Int×Value)} (h:d6 (S2 P) C d kvs):∀ o,C d=some o->¬ yF o:=by
 refine ck h λz9 o ho aZ=>?_; clear h; refine dB aZ λes ep gw=>?_; clear aZ; refine d9 gw λak pC hk hp hn=>?_; clear gw; obtain ⟨ug,tH,D9⟩:=ak
 intro o' e;replace e:=eG ho e; subst e;rintro (⟨iv,tb,te,td,h'⟩ | ⟨h',-⟩)
 ·refine bg h' λes' n ak he=>?_; clear h'; subst ak
  have e1:es=es'.toArray:=by
   have:Data.dict es'.toArray n=Data.dict es ep:=pC;refine aS (PySem.Data.dict.inj this) λkE j0=>?_; clear this; subst kE; replace j0:=Eq.symm j0; subst j0; rfl
  subst e1;cases es' with
  | nil=>injection he
  | cons e0 er =>
   simp only [List.map_cons,List.cons.injEq,Prod.mk.injEq] at he;have nN:=he.1.1;cases hp with
   | cons hi _ _ =>
    have MW:∃ s t,e0.key=.str s t:=by
     unfold keyOf at nN;split at nN
     ·exact ⟨_,_,by assumption⟩
     ·exact iO nN
    refine dB MW λs t hs=>?_; clear MW
    rw [hs] at hi;exact absurd hi (by simp [intKind,Value.isInt])
 ·refine h' ⟨es.toList,ep,?_⟩;walk_at "bh";obtain ⟨c,dd,dt,sl⟩:=o;walk_at "ch";simp only at ug tH D9 pC;subst ug tH D9 pC;simp
theorem cV {A:Around}{Qg:Heap}{L:Addr}{E:Value->Shared->Prop}{m:Loc}{C:Led}{d:Addr}{ps:List (Int×Int)}{k c:Int}{t t':Tok}{Q:Unit->Loc->Led->Prop} (hd:dn (S2 P) C d ps) (hz:ps.length≤1000) (hc:c=(bt ps k).getD 0+1)
  (h:∀ C',(∃ o,C'=upd C d o)->dn (S2 P) C' d (bump ps k)->Q () m C'):W (S2 P) A Qg L E (setItem (.ref d) (.int k t) (.int c t')) m C Q:=by
 refine aF hd λkvs h1 h2=>?_; clear hd
 have:=h2.len;refine lY h1 (Qd λq=>Ql (Qa hz (Qa (Qc this) q))) λC' ho gy=>h C' ho ⟨_,gy,?_⟩
 subst hc;exact h2.stored k _ t'
theorem rA {C:Led}{x dx d v:Addr}{od:Obj}{va vt:Value}{ps:List (Int×Int)}{iv:Iv} (hx:C x=some (instObj 857 dx)) (bC:C dx=some od) (hf:dk od [("all_intervals",va),("top_node",vt),("boundary_table",.ref d)]) (bS:dx≠d) (hd:dn (S2 P) C d ps) (hv:b_ C v iv) (hz:ps.length≤900) :
  Spec (S2 P) 2 (.ref 542) [.ref x,.ref v] [] C λr C'=>r=.none∧(∃ o,C'=upd C d o)∧dn (S2 P) C' d (bump (bump ps iv.1) iv.2.1):=by
 walk_at "bh";obtain ⟨dv,ov,t1,t2,t3,vq,yk,I1⟩:=id hv;walk_at "ch";refine aF hd λkvs iP kI=>?_;have FG:x≠d:=λq=>eW iP _ (q▸hx) (cE _ _)
 refine' ax (n:=1) (binds:=[("self",.ref x),("interval",.ref v)]) ?ho ?hb ?hp ?_;walk_at "D";walk_at "r";refine iX iP ?_;walk_at "r";rcases kI.at iv.1 with ⟨v1,v2⟩ | ⟨c,t,v1,v2⟩
 ·refine ae v1 ?_;refine bN (by decide) ?_;walk_at "r";refine cV hd (Qb hz (Nat.le_add_left 900 100)) (by refine ae v2 ?_; rfl) (λC1 ⟨o1,e1⟩ lS=>?_);have q1:C1 x=some (instObj 857 dx):=by refine ae e1 (ae (ag _ _ FG) ?_); exact hx
  have q2:C1 dx=some od:=by refine ae e1 (ae (ag _ _ bS) ?_); exact bC
  have hb:=kO ps iv.1 ((bt ps iv.1).getD 0+1);have fC:(bump ps iv.1).length≤ps.length+1:=hb;refine aF lS λCd CX Jm=>?_;walk_at "r"
  refine iX CX ?_;walk_at "r";rcases Jm.at iv.2.1 with ⟨w1,w2⟩ | ⟨c',t',w1,w2⟩
  ·refine ae w1 ?_;refine bN (by decide) ?_;walk_at "r";refine cV lS (Qd λq=>Ql (Qa hz (Qa fC q))) (by refine ae w2 ?_; rfl) (λC2 ⟨o2,e2⟩ hd2=>?_);walk_at "r";exact ⟨rfl,⟨o2,by refine ae e2 (ae e1 ?_); exact cQ⟩,hd2⟩
  ·refine ae w1 ?_;refine cq rfl ?_;walk_at "r";refine fj CX w1 ?_;walk_at "r";refine oF (λt4=>?_);walk_at "r";refine cV lS (Qd λq=>Ql (Qa hz (Qa fC q))) (by refine ae w2 ?_; rfl) (λC2 ⟨o2,e2⟩ hd2=>?_);walk_at "r";exact ⟨rfl,⟨o2,by refine ae e2 (ae e1 ?_); exact cQ⟩,hd2⟩
 ·refine ae v1 ?_;refine cq rfl ?_;walk_at "r";refine fj iP v1 ?_;walk_at "r";refine oF (λt4=>?_);walk_at "r";refine cV hd (Qb hz (Nat.le_add_left 900 100)) (by refine ae v2 ?_; rfl) (λC1 ⟨o1,e1⟩ lS=>?_);have q1:C1 x=some (instObj 857 dx):=by refine ae e1 (ae (ag _ _ FG) ?_); exact hx
  have q2:C1 dx=some od:=by refine ae e1 (ae (ag _ _ bS) ?_); exact bC
  have hb:=kO ps iv.1 ((bt ps iv.1).getD 0+1);have fC:(bump ps iv.1).length≤ps.length+1:=hb;refine aF lS λCd CX Jm=>?_;walk_at "r"
  refine iX CX ?_;walk_at "r";rcases Jm.at iv.2.1 with ⟨w1,w2⟩ | ⟨c',t',w1,w2⟩
  ·refine ae w1 ?_;refine bN (by decide) ?_;walk_at "r";refine cV lS (Qd λq=>Ql (Qa hz (Qa fC q))) (by refine ae w2 ?_; rfl) (λC2 ⟨o2,e2⟩ hd2=>?_);walk_at "r";exact ⟨rfl,⟨o2,by refine ae e2 (ae e1 ?_); exact cQ⟩,hd2⟩
  ·refine ae w1 ?_;refine cq rfl ?_;walk_at "r";refine fj CX w1 ?_;walk_at "r";refine oF (λt4=>?_);walk_at "r";refine cV lS (Qd λq=>Ql (Qa hz (Qa fC q))) (by refine ae w2 ?_; rfl) (λC2 ⟨o2,e2⟩ hd2=>?_);walk_at "r";exact ⟨rfl,⟨o2,by refine ae e2 (ae e1 ?_); exact cQ⟩,hd2⟩
end
section
theorem wk {C:Led}{x dx a da rl:Addr}{od oa:Obj}{vt vb:Value}{vs:List Value} (hx:C x=some (instObj 857 dx)) (bC:C dx=some od) (hf:dk od [("all_intervals",.ref a),("top_node",vt),("boundary_table",vb)])
  (ha:C a=some (instObj 122 da)) (iI:C da=some oa) (Kx:dk oa [("rows",.ref rl)]) (hl:cN C rl vs) :
  Spec (S2 P) 5 (.ref 840) [.ref x] [] C λr C'=>∃ b,r=.ref b∧C b=none∧C'=upd C b (lit rl 0):=by
 refine' ax (n:=4) (binds:=[("self",.ref x)]) ?ho ?hb ?hp ?_;walk_at "D";walk_at "r";refine wF (n:=3) (vs:=vs) G ha iI jt (ju ha iI Kx hl) (λb hb=>?_);walk_at "r";exact ⟨b,rfl,hb,rfl⟩
theorem ir {C:Led}{x dx a da rl:Addr}{od oa:Obj}{vt vb:Value}{vs:List Value} (hx:C x=some (instObj 857 dx)) (bC:C dx=some od) (hf:dk od [("all_intervals",.ref a),("top_node",vt),("boundary_table",vb)])
  (ha:C a=some (instObj 122 da)) (iI:C da=some oa) (Kx:dk oa [("rows",.ref rl)]) (hl:cN C rl vs) {n:Nat}{A:Around}{Qg:Heap}{L:Addr}{E:Value->Shared->Prop}{m:Loc}{env:Env}{Q:Value->Loc->Led->Prop} (G:Gd (S2 P) n A Qg L env) (hn:5≤n)
  (h:∀ b,C b=none->Q (.ref b) m (upd C b (lit rl 0))):W (S2 P) A Qg L E (pyIter (.ref x)) m C Q :=
 fV (vs:=vs) G hx bC zH ((wk hx bC hf ha iI Kx hl).le hn) h
end
section
inductive g9 (P:e_) (C:Led) (x:Addr) (fp:FP) (ivs:List Iv) (t:T) (ps:List (Int×Int)):Prop
 | mk:∀ dx od a fa v ft d,C x=some (instObj 857 dx)->C dx=some od->dk od [("all_intervals",.ref a),("top_node",v),("boundary_table",.ref d)]->br C a fa ivs->ah C v t ft->dn (S2 P) C d ps->(∀ z,fp z=one dx z+fa z+ft z+one d z)->g9 P C x fp ivs t ps
noncomputable def bounds (ivs:List Iv):List (Int×Int):=ivs.foldl (λps iv=>bump (bump ps iv.1) iv.2.1) []
inductive yE (P:e_) (C:Led) (ivs:List Iv) (r:Value) (C':Led):Prop
 | mk:∀ x fp l t,r=.ref x->C x=none->l.Perm ivs->dM l->cS 6 l=some t->g9 P C' x fp ivs t (bounds ivs)->(∀ z,fp z≤1)->(∀ z,fp z≠0->C z=none)->(∀ a o,C a=some o->C' a=some o)->yE P C ivs r C'
theorem lG (ps:List (Int×Int)) (k:Int):(bump ps k).length≤ps.length+1:=kO _ _ _
theorem fz (ivs:List Iv):(bounds ivs).length≤2 * ivs.length:=by
 have h:∀ (ivs:List Iv) (ps:List (Int×Int)),(ivs.foldl (λps iv=>bump (bump ps iv.1) iv.2.1) ps).length≤ps.length+2 * ivs.length:=by
  intro ivs;induction ivs with
  | nil=>intro ps; simp
  | cons iv ivs ih =>
   intro ps;have h1:=ih (bump (bump ps iv.1) iv.2.1);have h2:=lG (bump ps iv.1) iv.2.1;have h3:=lG ps iv.1;simp only [List.foldl_cons,List.length_cons];exact Qd λq=>Ql (Qa h1 (Qa h2 (Qa h3 q)))
 simpa [bounds] using h ivs []
theorem wx [jl P] {C:Led}{x dx l:Addr}{ivs:List Iv}{as:List Addr} (hx:C x=none) (bC:C dx=none) (bS:x≠dx) (hl:cN C l (as.map Value.ref)) (dQ:aP C as ivs) (h6:ivs.length≤6) (qw:aH [] ivs=ivs) (hw:∀ i∈ivs,i.1 < i.2.1) (ht:∀ l,l.Perm ivs->dM l->∃ t,cS 6 l=some t) :
  Spec (S2 P) 204 (.ref 528) [.ref x,.ref l] [] (upd (upd C dx (dictOf [] 0)) x (instObj 857 dx)) λr C'=>r=.none∧yE P C ivs (.ref x) C':=by
 refine' ax (n:=203) (binds:=[("self",.ref x),("intervals",.ref l)]) ?ho ?hb ?hp ?_
 case ho=>exact rfl
 case hb=>exact λs X=>binds_K X rfl rfl rfl rfl rfl
 case hp=>exact rfl
 intro A Qg L E G Qp et;have pj:dx≠x:=Ne.symm bS;have ED:=il (o:=dictOf [] 0) (o':=instObj 857 dx) hx bC;have XZ:upd (upd C dx (dictOf [] 0)) x (instObj 857 dx) x=some (instObj 857 dx):=af _ _ _;have Ue:upd (upd C dx (dictOf [] 0)) x (instObj 857 dx) dx=some (dictOf [] 0):=(ag _ _ pj).trans (af _ _ _);generalize upd (upd C dx (dictOf [] 0)) x (instObj 857 dx)=C0 at *;have Sy:=dQ.keep (fp:=λz9=>0) (aq.of_sub ED);have MT:cN C0 l (as.map Value.ref):=hl.imp λk hk=>ED _ _ hk
 walk_at "r";refine aE G (l7 (λa_ hC=>ku (MT.imp λk hk=>hC _ _ hk)) MT Sy (Qb h6 (Nat.le_add_left 6 994))) (λr C1 q=>?_);rw [qw] at q;walk_at "bh";obtain ⟨a,fa,rfl,ha,hm,Kx,rJ⟩:=q;walk_at "ch";have XW:=rJ _ _ XZ;have XX:=rJ _ _ Ue;walk_at "bh";obtain ⟨da,oa,ra,aa,m1,m2,m3,m4,m5,m6⟩:=id hm;walk_at "ch";walk_at "r";refine dP m1 m2 m3 m4 G (Qe rfl) (λb hb=>?_);refine bX (vs:=aa.map Value.ref) G hb (λrest m C'=>ud (C'=C1) (m "self"=some (.ref x)) (m "intervals"=some (.ref a)) (∃ bV aK,rest=bV.map Value.ref∧aP C1 bV aK∧∀ i∈aK,i∈ivs)) ?_ ?_ ?_ ?_
 ·rintro rest m C' ⟨rfl,-⟩; exact m4
 ·exact ⟨rfl,by walk_at "nm",by walk_at "nm",aa,ivs,rfl,m5,λz9 h=>h⟩
 ·intro E' u rest m _ _ q0 J hJ;walk_at "bh";obtain ⟨rfl,hs,hi,bV,aK,hr,me,aX⟩:=q0;walk_at "ch";cases me with
  | nil=>injection hr
  | @cons b' jv bs gv fC gR =>
   simp only [List.map_cons,List.cons.injEq] at hr;refine aS hr λak aZ=>?_; clear hr; subst ak; subst aZ
   walk_at "bh";obtain ⟨dj,oj,EA,Ez,Ey,j1,j2,j3⟩:=id fC;walk_at "ch";walk_at "r";refine eS G (l6 fC) ?_;have:=hw jv (aX _ (.head _));walk_at "r";refine bN (by simp; exact this) ?_;walk_at "r";exact ⟨rfl,by walk_at "nm",by walk_at "nm",bs,gv,rfl,gR,λi h=>aX i (.tail _ h)⟩
 ·intro E' m C' q0;walk_at "bh";obtain ⟨e,hs,hi,-⟩:=q0;walk_at "ch";obtain rfl:C1=C':=e.symm;clear e;walk_at "r";refine eK (c:=857) (dx:=dx) G XW XX eY Ce (Qe rfl) (λo1 k1=>?_);have kp2:aq (one dx) C1 (upd C1 dx o1):=aq.refl.upd (by refine ae (aj _) ?_; decide) (λo ho=>by replace ho:=eG XX ho; subst ho; exact ig eY (by intro e; exact iO e));have vF:fa dx=0:=by
   by_cases w:fa dx=0
   ·exact w
   ·exact bo (Kx dx w) Ue
  have qZ:=hm.keep kp2 (λz w=>aG λe=>w (e▸vF));have c2x:upd C1 dx o1 x=some (instObj 857 dx):=(ag _ _ bS).trans XW;have c2d:upd C1 dx o1 dx=some o1:=af _ _ _;have D8:dk o1 [("all_intervals",.ref a)]:=k1;have uw:∀ z o,C z=some o->upd C1 dx o1 z=some o:=λz o e=>(ag _ _ λw=>by rw [w] at e; exact bo bC e).trans (rJ _ _ (ED _ _ e))
  have PS:∀ z,upd C1 dx o1 z=none->C z=none:=λz e=>More.of_sub uw z e
  generalize upd C1 dx o1=C2 at *;walk_at "r";refine dW G DJ DE DF J1 GC (λq hq=>?_);refine eU G IS (af _ _ _) ?_ rfl rfl;have s3:=aB (o:=methodObj (.ref 316) (.ref 491)) hq;have AS:=qZ.keep (fp':=λz9=>0) (aq.of_sub s3) λz9 z8=>rfl
  have c3q:upd C2 q (methodObj (.ref 316) (.ref 491)) q=some (methodObj (.ref 316) (.ref 491)):=af _ _ _;have c3x:=s3 _ _ c2x;have XU:=s3 _ _ c2d;have PR:∀ z,upd C2 q (methodObj (.ref 316) (.ref 491)) z=none->C z=none:=λz e=>PS z (More.of_sub s3 z e)
  have Pe:∀ z o,C z=some o->upd C2 q (methodObj (.ref 316) (.ref 491)) z=some o:=λz o e=>s3 z o (uw z o e)
  generalize upd C2 q (methodObj (.ref 316) (.ref 491))=C3 at *;walk_at "r";refine ⟨c3q,_,(DB AS h6 hw ht).le (Qe rfl),λvt C4 z=>?_⟩;refine cL z λls tt hp Ko KC ak=>?_; clear z; obtain ⟨ft,t1,t2,t3,s4⟩:=ak
  have MK:=AS.keep (fp':=λz9=>0) (aq.of_sub s4) λz9 z8=>rfl
  have c4x:=s4 _ _ c3x;have c4d:=s4 _ _ XU;walk_at "r";rename_i o5 k5;have z3:∀ z,ft z≠0->C3 z=none:=t3;have CB:ft dx=0:=by
   by_cases w:ft dx=0
   ·exact w
   ·exact bo (z3 dx w) XU
  have UU:aq (one dx) C4 (upd C4 dx o5):=aq.refl.upd (by refine ae (aj _) ?_; decide) (λo ho=>by replace ho:=eG c4d ho; subst ho; exact ig D8 (by intro e; exact absurd (Option.some.inj e) (by decide:("all_intervals":Str)≠"begin")));have Hg:=MK.keep UU (λz w=>aG λe=>w (e▸vF));have Wj:=ah.keep UU t1 (λz w=>aG λe=>w (e▸CB));have c5x:upd C4 dx o5 x=some (instObj 857 dx):=(ag _ _ bS).trans c4x;have Ud:upd C4 dx o5 dx=some o5:=af _ _ _;have k5':dk o5 [("all_intervals",.ref a),("top_node",vt)]:=k5;have K1:∀ z o,C z=some o->upd C4 dx o5 z=some o:=λz o e=>(ag _ _ λw=>by rw [w] at e; exact bo bC e).trans (s4 _ _ (Pe _ _ e))
  generalize upd C4 dx o5=C5 at *;refine si G (λd C6 hd ⟨od6,e6⟩ Hr=>?_);have s6:∀ z o,C5 z=some o->C6 z=some o:=λz o e=>by exact ae e6 (aB hd z o e)
  have Nb:d≠dx:=λe=>by rw [e] at hd; exact bo hd Ud
  have c6x:=s6 _ _ c5x;have c6d:=s6 _ _ Ud;walk_at "r";rename_i o7 k7;have UX:dk o7 [("all_intervals",.ref a),("top_node",vt),("boundary_table",.ref d)]:=k7;have UT:aq (one dx) C5 (upd C6 dx o7):=(aq.of_sub s6).upd (by refine ae (aj _) ?_; decide) (λo ho=>by replace ho:=eG Ud ho; subst ho; exact ig k5' (by intro e; exact absurd (Option.some.inj e) (by decide:("all_intervals":Str)≠"begin")));have Ed:=Hg.keep UT (λz w=>aG λe=>w (e▸vF));have ht7:=ah.keep UT Wj (λz w=>aG λe=>w (e▸CB));have Uc:upd C6 dx o7 x=some (instObj 857 dx):=(ag _ _ bS).trans c6x;have XT:upd C6 dx o7 dx=some o7:=af _ _ _;have pE:dn (S2 P) (upd C6 dx o7) d []:=by
   refine ck Hr λlo od ho hi=>?_; clear Hr
   exact ⟨[],⟨lo,od,(ag _ _ Nb).trans ho,hi⟩,.nil⟩
  have Pd:∀ z o,C z=some o->upd C6 dx o7 z=some o:=λz o e=>(ag _ _ λw=>by rw [w] at e; exact bo bC e).trans (s6 _ _ (K1 _ _ e))
  have Xo:C d=none:=More.of_sub K1 d hd;have Mb:ft d=0:=by
   by_cases w:ft d=0
   ·exact w
   ·exact absurd hd (Wj.alive d w)
  have Jh:fa d=0:=by
   by_cases w:fa d=0
   ·exact w
   ·exact absurd hd (Hg.alive d w)
  generalize upd C6 dx o7=C7 at *;walk_at "bh";obtain ⟨XO,oa7,YK,X2,n1,n2,n3,n4,n5,n6⟩:=id Ed;walk_at "ch";refine dP n1 n2 n3 n4 G (Qe rfl) (λb hb=>?_);have L6:x≠d:=λe=>by
   refine aF pE λkv hk z9=>?_; clear pE
   exact eW hk _ (e▸Uc) (cE _ _)
  have RG:YK≠d:=λe=>by
   have:=n6 d;rw [Jh,e,aj] at this;exact Ql (Qc (Eq.symm this))
  have kd:∀ C',(∀ z,z≠d->C' z=C7 z)->aq (one d) C7 C':=λC' h z o e w=>by
   by_cases q:z=d
   ·subst q;rcases w with w | w
    ·refine aF pE λkv hk z9=>?_; clear pE
     exact absurd w (eW hk _ e)
    ·rw [aj] at w; injection w
   ·exact (h z q).trans e
  refine bX (vs:=X2.map Value.ref) G hb (λrest m C'=>m "self"=some (.ref x)∧∃ bV aK pre,A4 (rest=bV.map Value.ref) (aP C7 bV aK) (ivs=pre++aK) (dn (S2 P) C' d (bounds pre)) (∀ z,z≠d->C' z=C7 z)) ?_ ?_ ?_ ?_
  ·intro rest m C' q0;refine c_ q0 λz9 bV aK pre ak=>?_; clear q0; obtain ⟨-,-,-,-,hz⟩:=ak
   exact n4.imp λk hk=>(hz _ RG).trans hk
  ·exact ⟨by walk_at "nm",X2,ivs,[],rfl,n5,rfl,pE,λz9 z8=>rfl⟩
  ·intro E' u rest m C' _ q0 J hJ;refine c_ q0 λhs bV aK pre ak=>?_; clear q0; obtain ⟨hr,me,gy,An,hz⟩:=ak
   cases me with
   | nil=>injection hr
   | @cons b' jv bs gv fC gR =>
    simp only [List.map_cons,List.cons.injEq] at hr;refine aS hr λak aZ=>?_; clear hr; subst ak; subst aZ
    have q1:=(hz x L6).trans Uc;have q2:=(hz dx (Ne.symm Nb)).trans XT;have q3:=fC.keep (kd C' hz);have lj:=congrArg List.length gy;rw [List.length_append,List.length_cons] at lj;have Fe:=fz pre;walk_at "r";refine aE G (rA q1 q2 UX (Ne.symm Nb) An q3 (Qd λq=>Ql (Qa q (Qa Fe (Qa (Qc (Eq.symm lj)) (Qa (Qc (Eq.symm lj)) (Qa h6 h6))))))) (λr cf z=>?_);refine bw z λz9 ak z2=>?_; clear z; obtain ⟨o,rfl⟩:=ak
    walk_at "r";refine ⟨by walk_at "nm",bs,gv,pre++[jv],rfl,gR,by refine ae gy ?_; simp,?_,λz w=>(ag _ _ w).trans (hz z w)⟩;have:bounds (pre++[jv])=bump (bump (bounds pre) jv.1) jv.2.1:=by unfold bounds; refine ae List.foldl_append ?_; rfl
    exact ae this z2
  ·intro E' m C' q0;refine c_ q0 λhs bV aK pre ak=>?_; clear q0; obtain ⟨hr,me,gy,An,hz⟩:=ak
   cases me with
   | cons _ _=>injection hr
   | nil =>
    rw [List.append_nil] at gy;subst gy;walk_at "r";have km:=kd C' hz;refine ⟨rfl,x,λz=>one dx z+fa z+ft z+one d z,ls,tt,rfl,hx,hp,Ko,KC,⟨dx,o7,a,fa,vt,ft,d,(hz x L6).trans Uc,(hz dx (Ne.symm Nb)).trans XT,UX,Ed.keep km (λz w=>aG λe=>w (e▸Jh)),ah.keep km ht7 (λz w=>aG λe=>w (e▸Mb)),An,λz=>rfl⟩,λz=>?_,λz uf=>?_,λz o e=>?_⟩
    ·have a1:=hm.sep z;have a2:=t2 z;show one dx z+fa z+ft z+one d z≤1;by_cases w1:z=dx
     ·subst w1;refine ae (aj _) (ae vF (ae CB (ae (aG (Ne.symm Nb)) ?_)));exact Nat.le_refl _
     ·refine ae (aG w1) ?_;by_cases w2:z=d
      ·subst w2;refine ae (aj _) (ae Jh (ae Mb ?_));exact Nat.le_refl _
      ·refine ae (aG w2) ?_;by_cases w3:fa z=0
       ·exact Qd λq=>Ql (Qa a2 (Qa (Qc w3) q))
       ·have:ft z=0:=by
         by_cases w4:ft z=0
         ·exact w4
         ·exact absurd (z3 z w4) (AS.alive z w3)
        exact Qd λq=>Ql (Qa q (Qa a1 (Qc this)))
    ·have G8:one dx z+fa z+ft z+one d z≠0:=uf;by_cases w1:one dx z=0
     ·by_cases w3:fa z=0
      ·by_cases w4:ft z=0
       ·exact ae (one_pos (a:=d) (z:=z) (λq=>Ql (Qa (Nat.pos_of_ne_zero uf) (Qa (Qc w1) (Qa (Qc w3) (Qa (Qc w4) (Qc q))))))) Xo
       ·exact PR z (z3 z w4)
      ·exact More.of_sub ED z (Kx z w3)
     ·exact ae (one_pos w1) bC
    ·exact (hz z λw=>by rw [w] at e; exact bo Xo e).trans (Pd z o e)
theorem tF [jl P] {C:Led}{x dx l:Addr}{ivs:List Iv}{as:List Addr} (hx:C x=none) (bC:C dx=none) (bS:x≠dx) (hl:cN C l (as.map Value.ref)) (dQ:aP C as ivs) (h6:ivs.length≤6) (qw:aH [] ivs=ivs) (hw:∀ i∈ivs,i.1 < i.2.1) (ht:∀ l,l.Perm ivs->dM l->∃ t,cS 6 l=some t) :
  Spec (S2 P) 205 (.ref 520) [.ref x,.ref l] [] (upd (upd C dx (dictOf [] 0)) x (instObj 857 dx)) λr C'=>r=.none∧yE P C ivs (.ref x) C':=by
 refine' ax (n:=204) (binds:=[("self",.ref x),("intervals",.ref l)]) ?ho ?hb ?hp ?_
 case ho=>exact rfl
 case hb=>exact λs X=>binds_K X rfl rfl rfl rfl rfl
 case hp=>exact rfl
 intro A Qg L E G Qp et;have pj:dx≠x:=Ne.symm bS;have sp:=wx hx bC bS hl dQ h6 qw hw ht;have XZ:upd (upd C dx (dictOf [] 0)) x (instObj 857 dx) x=some (instObj 857 dx):=af _ _ _;have Ue:upd (upd C dx (dictOf [] 0)) x (instObj 857 dx) dx=some (dictOf [] 0):=(ag _ _ pj).trans (af _ _ _);generalize upd (upd C dx (dictOf [] 0)) x (instObj 857 dx)=C0 at *;have fl:=eY;walk_at "r";refine aE G sp (λr C' q=>?_);walk_at "r";exact ⟨rfl,q.2⟩
theorem vm [jl P] {C:Led}{l:Addr}{ivs:List Iv}{as:List Addr} (hl:cN C l (as.map Value.ref)) (dQ:aP C as ivs) (h6:ivs.length≤6) (qw:aH [] ivs=ivs) (hw:∀ i∈ivs,i.1 < i.2.1) (ht:∀ l,l.Perm ivs->dM l->∃ t,cS 6 l=some t) :
  Spec (S2 P) 206 (.ref 857) [.ref l] [] C (yE P C ivs) :=
 iS LM zI λx dx hx bC bS=>tF hx bC bS hl dQ h6 qw hw ht
end
section
theorem g9.keep {C C':Led}{x:Addr}{fp f:FP}{ivs:List Iv}{t:T}{ps:List (Int×Int)} (h:g9 P C x fp ivs t ps) (k:aq f C C') (hd:∀ z,fp z≠0->f z=0):g9 P C' x fp ivs t ps:=by
 walk_at "bh";obtain ⟨dx,od,a,fa,v,ft,d,hx,bC,hf,hm,ht,⟨kvs,⟨lo,o,ho,hi⟩,hd2⟩,aM⟩:=h;walk_at "ch";exact ⟨dx,od,a,fa,v,ft,d,k _ _ hx (.inl (cE _ _)),k _ _ bC (.inr (hd _ (by refine ae (aM _) (ae (aj _) ?_); exact bK (bT (az (az (az au))))))),hf,hm.keep k (λz q=>hd z (by exact ae (aM _) (bK (cj q (az (az (aV au))))))),ht.keep k (λz q=>hd z (by exact ae (aM _) (bK (cj q (az (aV au)))))),
  ⟨kvs,⟨lo,o,k _ _ ho (.inr (hd _ (by refine ae (aM _) (ae (aj _) ?_); exact bK (bT (aV au))))),hi⟩,hd2⟩,aM⟩
section
variable {C C':Led}{x dx a d:Addr}{od:Obj}{fa ft fp:FP}{v:Value}{ivs:List Iv}{t:T}{ps:List (Int×Int)}
theorem qX {D6:List (Int×Int)} (hx:C x=some (instObj 857 dx)) (bC:C dx=some od) (hf:dk od [("all_intervals",.ref a),("top_node",v),("boundary_table",.ref d)]) (hm:br C a fa ivs) (ht:ah C v t ft) (hd:dn (S2 P) C d ps) (aM:∀ z,fp z=one dx z+fa z+ft z+one d z) (aL:∀ z,fp z≤1)
  (hC:∃ o,C'=upd C d o) (hc:dn (S2 P) C' d D6):g9 P C' x fp ivs t D6∧aq fp C C':=by
 refine aQ hC λo ak=>?_; clear hC; subst ak
 have k:aq (one d) C (upd C d o):=aq.refl.upd (by refine ae (aj _) ?_; decide) λo' e=>by
  refine aF hd λkv lS hv=>?_; clear hd
  exact eW lS _ e
 have zz:∀ f:FP,(∀ z,f z+one d z≤1)->∀ z,f z≠0->one d z=0:=λf h z q=>by have:=h z; exact bj (bZ this (cZ au (cj q au)))
 refine ⟨⟨dx,od,a,fa,v,ft,d,k _ _ hx (.inl (cE _ _)),k _ _ bC (.inr ?_),hf,hm.keep k (zz fa λz=>by have:=aL z; rw [aM] at this; exact Qb (by walk_at "A") this),ht.keep k (zz ft λz=>by have:=aL z; rw [aM] at this; exact Qb (by walk_at "A") this),hc,aM⟩,k.mono λz q=>by have:=aM z; exact bj (cH q (dO this (aV au)))⟩;have:=aL dx;rw [aM,aj] at this;exact bj (bZ this (cZ au (bT (az (az au)))))
theorem yi {fP:List Iv} (hx:C x=some (instObj 857 dx)) (bC:C dx=some od) (hf:dk od [("all_intervals",.ref a),("top_node",v),("boundary_table",.ref d)]) (ht:ah C v t ft) (hd:dn (S2 P) C d ps) (aM:∀ z,fp z=one dx z+fa z+ft z+one d z) (aL:∀ z,fp z≤1)
  (hp:bA C a fa fP C'):∃ fp',g9 P C' x fp' fP t ps∧(∀ z,fp' z≤1)∧(∀ z,fp' z≠0->fp z≠0∨C z=none)∧aq fp C C':=by
 walk_at "bh";obtain ⟨KL,p1,p2,p3,p4⟩:=hp;walk_at "ch";have x1:=aL dx;rw [aM,aj] at x1;have x2:=aL d;rw [aM,aj] at x2;refine aF hd λkv ak hv=>?_; clear hd; obtain ⟨lo,o,ho,hi⟩:=ak
 refine ⟨λz=>one dx z+KL z+ft z+one d z,⟨dx,od,a,KL,v,ft,d,p3 _ _ hx (.inl (cE _ _)),p3 _ _ bC (.inr (bj (bZ x1 (dq (dq (cZ au (bT au))))))),hf,p1,ht.keep p3 (λz q=>by have:=aL z; rw [aM] at this; exact bj (bZ this (dq (nz (aV au) (cj q au))))),⟨kv,⟨lo,o,p3 _ _ ho (.inr (bj (bZ x2 (nz (az (aV au)) (bT au))))),hi⟩,hv⟩,λz=>rfl⟩,λz=>?_,λz q=>?_,p3.mono λz q=>by have:=aM z; exact bj (cH q (dO this (az (az (aV au)))))⟩
 ·show one dx z+KL z+ft z+one d z≤1;have y1:=p2.1 z;have y2:=aL z;rw [aM] at y2;by_cases w:KL z=0
  ·exact fR (tQ y2 (iM (iM (iM iK (tR w)) iK) iK))
  ·rcases p2.2 z w with w1 | w1
   ·exact Qd λq=>Ql (Qa (Nat.pos_of_ne_zero w1) (Qa q (Qa y2 y1)))
   ·have q1:one dx z=0:=Classical.byContradiction λy=>by rw [one_pos y] at w1; exact bo w1 bC
    have q2:one d z=0:=Classical.byContradiction λy=>by rw [one_pos y] at w1; exact bo w1 ho
    have q3:ft z=0:=Classical.byContradiction λy=>ht.alive z y w1
    exact Qd λq=>Ql (Qa q (Qa (Qc q1) (Qa y1 (Qa (Qc q3) (Qc q2)))))
 ·have q':one dx z+KL z+ft z+one d z≠0:=q;by_cases w:KL z=0
  ·exact .inl (ae (aM _) λe=>q (bj (nv (nv (nv (cH e (az (az (az au)))) (cH w au)) (cH e (az (aV au)))) (cH e (aV au)))))
  ·rcases p2.2 z w with w1 | w1
   ·exact .inl (by exact ae (aM _) (bK (cj w1 (az (az (aV au))))))
   ·exact .inr w1
end
end
section
noncomputable def DY (P:e_) (k:Nat):Prop:=∀ {C:Led}{v:Value}{t t':T}{fp:FP}{va:Addr}{iv:Iv},ah C v t fp->(∀ z,fp z≤1)->b_ C va iv->t.size≤1000->qz k iv t=some t'->Spec (S2 P) (ba k+16) (.ref 390) [v,.ref va] [] C (dE C fp t')
theorem gI.tree {C C1:Led}{x:Int}{t:Tok}{ms:List Iv}{r:Value} (h:gI C (.int x t) ms r C1):eA C (dD.mk x ms .nil .nil) r C1:=by
 obtain ⟨a,da,s,fs,rfl,h0,hn,hm,h1,h2,h3⟩:=h;exact ⟨λz=>one da z+fs z,⟨a,da,s,fs,.none,.none,λz9=>0,λz9=>0,t,rfl,hn,hm,⟨rfl,λz9=>rfl⟩,⟨rfl,λz9=>rfl⟩,λz9=>rfl⟩,h2,h1,h3⟩
theorem rp {C:Led}{v:Addr}{iv:Iv} (hv:b_ C v iv):Spec (S2 P) 15 (.ref 306) [.ref 491,.ref v] [] C (eA C (mk iv.1 [iv] .nil .nil)):=by
 obtain ⟨dv,ov,Et,NS,Es,vq,yk,I1⟩:=id hv;refine' ax (n:=14) (binds:=[("cls",.ref 491),("interval",.ref v)]) ?ho ?hb ?hp ?_;walk_at "D";walk_at "r";refine bH (vs:=[Value.ref v]) (λl hl=>?_) (by simp [sizeLine_eq]);walk_at "r";have s0:=aB (o:=listOf [Value.ref v].toArray 0) hl;have yu:cN (upd C l (listOf [Value.ref v].toArray 0)) l ([v].map Value.ref):=⟨0,af _ _ _⟩;have dQ:aP (upd C l (listOf [Value.ref v].toArray 0)) [v] [iv]:=.cons (hv.keep (fp:=λz9=>0) (aq.of_sub s0)) .nil;refine aE G (qP (ms:=[iv]) (λa_ hs=>l7 (λuc vX=>ku (yu.imp λk hk=>vX _ _ (hs _ _ hk))) (yu.imp λk hk=>hs _ _ hk) (dQ.keep (fp:=λz9=>0) (aq.of_sub hs)) (by simp)) (.inl rfl) rfl) (λr C1 q=>?_);walk_at "r";exact eA.sub q.tree s0
theorem AG {k:Nat}{iv:Iv}{x:Int}{ms:List Iv}{l r:T}{d b:Int}:(T.node x ms l r d b).size≤1000->ms.length≤1000∧l.size≤1000∧r.size≤1000:=by
 intro h; rw [T.size] at h; exact ⟨Qb (by walk_at "A") h,⟨Qb (by walk_at "A") h,Qb (by walk_at "A") h⟩⟩
theorem zy [jl P] {k:Nat} (ih:DY P k):DY P (k+1):=by
 intro C v t t' fp va iv ht aL hv jw hr;cases t with
 | nil=>simp [qz] at hr
 | node x ms tl tr d bb =>
 refine aQ (⟨_,rfl⟩:∃ c,c=decide (x < iv.1)) λc hc=>?_;rw [qz,← hc] at hr
 have z1:=AG (k:=k) (iv:=iv) jw;have hpk:(pick c tl tr).size≤1000:=by cases c <;> simp [pick,z1]
 rw [gD c] at ht;walk_at "bh";obtain ⟨a,da,s,fs,vo,vc,fo,fc,tx,rfl,hn,hm,ho,uj,aM⟩:=ht.nd;walk_at "ch";walk_at "bh";obtain ⟨h1,od,td,tb,h2,h3⟩:=id hn;walk_at "ch";walk_at "bh";obtain ⟨dm,om,rm,am,m1,m2,m3,m4,m5,m6⟩:=id hm;walk_at "ch";refine' ax (n:=ba k+18) (binds:=[("self",.ref a),("interval",.ref va)]) ?ho ?hb ?hp ?_;walk_at "D";have cu:ba k=24+3 * k:=rfl;walk_at "r";refine eS G (je hn hv) ?_ (Qe rfl);cases hh:hits x iv
 ·rw [hh,if_neg (show ¬ (false=true) by decide)] at hr;walk_at "r";refine eS G (mX hn hv) ?_ (Qe rfl);refine eI hc ?_;walk_at "r";refine jr G hn (.inl rfl) ho.dep.handed uj.dep.handed ?_ (Qe rfl);refine bG G uj.dep ?_;refine mN ?_;refine ae uj.isNode (ae (Bool.not_not _) ?_);cases yn:(pick c tl tr).isNil
  ·rw [yn,if_neg (show ¬ (false=true) by decide)] at hr;cases e1:qz k iv (pick c tl tr) with
   | none=>rw [e1] at hr; exact iO hr
   | some t1 =>
   rw [e1] at hr;dsimp only at hr;refine bN (by decide) ?_;refine bL (gb uj (λe=>by rw [e] at yn; exact EB yn)) λca AD HE cs A3 aZ=>?_; refine cz aZ λA2 cd cb ak pY=>?_; clear aZ; subst ak
   walk_at "bh";obtain ⟨w1,JY,JW,JX,w2,w3⟩:=id pY;walk_at "ch";walk_at "r";refine jr G hn (.inl rfl) ho.dep.handed rfl ?_ (Qe rfl);walk_at "r";refine aE G (ih uj (λz=>by have:=aL z; rw [aM] at this; exact fR (jK this (aV au))) hv hpk e1) (λr1 C1 q=>?_) (Nat.le_of_lt (Nat.le_of_lt (Nat.le_refl (ba k+16).succ.succ)));walk_at "bh";obtain ⟨f1,mR,jE,k1,uY⟩:=q;walk_at "ch";have D8:aq (λz=>fc z+0) C C1:=k1;walk_at "r";refine fW G (ja (g:=λz9=>0) hn aM aL (λz9 z8=>rfl) D8) (.inl rfl) (λC2 q2=>?_) (Qe rfl);have kp:=ye (g:=λz9=>0) hn hm ho aM aL (λz9 z8=>rfl) mR jE D8 uY q2;have jd:=q2.at (ja (g:=λz9=>0) hn aM aL (λz9 z8=>rfl) D8);clear q2 k1 D8 mR jE uY hn uj w1 w2 w3 pY h1 h2 h3 m1 m2 m3;walk_at "bh";obtain ⟨j1,jT,A_,qD,j2,j3⟩:=id jd;walk_at "ch";walk_at "bh";obtain ⟨f2,g1,g2,g3,g4,g5⟩:=kp;walk_at "ch";walk_at "r";refine aE G (Bn k g1 g2 hr) (λr C3 q=>?_) (Qb (Nat.le_refl (ba k)) (Nat.le_add_right (ba k) 18));walk_at "r";exact q.behind g3 (g4.mono λz q=>q) g5
  ·rw [yn,if_pos rfl] at hr;replace hr:=Option.some.inj hr; subst hr;refine cq rfl ?_;walk_at "r";refine dW G DJ DE DF HF DL (λq hq=>?_);refine eU G Cv (af _ _ _) ?_ rfl rfl;have s0:=aB (o:=methodObj (.ref 306) (.ref 491)) hq;walk_at "r";refine ⟨af _ _ _,_,(rp (hv.keep (fp:=λz9=>0) (aq.of_sub s0))).le (Qe rfl),λr1 C1 q=>?_⟩;walk_at "bh";obtain ⟨f1,mR,g1,g2,g3⟩:=q.sub s0;walk_at "ch";have k1:aq (λz=>fc z+0) C C1:=aq.of_sub g3;clear s0 q hq h1 h2 h3 m1 m2 m3;walk_at "r";have iH:=ja (g:=λz9=>0) hn aM aL (λz9 z8=>rfl) k1;refine fW G iH (.inl rfl) (λC2 q2=>?_) (Qe rfl);have kp:=ye (g:=λz9=>0) hn hm ho aM aL (λz9 z8=>rfl) mR ⟨g1,λz q=>.inr (g2 z q)⟩ k1 (More.of_sub g3) q2;have jd:=q2.at iH;clear q2 k1 mR iH hn uj g1 g2 g3;walk_at "bh";obtain ⟨j1,jT,A_,qD,j2,j3⟩:=id jd;walk_at "ch";walk_at "bh";obtain ⟨f2,g1,g2,g3,g4,g5⟩:=kp;walk_at "ch";walk_at "r";refine aE G (wC g1 g2) (λr C3 q=>?_) (Qe rfl);walk_at "r";exact q.2.behind g3 (g4.mono λz q=>q) g5
 ·rw [hh,if_pos rfl] at hr;replace hr:=Option.some.inj hr; subst hr;walk_at "r";refine aE G (g7 hm hv z1.1) (λr C1 q=>?_) (Qe rfl);walk_at "r";rw [gD c];exact (mem_set hn ho uj aM aL q.2).1.tpost
theorem x7 [jl P]:∀ k,DY P k
 | 0=>λz9 z8 z7 z6 h=>by simp [qz] at h
 | k+1=>zy (x7 k)
end
section
inductive fA (P:e_) (C:Led) (x:Addr) (fp:FP) (ivs:List Iv) (t:T) (ps:List (Int×Int)) (C':Led):Prop
 | mk:∀ fp',g9 P C' x fp' ivs t ps->(∀ z,fp' z≤1)->(∀ z,fp' z≠0->fp z≠0∨C z=none)->aq fp C C'->More C C'->fA P C x fp ivs t ps C'
theorem eA.tpost {C C1:Led}{t:T}{r:Value}{fp:FP} (h:eA C t r C1):dE C fp t r C1:=by
 walk_at "bh";obtain ⟨f,h1,h2,h3,h4⟩:=h;walk_at "ch";exact ⟨f,h1,⟨h2,λz q=>.inr (h3 z q)⟩,.of_sub h4,.of_sub h4⟩
theorem tE {C C1:Led}{x dx a d:Addr}{od o2:Obj}{fa ft fp:FP}{v r:Value}{ivs:List Iv}{t':T}{ps:List (Int×Int)} (hx:C x=some (instObj 857 dx)) (bC:C dx=some od) (hf:dk od [("all_intervals",.ref a),("top_node",v),("boundary_table",.ref d)])
  (hm:br C a fa ivs) (hd:dn (S2 P) C d ps) (aM:∀ z,fp z=one dx z+fa z+ft z+one d z) (aL:∀ z,fp z≤1) (hT:dE C ft t' r C1) (Eh:dk o2 [("all_intervals",.ref a),("top_node",r),("boundary_table",.ref d)]) :
  fA P C x fp ivs t' ps (upd C1 dx o2):=by
 walk_at "bh";obtain ⟨f1,g1,g2,g3,g4⟩:=hT;walk_at "ch";have x1:=aL dx;rw [aM,aj] at x1;have x2:=aL d;rw [aM,aj] at x2;refine aF hd λkv ak hv=>?_; clear hd; obtain ⟨lo,o,ho,hi⟩:=ak
 have kJ:∀ z,one dx z+fa z+f1 z+one d z≤1:=λz=>by
  have y2:=aL z;rw [aM] at y2;by_cases w:f1 z=0
  ·exact fR (tQ y2 (iM (iM iK (tR w)) iK))
  ·have y1:=g2.1 z;rcases g2.2 z w with w1 | w1
   ·exact Qd λq=>Ql (Qa (Nat.pos_of_ne_zero w1) (Qa q (Qa y2 y1)))
   ·have q1:one dx z=0:=aG λe=>by rw [e] at w1; exact bo w1 bC
    have q2:one d z=0:=aG λe=>by rw [e] at w1; exact bo w1 ho
    have q3:fa z=0:=Classical.byContradiction λy=>hm.alive z y w1
    exact Qd λq=>Ql (Qa q (Qa (Qc q1) (Qa (Qc q3) (Qa y1 (Qc q2)))))
 have d1:=kJ dx;rw [aj] at d1;have Ai:C1 dx=some od:=g3 _ _ bC (.inr (bj (bZ x1 (dq (cZ au (bT (az au)))))));have k2:aq (one dx) C1 (upd C1 dx o2):=aq.refl.upd (by refine ae (aj _) ?_; decide) λo e=>by replace e:=eG Ai e; subst e; exact ig hf (by intro e; exact absurd (Option.some.inj e) (by decide:("all_intervals":Str)≠"begin"))
 have off:∀ {f:FP},f dx=0->∀ z,f z≠0->one dx z=0:=λh z q=>aG λe=>q (e▸h)
 have FG:x≠dx:=λe=>by rw [e] at hx; replace hx:=eG bC hx; subst hx; exact (ig hf (by intro e; exact absurd (Option.some.inj e) (by decide:("all_intervals":Str)≠"begin"))) (cE _ _)
 refine ⟨λz=>one dx z+fa z+f1 z+one d z,⟨dx,o2,a,fa,r,f1,d,(ag _ _ FG).trans (g3 _ _ hx (.inl (cE _ _))),af _ _ _,Eh,(hm.keep g3 λz q=>?_).keep k2 (off (bj (bZ x1 (dq (dq (cZ au (bT au))))))),ah.keep k2 g1 (off (Nat.le_zero.mp (Qd λq=>Ql (Qa x1 (Qa d1 q))))),⟨kv,⟨lo,o,k2 _ _ (g3 _ _ ho (.inr (bj (bZ x2 (nz (aV au) (bT au)))))) (.inr (aG λe=>by rw [e,aj] at x2; exact Ql x2)),hi⟩,hv⟩,λz9=>rfl⟩,kJ,λz q=>?_,?_,g4.upd⟩
 ·have:=aL z; rw [aM] at this; exact bj (bZ this (dq (cZ au (cj q (aV au)))))
 ·have q':one dx z+fa z+f1 z+one d z≠0:=q;have h0:=aM z;by_cases w:f1 z=0
  ·exact .inl (λq9=>Ql (Qa (Nat.pos_of_ne_zero q) (Qa (Qc (Eq.symm h0)) (Qa (Qc q9) (Qc w)))))
  ·exact (g2.2 z w).imp (λy=>by exact bK (cj y (dO h0 (az (aV au))))) id
 ·exact (g3.mono λz q=>by have:=aM z; exact bj (cH q (dO this (az (aV au))))).trans (k2.mono λz q=>by have:=aM z; exact bj (cH q (dO this (az (az (az au)))))) λz q=>.inl q
theorem FD {C C1:Led}{x dx a d:Addr}{od:Obj}{fa ft fp:FP}{v:Value}{ivs:List Iv}{t':T}{ps:List (Int×Int)} (hx:C x=some (instObj 857 dx)) (bC:C dx=some od) (hf:dk od [("all_intervals",.ref a),("top_node",v),("boundary_table",.ref d)])
  (hm:br C a fa ivs) (hd:dn (S2 P) C d ps) (aM:∀ z,fp z=one dx z+fa z+ft z+one d z) (aL:∀ z,fp z≤1) (hT:dE C ft t' v C1):fA P C x fp ivs t' ps C1:=by
 walk_at "bh";obtain ⟨f1,g1,g2,g3,g4⟩:=hT;walk_at "ch";have x1:=aL dx;rw [aM,aj] at x1;have x2:=aL d;rw [aM,aj] at x2;refine aF hd λkv ak hv=>?_; clear hd; obtain ⟨lo,o,ho,hi⟩:=ak
 refine ⟨λz=>one dx z+fa z+f1 z+one d z,⟨dx,od,a,fa,v,f1,d,g3 _ _ hx (.inl (cE _ _)),g3 _ _ bC (.inr (bj (bZ x1 (dq (cZ au (bT (az au))))))),hf,hm.keep g3 λz q=>?_,g1,⟨kv,⟨lo,o,g3 _ _ ho (.inr (bj (bZ x2 (nz (aV au) (bT au))))),hi⟩,hv⟩,λz9=>rfl⟩,λz=>?_,λz q=>?_,g3.mono λz q=>by have:=aM z; exact bj (cH q (dO this (az (aV au)))),g4⟩
 ·have:=aL z; rw [aM] at this; exact bj (bZ this (dq (cZ au (cj q (aV au)))))
 ·show one dx z+fa z+f1 z+one d z≤1;have y2:=aL z;rw [aM] at y2;by_cases w:f1 z=0
  ·exact fR (tQ y2 (iM (iM iK (tR w)) iK))
  ·have y1:=g2.1 z;rcases g2.2 z w with w1 | w1
   ·exact Qd λq=>Ql (Qa (Nat.pos_of_ne_zero w1) (Qa q (Qa y2 y1)))
   ·have q1:one dx z=0:=aG λe=>by rw [e] at w1; exact bo w1 bC
    have q2:one d z=0:=aG λe=>by rw [e] at w1; exact bo w1 ho
    have q3:fa z=0:=Classical.byContradiction λy=>hm.alive z y w1
    exact Qd λq=>Ql (Qa q (Qa (Qc q1) (Qa (Qc q3) (Qa y1 (Qc q2)))))
 ·have q':one dx z+fa z+f1 z+one d z≠0:=q;have h0:=aM z;by_cases w:f1 z=0
  ·exact .inl (λq9=>Ql (Qa (Nat.pos_of_ne_zero q) (Qa (Qc (Eq.symm h0)) (Qa (Qc q9) (Qc w)))))
  ·exact (g2.2 z w).imp (λy=>by exact bK (cj y (dO h0 (az (aV au))))) id
theorem fA.then {C C1 C2:Led}{x:Addr}{fp f1:FP}{ivs:List Iv}{t:T}{ps:List (Int×Int)} (h:fA P C1 x f1 ivs t ps C2) (g3:∀ z,f1 z≠0->fp z≠0∨C z=none) (g4:aq fp C C1) (g5:More C C1):fA P C x fp ivs t ps C2:=by
 walk_at "bh";obtain ⟨f2,k1,k2,k3,k4,k5⟩:=h;walk_at "ch";refine ⟨f2,k1,k2,λz q=>?_,g4.trans k4 g3,g5.trans k5⟩;rcases k3 z q with w | w
 ·exact g3 z w
 ·exact .inr (g5 z w)
theorem nW {C:Led}{x v:Addr}{fp:FP}{ivs:List Iv}{t:T}{ps:List (Int×Int)}{iv:Iv} (hit:g9 P C x fp ivs t ps) (hv:b_ C v iv):Spec (S2 P) 7 (.ref 825) [.ref x,.ref v] [] C λr C'=>r=.bool (decide (iv∈ivs))∧C'=C:=by
 walk_at "bh";obtain ⟨dx,od,a,fa,vt,ft,d,hx,bC,hf,hm,-,-,-⟩:=hit;walk_at "ch";walk_at "bh";obtain ⟨dm,om,rm,am,m1,m2,m3,m4,m5,m6⟩:=id hm;walk_at "ch";refine' ax (n:=6) (binds:=[("self",.ref x),("item",.ref v)]) ?ho ?hb ?hp ?_;walk_at "D";walk_at "r";refine Ll G m1 m2 gE ((gP hm hv).le (Qe rfl)) ?_;intro C' e;obtain rfl:C=C':=e.symm;clear e;walk_at "r";exact ⟨rfl,rfl⟩
theorem yP [jl P] {C:Led}{x va:Addr}{fp:FP}{ivs:List Iv}{t t':T}{ps:List (Int×Int)}{iv:Iv} (hit:g9 P C x fp ivs t ps) (aL:∀ z,fp z≤1) (hv:b_ C va iv) (yn:iv ∉ ivs) (o_:iv.1 < iv.2.1) (Kk:ivs.length≤900) (G8:ps.length≤800) (Rg:t.size≤1000)
  (mP:if t.isNil then t'=dD.mk iv.1 [iv] .nil .nil else qz 30 iv t=some t'):Spec (S2 P) 140 (.ref 556) [.ref x,.ref va] [] C λr C'=>r=.none∧fA P C x fp (eZ ivs iv) t' (bump (bump ps iv.1) iv.2.1) C':=by
 walk_at "bh";obtain ⟨dx,od,a,fa,vt,ft,d,hx,bC,hf,hm,ht,hd,aM⟩:=id hit;walk_at "ch";refine' ax (n:=139) (binds:=[("self",.ref x),("interval",.ref va)]) ?ho ?hb ?hp ?_;walk_at "D";have cu:ba 30=114:=rfl;walk_at "r";refine Ll G hx bC jW ((nW hit hv).le (Qe rfl)) ?_;intro C' e;obtain rfl:C=C':=e.symm;clear e;refine ae (decide_eq_false yn) ?_;walk_at "r";walk_at "bh";obtain ⟨dv,ov,Et,NS,Es,vq,yk,I1⟩:=id hv;walk_at "ch";walk_at "r";refine eS G (l6 hv) ?_ (Qe rfl);refine ae (decide_eq_false (Int.not_le_of_gt o_:¬ iv.2.1≤iv.1)) ?_
 iterate 4 walk_at "st"
 refine bq (W.mid (λfl m' C'=>ud (fl=.next) (m' "self"=some (.ref x)) (m' "interval"=some (.ref va)) (fA P C x fp ivs t' ps C')) (λQm qx=>?_) ?_)
 ·walk_at "r";refine dA G hx bC hf (by walk_at "k") (by rfl) ht.dep.handed ?_;refine bG G ht.dep ?_;refine mN ?_;refine ae ht.isNode (ae (Bool.not_not _) ?_);cases yn:t.isNil
  ·rw [yn,if_neg (show ¬ (false=true) by decide)] at mP;refine bN (by decide) ?_;refine bL (gb ht (λe=>by rw [e] at yn; exact EB yn)) λca AD HE cs A3 aZ=>?_; refine cz aZ λA2 cd cb ak pY=>?_; clear aZ; subst ak
   walk_at "bh";obtain ⟨w1,JY,JW,JX,w2,w3⟩:=id pY;walk_at "ch";walk_at "r";refine aE G (x7 30 ht (λz=>by have:=aL z; rw [aM] at this; exact fR (jK this (az (aV au)))) hv Rg mP) (λr1 C1 q=>?_) (Qe rfl);walk_at "bh";obtain ⟨f1,g1,g2,g3,g4⟩:=id q;walk_at "ch";have ug:=g3 _ _ hx (.inl (cE _ _));have Ai:=g3 _ _ bC (.inr (by have:=aL dx; rw [aM,aj] at this; exact bj (bZ this (dq (cZ au (bT (az au)))))));clear g1 g2 g3 g4 w1 w2 w3 pY;walk_at "r";rename_i o2 Eh;exact ⟨rfl,by walk_at "nm",by walk_at "nm",tE hx bC hf hm hd aM aL q Eh⟩
  ·rw [yn,if_pos rfl] at mP;refine cq rfl ?_;walk_at "r";refine dW G DJ DE DF HF DL (λq hq=>?_);refine eU G Cv (af _ _ _) ?_ rfl rfl;have s0:=aB (o:=methodObj (.ref 306) (.ref 491)) hq;walk_at "r";refine ⟨af _ _ _,_,(rp (hv.keep (fp:=λz9=>0) (aq.of_sub s0))).le (Qe rfl),λr1 C1 q=>?_⟩;have q:=q.sub s0;rw [← mP] at q;walk_at "bh";obtain ⟨f1,g1,g2,g3,g4⟩:=id q;walk_at "ch";have ug:=g4 _ _ hx;have Ai:=g4 _ _ bC;clear g1 g2 g3 g4 s0 hq;walk_at "r";rename_i o2 Eh;exact ⟨rfl,by walk_at "nm",by walk_at "nm",tE hx bC hf hm hd aM aL q.tpost Eh⟩
 intro fl m1 C1 q0;walk_at "bh";obtain ⟨rfl,FI,WQ,CY⟩:=q0;walk_at "ch";walk_at "bh";obtain ⟨f1,Kj,s1,o1,k1,uY⟩:=CY;walk_at "ch";have vq:=hv.keep k1;clear hx bC hf hm ht hd aM hit aL;walk_at "bh";obtain ⟨dx,od,a,fa,vt,ft,d,hx,bC,hf,hm,ht,hd,aM⟩:=Kj;walk_at "ch";walk_at "bh";obtain ⟨dm,om,rm,am,m1,m2,m3,m4,m5,m6⟩:=id hm;walk_at "ch";walk_at "r";refine aE G (g7 hm vq (Qb Kk (Nat.le_add_left 900 100))) (λr2 C2 q=>?_) (Qe rfl);have qq:More C1 C2:=by
  obtain ⟨_,_,_,_,h⟩:=q.2;exact h
 refine c9 (yi hx bC hf ht hd aM s1 q.2) λf2 zW s2 o2 k2=>?_;have yk:=vq.keep k2
 clear hx bC hf hm ht hd aM m1 m2 m3 m4 m5 q;walk_at "bh";obtain ⟨dx,od,a,fa,vt,ft,d,hx,bC,hf,hm,ht,hd,aM⟩:=zW;walk_at "ch";walk_at "r";refine aE G (rA hx bC hf (λe=>by have:=s2 d; rw [aM,e,aj] at this; exact Ql this) hd yk (Qb G8 (Nat.le_add_left 800 100))) (λr3 C3 q=>?_) (Qe rfl);refine bw q λz9 hC hc=>?_; clear q
 have Ie:More C2 C3:=by
  refine aQ hC λo ak=>?_; clear hC; subst ak
  exact More.refl.upd
 refine aS (qX hx bC hf hm ht hd aM s2 hC hc) λFE k3=>?_;walk_at "r"
 exact ⟨rfl,((⟨_,FE,s2,λz q=>.inl q,k3,Ie⟩:fA P C2 x f2 (eZ ivs iv) t' _ C3).then o2 k2 qq).then o1 k1 uY⟩
noncomputable def unbump (ps:List (Int×Int)) (k:Int):List (Int×Int):=if bt ps k=some 1 then mU ps k else setC ps k ((bt ps k).getD 0 - 1)
theorem wj (ps:List (Int×Int)) (k:Int):(unbump ps k).length≤ps.length+1:=by
 unfold unbump;split
 ·exact Nat.le_succ_of_le (List.length_filter_le _ _)
 ·exact kO _ _ _
theorem qA {ps:List (Int×Int)}{k c:Int} (h:bt ps k=some c) (e:bt ps k≠some 1):unbump ps k=setC ps k (c - 1):=by
 unfold unbump;refine ae (if_neg e) (ae h ?_); rfl
theorem yX {C:Led}{x dx d v:Addr}{od:Obj}{va vt:Value}{ps:List (Int×Int)}{iv:Iv} (hx:C x=some (instObj 857 dx)) (bC:C dx=some od) (hf:dk od [("all_intervals",va),("top_node",vt),("boundary_table",.ref d)]) (bS:dx≠d) (hd:dn (S2 P) C d ps) (hv:b_ C v iv) (hz:ps.length≤900)
  (c1:bt ps iv.1≠none) (c2:bt (unbump ps iv.1) iv.2.1≠none):Spec (S2 P) 2 (.ref 549) [.ref x,.ref v] [] C λr C'=>r=.none∧(∃ o,C'=upd C d o)∧dn (S2 P) C' d (unbump (unbump ps iv.1) iv.2.1):=by
 walk_at "bh";obtain ⟨dv,ov,t1,t2,t3,vq,yk,I1⟩:=id hv;walk_at "ch";refine aF hd λkvs iP kI=>?_;have FG:x≠d:=λq=>eW iP _ (q▸hx) (cE _ _)
 refine' ax (n:=1) (binds:=[("self",.ref x),("interval",.ref v)]) ?ho ?hb ?hp ?_;walk_at "D"
 iterate 10 walk_at "st"
 refine bq (W.mid (λfl m' C'=>A4 (fl=.next) (m' "self"=some (.ref x)) (m' "end"=some (.int iv.2.1 t2)) (∃ o,C'=upd C d o) (dn (S2 P) C' d (unbump ps iv.1))) (λQm qx=>?_) ?_)
 ·walk_at "r";rcases kI.at iv.1 with ⟨v1,v2⟩ | ⟨c,tc,v1,v2⟩
  ·exact absurd v2 c1
  refine n_ iP v1 ?_;walk_at "r";refine cB (λhb=>?_) (λhb=>?_)
  ·have e1:bt ps iv.1=some 1:=by refine ae v2 ?_; simpa using hb
   walk_at "r";refine qM ?_;walk_at "r";refine uP hd (Qb hz (Nat.le_add_left 900 9100)) c1 (λC2 JO hd2=>?_);rw [show mU ps iv.1=unbump ps iv.1 from (if_pos e1).symm] at hd2;walk_at "r";exact ⟨rfl,by walk_at "nm",by walk_at "nm",JO,hd2⟩
  ·have e1:bt ps iv.1≠some 1:=by refine ae v2 ?_; simpa using hb
   walk_at "r";refine fj iP v1 ?_;walk_at "r";refine BA (λt4=>?_);walk_at "r";have hl:=kI.len;refine lY iP (Qd λq=>Ql (Qa hz (Qa (Qc hl) q))) (λC2 JO hd2=>?_);have hd2:dn (S2 P) C2 d (unbump ps iv.1):=⟨_,hd2,by exact ae (qA v2 e1) (kI.stored iv.1 (c - 1) t4)⟩;walk_at "r";exact ⟨rfl,by walk_at "nm",by walk_at "nm",JO,hd2⟩
 clear iP kI hd;intro fl m1 C1 q0;walk_at "bh";obtain ⟨rfl,FI,Jy,KI,lS⟩:=q0;walk_at "ch";have q1:C1 x=some (instObj 857 dx):=by
  refine aQ KI λo ak=>?_; clear KI; subst ak
  exact ae (ag _ _ FG) hx
 have q2:C1 dx=some od:=by
  refine aQ KI λo ak=>?_; clear KI; subst ak
  exact ae (ag _ _ bS) bC
 have Wi:=wj ps iv.1;refine aF lS λkvs1 iP kI=>?_;walk_at "r"
 rcases kI.at iv.2.1 with ⟨v1,v2⟩ | ⟨c,tc,v1,v2⟩
 ·exact absurd v2 c2
 refine n_ iP v1 ?_;walk_at "r";refine cB (λhb=>?_) (λhb=>?_)
 ·have e1:bt (unbump ps iv.1) iv.2.1=some 1:=by refine ae v2 ?_; simpa using hb
  walk_at "r";refine qM ?_;walk_at "r";refine uP lS (Qd λq=>Ql (Qa hz (Qa Wi q))) c2 (λC2 JO hd2=>?_);rw [show mU (unbump ps iv.1) iv.2.1=unbump (unbump ps iv.1) iv.2.1 from (if_pos e1).symm] at hd2;walk_at "r";exact ⟨rfl,(KI.elim λo e=>JO.elim λo2 e2=>⟨o2,by refine ae e2 (ae e ?_); exact cQ⟩),hd2⟩
 ·have e1:bt (unbump ps iv.1) iv.2.1≠some 1:=by refine ae v2 ?_; simpa using hb
  walk_at "r";refine fj iP v1 ?_;walk_at "r";refine BA (λt4=>?_);walk_at "r";have hl:=kI.len;refine lY iP (Qd λq=>Ql (Qa hz (Qa Wi (Qa (Qc hl) q)))) (λC2 JO hd2=>?_);have hd2:dn (S2 P) C2 d (unbump (unbump ps iv.1) iv.2.1):=⟨_,hd2,by exact ae (qA v2 e1) (kI.stored iv.2.1 (c - 1) t4)⟩;walk_at "r";exact ⟨rfl,(KI.elim λo e=>JO.elim λo2 e2=>⟨o2,by refine ae e2 (ae e ?_); exact cQ⟩),hd2⟩
theorem yM [jl P] {C:Led}{x va:Addr}{fp:FP}{ivs:List Iv}{t t':T}{ps:List (Int×Int)}{iv:Iv}{b:Bool} (hit:g9 P C x fp ivs t ps) (aL:∀ z,fp z≤1) (hv:b_ C va iv) (jy:iv∈ivs) (Kk:ivs.length≤900) (G8:ps.length≤800)
  (hr:fe 30 iv t=some (t',b)) (c1:bt ps iv.1≠none) (c2:bt (unbump ps iv.1) iv.2.1≠none):Spec (S2 P) 140 (.ref 578) [.ref x,.ref va] [] C λr C'=>r=.none∧fA P C x fp (ivs.filter λj=>!decide (j=iv)) t' (unbump (unbump ps iv.1) iv.2.1) C':=by
 walk_at "bh";obtain ⟨dx,od,a,fa,vt,ft,d,hx,bC,hf,hm,ht,hd,aM⟩:=id hit;walk_at "ch";refine bL (gb ht (λe=>by rw [e] at hr; simp [fe] at hr)) λca AD HE cs A3 aZ=>?_; refine cz aZ λA2 cd cb ak pY=>?_; clear aZ; subst ak
 walk_at "bh";obtain ⟨w1,JY,JW,JX,w2,w3⟩:=id pY;walk_at "ch";refine' ax (n:=139) (binds:=[("self",.ref x),("interval",.ref va)]) ?ho ?hb ?hp ?_;walk_at "D";have cu:ba 30=114:=rfl;walk_at "r";refine rW G hx bC jW ((nW hit hv).le (Qe rfl)) ?_;intro C' e;obtain rfl:C=C':=e.symm;clear e;refine ae (decide_eq_true jy) ?_;walk_at "r";refine bN (by decide) ?_;walk_at "r";refine aE G (xQ (EK 30) ht (λz=>by have:=aL z; rw [aM] at this; exact fR (jK this (az (aV au)))) hv hr) (λr1 C1 q=>?_) (Qe rfl);walk_at "bh";obtain ⟨f1,g1,g2,g3,g4⟩:=id q;walk_at "ch";have ug:=g3 _ _ hx (.inl (cE _ _));have Ai:=g3 _ _ bC (.inr (by have:=aL dx; rw [aM,aj] at this; exact bj (bZ this (dq (cZ au (bT (az au)))))));clear g1 g2 g3 g4 w1 w2 w3 pY;walk_at "r";rename_i o2 Eh;walk_at "bh";obtain ⟨f1,Kj,s1,o1,k1,uY⟩:=tE hx bC hf hm hd aM aL q Eh;walk_at "ch";have vq:=hv.keep k1;clear hx bC hf hm ht hd aM hit aL ug Ai q Eh;generalize upd C1 dx o2=C1 at *;walk_at "bh";obtain ⟨dx,od,a,fa,vt,ft,d,hx,bC,hf,hm,ht,hd,aM⟩:=Kj;walk_at "ch";walk_at "bh";obtain ⟨dm,om,rm,am,m1,m2,m3,m4,m5,m6⟩:=id hm;walk_at "ch";walk_at "r";refine aE G (iU hm vq (Qb Kk (Nat.le_add_left 900 100)) jy) (λr2 C2 q=>?_) (Qe rfl);have qq:More C1 C2:=by
  obtain ⟨_,_,_,_,h⟩:=q.2;exact h
 refine c9 (yi hx bC hf ht hd aM s1 q.2) λf2 zW s2 o2 k2=>?_;have yk:=vq.keep k2
 clear hx bC hf hm ht hd aM m1 m2 m3 m4 m5 q;walk_at "bh";obtain ⟨dx,od,a,fa,vt,ft,d,hx,bC,hf,hm,ht,hd,aM⟩:=zW;walk_at "ch";walk_at "r";refine aE G (yX hx bC hf (λe=>by have:=s2 d; rw [aM,e,aj] at this; exact Ql this) hd yk (Qb G8 (Nat.le_add_left 800 100)) c1 c2) (λr3 C3 q=>?_) (Qe rfl);refine bw q λz9 hC hc=>?_; clear q
 have Ie:More C2 C3:=by
  refine aQ hC λo ak=>?_; clear hC; subst ak
  exact More.refl.upd
 refine aS (qX hx bC hf hm ht hd aM s2 hC hc) λFE k3=>?_;walk_at "r"
 exact ⟨rfl,((⟨_,FE,s2,λz q=>.inl q,k3,Ie⟩:fA P C2 x f2 _ t' _ C3).then o2 k2 qq).then o1 k1 uY⟩
end
section
noncomputable def T.told:T->Prop
 | .nil=>True
 | .node _ _ l r d b=>d=1+(if r.dep > l.dep then r.dep else l.dep)∧b=r.dep - l.dep∧l.told∧r.told
noncomputable def T.hgt:T->Nat
 | .nil=>0
 | .node _ _ l r _ _=>1+max l.hgt r.hgt
noncomputable def KS:T->List Int->Prop
 | .nil,_=>True
 | .node x ms l r _ _,ps=>ms.length≤1000∧0≤x∧x < 12∧x ∉ ps∧ps.length≤2∧(l.isNil=false∨r.isNil=false->ps.length≤1)∧KS l (ps++[x])∧KS r (ps++[x])
noncomputable def T.under (x:Int):T->Bool
 | .nil=>true
 | .node y _ _ _ _ _=>decide (y < x)
noncomputable def T.over (x:Int):T->Bool
 | .nil=>true
 | .node y _ _ _ _ _=>decide (x < y)
noncomputable def xe (x:Int) (ps:List Int) (iv:Iv):Bool:=decide (iv.1 < iv.2.1) && hits x iv && ps.all λp=>!hits p iv
noncomputable def nR:T->List Int->Bool
 | .nil,_=>true
 | .node x ms l r _ b,ps=>decide (-2 < b∧b < 2) && decide (b=r.dep - l.dep) && !ms.isEmpty && ms.all (xe x ps) && l.under x && nR l (ps++[x]) && r.over x && nR r (ps++[x])
theorem E3 {x:Int}{ms:List Iv}{l r:T}{d b:Int} (h:(T.node x ms l r d b).told):mk x ms l r=.node x ms l r d b:=by
 refine bw h λh1 h2 z9=>?_; clear h
 refine ae h1 (ae h2 ?_); rfl
theorem FF (es:Array (Int×Value)) (ep:Nat) (t:SetTable):yF (ei es ep t):=.inr ⟨λ⟨es,n,e⟩=>(by have:=congrArg Obj.data e; injection this),λ⟨es,n,e⟩=>(by have:=congrArg Obj.data e; injection this),(by intro vs e; injection e)⟩
theorem eE.keep {C C':Led}{fp:FP}{a:Addr}{ps:List Int} (h:eE (S2 P) C a ps) (k:aq fp C C'):eE (S2 P) C' a ps:=by
 refine aF h λo ho hp=>?_; clear h
 refine ⟨o,k _ _ ho (.inl ?_),hp⟩;rcases hp with ⟨-,ep,zG,rfl⟩ | ⟨p,t,ep,-,-,rfl⟩ | ⟨p,q,es,ep,t,-,-,rfl,-⟩ <;> exact FF _ _ _
theorem DH {x:Int}{ms:List Iv}{l r:T}{d b:Int}{ps:List Int}:nR (.node x ms l r d b) ps=true↔(-2 < b∧b < 2)∧b=r.dep - l.dep∧ms.isEmpty=false∧(∀ iv∈ms,xe x ps iv=true)∧l.under x=true∧nR l (ps++[x])=true∧r.over x=true∧nR r (ps++[x])=true:=by
 rw [nR];simp only [Bool.and_eq_true,decide_eq_true_eq,Bool.not_eq_true',List.all_eq_true];constructor
 ·rintro ⟨⟨⟨⟨⟨⟨⟨h1,h2⟩,h3⟩,h4⟩,h5⟩,h6⟩,h7⟩,h8⟩;exact ⟨h1,h2,h3,h4,h5,h6,h7,h8⟩
 ·rintro ⟨h1,h2,h3,h4,h5,h6,h7,h8⟩;exact ⟨⟨⟨⟨⟨⟨⟨h1,h2⟩,h3⟩,h4⟩,h5⟩,h6⟩,h7⟩,h8⟩
theorem P4:isIn (KK P) (.ref 122) 122=true:=by kernel_rfl
theorem Cx {x:Int}{ps:List Int}{iv:Iv}:xe x ps iv=true↔iv.1 < iv.2.1∧hits x iv=true∧∀ p∈ps,hits p iv=false:=by
 unfold xe;simp only [Bool.and_eq_true,decide_eq_true_eq,Bool.not_eq_true',List.all_eq_true];exact ⟨λ⟨⟨a,b⟩,c⟩=>⟨a,b,c⟩,λ⟨a,b,c⟩=>⟨⟨a,b⟩,c⟩⟩
theorem wR:∀ (t:T) {x:Int}{ms:List Iv}{l r:T}{d b:Int} (_:t=.node x ms l r d b) {C:Led}{v:Value}{fp:FP}{pa:Addr}{ps:List Int},ah C v t fp->(∀ z,fp z≤1)->t.told->KS t ps->eE (S2 P) C pa ps->nR t ps=true →
  Spec (S2 P) (2 * t.hgt+12) (.ref 467) [v,.ref pa] [] C λrv C'=>rv=.none∧dE C fp t v C':=by
 intro t;induction t with
 | nil=>intro x ms l r d b e; injection e
 | node x ms l r d b Rb zY =>
  intro x ms l r d b e;cases e;intro C v fp pa ps ht aL CB Aj uh AQ;walk_at "bh";obtain ⟨a,da,s,fs,vl,vr,fl,fr,tx,rfl,hn,hm,gk,qY,aM⟩:=id ht;walk_at "ch";refine cp Aj λRW xg L7 L5 hps2 Ad Al OG=>?_; clear Aj
  have hmk:=E3 CB;refine dI CB λO7 Uy tl tr=>?_; clear CB
  refine cp (DH.mp AQ) λak OJ Ks Dn I2 Dl My SW=>?_; obtain ⟨OM,OL⟩:=ak
  have Ef:(T.node x ms l r d b).hgt=1+max l.hgt r.hgt:=rfl;walk_at "bh";obtain ⟨h1,od,td,tb,h2,h3⟩:=id hn;walk_at "ch";walk_at "bh";obtain ⟨dm,om,rm,am,m1,m2,m3,m4,m5,m6⟩:=id hm;walk_at "ch";refine' ax (n:=2 * (T.node x ms l r d b).hgt+11) (binds:=[("self",.ref a),("parents",.ref pa)]) ?ho ?hb ?hp ?_;walk_at "D";walk_at "r";refine cJ ?_;walk_at "r";refine ib G m1 P4 ?_;walk_at "r";refine ⟨rfl,?_⟩;walk_at "r";refine cJ ?_;walk_at "r";refine xV (λt1=>?_);walk_at "r";refine ⟨by simp only [decide_eq_true_eq]; split; exact Int.neg_lt_of_neg_lt OM; exact OL,?_⟩;walk_at "r";refine aE G (fU ht aL) (λr1 C1 q=>?_) (Qe rfl);rw [hmk] at q;clear hn hm gk qY aM h1 h2 h3 m1 m2 m3 m4 m5 m6 ht aL;walk_at "bh";obtain ⟨f1,g1,o1,k1,uY⟩:=q.2;walk_at "ch";clear q;have Ad:=uh.keep k1;have wz:=o1.1;walk_at "bh";obtain ⟨a',da,s,fs,vl,vr,fl,fr,tx,ea,hn,hm,gk,qY,aM⟩:=id g1;walk_at "ch";replace ea:=PySem.Value.ref.inj ea; subst ea;walk_at "bh";obtain ⟨h1,od,td,tb,h2,h3⟩:=id hn;walk_at "ch";walk_at "bh";obtain ⟨dm,om,rm,am,m1,m2,m3,m4,m5,m6⟩:=id hm;walk_at "ch";walk_at "r";refine cJ ?_;walk_at "r";refine ⟨by simp,?_⟩;walk_at "r";refine cJ ?_;walk_at "r";refine d8 G hm (Qb RW (Nat.le_add_left 1000 999000)) ⟨by rw [Ks]; rfl,?_⟩;walk_at "r";refine dP m1 m2 m3 m4 G (Qe rfl) (λbb Ej=>?_);refine bX (vs:=am.map Value.ref) G Ej (λrest m C'=>ud (∀ z o,C1 z=some o->C' z=some o) (m "self"=some (.ref a)) (m "parents"=some (.ref pa)) (∃ bV aK,rest=bV.map Value.ref∧aP C' bV aK∧∀ iv∈aK,iv∈ms)) ?_ ?_ ?_ ?_
  ·rintro rest m C' ⟨hs,-⟩;exact m4.imp λk hk=>hs _ _ hk
  ·exact ⟨λz9 z8 h=>h,by walk_at "nm",by walk_at "nm",am,ms,rfl,m5,λz9 h=>h⟩
  ·intro E u rest m C2 _ q0 J hJ;walk_at "bh";obtain ⟨hs,yl,I6,bV,aK,hr,hi,aX⟩:=q0;walk_at "ch";cases hi with
   | nil=>cases hr
   | @cons b' jv bs gv fC gR =>
    simp only [List.map_cons,List.cons.injEq] at hr;refine aS hr λak aZ=>?_; clear hr; subst ak; subst aZ
    have k2:aq (λz9=>0) C1 C2:=aq.of_sub hs;refine bw (Cx.mp (Dn jv (aX jv (.head _)))) λR_ SD tK=>?_;have jd:=hn.keep k2 rfl
    walk_at "bh";obtain ⟨c1,YV,O8,Uz,c2,c3⟩:=id jd;walk_at "ch";walk_at "bh";obtain ⟨dj,oj,EA,Ez,Ey,j1,j2,j3⟩:=id fC;walk_at "ch";walk_at "r";refine cJ ?_;walk_at "r";refine ⟨by simpa using R_,?_⟩;walk_at "r";refine cJ ?_;walk_at "r";refine eS G (zt fC) ?_;walk_at "r";refine ⟨SD,?_⟩;walk_at "r";refine cL ((Ad.keep k2).ord) λord ns o1 o2 o3 o4=>?_;refine uG G o1 o2 (Nat.lt_of_le_of_lt o4 (by decide)) (λD vs nn k C3 I4 hD KH hia jX=>?_)
    walk_at "r";refine bO ⟨k,KH⟩ (λai Ao=>?_);refine bX (vs:=vs) G Ao (λrest m C'=>A4 (C'=C3) (m "self"=some (.ref a)) (m "parents"=some (.ref pa)) (m "iv"=some (.ref b')) (∃ ks,IntsAre rest ks∧∀ p∈ks,p∈ps)) ?_ ?_ ?_ ?_
    ·rintro rest m C' ⟨rfl,-⟩;exact ⟨k,KH⟩
    ·exact ⟨rfl,by walk_at "nm",by walk_at "nm",by walk_at "nm",nn,hia,λp h=>(jX.trans o3).mem_iff.mp h⟩
    ·intro E u' UJ m' C4 _ q0 J2 Xi;walk_at "bh";obtain ⟨rfl,fu,Mw,Sv,ks,Ku,jy⟩:=q0;walk_at "ch";cases Ku with
     | @cons p tp Ye N3 FW =>
      have OI:=fC.keep (aq.of_sub (fp:=λz9=>0) I4);walk_at "bh";obtain ⟨d4,q4,u1,u2,u3,y1,y2,y3⟩:=id OI;walk_at "ch";walk_at "r";refine cJ ?_;walk_at "r";refine eS G (lD OI) ?_;walk_at "r";refine ⟨by have:=tK p (jy p (.head _)); unfold hits at this; refine ae this ?_; rfl,?_⟩;walk_at "r";exact ⟨rfl,by walk_at "nm",by walk_at "nm",by walk_at "nm",N3,FW,λp' h=>jy p' (.tail _ h)⟩
    ·intro E m' C4 q0;walk_at "bh";obtain ⟨rfl,fu,Mw,Sv,-⟩:=q0;walk_at "ch";walk_at "r";exact ⟨λz o e=>I4 _ _ (hs _ _ e),by walk_at "nm",by walk_at "nm",bs,gv,rfl,gR.keep (aq.of_sub (fp:=λz9=>0) I4),λiv h=>aX iv (.tail _ h)⟩
  ·intro E m C2 q0;walk_at "bh";obtain ⟨hs,yl,I6,-⟩:=q0;walk_at "ch";have k2:aq f1 C1 C2:=aq.of_sub hs;have CC:=ah.keep (f:=λz9=>0) (aq.of_sub hs) g1 λz9 z8=>rfl
   have gj:=Ad.keep k2;have D7:=k1.trans k2 o1.2;have qq:=uY.trans (More.of_sub hs);clear hn hm gk qY h1 h2 h3 m1 m2 m3 m4 m5 m6 Ad k1 k2 hs uY g1;walk_at "st";walk_at "st";refine bq (W.mid (λfw m' C3=>A4 (fw=.next) (m' "self"=some (.ref a)) (m' "parents"=some (.ref pa)) (dE C fp (.node x ms l r d b) (.ref a) C3) (eE (S2 P) C3 pa ps)) (λQm qx=>?_) ?_)
   ·walk_at "bh";obtain ⟨a',da,s,fs,vl,vr,fl,fr,tx,ea,hn,hm,gk,qY,aM⟩:=id CC;walk_at "ch";replace ea:=PySem.Value.ref.inj ea; subst ea;have ky:=gk.dep.handed;have nM:=qY.dep.handed;walk_at "bh";obtain ⟨h1,od,td,tb,h2,h3⟩:=id hn;walk_at "ch";walk_at "r";refine eT G hn ky nM ?_ (Qe rfl);refine bG G gk.dep ?_;refine ae gk.isNode ?_;cases l with
    | nil =>
     refine bN (by decide) ?_;walk_at "r";exact ⟨rfl,by walk_at "nm",by walk_at "nm",⟨f1,CC,o1,D7,qq⟩,gj⟩
    | node xl Y9 ll lr dl bl =>
     walk_at "bh";obtain ⟨al,T_,sl,fsl,O4,Yi,fll,flr,Yl,rfl,nn,-⟩:=id gk;walk_at "ch";walk_at "bh";obtain ⟨YZ,no,UO,UP,YY,YX⟩:=id nn;walk_at "ch";refine cq rfl ?_;walk_at "r";refine cJ ?_;walk_at "r";refine eT G hn ky nM ?_ (Qe rfl);walk_at "r";refine ⟨I2,?_⟩;walk_at "r";refine eT G hn ky nM ?_ (Qe rfl);walk_at "r";refine gC gj ?_;walk_at "r";refine bH (vs:=[Value.int x tx]) (λD hD=>?_) (by simp [sizeLine_eq]);walk_at "r";have sD:=aB (o:=listOf [Value.int x tx].toArray 0) hD;have I7:pa≠D:=λe=>by
      refine aF gj λo ho z9=>?_; clear gj
      rw [e] at ho; exact bo hD ho
     refine xS G (gj.sub sD) (Ad (.inl rfl)) ⟨xg,L7⟩ L5 (af _ _ _) I7 (λbu ou Ta RK=>?_);have sU:∀ z o,C2 z=some o->upd (upd C2 D (listOf [Value.int x tx].toArray 0)) bu ou z=some o:=λz o e=>aB Ta _ _ (sD _ _ e)
     generalize upd (upd C2 D (listOf [Value.int x tx].toArray 0)) bu ou=CU at *;walk_at "r";refine aE G (Rb rfl (ah.keep (f:=λz9=>0) (aq.of_sub sU) gk λz9 z8=>rfl) (λz=>by have:=wz z; rw [aM] at this; exact fR (jK this (az (aV au)))) tl Al RK Dl) (λrv C9 q=>?_) (by simp only [T.hgt]; exact Qd λq=>Ql (Qa (Nat.le_max_left (1+max ll.hgt lr.hgt) (r.hgt)) (Qa (Nat.le_max_left (1+max ll.hgt lr.hgt) (r.hgt)) q)));have q2:=vj (c:=false) hn hm qY (λz=>by exact ae (aM _) (by walk_at "A")) wz (q.2.after (aq.of_sub sU) (More.of_sub sU));have kp:aq fl C2 C9:=by
      obtain ⟨_,_,_,k,_⟩:=q.2;exact (aq.of_sub (fp:=fl) sU).trans k λz w=>.inl w
     walk_at "r";exact ⟨rfl,by walk_at "nm",by walk_at "nm",q2.behind o1.2 D7 qq,gj.keep kp⟩
   clear o1 D7 qq CC gj wz aM;intro fw m3 C2 q0;walk_at "bh";obtain ⟨rfl,yl,I6,⟨f1,CC,o1,D7,qq⟩,gj⟩:=q0;walk_at "ch";have wz:=o1.1;walk_at "st";refine bq (W.mid (λfw m' C3=>A4 (fw=.next) (m' "self"=some (.ref a)) (m' "parents"=some (.ref pa)) (dE C fp (.node x ms l r d b) (.ref a) C3) (eE (S2 P) C3 pa ps)) (λQm qx=>?_) ?_)
   ·walk_at "bh";obtain ⟨a',da,s,fs,vl,vr,fl,fr,tx,ea,hn,hm,gk,qY,aM⟩:=id CC;walk_at "ch";replace ea:=PySem.Value.ref.inj ea; subst ea;have ky:=gk.dep.handed;have nM:=qY.dep.handed;walk_at "bh";obtain ⟨h1,od,td,tb,h2,h3⟩:=id hn;walk_at "ch";walk_at "r";refine gB G hn ky nM ?_ (Qe rfl);refine bG G qY.dep ?_;refine ae qY.isNode ?_;cases r with
    | nil =>
     refine bN (by decide) ?_;walk_at "r";exact ⟨rfl,by walk_at "nm",by walk_at "nm",⟨f1,CC,o1,D7,qq⟩,gj⟩
    | node xl Y9 ll lr dl bl =>
     walk_at "bh";obtain ⟨al,T_,sl,fsl,O4,Yi,fll,flr,Yl,rfl,nn,-⟩:=id qY;walk_at "ch";walk_at "bh";obtain ⟨YZ,no,UO,UP,YY,YX⟩:=id nn;walk_at "ch";refine cq rfl ?_;walk_at "r";refine cJ ?_;walk_at "r";refine gB G hn ky nM ?_ (Qe rfl);walk_at "r";refine ⟨My,?_⟩;walk_at "r";refine gB G hn ky nM ?_ (Qe rfl);walk_at "r";refine gC gj ?_;walk_at "r";refine bH (vs:=[Value.int x tx]) (λD hD=>?_) (by simp [sizeLine_eq]);walk_at "r";have sD:=aB (o:=listOf [Value.int x tx].toArray 0) hD;have I7:pa≠D:=λe=>by
      refine aF gj λo ho z9=>?_; clear gj
      rw [e] at ho; exact bo hD ho
     refine xS G (gj.sub sD) (Ad (.inr rfl)) ⟨xg,L7⟩ L5 (af _ _ _) I7 (λbu ou Ta RK=>?_);have sU:∀ z o,C2 z=some o->upd (upd C2 D (listOf [Value.int x tx].toArray 0)) bu ou z=some o:=λz o e=>aB Ta _ _ (sD _ _ e)
     generalize upd (upd C2 D (listOf [Value.int x tx].toArray 0)) bu ou=CU at *;walk_at "r";refine aE G (zY rfl (ah.keep (f:=λz9=>0) (aq.of_sub sU) qY λz9 z8=>rfl) (λz=>by have:=wz z; rw [aM] at this; exact fR (jK this (aV au))) tr OG RK SW) (λrv C9 q=>?_) (by simp only [T.hgt]; exact Qd λq=>Ql (Qa (Nat.le_max_right (l.hgt) (1+max ll.hgt lr.hgt)) (Qa (Nat.le_max_right (l.hgt) (1+max ll.hgt lr.hgt)) q)));have q2:=vj (c:=true) hn hm gk aM wz (q.2.after (aq.of_sub sU) (More.of_sub sU));have kp:aq fr C2 C9:=by
      obtain ⟨_,_,_,k,_⟩:=q.2;exact (aq.of_sub (fp:=fr) sU).trans k λz w=>.inl w
     walk_at "r";exact ⟨rfl,by walk_at "nm",by walk_at "nm",q2.behind o1.2 D7 qq,gj.keep kp⟩
   clear o1 D7 qq CC gj wz;intro fw m3 C2 q0;walk_at "bh";obtain ⟨rfl,yl,I6,hq,-⟩:=q0;walk_at "ch";walk_at "r";exact ⟨rfl,hq⟩
end
section
noncomputable def nF (ivs:List Iv) (t:T):Bool:=decide ((dh [] t).length=ivs.length) && (dh [] t).all λi=>decide (i∈ivs)
theorem P5:isIn (KK P) (.ref 279) 279=true:=by kernel_rfl
theorem d6.sub {S:Setup}{C C':Led}{d:Addr}{kvs:List (Int×Value)} (h:d6 S C d kvs) (k:∀ z o,C z=some o->C' z=some o):d6 S C' d kvs:=let ⟨lo,o,ho,hi⟩:=h; ⟨lo,o,k _ _ ho,hi⟩
theorem xI.sub {S:Setup}{C C':Led}{a:Addr}{Sf:Int->Bool}{n:Nat} (h:xI S C a Sf n) (k:∀ z o,C z=some o->C' z=some o):xI S C' a Sf n:=let ⟨lo,o,ho,hi⟩:=h; ⟨lo,o,k _ _ ho,hi⟩
theorem eF.keys {kvs:List (Int×Value)}{ps:List (Int×Int)} (h:eF kvs ps):kvs.map (·.1)=ps.map (·.1):=by
 induction h with
 | nil=>rfl
 | cons _ ih=>simp [ih]
theorem xD {ps:List (Int×Int)}{k:Int} (h:k∈ps.map (·.1)):bt ps k≠none:=by
 refine aF (List.mem_map.mp h) λp hp ak=>?_; subst ak
 unfold bt;intro e;rw [Option.map_eq_none_iff,List.find?_eq_none] at e;exact e p hp (by simp)
theorem P2:notFirst (KK P) 122 (.ref 122)=true:=by kernel_rfl
theorem GB {kvs Cd:List (Int×Value)} (h:(kvs.map (·.1)).Nodup) (h':(Cd.map (·.1)).Nodup) (e:∀ k,k∈kvs.map (·.1)↔k∈Cd.map (·.1)):(kvs.map (·.1)).length=(Cd.map (·.1)).length :=
 Nat.le_antisymm (h.length_le_of_subset λk q=>(e k).mp q) (h'.length_le_of_subset λk q=>(e k).mpr q)
theorem ru {ps:List (Int×Int)}{k:Int}:k∈ps.map (·.1)↔bt ps k≠none:=by
 refine ⟨xD,λh=>Classical.byContradiction λq=>h ?_⟩;unfold bt;refine ae (propext Option.map_eq_none_iff) (ae (propext List.find?_eq_none) ?_);intro p hp w;exact q (List.mem_map.mpr ⟨p,hp,by simpa using w⟩)
theorem d6.nodup {S:Setup}{C:Led}{d:Addr}{kvs:List (Int×Value)} (h:d6 S C d kvs):(kvs.map (·.1)).Nodup:=by
 refine ck h λz9 o z8 ak=>?_; clear h; refine dB ak λes ep aZ=>?_; clear ak; refine d9 aZ λhx hd hk hp hn=>?_; clear aZ
 exact hn
theorem mO {l:List Int} (h:l.Nodup):kinds l=l.length:=by
 have key:∀ (l acc:List Int),(acc++l).Nodup->(l.foldl step_dedup acc).length=acc.length+l.length:=by
  intro l;induction l with
  | nil=>intro acc _; rfl
  | cons a l ih =>
   intro acc hn;have ha:a ∉ acc:=λq=>by
    have:=(List.nodup_append.mp hn).2.2 a q a (.head _);exact this rfl
   have e:step_dedup acc a=acc++[a]:=by unfold step_dedup; simp [ha]
   rw [List.foldl_cons,e,ih _ (by rw [List.append_assoc]; exact hn)];simp only [List.length_append,List.length_cons,List.length_nil];exact (by walk_at "A")
 simpa [kinds] using key l [] (by simpa using h)
theorem mv:∀ {ps:List (Int×Int)},(ps.map (·.1)).Nodup->∀ p∈ps,bt ps p.1=some p.2
 | [],_,p,h=>by cases h
 | q::ps,hn,p,h=>by
  rw [List.map_cons,List.nodup_cons] at hn;rcases List.mem_cons.mp h with rfl | h
  ·simp [bt]
  ·have ne:q.1≠p.1:=λe=>hn.1 (e▸List.mem_map_of_mem h)
   have:=mv hn.2 p h;simpa [bt,ne] using this
inductive GG (P:e_) (C:Led) (x:Addr) (fp:FP) (ivs:List Iv) (t:T) (ps:List (Int×Int)) (C':Led):Prop
 | mk:∀ fp',g9 P C' x fp' ivs t ps->(∀ z,fp' z≤1)->(∀ z,fp' z≠0->fp z≠0∨C z=none)->dZ C' 67->aq (λz=>fp z+one 67 z) C C'->More C C'->GG P C x fp ivs t ps C'
theorem IU {C:Led}{x:Addr}{fp:FP}{ivs:List Iv}{t:T}{ps:List (Int×Int)} (jZ:P.gn=AllBare) (hit:g9 P C x fp ivs t ps) (aL:∀ z,fp z≤1) (Ar:dZ C 67) (KN:fp 67=0) (hz:ivs.length≤100) (Of:ps.length≤300) (Oe:t.size≤300)
  (CB:t.told) (Aj:KS t []) (Jv:t.hgt≤5) (M3:t.ht≤5) (hk:∀ k,bt ps k=bt (bounds ivs) k) (fQ:ivs.isEmpty=t.isNil) (CH:ivs.isEmpty=false->nF ivs t=true) (o_:∀ i∈ivs,i.1 < i.2.1) (JD:nR t []=true) :
  Spec (S2 P) 60 (.ref 811) [.ref x] [] C λrv C'=>rv=.none∧GG P C x fp ivs t ps C':=by
 walk_at "bh";obtain ⟨dx,od,a,fa,v,ft,d,hx,bC,hf,hm,ht,hd,aM⟩:=id hit;walk_at "ch";walk_at "bh";obtain ⟨dm,om,rm,am,m1,m2,m3,m4,m5,m6⟩:=id hm;walk_at "ch";refine' ax (n:=59) (binds:=[("self",.ref x)]) ?ho ?hb ?hp ?_;walk_at "D";walk_at "r";refine d8 G hm (Qb hz (Nat.le_add_left 100 999900)) ?_;cases Ks:ivs.isEmpty
 rotate_left
 ·refine bN (by decide) ?_;rw [Ks] at fQ;have uh:ps=[]:=by
   cases ps with
   | nil=>rfl
   | cons p ps =>
    have:=hk p.1;rw [List.isEmpty_iff.mp Ks] at this;simp [bt,bounds] at this
  refine aF hd λkvs lS hd2=>?_;rw [uh] at hd2
  cases hd2;walk_at "r";refine cJ ?_;walk_at "r";refine rR lS (by simp) ?_;refine mN ?_;refine ⟨rfl,?_⟩;walk_at "r";refine cJ ?_;cases t with
  | node=>exact EB fQ
  | nil =>
   refine aS ht λak z9=>?_; subst ak
   walk_at "r";refine ⟨rfl,?_⟩;walk_at "r";exact ⟨rfl,fp,hit,aL,λz q=>.inl q,Ar,.refl,.refl⟩
 ·rw [Ks] at fQ;have hsm:=CH Ks;refine cq rfl ?_;obtain ⟨xc,ms,l,r,td,tb,rfl⟩:∃ xc ms l r td tb,t=.node xc ms l r td tb:=by
   cases t with
   | nil=>exact mi fQ
   | node xc ms l r td tb=>exact ⟨xc,ms,l,r,td,tb,rfl⟩
  walk_at "bh";obtain ⟨av,dav,s,fs,vl,vr,fl,fr,tx,rfl,hn,-⟩:=id ht;walk_at "ch";walk_at "bh";obtain ⟨n1,no,UO,UP,n2,n3⟩:=id hn;walk_at "ch";refine bq (W.mid (λfw m' C2=>A4 (fw=.next) (m' "self"=some (.ref x)) (dZ C2 67) (aq (one 67) C C2) (More C C2)) (λQm qx=>?_) ?_)
  ·refine cJ ?_;walk_at "r";refine aE G (AF fQ.symm ht (Qb Oe (Nat.le_add_left 300 700))) (λrv C1 q=>?_);walk_at "bh";obtain ⟨y,fy,rfl,hy0,hy,hfy,hs⟩:=q;walk_at "ch";have ug:=hs _ _ hx;have Ai:=hs _ _ bC;have vZ:=hm.keep (fp':=λz9=>0) (aq.of_sub hs) λz9 z8=>rfl
   have TG:=Ar.keep (fp:=λz9=>0) (aq.of_sub hs) rfl;walk_at "bh";obtain ⟨dy,oy,ry,ay,y1,y2,y3,y4,y5,y6⟩:=id hy;walk_at "ch";have hlen:(dh [] (.node xc ms l r td tb)).length≤300:=by
    have:=gH (.node xc ms l r td tb) [];simp only [List.length_nil] at this; exact Qd λq=>Ql (Qa Oe (Qa this q))
   walk_at "r";refine GS (n:=21) (G.le (Qe rfl)) y1 y2 (λM F s R=>kK R (hs _ _ m1)) P2 Fj rfl ((Gz jZ hy vZ TG (Qb hlen (Nat.le_add_left 300 700)) (Qb hz (Nat.le_add_left 100 900))).mono (R':=λv C'=>v≠.notImplemented∧ud (v=.bool (nF ivs (.node xc ms l r td tb))) (dZ C' 67) (aq (one 67) C1 C') (More C1 C')) λv C' q=>⟨(by refine ae q.1 ?_; intro e; injection e),q⟩) λrv C2 q=>?_;walk_at "bh"
   obtain ⟨rfl,q1,q2,q3⟩:=q;walk_at "ch";refine ae hsm ?_;walk_at "r";exact ⟨rfl,qx.h _ _ _ ⟨rfl,by walk_at "nm",q1,(aq.of_sub hs).trans q2 λz q=>.inl q,(More.of_sub hs).trans q3⟩⟩
  intro fw m2' C2 q0;walk_at "bh";obtain ⟨rfl,yl,O_,k2,LB⟩:=q0;walk_at "ch";have xw:=hit.keep k2 λz q=>aG λe=>q (by rw [e]; exact KN)
  clear hx bC hf hm ht hd aM m1 m2 m3 m4 m5 n1 n2 n3 hn hit;walk_at "bh";obtain ⟨dx,od,a,fa,v,ft,d,tH,Dg,hf,qZ,CC,JA,aM⟩:=id xw;walk_at "ch";walk_at "bh";obtain ⟨dm2,om2,rm2,KQ,g1,g2,g3,g4,g5,g6⟩:=id qZ;walk_at "ch";walk_at "st";refine bq (W.mid (λfw m' C3=>fw=.next∧m' "self"=some (.ref x)∧C3=C2) (λQm qx=>?_) ?_)
  ·walk_at "r";refine ir tH Dg hf g1 g2 g3 g4 G (Qe rfl) (λbb Ej=>?_);refine bX (vs:=KQ.map Value.ref) G Ej (λrest m C'=>C'=C2∧m "self"=some (.ref x)∧∃ bV aK,rest=bV.map Value.ref∧aP C2 bV aK) ?_ ?_ ?_ ?_
   ·rintro rest m C' ⟨rfl,-⟩;exact g4
   ·exact ⟨rfl,by walk_at "nm",KQ,ivs,rfl,g5⟩
   ·rintro E' vv rest m' C4 - ⟨rfl,fu,bV,aK,hr,hi⟩ J hJ;cases hi with
    | nil=>cases hr
    | @cons b' jv bs gv fC gR =>
     simp only [List.map_cons,List.cons.injEq] at hr;refine aS hr λak aZ=>?_; clear hr; subst ak; subst aZ
     walk_at "bh";obtain ⟨dj,oj,EA,Ez,Ey,j1,j2,j3⟩:=id fC;walk_at "ch";walk_at "r";refine cJ ?_;walk_at "r";refine ib G j1 P5 ?_;walk_at "r";refine ⟨rfl,?_⟩;walk_at "r";exact ⟨rfl,by walk_at "nm",bs,gv,rfl,gR⟩
   ·rintro E1 m' C4 ⟨rfl,fu,-⟩;walk_at "r";exact ⟨rfl,fu,rfl⟩
  rintro fw m3 C3 ⟨rfl,RD,e⟩;obtain rfl:C2=C3:=e.symm;clear e;walk_at "st";refine bq (W.mid (λfw m' C3=>fw=.next∧m' "self"=some (.ref x)∧C3=C2) (λQm qx=>?_) ?_)
  ·walk_at "r";refine ir tH Dg hf g1 g2 g3 g4 G (Qe rfl) (λbb Ej=>?_);refine bX (vs:=KQ.map Value.ref) G Ej (λrest m C'=>C'=C2∧m "self"=some (.ref x)∧∃ bV aK,rest=bV.map Value.ref∧aP C2 bV aK∧∀ iv∈aK,iv∈ivs) ?_ ?_ ?_ ?_
   ·rintro rest m C' ⟨rfl,-⟩;exact g4
   ·exact ⟨rfl,by walk_at "nm",KQ,ivs,rfl,g5,λz9 h=>h⟩
   ·rintro E' vv rest m' C4 - ⟨rfl,fu,bV,aK,hr,hi,jy⟩ J hJ;cases hi with
    | nil=>injection hr
    | @cons b' jv bs gv fC gR =>
     simp only [List.map_cons,List.cons.injEq] at hr;refine aS hr λak aZ=>?_; clear hr; subst ak; subst aZ
     walk_at "bh";obtain ⟨dj,oj,EA,Ez,Ey,j1,j2,j3⟩:=id fC;walk_at "ch";walk_at "r";refine cJ ?_;walk_at "r";refine eS G (l6 fC) ?_;have Sd:=o_ jv (jy jv (.head _));refine ae (decide_eq_false (Int.not_le_of_gt Sd:¬ jv.2.1≤jv.1)) ?_;walk_at "r";refine ⟨rfl,?_⟩;walk_at "r";exact ⟨rfl,by walk_at "nm",bs,gv,rfl,gR,λiv h=>jy iv (.tail _ h)⟩
   ·rintro E1 m' C4 ⟨rfl,fu,-⟩;walk_at "r";exact ⟨rfl,fu,rfl⟩
  rintro fw m4 C3 ⟨rfl,RC,e⟩;obtain rfl:C2=C3:=e.symm;clear e;walk_at "r";refine si G (λdb C3 W2 Xr hdi=>?_);refine aQ Xr λo3 ak=>?_; clear Xr; subst ak
  have s3:∀ o,∀ z y,C2 z=some y->upd C2 db o z=some y:=λo=>aB W2
  walk_at "st";walk_at "st";refine bq (W.mid (λfw m' C4=>A4 (fw=.next) (m' "self"=some (.ref x)) (m' "bound_check"=some (.ref db)) ((∃ o,C4=upd C2 db o)) (dn (S2 P) C4 db (bounds ivs))) (λQm qx=>?_) ?_)
  ·walk_at "r";refine ir (s3 _ _ _ tH) (s3 _ _ _ Dg) hf (s3 _ _ _ g1) (s3 _ _ _ g2) g3 (g4.imp λk hk=>s3 _ _ _ hk) G (Qe rfl) (λbb Ej=>?_);refine bX (vs:=KQ.map Value.ref) G Ej (λrest m C'=>ud ((∃ o,C'=upd C2 db o)) (m "self"=some (.ref x)) (m "bound_check"=some (.ref db)) (∃ bV aK pre,ud (rest=bV.map Value.ref) (aP C2 bV aK) (ivs=pre++aK) (dn (S2 P) C' db (bounds pre)))) ?_ ?_ ?_ ?_
   ·rintro rest m C' ⟨⟨o,rfl⟩,-⟩;exact g4.imp λk hk=>s3 _ _ _ hk
   ·exact ⟨⟨o3,rfl⟩,by walk_at "nm",by walk_at "nm",KQ,ivs,[],rfl,g5,rfl,⟨[],hdi,.nil⟩⟩
   ·rintro E' vv rest m' _ - ⟨⟨o,rfl⟩,fu,JH,bV,aK,pre,hr,hi,xo,pE⟩ J hJ;cases hi with
    | nil=>injection hr
    | @cons b' jv bs gv fC gR =>
    simp only [List.map_cons,List.cons.injEq] at hr;refine aS hr λak aZ=>?_; clear hr; subst ak; subst aZ
    have OI:=fC.keep (aq.of_sub (fp:=λz9=>0) (s3 o));walk_at "bh";obtain ⟨dj,oj,EA,Ez,Ey,j1,j2,j3⟩:=id OI;walk_at "ch";have jx:(bounds pre).length≤2 * pre.length:=fz pre;have lz:pre.length≤100:=by rw [xo,List.length_append] at hz; exact Qb (by walk_at "A") hz
    refine aF pE λUS iP kI=>?_;walk_at "st"
    walk_at "st";refine bq (W.mid (λfw m' C5=>HJ (fw=.next) (m' "self"=some (.ref x)) (m' "bound_check"=some (.ref db)) (m' "iv"=some (.ref b')) ((∃ o,C5=upd C2 db o)) (dn (S2 P) C5 db (bump (bounds pre) jv.1))) (λQm qx=>?_) ?_)
    ·walk_at "r";refine iX iP ?_;walk_at "r";rcases kI.at jv.1 with ⟨v1,v2⟩ | ⟨c,tc,v1,v2⟩
     ·refine ae v1 ?_;refine bN (by decide) ?_;walk_at "r";refine cV pE (Qd λq=>Ql (Qa q (Qa jx (Qa lz lz)))) (by refine ae v2 ?_; rfl) (λC6 ⟨o6,e6⟩ Ei=>?_);walk_at "r";exact ⟨rfl,by walk_at "nm",by walk_at "nm",by walk_at "nm",⟨o6,by refine ae e6 ?_; exact cQ⟩,Ei⟩
     ·refine ae v1 ?_;refine cq rfl ?_;walk_at "r";refine fj iP v1 ?_;walk_at "r";refine oF (λt4=>?_);walk_at "r";refine cV pE (Qd λq=>Ql (Qa q (Qa jx (Qa lz lz)))) (by refine ae v2 ?_; rfl) (λC6 ⟨o6,e6⟩ Ei=>?_);walk_at "r";exact ⟨rfl,by walk_at "nm",by walk_at "nm",by walk_at "nm",⟨o6,by refine ae e6 ?_; exact cQ⟩,Ei⟩
    clear iP kI j1 j2 j3 dj oj US;rintro fw m5 C5 ⟨rfl,RB,hbc5,hiv5,⟨o5,rfl⟩,Dk⟩;have hb5:=fC.keep (aq.of_sub (fp:=λz9=>0) (s3 o5));walk_at "bh";obtain ⟨dj,oj,EA,Ez,Ey,j1,j2,j3⟩:=id hb5;walk_at "ch";have Hl:=lG (bounds pre) jv.1;refine aF Dk λUS iP kI=>?_;walk_at "st"
    refine bq (W.mid (λfw m' C5=>HJ (fw=.next) (m' "self"=some (.ref x)) (m' "bound_check"=some (.ref db)) (m' "iv"=some (.ref b')) ((∃ o,C5=upd C2 db o)) (dn (S2 P) C5 db (bump (bump (bounds pre) jv.1) jv.2.1))) (λQm qx=>?_) ?_)
    ·walk_at "r";refine iX iP ?_;walk_at "r";rcases kI.at jv.2.1 with ⟨v1,v2⟩ | ⟨c,tc,v1,v2⟩
     ·refine ae v1 ?_;refine bN (by decide) ?_;walk_at "r";refine cV Dk (Qd λq=>Ql (Qa q (Qa Hl (Qa jx (Qa lz lz))))) (by refine ae v2 ?_; rfl) (λC6 ⟨o6,e6⟩ Ei=>?_);walk_at "r";exact ⟨rfl,by walk_at "nm",by walk_at "nm",by walk_at "nm",⟨o6,by refine ae e6 ?_; exact cQ⟩,Ei⟩
     ·refine ae v1 ?_;refine cq rfl ?_;walk_at "r";refine fj iP v1 ?_;walk_at "r";refine oF (λt4=>?_);walk_at "r";refine cV Dk (Qd λq=>Ql (Qa q (Qa Hl (Qa jx (Qa lz lz))))) (by refine ae v2 ?_; rfl) (λC6 ⟨o6,e6⟩ Ei=>?_);walk_at "r";exact ⟨rfl,by walk_at "nm",by walk_at "nm",by walk_at "nm",⟨o6,by refine ae e6 ?_; exact cQ⟩,Ei⟩
    rintro fw m6 C6 ⟨rfl,I3,Tg,hiv6,MC,Nd⟩;walk_at "r";refine ⟨MC,I3,Tg,bs,gv,pre++[jv],rfl,gR,by refine ae xo ?_; simp,?_⟩;rw [show bounds (pre++[jv])=bump (bump (bounds pre) jv.1) jv.2.1 by simp [bounds,List.foldl_append]];exact Nd
   ·rintro E' m' _ ⟨⟨o,rfl⟩,fu,JH,bV,aK,pre,hr,hi,xo,pE⟩;cases hi with
    | cons _ _=>cases hr
    | nil =>
     rw [List.append_nil] at xo;subst xo;walk_at "r";exact ⟨rfl,fu,JH,⟨o,rfl⟩,pE⟩
  rintro fw m7 _ ⟨rfl,RA,hbc7,⟨o7,rfl⟩,Hs⟩;have s7:=s3 o7;generalize upd C2 db o7=CA at *;have iJ:dn (S2 P) CA d ps:=by
   refine aF JA λkv ak hv=>?_; clear JA; obtain ⟨lo,o,ho,hi⟩:=ak
   exact ⟨kv,⟨lo,o,s7 _ _ ho,hi⟩,hv⟩
  refine aF iJ λkA Hz OW=>?_;walk_at "bh"
  obtain ⟨kB,Gj,TB⟩:=id Hs;walk_at "ch";have lA:=OW.len;have lB:=TB.len;have lB':(bounds ivs).length≤2 * ivs.length:=fz ivs;have Wf:=s7 _ _ tH;have M_:=s7 _ _ Dg;refine bq (W.mid (λfw m' C9=>fw=.next∧m'=m7∧∀ z o,CA z=some o->C9 z=some o) (λQm qx=>?_) ?_)
  ·refine cJ ?_;walk_at "r";refine gT Hz ?_;walk_at "r";refine oH Hz (λv1 vq=>?_);walk_at "r";refine qJ G (Hz.sub (aB vq)) (af _ _ _) (Qd λq=>Ql (Qa Of (Qa (Qc lA) q))) (λq1 C8 Mu Xq Mg=>?_);have s8:∀ z o,CA z=some o->C8 z=some o:=λz o e=>by
    obtain ⟨o8,rfl⟩:=Xq;exact aB Mu _ _ (aB vq _ _ e)
   clear Xq Mu;walk_at "r";refine gT (Gj.sub s8) ?_;walk_at "r";refine oH (Gj.sub s8) (λv2 yk=>?_);walk_at "r";refine qJ G ((Gj.sub s8).sub (aB yk)) (af _ _ _) (Qd λq=>Ql (Qa q (Qa (Qc lB) (Qa lB' (Qa hz hz))))) (λq2 C9 Mt TA Mf=>?_);have s9:∀ z o,C8 z=some o->C9 z=some o:=λz o e=>by
    refine aQ TA λo9 ak=>?_; clear TA; subst ak
    exact aB Mt _ _ (aB yk _ _ e)
   clear TA Mt;walk_at "r";refine EM G (Mg.sub s9) Mf (λrr gQ=>?_);have MW:∀ k,k∈kA.map (·.1)↔k∈kB.map (·.1):=λk=>by
    rw [OW.keys,TB.keys,ru,ru,hk k]
   have qY:rr=true:=gQ.mpr ⟨by rw [mO Hz.nodup,mO Gj.nodup]; exact GB Hz.nodup Gj.nodup MW,λk q=>by
    rw [List.any_eq_true] at q ⊢;refine aF q λy hy e=>?_; clear q
    exact ⟨y,(MW y).mp hy,e⟩⟩
   subst qY;walk_at "r";refine ⟨rfl,?_⟩;walk_at "r";exact ⟨rfl,rfl,λz o e=>s9 _ _ (s8 _ _ e)⟩
  rintro fw m8 C9 ⟨rfl,rfl,s9⟩;have Nx:=Hz.sub s9;have Xu:=Gj.sub s9;have hx9:=s9 _ _ Wf;have SO:=s9 _ _ M_;have RL:∀ p∈ps,bt (bounds ivs) p.1=some p.2:=λp hp=>by
   rw [← hk,mv (by exact eI OW.keys Hz.nodup) p hp]
  walk_at "st";refine bq (W.mid (λfw m' Ka=>fw=.next∧m' "self"=some (.ref x)∧∀ z o,C9 z=some o->Ka z=some o) (λQm qx=>?_) ?_)
  ·walk_at "r";refine kT Nx ?_;walk_at "r";refine uO Nx (λv3 I1=>?_);have sV:=aB (o:=jc d) I1;refine oq (af _ _ _) (Nx.sub sV) (λai ep Ao ⟨jT,es,jG,pC⟩=>?_);refine ck (id (Nx.sub sV)) λlo oA Wv hiA=>?_;rw [Wv] at jG
   replace jG:=Option.some.inj jG; replace jG:=Eq.symm jG; subst jG;refine wI G Ao (λrest m C'=>ud (∀ z o,upd C9 v3 (jc d) z=some o->C' z=some o) (m "self"=some (.ref x)) (m "bound_check"=some (.ref db)) (∃ PG,eF rest PG∧∀ p∈PG,bt (bounds ivs) p.1=some p.2)) (λrest m C' q=>q.1 _ _ Wv) hiA ⟨es,pC⟩ ?_ ?_ ?_
   ·exact ⟨λz9 z8 e=>e,by walk_at "nm",by walk_at "nm",ps,OW,RL⟩
   ·rintro E1 kk vv rest m' C' T tT - ⟨D_,fu,JH,PG,SU,W0⟩ hT J hJ;cases SU with
    | @cons _ c tc _ PF SS =>
    have sT:=aB (o:=bU [Value.int kk tT,Value.int c tc] 0) hT;refine eJ G ⟨0,af _ _ _⟩ (bc (aW ?_));walk_at "st";refine bc (aW ?_);walk_at "st";refine js ?_;have Pl:∀ z o,C9 z=some o->upd C' T (bU [Value.int kk tT,Value.int c tc] 0) z=some o:=λz o e=>sT _ _ (D_ _ _ (sV _ _ e))
    have TC:=Xu.sub Pl;have hc:=W0 _ (.head _);walk_at "r";refine cJ ?_;walk_at "r";rcases TB.at kk with ⟨v1,v2⟩ | ⟨c',tc',v1,v2⟩
    ·exact bo v2 hc
    rw [v2] at hc;replace hc:=Option.some.inj hc; subst hc;refine y_ TC v1 ?_;walk_at "r";refine ⟨by simp,?_⟩;walk_at "r";exact ⟨λz o e=>sT _ _ (D_ _ _ e),by walk_at "nm",by walk_at "nm",PF,SS,λp hp=>W0 p (.tail _ hp)⟩
   ·rintro E1 m' C' ⟨D_,fu,-⟩;walk_at "r";exact ⟨rfl,fu,λz o e=>D_ _ _ (sV _ _ e)⟩
  rintro fw m10 Ka ⟨rfl,Om,YE⟩;have sA:∀ z o,C2 z=some o->Ka z=some o:=λz o e=>YE _ _ (s9 _ _ (s7 _ _ e))
  have P6:aq (λz9=>0) C2 Ka:=aq.of_sub sA;have MY:=xw.keep P6 λz9 z8=>rfl
  have K0:=O_.keep P6 rfl;clear xw tH Dg qZ CC JA aM g1 g2 g3 g4 g5 g6 hf hx9 SO Wf M_ iJ Hs Nx Xu Hz Gj;walk_at "bh";obtain ⟨dx,od,a,fa,v,ft,d,hx,bC,hf,hm,ht,hd,aM⟩:=id MY;walk_at "ch";walk_at "bh";obtain ⟨av',dav',s',gA,AJ,AI,Gy,uk,tx',eav,RU,-⟩:=id ht;walk_at "ch";cases eav;walk_at "bh";obtain ⟨c1,YV,O8,Uz,c2,c3⟩:=id RU;walk_at "ch";walk_at "r";refine H3 (λpa UL hpa Mv=>?_);have Pm:=aB (o:=UL) hpa;walk_at "r";have k11:aq (λz9=>0) Ka (upd Ka pa UL):=aq.of_sub Pm;refine aE G (wR _ rfl (ht.keep k11 λz9 z8=>rfl) (λz=>by have:=aL z; rw [aM] at this; exact fR (jK this (az (aV au)))) CB Aj Mv JD) (λrv C12 q=>?_) (Qd λq=>Ql (Qa q (Qa Jv Jv)));have YM:=FD hx bC hf hm hd aM aL (q.2.after (aq.of_sub Pm) (More.of_sub Pm));walk_at "bh";obtain ⟨f2,zW,s2,o2,U0,PV⟩:=YM;walk_at "ch";walk_at "r";have LD:More C Ka:=LB.trans (More.of_sub sA);refine ⟨rfl,f2,zW,s2,λz w=>(o2 z w).imp id (LD z),K0.keep U0 KN,((k2.mono λz q=>by exact bj (cH q (aV au))).trans (P6.mono λz q=>rfl) λz w=>.inl w).trans (U0.mono λz q=>by omega) (λz w=>.inl (by show fp z+one 67 z≠0; exact bK (cj w (az au)))),LD.trans PV⟩
end
section
noncomputable def iE (C:Led) (a:Addr) (iv:Iv):Prop:=∃ tb te td k,C a=some (bU [.int iv.1 tb,.int iv.2.1 te,.int iv.2.2 td] k)
inductive aY (C:Led):List Addr->List Iv->Prop
 | nil:aY C [] []
 | cons {a:Addr}{iv:Iv}{as:List Addr}{ivs:List Iv}:iE C a iv->aY C as ivs->aY C (a::as) (iv::ivs)
theorem iE.keep {fp:FP}{C C':Led}{a:Addr}{iv:Iv} (h:iE C a iv) (k:aq fp C C'):iE C' a iv:=let ⟨tb,te,td,n,e⟩:=h; ⟨tb,te,td,n,k _ _ e (.inl (yj _ _))⟩
theorem aY.keep {fp:FP}{C C':Led}{as:List Addr}{ivs:List Iv} (h:aY C as ivs) (k:aq fp C C'):aY C' as ivs:=by
 induction h with
 | nil=>exact .nil
 | cons h _ ih=>exact .cons (h.keep k) ih
theorem aY.len {C:Led}{as:List Addr}{ivs:List Iv} (h:aY C as ivs):as.length=ivs.length:=by
 induction h with
 | nil=>rfl
 | cons _ _ ih=>simp [ih]
theorem aY.snoc {C:Led}{as:List Addr}{ivs:List Iv}{b:Addr}{jv:Iv} (h:aY C as ivs) (hb:iE C b jv):aY C (as++[b]) (ivs++[jv]):=by
 induction h with
 | nil=>exact .cons hb .nil
 | cons h _ ih=>exact .cons h ih
theorem aP.snoc {C:Led}{as:List Addr}{ivs:List Iv}{b:Addr}{jv:Iv} (h:aP C as ivs) (hb:b_ C b jv):aP C (as++[b]) (ivs++[jv]):=h.app (.cons hb .nil)
end
section
theorem Fc (a b:Iv):Fd a b=iq a b:=by
 unfold Fd iq;by_cases h1:a.1=b.1
 ·refine ae (if_pos h1) ?_;by_cases h2:a.2.1=b.2.1
  ·refine ae (if_pos h2) ?_; simp [h1,h2]
  ·refine ae (if_neg h2) ?_; simp [h1,h2]
 ·refine ae (if_neg h1) ?_; simp [h1]
theorem aY.getD {C:Led}{as:List Addr}{ivs:List Iv} (h:aY C as ivs):∀ {i:Nat},i < ivs.length->∃ a,(as.map Value.ref).getD i .none=.ref a∧iE C a (ivs.getD i (0,0,0)):=by
 induction h with
 | nil=>intro i hi; simp at hi
 | @cons a iv as ivs h1 _ ih =>
  intro i hi;cases i with
  | zero=>exact ⟨a,rfl,h1⟩
  | succ i=>exact ih (i:=i) (by simpa using hi)
theorem aY.pick {C:Led}{as:List Addr}{ivs:List Iv} (h:aY C as ivs):∀ {p:List Nat},(∀ i∈p,i < ivs.length)->∃ bs,p.map (λi=>(as.map Value.ref).getD i .none)=bs.map Value.ref∧aY C bs (p.map λi=>ivs.getD i (0,0,0))
 | [],_=>⟨[],rfl,.nil⟩
 | i::p,hp=>by
  refine aF (h.getD (hp i (.head _))) λa e hv=>?_;refine aF (aY.pick h (p:=p) λj hj=>hp j (.tail _ hj)) λbs e' zZ=>?_
  exact ⟨a::bs,by exact ae List.map_cons (ae List.map_cons (ae e (ae e' rfl))),.cons hv zZ⟩
theorem aY.tups {C:Led}{h:Heap} (hC:∀ a o,C a=some o->h.get? a=some o) {as:List Addr}{ivs:List Iv} (r:aY C as ivs):∃ fs,KatTups h (as.map Value.ref) fs∧fs.length=as.length∧∀ v∈fs,∃ i t,v=.int i t:=by
 induction r with
 | nil=>exact ⟨[],.nil,rfl,λz9 h=>by cases h⟩
 | @cons a iv as ivs h1 _ ih =>
  refine bF ih λfs k1 k2 k3=>?_; clear ih
  refine bP h1 λt0 t1 t2 k e=>?_; clear h1
  refine ⟨.int iv.1 t0::fs,KatTups.cons (hC _ _ e) rfl rfl (by rfl) k1,by simp [k2],λv hv=>?_⟩;rcases List.mem_cons.mp hv with rfl | hv
  ·exact ⟨_,_,rfl⟩
  ·exact k3 v hv
theorem h_ {A:Around}{Qg:Heap}{L:Addr}{E:Value->Shared->Prop}{m:Loc}{C:Led}{l:Addr}{as:List Addr}{ivs:List Iv}{Q:Value->Loc->Led->Prop} (hl:cN C l (as.map Value.ref)) (hr:aY C as ivs) (h6:ivs.length≤6)
  (fin:∀ D bs aK C',aK.Perm ivs->dM aK->(∀ z o,C z=some o->C' z=some o)->C D=none->cN C' D (bs.map Value.ref)->aY C' bs aK->Q (.ref D) m C'):W (S2 P) A Qg L E (call (.builtin "sorted") [.ref l]) m C Q:=by
 have hlen:(as.map Value.ref).length=ivs.length:=ae (List.length_map _) (ae hr.len rfl);have gz:∀ E F s Q,Rel (S2 P) Qg L m C F s->(∀ s',Rel (S2 P) Qg L m C F s'->Q (as.map Value.ref) s')->wpAny (model (S2 P).prog (S2 P).w) A.in1 (collect (.ref l)) Q E s:=λE F s Q R hQ=>by
  refine collect_list (R.isList hl) ?_ (by refine ae hlen (ae sizeLine_eq ?_); exact Qb h6 (Nat.le_add_left 6 16777210));obtain ⟨Fo,le,tb,R⟩:=R;have d_:=R.push (seqObj "list" #[] 0);have fD:=R.fresh_size (Nat.le_refl _);generalize s.heap.objs.size=D at *;have di:=d_.hideAt fD.1 fD.2;have ho:=(di.r.N D _ (aT di.d (af _ D _))).1;refine aQ (⟨_,get?_update_seq ho (·++(as.map Value.ref).toArray)⟩:∃ e1,((s.heap.push (seqObj "list" #[] 0)).update D (Obj.mapSeq (·++(as.map Value.ref).toArray))).get? D=some (seqObj "list" (#[]++(as.map Value.ref).toArray) e1)) λe1 pd=>?_;exact hQ _ ⟨Fo,le,tb,(di.hid_change (Heap.SameBut.update _ _ _) pd).hid_drop fD.2 λz9 z8 z7 e=>e⟩
 by_cases h2:ivs.length < 2
 ·refine iV (vs:=as.map Value.ref) (Nat.lt_of_not_le λq=>Ql (Qa (Qc hlen) (Qa (Qf h2) q))) gz λD kk C' hC hD=>?_;have aX:∀ z o,C z=some o->upd C' D (listOf (as.map Value.ref).toArray kk) z=some o:=λz o e=>aB hD z o (hC z o e)
  refine fin D as ivs _ (List.Perm.refl _) ?_ aX ?_ ⟨kk,af _ _ _⟩ (hr.keep (fp:=λz9=>0) (aq.of_sub aX))
  ·exact kN h2
  ·exact More.of_sub hC D hD
 ·refine zb (κ:=tuples' true) (vs:=as.map Value.ref) (G4 ivs) (Qd λq=>Ql (Qa (Qc (Eq.symm hlen)) (Qa (Qd h2) q))) (Qd λq=>Ql (Qa h6 (Qa (Qc hlen) q))) gz (λC' F s Q hC R hQ=>?_) (λi j C' F s Q hi hj hC R hQ=>?_) λD p kk C' hp CI hC hD=>?_
  ·refine bF ((hr.keep (fp:=λz9=>0) (aq.of_sub hC)).tups λa o e=>R.get e) λfs k1 k2 k3=>?_;refine kat_kind (T:=.type "int") k1 (by have:=hr.len; exact Nat.lt_of_not_le λq=>Ql (Qa (Qd h2) (Qa (Qc (Eq.symm k2)) (Qa (Qc (Eq.symm this)) q)))) (λv hv=>?_) (by rfl) ?_
   ·refine dB (k3 v hv) λi t ak=>?_; subst ak
    exact Looks.of_pure rfl
   ·exact hQ s R
  ·refine aF (hr.getD (i:=i) (Nat.lt_of_not_le λq=>Ql (Qa (Qc hlen) (Qa (Qf hi) q)))) λa ea ha=>?_;refine aF (hr.getD (i:=j) (Nat.lt_of_not_le λq=>Ql (Qa (Qc hlen) (Qa (Qf hj) q)))) λb eb hb=>?_
   refine bP ha λt0 t1 t2 k e=>?_; clear ha
   refine bP hb λu0 u1 u2 k' e'=>?_; clear hb
   refine ae ea (ae eb ?_);refine HW (R.get (hC _ _ e)) (R.get (hC _ _ e')) ?_;exact ae (Fc _ _) (hQ C' s (λz9 z8 e=>e) R)
  ·have aX:∀ z o,C z=some o->upd C' D (listOf (p.map λi=>(as.map Value.ref).getD i .none).toArray kk) z=some o:=λz o e=>aB hD z o (hC z o e)
   rw [hlen] at hp;refine aF (hr.pick (p:=p) λi hi=>List.mem_range.mp (hp.mem_iff.mp hi)) λbs e1 e2=>?_;rw [e1] at aX ⊢
   refine fin D bs _ _ (l0 _ _ hp) ?_ aX (More.of_sub hC D hD) ⟨kk,af _ _ _⟩ (e2.keep (fp:=λz9=>0) (aq.of_sub aX));exact List.Pairwise.map _ (λz9 z8 h=>h) CI
end
section
noncomputable def J8 (P:e_) (C:Led) (v:Value) (l:Addr):Prop:=∀ {n:Nat}{A:Around}{Qg:Heap}{L:Addr}{E:Value->Shared->Prop}{m:Loc}{env:Env}{Q:Value->Loc->Led->Prop},Gd (S2 P) n A Qg L env->5≤n →
 (∀ a,C a=none->Q (.ref a) m (upd C a (lit l 0)))->W (S2 P) A Qg L E (pyIter v) m C Q
inductive vS (C:Led) (ivs:List Iv) (r:Value) (C':Led):Prop
 | mk:∀ D bs aK,r=.ref D->aK.Perm ivs->dM aK->(∀ z o,C z=some o->C' z=some o)->C D=none->cN C' D (bs.map Value.ref)->aY C' bs aK->vS C ivs r C'
theorem qC {C:Led}{v:Value}{l:Addr}{as:List Addr}{ivs:List Iv} (hit:J8 P C v l) (hl:cN C l (as.map Value.ref)) (dQ:aP C as ivs) (h6:ivs.length≤6):Spec (S2 P) 12 (.ref 873) [v] [] C (vS C ivs):=by
 refine' ax (n:=11) (binds:=[("found",v)]) ?ho ?hb ?hp ?_;walk_at "D";walk_at "r";refine ic G rfl (by decide) rfl (by decide) ?_;walk_at "r";refine hit G (Qe rfl) (λa ha=>?_);refine iz.intro (vs:=as.map Value.ref) ha (by refine ae (List.length_map _) (ae dQ.len ?_); exact Qb h6 (Nat.le_add_left 6 999994))
  (λout rest C'=>(∀ z o,C z=some o->C' z=some o)∧∃ outs kZ bV aK,HJ (out=outs.map Value.ref) (aY C' outs kZ) (rest=bV.map Value.ref) (aP C bV aK) (kZ++aK=ivs) (outs.length+bV.length≤as.length)) ?_ ?_ ?_ ?_
 ·rintro out rest C' ⟨hs,outs,kZ,bV,aK,rfl,-,rfl,-,-,hz⟩;exact ⟨hl.imp λk e=>hs _ _ e,by simpa using hz⟩
 ·exact ⟨λz9 z8 e=>e,[],[],as,ivs,rfl,.nil,rfl,dQ,rfl,by simp⟩
 ·rintro g Lc E' mc C' u rest out G' ⟨hs,outs,kZ,bV,aK,rfl,ho,gQ,hi,hd,hz⟩ J hJ;cases hi with
  | nil=>injection gQ
  | @cons b jv bs gv hb gR =>
   simp only [List.map_cons,List.cons.injEq] at gQ;refine aS gQ λak aZ=>?_; clear gQ; subst ak; subst aZ
   walk_at "bh";obtain ⟨dj,oj,EA,Ez,Ey,j1,j2,j3⟩:=hb.keep (fp:=λz9=>0) (aq.of_sub hs);walk_at "ch";walk_at "r";refine cg (vs:=[Value.int jv.1 EA,Value.int jv.2.1 Ez,Value.int jv.2.2 Ey]) (λT hT=>?_) (by simp [sizeLine_eq]);have sT:=aB (o:=bU [Value.int jv.1 EA,Value.int jv.2.1 Ez,Value.int jv.2.2 Ey] 0) hT;walk_at "r";exact ⟨λz o e=>sT _ _ (hs _ _ e),outs++[T],kZ++[jv],bs,gv,by simp,(ho.keep (aq.of_sub (fp:=λz9=>0) sT)).snoc ⟨EA,Ez,Ey,0,af _ _ _⟩,rfl,gR,by refine eI hd ?_; simp,by simp only [List.length_append,List.length_cons,List.length_nil] at hz ⊢; exact Qb (by walk_at "A") hz⟩
 ·rintro D out C' ⟨hs,outs,kZ,bV,aK,rfl,ho,gQ,hi,hd,hz⟩ hD;have has:bV=[]:=List.map_eq_nil_iff.mp gQ.symm;subst has;cases hi;rw [List.append_nil] at hd;subst hd;have sD:=aB (o:=listOf (outs.map Value.ref).toArray (outs.map Value.ref).length) hD;walk_at "r";refine h_ ⟨_,af _ _ _⟩ (ho.keep (aq.of_sub (fp:=λz9=>0) sD)) h6 λD2 KP P7 C2 hp Ko vX Nw lz CK=>?_;walk_at "r"
  exact ⟨D2,KP,P7,rfl,hp,Ko,λz o e=>vX _ _ (sD _ _ (hs _ _ e)),More.of_sub (λz o (e:C z=some o)=>sD z o (hs z o e)) D2 Nw,lz,CK⟩
end
section
noncomputable def ji (iv:Iv):PySem.W.Dat:=.tuple [.int iv.1,.int iv.2.1,.int iv.2.2]
theorem rq {a b:Iv} (h:ji a=ji b):a=b:=by
 obtain ⟨a1,a2,a3⟩:=a;obtain ⟨b1,b2,b3⟩:=b;simp only [ji,Dat.tuple.injEq,List.cons.injEq,Dat.int.injEq,and_true] at h;refine bw h λak aZ gw=>?_; clear h; subst ak; subst aZ; subst gw
 rfl
theorem pK (a:Iv):kqdOk 8 (ji a)=true:=rfl
theorem iE.dat {C:Led}{l:List (Addr×Obj)} (hl:∀ a o,C a=some o->(a,o)∈l) {a:Addr}{iv:Iv} (h:iE C a iv):DatIn l (.ref a) (ji iv):=by
 refine bP h λtb te td k e=>?_; clear h
 exact .tuple (vs:=[.int iv.1 tb,.int iv.2.1 te,.int iv.2.2 td]) (hl _ _ e) (.cons (.int _ _) (.cons (.int _ _) (.cons (.int _ _) .nil)))
theorem aY.dat {C:Led}{l:List (Addr×Obj)} (hl:∀ a o,C a=some o->(a,o)∈l) {as:List Addr}{ivs:List Iv} (h:aY C as ivs):DatAll l (as.map Value.ref) (ivs.map ji):=by
 induction h with
 | nil=>exact .nil
 | cons h _ ih=>exact .cons (h.dat hl) ih
theorem uJ {A:Around}{Qg:Heap}{L:Addr}{E:Value->Shared->Prop}{m:Loc}{env:Env}{n:Nat}{C:Led}{rl b:Addr}{as:List Addr}{ivs:List Iv}{jv:Iv}{Q:Value->Loc->Led->Prop} (G:Gd (S2 P) n A Qg L env) (hl:cN C rl (as.map Value.ref)) (hr:aY C as ivs) (hb:iE C b jv)
  (h:Q (.bool (!decide (jv∈ivs))) m C) (hn:autoParam (10≤n) aO):W (S2 P) A Qg L E (compareOp .NotIn (.ref b) (.ref rl)) m C Q:=.mk λF s R=>by
 refine aF R.list λl N mQ=>?_;refine aQ hl λk hk=>?_; clear hl
 have ma:∀ a o,C a=some o->(a,o)∈l:=λa o e=>mQ a o (aI e)
 refine kqd_notIn (n₁:=l) (n₂:=l) N (ma _ _ hk) rfl rfl (hr.dat ma) (λp h=>h) (hb.dat ma) (λp h=>h) (λd hd=>?_) (pK jv) (by have:=G.u; exact Nat.lt_of_not_le λq=>Ql (Qa hn (Qa hn (Qa hn (Qa hn (Qa hn (Qa hn (Qa hn (Qa hn (Qa (Qf this) q)))))))))) ?_
 ·refine aF (List.mem_map.mp hd) λi z9 ak=>?_; subst ak
  exact pK i
 ·classical
  refine ⟨m,C,R,?_⟩;have:(ji jv∈ivs.map ji)↔jv∈ivs:=⟨λw=>by
   refine aF (List.mem_map.mp w) λi hi e=>?_;refine eI (rq e) ?_; exact hi,λw=>List.mem_map_of_mem w⟩
  by_cases w:jv∈ivs
  ·rw [decide_eq_true w] at h;exact ae (decide_eq_true_iff.mpr (this.mpr w)) h
  ·rw [decide_eq_false w] at h;exact ae (decide_eq_false_iff_not.mpr (λz=>w (this.mp z))) h
end
section
theorem tX {xs ys:List Iv}:(xs.map ji=ys.map ji)↔xs=ys:=⟨λh=>by
 induction xs generalizing ys with
 | nil=>cases ys with
  | nil=>rfl
  | cons=>injection h
 | cons x xs ih=>cases ys with
  | nil=>injection h
  | cons y ys =>
   rw [List.map_cons,List.map_cons,List.cons.injEq] at h;exact ae (rq h.1) (ae (ih h.2) rfl),λh=>by exact ae h rfl⟩
theorem tW (xs:List Iv):∀ d∈xs.map ji,kqdOk 8 d=true:=λd hd=>by
 refine aF (List.mem_map.mp hd) λi z9 ak=>?_; subst ak
 exact pK i
section
variable {A:Around}{Qg:Heap}{L:Addr}{E:Value->Shared->Prop}{m:Loc}{env:Env}{n:Nat}{C:Led}{a b:Addr}{as bs:List Addr}{xs ys:List Iv}{Q:Value->Loc->Led->Prop}
theorem BC (G:Gd (S2 P) n A Qg L env) (hl:cN C a (as.map Value.ref)) (hr:aY C as xs) (q_:cN C b (bs.map Value.ref)) (Ov:aY C bs ys) (h:Q (.bool (decide (xs=ys))) m C) (hn:autoParam (10≤n) aO):W (S2 P) A Qg L E (compareOp .Eq (.ref a) (.ref b)) m C Q:=.mk λF s R=>by
 refine aF R.list λl N mQ=>?_;refine aQ hl λk hk=>?_; clear hl
 refine aQ q_ λk' rg=>?_; clear q_
 have ma:∀ a o,C a=some o->(a,o)∈l:=λa o e=>mQ a o (aI e)
 refine kqd_eq (n₁:=l) (n₂:=l) N (ma _ _ hk) rfl rfl (hr.dat ma) (λp h=>h) (ma _ _ rg) rfl rfl (Ov.dat ma) (λp h=>h) (tW xs) (tW ys) (by have:=G.u; exact Nat.lt_of_not_le λq=>Ql (Qa hn (Qa hn (Qa hn (Qa hn (Qa hn (Qa hn (Qa hn (Qa hn (Qa (Qf this) q)))))))))) ?_
 classical
 refine ⟨m,C,R,?_⟩;by_cases w:xs=ys
 ·rw [decide_eq_true w] at h;exact ae (decide_eq_true_iff.mpr (tX.mpr w)) h
 ·rw [decide_eq_false w] at h;exact ae (decide_eq_false_iff_not.mpr (λz=>w (tX.mp z))) h
theorem oz (G:Gd (S2 P) n A Qg L env) (hl:cN C a (as.map Value.ref)) (hr:aY C as xs) (q_:cN C b (bs.map Value.ref)) (Ov:aY C bs ys) (h:Q (.bool (!decide (xs=ys))) m C) (hn:autoParam (10≤n) aO):W (S2 P) A Qg L E (compareOp .NotEq (.ref a) (.ref b)) m C Q:=.mk λF s R=>by
 refine aF R.list λl N mQ=>?_;refine aQ hl λk hk=>?_; clear hl
 refine aQ q_ λk' rg=>?_; clear q_
 have ma:∀ a o,C a=some o->(a,o)∈l:=λa o e=>mQ a o (aI e)
 refine kqd_ne (n₁:=l) (n₂:=l) N (ma _ _ hk) rfl rfl (hr.dat ma) (λp h=>h) (ma _ _ rg) rfl rfl (Ov.dat ma) (λp h=>h) (tW xs) (tW ys) (by have:=G.u; exact Nat.lt_of_not_le λq=>Ql (Qa hn (Qa hn (Qa hn (Qa hn (Qa hn (Qa hn (Qa hn (Qa hn (Qa (Qf this) q)))))))))) ?_
 classical
 refine ⟨m,C,R,?_⟩;by_cases w:xs=ys
 ·rw [decide_eq_true w] at h;exact ae (decide_eq_true_iff.mpr (tX.mpr w)) h
 ·rw [decide_eq_false w] at h;exact ae (decide_eq_false_iff_not.mpr (λz=>w (tX.mp z))) h
theorem Bw {vs us:List Value}{ns ms:List Int} (G:Gd (S2 P) n A Qg L env) (hl:cN C a vs) (hi:IntsAre vs ns) (q_:cN C b us) (hj:IntsAre us ms) (h:Q (.bool (!decide (ns=ms))) m C) (hn:autoParam (10≤n) aO):W (S2 P) A Qg L E (compareOp .NotEq (.ref a) (.ref b)) m C Q:=.mk λF s R =>
 ke_ne_ints (R.isList hl) (R.isList q_) hi hj (by have:=G.u; exact Nat.lt_of_not_le λq=>Ql (Qa hn (Qa hn (Qa hn (Qa hn (Qa hn (Qa hn (Qa hn (Qa hn (Qa (Qf this) q)))))))))) ⟨m,C,R,h⟩
end
end
section
noncomputable def NN:T->Int->Int->List Int->Prop
 | .nil,_,_,_=>True
 | .node x ms l r d b,low,high,ps=>(low < x∧x < high)∧ms≠[]∧(∀ iv∈ms,hits x iv=true∧∀ p∈ps,hits p iv=false)∧(-1≤l.dep - r.dep∧l.dep - r.dep≤1)∧d=1+(if r.dep > l.dep then r.dep else l.dep)∧b=r.dep - l.dep∧NN l low x (ps++[x])∧NN r x high (ps++[x])
noncomputable def T.ivs:T->List Iv
 | .nil=>[]
 | .node _ ms l r _ _=>l.ivs++(ms++r.ivs)
inductive pT (C:Led) (t:T) (r:Value) (C':Led):Prop
 | mk:∀ T ml bs aK tk,r=.ref T->wa C' T [.int t.dep tk,.ref ml]->cN C' ml (bs.map Value.ref)->aY C' bs aK->aK.Perm t.ivs->(∀ z o,C z=some o->C' z=some o)->pT C t r C'
inductive yI (L:Addr) (C4 C':Led):Prop
 | mk:∀ o1 o2 v1 v2,C' (L+1)=some o1->o1.data=.cell v1->C' (L+2)=some o2->o2.data=.cell v2->(∀ z o,C4 z=some o->(∀ v,o.data≠.cell v)->C' z=some o)->(∀ z o,C4 z=some o->z≠L+1->z≠L+2->C' z=some o)->yI L C4 C'
theorem aY.cells {C C':Led} (hs:∀ z o,C z=some o->(∀ v,o.data≠.cell v)->C' z=some o) {as:List Addr}{ivs:List Iv} (h:aY C as ivs):aY C' as ivs:=by
 induction h with
 | nil=>exact .nil
 | cons w _ ih=>exact .cons (let ⟨t0,t1,t2,k,q⟩:=w; ⟨t0,t1,t2,k,hs _ _ q λv w=>by injection w⟩) ih
theorem aY.app {C:Led}{as bs:List Addr}{xs ys:List Iv} (h:aY C as xs) (g:aY C bs ys):aY C (as++bs) (xs++ys):=by
 induction h with
 | nil=>exact g
 | cons w _ ih=>exact .cons w ih
theorem Er:∀ (t:T) {C:Led}{v:Value}{fp:FP}{low high:Int}{tl th:Tok}{ab:Addr}{rz:List Value}{ps:List Int},ah C v t fp->NN t low high ps->cN C ab rz->IntsAre rz ps->ps.length+t.hgt≤20->t.ivs.length≤6 →
  Spec (S2 P) (2 * t.hgt+20) (.ref 878) [v,.int low tl,.int high th,.ref ab] [] C (pT C t):=by
 intro t;induction t with
 | nil =>
  intro C v fp low high tl th ab rz ps ht AQ Ek uh xq hz;refine aS ht λak z9=>?_; clear ht; subst ak
  refine' eB (n:=19) (binds:=[("node",.none),("low",.int low tl),("high",.int high th),("above",.ref ab)]) ?ho ?hb ?hp ?_
  case ho=>exact rfl
  case hb=>exact λs z9=>BindsTo.of_eq rfl
  case hp=>exact rfl
  intro A Qg L E a_ G aX cF Qp et;walk_at "r";refine bH (vs:=[]) (λml Ow=>?_) (by simp [sizeLine_eq]);walk_at "r";rename_i tk;refine cg (vs:=[Value.int 0 tk,Value.ref ml]) (λT hT=>?_) (by simp [sizeLine_eq]);have s1:=aB (o:=listOf ([]:List Value).toArray 0) Ow;have s2:=aB (o:=bU [Value.int 0 tk,Value.ref ml] 0) hT;walk_at "r";exact ⟨T,ml,[],[],tk,rfl,⟨0,af _ _ _⟩,⟨0,s2 _ _ (af _ _ _)⟩,.nil,.refl _,λz o e=>s2 _ _ (s1 _ _ (aX _ _ e))⟩
 | node x ms l r d b Rb zY =>
  intro C v fp low high tl th ab rz ps ht AQ Ek uh xq hz;walk_at "bh";obtain ⟨a,da,s,fs,vl,vr,fl,fr,tx,rfl,hn,hm,gk,qY,aM⟩:=id ht;walk_at "ch";refine cp AQ λak bS Dn Th hd hb Kn hwr=>?_; clear AQ; obtain ⟨Hj,hhi⟩:=ak
  have LY:l.ivs.length+(ms.length+r.ivs.length)≤6:=by rw [T.ivs,List.length_append,List.length_append] at hz; exact hz
  have Ef:(T.node x ms l r d b).hgt=1+max l.hgt r.hgt:=rfl;walk_at "bh";obtain ⟨h1,od,td,tb,h2,h3⟩:=id hn;walk_at "ch";walk_at "bh";obtain ⟨dm,om,rm,am,m1,m2,m3,m4,m5,m6⟩:=id hm;walk_at "ch";refine' eB (n:=2 * (T.node x ms l r d b).hgt+19) (binds:=[("node",.ref a),("low",.int low tl),("high",.int high th),("above",.ref ab)]) ?ho ?hb ?hp ?_
  case ho=>exact rfl
  case hb=>exact λs z9=>BindsTo.of_eq rfl
  case hp=>exact rfl
  intro A Qg L E a_ G aX cF Qp et;walk_at "r";refine qo G ?_;have k1:aq (λz9=>0) C a_:=aq.of_sub aX;have iH:=hn.keep k1 rfl;have vZ:=hm.keep k1 λz9 z8=>rfl
  have Tn:cN a_ ab rz:=Ek.imp λk e=>aX _ _ e
  have jx:=ah.keep k1 gk λz9 z8=>rfl
  have Ac:=ah.keep k1 qY λz9 z8=>rfl
  refine ck (cF "begin" (L+1) rfl:C (L+1)=none∧∃ o,a_ (L+1)=some o∧o.data=.cell none) λv9 o1 Am KA=>?_;refine ck (cF "end" (L+2) rfl:C (L+2)=none∧∃ o,a_ (L+2)=some o∧o.data=.cell none) λJy o2 M9 Ky=>?_
  clear h1 h2 h3 m1 m2 m3 m4 m5 m6;walk_at "bh";obtain ⟨h1,od,td,tb,h2,h3⟩:=id iH;walk_at "ch";walk_at "bh";obtain ⟨dm,om,rm,am,m1,m2,m3,m4,m5,m6⟩:=id vZ;walk_at "ch";walk_at "r";refine aE G (qC (as:=am) (λG hn h=>dP m1 m2 m3 m4 G (Nat.le_of_lt hn) h) m4 m5 (Qb (by walk_at "A") LY)) (λrv C2 q=>?_) (Qe rfl);walk_at "bh";obtain ⟨D,bs,fP,rfl,hp,Ko,s2,hD,Ee,Kp⟩:=q;walk_at "ch";walk_at "r";refine cg (vs:=[Value.int x tx,Value.ref D]) (λT hT=>?_) (by simp [sizeLine_eq]);refine ⟨T,_,_,rfl,⟨0,af _ _ _⟩,?_⟩;have s3:=aB (o:=bU [Value.int x tx,Value.ref D] 0) hT;have sA:∀ z o,a_ z=some o->upd C2 T (bU [Value.int x tx,Value.ref D] 0) z=some o:=λz o e=>s3 _ _ (s2 _ _ e)
  have Ah:cN (upd C2 T (bU [Value.int x tx,Value.ref D] 0)) D (bs.map Value.ref):=Ee.imp λk e=>s3 _ _ e
  have Ab:=Kp.keep (fp:=λz9=>0) (aq.of_sub s3);generalize upd C2 T (bU [Value.int x tx,Value.ref D] 0)=C3 at *;walk_at "r";refine fi ?_;walk_at "r";refine cq (by simpa using Hj) ?_;refine fM ?_;walk_at "r";refine bN (by simpa using hhi) ?_;walk_at "r";refine bH (vs:=[]) (λe he=>?_) (by simp [sizeLine_eq]);have s4:=aB (o:=listOf ([]:List Value).toArray 0) he;walk_at "r";refine BC (bs:=[]) G (Ah.imp λk e=>s4 _ _ e) (Ab.keep (fp:=λz9=>0) (aq.of_sub s4)) ⟨0,af _ _ _⟩ .nil ?_ (Qe rfl);have RV:fP≠[]:=λw=>by rw [w] at hp; exact bS hp.symm.eq_nil
  refine ae (decide_eq_false RV) ?_;walk_at "r";have sB:∀ z o,a_ z=some o->upd C3 e (listOf ([]:List Value).toArray 0) z=some o:=λz o q=>s4 _ _ (sA _ _ q)
  have xu:cN (upd C3 e (listOf ([]:List Value).toArray 0)) D (bs.map Value.ref):=Ah.imp λk q=>s4 _ _ q
  have xm:=Ab.keep (fp:=λz9=>0) (aq.of_sub s4);generalize upd C3 e (listOf ([]:List Value).toArray 0)=C4 at *;clear s4 s3 s2 Ah Ab Ee Kp m1 m2 m3 m4 m5 m6 h1 h2 h3 iH vZ hm hT he;refine bO xu (λit hit=>?_);have PQ:∀ z o,C z=some o->z≠L+1:=λz o q w=>by rw [w] at q; exact bo v9 q
  have PO:∀ z o,C z=some o->z≠L+2:=λz o q w=>by rw [w] at q; exact bo Jy q
  refine bX (vs:=bs.map Value.ref) G hit (λrest m C'=>Ur (yI L C4 C') (m "node"=some (.ref a)) (m "here"=some (.int x tx)) (m "members"=some (.ref D)) (m "low"=some (.int low tl)) (m "high"=some (.int high th)) (m "above"=some (.ref ab)) (∃ bV aK,rest=bV.map Value.ref∧aY C4 bV aK∧∀ iv∈aK,iv∈ms)) ?_ ?_ ?_ ?_
  ·rintro rest m C' ⟨⟨_,_,_,_,_,_,_,_,hs,-⟩,-⟩;exact xu.imp λk q=>hs _ _ q λv w=>by injection w
  ·exact ⟨⟨o1,o2,_,_,sB _ _ Am,KA,sB _ _ M9,Ky,λz9 z8 q z7=>q,λz9 z8 q z7 z6=>q⟩,by walk_at "nm",by walk_at "nm",by walk_at "nm",by walk_at "nm",by walk_at "nm",by walk_at "nm",bs,fP,rfl,xm,λiv w=>hp.mem_iff.mp w⟩
  ·intro E' u rest m C' _ q0 J hJ;walk_at "bh";obtain ⟨⟨p1,p2,v1,v2,e1,d1,e2,d2,hs,Oo⟩,ME,M1,pk,Se,M0,JL,bV,aK,hr,hi,jy⟩:=q0;walk_at "ch";cases hi with
   | nil=>injection hr
   | @cons b' jv vP gv fC gR =>
    simp only [List.map_cons,List.cons.injEq] at hr;refine aS hr λak aZ=>?_; clear hr; subst ak; subst aZ
    refine bP fC λNW Yp O7 kk lx=>?_; clear fC
    refine eJ G ⟨kk,hs _ _ lx λv w=>by injection w⟩ (bc (aW ?_));refine eQ G rfl e1 d1 (λq1 f1=>?_) (by rfl);refine bc (aW ?_);have Xw:L+2≠L+1:=by intro w; exact absurd (Nat.add_left_cancel w) (by decide)
    refine eQ G rfl ((ag _ _ Xw).trans e2) d2 (λq2 f2=>?_) (by rfl);have g1:upd (upd C' (L+1) q1) (L+2) q2 (L+1)=some q1:=(ag _ _ (Ne.symm Xw)).trans (af _ _ _);have g2:upd (upd C' (L+1) q1) (L+2) q2 (L+2)=some q2:=af _ _ _;have Wn:∀ z o,C4 z=some o->(∀ v,o.data≠.cell v)->upd (upd C' (L+1) q1) (L+2) q2 z=some o:=λz o w1 w2=>by
     have w3:=hs z o w1 w2;have n1:z≠L+1:=λw=>by rw [w] at w3; replace w3:=eG e1 w3; subst w3; exact w2 _ d1
     have n2:z≠L+2:=λw=>by rw [w] at w3; replace w3:=eG e2 w3; subst w3; exact w2 _ d2
     refine ae (ag _ _ n2) (ae (ag _ _ n1) ?_); exact w3
    have RE:∀ z o,C4 z=some o->z≠L+1->z≠L+2->upd (upd C' (L+1) q1) (L+2) q2 z=some o:=λz o w1 n1 n2=>by refine ae (ag _ _ n2) (ae (ag _ _ n1) ?_); exact Oo z o w1 n1 n2
    generalize upd (upd C' (L+1) q1) (L+2) q2=C5 at *;walk_at "r";refine bc (aW ?_);have WJ:=Dn jv (jy jv (.head _));have WK:jv.1≤x∧x < jv.2.1:=by have:=WJ.1; unfold hits at this; simpa using this
    walk_at "r";refine fi ?_;walk_at "r";refine cq (by simpa using WK.1) ?_;refine fM ?_;walk_at "r";refine bN (by simpa using WK.2) ?_;walk_at "r";refine ic G rfl (by decide) rfl (by decide) ?_;walk_at "r";have Dp:cN C5 ab rz:=Tn.imp λk w=>Wn _ _ (sB _ _ w) λv w=>by injection w
    refine bO Dp (λzW xw=>?_);refine iz.intro (vs:=rz) xw (by have:=uh.length; exact Qd λq=>Ql (Qa xq (Qa (Qc (Eq.symm Ef)) (Qa (Qc this) q)))) (λout rest C'=>C'=C5∧out=[]∧∃ ks,IntsAre rest ks∧(∀ p∈ks,p∈ps)∧rest.length≤rz.length) ?_ ?_ ?_ ?_
    ·rintro out rest C' ⟨rfl,rfl,ks,-,-,hz⟩;exact ⟨Dp,by simpa using hz⟩
    ·exact ⟨rfl,rfl,ps,uh,λp w=>w,Nat.le_refl _⟩
    ·rintro g Lc E' mc C' u rest out G' ⟨rfl,rfl,ks,Ku,Jl,hz⟩ J2 Xi;cases Ku with
     | @cons p tp Ye N3 FW =>
      have tK:=WJ.2 p (Jl p (.head _));have g2':C' (L+1+1)=some q2:=g2;walk_at "r";refine fi ?_;walk_at "r";by_cases Su:jv.1≤p
      ·refine cq (by simpa using Su) ?_;refine fM ?_;walk_at "r";have hjq:¬ p < jv.2.1:=λw=>by unfold hits at tK; simp [Su,w] at tK
       refine bN (by simpa using hjq) ?_;refine nG Xi ?_;exact ⟨rfl,rfl,N3,FW,λp' w=>Jl p' (.tail _ w),by simp only [List.length_cons] at hz; exact Nat.le_of_lt hz⟩
      ·refine bN (by simpa using Su) ?_;walk_at "r";exact ⟨rfl,rfl,N3,FW,λp' w=>Jl p' (.tail _ w),by simp only [List.length_cons] at hz; exact Nat.le_of_lt hz⟩
    ·rintro D2 out C' ⟨rfl,rfl,-⟩ Nw;walk_at "r";refine bH (vs:=[]) (λe3 Ky=>?_) (by simp [sizeLine_eq]);have s6:=aB (o:=listOf ([]:List Value).toArray 0) Nw;have s7:=aB (o:=listOf ([]:List Value).toArray 0) Ky;walk_at "r";refine Bw (ns:=[]) (ms:=[]) (vs:=[]) (us:=[]) G ⟨0,s7 _ _ (af _ _ _)⟩ .nil ⟨0,af _ _ _⟩ .nil ?_ (Qe rfl);walk_at "r";refine bN (by simp) ?_;walk_at "r";exact ⟨⟨q1,q2,_,_,s7 _ _ (s6 _ _ g1),f1,s7 _ _ (s6 _ _ g2),f2,λz o w1 w2=>s7 _ _ (s6 _ _ (Wn z o w1 w2)),λz o w1 w2 w3=>s7 _ _ (s6 _ _ (RE z o w1 w2 w3))⟩,by walk_at "nm",by walk_at "nm",by walk_at "nm",by walk_at "nm",by walk_at "nm",by walk_at "nm",vP,gv,rfl,gR,λiv w=>jy iv (.tail _ w)⟩
  ·intro E' m C' q0;walk_at "bh";obtain ⟨⟨p1,p2,v1,v2,e1,d1,e2,d2,hs,Oo⟩,ME,M1,pk,Se,M0,JL,-⟩:=q0;walk_at "ch";have sC:∀ z o,C z=some o->C' z=some o:=λz o w=>Oo z o (sB _ _ (aX _ _ w)) (PQ z o w) (PO z o w)
   have Sm:cN C' D (bs.map Value.ref):=xu.imp λk q=>hs _ _ q λv w=>by cases w
   have Ms:=xm.cells hs;have kC:aq (λz9=>0) C C':=aq.of_sub sC;have yr:=hn.keep kC rfl;have Kt:=ah.keep kC gk λz9 z8=>rfl
   have Ws:=ah.keep kC qY λz9 z8=>rfl
   have Dp:cN C' ab rz:=Ek.imp λk q=>sC _ _ q
   clear hs Oo xu xm aX cF Am KA M9 Ky sB sA e1 d1 e2 d2 kC;walk_at "bh";obtain ⟨h1,od,td,tb,h2,h3⟩:=id yr;walk_at "ch";have ky:=Kt.dep.handed;walk_at "r";refine dA G h1 h2 h3 (by walk_at "k") (by rfl) ky ?_;walk_at "r";refine bH (vs:=[Value.int x tx]) (λe1 Jy=>?_) (by simp [sizeLine_eq]);have t1:=aB (o:=listOf [Value.int x tx].toArray 0) Jy;walk_at "r";refine gU (Dp.imp λk q=>t1 _ _ q) ⟨0,af _ _ _⟩ (by have:=uh.length; simp [sizeLine_eq]; exact Qd λq=>Ql (Qa xq (Qa (Qc (Eq.symm Ef)) (Qa (Qc this) q)))) (λe2 M9=>?_);have t2:=aB (o:=listOf (rz++[Value.int x tx]).toArray 0) M9;have tA:∀ z o,C' z=some o->upd (upd C' e1 (listOf [Value.int x tx].toArray 0)) e2 (listOf (rz++[Value.int x tx]).toArray 0) z=some o:=λz o q=>t2 _ _ (t1 _ _ q)
   have Nk:cN (upd (upd C' e1 (listOf [Value.int x tx].toArray 0)) e2 (listOf (rz++[Value.int x tx]).toArray 0)) e2 (rz++[Value.int x tx]):=⟨0,af _ _ _⟩;generalize upd (upd C' e1 (listOf [Value.int x tx].toArray 0)) e2 (listOf (rz++[Value.int x tx]).toArray 0)=C6 at *;walk_at "r";refine aE G (Rb (ah.keep (aq.of_sub (fp:=λz9=>0) tA) Kt λz9 z8=>rfl) Kn Nk (uh.append (.cons _ _ .nil)) (by refine ae List.length_append ?_; simp only [List.length_cons,List.length_nil]; exact Qd λq=>Ql (Qa q (Qa xq (Qa (Nat.le_max_left (l.hgt) (r.hgt)) (Qc (Eq.symm Ef)))))) (Qb (by walk_at "A") LY)) (λrv C7 q=>?_) (Qd λq=>Ql (Qa (Qc (Eq.symm Ef)) (Qa (Qc (Eq.symm Ef)) (Qa q (Qa (Nat.le_max_left (l.hgt) (r.hgt)) (Nat.le_max_left (l.hgt) (r.hgt)))))));walk_at "bh";obtain ⟨T1,ml1,NJ,iv1,Kd,rfl,mR,RZ,Ac,Eb,s7⟩:=q;walk_at "ch";have tB:∀ z o,C' z=some o->C7 z=some o:=λz o q=>s7 _ _ (tA _ _ q)
   have hae7:cN C7 e2 (rz++[Value.int x tx]):=Nk.imp λk q=>s7 _ _ q
   clear s7 Nk t1 t2 Jy M9 Kt tA;walk_at "r";walk_at "bh";obtain ⟨g1,jT,A_,qD,g2,g3⟩:=id (yr.keep (aq.of_sub (fp:=λz9=>0) tB) rfl);walk_at "ch";have nM:=Ws.dep.handed;walk_at "r";refine dA G g1 g2 g3 (by walk_at "k") (by rfl) nM ?_;walk_at "r";refine bH (vs:=[Value.int x tx]) (λe3 Ky=>?_) (by simp [sizeLine_eq]);have t1:=aB (o:=listOf [Value.int x tx].toArray 0) Ky;walk_at "r";refine gU (Dp.imp λk q=>t1 _ _ (tB _ _ q)) ⟨0,af _ _ _⟩ (by have:=uh.length; simp [sizeLine_eq]; exact Qd λq=>Ql (Qa xq (Qa (Qc (Eq.symm Ef)) (Qa (Qc this) q)))) (λe4 he4=>?_);have t2:=aB (o:=listOf (rz++[Value.int x tx]).toArray 0) he4;have tA:∀ z o,C7 z=some o->upd (upd C7 e3 (listOf [Value.int x tx].toArray 0)) e4 (listOf (rz++[Value.int x tx]).toArray 0) z=some o:=λz o q=>t2 _ _ (t1 _ _ q)
   have Nk:cN (upd (upd C7 e3 (listOf [Value.int x tx].toArray 0)) e4 (listOf (rz++[Value.int x tx]).toArray 0)) e4 (rz++[Value.int x tx]):=⟨0,af _ _ _⟩;generalize upd (upd C7 e3 (listOf [Value.int x tx].toArray 0)) e4 (listOf (rz++[Value.int x tx]).toArray 0)=C8 at *;walk_at "r";refine aE G (zY (ah.keep (aq.of_sub (fp:=λz9=>0) λz o q=>tA z o (tB z o q)) Ws λz9 z8=>rfl) hwr Nk (uh.append (.cons _ _ .nil)) (by rw [List.length_append]; simp only [List.length_cons,List.length_nil]; exact Qd λq=>Ql (Qa q (Qa xq (Qa (Nat.le_max_right (l.hgt) (r.hgt)) (Qc (Eq.symm Ef)))))) (Qb (by walk_at "A") LY)) (λrv C9 q=>?_) (Qd λq=>Ql (Qa (Qc (Eq.symm Ef)) (Qa (Qc (Eq.symm Ef)) (Qa q (Qa (Nat.le_max_right (l.hgt) (r.hgt)) (Nat.le_max_right (l.hgt) (r.hgt)))))));walk_at "bh";obtain ⟨T2,ml2,KP,U4,HO,rfl,AZ,RY,CK,vx,s9⟩:=q;walk_at "ch";have tC:∀ z o,C7 z=some o->C9 z=some o:=λz o q=>s9 _ _ (tA _ _ q)
   walk_at "r";have ON:wa C9 T1 [.int l.dep Kd,.ref ml1]:=mR.imp λk q=>tC _ _ q
   refine cU (hl:=ON) (Int.NonNeg.mk (0+Nat.succ 9223372036854775807)) (Int.NonNeg.mk (2 ^ 63 - Nat.succ 0)) (j:=0) (by rfl) (by rfl) ?_;walk_at "r";refine cU (hl:=AZ) (Int.NonNeg.mk (0+Nat.succ 9223372036854775807)) (Int.NonNeg.mk (2 ^ 63 - Nat.succ 0)) (j:=0) (by rfl) (by rfl) ?_;walk_at "r";refine xV (λt1=>?_);walk_at "r";rw [decide_eq_false (by split <;> (first | exact Int.not_lt_of_ge Th.right | omega))];have hn9:=aJ.keep (C':=C9) yr (aq.of_sub (fp:=λz9=>0) λz o q=>tC z o (tB z o q)) rfl;walk_at "bh";obtain ⟨j1,od9,td9,tb9,j2,j3⟩:=id hn9;walk_at "ch";walk_at "r";refine cU (hl:=ON) (Int.le_trans (Int.le_refl (-2 ^ 63)) (Int.NonNeg.mk (0+Nat.succ 9223372036854775807))) (Int.NonNeg.mk (2 ^ 63 - Nat.succ 0)) (j:=0) (by rfl) (by rfl) ?_;walk_at "r";refine cU (hl:=AZ) (Int.le_trans (Int.le_refl (-2 ^ 63)) (Int.NonNeg.mk (0+Nat.succ 9223372036854775807))) (Int.NonNeg.mk (2 ^ 63 - Nat.succ 0)) (j:=0) (by rfl) (by rfl) ?_;walk_at "r";refine Bz G (λtm=>?_);walk_at "r";rename_i Yr;rw [(by rw [hd]; exact bne_self_eq_false _:(d != 1+if r.dep > l.dep then r.dep else l.dep)=false)];walk_at "r";refine cU (hl:=AZ) (Int.le_trans (Int.le_refl (-2 ^ 63)) (Int.NonNeg.mk (0+Nat.succ 9223372036854775807))) (Int.NonNeg.mk (2 ^ 63 - Nat.succ 0)) (j:=0) (by rfl) (by rfl) ?_;walk_at "r";refine cU (hl:=ON) (Int.le_trans (Int.le_refl (-2 ^ 63)) (Int.NonNeg.mk (0+Nat.succ 9223372036854775807))) (Int.NonNeg.mk (2 ^ 63 - Nat.succ 0)) (j:=0) (by rfl) (by rfl) ?_;walk_at "r";rw [(by rw [hb]; exact bne_self_eq_false _:(b != r.dep - l.dep)=false)];walk_at "r";refine cU (hl:=ON) (Int.le_trans (Int.le_refl (-2 ^ 63)) (Int.NonNeg.mk (1+Nat.succ 9223372036854775807))) (Int.NonNeg.mk (2 ^ 63 - Nat.succ 1)) (j:=1) (by rfl) (by rfl) ?_;walk_at "r";have q1:=Eb.length_eq;have q2:=vx.length_eq;have q3:=hp.length_eq;have q4:=Ac.len;have q5:=CK.len;have q6:=Ms.len;refine gU (RZ.imp λk q=>tC _ _ q) (Sm.imp λk q=>tC _ _ (tB _ _ q)) (by simp [sizeLine_eq]; exact Qd λq=>Ql (Qa LY (Qa (Qc q1) (Qa (Qc q3) (Qa (Qc q4) (Qa (Qc q6) q)))))) (λe5 he5=>?_);have u1:=aB (o:=listOf (NJ.map Value.ref++bs.map Value.ref).toArray 0) he5;walk_at "r";refine cU (hl:=AZ.imp λk q=>u1 _ _ q) (Int.le_trans (Int.le_refl (-2 ^ 63)) (Int.NonNeg.mk (1+Nat.succ 9223372036854775807))) (Int.NonNeg.mk (2 ^ 63 - Nat.succ 1)) (j:=1) (by rfl) (by rfl) ?_;walk_at "r";refine gU ⟨0,af _ _ _⟩ (RY.imp λk q=>u1 _ _ q) (by simp [sizeLine_eq]; exact Qd λq=>Ql (Qa q (Qa (Qc q4) (Qa (Qc q6) (Qa (Qc q5) (Qa (Qc q1) (Qa LY (Qa (Qc q2) (Qc q3))))))))) (λe6 he6=>?_);have u2:=aB (o:=listOf (NJ.map Value.ref++bs.map Value.ref++KP.map Value.ref).toArray 0) he6;walk_at "r";refine cg (λT hT=>?_) (by simp [sizeLine_eq]);walk_at "r";have u3:=λo=>aB (o:=o) hT
   have tD:∀ ob z o,C9 z=some o->upd (upd (upd C9 e5 (listOf (List.map Value.ref NJ++List.map Value.ref bs).toArray 0)) e6 (listOf (List.map Value.ref NJ++List.map Value.ref bs++List.map Value.ref KP).toArray 0)) T ob z=some o:=λob z o q=>u3 _ _ _ (u2 _ _ (u1 _ _ q))
   refine pT.mk T e6 (NJ++bs++KP) (iv1++fP++U4) Yr rfl ?t1 ?_ ?_ ?_ ?_
   case t1=>refine ae (show (dD.T.node x ms l r d b).dep=d from rfl) (ae hd ?_); exact ⟨0,af _ _ _⟩
   ·refine ae List.map_append (ae List.map_append ?_); exact ⟨0,u3 _ _ _ (af _ _ _)⟩
   ·exact ((Ac.keep (aq.of_sub (fp:=λz9=>0) λz o q=>tD _ _ _ (tC _ _ q))).app (Ms.keep (aq.of_sub (fp:=λz9=>0) λz o q=>tD _ _ _ (tC _ _ (tB _ _ q))))).app (CK.keep (aq.of_sub (fp:=λz9=>0) (tD _)))
   ·show List.Perm _ (l.ivs++(ms++r.ivs)); exact eI (List.append_assoc _ _ _) ((Eb.append hp).append vx)
   ·exact λz o q=>tD _ _ _ (tC _ _ (tB _ _ (sC _ _ q)))
end
section
inductive yJ (C:Led) (ivs:List Iv) (r:Value) (C':Led):Prop
 | mk:∀ d,r=.ref d->C d=none->(∀ z o,C z=some o->C' z=some o)->dn (S2 P) C' d (bounds ivs)->yJ C ivs r C'
theorem vQ (ivs:List Iv) (iv:Iv):bounds (ivs++[iv])=bump (bump (bounds ivs) iv.1) iv.2.1:=by simp [bounds,List.foldl_append]
theorem oW {C:Led}{l:Addr}{as:List Addr}{ivs:List Iv} (hl:cN C l (as.map Value.ref)) (hr:aY C as ivs) (h6:ivs.length≤6):Spec (S2 P) 12 (.ref 885) [.ref l] [] C (yJ C ivs):=by
 refine' ax (n:=11) (binds:=[("rows",.ref l)]) ?ho ?hb ?hp ?_;walk_at "D";walk_at "r";refine si G (λd C1 hd pd lS=>?_);have s1:∀ z o,C z=some o->C1 z=some o:=by refine aQ pd λo ak=>?_; clear pd; subst ak; exact aB hd
 clear pd;walk_at "r";refine bO (hl.imp λk e=>s1 _ _ e) (λit hit=>?_);refine bX (vs:=as.map Value.ref) G hit (λrest m C'=>ud (∀ z o,C z=some o->C' z=some o) (m "table"=some (.ref d)) True (∃ pre bV aK,rest=bV.map Value.ref∧aY C bV aK∧pre++aK=ivs∧dn (S2 P) C' d (bounds pre))) ?_ ?_ ?_ ?_
 ·rintro rest m C' ⟨hs,-⟩;exact hl.imp λk e=>hs _ _ e
 ·exact ⟨s1,by walk_at "nm",trivial,[],as,ivs,rfl,hr,rfl,[],lS,.nil⟩
 ·rintro E' u rest m C' _ ⟨hs,ht,-,pre,bV,aK,gQ,hi,gy,hc⟩ J hJ;cases hi with
  | nil=>injection gQ
  | @cons b' jv bs gv fC gR =>
   simp only [List.map_cons,List.cons.injEq] at gQ;refine aS gQ λak aZ=>?_; clear gQ; subst ak; subst aZ
   refine bP fC λNW Yp O7 kk lx=>?_; clear fC
   refine eJ G ⟨kk,hs _ _ lx⟩ (bc (aW ?_));walk_at "r";refine bc (aW ?_);walk_at "r";refine bc (aW ?_);walk_at "r";have M4:∀ {kvs:List (Int×Value)}{ps:List (Int×Int)},eF kvs ps->∀ (k:Int) (t0:Tok),∃ tc,(valueAt kvs k).getD (.int 0 t0)=.int ((bt ps k).getD 0) tc:=λhk k t0=>by
    rcases hk.at k with ⟨v1,v2⟩ | ⟨c,t,v1,v2⟩
    ·exact ⟨t0,by refine ae v1 (ae v2 ?_); rfl⟩
    ·exact ⟨t,by refine ae v1 (ae v2 ?_); rfl⟩
   have lj:=congrArg List.length gy;rw [List.length_append,List.length_cons] at lj;have Fe:=fz pre;have PZ:=lG (bounds pre) jv.1;refine aF hc λkvs iP kI=>?_;refine iB iP ?_
   walk_at "r";refine oJ iP ?_;rename_i t0;refine aQ (M4 kI jv.1 t0) λtc zZ=>?_;refine ae zZ ?_
   walk_at "r";refine cV hc (Qd λq=>Ql (Qa q (Qa Fe (Qa (Qc lj) (Qa (Qc lj) (Qa h6 h6)))))) rfl (λC6 ⟨o6,e6⟩ Ei=>?_);have hs6:∀ z o,C z=some o->C6 z=some o:=λz o e=>by exact ae e6 ((ag _ _ λw=>by rw [w] at e; exact bo hd e).trans (hs z o e))
   clear e6 iP kI zZ hc;walk_at "r";refine aF Ei λkvs2 iP kI=>?_;refine iB iP ?_
   walk_at "r";refine oJ iP ?_;rename_i Yz;refine aQ (M4 kI jv.2.1 Yz) λO8 zZ=>?_;refine ae zZ ?_
   walk_at "r";refine cV Ei (Qd λq=>Ql (Qa q (Qa PZ (Qa Fe (Qa (Qc lj) (Qa (Qc lj) (Qa h6 h6))))))) rfl (λC7 ⟨o7,e7⟩ hd7=>?_);walk_at "r";exact ⟨λz o e=>by refine ae e7 ?_; exact (ag _ _ λw=>by rw [w] at e; exact bo hd e).trans (hs6 z o e),by walk_at "nm",trivial,pre++[jv],bs,gv,rfl,gR,by simpa using gy,by refine ae (vQ _ _) ?_; exact hd7⟩
 ·rintro E' m C' ⟨hs,ht,-,pre,bV,aK,gQ,hi,gy,hc⟩;have has:bV=[]:=List.map_eq_nil_iff.mp gQ.symm;subst has;cases hi;rw [List.append_nil] at gy;subst gy;walk_at "r";exact ⟨d,rfl,hd,hs,hc⟩
end
section
theorem DG {A:Around}{s:Shared}{kb:List (Int×Value)}{pb:List (Int×Int)} (hb:eF kb pb) {ka:List (Int×Value)}{pa:List (Int×Int)} (ha:eF ka pa):(∀ p∈pa,bt pb p.1=some p.2)->KeqHits A s kb ka true:=by
 induction ha with
 | nil=>exact λz9=>.nil
 | @cons k c t ka pa _ ih =>
  intro h;rcases hb.at k with ⟨v1,v2⟩ | ⟨c',t',v1,v2⟩
  ·exact bo v2 (h (k,c) (.head _))
  ·have e:=(h (k,c) (.head _)).symm.trans v2;obtain rfl:c=c':=by injection e
   have:=KeqHits.hit (A:=A) (s:=s) (b:=true) v1 (SeqAt.EqAt.int_int c t c t') (ih λp w=>h p (.tail _ w));rwa [beq_self_eq_true] at this
theorem EO {A:Around}{Qg:Heap}{L:Addr}{E:Value->Shared->Prop}{m:Loc}{env:Env}{n:Nat}{C:Led}{a b:Addr}{pa pb:List (Int×Int)}{Q:Value->Loc->Led->Prop} (G:Gd (S2 P) n A Qg L env) (ha:dn (S2 P) C a pa) (hb:dn (S2 P) C b pb)
  (hl:pa.length=pb.length) (hm:∀ p∈pa,bt pb p.1=some p.2) (h:Q (.bool false) m C) (hn:autoParam (10≤n) aO):W (S2 P) A Qg L E (compareOp .NotEq (.ref a) (.ref b)) m C Q:=.mk λF s R=>by
 refine aF ha λka ak va=>?_; clear ha; obtain ⟨la,oa,ea,da⟩:=ak
 refine aF hb λkb ak vb=>?_; clear hb; obtain ⟨lb,ob,eb,db⟩:=ak
 refine aF R.list λl N mQ=>?_;exact kne_pairs N (mQ _ _ (aI ea)) (mQ _ _ (aI eb)) da db la lb (ae va.len (ae vb.len (ae hl rfl))) (by have:=G.u; exact Nat.lt_of_not_le λq=>Ql (Qa hn (Qa (Qf this) q))) (DG vb va hm) ⟨m,C,R,h⟩
end
section
theorem ux {C:Led}{x rl:Addr}{fp:FP}{ivs rws:List Iv}{t:T}{ps:List (Int×Int)}{as:List Addr} (jZ:P.gn=AllBare) (MA:∀ {a b:List Iv},a.Perm b->dM a->dM b->a=b) (hit:g9 P C x fp ivs t ps) (aL:∀ z,fp z≤1) (Ar:dZ C 67) (KN:fp 67=0) (hl:cN C rl (as.map Value.ref)) (hr:aY C as rws) (h6:rws.length≤6)
  (Eb:ivs.Perm rws) (vx:t.ivs.Perm rws) (hw:NN t (-1) 13 []) (Of:ps.length=(bounds rws).length) (uh:∀ p∈ps,bt (bounds rws) p.1=some p.2) (Oe:t.size≤300)
  (CB:t.told) (Aj:KS t []) (Jv:t.hgt≤5) (M3:t.ht≤5) (hk:∀ k,bt ps k=bt (bounds ivs) k) (fQ:ivs.isEmpty=t.isNil) (CH:ivs.isEmpty=false->nF ivs t=true) (o_:∀ i∈ivs,i.1 < i.2.1) (JD:nR t []=true) :
  Spec (S2 P) 70 (.ref 892) [.ref x,.ref rl] [] C λrv C'=>rv=.bool true∧GG P C x fp ivs t ps C':=by
 walk_at "bh";obtain ⟨dx,od,a,fa,v,ft,d,hx,bC,hf,hm,ht,hd,aM⟩:=id hit;walk_at "ch";refine' ax (n:=69) (binds:=[("tree",.ref x),("rows",.ref rl)]) ?ho ?hb ?hp ?_;walk_at "D";walk_at "r";refine h_ hl hr h6 λD bs XJ C1 dp XK s1 hD Ee Kp=>?_;walk_at "r"
 have k1:aq (λz9=>0) C C1:=aq.of_sub s1;have CY:=hit.keep k1 λz9 z8=>rfl
 have jx:cN C1 rl (as.map Value.ref):=hl.imp λk e=>s1 _ _ e
 have Mc:=ah.keep k1 ht λz9 z8=>rfl
 have hvt:=Mc.dep.handed;refine dA G (s1 _ _ hx) (s1 _ _ bC) hf (by walk_at "k") (by rfl) hvt ?_;walk_at "r";refine bH (vs:=[]) (λe he=>?_) (by simp [sizeLine_eq]);have s2:=aB (o:=listOf ([]:List Value).toArray 0) he;walk_at "r";refine aE G (Er t (ah.keep (aq.of_sub (fp:=λz9=>0) s2) Mc λz9 z8=>rfl) hw ⟨0,af _ _ _⟩ .nil (by simp only [List.length_nil]; exact Qb (by walk_at "A") (Qb Jv (by walk_at "A"))) (by rw [vx.length_eq]; exact h6)) (λrv C2 q=>?_) (Qd λq=>Ql (Qa q (Qa Jv Jv)));walk_at "bh";obtain ⟨T,ml,KP,U4,tk,rfl,hT,Ow,CK,Ea,s3⟩:=q;walk_at "ch";have sA:∀ z o,C1 z=some o->C2 z=some o:=λz o q=>s3 _ _ (s2 _ _ q)
 clear s2 s3 he;walk_at "r";refine cU (hl:=hT) (Int.NonNeg.mk (1+Nat.succ 9223372036854775807)) (Int.NonNeg.mk (2 ^ 63 - Nat.succ 1)) (j:=1) (by rfl) (by rfl) ?_;walk_at "r";refine h_ Ow CK (by refine ae Ea.length_eq (ae vx.length_eq ?_); exact h6) λD2 bs3 TZ C3 dp2 T4 s4 Nw MS I5=>?_;have e2:TZ=XJ:=MA ((dp2.trans (Ea.trans vx)).trans dp.symm) T4 XK
 rw [e2] at I5;walk_at "r";refine oz G MS I5 (Ee.imp λk q=>s4 _ _ (sA _ _ q)) (Kp.keep (aq.of_sub (fp:=λz9=>0) λz o q=>s4 _ _ (sA _ _ q))) ?_ (Qe rfl);refine ae (decide_eq_true rfl) (ae Bool.not_true ?_);have sB:∀ z o,C z=some o->C3 z=some o:=λz o q=>s4 _ _ (sA _ _ (s1 _ _ q))
 have Ah:cN C3 D (bs.map Value.ref):=Ee.imp λk q=>s4 _ _ (sA _ _ q)
 have Ab:=Kp.keep (aq.of_sub (fp:=λz9=>0) λz o q=>s4 _ _ (sA _ _ q));clear s4 sA Ee Kp hT Ow CK MS I5 CY jx Mc k1 hD Nw;have AS:=hm.keep (aq.of_sub (fp:=λz9=>0) sB) λz9 z8=>rfl
 walk_at "bh";obtain ⟨dm,om,rm,am,m1,m2,m3,m4,m5,m6⟩:=id AS;walk_at "ch";walk_at "r";refine aE G (qC (as:=am) (λG hn h=>ir (sB _ _ hx) (sB _ _ bC) hf m1 m2 m3 m4 G hn h) m4 m5 (by refine ae Eb.length_eq ?_; exact h6)) (λrv C4 q=>?_) (Qe rfl);walk_at "bh";obtain ⟨D4,bs4,TY,rfl,dp4,T3,s5,OU,xu,xm⟩:=q;walk_at "ch";have e4:TY=XJ:=MA ((dp4.trans Eb).trans dp.symm) T3 XK;rw [e4] at xm;walk_at "r";refine oz G xu xm (Ah.imp λk q=>s5 _ _ q) (Ab.keep (aq.of_sub (fp:=λz9=>0) s5)) ?_ (Qe rfl);refine ae (decide_eq_true rfl) (ae Bool.not_true ?_);have sC:∀ z o,C z=some o->C4 z=some o:=λz o q=>s5 _ _ (sB _ _ q)
 clear s5 sB Ah Ab xu xm AS m1 m2 m3 m4 m5 m6;have Rl:=sC _ _ hx;have SP:=sC _ _ bC;walk_at "r";refine aE G (oW (hl.imp λk q=>sC _ _ q) (hr.keep (aq.of_sub (fp:=λz9=>0) sC)) h6) (λrv C5 q=>?_) (Qe rfl);walk_at "bh";obtain ⟨d5,rfl,W5,s6,OH⟩:=q;walk_at "ch";have sD:∀ z o,C z=some o->C5 z=some o:=λz o q=>s6 _ _ (sC _ _ q)
 have hdT:dn (S2 P) C5 d ps:=let ⟨kv,h1,h2⟩:=hd; ⟨kv,h1.sub sD,h2⟩;refine EO G hdT OH Of uh ?_ (Qe rfl);walk_at "r";have Sx:=hit.keep (aq.of_sub (fp:=λz9=>0) sD) λz9 z8=>rfl
 have TF:=Ar.keep (aq.of_sub (fp:=λz9=>0) sD) rfl;clear Rl SP;have Oh:=sD _ _ hx;have hdx5:=sD _ _ bC;walk_at "r";refine aE G (IU jZ Sx aL TF KN (by refine ae Eb.length_eq ?_; exact Qb h6 (Nat.le_add_left 6 94)) (by have:=fz rws; exact Qd λq=>Ql (Qa q (Qa (Qc Of) (Qa this (Qa h6 h6))))) Oe CB Aj Jv M3 hk fQ CH o_ JD) (λrv C6 q=>?_) (Qe rfl);refine aS q λak aZ=>?_; clear q; subst ak; obtain ⟨fp',i1,i2,i3,i4,i5,i6⟩:=aZ
 walk_at "r";exact ⟨rfl,fp',i1,i2,λz q=>(i3 z q).imp id λw=>More.of_sub sD z w,i4,((aq.of_sub (fp:=λz9=>0) sD).mono λz9 z8=>rfl).trans i5 λz q=>.inl q,(More.of_sub sD).trans i6⟩
end
section
variable {P:e_}
noncomputable def T.flat:T->List Iv
 | .nil=>[]
 | .node _ ms l r _ _=>ms++(l.flat++r.flat)
theorem nQ:∀ {t:T},t.told->t.dep=(t.hgt:Int)
 | .nil,_=>rfl
 | .node x ms l r d b,h=>by
  refine dI h λh1 h2 h3 h4=>?_; clear h
  have e1:=nQ h3;have e2:=nQ h4;show d=((1+max l.hgt r.hgt:Nat):Int);refine ae h1 (ae e1 (ae e2 ?_));split
  ·rename_i q; rw [Nat.max_eq_right (Nat.le_of_lt (Int.ofNat_lt.mp q))]; rfl
  ·rename_i q; rw [Nat.max_eq_left (Int.ofNat_le.mp (Int.le_of_not_gt q))]; rfl
theorem ey {x:Int}{i:Iv}:hits x i=true↔i.1≤x∧x < i.2.1:=by unfold hits; rw [decide_eq_true_iff]
theorem eX {x:Int}{i:Iv}:hits x i=false↔¬(i.1≤x∧x < i.2.1):=by unfold hits; rw [decide_eq_false_iff_not]
theorem lF {x:Int}{ms:List Iv}{l r:T}{d b:Int}{ps:List Int}:nR (.node x ms l r d b) ps=true ↔
  (-2 < b∧b < 2)∧b=r.dep - l.dep∧ms≠[]∧(∀ i∈ms,i.1≤x∧x < i.2.1∧∀ p∈ps,hits p i=false)∧l.under x=true∧nR l (ps++[x])=true∧r.over x=true∧nR r (ps++[x])=true:=by
 show (decide (-2 < b∧b < 2) && decide (b=r.dep - l.dep) && !ms.isEmpty && ms.all (xe x ps) && l.under x && nR l (ps++[x]) && r.over x && nR r (ps++[x]))=true↔_;have e:(ms.all (xe x ps)=true)↔∀ i∈ms,i.1≤x∧x < i.2.1∧∀ p∈ps,hits p i=false:=by
  refine ae (propext List.all_eq_true) ?_;refine forall_congr' λi=>forall_congr' λhi=>?_
  unfold xe;refine ae (Bool.and_eq_true _ _) (ae (Bool.and_eq_true _ _) (ae (propext decide_eq_true_iff) (ae (propext ey) (ae (propext List.all_eq_true) ?_))));refine ⟨λ⟨⟨a,b⟩,c⟩=>⟨b.1,b.2,λp hp=>by have:=c p hp; revert this; cases hits p i <;> simp⟩,λ⟨a,b,c⟩=>⟨⟨Int.lt_of_le_of_lt a b,a,b⟩,λp hp=>by rw [c p hp]; rfl⟩⟩
 have e2:((!ms.isEmpty)=true)↔ms≠[]:=by cases ms <;> simp
 simp only [Bool.and_eq_true,decide_eq_true_iff,e,e2,and_assoc]
theorem lE:∀ {t:T}{qs ps:List Int},nR t qs=true->(∀ i∈t.flat,∀ p∈ps,p∈qs∨hits p i=false)->nR t ps=true
 | .nil,_,_,_,_=>rfl
 | .node x ms l r d b,qs,ps,h,hp=>by
  refine cp (lF.mp h) λh1 h2 h3 h4 h5 h6 h7 h8=>?_;have key:∀ (t:T),(∀ i∈t.flat,i∈(T.node x ms l r d b).flat)->∀ i∈t.flat,∀ p∈ps++[x],p∈qs++[x]∨hits p i=false:=by
   intro t ht i hi p Ea;rcases List.mem_append.mp Ea with Ea | Ea
   ·exact (hp i (ht i hi) p Ea).imp (List.mem_append_left _) id
   ·exact .inl (List.mem_append_right _ Ea)
  refine lF.mpr ⟨h1,h2,h3,λi hi=>⟨(h4 i hi).1,(h4 i hi).2.1,λp Ea=>?_⟩,h5,lE h6 (key l λi hi=>?_),h7,lE h8 (key r λi hi=>?_)⟩
  ·rcases hp i (List.mem_append_left _ hi) p Ea with w | w
   ·exact (h4 i hi).2.2 p w
   ·exact w
  ·exact List.mem_append_right _ (List.mem_append_left _ hi)
  ·exact List.mem_append_right _ (List.mem_append_right _ hi)
theorem pQ {y:Int}{ms:List Iv}{l r:T}{d b:Int}{qs:List Int} (h:nR (.node y ms l r d b) qs=true):∃ i∈(T.node y ms l r d b).flat,i.1≤y∧y < i.2.1:=by
 refine d9 (lF.mp h) λh1 h2 h3 h4 z9=>?_;refine aQ (List.exists_mem_of_ne_nil ms h3) λi hi=>?_
 exact ⟨i,List.mem_append_left _ hi,(h4 i hi).1,(h4 i hi).2.1⟩
theorem A7 {t:T}{qs:List Int}{x:Int} (h:nR t qs=true) (hx:∀ i∈t.flat,i.2.1≤x):t.under x=true:=by
 cases t with
 | nil=>rfl
 | node y ms l r d b =>
  refine bF (pQ h) λi hi h1 h2=>?_;have:=hx i hi
  exact decide_eq_true (Int.le_trans h2 this)
theorem over_of {t:T}{qs:List Int}{x:Int} (h:nR t qs=true) (hx:∀ i∈t.flat,x < i.1):t.over x=true:=by
 cases t with
 | nil=>rfl
 | node y ms l r d b =>
  refine bF (pQ h) λi hi h1 h2=>?_;have:=hx i hi
  exact decide_eq_true (Int.le_trans this h1)
theorem JZ {x:Int}{ms:List Iv}{l r:T} (hl:nR l []=true) (hr:nR r []=true) (sl:∀ i∈l.flat,i.2.1≤x) (sr:∀ i∈r.flat,x < i.1) (bS:ms≠[]) (hm:∀ i∈ms,i.1≤x∧x < i.2.1) (hb:-2 < r.dep - l.dep∧r.dep - l.dep < 2):nR (mk x ms l r) []=true:=by
 refine lF.mpr ⟨hb,rfl,bS,λi hi=>⟨(hm i hi).1,(hm i hi).2,λp hp=>by cases hp⟩,A7 hl sl,lE hl λi hi p hp=>.inr ?_,over_of hr sr,lE hr λi hi p hp=>.inr ?_⟩
 ·rcases List.mem_singleton.mp hp with rfl;have:=sl i hi;exact eX.mpr (λq=>absurd (Int.add_le_add this (Int.add_one_le_of_lt q.2)) (by simp +arith only [Int.reduceNeg,not_false_eq_true,Int.reducePow]))
 ·rcases List.mem_singleton.mp hp with rfl;have:=sr i hi;exact eX.mpr (λq=>absurd (Int.add_le_add (Int.add_one_le_of_lt this) q.1) (by simp +arith only [Int.reduceNeg,not_false_eq_true,Int.reducePow]))
theorem xB:∀ {t:T}{ps:List Int},nR t ps=true->(∀ i∈t.flat,0≤i.1∧i.2.1≤12)->t.flat.length≤1000->ps.length+t.hgt≤3->KS t ps
 | .nil,_,_,_,_,_=>trivial
 | .node x ms l r d b,ps,h,hi,hz,hh=>by
  refine bF (pQ h) λi Jr h1 h2=>?_;refine cp (lF.mp h) λc1 c2 c3 c4 c5 c6 c7 c8=>?_
  have uf:ms.length+(l.flat.length+r.flat.length)≤1000:=by
   have:(T.node x ms l r d b).flat=ms++(l.flat++r.flat):=rfl;rw [this,List.length_append,List.length_append] at hz; exact hz
  have F8:ps.length+(1+max l.hgt r.hgt)≤3:=hh;have hb:=hi i Jr;have px:x ∉ ps:=by
   intro hp;refine aQ (List.exists_mem_of_ne_nil ms c3) λj hj=>?_;have:=(c4 j hj).2.2 x hp
   rw [eX] at this;exact this ⟨(c4 j hj).1,(c4 j hj).2.1⟩
  have jw:∀ {t:T},t.isNil=false->1≤t.hgt:=by
   intro t e;cases t with
   | nil=>exact EB e
   | node=>show 1≤1+_; omega
  refine ⟨by exact Qb (by walk_at "A") uf,by exact Int.le_trans hb.left h1,by exact Int.lt_of_lt_of_le h2 hb.right,px,by exact Qd λq=>Ql (Qa F8 q),λw=>?_,xB c6 (λi AV=>hi i (List.mem_append_right _ (List.mem_append_left _ AV))) (Qb (by walk_at "A") uf) ?_,xB c8 (λi AV=>hi i (List.mem_append_right _ (List.mem_append_right _ AV))) (Qb (by walk_at "A") uf) ?_⟩
  ·rcases w with w | w
   ·have:=jw w; exact Qd λq=>Ql (Qa this (Qa (Nat.le_max_left (l.hgt) (r.hgt)) (Qa q F8)))
   ·have:=jw w; exact Qd λq=>Ql (Qa this (Qa (Nat.le_max_right (l.hgt) (r.hgt)) (Qa q F8)))
  ·refine ae List.length_append (ae List.length_singleton ?_); exact Qd λq=>Ql (Qa q (Qa F8 (Nat.le_max_left (l.hgt) (r.hgt))))
  ·refine ae List.length_append (ae List.length_singleton ?_); exact Qd λq=>Ql (Qa q (Qa F8 (Nat.le_max_right (l.hgt) (r.hgt))))
theorem dK:∀ {b a:List Iv},b.Nodup->(∀ i∈b,i ∉ a)->aH a b=a++b
 | [],a,_,_=>(List.append_nil a).symm
 | i::b,a,hn,hd=>by
  have yt:=List.nodup_cons.mp hn;show aH (eZ a i) b=_;have e:eZ a i=a++[i]:=if_neg (hd i List.mem_cons_self);refine ae e ?_; rw [dK yt.2]; refine ae (List.append_assoc _ _ _) ?_
  ·rfl
  ·intro j hj w;rcases List.mem_append.mp w with w | w
   ·exact hd j (List.mem_cons_of_mem _ hj) w
   ·rcases List.mem_singleton.mp w with rfl;exact yt.1 hj
theorem gO {α:Type}{p:α->Bool}{l:List α}:l.filter p=[]↔∀ a∈l,p a=false:=by
 refine ae (propext List.filter_eq_nil_iff) ?_;refine forall_congr' λa=>forall_congr' λz9=>?_
 cases p a <;> simp
theorem ke {x:Int}{l r:T}{d b:Int}{k:Nat}:∀ (P ms:List Iv),P.Nodup->(∀ i∈P,i∈ms)->(∀ i∈ms,hits x i=true)->ms.length≤300->ms≠[] →
  hX (fe (k+1)) P (.node x ms l r d b)=if (ms.filter λj=>!decide (j∈P)).isEmpty then cR k (.node x [] l r d b) else some (.node x (ms.filter λj=>!decide (j∈P)) l r d b)
 | [],ms,_,_,_,_,bS=>by
  have e:(ms.filter λj=>!decide (j∈([]:List Iv)))=ms:=List.filter_eq_self.mpr λj z9=>by simp
  refine ae e ?_;have:ms.isEmpty=false:=by cases ms <;> simp_all
  refine ae this ?_; rfl
 | i::P,ms,hn,hs,hx,hz,bS=>by
  refine aS (List.nodup_cons.mp hn) λn1 n2=>?_;have Jr:=hs i List.mem_cons_self
  have ef:(ms.filter λj=>!decide (j∈i::P))=(ms.filter λj=>!decide (j=i)).filter λj=>!decide (j∈P):=by
   refine ae List.filter_filter ?_;refine List.filter_congr λj z9=>?_;simp only [List.mem_cons]
   by_cases h1:j=i <;> by_cases h2:j∈P <;> simp [h1,h2]
  have e1:fe (k+1) i (.node x ms l r d b)=if (ms.filter λj=>!decide (j=i)).isEmpty then (match cR k (.node x [] l r d b) with | none=>none | some t=>some (t,false)) else some (.node x (ms.filter λj=>!decide (j=i)) l r d b,true):=by
   conv=>lhs; rw [fe]
   refine ae (if_pos (hx i Jr)) (ae (if_pos ⟨Jr,hz⟩) ?_);try rfl
  show (match fe (k+1) i (.node x ms l r d b) with | none=>none | some p=>hX (fe (k+1)) P p.1)=_;refine ae e1 ?_;by_cases he:(ms.filter λj=>!decide (j=i))=[]
  ·have hP:P=[]:=by
    cases P with
    | nil=>rfl
    | cons p P =>
     have h1:=gO.mp he p (hs p (List.mem_cons_of_mem _ List.mem_cons_self));have:p=i:=by simpa using h1
     exact absurd (this▸List.mem_cons_self) n1
   have h0:(ms.filter λj=>!decide (j∈i::P))=[]:=by refine ae ef (ae he ?_); rfl
   refine ae h0 (ae he (ae hP ?_));simp only [List.isEmpty_nil,if_true];cases cR k (.node x [] l r d b) <;> rfl
  ·have:(ms.filter λj=>!decide (j=i)).isEmpty=false:=by
    cases h:(ms.filter λj=>!decide (j=i)) with
    | nil=>exact absurd h he
    | cons=>rfl
   refine ae this (ae ef ?_);refine ke P _ n2 (λj hj=>List.mem_filter.mpr ⟨hs j (List.mem_cons_of_mem _ hj),?_⟩) (λj hj=>hx j (List.mem_filter.mp hj).1) (Qb (List.length_filter_le _ _) hz) he;have:j≠i:=λe=>n1 (e▸hj)
   simp [this]
theorem mT {ms:List Iv}{y:Int}:(ms.filter λj=>!decide (j∈ms.filter (hits y)))=ms.filter λj=>!hits y j :=
 List.filter_congr λj hj=>by
  by_cases h:hits y j=true
  ·exact ae (decide_eq_true (List.mem_filter.mpr ⟨hj,h⟩)) (ae h rfl)
  ·refine ae (decide_eq_false (λw=>h (List.mem_filter.mp w).2)) ?_;cases hh:hits y j
   ·rfl
   ·exact absurd hh h
theorem fg {k:Nat}{x:Int}{ms:List Iv}{l r:T}{d b:Int} (h:r.dep - l.dep < 2∧l.dep - r.dep < 2):dT (k+1) (.node x ms l r d b)=some (mk x ms l r):=by
 rw [dT]; exact if_pos h
theorem qE {k:Nat}{c:Bool}{x y:Int}{ms hs:List Iv}{lt g far t2:T}{d b d1 b1:Int} (hc:decide (0 < b)=c) (hg:g.dep - lt.dep < 2∧lt.dep - g.dep < 2) (hm:ms≠[]) (hn:ms.Nodup) (hx:∀ i∈ms,hits x i=true) (hz:hs.length+ms.length≤300)
  (h1:(ms.filter λj=>!hits y j)≠[]->t2=gx c x (ms.filter λj=>!hits y j) lt g) (h2:(ms.filter λj=>!hits y j)=[]->∀ d b,cR (k+1) (nd c x [] lt g d b)=some t2) :
  ec (k+3) (nd c x ms lt (nd c y hs g far d1 b1) d b)=some (gx c y (aH hs (ms.filter (hits y))) t2 far):=by
 subst hc;have G8:ms.length≤300:=Qb (by walk_at "A") hz;have aX:∀ i∈ms.filter (hits y),i∈ms:=λi hi=>(List.mem_filter.mp hi).1
 have hP:(ms.filter (hits y)).Nodup:=hn.sublist List.filter_sublist;by_cases hb:0 < b
 ·have e0:decide (0 < b)=true:=decide_eq_true hb;rw [e0] at h1 h2 ⊢;show ec (k+3) (.node x ms lt (.node y hs g far d1 b1) d b)=some (mk y _ _ far);refine ae (show k+3=(k+2)+1 from rfl) ?_; rw [ec];simp only [e0,pick,nd,gx,Bool.not_true,if_true,Bool.false_eq_true,if_false];refine ae (show k+2=(k+1)+1 from rfl) (ae (fg hg) ?_);show (if 300 < hs.length+ms.length then none else _)=_;refine ae (if_neg (Nat.not_le_of_gt (Nat.succ_le_succ hz))) ?_;have:=ke (k:=k+1) (x:=x) (l:=lt) (r:=g) (d:=(1+(if g.dep > lt.dep then g.dep else lt.dep))) (b:=g.dep - lt.dep) (ms.filter (hits y)) ms hP aX hx G8 hm;rw [mT] at this;refine ae (show k+1+1=k+2 from rfl) (ae this ?_);rcases List.eq_nil_or_concat (ms.filter λj=>!hits y j) with w | w
  ·refine ae w ?_;simp only [List.isEmpty_nil,if_true];have:=h2 w (1+(if g.dep > lt.dep then g.dep else lt.dep)) (g.dep - lt.dep);simp only [nd,if_true] at this;exact ae this rfl
  ·have hw:(ms.filter λj=>!hits y j)≠[]:=by refine dB w λa b e=>?_; clear w; refine ae e ?_; simp
   have:(ms.filter λj=>!hits y j).isEmpty=false:=by cases h:(ms.filter λj=>!hits y j) with | nil=>exact absurd h hw | cons=>rfl
   refine ae this (ae (h1 hw) ?_);rfl
 ·have e0:decide (0 < b)=false:=decide_eq_false hb;rw [e0] at h1 h2 ⊢;show ec (k+3) (.node x ms (.node y hs far g d1 b1) lt d b)=some (mk y _ far _);refine ae (show k+3=(k+2)+1 from rfl) ?_; rw [ec];simp only [e0,pick,nd,gx,Bool.not_false,if_true,Bool.false_eq_true,if_false];refine ae (show k+2=(k+1)+1 from rfl) (ae (fg ⟨hg.2,hg.1⟩) ?_);show (if 300 < hs.length+ms.length then none else _)=_;refine ae (if_neg (Nat.not_le_of_gt (Nat.succ_le_succ hz))) ?_;have:=ke (k:=k+1) (x:=x) (l:=g) (r:=lt) (d:=(1+(if lt.dep > g.dep then lt.dep else g.dep))) (b:=lt.dep - g.dep) (ms.filter (hits y)) ms hP aX hx G8 hm;rw [mT] at this;refine ae (show k+1+1=k+2 from rfl) (ae this ?_);rcases List.eq_nil_or_concat (ms.filter λj=>!hits y j) with w | w
  ·refine ae w ?_;simp only [List.isEmpty_nil,if_true];have:=h2 w (1+(if lt.dep > g.dep then lt.dep else g.dep)) (lt.dep - g.dep);simp only [nd,Bool.false_eq_true,if_false] at this;exact ae this rfl
  ·have hw:(ms.filter λj=>!hits y j)≠[]:=by refine dB w λa b e=>?_; clear w; refine ae e ?_; simp
   have:(ms.filter λj=>!hits y j).isEmpty=false:=by cases h:(ms.filter λj=>!hits y j) with | nil=>exact absurd h hw | cons=>rfl
   refine ae this (ae (h1 hw) ?_);rfl
noncomputable def WF:T->Prop
 | .nil=>True
 | .node x ms l r d b=>ms≠[]∧ms.Nodup∧(∀ i∈ms,i.1≤x∧x < i.2.1)∧(∀ i∈l.flat,i.2.1≤x)∧(∀ i∈r.flat,x < i.1)∧(r.hgt≤l.hgt+1∧l.hgt≤r.hgt+1)∧T.node x ms l r d b=mk x ms l r∧WF l∧WF r
theorem hV:∀ {t:T},WF t->t.told
 | .nil,_=>trivial
 | .node x ms l r d b,⟨_,_,_,_,_,_,e,h1,h2⟩=>by
  refine ae e ?_; exact ⟨rfl,rfl,hV h1,hV h2⟩
theorem dF {t:T} (h:WF t):t.dep=(t.hgt:Int):=nQ (hV h)
theorem rH:∀ {t:T},WF t->nR t []=true
 | .nil,_=>rfl
 | .node x ms l r d b,⟨h1,h2,h3,h4,h5,h6,e,h7,h8⟩=>by
  have e1:=dF h7;have e2:=dF h8;exact ae e (JZ (rH h7) (rH h8) h4 h5 h1 h3 ⟨PT h6.2 e2 e1,A1 h6.1 e2 e1⟩)
noncomputable def dC (c:Bool) (x:Int) (S:List Iv):Prop:=if c then ∀ i∈S,i.2.1≤x else ∀ i∈S,x < i.1
noncomputable def kc (c:Bool) (x y:Int):Prop:=if c then x < y else y < x
theorem dC.sub {c:Bool}{x:Int}{S S':List Iv} (h:dC c x S) (hs:∀ i∈S',i∈S):dC c x S':=by
 cases c
 ·exact λi hi=>h i (hs i hi)
 ·exact λi hi=>h i (hs i hi)
theorem dC.trans {c:Bool}{x y:Int}{S:List Iv} (h:dC c x S) (hs:kc c x y):dC c y S:=by
 cases c
 ·exact λi hi=>by have h1:x < i.1:=h i hi; have h2:y < x:=hs; exact Int.lt_trans h2 h1
 ·exact λi hi=>by have h1:i.2.1≤x:=h i hi; have h2:x < y:=hs; exact Int.le_trans h1 (Int.le_of_lt h2)
theorem dC.app {c:Bool}{x:Int}{S S':List Iv} (h:dC c x S) (h':dC c x S'):dC c x (S++S'):=by
 cases c
 ·exact λi hi=>(List.mem_append.mp hi).elim (h i) (h' i)
 ·exact λi hi=>(List.mem_append.mp hi).elim (h i) (h' i)
theorem B0 {c:Bool}{x y:Int}{ms:List Iv} (hm:∀ i∈ms,i.1≤x∧x < i.2.1) (hs:kc c x y):dC c y (ms.filter λj=>!hits y j):=by
 have key:∀ i∈ms.filter λj=>!hits y j,(i.1≤x∧x < i.2.1)∧¬(i.1≤y∧y < i.2.1):=λi hi=>⟨hm i (List.mem_filter.mp hi).1,eX.mp (by simpa using (List.mem_filter.mp hi).2)⟩
 cases c
 ·exact λi hi=>by have:=key i hi; have h2:y < x:=hs; exact Int.lt_of_not_ge λw=>this.2 ⟨w,Int.lt_trans h2 this.1.2⟩
 ·exact λi hi=>by have:=key i hi; have h2:x < y:=hs; exact Int.le_of_not_gt λw=>this.2 ⟨Int.le_trans this.1.1 (Int.le_of_lt h2),w⟩
theorem BU {c:Bool}{x:Int}{ms:List Iv}{tl th:T}{d b:Int}:nd (!c) x ms tl th d b=nd c x ms th tl d b:=by cases c <;> rfl
theorem sI {c:Bool}{x:Int}{ms:List Iv}{tl th:T}:gx (!c) x ms tl th=gx c x ms th tl:=by cases c <;> rfl
theorem E0 (c:Bool) (x:Int) (ms:List Iv) (l r:T) (d b:Int):T.node x ms l r d b=nd c x ms (pick (!c) l r) (pick c l r) d b:=by cases c <;> rfl
theorem kj {c:Bool}{x:Int}{ms:List Iv}{tl th:T}:∃ d b,gx c x ms tl th=nd c x ms tl th d b∧(tl.dep < th.dep->decide (0 < b)=c):=by
 cases c
 ·exact ⟨_,tl.dep - th.dep,rfl,λh=>decide_eq_false (λq=>absurd (Int.add_le_add (Int.add_one_le_of_lt q) (Int.add_one_le_of_lt h)) (by simp +arith only [Int.reduceNeg,not_false_eq_true,Int.reducePow]))⟩
 ·exact ⟨_,th.dep - tl.dep,rfl,λh=>decide_eq_true (Int.lt_of_not_ge λq=>absurd (Int.add_le_add (Int.add_one_le_of_lt h) q) (by simp +arith only [Int.reduceNeg,not_false_eq_true,Int.reducePow]))⟩
theorem cY {c:Bool}{x:Int}{ms:List Iv}{tl th:T}:(gx c x ms tl th).flat.Perm (ms++(tl.flat++th.flat)):=by
 cases c
 ·exact List.Perm.append_left ms List.perm_append_comm
 ·exact .refl _
theorem du {c:Bool}{x:Int}{ms:List Iv}{tl th:T}:(gx c x ms tl th).hgt=1+max tl.hgt th.hgt:=by
 cases c
 ·show 1+max th.hgt tl.hgt=_; exact congrArg (λx=>1+x) (Nat.max_comm th.hgt tl.hgt)
 ·rfl
theorem lT {c:Bool}{x:Int}{ms:List Iv}{tl th:T} (h1:WF tl) (h2:WF th) (bS:ms≠[]) (hn:ms.Nodup) (hm:∀ i∈ms,i.1≤x∧x < i.2.1) (sl:dC c x tl.flat) (sh:dC (!c) x th.flat) (hb:tl.hgt≤th.hgt+1∧th.hgt≤tl.hgt+1):WF (gx c x ms tl th):=by
 cases c
 ·exact ⟨bS,hn,hm,sh,sl,hb,rfl,h2,h1⟩
 ·exact ⟨bS,hn,hm,sl,sh,⟨hb.2,hb.1⟩,rfl,h1,h2⟩
structure WN (c:Bool) (x:Int) (ms:List Iv) (tl th:T):Prop where
 ne:ms≠[]
 nod:ms.Nodup
 mid:∀ i∈ms,i.1≤x∧x < i.2.1
 sl:dC c x tl.flat
 sh:dC (!c) x th.flat
 hb:tl.hgt≤th.hgt+1∧th.hgt≤tl.hgt+1
 wl:WF tl
 wh:WF th
theorem WF.view (c:Bool) {t:T} (h:WF t) (hn:1≤t.hgt):∃ x ms tl th,t=gx c x ms tl th∧WN c x ms tl th:=by
 cases t with
 | nil=>exact absurd hn (by show ¬(1≤0); decide)
 | node x ms l r d b =>
  refine cO h λh1 h2 h3 h4 h5 h6 e h7 h8=>?_; clear h
  cases c
  ·exact ⟨x,ms,r,l,e,h1,h2,h3,h5,h4,h6,h8,h7⟩
  ·exact ⟨x,ms,l,r,e,h1,h2,h3,h4,h5,⟨h6.2,h6.1⟩,h7,h8⟩
theorem WF.bare {t:T} (e:t.hgt=0):t=.nil:=by
 cases t with
 | nil=>rfl
 | node y ms l r d b=>exact absurd (show 1+_=0 from e) (bK (bT (az au)))
theorem lg {t:T}:t.isNil=decide (t.hgt=0):=by
 cases t with
 | nil=>rfl
 | node y ms l r d b=>exact (decide_eq_false (by show ¬(1+_=0); exact bK (bT (az au)))).symm
theorem tU {α:Type}{l:List α} (h:l≠[]):l.isEmpty=false:=by cases l <;> simp_all
theorem fF {ms:List Iv} (p:Iv->Bool):(ms.filter p++ms.filter λj=>!p j).Perm ms:=List.filter_append_perm p ms
theorem dN {a b:List Iv} (h:∀ i,a.count i=b.count i):a.Perm b:=List.perm_iff_count.mpr h
noncomputable def t_ (n:Nat) (c:Bool) (x:Int) (tl th:T):Prop:=∃ t,(∀ d b,cR n (nd c x [] tl th d b)=some t)∧WF t∧t.flat.Perm (tl.flat++th.flat)∧min 1 (max tl.hgt th.hgt)≤t.hgt∧t.hgt≤1+max tl.hgt th.hgt
theorem t_.swap {n:Nat}{c:Bool}{x:Int}{tl th:T} (h:t_ n c x tl th):t_ n (!c) x th tl:=by
 refine bE h λt h1 h2 h3 h4 h5=>?_; clear h
 exact ⟨t,λd b=>by refine ae BU ?_; exact h1 d b,h2,h3.trans List.perm_append_comm,by refine ae (Nat.max_comm _ _) ?_; exact h4,by exact ae (Nat.max_comm _ _) h5⟩
theorem iY {n:Nat}{c:Bool}{x:Int}{th:T} (h:WF th):t_ (n+1) c x .nil th:=by
 refine ⟨th,λd b=>?_,h,.refl _,?_,?_⟩
 ·cases c
  ·show cR (n+1) (.node x [] th .nil d b)=_;rw [cR];cases th <;> rfl
  ·show cR (n+1) (.node x [] .nil th d b)=_;rw [cR];rfl
 ·show min 1 (max 0 th.hgt)≤_; exact Qb (Nat.min_le_right _ _) (Nat.max_le.mpr ⟨Nat.zero_le _,Nat.le_refl _⟩)
 ·show _≤1+max 0 th.hgt; exact Qb (Nat.le_refl th.hgt) (Nat.le_add_left th.hgt 1)
theorem rK {k:Nat}{c:Bool}{x y:Int}{ms hs:List Iv}{lt g far:T}{d b d1 b1:Int} (hc:decide (0 < b)=c) (hm:ms≠[]) (hn:ms.Nodup) (hx:∀ i∈ms,i.1≤x∧x < i.2.1) (hz:hs.length+ms.length≤300) (mf:∀ i∈ms,i ∉ hs) (wl:WF lt) (wg:WF g) (sl:dC c x lt.flat) (sg:dC (!c) x g.flat) (YC:dC c y g.flat) (Og:kc c x y)
  (hb:lt.hgt≤g.hgt+1∧g.hgt≤lt.hgt+1) (hp:t_ (k+1) c x lt g) :
  ∃ t2,ec (k+3) (nd c x ms lt (nd c y hs g far d1 b1) d b)=some (gx c y (hs++ms.filter (hits y)) t2 far)∧WF t2∧t2.flat.Perm ((ms.filter λj=>!hits y j)++(lt.flat++g.flat))∧dC c y t2.flat ∧
   (t2.hgt=1+max lt.hgt g.hgt∨min 1 (max lt.hgt g.hgt)≤t2.hgt∧t2.hgt≤1+max lt.hgt g.hgt):=by
 have e1:=dF wl;have e2:=dF wg;have xh:∀ i∈ms,hits x i=true:=λi hi=>ey.mpr (hx i hi)
 have hP:(ms.filter (hits y)).Nodup:=hn.sublist List.filter_sublist;have OP:∀ i∈ms.filter (hits y),i ∉ hs:=λi hi=>mf i (List.mem_filter.mp hi).1
 have low:∀ t2:T,t2.flat.Perm ((ms.filter λj=>!hits y j)++(lt.flat++g.flat))->dC c y t2.flat:=λt2 p =>
  ((B0 hx Og).app ((sl.trans Og).app YC)).sub λi hi=>p.mem_iff.mp hi
 by_cases hr:(ms.filter λj=>!hits y j)=[]
 ·refine bE hp λt p1 p2 p3 p4 p5=>?_; clear hp
  have key:=qE (k:=k) (c:=c) (x:=x) (y:=y) (ms:=ms) (hs:=hs) (lt:=lt) (g:=g) (far:=far) (t2:=t) (d:=d) (b:=b) (d1:=d1) (b1:=b1) hc ⟨A1 hb.2 e2 e1,A1 hb.1 e1 e2⟩ hm hn xh hz (λw=>absurd hr w) (λz9=>p1);rw [dK hP OP] at key;have pf:t.flat.Perm ((ms.filter λj=>!hits y j)++(lt.flat++g.flat)):=by exact ae hr p3
  exact ⟨t,key,p2,pf,low t pf,.inr ⟨p4,p5⟩⟩
 ·have key:=qE (k:=k) (c:=c) (x:=x) (y:=y) (ms:=ms) (hs:=hs) (lt:=lt) (g:=g) (far:=far) (t2:=gx c x (ms.filter λj=>!hits y j) lt g) (d:=d) (b:=b) (d1:=d1) (b1:=b1) hc ⟨A1 hb.2 e2 e1,A1 hb.1 e1 e2⟩ hm hn xh hz (λz9=>rfl) (λw=>absurd w hr);rw [dK hP OP] at key;have hw:=lT (c:=c) wl wg hr (hn.sublist List.filter_sublist) (λi hi=>hx i (List.mem_filter.mp hi).1) sl sg hb;exact ⟨_,key,hw,cY,low _ cY,.inl du⟩
theorem rL {c:Bool}{x y:Int}{hs:List Iv} (bS:hs≠[]) (hm:∀ i∈hs,i.1≤y∧y < i.2.1) (h:dC (!c) x hs):kc c x y:=by
 refine aQ (List.exists_mem_of_ne_nil hs bS) λi hi=>?_;have h1:=hm i hi
 cases c
 ·have h2:i.2.1≤x:=h i hi;show y < x; exact Int.lt_of_lt_of_le h1.right h2
 ·have h2:x < i.1:=h i hi;show x < y; exact Int.lt_of_lt_of_le h2 h1.left
theorem wA {k:Nat}{c:Bool}{x y:Int}{ms hs:List Iv}{lt g far:T}{d b:Int} (hd:lt.dep+2≤(gx c y hs g far).dep):dT (k+1) (nd c x ms lt (gx c y hs g far) d b)=if g.dep≤far.dep then ec k (gx c x ms lt (gx c y hs g far)) else jh k (gx c x ms lt (gx c y hs g far)):=by
 cases c
 ·show dT (k+1) (.node x ms (mk y hs far g) lt d b)=_;have gy:lt.dep+2≤(mk y hs far g).dep:=hd;rw [dT]; refine ae (if_neg (λq9=>absurd (Int.add_le_add gy (Int.add_one_le_of_lt q9.2)) (by simp +arith only [Int.reduceNeg,not_false_eq_true,Int.reducePow,Int.natCast_add,Int.cast_ofNat_Int,Int.natCast_one]))) ?_;have e:decide (0 < lt.dep - (mk y hs far g).dep)=false:=decide_eq_false (λq9=>absurd (Int.add_le_add (Int.add_one_le_of_lt q9) gy) (by simp +arith only [Int.reduceNeg,not_false_eq_true,Int.reducePow,Int.natCast_add,Int.cast_ofNat_Int,Int.natCast_one]));simp only [e,pick,Bool.false_eq_true,if_false];refine ae (if_neg (show ¬((mk y hs far g).isNil=true) from λq=>by exact mi q)) ?_;have eb:(mk y hs far g).bal=g.dep - far.dep:=rfl;by_cases w:g.dep≤far.dep
  ·rw [if_pos (.inl (decide_eq_false (by rw [eb]; exact λq9=>absurd (Int.add_le_add (Int.add_one_le_of_lt q9) w) (by simp +arith only [Int.reduceNeg,not_false_eq_true,Int.reducePow,Int.natCast_add,Int.cast_ofNat_Int,Int.natCast_one]))).symm),if_pos w];rfl
  ·rw [if_neg]; refine ae (if_neg w) ?_
   ·rfl
   ·rintro (q | q)
    ·rw [decide_eq_true (by exact ae eb (Int.lt_of_not_ge λq9=>absurd (Int.add_le_add (Int.add_one_le_of_lt (Int.lt_of_not_ge w)) q9) (by simp +arith only [Int.reduceNeg,not_false_eq_true,Int.reducePow,Int.natCast_add,Int.cast_ofNat_Int,Int.natCast_one])))] at q; exact mi q
    ·rw [eb] at q; exact absurd (Int.add_le_add (Int.le_of_eq q) (Int.add_one_le_of_lt (Int.lt_of_not_ge w))) (by simp +arith only [Int.reduceNeg,not_false_eq_true,Int.reducePow,Int.natCast_add,Int.cast_ofNat_Int,Int.natCast_one])
 ·show dT (k+1) (.node x ms lt (mk y hs g far) d b)=_;have gy:lt.dep+2≤(mk y hs g far).dep:=hd;rw [dT]; refine ae (if_neg (λq9=>absurd (Int.add_le_add gy (Int.add_one_le_of_lt q9.1)) (by simp +arith only [Int.reduceNeg,not_false_eq_true,Int.reducePow,Int.natCast_add,Int.cast_ofNat_Int,Int.natCast_one]))) ?_;have e:decide (0 < (mk y hs g far).dep - lt.dep)=true:=decide_eq_true (Int.lt_of_not_ge λq9=>absurd (Int.add_le_add gy q9) (by simp +arith only [Int.reduceNeg,not_false_eq_true,Int.reducePow,Int.natCast_add,Int.cast_ofNat_Int,Int.natCast_one]));simp only [e,pick,if_true];refine ae (if_neg (show ¬((mk y hs g far).isNil=true) from λq=>by exact mi q)) ?_;have eb:(mk y hs g far).bal=far.dep - g.dep:=rfl;by_cases w:g.dep≤far.dep
  ·rw [if_pos]; refine ae (if_pos w) ?_
   ·rfl
   ·by_cases q:far.dep=g.dep
    ·exact .inr (by exact ae eb (Int.sub_eq_zero.mpr q))
    ·exact .inl (decide_eq_true (by exact ae eb (Int.sub_pos_of_lt (Int.lt_iff_le_and_ne.mpr ⟨w,λe=>q e.symm⟩)))).symm
  ·rw [if_neg]; refine ae (if_neg w) ?_
   ·rfl
   ·rintro (q | q)
    ·rw [decide_eq_false (by exact ae eb (λq=>absurd (Int.add_le_add (Int.add_one_le_of_lt q) (Int.add_one_le_of_lt (Int.lt_of_not_ge w))) (by simp +arith only [Int.reduceNeg,not_false_eq_true,Int.reducePow])))] at q; exact EB q
    ·rw [eb] at q; exact absurd (Int.add_le_add (Int.le_of_eq (Eq.symm q)) (Int.add_one_le_of_lt (Int.lt_of_not_ge w))) (by simp +arith only [Int.reduceNeg,not_false_eq_true,Int.reducePow])
theorem AB {k:Nat}{c:Bool}{x:Int}{ms:List Iv}{lt H ch:T}{d b:Int} (hc:decide (0 < b)=c) (h:ec k H=some ch):jh (k+1) (nd c x ms lt H d b)=ec k (gx c x ms lt ch):=by
 subst hc;by_cases hb:0 < b
 ·refine ae (decide_eq_true hb) ?_;show jh (k+1) (.node x ms lt H d b)=_;rw [jh]; refine ae (decide_eq_true hb) ?_;show (match ec k H with | none=>none | some ch=>ec k (gx true x ms lt ch))=_;exact ae h rfl
 ·refine ae (decide_eq_false hb) ?_;show jh (k+1) (.node x ms H lt d b)=_;rw [jh]; refine ae (decide_eq_false hb) ?_;show (match ec k H with | none=>none | some ch=>ec k (gx false x ms lt ch))=_;exact ae h rfl
theorem mr {c:Bool}{x:Int}{ms S:List Iv} (hm:∀ i∈ms,i.1≤x∧x < i.2.1) (h:dC c x S):∀ i∈ms,i ∉ S:=λi hi w=>by
 have h1:=hm i hi;cases c
 ·have h2:x < i.1:=h i w; exact Int.not_le_of_gt h2 h1.left
 ·have h2:i.2.1≤x:=h i w; exact Int.not_le_of_gt h1.right h2
theorem BW {c:Bool}{x:Int}{ms:List Iv}{tl th:T} (h1:tl.told) (h2:th.told):(gx c x ms tl th).told:=by
 cases c
 ·exact ⟨rfl,rfl,h2,h1⟩
 ·exact ⟨rfl,rfl,h1,h2⟩
theorem nn {c:Bool}:(!(!c))=c:=by cases c <;> rfl
theorem g0 {hs P:List Iv} (h1:hs.Nodup) (h2:P.Nodup) (hd:∀ i∈P,i ∉ hs):(hs++P).Nodup:=List.nodup_append.mpr ⟨h1,h2,λa ha b hb e=>hd b hb (e▸ha)⟩
theorem nH {y:Int}{hs ms:List Iv} (h:∀ i∈hs,i.1≤y∧y < i.2.1):∀ i∈hs++ms.filter (hits y),i.1≤y∧y < i.2.1:=λi hi=>by
 rcases List.mem_append.mp hi with hi | hi
 ·exact h i hi
 ·exact ey.mp (List.mem_filter.mp hi).2
theorem pS {hs P:List Iv} (h:hs≠[]):hs++P≠[]:=λw=>h (List.append_eq_nil_iff.mp w).1
theorem lh {a b n:Nat} (h:1+max a b < n+1):a < n∧b < n:=by
 have h':max a b < n:=Nat.lt_of_succ_lt_succ (by rw [Nat.add_comm] at h; exact h);exact ⟨Nat.lt_of_le_of_lt (Nat.le_max_left a b) h',Nat.lt_of_le_of_lt (Nat.le_max_right a b) h'⟩
theorem x8 {a b n:Nat} (h:1+max a b≤n+1):a≤n∧b≤n:=(lh (Nat.lt_succ_of_le h)).imp Nat.le_of_lt_succ Nat.le_of_lt_succ
theorem NH {a b:Nat} (h:b≤a+1∧a≤b+1):(b:Int) - a < 2∧(a:Int) - b < 2:=⟨A1 h.1 rfl rfl,A1 h.2 rfl rfl⟩
theorem NK {a b:Nat} (h:a≤1) (h':b≤1):b≤a+1∧a≤b+1:=⟨Qb h' (Nat.le_add_left _ _),Qb h (Nat.le_add_left _ _)⟩
theorem PY {N m l h n:Nat} (hz:N≤n) (e:N=m+(l+h)):h≤n:=by
 subst e; exact Qb (Qb (Nat.le_add_left _ _) (Nat.le_add_left _ _)) hz
theorem lnE {g l' l r:Nat} (e:g+l'=l) (hz:l+r≤6):g+(l'+r)≤6:=by
 subst e; exact eI (Nat.add_assoc _ _ _) hz
theorem lnF {N m l z g r:Nat} (hz:N≤6) (e:N=m+(l+z)) (e2:g+r=z):¬ 300 < m+g:=by
 subst e2; subst e;exact Nat.not_lt.mpr (Qb (Qb (Nat.add_le_add_left (Qb (Nat.le_add_right g r) (Nat.le_add_left _ l)) m) hz) (by decide))
theorem lnH {N m l z:Nat} (hz:N≤6) (e:N=m+(l+z)):l≤6:=by
 subst e; exact Qb (Qb (Nat.le_add_right l z) (Nat.le_add_left _ m)) hz
theorem lnG {N m l z g r:Nat} (hz:N≤6) (e:N=m+(l+z)) (e2:g+r=z):l+r≤6:=by
 subst e2; subst e;exact Qb (Qb (Nat.add_le_add_left (Nat.le_add_left r g) l) (Nat.le_add_left _ m)) hz
theorem cnP {T F l r g z H m N:Nat} (c1:T=F+(l+r)) (c2:g+r=z) (c3:H+F=m) (c4:N=m+(l+z)):g+H+T=N:=by
 subst c1 c2 c3 c4; simp +arith only
section
set_option synthInstance.maxHeartbeats 0
set_option synthInstance.maxSize 100000
set_option maxSynthPendingDepth 20
theorem YO:∀ a,a < 3->∀ r,r < 3->1≤r->¬(r≤a+1∧a≤r+1)->a=0∧r=2:=by decide +kernel
theorem Uj:∀ L,L < 2->∀ g,g < 3->∀ f,f < 3->1+max g f=L+2->(g≤f+1∧f≤g+1)->g≤f->(L≤L∧g≤L+1∧(L≤g+1∧g≤L+1)∧L+1≤f) ∧
  ∀ t,t < 1+max L g+1->min 1 (max L g)≤t->(t≤f+1∧f≤t+1)∧1+L≤1+max t f∧1+max t f≤L+3:=by decide +kernel
theorem Ui:∀ L,L < 2->∀ a,a < 2->∀ b,b < 2->∀ f,f < 3->1+max (1+max a b) f=L+2->(1+max a b≤f+1∧f≤1+max a b+1)->¬ 1+max a b≤f->(a≤b+1∧b≤a+1)->((f≤L∧a≤L+1∧f≤a+1∧a≤f+1)∧L≤L∧b≤L+1∧L≤b+1∧b≤L+1)∧b≤L:=by decide +kernel
theorem Uh:∀ L,L < 2->∀ a,a < 2->∀ b,b < 2->∀ f,f < 3->1+max (1+max a b) f=L+2->(1+max a b≤f+1∧f≤1+max a b+1)->¬ 1+max a b≤f->(a≤b+1∧b≤a+1)->∀ ty,ty < 1+max f a+1->min 1 (max f a)≤ty->L≤ty∧ty≤L+1:=by decide +kernel
theorem Ug:∀ L,L < 2->∀ b,b < L+1->∀ ty,ty < L+2->∀ tx,tx < 1+max L b+1->L≤b+1->L≤ty->min 1 (max L b)≤tx->(tx≤ty+1∧ty≤tx+1)∧1+L≤1+max tx ty∧1+max tx ty≤L+3:=by decide +kernel
end
theorem qQ {t a b:Nat} (q:t=1+max a b∨min 1 (max a b)≤t∧t≤1+max a b):t < 1+max a b+1∧min 1 (max a b)≤t:=by
 rcases q with rfl | q
 ·exact ⟨Nat.lt_succ_self _,Qb (Nat.min_le_left _ _) (Nat.le_add_right _ _)⟩
 ·exact ⟨Nat.lt_succ_of_le q.2,q.1⟩
theorem ar1 {L l g f:Nat} (hL:L≤1) (el:l=L) (e:1+max g f=L+2) (hb:g≤f+1∧f≤g+1) (h:g≤f):(l≤L∧g≤L+1∧(l≤g+1∧g≤l+1)∧l+1≤f) ∧
  ∀ t,(t=1+max l g∨min 1 (max l g)≤t∧t≤1+max l g)->(t≤f+1∧f≤t+1)∧1+L≤1+max t f∧1+max t f≤L+3:=by
 subst el;have hw:1+max g f < 3+1:=by exact ae e (Nat.succ_lt_succ (Nat.succ_lt_succ (Nat.lt_succ_of_le hL)))
 have w:=Uj l (Nat.lt_succ_of_le hL) g (lh hw).1 f (lh hw).2 e hb h;exact ⟨w.1,λt q=>w.2 t (qQ q).1 (qQ q).2⟩
theorem ar2 {L l a b f:Nat} (hL:L≤1) (el:l=L) (e:1+max (1+max a b) f=L+2) (hb:1+max a b≤f+1∧f≤1+max a b+1) (h:¬ 1+max a b≤f) (vb:a≤b+1∧b≤a+1):((f≤L∧a≤L+1∧f≤a+1∧a≤f+1)∧l≤L∧b≤L+1∧l≤b+1∧b≤l+1) ∧
  ∀ ty,(ty=1+max f a∨min 1 (max f a)≤ty∧ty≤1+max f a)->(L≤ty∧ty≤L+1)∧∀ tx,(tx=1+max l b∨min 1 (max l b)≤tx∧tx≤1+max l b)->(tx≤ty+1∧ty≤tx+1)∧1+L≤1+max tx ty∧1+max tx ty≤L+3:=by
 subst el;have hw:1+max (1+max a b) f < 3+1:=by exact ae e (Nat.succ_lt_succ (Nat.succ_lt_succ (Nat.lt_succ_of_le hL)))
 have ha:=(lh (lh hw).1).1;have fC:=(lh (lh hw).1).2;have w:=Ui l (Nat.lt_succ_of_le hL) a ha b fC f (lh hw).2 e hb h vb;refine ⟨w.1,λty q=>?_⟩;have y:=Uh l (Nat.lt_succ_of_le hL) a ha b fC f (lh hw).2 e hb h vb ty (qQ q).1 (qQ q).2;exact ⟨y,λtx r=>Ug l (Nat.lt_succ_of_le hL) b (Nat.lt_succ_of_le w.2) ty (Nat.lt_succ_of_le y.2) tx (qQ r).1 w.1.2.2.2.1 y.1 (qQ r).2⟩
theorem cn1 {hs fy ny t f m l g M:Nat} (c1:t=ny+(l+g)) (c2:M=hs+(g+f)) (c3:fy+ny=m):hs+fy+(t+f)=m+(l+M):=Nat.le_antisymm (Qd λq=>Ql (Qa (Qc c1) (Qa (Qc (Eq.symm c2)) (Qa (Qc c3) q)))) (Qd λq=>Ql (Qa (Qc (Eq.symm c1)) (Qa (Qc c2) (Qa (Qc (Eq.symm c3)) q))))
theorem cn2 {ty nh f a M hs G m nm fm fh zs b tx l:Nat} (c1:ty=nh+(f+a)) (c2:M=hs+(G+f)) (c3:fm+nm=m) (c4:fh+nh=hs) (c5:G=zs+(a+b)) (c6:tx=nm+(l+b)):zs+fh+fm+(tx+ty)=m+(l+M):=Nat.le_antisymm (Qd λq=>Ql (Qa (Qc (Eq.symm c2)) (Qa q (Qa (Qc (Eq.symm c5)) (Qa (Qc c4) (Qa (Qc c3) (Qa (Qc c6) (Qc c1)))))))) (Qd λq=>Ql (Qa (Qc c5) (Qa q (Qa (Qc (Eq.symm c3)) (Qa (Qc (Eq.symm c6)) (Qa (Qc c2) (Qa (Qc (Eq.symm c1)) (Qc (Eq.symm c4)))))))))
theorem ln1 {m l h g f H:Nat} (hz:m+(l+H)≤6) (e:H=h+(g+f)):l+g≤6∧h+m≤300:=by
 subst e;exact ⟨Qb (by simp +arith only) hz,Qb (Qb (by simp +arith only) hz) (by decide)⟩
theorem ln2 {m l h f z a b H G:Nat} (hz:m+(l+H)≤6) (e:H=h+(G+f)) (e2:G=z+(a+b)):f+a≤6∧l+b≤6∧z+h≤300∧z+h+m≤300:=by
 subst e e2;exact ⟨Qb (by simp +arith only) hz,Qb (by simp +arith only) hz,Qb (Qb (by simp +arith only) hz) (by decide),Qb (Qb (by simp +arith only) hz) (by decide)⟩
theorem Bl {L k:Nat} (hL:L≤1) (JM:∀ n c x tl th,k+1≤n->WF tl->WF th->dC c x tl.flat->dC (!c) x th.flat->tl.hgt≤L->th.hgt≤L+1->tl.hgt≤th.hgt+1∧th.hgt≤tl.hgt+1->tl.flat.length+th.flat.length≤6->t_ n c x tl th)
  {c:Bool}{x:Int}{ms:List Iv}{lt H:T}{d b:Int} (bS:ms≠[]) (hn:ms.Nodup) (hm:∀ i∈ms,i.1≤x∧x < i.2.1) (wl:WF lt) (wH:WF H) (sl:dC c x lt.flat) (sH:dC (!c) x H.flat) (el:lt.hgt=L) (eH:H.hgt=L+2) (hz:ms.length+(lt.flat.length+H.flat.length)≤6) :
  ∃ t,dT (k+5) (nd c x ms lt H d b)=some t∧WF t∧t.flat.Perm (ms++(lt.flat++H.flat))∧1+L≤t.hgt∧t.hgt≤L+3:=by
 refine jg (wH.view c (Qb (by walk_at "A") (Qc (Eq.symm eH)))) λy hs g far ak w=>?_; subst ak
 have dl:=dF wl;have dH:=dF wH;have dg:=dF w.wl;have df:=dF w.wh;rw [du] at eH dH;rw [eH] at dH;rw [el] at dl;have pH:=cY (c:=c) (x:=y) (ms:=hs) (tl:=g) (th:=far);have m1:∀ i∈hs,i∈(gx c y hs g far).flat:=λi hi=>pH.mem_iff.mpr (List.mem_append_left _ hi)
 have m2:∀ i∈g.flat,i∈(gx c y hs g far).flat:=λi hi=>pH.mem_iff.mpr (List.mem_append_right _ (List.mem_append_left _ hi))
 have Og:kc c x y:=rL w.ne w.mid (sH.sub m1);have hlen:=pH.length_eq;simp only [List.length_append] at hlen;rw [wA (k:=k+4) (by rw [dl,dH]; exact Int.le_refl _)];have A6:=w.hb;by_cases Jx:g.hgt≤far.hgt
 ·rw [if_pos (by rw [dg,df]; exact Int.ofNat_le.mpr Jx)];refine aS (ar1 hL el eH A6 Jx) λak b5=>?_; obtain ⟨b1,b2,b3,b4⟩:=ak
  have b6:=ln1 hz hlen;refine bg (kj (c:=c) (x:=x) (ms:=ms) (tl:=lt) (th:=gx c y hs g far)) λD B e Rz=>?_;refine bg (kj (c:=c) (x:=y) (ms:=hs) (tl:=g) (th:=far)) λD1 B1 e1 z9=>?_
  have hB:=Rz (by refine ae dl (ae dH ?_); exact Int.ofNat_lt.mpr (Nat.lt_succ_of_lt (Nat.lt_succ_self L)));refine ae e (ae e1 ?_);obtain ⟨t2,q1,q2,q3,q4,q5⟩:=rK (k:=k+1) (c:=c) (x:=x) (y:=y) (ms:=ms) (hs:=hs) (lt:=lt) (g:=g) (far:=far) (d:=D) (b:=B) (d1:=D1) (b1:=B1) hB bS hn hm b6.2 (mr hm (sH.sub m1)) wl w.wl sl (sH.sub m2) w.sl Og b3
   (JM (k+2) c x lt g (Nat.le_succ _) wl w.wl sl (sH.sub m2) b1 b2 b3 b6.1)
  refine aS (b5 _ q5) λb7 b8=>?_;refine ⟨_,q1,lT q2 w.wh (pS w.ne) (g0 w.nod (hn.sublist List.filter_sublist) λi hi=>mr hm (sH.sub m1) i (List.mem_filter.mp hi).1) (nH w.mid) q4 w.sh b7,?_,by refine ae du ?_; exact b8⟩
  ·refine eI e1 ?_;refine cY.trans (dN λi=>?_);have c1:=q3.count_eq i;have c2:=pH.count_eq i;have c3:=(fF (ms:=ms) (hits y)).count_eq i;simp only [List.count_append] at c1 c2 c3 ⊢;exact cn1 c1 c2 c3
 ·rw [if_neg (by rw [dg,df]; exact λq=>Jx (Int.ofNat_le.mp q))];refine jg (w.wl.view (!c) (Nat.lt_of_le_of_lt (Nat.zero_le _) (Nat.lt_of_not_le Jx))) λz zs a bz ak v=>?_; subst ak
  have Yk:=v.hb;rw [du] at Jx eH A6 dg;refine aS (ar2 hL el eH A6 Jx Yk) λak b7=>?_; obtain ⟨⟨b1,b2,b3⟩,b4,b5,b6⟩:=ak
  have pg:=cY (c:=!c) (x:=z) (ms:=zs) (tl:=a) (th:=bz);have n1:∀ i∈zs,i∈(gx (!c) z zs a bz).flat:=λi hi=>pg.mem_iff.mpr (List.mem_append_left _ hi)
  have n2:∀ i∈a.flat,i∈(gx (!c) z zs a bz).flat:=λi hi=>pg.mem_iff.mpr (List.mem_append_right _ (List.mem_append_left _ hi))
  have n3:∀ i∈bz.flat,i∈(gx (!c) z zs a bz).flat:=λi hi=>pg.mem_iff.mpr (List.mem_append_right _ (List.mem_append_right _ hi))
  have Ny:=pg.length_eq;simp only [List.length_append] at Ny;have jx:=ln2 hz hlen Ny;refine bg (kj (c:=!c) (x:=y) (ms:=hs) (tl:=far) (th:=gx (!c) z zs a bz)) λD1 B1 e1 Ry=>?_;refine bg (kj (c:=!c) (x:=z) (ms:=zs) (tl:=a) (th:=bz)) λD2 B2 e2 z9=>?_
  have Gj:=Ry (by refine ae dg (ae df ?_); exact Int.ofNat_lt.mpr (Nat.lt_of_not_le Jx));have hyz:kc (!c) y z:=rL v.ne v.mid (by exact ae nn (w.sl.sub n1));have sa:dC (!(!c)) y a.flat:=by exact ae nn (w.sl.sub n2)
  obtain ⟨ty,q1,q2,q3,q4,q5⟩:=rK (k:=k) (c:=!c) (x:=y) (y:=z) (ms:=hs) (hs:=zs) (lt:=far) (g:=a) (far:=bz) (d:=D1) (b:=B1) (d1:=D2) (b1:=B2) Gj w.ne w.nod w.mid jx.2.2.1 (mr w.mid (w.sl.sub n1)) w.wh v.wl w.sh sa v.sl hyz b3
   (JM (k+1) (!c) y far a (Nat.le_refl _) w.wh v.wl w.sh sa b1 b2 b3 jx.1)
  refine aS (b7 _ q5) λhy b8=>?_;clear b7
  rw [← e2,← e1,sI] at q1;rw [sI] at q1;refine bg (kj (c:=c) (x:=x) (ms:=ms) (tl:=lt) (th:=gx c y hs (gx (!c) z zs a bz) far)) λD B e Rz=>?_;have hB:=Rz (by refine ae dl (ae dH ?_); exact Int.ofNat_lt.mpr (Nat.lt_succ_of_lt (Nat.lt_succ_self L)))
  refine ae e (ae (AB hB (by rw [sI] at q1 ⊢; exact q1)) ?_);have dty:=dF q2;have mu:=nQ (BW (c:=c) (x:=z) (ms:=zs++hs.filter (hits z)) (hV v.wh) (hV q2));rw [du] at mu;refine bg (kj (c:=c) (x:=x) (ms:=ms) (tl:=lt) (th:=gx c z (zs++hs.filter (hits z)) bz ty)) λD3 B3 e3 Rx=>?_;refine bg (kj (c:=c) (x:=z) (ms:=zs++hs.filter (hits z)) (tl:=bz) (th:=ty)) λD4 B4 e4 z9=>?_
  have hB3:=Rx (by refine ae dl (ae mu ?_); exact Int.ofNat_lt.mpr (Nat.lt_of_le_of_lt hy.1 (Nat.lt_of_le_of_lt (Nat.le_max_right bz.hgt ty.hgt) (Nat.lt_add_of_pos_left Nat.one_pos))));refine ae e3 (ae e4 ?_);have LX:∀ i∈zs++hs.filter (hits z),i∈(gx c y hs (gx (!c) z zs a bz) far).flat:=λi hi=>by
   rcases List.mem_append.mp hi with hi | hi
   ·exact m2 i (n1 i hi)
   ·exact m1 i (List.mem_filter.mp hi).1
  have hxz:kc c x z:=rL v.ne v.mid (sH.sub λi hi=>m2 i (n1 i hi));have sb:dC (!c) x bz.flat:=sH.sub λi hi=>m2 i (n3 i hi)
  have YD:dC c z bz.flat:=by have:=v.sh; rw [nn] at this; exact this
  have lR:(hs.filter (hits z)).length≤hs.length:=List.length_filter_le _ _;obtain ⟨tx,r1,r2,r3,r4,r5⟩:=rK (k:=k) (c:=c) (x:=x) (y:=z) (ms:=ms) (hs:=zs++hs.filter (hits z)) (lt:=lt) (g:=bz) (far:=ty) (d:=D3) (b:=B3) (d1:=D4) (b1:=B4) hB3 bS hn hm (by exact ae List.length_append (Qb (Nat.add_le_add_right (Nat.add_le_add_left lR _) _) jx.2.2.2)) (mr hm (sH.sub LX)) wl v.wh sl sb YD hxz b6
   (JM (k+1) c x lt bz (Nat.le_refl _) wl v.wh sl sb b4 b5 b6 jx.2.1)
  refine aS (b8 _ r5) λb9 b10=>?_;have hzn:(zs++hs.filter (hits z)).Nodup:=g0 v.nod (w.nod.sublist List.filter_sublist) λi hi=>mr w.mid (w.sl.sub n1) i (List.mem_filter.mp hi).1
  refine ⟨_,r1,lT r2 q2 (pS (pS v.ne)) (g0 hzn (hn.sublist List.filter_sublist) λi hi=>mr hm (sH.sub LX) i (List.mem_filter.mp hi).1) (nH (nH v.mid)) r4 q4 b9,?_,by refine ae du ?_; exact b10⟩
  ·refine cY.trans (dN λi=>?_);have c1:=q3.count_eq i;have c2:=pH.count_eq i;have c3:=(fF (ms:=ms) (hits z)).count_eq i;have c4:=(fF (ms:=hs) (hits z)).count_eq i;have c5:=pg.count_eq i;have c6:=r3.count_eq i;simp only [List.count_append] at c1 c2 c3 c4 c5 c6 ⊢;exact cn2 c1 c2 c3 c4 c5 c6
theorem K_ {k:Nat}{c:Bool}{x:Int}{ms:List Iv}{lt H:T}{d b:Int} (bS:ms≠[]) (hn:ms.Nodup) (hm:∀ i∈ms,i.1≤x∧x < i.2.1) (wl:WF lt) (wH:WF H) (sl:dC c x lt.flat) (sH:dC (!c) x H.flat) (el:lt.hgt=0) (eH:H.hgt=2) (hz:ms.length+(lt.flat.length+H.flat.length)≤6) :
  ∃ t,dT (k+5) (nd c x ms lt H d b)=some t∧WF t∧t.flat.Perm (ms++(lt.flat++H.flat))∧1≤t.hgt∧t.hgt≤3 :=
 Bl (L:=0) (Qe rfl) (λn c x tl th hn h1 h2 z9 z8 h3 z7 z6 zA=>by
  refine aQ (⟨n - 1,(Nat.sub_add_cancel (Qb (Nat.le_add_left 1 k) hn)).symm⟩:∃ n',n=n'+1) λn' ak=>?_; subst ak
  refine ae (WF.bare (show tl.hgt=0 by exact Nat.le_zero.mp (Qb h3 (by decide)))) ?_;exact iY h2) bS hn hm wl wH sl sH el eH hz
theorem fold_max:∀ (ms:List Iv) (x:Int),x≤ms.foldl (λm i=>if m < i.2.1 then i.2.1 else m) x∧(∀ i∈ms,i.2.1≤ms.foldl (λm i=>if m < i.2.1 then i.2.1 else m) x)∧(ms.foldl (λm i=>if m < i.2.1 then i.2.1 else m) x=x∨∃ i∈ms,ms.foldl (λm i=>if m < i.2.1 then i.2.1 else m) x=i.2.1)
 | [],x=>⟨Int.le_refl _,(λz9 h=>by cases h),Or.inl rfl⟩
 | j::ms,x=>by
  refine bw (fold_max ms (if x < j.2.1 then j.2.1 else x)) λh1 h2 h3=>?_;refine ae List.foldl_cons ?_
  generalize hF:ms.foldl (λm i=>if m < i.2.1 then i.2.1 else m) (if x < j.2.1 then j.2.1 else x)=F at *;by_cases w:x < j.2.1
  ·rw [if_pos w] at h1 h3;refine ⟨by exact Int.le_of_not_gt λq=>absurd (Int.add_le_add h1 (Int.add_le_add (Int.add_one_le_of_lt q) (Int.add_one_le_of_lt w))) (by simp +arith only [Int.reduceNeg,not_false_eq_true,Int.reducePow]),λi hi=>?_,?_⟩
   ·rcases List.mem_cons.mp hi with rfl | hi
    ·exact h1
    ·exact h2 i hi
   ·rcases h3 with h3 | ⟨i,hi,h3⟩
    ·exact .inr ⟨j,List.mem_cons_self,h3⟩
    ·exact .inr ⟨i,List.mem_cons_of_mem _ hi,h3⟩
  ·rw [if_neg w] at h1 h3;refine ⟨h1,λi hi=>?_,?_⟩
   ·rcases List.mem_cons.mp hi with rfl | hi
    ·exact Int.le_of_not_gt λq=>absurd (Int.add_le_add h1 (Int.add_le_add (Int.add_one_le_of_lt q) (Int.le_of_not_gt w))) (by simp +arith only [Int.reduceNeg,not_false_eq_true,Int.reducePow])
    ·exact h2 i hi
   ·rcases h3 with h3 | ⟨i,hi,h3⟩
    ·exact .inl h3
    ·exact .inr ⟨i,List.mem_cons_of_mem _ hi,h3⟩
theorem EZ {x:Int}{ms:List Iv} (bS:ms≠[]) (hm:∀ i∈ms,i.1≤x∧x < i.2.1):x≤newX x ms∧(∃ i∈ms,hits (newX x ms) i=true)∧∀ i∈ms,hits (newX x ms) i=false->i.2.1≤newX x ms:=by
 refine bw (fold_max ms x) λe1 e2 e3=>?_;refine bw (fold_max (ms.filter λi=>!decide (i.2.1=ff x ms)) x) λf1 f2 f3=>?_
 have hE:ff x ms=ms.foldl (λm i=>if m < i.2.1 then i.2.1 else m) x:=rfl;have hN:newX x ms=(ms.filter λi=>!decide (i.2.1=ff x ms)).foldl (λm i=>if m < i.2.1 then i.2.1 else m) x:=rfl;rw [← hE] at e1 e2 e3;rw [← hN] at f1 f2 f3;refine aQ (List.exists_mem_of_ne_nil ms bS) λi0 WR=>?_;have ex:∃ i∈ms,ff x ms=i.2.1:=by
  rcases e3 with e3 | e3
  ·have h1:=e2 i0 WR;have h2:=hm i0 WR;exact absurd h2.2 (Int.not_lt_of_ge (e3▸h1))
  ·exact e3
 refine aF ex λj hj ej=>?_; clear ex
 have gk:newX x ms < ff x ms:=by
  rcases f3 with f3 | ⟨i,hi,f3⟩
  ·have:=hm j hj; exact Int.lt_of_not_ge λq9=>absurd (Int.add_le_add (Int.le_of_eq (Eq.symm ej)) (Int.add_le_add q9 (Int.add_le_add (Int.le_of_eq f3) (Int.add_one_le_of_lt this.2)))) (by simp +arith only [Int.reduceNeg,not_false_eq_true,Int.reducePow,Int.natCast_add,Int.cast_ofNat_Int,Int.natCast_one])
  ·have h1:=List.mem_filter.mp hi;have h2:=e2 i h1.1;have h3:i.2.1≠ff x ms:=by simpa using h1.2
   rw [f3]; exact Int.lt_iff_le_and_ne.mpr ⟨h2,by simpa using h1.2⟩
 refine ⟨f1,⟨j,hj,ey.mpr ⟨?_,by exact Int.lt_of_not_ge λq9=>absurd (Int.add_le_add (Int.le_of_eq ej) (Int.add_le_add q9 (Int.add_one_le_of_lt gk))) (by simp +arith only [Int.reduceNeg,not_false_eq_true,Int.reducePow,Int.natCast_add,Int.cast_ofNat_Int,Int.natCast_one])⟩⟩,λi hi hh=>?_⟩
 ·have:=hm j hj; exact Int.le_trans this.left f1
 ·by_cases w:i.2.1=ff x ms
  ·rw [eX] at hh;have:=hm i hi;exact Int.le_of_not_gt λq=>hh ⟨Int.le_trans this.1 f1,q⟩
  ·exact f2 i (List.mem_filter.mpr ⟨hi,by simp [w]⟩)
noncomputable def vT (n:Nat) (t:T):Prop:=∃ g t',jC n t=some (g,t')∧g.2≠[]∧g.2.Nodup∧(∀ i∈g.2,i.1≤g.1∧g.1 < i.2.1)∧(∀ i∈t'.flat,i.2.1≤g.1)∧WF t'∧(g.2++t'.flat).Perm t.flat∧t'.hgt≤t.hgt
theorem oO {n:Nat}{x:Int}{ms:List Iv}{l:T} (h:WF (mk x ms l .nil)) (hz:ms.length≤6):vT (n+1) (mk x ms l .nil):=by
 refine cO h λh1 h2 h3 h4 h5 h6 z9 h7 h8=>?_; clear h
 refine bw (EZ h1 h3) λn1 ak n3=>?_; obtain ⟨j,hj,n2⟩:=ak
 have e:jC (n+1) (mk x ms l .nil)=some ((newX x ms,ms.filter (hits (newX x ms))),if (ms.filter λj=>!hits (newX x ms) j).isEmpty then l else mk x (ms.filter λj=>!hits (newX x ms) j) l .nil):=by
  show jC (n+1) (.node x ms l .nil _ _)=_;rw [jC]; refine ae (tU h1) (ae (show decide (6 < ms.length)=false from decide_eq_false (Nat.not_le_of_gt (Nat.succ_le_succ hz))) (ae (dK (a:=[]) (h2.sublist List.filter_sublist) (λz9 z8 h=>by cases h)) ?_)); rfl
 have hc:ms.filter (hits (newX x ms))≠[]:=List.ne_nil_of_mem (List.mem_filter.mpr ⟨hj,n2⟩);have hp:=fF (ms:=ms) (hits (newX x ms));have hl:∀ i∈l.flat,i.2.1≤newX x ms:=λi hi=>by have:=h4 i hi; exact Int.le_trans this n1
 have hr:∀ i∈ms.filter λj=>!hits (newX x ms) j,i.2.1≤newX x ms:=λi hi=>n3 i (List.mem_filter.mp hi).1 (by simpa using (List.mem_filter.mp hi).2)
 by_cases w:(ms.filter λj=>!hits (newX x ms) j)=[]
 ·rw [w] at e;refine ⟨_,_,e,hc,h2.sublist List.filter_sublist,λi hi=>ey.mp (List.mem_filter.mp hi).2,hl,h7,dN λi=>?_,by show l.hgt≤1+max l.hgt 0; exact Qb (Nat.le_max_left l.hgt Nat.zero) (Nat.le_add_left (max l.hgt Nat.zero) 1)⟩;have c1:=hp.count_eq i;rw [w] at c1;refine ae (show (mk x ms l .nil).flat=ms++(l.flat++[]) from rfl) ?_;simp only [if_true,List.isEmpty_nil,List.count_append,List.count_nil] at *;exact Nat.le_antisymm (Qd λq9=>Ql (Qa q9 (Qc c1))) (Qd λq9=>Ql (Qa q9 (Qc (Eq.symm c1))))
 ·rw [tU w] at e;simp only [Bool.false_eq_true,if_false] at e;refine ⟨_,_,e,hc,h2.sublist List.filter_sublist,λi hi=>ey.mp (List.mem_filter.mp hi).2,λi hi=>?_,⟨w,h2.sublist List.filter_sublist,λi hi=>h3 i (List.mem_filter.mp hi).1,h4,h5,h6,rfl,h7,h8⟩,dN λi=>?_,Nat.le_refl _⟩
  ·rcases List.mem_append.mp (show i∈_++(l.flat++[]) from hi) with hi | hi
   ·exact hr i hi
   ·rw [List.append_nil] at hi; exact hl i hi
  ·have c1:=hp.count_eq i;show List.count i (ms.filter (hits (newX x ms))++((ms.filter λj=>!hits (newX x ms) j)++(l.flat++[])))=List.count i (ms++(l.flat++[]));simp only [List.count_append,List.count_nil] at *;exact Nat.le_antisymm (Qd λq=>Ql (Qa q (Qc c1))) (Qd λq=>Ql (Qa q (Qc (Eq.symm c1))))
theorem qN {k:Nat}{x:Int}{l r:T} (wl:WF l) (wr:WF r) (sl:∀ i∈l.flat,i.2.1≤x) (sr:∀ i∈r.flat,x < i.1) (l1:1≤l.hgt) (l2:l.hgt≤2) (r1:1≤r.hgt) (r2:r.hgt≤2) (hz:l.flat.length+r.flat.length≤6) (hp:vT (k+5) l):t_ (k+6) true x l r:=by
 refine dB hp λg l' ak=>?_; clear hp; refine cp ak λe p1 p2 p3 p4 p5 p6 p7=>?_; clear ak
 have ln:l.isNil=false:=by exact ae lg (decide_eq_false (Nat.ne_of_gt l1))
 have rn:r.isNil=false:=by exact ae lg (decide_eq_false (Nat.ne_of_gt r1))
 have e0:∀ d b,cR (k+6) (.node x [] l r d b)=dT (k+5) (.node g.1 g.2 l' r 1 0):=λd b=>by
  rw [cR]; refine ae ln (ae rn (ae e ?_)); rfl
 refine aQ (List.exists_mem_of_ne_nil g.2 p1) λj hj=>?_;have hgx:g.1 < x:=Int.lt_of_lt_of_le (p3 j hj).2 (sl j (p6.mem_iff.mp (List.mem_append_left _ hj)))
 have K3:∀ i∈r.flat,g.1 < i.1:=λi hi=>Int.lt_trans hgx (sr i hi)
 have hlen:=p6.length_eq;rw [List.length_append] at hlen;have d1:=dF p5;have d2:=dF wr;have pp:(g.2++(l'.flat++r.flat)).Perm (l.flat++r.flat):=by exact eI (List.append_assoc _ _ _) (p6.append_right _)
 by_cases hb:r.hgt≤l'.hgt+1∧l'.hgt≤r.hgt+1
 ·refine ⟨mk g.1 g.2 l' r,λd b=>(e0 d b).trans (fg (by refine ae d1 (ae d2 ?_); exact NH hb)),⟨p1,p2,p3,p4,K3,hb,rfl,p5,wr⟩,pp,?_,?_⟩
  ·exact Qb (Nat.min_le_left _ _) (Nat.le_add_right 1 (max l'.hgt r.hgt))
  ·exact Nat.add_le_add_left (Nat.max_le.mpr ⟨Qb p7 (Nat.le_max_left _ _),Nat.le_max_right _ _⟩) 1
 ·have k0:=YO _ (Nat.lt_succ_of_le (Qb p7 l2)) _ (Nat.lt_succ_of_le r2) r1 hb;refine bE (K_ (k:=k) (c:=true) (x:=g.1) (ms:=g.2) (lt:=l') (H:=r) (d:=1) (b:=0) p1 p2 p3 p5 wr p4 K3 k0.1 k0.2 (lnE hlen hz)) λt q1 q2 q3 q4 q5=>?_;exact ⟨t,λd b=>(e0 d b).trans q1,q2,q3.trans pp,Qb (Nat.min_le_left _ _) q4,Qb q5 (Nat.add_le_add_left (Qb (Qc k0.2.symm) (Nat.le_max_right l.hgt r.hgt)) 1)⟩
theorem yb {t:T} (h:WF t) (e:t.hgt=1):∃ z zs,t=mk z zs .nil .nil∧WF (mk z zs .nil .nil):=by
 refine jg (h.view true (Qc e.symm)) λz zs tl th ak w=>?_; subst ak
 rw [du] at e;obtain rfl:=WF.bare (Nat.le_zero.mp (x8 (Qc e)).1);obtain rfl:=WF.bare (Nat.le_zero.mp (x8 (Qc e)).2);exact ⟨z,zs,rfl,h⟩
theorem PJ {k:Nat}{t:T} (h:WF t) (h1:1≤t.hgt) (h2:t.hgt≤2) (hz:t.flat.length≤6):vT (k+7) t:=by
 refine jg (h.view true h1) λx ms l r ak w=>?_; subst ak
 rw [du] at h2;have h3:=x8 (n:=1) h2;by_cases er:r.hgt=0
 ·obtain rfl:=WF.bare er;rw [(cY (c:=true) (x:=x) (ms:=ms)).length_eq,List.length_append] at hz;exact oO h (Qb (Nat.le_add_right _ _) hz)
 ·refine bg (yb w.wh (Nat.le_antisymm h3.2 (Nat.pos_of_ne_zero er))) λz zs ak hr=>?_; subst ak
  have hzz:zs.length≤6:=by
   have:=(cY (c:=true) (x:=x) (ms:=ms) (tl:=l) (th:=mk z zs .nil .nil)).length_eq;rw [List.length_append,List.length_append,show (mk z zs .nil .nil).flat=zs++([]++[]) from rfl,List.append_nil,List.append_nil] at this;exact PY hz this
  refine dB (oO (n:=k+5) hr hzz) λg r' ak=>?_; refine cp ak λe p1 p2 p3 p4 p5 p6 p7=>?_; clear ak
  have hrh:(mk z zs .nil .nil).hgt=1:=rfl;have sl:∀ i∈l.flat,i.2.1≤x:=w.sl;have sr:∀ i∈(mk z zs .nil .nil).flat,x < i.1:=w.sh;refine aQ (List.exists_mem_of_ne_nil g.2 p1) λj hj=>?_;have Wd:x < g.1:=Int.lt_of_lt_of_le (sr j (p6.mem_iff.mp (List.mem_append_left _ hj))) (p3 j hj).1
  have K3:∀ i∈r'.flat,x < i.1:=λi hi=>sr i (p6.mem_iff.mp (List.mem_append_right _ hi))
  have dl:=dF w.wl;have dr:=dF p5;have Kv:∀ i∈ms.filter (hits g.1),i ∉ g.2:=λi hi q=>Int.not_lt.mpr (w.mid i (List.mem_filter.mp hi).1).1 (sr i (p6.mem_iff.mp (List.mem_append_left _ q)))
  have Mm:∀ i∈ms.filter λj=>!hits g.1 j,i.2.1≤g.1:=λi hi=>by
   have h1:=w.mid i (List.mem_filter.mp hi).1;have h2:hits g.1 i=false:=by simpa using (List.mem_filter.mp hi).2
   rw [eX] at h2;exact Int.not_lt.mp λq=>h2 ⟨Int.le_trans h1.1 (Int.le_of_lt Wd),q⟩
  have Ol:=fF (ms:=ms) (hits g.1);have key:∀ t',(if (ms.filter λj=>!hits g.1 j).isEmpty then cR (k+6) (.node x [] l r' (mk x ms l (mk z zs .nil .nil)).dep (mk x ms l (mk z zs .nil .nil)).bal) else dT (k+6) (.node x (ms.filter λj=>!hits g.1 j) l r' (mk x ms l (mk z zs .nil .nil)).dep (mk x ms l (mk z zs .nil .nil)).bal))=some t' →
    jC (k+7) (mk x ms l (mk z zs .nil .nil))=some ((g.1,g.2++ms.filter (hits g.1)),t'):=λt' q=>by
   show jC (k+6+1) (.node x ms l (mk z zs .nil .nil) _ _)=_;rw [jC]; refine ae (if_neg (show ¬((mk z zs .nil .nil).isNil=true) from λq=>by exact mi q)) (ae e ?_);show (if 300 < ms.length+g.2.length then none else match (if (ms.filter λj=>!hits g.1 j).isEmpty then cR (k+6) (.node x [] l r' _ _) else dT (k+6) (.node x (ms.filter λj=>!hits g.1 j) l r' _ _)) with | none=>none | some t=>some ((g.1,aH g.2 ((aH [] ms).filter (hits g.1))),t))=_;rw [if_neg (show ¬ 300 < ms.length+g.2.length by
    have h1:=p6.length_eq;have h2:=(cY (c:=true) (x:=x) (ms:=ms) (tl:=l) (th:=mk z zs .nil .nil)).length_eq;have h3:(mk z zs .nil .nil).flat=zs++([]++[]):=rfl;rw [h3,List.append_nil,List.append_nil] at h1 h2;rw [List.length_append] at h1;rw [List.length_append,List.length_append] at h2;exact lnF hz h2 h1),dK (a:=[]) w.nod (λz9 z8 h=>by cases h),List.nil_append,dK (w.nod.sublist List.filter_sublist) Kv]
   show (match (if (ms.filter λj=>!hits g.1 j).isEmpty then cR (k+6) (.node x [] l r' (mk x ms l (mk z zs .nil .nil)).dep (mk x ms l (mk z zs .nil .nil)).bal) else dT (k+6) (.node x (ms.filter λj=>!hits g.1 j) l r' (mk x ms l (mk z zs .nil .nil)).dep (mk x ms l (mk z zs .nil .nil)).bal)) with | none=>none | some t=>some ((g.1,g.2++ms.filter (hits g.1)),t))=_;exact ae q rfl
  have fin:∀ t',jC (k+7) (mk x ms l (mk z zs .nil .nil))=some ((g.1,g.2++ms.filter (hits g.1)),t')->WF t'->t'.flat.Perm ((ms.filter λj=>!hits g.1 j)++(l.flat++r'.flat))->t'.hgt≤2->vT (k+7) (mk x ms l (mk z zs .nil .nil)):=λt' q wt pt ht=>by
   refine ⟨_,t',q,pS p1,g0 p2 (w.nod.sublist List.filter_sublist) Kv,nH p3,λi hi=>?_,wt,?_,?_⟩
   ·rcases List.mem_append.mp (pt.mem_iff.mp hi) with hi | hi
    ·exact Mm i hi
    rcases List.mem_append.mp hi with hi | hi
    ·exact Int.le_trans (sl i hi) (Int.le_of_lt Wd)
    ·exact p4 i hi
   ·refine dN λi=>?_;have c1:=pt.count_eq i
    have c2:=p6.count_eq i;have c3:=Ol.count_eq i;have c4:=(cY (c:=true) (x:=x) (ms:=ms) (tl:=l) (th:=mk z zs .nil .nil)).count_eq i;show List.count i (g.2++ms.filter (hits g.1)++t'.flat)=List.count i (gx true x ms l (mk z zs .nil .nil)).flat;simp only [List.count_append] at c1 c2 c3 c4 ⊢;exact cnP c1 c2 c3 c4
   ·exact Qb ht (Nat.add_le_add_left (Nat.le_max_right l.hgt 1) 1)
  show vT (k+7) (mk x ms l (mk z zs .nil .nil));by_cases RJ:(ms.filter λj=>!hits g.1 j)=[]
  ·rw [RJ] at key fin;by_cases el:l.hgt=0
   ·obtain rfl:=WF.bare el;refine bE (iY (n:=k+5) (c:=true) (x:=x) p5) λt q1 q2 q3 q4 q5=>?_;exact fin t (key t (q1 (mk x ms .nil (mk z zs .nil .nil)).dep (mk x ms .nil (mk z zs .nil .nil)).bal)) q2 q3 (Qb q5 (Nat.add_le_add_left (Nat.max_le.mpr ⟨Nat.zero_le 1,p7⟩) 1))
   by_cases XF:r'.hgt=0
   ·obtain rfl:=WF.bare XF;refine bE ((iY (n:=k+5) (c:=false) (x:=x) w.wl).swap) λt q1 q2 q3 q4 q5=>?_;exact fin t (key t (q1 (mk x ms l (mk z zs .nil .nil)).dep (mk x ms l (mk z zs .nil .nil)).bal)) q2 q3 (Qb q5 (Nat.add_le_add_left (Nat.max_le.mpr ⟨h3.1,Nat.zero_le 1⟩) 1))
   refine bg (yb w.wl (Nat.le_antisymm h3.1 (Nat.pos_of_ne_zero el))) λz' KU ak hl=>?_; subst ak
   have hlen:=p6.length_eq;have yv:=(cY (c:=true) (x:=x) (ms:=ms) (tl:=mk z' KU .nil .nil) (th:=mk z zs .nil .nil)).length_eq;simp only [List.length_append] at hlen yv;obtain ⟨t,q1,q2,q3,q4,q5⟩:=qN (k:=k) (x:=x) hl p5 sl K3 (Nat.le_refl 1) (Nat.le_succ 1) (Nat.pos_of_ne_zero XF) (Nat.le_succ_of_le p7) (lnG hz yv hlen) (oO (n:=k+4) hl (by
    have:(mk z' KU .nil .nil).flat=KU++([]++[]):=rfl;rw [this,List.append_nil,List.append_nil] at yv;exact lnH hz yv))
   exact fin t (key t (q1 (mk x ms (mk z' KU .nil .nil) (mk z zs .nil .nil)).dep (mk x ms (mk z' KU .nil .nil) (mk z zs .nil .nil)).bal)) q2 q3 (Qb q5 (Nat.add_le_add_left (Nat.max_le.mpr ⟨Nat.le_refl 1,p7⟩) 1))
  ·rw [tU RJ] at key;refine fin (mk x (ms.filter λj=>!hits g.1 j) l r') (key _ (fg (d:=(mk x ms l (mk z zs .nil .nil)).dep) (b:=(mk x ms l (mk z zs .nil .nil)).bal) (by refine ae dl (ae dr ?_); exact NH (NK h3.1 p7)))) ⟨RJ,w.nod.sublist List.filter_sublist,λi hi=>w.mid i (List.mem_filter.mp hi).1,sl,K3,NK h3.1 p7,rfl,w.wl,p5⟩ (.refl _) ?_;exact Nat.add_le_add_left (Nat.max_le.mpr ⟨h3.1,p7⟩) 1
theorem uW {k:Nat}{x:Int}{l r:T} (wl:WF l) (wr:WF r) (sl:∀ i∈l.flat,i.2.1≤x) (sr:∀ i∈r.flat,x < i.1) (l2:l.hgt≤2) (r2:r.hgt≤2) (hz:l.flat.length+r.flat.length≤6):t_ (k+8) true x l r:=by
 by_cases el:l.hgt=0
 ·obtain rfl:=WF.bare el;exact iY wr
 by_cases er:r.hgt=0
 ·obtain rfl:=WF.bare er;exact (iY (c:=false) wl).swap
 exact qN (k:=k+2) wl wr sl sr (Nat.pos_of_ne_zero el) l2 (Nat.pos_of_ne_zero er) r2 hz (PJ (k:=k) wl (Nat.pos_of_ne_zero el) l2 (Qb (Nat.le_add_right _ _) hz))
theorem uV {k:Nat}{c:Bool}{x:Int}{tl th:T} (wl:WF tl) (wh:WF th) (sl:dC c x tl.flat) (sh:dC (!c) x th.flat) (l2:tl.hgt≤2) (h2:th.hgt≤2) (hz:tl.flat.length+th.flat.length≤6):t_ (k+8) c x tl th:=by
 cases c
 ·exact (uW wh wl sh sl h2 l2 (Qb (by walk_at "A") hz)).swap
 ·exact uW wl wh sl sh l2 h2 hz
theorem Pt {k:Nat}{c:Bool}{x:Int}{ms:List Iv}{lt H:T}{d b:Int} (bS:ms≠[]) (hn:ms.Nodup) (hm:∀ i∈ms,i.1≤x∧x < i.2.1) (wl:WF lt) (wH:WF H) (sl:dC c x lt.flat) (sH:dC (!c) x H.flat) (el:lt.hgt=1) (eH:H.hgt=3) (hz:ms.length+(lt.flat.length+H.flat.length)≤6) :
  ∃ t,dT (k+12) (nd c x ms lt H d b)=some t∧WF t∧t.flat.Perm (ms++(lt.flat++H.flat))∧2≤t.hgt∧t.hgt≤4 :=
 Bl (L:=1) (k:=k+7) (Qe rfl) (λn c x tl th hn h1 h2 h3 h4 h5 h6 z9 h7=>by
  refine aQ (⟨n - 8,(Nat.sub_add_cancel (Qb (Nat.le_add_left 8 k) hn)).symm⟩:∃ n',n=n'+8) λn' ak=>?_; subst ak
  exact uV h1 h2 h3 h4 (Qb h5 (Nat.le_add_left 1 1)) (by omega) h7) bS hn hm wl wH sl sH el eH hz
theorem rP {k:Nat}{c:Bool}{x:Int}{ms:List Iv}{tl th:T}{d b:Int} (bS:ms≠[]) (hn:ms.Nodup) (hm:∀ i∈ms,i.1≤x∧x < i.2.1) (wl:WF tl) (wh:WF th) (sl:dC c x tl.flat) (sh:dC (!c) x th.flat)
  (hb:th.hgt≤tl.hgt+2∧tl.hgt≤th.hgt+2) (h3:tl.hgt≤3∧th.hgt≤3) (hz:ms.length+(tl.flat.length+th.flat.length)≤6) :
  ∃ t,dT (k+12) (nd c x ms tl th d b)=some t∧WF t∧t.flat.Perm (ms++(tl.flat++th.flat))∧1≤t.hgt∧max tl.hgt th.hgt≤t.hgt+1∧t.hgt≤1+max tl.hgt th.hgt∧(tl.hgt≤th.hgt+1∧th.hgt≤tl.hgt+1->t.hgt=1+max tl.hgt th.hgt):=by
 have d1:=dF wl;have d2:=dF wh;have up:∀ {c:Bool}{lt H:T},WF lt->WF H->dC c x lt.flat->dC (!c) x H.flat->H.hgt=lt.hgt+2->H.hgt≤3->ms.length+(lt.flat.length+H.flat.length)≤6->∃ t,dT (k+12) (nd c x ms lt H d b)=some t∧WF t∧t.flat.Perm (ms++(lt.flat++H.flat))∧1+lt.hgt≤t.hgt∧t.hgt≤lt.hgt+3:=by
  intro c lt H w1 w2 s1 s2 e1 e2 e3;by_cases h0:lt.hgt=0
  ·refine bE (K_ (k:=k+7) (d:=d) (b:=b) bS hn hm w1 w2 s1 s2 h0 (Nat.le_antisymm (Qd λq=>Ql (Qa (Qc e1) (Qa (Qc h0) q))) (Qd λq=>Ql (Qa (Qc (Eq.symm e1)) (Qa (Qc h0) q)))) e3) λt q1 q2 q3 q4 q5=>?_;exact ⟨t,q1,q2,q3,by exact Qd λq=>Ql (Qa (Qc h0) (Qa q4 q)),by exact Qb q5 (Nat.le_add_left 3 lt.hgt)⟩
  ·refine bE (Pt (k:=k) (d:=d) (b:=b) bS hn hm w1 w2 s1 s2 (Nat.le_antisymm (Qd λq=>Ql (Qa q (Qa (Qc (Eq.symm e1)) e2))) (Qd λq=>Ql (Qa (Nat.pos_of_ne_zero h0) q))) (Nat.le_antisymm (Qd λq=>Ql (Qa q e2)) (Qd λq=>Ql (Qa (Nat.pos_of_ne_zero h0) (Qa (Qc (Eq.symm e1)) q)))) e3) λt q1 q2 q3 q4 q5=>?_;exact ⟨t,q1,q2,q3,by exact Qd λq=>Ql (Qa q4 (Qa q (Qa (Qc (Eq.symm e1)) e2))),by exact Qd λq=>Ql (Qa (Nat.pos_of_ne_zero h0) (Qa q q5))⟩
 by_cases h1:tl.hgt≤th.hgt+1∧th.hgt≤tl.hgt+1
 ·refine ⟨gx c x ms tl th,?_,lT wl wh bS hn hm sl sh h1,cY,by refine ae du ?_; exact Qb (Nat.le_refl 1) (Nat.le_add_right 1 (max tl.hgt th.hgt)),by refine ae du ?_; exact Nat.le_of_lt (Nat.le_add_left (max tl.hgt th.hgt).succ 1),by refine ae du ?_; exact Qb (Nat.le_refl (1+max tl.hgt th.hgt)) (Nat.le_refl (1+max tl.hgt th.hgt)),λz9=>du⟩;cases c
  ·exact fg ⟨A1 h1.1 d1 d2,A1 h1.2 d2 d1⟩
  ·exact fg ⟨A1 h1.2 d2 d1,A1 h1.1 d1 d2⟩
 by_cases h2:th.hgt=tl.hgt+2
 ·refine bE (up wl wh sl sh h2 h3.2 hz) λt q1 q2 q3 q4 q5=>?_;exact ⟨t,q1,q2,q3,by exact Qb (by walk_at "A") q4,Nat.max_le.mpr ⟨Qd λq9=>Ql (Qa q4 q9),Qd λq9=>Ql (Qa (Qc h2) (Qa q4 q9))⟩,by exact Qd λq=>Ql (Qa (Qc (Eq.symm h2)) (Qa (Nat.le_max_right (tl.hgt) (th.hgt)) (Qa q q5))),λw=>by exact Nat.le_antisymm (Qd λq=>Ql (Qa (Qc (Eq.symm h2)) w.2)) (Qd λq=>Ql (Qa (Qc (Eq.symm h2)) w.2))⟩
 ·refine bE (up (c:=!c) wh wl sh (by refine ae nn ?_; exact sl) (Nat.le_antisymm hb.2 (Qd λw=>h1 ⟨Nat.le_of_lt_succ w,Nat.le_of_lt_succ (Nat.lt_of_le_of_ne hb.1 h2)⟩)) h3.1 (Qb (by walk_at "A") hz)) λt q1 q2 q3 q4 q5=>?_;rw [BU] at q1
  have hd:tl.hgt=th.hgt+2:=Nat.le_antisymm hb.2 (Qd λw=>h1 ⟨Nat.le_of_lt_succ w,Nat.le_of_lt_succ (Nat.lt_of_le_of_ne hb.1 h2)⟩);exact ⟨t,q1,q2,q3.trans (List.Perm.append_left ms List.perm_append_comm),by exact Qb (by walk_at "A") q4,Nat.max_le.mpr ⟨Qd λq9=>Ql (Qa (Qc hd) (Qa q4 q9)),Qd λq9=>Ql (Qa q4 q9)⟩,Qd λq9=>Ql (Qa q5 (Qa (Qc hd.symm) (Qa (Nat.le_max_left tl.hgt th.hgt) q9))),λw=>by exact absurd w h1⟩
theorem GI {x:Int}{ms:List Iv}{l r:T}{d b:Int} (h:WF (.node x ms l r d b)) (c:Bool):WN c x ms (pick (!c) l r) (pick c l r):=by
 refine cO h λh1 h2 h3 h4 h5 h6 e h7 h8=>?_; clear h
 cases c
 ·exact ⟨h1,h2,h3,h5,h4,h6,h8,h7⟩
 ·exact ⟨h1,h2,h3,h4,h5,⟨h6.2,h6.1⟩,h7,h8⟩
theorem vC {c:Bool}{x:Int}{ms:List Iv}{l r:T}{d b:Int}:(T.node x ms l r d b).hgt=1+max (pick (!c) l r).hgt (pick c l r).hgt:=by
 cases c
 ·show 1+max l.hgt r.hgt=1+max r.hgt l.hgt; exact congrArg (λx=>1+x) (Nat.max_comm l.hgt r.hgt)
 ·rfl
theorem rk {c:Bool}{x:Int}{ms:List Iv}{l r:T}{d b:Int}:(T.node x ms l r d b).flat.Perm (ms++((pick (!c) l r).flat++(pick c l r).flat)):=by
 cases c
 ·exact List.Perm.append_left ms List.perm_append_comm
 ·exact .refl _
theorem uz {x:Int}{iv:Iv} (hv:iv.1 < iv.2.1) (hh:hits x iv=false):dC (!decide (x < iv.1)) x [iv]:=by
 rw [eX] at hh;by_cases w:x < iv.1
 ·refine ae (decide_eq_true w) ?_;intro i hi;rcases List.mem_singleton.mp hi with rfl;exact w
 ·refine ae (decide_eq_false w) ?_;intro i hi;rcases List.mem_singleton.mp hi with rfl;show i.2.1≤x; exact Int.le_of_not_gt λq=>hh ⟨Int.le_of_not_gt w,q⟩
theorem xZ {x:Int}{ms fP:List Iv}{l r:T}{d b:Int} (h:T.node x ms l r d b=mk x ms l r):T.node x fP l r d b=mk x fP l r:=by
 unfold mk at *;injection h with _ _ _ _ h1 h2;exact ae h1 (ae h2 rfl)
theorem kY {c:Bool}{x:Int}{ms:List Iv}{l r:T}{d b:Int}:(pick c l r).hgt+1≤(T.node x ms l r d b).hgt:=by
 cases c
 ·show l.hgt+1≤1+max l.hgt r.hgt; exact Qd λq=>Ql (Qa q (Nat.le_max_left (l.hgt) (r.hgt)))
 ·show r.hgt+1≤1+max l.hgt r.hgt; exact Qd λq=>Ql (Qa q (Nat.le_max_right (l.hgt) (r.hgt)))
section
set_option synthInstance.maxHeartbeats 0
set_option synthInstance.maxSize 100000
set_option maxSynthPendingDepth 20
theorem adA:∀ tl,tl < 3->∀ th,th < 3->∀ t',t' < th+2->∀ t2,t2 < 1+max tl t'+1->(tl≤th+1∧th≤tl+1)->th≤t'+1->(max tl t'≤t2+1∧1≤t2∧1≤t')->(tl≤t'+1∧t'≤tl+1->t2=1+max tl t')->1+max tl th≤t2+1∧t2≤1+max tl th+1:=by decide +kernel
theorem adB:∀ tl,tl < 3->∀ th,th < 3->∀ t',t' < th+2->(tl≤th+1∧th≤tl+1)->th≤t'+1->(t'≤tl+2∧tl≤t'+2)∧(tl≤3∧t'≤3):=by decide +kernel
theorem adC:∀ tl,tl < 3->(tl≤0+1∧0≤tl+1)->(tl≤1+1∧1≤tl+1)∧1≤1+max tl 1∧1+max tl 0≤1+max tl 1+1∧1+max tl 1≤1+max tl 0+1:=by decide +kernel
theorem YH:∀ tl,tl < 3->∀ th,th < 3->∀ t',t' < th+1->∀ t2,t2 < 1+max tl t'+1->(tl≤th+1∧th≤tl+1)->1≤th->(2≤th->1≤t')->(tl≤t'+1∧t'≤tl+1->t2=1+max tl t')->t2≤1+max tl th:=by decide +kernel
theorem YG:∀ tl,tl < 3->∀ th,th < 3->∀ t',t' < th+1->(tl≤th+1∧th≤tl+1)->1≤th->(2≤th->1≤t')->(t'≤tl+2∧tl≤t'+2)∧(tl≤3∧t'≤3):=by decide +kernel
end
theorem Y_ {m t:Nat} (h:2≤1+m) (p:min 1 m≤t):1≤t:=by
 rw [Nat.add_comm] at h;rw [Nat.min_eq_left (Nat.le_of_succ_le_succ h)] at p;exact p
theorem Xx {a p N f:Nat} (h:a+N≤f+1) (hp:p+1≤N):a+p≤f:=Nat.le_of_succ_le_succ (Qb (Nat.add_le_add_left hp a) h)
theorem TR {k N f:Nat} (h:k+N≤f+1) (h1:1≤N):∃ f',f=f'+k:=⟨f - k,(Nat.sub_add_cancel (Nat.le_of_succ_le_succ (Qb (Nat.add_le_add_left h1 k) h))).symm⟩
theorem lnA {N m l h t:Nat} (hz:N≤5) (e:N=m+(l+h)) (e2:t=h+1):m+(l+t)≤6:=by
 subst e e2; exact Nat.succ_le_succ hz
theorem lnC {N m s:Nat} (hz:N≤6) (e:N=m+s):m≤300:=by
 subst e; exact Qb (Qb (Nat.le_add_right _ _) hz) (by decide)
theorem lnD {N m l h t:Nat} (hz:N≤6) (e:N=m+(l+h)) (e2:t+1=h):m+(l+t)≤6:=by
 subst e2; subst e; exact Nat.le_of_succ_le hz
theorem cnA {N m l h t2 t v:Nat} (c1:N=m+(l+h)) (c2:t2=m+(l+t)) (c3:t=h+v):t2=N+v:=by
 subst c3 c1 c2; simp only [Nat.add_assoc]
theorem YJ {m I t s:Nat} (c2:m=0+I) (c1:t=s):t+I=m+s:=by
 subst c1 c2; exact ae (Nat.zero_add _) (ae (Nat.add_comm _ _) rfl)
theorem YI {m F I s:Nat} (c:m=F+I):F+s+I=m+s:=by
 subst c; exact Nat.add_right_comm _ _ _
theorem UK {N m l h t2 t I:Nat} (c3:t+I=h) (c1:N=m+(l+h)) (c2:t2=m+(l+t)):t2+I=N:=by
 subst c3 c1 c2; simp only [Nat.add_assoc]
theorem J6 {iv:Iv} (hv:iv.1 < iv.2.1) {t:T}{n:Nat}:WF t->1≤t.hgt->t.hgt≤3->iv ∉ t.flat->t.flat.length≤5->12+t.hgt≤n →
  ∃ t',qz n iv t=some t'∧WF t'∧t'.flat.Perm (t.flat++[iv])∧1≤t'.hgt∧t.hgt≤t'.hgt+1∧t'.hgt≤t.hgt+1:=by
 induction n generalizing t with
 | zero=>exact λz9 z8 z7 z6 zA q=>absurd (Qb (Nat.le_add_right 12 _) q) (by decide)
 | succ f ih =>
  cases t with
  | nil=>exact λz9 h1=>absurd h1 (by show ¬(1≤0); decide)
  | node x ms l r d b =>
  intro h h1 h3 hn hz Kw;rw [qz];by_cases hh:hits x iv=true
  ·refine ae (if_pos hh) ?_;have Jc:iv ∉ ms:=λw=>hn (List.mem_append_left _ w)
   have e:eZ ms iv=ms++[iv]:=if_neg Jc;refine ae e ?_;refine cO h λq1 q2 q3 q4 q5 q6 q7 q8 q9=>?_; clear h
   refine ⟨_,rfl,⟨pS q1,g0 q2 (by simp) (λi hi=>by rcases List.mem_singleton.mp hi with rfl; exact Jc),λi hi=>?_,q4,q5,q6,xZ q7,q8,q9⟩,dN λi=>?_,h1,Nat.le_succ _,Nat.le_succ _⟩
   ·rcases List.mem_append.mp hi with hi | hi
    ·exact q3 i hi
    ·rcases List.mem_singleton.mp hi with rfl; exact ey.mp hh
   ·show List.count i (ms++[iv]++(l.flat++r.flat))=List.count i (ms++(l.flat++r.flat)++[iv]);simp only [List.count_append]; exact Nat.add_right_comm _ _ _
  ·refine ae (if_neg hh) ?_;have F8:hits x iv=false:=by simpa using hh
   have hs:=uz hv F8;have w:=GI h (decide (x < iv.1));have eh:=vC (c:=decide (x < iv.1)) (x:=x) (ms:=ms) (l:=l) (r:=r) (d:=d) (b:=b);have ef:=rk (c:=decide (x < iv.1)) (x:=x) (ms:=ms) (l:=l) (r:=r) (d:=d) (b:=b);have hlen:=ef.length_eq;simp only [List.length_append] at hlen;have hp:=kY (c:=decide (x < iv.1)) (x:=x) (ms:=ms) (l:=l) (r:=r) (d:=d) (b:=b);have vx:=kY (c:=!decide (x < iv.1)) (x:=x) (ms:=ms) (l:=l) (r:=r) (d:=d) (b:=b);have yo:iv ∉ (pick (decide (x < iv.1)) l r).flat:=λq=>hn (ef.mem_iff.mpr (List.mem_append_right _ (List.mem_append_right _ q)))
   generalize pick (decide (x < iv.1)) l r=th at *;generalize pick (!decide (x < iv.1)) l r=tl at *;generalize decide (x < iv.1)=c at *;have A6:=w.hb;have b1:tl.hgt < 3:=Qb vx h3;have b2:th.hgt < 3:=Qb hp h3;by_cases hc:th.hgt=0
   ·obtain rfl:=WF.bare hc;refine ae (if_pos (show T.nil.isNil=true from rfl)) ?_;have hw:WF (mk iv.1 [iv] .nil .nil):=⟨by simp,by simp,λi hi=>by rcases List.mem_singleton.mp hi with rfl; exact ⟨Int.le_refl _,hv⟩,λz9 q=>(by cases q),λz9 q=>(by cases q),⟨by decide,by decide⟩,rfl,trivial,trivial⟩;have Wg:(mk iv.1 [iv] .nil .nil).flat=[iv]:=rfl;have k:=adC _ b1 A6;refine ⟨_,rfl,lT w.wl hw w.ne w.nod w.mid w.sl (by refine ae Wg ?_; exact hs) k.1,?_,by refine ae du ?_; exact k.2.1,by refine ae du (ae eh ?_); exact k.2.2.1,by refine ae du (ae eh ?_); exact k.2.2.2⟩;refine cY.trans (dN λi=>?_);have c1:=ef.count_eq i;refine ae Wg ?_;rw [show T.nil.flat=[] from rfl] at c1;simp only [List.count_append,List.count_nil] at c1 ⊢;exact ae c1 ((Nat.add_assoc _ _ _).symm)
   ·have fQ:th.isNil=false:=by rw [lg]; exact decide_eq_false hc
    rw [if_neg (by rw [fQ]; decide)];refine cW (ih (t:=th) w.wh (Nat.pos_of_ne_zero hc) (Nat.le_of_lt b2) yo (PY hz hlen) (Xx Kw hp)) λt' r1 r2 r3 r4 r5 r6=>?_;refine ae r1 ?_
    have lz:=r3.length_eq;rw [List.length_append,List.length_singleton] at lz;refine aQ (TR Kw h1) λf' ak=>?_; subst ak
    have k:=adB _ b1 _ b2 _ (Nat.lt_succ_of_le r6) A6 r5;refine aQ (rP (k:=f') (c:=c) (x:=x) (ms:=ms) (tl:=tl) (th:=t') (d:=d) (b:=b) w.ne w.nod w.mid w.wl r2 w.sl ((w.sh.app hs).sub λi hi=>r3.mem_iff.mp hi) k.1 k.2 (lnA hz hlen lz)) λt2 ak=>?_; refine gc ak λs1 s2 s3 s4 s5 s6 s7=>?_; clear ak
    have k2:=adA _ b1 _ b2 _ (Nat.lt_succ_of_le r6) _ (Nat.lt_succ_of_le s6) A6 r5 ⟨s5,s4,r4⟩ s7;rw [← eh] at k2;refine ⟨t2,s1,s2,dN λi=>?_,s4,k2⟩;have c1:=ef.count_eq i;have c2:=s3.count_eq i;have c3:=r3.count_eq i;simp only [List.count_append] at c1 c2 c3 ⊢;exact cnA c1 c2 c3
theorem As {ms:List Iv}{iv:Iv} (hn:ms.Nodup) (hi:iv∈ms):ms.Perm (iv::ms.filter λj=>!decide (j=iv)):=by
 have h:=List.perm_cons_erase hi;rw [hn.erase_eq_filter] at h;have e:(ms.filter λj=>j != iv)=ms.filter λj=>!decide (j=iv):=List.filter_congr λj z9=>by
  by_cases w:j=iv <;> simp [w]
 exact eI e h
theorem sy {c:Bool}{x:Int}{ms:List Iv}{tl th t':T}{d b:Int} (h:nd c x ms tl th d b=gx c x ms tl th) (e:t'.dep=th.dep):nd c x ms tl t' d b=gx c x ms tl t':=by
 cases c
 ·have h':T.node x ms th tl d b=mk x ms th tl:=h;show T.node x ms t' tl d b=mk x ms t' tl;unfold mk at *;injection h' with _ _ _ _ h1 h2;exact ae h1 (ae h2 (ae e rfl))
 ·have h':T.node x ms tl th d b=mk x ms tl th:=h;show T.node x ms tl t' d b=mk x ms tl t';unfold mk at *;injection h' with _ _ _ _ h1 h2;exact ae h1 (ae h2 (ae e rfl))
theorem HZ {iv:Iv} (hv:iv.1 < iv.2.1) {t:T}{n:Nat}:WF t->1≤t.hgt->t.hgt≤3->iv∈t.flat->t.flat.length≤6->13+t.hgt≤n →
  ∃ t' f,fe n iv t=some (t',f)∧WF t'∧(iv::t'.flat).Perm t.flat∧t'.hgt≤t.hgt∧(2≤t.hgt->1≤t'.hgt)∧(f=true->t'.hgt=t.hgt):=by
 induction n generalizing t with
 | zero=>exact λz9 z8 z7 z6 zA q=>absurd (Qb (Nat.le_add_right 13 _) q) (by decide)
 | succ f ih =>
  cases t with
  | nil=>exact λz9 h1=>absurd h1 (by show ¬(1≤0); decide)
  | node x ms l r d b =>
  intro h h1 h3 jy hz Kw;have SF:12+(T.node x ms l r d b).hgt≤f+1:=Qb (Nat.add_le_add_right (by decide) _) Kw;rw [fe];have w:=GI h (decide (x < iv.1));have eh:=vC (c:=decide (x < iv.1)) (x:=x) (ms:=ms) (l:=l) (r:=r) (d:=d) (b:=b);have ef:=rk (c:=decide (x < iv.1)) (x:=x) (ms:=ms) (l:=l) (r:=r) (d:=d) (b:=b);have hlen:=ef.length_eq;simp only [List.length_append] at hlen;by_cases hh:hits x iv=true
  ·refine ae (if_pos hh) ?_;refine cO h λq1 q2 q3 q4 q5 q6 q7 q8 q9=>?_; clear h
   have hx:=ey.mp hh;have Jr:iv∈ms:=by
    rcases List.mem_append.mp (show iv∈ms++(l.flat++r.flat) from jy) with w | w
    ·exact w
    rcases List.mem_append.mp w with w | w
    ·exact absurd (q4 iv w) (Int.not_le.mpr hx.2)
    ·exact absurd (q5 iv w) (Int.not_lt.mpr hx.1)
   refine ae (if_pos ⟨Jr,lnC hz hlen⟩) ?_;have hg:=As q2 Jr;have hf:(T.node x ms l r d b).flat=ms++(l.flat++r.flat):=rfl;have Sj:ms.length+(l.flat.length+r.flat.length)≤6:=by rw [hf,List.length_append,List.length_append] at hz; exact hz
   have b3:=x8 (n:=2) h3;by_cases he:(ms.filter λj=>!decide (j=iv))=[]
   ·refine aQ (TR (k:=8) (Qb (Nat.add_le_add_right (by decide) _) Kw) h1) λf' ak=>?_; subst ak
    refine bE (uV (k:=f') (c:=true) (x:=x) q8 q9 q4 q5 b3.1 b3.2 (Qb (Nat.le_add_left _ _) Sj)) λt' p1 p2 p3 p4 p5=>?_;refine ae he (ae (if_pos (show ([]:List Iv).isEmpty=true from rfl)) (ae (show cR (f'+8) (.node x [] l r d b)=some t' from p1 d b) ?_))
    refine ⟨t',false,rfl,p2,dN λi=>?_,p5,λq=>Y_ q p4,λw=>by exact mi w⟩;have c1:=p3.count_eq i;have c2:=hg.count_eq i;rw [he] at c2;refine ae hf ?_;rw [List.count_cons] at c2 ⊢;simp only [List.count_append,List.count_nil] at c1 c2 ⊢;exact YJ c2 c1
   ·rw [if_neg (by rw [tU he]; decide)];refine ⟨_,true,rfl,⟨he,q2.sublist List.filter_sublist,λi hi=>q3 i (List.mem_filter.mp hi).1,q4,q5,q6,xZ q7,q8,q9⟩,dN λi=>?_,Nat.le_refl _,λz9=>h1,λz9=>rfl⟩;have c2:=hg.count_eq i;show List.count i (iv::((ms.filter λj=>!decide (j=iv))++(l.flat++r.flat)))=List.count i (ms++(l.flat++r.flat));rw [List.count_cons] at c2 ⊢;simp only [List.count_append] at c2 ⊢;exact YI c2
  ·refine ae (if_neg hh) ?_;have F8:hits x iv=false:=by simpa using hh
   have hs:=uz hv F8;have qw:nd (decide (x < iv.1)) x ms (pick (!decide (x < iv.1)) l r) (pick (decide (x < iv.1)) l r) d b=gx (decide (x < iv.1)) x ms (pick (!decide (x < iv.1)) l r) (pick (decide (x < iv.1)) l r):=by
    rw [← E0]; refine ae h.2.2.2.2.2.2.1 ?_;cases decide (x < iv.1) <;> rfl
   have hp:=kY (c:=decide (x < iv.1)) (x:=x) (ms:=ms) (l:=l) (r:=r) (d:=d) (b:=b);have vx:=kY (c:=!decide (x < iv.1)) (x:=x) (ms:=ms) (l:=l) (r:=r) (d:=d) (b:=b);have Jq:iv∈(pick (decide (x < iv.1)) l r).flat:=by
    rcases List.mem_append.mp (ef.mem_iff.mp jy) with q | q
    ·exact absurd (ey.mpr (w.mid iv q)) hh
    rcases List.mem_append.mp q with q | q
    ·have q':=w.sl;cases hc:decide (x < iv.1) with
     | false =>
      rw [hc] at q' q hs;exact absurd (Int.lt_of_lt_of_le hv (hs iv (List.mem_singleton_self _))) (Int.not_lt.mpr (Int.le_of_lt (q' iv q)))
     | true =>
      rw [hc] at q' q hs;exact absurd (Int.lt_of_lt_of_le hv (q' iv q)) (Int.not_lt.mpr (Int.le_of_lt (hs iv (List.mem_singleton_self _))))
    ·exact q
   have v9:1≤(pick (decide (x < iv.1)) l r).hgt:=by
    by_cases q:(pick (decide (x < iv.1)) l r).hgt=0
    ·rw [WF.bare q] at Jq; cases Jq
    ·exact Nat.pos_of_ne_zero q
   generalize pick (decide (x < iv.1)) l r=th at *;generalize pick (!decide (x < iv.1)) l r=tl at *;generalize decide (x < iv.1)=c at *;have A6:=w.hb;have b1:tl.hgt < 3:=Qb vx h3;have b2:th.hgt < 3:=Qb hp h3;refine dB (ih (t:=th) w.wh v9 (Nat.le_of_lt b2) Jq (PY hz hlen) (Xx Kw hp)) λt' fl ak=>?_; refine gZ ak λr1 r2 r3 r4 r5 r6=>?_; clear ak
   refine ae r1 ?_;have lz:=r3.length_eq;rw [List.length_cons] at lz;have aX:∀ i∈t'.flat,i∈th.flat:=λi hi=>r3.mem_iff.mp (List.mem_cons_of_mem _ hi)
   cases fl with
   | true =>
    have PD:=r6 rfl;have ed:t'.dep=th.dep:=ae (dF r2) (ae (dF w.wh) (ae PD rfl));have e3:(nd c x ms tl t' d b).hgt=(T.node x ms l r d b).hgt:=ae (sy qw ed) (ae du (ae PD (ae eh rfl)));refine ⟨_,true,rfl,?_,dN λi=>?_,Qc e3,λz9=>(by refine ae e3 ?_; exact h1),λz9=>e3⟩
    ·exact ae (sy qw ed) (lT w.wl r2 w.ne w.nod w.mid w.sl (w.sh.sub aX) (by refine ae PD ?_; exact A6))
    ·refine ae (sy qw ed) ?_;have c1:=ef.count_eq i;have c2:=(cY (c:=c) (x:=x) (ms:=ms) (tl:=tl) (th:=t')).count_eq i;have c3:=r3.count_eq i;rw [List.count_cons] at c3 ⊢;simp only [List.count_append] at c1 c2 c3 ⊢;exact UK c3 c1 c2
   | false =>
    refine aQ (TR SF h1) λf' ak=>?_; subst ak
    have k:=YG _ b1 _ b2 _ (Nat.lt_succ_of_le r4) A6 v9 r5;refine aQ (rP (k:=f') (c:=c) (x:=x) (ms:=ms) (tl:=tl) (th:=t') (d:=d) (b:=b) w.ne w.nod w.mid w.wl r2 w.sl (w.sh.sub aX) k.1 k.2 (lnD hz hlen lz)) λt2 ak=>?_; refine gc ak λs1 s2 s3 s4 s5 s6 s7=>?_; clear ak
    simp only [s1];refine ⟨t2,false,rfl,s2,dN λi=>?_,by refine ae eh ?_; exact YH _ b1 _ b2 _ (Nat.lt_succ_of_le r4) _ (Nat.lt_succ_of_le s6) A6 v9 r5 s7,λz9=>s4,λq=>by exact mi q⟩;have c1:=ef.count_eq i;have c2:=s3.count_eq i;have c3:=r3.count_eq i;rw [List.count_cons] at c3 ⊢;simp only [List.count_append] at c1 c2 c3 ⊢;exact UK c3 c1 c2
structure Ok (S:List Iv):Prop where
 srt:dM S
 nod:S.Nodup
 pos:∀ i∈S,i.1 < i.2.1
theorem Ok.filter {S:List Iv} (h:Ok S) (p:Iv->Bool):Ok (S.filter p):=⟨List.Pairwise.sublist List.filter_sublist h.srt,h.nod.sublist List.filter_sublist,λi hi=>h.pos i (List.mem_filter.mp hi).1⟩
theorem yh {a b:Iv} (h:iq b a=false):a.1≤b.1:=by
 unfold iq at h;rw [decide_eq_false_iff_not] at h;exact Int.le_of_not_gt λq=>h (.inl q)
theorem parts (x:Int):∀ S:List Iv,(fY x S++(dY x S++cM x S)).Perm S
 | []=>.refl _
 | i::S=>by
  have ih:=parts x S;unfold fY dY cM at *;refine ae List.filter_cons (ae List.filter_cons (ae List.filter_cons ?_));by_cases h1:i.2.1≤x
  ·simp only [h1,decide_true,Bool.not_true,Bool.false_and,Bool.false_eq_true,if_false,if_true];exact List.perm_middle.trans (ih.cons i)
  ·by_cases h2:x < i.1
   ·simp only [h1,h2,decide_true,decide_false,Bool.not_true,Bool.not_false,Bool.true_and,Bool.and_false,Bool.false_eq_true,if_false,if_true];refine eI (List.append_assoc _ _ _) ?_;refine List.perm_middle.trans ?_;exact ae (List.append_assoc _ _ _) (ih.cons i)
   ·simp only [h1,h2,decide_true,decide_false,Bool.not_true,Bool.not_false,Bool.true_and,Bool.and_true,Bool.and_false,Bool.false_eq_true,if_false,if_true];exact ih.cons i
structure Cut (S:List Iv) (x:Int):Prop where
 lo:Ok (dY x S)
 ro:Ok (cM x S)
 mn:(fY x S).Nodup
 ln:(dY x S).length≤S.length / 2
 rn:(cM x S).length+S.length / 2+1≤S.length
 cen:∃ i∈fY x S,i.1=x
theorem Ih {x:Int}{S:List Iv}{i:Iv} (h:i∈fY x S):i.1≤x∧x < i.2.1:=by
 have:=(List.mem_filter.mp h).2;simp only [Bool.and_eq_true,Bool.not_eq_true',decide_eq_false_iff_not] at this;exact ⟨Int.le_of_not_gt λq=>absurd (Int.add_le_add (Int.le_of_not_gt this.2) (Int.add_one_le_of_lt q)) (by simp +arith only [Int.reduceNeg,not_false_eq_true,Int.reducePow]),Int.lt_of_not_ge λq=>absurd (Int.add_le_add (Int.add_one_le_of_lt (Int.lt_of_not_ge this.1)) q) (by simp +arith only [Int.reduceNeg,not_false_eq_true,Int.reducePow])⟩
theorem Ff {x:Int}{S:List Iv}{i:Iv} (h:i∈dY x S):i.2.1≤x:=of_decide_eq_true (List.mem_filter.mp h).2
theorem Bo {x:Int}{S:List Iv}{i:Iv} (h:i∈cM x S):x < i.1:=by
 have:=(List.mem_filter.mp h).2;simp only [Bool.and_eq_true,decide_eq_true_eq] at this;exact this.2
theorem JU {S:List Iv} (h:Ok S) (bS:S≠[]):Cut S (gV S):=by
 have gk:S.length / 2 < S.length:=by
  have:0 < S.length:=List.length_pos_iff.mpr bS;exact Nat.div_lt_self this (of_decide_eq_true (id (Eq.refl true)))
 have e:S=S.take (S.length / 2)++S[S.length / 2]::S.drop (S.length / 2+1):=by
  conv=>lhs; rw [← List.take_append_drop (S.length / 2) S,List.drop_eq_getElem_cons gk]
 have ex:gV S=(S[S.length / 2]).1:=by
  unfold gV;refine ae (List.getElem?_eq_getElem gk) ?_;rfl
 have la:(S.take (S.length / 2)).length=S.length / 2:=by exact ae List.length_take (Nat.min_eq_left (Nat.le_of_lt gk))
 have lb:(S.drop (S.length / 2+1)).length+S.length / 2+1=S.length:=by exact ae List.length_drop (Nat.sub_add_cancel gk)
 refine ae ex ?_;generalize S[S.length / 2]=c at *;generalize S.take (S.length / 2)=A at *;generalize S.drop (S.length / 2+1)=B at *;have hs:dM (A++c::B):=e▸h.srt;have hp:∀ i∈A++c::B,i.1 < i.2.1:=e▸h.pos;refine bw (List.pairwise_append.mp hs) λs1 s2 s3=>?_;refine aS (List.pairwise_cons.mp s2) λs4 s5=>?_
 have b1:∀ i∈A,i.1≤c.1:=λi hi=>yh (s3 i hi c List.mem_cons_self)
 have b2:∀ i∈B,c.1≤i.1:=λi hi=>yh (s4 i hi)
 have hc:=hp c (List.mem_append_right _ List.mem_cons_self);refine ⟨h.filter _,h.filter _,h.nod.sublist List.filter_sublist,?_,?_,c,?_,rfl⟩
 ·have:(dY c.1 S).length≤A.length:=by
   unfold dY;refine ae e (ae (List.filter_append _ _) ?_); rw [show (c::B).filter _=[] from gO.mpr ?_]; refine ae (List.append_nil _) ?_
   ·exact List.length_filter_le _ _
   ·intro i hi;have h1:=hp i (List.mem_append_right _ hi);rcases List.mem_cons.mp hi with rfl | hi
    ·exact decide_eq_false (Int.not_le_of_gt h1)
    ·have:=b2 i hi;exact decide_eq_false (λq=>absurd (Int.add_le_add (Int.add_one_le_of_lt h1) (Int.add_le_add q this)) (by simp +arith only [Int.reduceNeg,not_false_eq_true,Int.reducePow]))
  exact Qd λq=>Ql (Qa (Qc la) (Qa this q))
 ·have:(cM c.1 S).length≤B.length:=by
   unfold cM;refine ae e (ae (List.filter_append _ _) (ae List.filter_cons ?_)); rw [show A.filter _=[] from gO.mpr ?_]; refine ae (List.nil_append _) ?_; rw [if_neg]
   ·exact List.length_filter_le _ _
   ·simp
   ·intro i hi;have:=b1 i hi;exact ae (show decide (c.1 < i.1)=false from decide_eq_false (Int.not_lt_of_ge this)) (ae (Bool.and_false _) rfl)
  exact Qd λq=>Ql (Qa (Qc lb) (Qa this q))
 ·refine List.mem_filter.mpr ⟨e▸List.mem_append_right _ List.mem_cons_self,?_⟩;simp only [Bool.and_eq_true,Bool.not_eq_true',decide_eq_false_iff_not];exact ⟨λq=>absurd (Int.add_le_add (Int.add_one_le_of_lt hc) q) (by simp +arith only [Int.reduceNeg,not_false_eq_true,Int.reducePow]),λq=>absurd (Int.add_one_le_of_lt q) (by simp +arith only [Int.reduceNeg,not_false_eq_true,Int.reducePow])⟩
theorem xE {n:Nat}{S:List Iv}{l r:T} (bS:S≠[]) (c:Cut S (gV S)) (hl:cS n (dY (gV S) S)=some l) (hr:cS n (cM (gV S) S)=some r):cS (n+1) S=dT 30 (.node (gV S) (fY (gV S) S) l r 1 0):=by
 have:S.isEmpty=false:=by cases S <;> simp_all
 rw [cS]; refine ae this (ae hl ?_);show (match cS n (cM (gV S) S) with | none=>none | some r=>dT 30 (.node (gV S) (aH [] (fY (gV S) S)) l r 1 0))=_;refine ae hr (ae (dK c.mn (λz9 z8 h=>by cases h)) ?_);rfl
theorem lH:∀ {n:Nat}{S:List Iv},Ok S->S.length≤6->S.length≤n->∃ t,cS n S=some t∧WF t∧t.flat.Perm S∧(S.length≤1->t.hgt≤1)∧(S.length≤3->t.hgt≤2)∧t.hgt≤3
 | 0,S,_,_,h0=>by
  obtain rfl:S=[]:=List.eq_nil_of_length_eq_zero (Nat.le_zero.mp (Qb h0 (by decide)));exact ⟨.nil,rfl,trivial,.refl _,λz9=>Nat.zero_le _,λz9=>Nat.zero_le _,Nat.zero_le _⟩
 | n+1,S,h,hz,hn=>by
  by_cases bS:S=[]
  ·subst bS;exact ⟨.nil,rfl,trivial,.refl _,λz9=>Nat.zero_le _,λz9=>Nat.zero_le _,Nat.zero_le _⟩
  have c:=JU h bS;have AU:=c.ln;have xk:=c.rn;have pp:=parts (gV S) S;have hlen:=pp.length_eq;simp only [List.length_append] at hlen;refine cW (lH (n:=n) c.lo (Qb AU (Qb (Nat.div_le_self _ _) hz)) (Qb AU (Qb (Nat.div_le_div_right hn) (Nat.le_of_lt_succ (Nat.div_lt_self (Nat.succ_pos n) (by decide)))))) λl el wl pl l1 l2 l3=>?_;refine cW (lH (n:=n) c.ro (Qd λq=>Ql (Qa hz (Qa xk q))) (Qd λq=>Ql (Qa hn (Qa xk q)))) λr er wr pr r1 r2 r3=>?_
  have hb:=xE bS c el er;refine aF c.cen λi1 WQ z9=>?_;have hl:=pl.length_eq
  have hr:=pr.length_eq;have g1:l.hgt≤2:=l2 (Qb AU (Nat.div_le_div_right (c:=2) hz));have g2:r.hgt≤2:=r2 (Qb (WV xk) (Nat.div_le_div_right (c:=2) hz));refine aQ (rP (k:=18) (c:=true) (x:=gV S) (ms:=fY (gV S) S) (tl:=l) (th:=r) (d:=1) (b:=0) (List.ne_nil_of_mem WQ) c.mn (λi hi=>Ih hi) wl wr (λi hi=>Ff (pl.mem_iff.mp hi)) (λi hi=>Bo (pr.mem_iff.mp hi)) ⟨Qd λq9=>Ql (Qa q9 g2),Qd λq9=>Ql (Qa q9 g1)⟩ ⟨Qd λq9=>Ql (Qa q9 g1),Qd λq9=>Ql (Qa q9 g2)⟩ (Qd λq=>Ql (Qa hz (Qa (Qc hlen) (Qa (Qc hl) (Qa (Qc hr) q)))))) λt ak=>?_; refine gc ak λq1 q2 q3 q4 q5 q6 q7=>?_; clear ak
  have W7:∀ {t:T}{S':List Iv},t.flat.Perm S'->WF t->S'.length=0->t.hgt=0:=λ{t S'} p wt e=>by
   cases t with
   | nil=>rfl
   | node y fP l' r' d' b' =>
    refine aS wt λa1 z9=>?_; clear wt
    have e':=p.length_eq;rw [e] at e';have:fP.length≤(T.node y fP l' r' d' b').flat.length:=by refine ae (show (T.node y fP l' r' d' b').flat=fP++(l'.flat++r'.flat) from rfl) (ae List.length_append ?_); exact Qb (Nat.le_refl fP.length) (Nat.le_add_right fP.length (l'.flat++r'.flat).length)
    exact absurd (List.eq_nil_of_length_eq_zero (Nat.le_zero.mp (Qd λq=>Ql (Qa (Qc e') (Qa this q))))) a1
  refine ⟨t,hb.trans q1,q2,q3.trans ((List.Perm.append_left _ (pl.append pr)).trans pp),λw=>?_,λw=>?_,Qb q6 (Nat.add_le_add_left (Nat.max_le.mpr ⟨g1,g2⟩) 1)⟩
  ·have e1:=W7 pl wl (Nat.le_zero.mp (Qb AU (Nat.div_le_div_right (c:=2) w)));have e2:=W7 pr wr (Nat.le_zero.mp (Qd λq=>Ql (Qa xk (Qa w q))));exact Qb q6 (by rw [e1,e2]; exact Nat.le_refl _)
  ·have e1:=l1 (Qb AU (Nat.div_le_div_right (c:=2) w));have e2:=r1 (Qb (WV xk) (Nat.div_le_div_right (c:=2) w));exact Qb q6 (Nat.add_le_add_left (Nat.max_le.mpr ⟨e1,e2⟩) 1)
noncomputable def mS:Nat->Nat
 | 0=>0
 | 1=>1
 | 2=>2
 | 3=>4
 | _=>7
theorem LG:∀ n,mS n≤7
 | 0=>by decide
 | 1=>by decide
 | 2=>by decide
 | 3=>by decide
 | _+4=>Nat.le_refl 7
theorem BY:∀ n,4≤n->mS n=7
 | 0,h=>absurd h (by decide)
 | 1,h=>absurd h (by decide)
 | 2,h=>absurd h (by decide)
 | 3,h=>absurd h (by decide)
 | _+4,_=>rfl
theorem PX:∀ l,l < 4->∀ r,r < l+2->l≤r+1->mS (1+max l r)≤1+(mS l+mS r):=by decide +kernel
theorem E4 {l r:Nat} (h:r≤l+1∧l≤r+1):mS (1+max l r)≤1+(mS l+mS r):=by
 by_cases w:l < 4
 ·exact PX l w r (Nat.lt_succ_of_le h.1) h.2
 ·exact ae (BY l (Qd w)) (Qb (LG _) (Qb (Nat.le_add_right 7 _) (Nat.le_add_left _ 1)))
theorem wd:∀ {t:T},WF t->mS t.hgt≤t.flat.length
 | .nil,_=>Nat.zero_le _
 | .node x ms l r d b,⟨h1,_,_,_,_,h6,_,h7,h8⟩=>by
  have e:(T.node x ms l r d b).flat.length=ms.length+(l.flat.length+r.flat.length):=ae (show (T.node x ms l r d b).flat=ms++(l.flat++r.flat) from rfl) (ae List.length_append (ae List.length_append rfl));exact ae e (Qb (E4 h6) (Qa (List.length_pos_iff.mpr h1) (Qa (wd h7) (wd h8))))
theorem PW:∀ n,n < 4->(1≤n->1≤mS n)∧(2≤n->2≤mS n)∧(3≤n->4≤mS n)∧(4≤n->7≤mS n):=by decide +kernel
theorem xN {t:T} (h:WF t):(1≤t.hgt->1≤t.flat.length)∧(2≤t.hgt->2≤t.flat.length)∧(3≤t.hgt->4≤t.flat.length)∧(4≤t.hgt->7≤t.flat.length):=by
 have hm:=wd h;by_cases w:t.hgt < 4
 ·have q:=PW _ w;exact ⟨λa=>Qb (q.1 a) hm,λa=>Qb (q.2.1 a) hm,λa=>Qb (q.2.2.1 a) hm,λa=>Qb (q.2.2.2 a) hm⟩
 ·rw [BY _ (Qd w)] at hm;exact ⟨λz9=>Qb (by decide) hm,λz9=>Qb (by decide) hm,λz9=>Qb (by decide) hm,λz9=>hm⟩
theorem nY:∀ {a b:List Iv},a.Perm b->dM a->dM b->a=b
 | [],b,p,_,_=>(List.perm_nil.mp p.symm).symm
 | i::a,[],p,_,_=>absurd p.length_eq (by simp)
 | i::a,j::b,p,ha,hb=>by
  refine aS (List.pairwise_cons.mp ha) λa1 a2=>?_;refine aS (List.pairwise_cons.mp hb) λb1 b2=>?_
  have e:i=j:=by
   rcases List.mem_cons.mp (p.mem_iff.mp List.mem_cons_self) with e | hi
   ·exact e
   rcases List.mem_cons.mp (p.mem_iff.mpr List.mem_cons_self) with e | hj
   ·exact e.symm
   have h1:=b1 i hi;have h2:=a1 j hj;unfold iq at h1 h2;rw [decide_eq_false_iff_not] at h1 h2;obtain ⟨i1,i2,i3⟩:=i;obtain ⟨j1,j2,j3⟩:=j;simp only at h1 h2;refine bw (GY h1 h2) λq1 h1 h2=>?_;refine bw (GY h1 h2) λq2 h1 h2=>?_
   rw [q1,q2,Int.le_antisymm (Int.not_lt.mp h2) (Int.not_lt.mp h1)]
  subst e;exact ae (nY ((List.perm_cons i).mp p) a2 b2) rfl
theorem iw:∀ {t:T}{a:List Iv},t.flat.Nodup->(∀ i∈t.flat,i ∉ a)->dh a t=a++t.flat
 | .nil,a,_,_=>(List.append_nil a).symm
 | .node x ms l r d b,a,hn,hd=>by
  refine bw (List.nodup_append.mp (show (ms++(l.flat++r.flat)).Nodup from hn)) λn1 n2 n3=>?_;refine bw (List.nodup_append.mp n2) λn4 n5 n6=>?_
  have gy:∀ i∈ms++(l.flat++r.flat),i ∉ a:=hd;show dh (dh (aH a ms) l) r=a++(ms++(l.flat++r.flat));refine ae (dK n1 (λi hi=>gy i (List.mem_append_left _ hi))) ?_; rw [iw n4,iw n5]
  ·simp only [List.append_assoc]
  ·intro i hi w;rcases List.mem_append.mp w with w | w
   ·rcases List.mem_append.mp w with w | w
    ·exact gy i (List.mem_append_right _ (List.mem_append_right _ hi)) w
    ·exact n3 i w i (List.mem_append_right _ hi) rfl
   ·exact n6 i w i hi rfl
  ·intro i hi w;rcases List.mem_append.mp w with w | w
   ·exact gy i (List.mem_append_right _ (List.mem_append_left _ hi)) w
   ·exact n3 i w i (List.mem_append_left _ hi) rfl
theorem xj:∀ t:T,t.ht=t.hgt
 | .nil=>rfl
 | .node x ms l r d b=>by show 1+max l.ht r.ht=1+max l.hgt r.hgt; rw [xj l,xj r]
theorem jq:∀ t:T,t.size=t.flat.length
 | .nil=>rfl
 | .node x ms l r d b=>by
  show ms.length+l.size+r.size=(ms++(l.flat++r.flat)).length;refine ae List.length_append (ae List.length_append (ae (jq l) (ae (jq r) ?_))); exact (by walk_at "A")
end
section
theorem dJ {p:Int×Int}{ps:List (Int×Int)}{k:Int}:bt (p::ps) k=if p.1=k then some p.2 else bt ps k:=by
 unfold bt;refine ae List.find?_cons ?_;by_cases h:p.1=k
 ·refine ae (if_pos h) (ae (decide_eq_true h) ?_); rfl
 ·exact ae (if_neg h) (ae (decide_eq_false h) rfl)
theorem pP {ps:List (Int×Int)}{k:Int}:bt ps k≠none↔k∈ps.map (·.1):=by
 induction ps with
 | nil=>exact ⟨λh=>absurd rfl h,λh=>by cases h⟩
 | cons p ps ih =>
  refine ae dJ (ae List.map_cons (ae (propext List.mem_cons) ?_));by_cases h:p.1=k
  ·refine ae (if_pos h) ?_; exact ⟨λz9=>.inl h.symm,λz9=>nofun⟩
  ·refine ae (if_neg h) (ae (propext ih) ?_); exact ⟨.inr,λq=>q.resolve_left λe=>h e.symm⟩
theorem pO {ps:List (Int×Int)}{k c j:Int}:bt (setC ps k c) j=if j=k then some c else bt ps j:=by
 unfold setC;by_cases h:(ps.any λp=>p.1=k)=true
 ·refine ae (if_pos h) ?_;induction ps with
  | nil=>exact mi h
  | cons p ps ih =>
   refine ae List.map_cons (ae dJ (ae dJ ?_));by_cases e:p.1=k
   ·refine ae (if_pos e) ?_;by_cases e2:j=k
    ·exact ae (if_pos e2) (ae (if_pos (e.trans e2.symm)) rfl)
    ·refine ae (if_neg e2) (ae (if_neg (λw=>e2 (w.symm.trans e))) (ae (if_neg (λw=>e2 (w.symm.trans e))) ?_));by_cases h2:(ps.any λp=>p.1=k)=true
     ·exact ae (ih h2) (ae (if_neg e2) rfl)
     ·have:ps.map (λp=>if p.1=k then (p.1,c) else p)=ps:=by
       refine (List.map_congr_left λq hq=>?_).trans (List.map_id ps);exact if_neg λw=>h2 (List.any_eq_true.mpr ⟨q,hq,by simpa using w⟩)
      exact ae this rfl
   ·refine ae (if_neg e) ?_;have h2:(ps.any λp=>p.1=k)=true:=by
     rw [List.any_cons,decide_eq_false e,Bool.false_or] at h; exact h
    refine ae (ih h2) ?_;by_cases e2:j=k
    ·exact ae (if_pos e2) (ae (if_pos e2) (ae (if_neg λw=>e (w.trans e2)) rfl))
    ·exact ae (if_neg e2) (ae (if_neg e2) rfl)
 ·refine ae (if_neg h) ?_;induction ps with
  | nil =>
   refine ae (List.nil_append _) (ae dJ ?_);by_cases e2:j=k
   ·exact ae (if_pos e2) (ae (if_pos e2.symm) rfl)
   ·exact ae (if_neg e2) (ae (if_neg λw=>e2 w.symm) rfl)
  | cons p ps ih =>
   have hp:p.1≠k:=λw=>h (ae List.any_cons (ae (decide_eq_true w) (ae (Bool.true_or _) rfl)))
   have h2:¬ (ps.any λp=>p.1=k)=true:=λw=>h (ae List.any_cons (ae w (ae (Bool.or_true _) rfl)))
   refine ae List.cons_append (ae dJ (ae (ih h2) (ae dJ ?_)));by_cases e2:j=k
   ·exact ae (if_pos e2) (ae (if_pos e2) (ae (if_neg λw=>hp (w.trans e2)) rfl))
   ·exact ae (if_neg e2) (ae (if_neg e2) rfl)
theorem uB {ps:List (Int×Int)}{k c:Int} (h:(ps.map (·.1)).Nodup):((setC ps k c).map (·.1)).Nodup:=by
 unfold setC;by_cases w:(ps.any λp=>p.1=k)=true
 ·refine ae (if_pos w) (ae List.map_map ?_);have:((λx=>x.1) ∘ λp:Int×Int=>if p.1=k then (p.1,c) else p)=λp=>p.1:=by
   funext p;show (if p.1=k then (p.1,c) else p).1=p.1;split <;> rfl
  exact ae this h
 ·refine ae (if_neg w) (ae List.map_append ?_);refine List.nodup_append.mpr ⟨h,List.nodup_cons.mpr ⟨by simp,List.nodup_nil⟩,λa ha b hb e=>?_⟩;rw [List.map_cons,List.map_nil,List.mem_singleton] at hb;refine aF (List.mem_map.mp ha) λp hp ak=>?_; subst ak
  exact w (List.any_eq_true.mpr ⟨p,hp,by simpa using e.trans hb⟩)
theorem vO {ps:List (Int×Int)}{k j:Int}:bt (mU ps k) j=if j=k then none else bt ps j:=by
 unfold mU;induction ps with
 | nil=>show none=_; split <;> rfl
 | cons p ps ih =>
  refine ae List.filter_cons ?_;by_cases e:p.1=k
  ·refine ae (if_neg (by simp [e])) (ae ih (ae dJ ?_));by_cases e2:j=k
   ·exact ae (if_pos e2) (ae (if_pos e2) rfl)
   ·exact ae (if_neg e2) (ae (if_neg e2) (ae (if_neg λw=>e2 (w.symm.trans e)) rfl))
  ·refine ae (if_pos (by simp [e])) (ae dJ (ae ih (ae dJ ?_)));by_cases e2:j=k
   ·exact ae (if_pos e2) (ae (if_pos e2) (ae (if_neg λw=>e (w.trans e2)) rfl))
   ·exact ae (if_neg e2) (ae (if_neg e2) rfl)
noncomputable def jL (ps:List (Int×Int)) (f:Int->Nat):Prop:=(ps.map (·.1)).Nodup∧∀ k,bt ps k=if f k=0 then none else some (f k:Int)
theorem jL.congr {ps:List (Int×Int)}{f g:Int->Nat} (h:jL ps f) (e:∀ k,f k=g k):jL ps g:=⟨h.1,λk=>by exact ae (h.2 k) (ae (e k) rfl)⟩
theorem jL.bump {ps:List (Int×Int)}{f:Int->Nat} (h:jL ps f) (k:Int):jL (bump ps k) λj=>f j+if k=j then 1 else 0:=by
 refine ⟨uB h.1,λj=>?_⟩;show bt (setC ps k ((bt ps k).getD 0+1)) j=_;have e:(bt ps k).getD 0=f k:=by
  refine ae (h.2 k) ?_;by_cases w:f k=0
  ·refine ae (if_pos w) (ae w ?_); rfl
  ·refine ae (if_neg w) ?_; rfl
 refine ae pO (ae e ?_);show _=if (f j+if k=j then 1 else 0)=0 then none else some (((f j+if k=j then 1 else 0:Nat)):Int)
 by_cases w:j=k
 ·subst w;refine ae (if_pos rfl) (ae (if_pos rfl) (ae (if_neg (bK (bT (aV au)))) ?_));rfl
 ·rw [if_neg w,show (if k=j then (1:Nat) else 0)=0 from if_neg λq=>w q.symm,Nat.add_zero,h.2 j]
theorem jL.unbump {ps:List (Int×Int)}{f:Int->Nat} (h:jL ps f) {k:Int} (hk:f k≠0):jL (unbump ps k) λj=>f j - if k=j then 1 else 0:=by
 have e:bt ps k=some (f k:Int):=ae (h.2 k) (ae (if_neg hk) rfl);unfold dD.unbump;refine ae e ?_;by_cases w:f k=1
 ·rw [if_pos (by rw [w]; rfl)];refine ⟨List.Nodup.sublist (List.Sublist.map _ List.filter_sublist) h.1,λj=>?_⟩;refine ae vO ?_;show _=if (f j - if k=j then 1 else 0)=0 then none else some (((f j - if k=j then 1 else 0:Nat)):Int)
  by_cases w2:j=k
  ·subst w2; exact ae (if_pos rfl) (ae (if_pos rfl) (ae (if_pos (by rw [w])) rfl))
  ·exact ae (if_neg w2) (ae (show (if k=j then (1:Nat) else 0)=0 from if_neg λq=>w2 q.symm) (ae (Nat.sub_zero _) (ae (h.2 j) rfl)))
 ·refine ae (if_neg (by intro q; injection q with q; exact w (Int.ofNat.inj q))) ?_;refine ⟨uB h.1,λj=>?_⟩;refine ae pO ?_;show _=if (f j - if k=j then 1 else 0)=0 then none else some (((f j - if k=j then 1 else 0:Nat)):Int)
  by_cases w2:j=k
  ·subst w2;refine ae (if_pos rfl) (ae (if_pos rfl) (ae (if_neg (λz=>w (Nat.le_antisymm (Nat.le_of_sub_eq_zero z) (Nat.pos_of_ne_zero hk)))) ?_));congr 1;show (f j:Int) - 1=_;exact (Int.ofNat_sub (Nat.pos_of_ne_zero hk)).symm
  ·exact ae (if_neg w2) (ae (show (if k=j then (1:Nat) else 0)=0 from if_neg λq=>w2 q.symm) (ae (Nat.sub_zero _) (ae (h.2 j) rfl)))
noncomputable def tV (k:Int) (l:List Iv):Nat:=l.countP (λi=>decide (i.1=k))+l.countP λi=>decide (i.2.1=k)
theorem pJ (k:Int) (i:Iv) (l:List Iv):tV k (i::l)=tV k l+(if i.1=k then 1 else 0)+if i.2.1=k then 1 else 0:=by
 unfold tV;refine ae List.countP_cons (ae List.countP_cons ?_);simp only [decide_eq_true_eq];exact (by walk_at "A")
theorem pI {l l':List Iv} (h:l.Perm l') (k:Int):tV k l=tV k l':=by
 unfold tV; exact ae (h.countP_eq _) (ae (h.countP_eq _) rfl)
theorem gq (l:List Iv):jL (bounds l) λk=>tV k l:=by
 have h:∀ (l:List Iv) (ps:List (Int×Int)) (f:Int->Nat),jL ps f->jL (l.foldl (λps iv=>bump (bump ps iv.1) iv.2.1) ps) λk=>f k+tV k l:=by
  intro l;induction l with
  | nil=>intro ps f h; exact h
  | cons i l ih =>
   intro ps f h;refine (ih _ _ ((h.bump i.1).bump i.2.1)).congr λk=>?_;rw [pJ]; exact (by walk_at "A")
 exact (h l [] (λz9=>0) ⟨List.nodup_nil,λz9=>rfl⟩).congr λk=>Nat.zero_add _
theorem jL.len {ps qs:List (Int×Int)}{f:Int->Nat} (h:jL ps f) (h':jL qs f):ps.length=qs.length:=by
 have p:(ps.map (·.1)).Perm (qs.map (·.1)):=(List.perm_ext_iff_of_nodup h.1 h'.1).mpr λk=>by rw [← pP,← pP,h.2 k,h'.2 k]
 have:=p.length_eq;rw [List.length_map,List.length_map] at this;exact this
theorem oY:∀ t:T,t.ivs.Perm t.flat
 | .nil=>.refl _
 | .node x ms l r d b=>by
  show (l.ivs++(ms++r.ivs)).Perm (ms++(l.flat++r.flat));refine (List.Perm.append (oY l) ((oY r).append_left ms)).trans ?_;refine eI (List.append_assoc _ _ _) (eI (List.append_assoc _ _ _) ?_);exact List.perm_append_comm.append_right _
theorem wc:∀ {t:T}{low high:Int}{ps:List Int},WF t->(∀ i∈t.flat,low < i.1∧i.2.1≤high∧∀ p∈ps,hits p i=false)->NN t low high ps
 | .nil,_,_,_,_,_=>trivial
 | .node x ms l r d b,low,high,ps,h,hs=>by
  have hd:=hV h;refine cO h λh1 h2 h3 h4 h5 h6 h7 h8 h9=>?_; clear h
  refine aQ (List.exists_mem_of_ne_nil ms h1) λi hi=>?_;have m1:∀ i∈ms,i∈(T.node x ms l r d b).flat:=λi hi=>List.mem_append_left _ hi
  have m2:∀ i∈l.flat,i∈(T.node x ms l r d b).flat:=λi hi=>List.mem_append_right _ (List.mem_append_left _ hi)
  have m3:∀ i∈r.flat,i∈(T.node x ms l r d b).flat:=λi hi=>List.mem_append_right _ (List.mem_append_right _ hi)
  have q1:=hs i (m1 i hi);have q2:=h3 i hi;have d1:=dF h8;have d2:=dF h9;refine ⟨⟨by exact Int.lt_of_lt_of_le q1.left q2.left,by exact Int.lt_of_lt_of_le q2.right q1.right.left⟩,h1,λi hi=>⟨ey.mpr (h3 i hi),(hs i (m1 i hi)).2.2⟩,⟨by exact Int.le_of_not_gt λq9=>absurd (Int.add_le_add (Int.le_of_eq (Eq.symm d1)) (Int.add_le_add (Int.add_one_le_of_lt q9) (Int.add_le_add (Int.le_of_eq d2) (Int.ofNat_le.mpr h6.1)))) (by simp +arith only [Int.reduceNeg,not_false_eq_true,Int.reducePow,Int.natCast_add,Int.cast_ofNat_Int,Int.natCast_one]),by exact Int.le_of_not_gt λq9=>absurd (Int.add_le_add (Int.le_of_eq (Eq.symm d2)) (Int.add_le_add (Int.add_one_le_of_lt q9) (Int.add_le_add (Int.le_of_eq d1) (Int.ofNat_le.mpr h6.2)))) (by simp +arith only [Int.reduceNeg,not_false_eq_true,Int.reducePow,Int.natCast_add,Int.cast_ofNat_Int,Int.natCast_one])⟩,hd.1,hd.2.1,wc h8 λi hi=>?_,wc h9 λi hi=>?_⟩
  ·refine ⟨(hs i (m2 i hi)).1,h4 i hi,λp hp=>?_⟩;rcases List.mem_append.mp hp with hp | hp
   ·exact (hs i (m2 i hi)).2.2 p hp
   ·rw [List.mem_singleton] at hp;have:=h4 i hi;refine ae hp (ae (propext eX) ?_); exact λq=>absurd (Int.add_le_add this (Int.add_one_le_of_lt q.2)) (by simp +arith only [Int.reduceNeg,not_false_eq_true,Int.reducePow])
  ·refine ⟨h5 i hi,(hs i (m3 i hi)).2.1,λp hp=>?_⟩;rcases List.mem_append.mp hp with hp | hp
   ·exact (hs i (m3 i hi)).2.2 p hp
   ·rw [List.mem_singleton] at hp;have:=h5 i hi;refine ae hp (ae (propext eX) ?_); exact λq=>absurd (Int.add_le_add (Int.add_one_le_of_lt this) q.1) (by simp +arith only [Int.reduceNeg,not_false_eq_true,Int.reducePow])
noncomputable def GH (i:Iv):Prop:=0≤i.1∧i.1 < i.2.1∧i.2.1≤12
structure Tr (rws ivs:List Iv) (t:T) (ps:List (Int×Int)):Prop where
 nod:rws.Nodup
 len:rws.length≤6
 rng:∀ i∈rws,GH i
 iv:ivs.Perm rws
 wf:WF t
 fl:t.flat.Perm rws
 cnt:jL ps λk=>tV k rws
section
variable {rws ivs:List Iv}{t:T}{ps:List (Int×Int)}
theorem Tr.hgt (h:Tr rws ivs t ps):t.hgt≤3:=by
 have h1:=(xN h.wf).2.2.2;have h2:=h.fl.length_eq;have h3:=h.len;exact Qd λq=>absurd (Qb (h1 q) (h2▸h3)) (by decide)
theorem Tr.flen (h:Tr rws ivs t ps):t.flat.length≤6:=by exact ae h.fl.length_eq h.len
theorem Tr.ilen (h:Tr rws ivs t ps):ivs.length≤6:=by exact ae h.iv.length_eq h.len
theorem Tr.plen (h:Tr rws ivs t ps):ps.length≤12:=by
 refine ae (h.cnt.len (gq rws)) ?_;have:=fz rws;have:=h.len;omega
theorem yQ {C:Led}{x rl:Addr}{fp:FP}{as:List Addr} (h:Tr rws ivs t ps) (jZ:P.gn=AllBare) (hit:g9 P C x fp ivs t ps) (aL:∀ z,fp z≤1) (Ar:dZ C 67) (KN:fp 67=0) (hl:cN C rl (as.map Value.ref)) (hr:aY C as rws) :
  Spec (S2 P) 70 (.ref 892) [.ref x,.ref rl] [] C λrv C'=>rv=.bool true∧GG P C x fp ivs t ps C':=by
 have hf:=h.flen;have hh:=h.hgt;have pk:∀ i∈t.flat,GH i:=λi hi=>h.rng i (h.fl.mem_iff.mp hi)
 refine ux jZ nY hit aL Ar KN hl hr h.len h.iv ((oY t).trans h.fl) (wc h.wf λi hi=>?_) (h.cnt.len (gq rws)) (λp hp=>?_) (by refine ae (jq _) ?_; exact Qb hf (Nat.le_add_left 6 294))
  (hV h.wf) (xB (rH h.wf) (λi hi=>⟨(pk i hi).1,(pk i hi).2.2⟩) (Qb hf (Nat.le_add_left 6 994)) (by simp only [List.length_nil]; exact Qb (by walk_at "A") hh)) (Qb hh (Nat.le_add_left 3 2)) (by exact ae (xj _) (Qb hh (Nat.le_add_left 3 2))) (λk=>?_) ?_ (λz9=>?_) (λi hi=>(h.rng i (h.iv.mem_iff.mp hi)).2.1) (rH h.wf)
 ·have:=pk i hi;exact ⟨by have:=this.1; exact this,by have:=this.2.2; exact Int.le_trans this (Int.NonNeg.mk (13 - Nat.succ 11)),λp hp=>by cases hp⟩
 ·have e:=mv h.cnt.1 p hp;exact ((gq rws).2 p.1).trans ((h.cnt.2 p.1).symm.trans e)
 ·refine (h.cnt.2 k).trans (((gq ivs).2 k).trans ?_).symm;show (if tV k ivs=0 then none else some (tV k ivs:Int))=if tV k rws=0 then none else some (tV k rws:Int)
  exact ae (pI h.iv _) rfl
 ·have h1:=(xN h.wf).1;have h2:=h.fl.length_eq;have h3:=h.iv.length_eq;refine ae lg ?_;cases e:ivs with
  | nil =>
   rw [e,List.length_nil] at h3;exact (decide_eq_true (show t.hgt=0 from Nat.le_zero.mp (Qd λq=>absurd (Qb (h1 q) (Qc (h2.trans h3.symm))) (by decide)))).symm
  | cons i l =>
   have h4:t.hgt≠0:=λw=>by
    have h5:t.flat.length=0:=by refine ae (WF.bare w) ?_; rfl
    rw [e,List.length_cons] at h3;exact Ql (Qa (Qc (Eq.symm h2)) (Qa (Qc h3) (Qc h5)))
   exact (decide_eq_false h4).symm
 ·unfold nF;refine ae (iw (h.fl.nodup_iff.mpr h.nod) (λz9 z8 w=>by cases w)) (ae (List.nil_append _) (ae (Bool.and_eq_true _ _) (ae decide_eq_true_eq (ae (propext List.all_eq_true) ?_))));exact ⟨h.fl.length_eq.trans h.iv.length_eq.symm,λi hi=>decide_eq_true (h.iv.mem_iff.mpr (h.fl.mem_iff.mp hi))⟩
theorem vR {l:List Iv} (h:l.Nodup):aH [] l=l:=(dK h λz9 z8 w=>by cases w).trans (List.nil_append _)
theorem GV {l:List Iv} (hp:l.Perm rws) (hs:dM l) (hn:rws.Nodup) (hr:∀ i∈rws,GH i):Ok l:=⟨hs,hp.nodup_iff.mpr hn,λi hi=>(hr i (hp.mem_iff.mp hi)).2.1⟩
theorem DM (hn:rws.Nodup) (h6:rws.length≤6) (hr:∀ i∈rws,GH i):∀ l,l.Perm rws->dM l->∃ t,cS 6 l=some t:=λl hp hs =>
 let ⟨t,e,_⟩:=lH (n:=6) (GV hp hs hn hr) (by exact ae hp.length_eq h6) (by exact ae hp.length_eq h6)
 ⟨t,e⟩
theorem Tr.new {l:List Iv} (hn:rws.Nodup) (h6:rws.length≤6) (hr:∀ i∈rws,GH i) (hp:l.Perm rws) (hs:dM l) (e:cS 6 l=some t):Tr rws rws t (bounds rws):=by
 refine c9 (lH (n:=6) (GV hp hs hn hr) (by refine ae hp.length_eq ?_; exact h6) (by exact ae hp.length_eq h6)) λt' e' w p z9=>?_;rw [e] at e'
 replace e':=Option.some.inj e'; subst e';exact ⟨hn,h6,hr,.refl _,w,p.trans hp,gq _⟩
theorem Tr.add {iv:Iv} (h:Tr rws ivs t ps) (hz:rws.length≤5) (hi:iv ∉ rws) (hr:GH iv):∃ t',(if t.isNil then t'=dD.mk iv.1 [iv] .nil .nil else qz 30 iv t=some t')∧Tr (rws++[iv]) (eZ ivs iv) t' (bump (bump ps iv.1) iv.2.1):=by
 have jf:eZ ivs iv=ivs++[iv]:=if_neg λw=>hi (h.iv.mem_iff.mp w)
 have key:∀ t',WF t'->t'.flat.Perm (t.flat++[iv])->Tr (rws++[iv]) (eZ ivs iv) t' (bump (bump ps iv.1) iv.2.1):=λt' w p=>by
  refine ⟨List.nodup_append.mpr ⟨h.nod,List.nodup_cons.mpr ⟨by simp,List.nodup_nil⟩,λa ha b hb e=>?_⟩,by refine ae List.length_append (ae List.length_singleton ?_); exact Nat.lt_of_le_of_lt hz (Nat.le_add_left (Nat.succ 5) 0),λi q=>?_,by refine ae jf ?_; exact h.iv.append_right _,w,p.trans (h.fl.append_right _),((h.cnt.bump iv.1).bump iv.2.1).congr λk=>?_⟩
  ·rw [List.mem_singleton] at hb;exact hi (hb▸e▸ha)
  ·rcases List.mem_append.mp q with q | q
   ·exact h.rng i q
   ·rw [List.mem_singleton] at q; exact ae q hr
  ·refine ae (pI (List.perm_append_comm (l₁:=rws) (l₂:=[iv])) k) ?_;exact (pJ k iv rws).symm
 cases hn:t.isNil
 ·have hh:1≤t.hgt:=by
   rw [lg] at hn;have:=of_decide_eq_false hn;exact Nat.pos_of_ne_zero (of_decide_eq_false hn)
  refine c9 (J6 (n:=30) hr.2.1 h.wf hh h.hgt (λw=>hi (h.fl.mem_iff.mp w)) (by refine ae h.fl.length_eq ?_; exact hz) (by have:=h.hgt; exact Qd λq=>Ql (Qa this q))) λt' e w p z9=>?_;exact ⟨t',e,key t' w p⟩
 ·obtain rfl:t=.nil:=by cases t with | nil=>rfl | node=>exact mi hn
  refine ⟨_,rfl,key _ ⟨by simp,by simp,λi q=>?_,λi q=>(by cases q),λi q=>(by cases q),⟨by decide,by decide⟩,rfl,trivial,trivial⟩ (.refl _)⟩;rw [List.mem_singleton] at q;have:=hr.2.1;refine ae q ?_; exact ⟨Int.le_refl iv.fst,this⟩
theorem Tr.rem {iv:Iv}{p q:List Iv} (h:Tr (p++iv::q) ivs t ps):∃ t' b,fe 30 iv t=some (t',b)∧bt ps iv.1≠none∧bt (unbump ps iv.1) iv.2.1≠none∧Tr (p++q) (ivs.filter λj=>!decide (j=iv)) t' (unbump (unbump ps iv.1) iv.2.1):=by
 have hm:iv∈p++iv::q:=List.mem_append_right _ (.head _);have hr:=h.rng iv hm;have pm:(p++iv::q).Perm (iv::(p++q)):=List.perm_middle;have hd:∀ k,tV k (p++iv::q)=tV k (p++q)+(if iv.1=k then 1 else 0)+if iv.2.1=k then 1 else 0:=λk=>(pI pm k).trans (pJ k iv _)
 have qw:=List.nodup_cons.mp (pm.nodup_iff.mp h.nod);have hh:1≤t.hgt:=by
  refine Classical.byContradiction λw=>?_;have:t.hgt=0:=Nat.le_zero.mp (Qd λq=>Ql (Qa (Nat.gt_of_not_le w) q))
  rw [WF.bare this] at h;have:=h.fl.length_eq;rw [show T.nil.flat=[] from rfl,List.length_append,List.length_cons,List.length_nil] at this;exact Ql (Qc (Eq.symm this))
 refine cL (HZ (n:=30) hr.2.1 h.wf hh h.hgt (h.fl.mem_iff.mpr hm) h.flen (by have:=h.hgt; exact Qd λq=>Ql (Qa this q))) λt' b e w pt z9=>?_;have f1:tV iv.1 (p++iv::q)≠0:=by refine ae (hd _) (ae (if_pos rfl) ?_); exact bK (bT (az (aV au)))
 have c1:=h.cnt.unbump (k:=iv.1) f1;have f2:(λj=>tV j (p++iv::q) - if iv.1=j then 1 else 0) iv.2.1≠0:=by
  show tV iv.2.1 (p++iv::q) - (if iv.1=iv.2.1 then 1 else 0)≠0;refine ae (hd _) (ae (if_pos (rfl:iv.2.1=iv.2.1)) ?_);exact Nat.sub_ne_zero_of_lt (Nat.lt_succ_of_le (Nat.le_add_left _ _))
 refine ⟨t',b,e,by refine ae (h.cnt.2 _) (ae (if_neg f1) ?_); nofun,by refine ae (c1.2 _) (ae (if_neg f2) ?_); nofun,qw.2,?_,λi hi=>h.rng i (pm.mem_iff.mpr (.tail _ hi)),?_,w,?_,(c1.unbump (k:=iv.2.1) f2).congr λk=>?_⟩
 ·have:=h.len;have:=pm.length_eq;rw [List.length_cons] at this;omega
 ·refine ((h.iv.trans pm).filter _).trans ?_;refine ae (List.filter_cons_of_neg (by simp)) ?_;rw [List.filter_eq_self.mpr λj hj=>?_];have:j≠iv:=λw=>qw.1 (w▸hj)
  simp [this]
 ·exact List.Perm.cons_inv (pt.trans (h.fl.trans pm))
 ·show tV k (p++iv::q) - (if iv.1=k then 1 else 0) - (if iv.2.1=k then 1 else 0)=_;refine ae (hd _) ?_; rw [Nat.sub_right_comm,Nat.add_sub_cancel,Nat.add_sub_cancel]
end
end
section
noncomputable def mB (C:Led) (h sl:Addr) (b:Int):Prop:=∃ k tk n,0≤k∧k≤b∧C h=some (listOf #[.ref sl,.int k tk] n)
theorem vp {vs:List Value}{ns:List Int} (h:IntsAre vs ns):∀ {i:Nat},i < vs.length->∃ y ty,vs[i]?=some (.int y ty):=by
 induction h with
 | nil=>intro i h; simp at h
 | cons n t _ ih =>
  intro i h;cases i with
  | zero=>exact ⟨n,t,rfl⟩
  | succ i=>exact ih (by simpa using h)
theorem zx {C:Led}{h sl:Addr}{b many:Int}{tm:Tok}{vs:List Value}{ns:List Int} (hh:mB C h sl b) (hb:b≤500) (hs:cN C sl vs) (hi:IntsAre vs ns) (hz:ns.length≤63) (bS:h≠sl) (hm:0 < many) :
  Spec (S2 P) 8 (.ref 868) [.ref h,.int many tm] [] C λr C'=>∃ v t,A4 (r=.int v t) (0≤v) (v < many) ((∃ o,C'=upd C h o)) (mB C' h sl (b+1)):=by
 refine fJ hh λk tk kn nN hkb M3=>?_; clear hh
 refine' ax (n:=7) (binds:=[("hand",.ref h),("many",.int many tm)]) ?ho ?hb ?hp ?_;walk_at "D";have hlen:=IntsAre.length hi;walk_at "r";refine yY (vs:=[.ref sl,.int k tk]) G ⟨kn,M3⟩ (bc (aW ?_));walk_at "st";refine bc (aW ?_);walk_at "st";refine js ?_;walk_at "r";refine ze (vs:=[.ref sl,.int k tk]) M3 (by decide) (by simp) (by simp) (λk'=>?_);refine jo ?_;rename_i Kd _;have WS:mB (upd C h (listOf (([.ref sl,.int k tk]:List Value).set (1:Int).toNat (.int (k+1) Kd)).toArray k')) h sl (b+1):=⟨k+1,Kd,k',by exact Int.le_trans nN (Int.le_of_lt (Int.le_refl (k+1))),by exact Int.lt_of_le_of_lt hkb (Int.le_refl (b+1)),af _ _ _⟩;have FI:cN (upd C h (listOf (([.ref sl,.int k tk]:List Value).set (1:Int).toNat (.int (k+1) Kd)).toArray k')) sl vs:=hs.imp λq e=>(ag _ _ (Ne.symm bS)).trans e
 have yx:∀ a:Int,0≤a.fmod many∧a.fmod many < many:=λa=>⟨Int.fmod_nonneg_of_pos a hm,Int.fmod_lt_of_pos a hm⟩
 generalize listOf (([.ref sl,.int k tk]:List Value).set (1:Int).toNat (.int (k+1) Kd)).toArray k'=o1 at *;walk_at "r";refine dU FI (Nat.lt_of_not_le λq=>Ql (Qa hz (Qa (Qc hlen) q))) (λtn=>?_);walk_at "r";by_cases hv:vs.length=0
 ·refine cq (by simpa using hv) ?_;walk_at "r";refine Bx (i_ (Int.NonNeg.mk (13+Nat.succ 999999)) (Int.NonNeg.mk (1000000 - Nat.succ 12))) (λt1=>?_);walk_at "r";refine By (Int.ne_of_gt hm) (λt2=>?_);walk_at "r";exact ⟨_,_,rfl,(yx _).1,(yx _).2,⟨o1,rfl⟩,WS⟩
 ·refine bN (by simpa using hv) ?_;walk_at "r";refine By (λe=>hv (Int.ofNat.inj e)) (λt1=>?_);walk_at "r";have F2:0≤k.fmod vs.length∧k.fmod vs.length < vs.length:=⟨Int.fmod_nonneg_of_pos k (Int.ofNat_lt.mpr (Nat.pos_of_ne_zero hv)),Int.fmod_lt_of_pos k (Int.ofNat_lt.mpr (Nat.pos_of_ne_zero hv))⟩;refine dB (vp hi ((Int.toNat_lt F2.1).mpr F2.2):∃ y ty,vs[(k.fmod vs.length).toNat]?=some (.int y ty)) λy ty hy=>?_;refine gg FI F2.1 (Int.lt_of_lt_of_le F2.2 (Int.le_trans (Int.ofNat_le.mpr (Qb (Qc hlen) hz)) (by decide))) hy ?_
  walk_at "r";refine Bx (i_ (Int.NonNeg.mk (7+Nat.succ 999999)) (Int.NonNeg.mk (1000000 - Nat.succ 6))) (λt3=>?_);walk_at "r";refine oG (λe=>hv (Int.ofNat.inj e)) (Nat.lt_of_le_of_lt (Qb (Qc hlen) hz) (by decide)) (λt4=>?_);walk_at "r";refine Bx (i_ (Int.le_of_not_gt λq=>absurd (Int.add_le_add nN (Int.add_le_add nN (Int.add_le_add nN (Int.add_le_add nN (Int.add_le_add nN (Int.add_le_add nN (Int.add_le_add nN (Int.add_one_le_of_lt q)))))))) (by simp +arith only [Int.reduceNeg,not_false_eq_true,Int.reducePow])) (by omega)) (λt5=>?_);walk_at "r";refine By (Int.ne_of_gt hm) (λt2=>?_);walk_at "r";exact ⟨_,_,rfl,(yx _).1,(yx _).2,⟨o1,rfl⟩,WS⟩
end
section
structure ee (C:Led) (h sl rl:Addr) (vs:List Value) (as:List Addr) (ivs:List Iv) (b:Int):Prop where
 hand:mB C h sl b
 scr:cN C sl vs
 tab:dZ C 67
 rows:cN C rl (as.map Value.ref)
 rat:aY C as ivs
 ex:C sl=some (listOf vs.toArray 0)
theorem ee.keep {C C':Led}{h sl rl:Addr}{vs:List Value}{as:List Addr}{ivs:List Iv}{b:Int}{fp:FP} (s:ee C h sl rl vs as ivs b) (k:aq fp C C') (f1:fp h=0) (f2:fp sl=0) (f3:fp rl=0) (t:dZ C' 67):ee C' h sl rl vs as ivs b :=
 ⟨let ⟨kk,tk,n,a1,a2,e⟩:=s.hand; ⟨kk,tk,n,a1,a2,k _ _ e (.inr f1)⟩,s.scr.keep k f2,t,s.rows.keep k f3,s.rat.keep k,k _ _ s.ex (.inr f2)⟩
theorem ee.sub {C C':Led}{h sl rl:Addr}{vs:List Value}{as:List Addr}{ivs:List Iv}{b:Int} (s:ee C h sl rl vs as ivs b) (k:∀ z o,C z=some o->C' z=some o):ee C' h sl rl vs as ivs b :=
 s.keep (aq.of_sub (fp:=λz9=>0) k) rfl rfl rfl (s.tab.keep (fp:=λz9=>0) (aq.of_sub k) rfl)
theorem dZ.upd {C:Led}{h:Addr}{o:Obj} (t:dZ C 67) (bS:h≠67):dZ (upd C h o) 67:=let ⟨o',ps,e,a,b⟩:=t; ⟨o',ps,(ag _ _ (Ne.symm bS)).trans e,a,b⟩
theorem mB.ne67 {C:Led}{h sl:Addr}{b:Int} (s:mB C h sl b) (t:dZ C 67):h≠67:=λq=>by
 refine fJ s λk tk n z9 z8 e=>?_; clear s
 refine bx t λo ps e' hd z9=>?_; clear t
 rw [q] at e; replace e:=eG e' e; subst e; injection hd
theorem lZ {A:Around}{Qg:Heap}{L:Addr}{E:Value->Shared->Prop}{m:Loc}{env:Env}{n:Nat}{C:Led}{h sl rl:Addr}{vs:List Value}{ns:List Int}{as:List Addr}{ivs:List Iv}{b many:Int}{tm:Tok}{Q:Value->Loc->Led->Prop} (G:Gd (S2 P) n A Qg L env) (s:ee C h sl rl vs as ivs b) (hb:b≤500)
  (hi:IntsAre vs ns) (hz:ns.length≤63) (bS:h≠sl) (qu:h≠rl) (hm:0 < many) (hQ:∀ v t C',0≤v->v < many->aq (one h) C C'->More C C'->ee C' h sl rl vs as ivs (b+1)->Q (.int v t) m C') (hn:autoParam (8≤n) aO):W (S2 P) A Qg L E (call (.ref 868) [.ref h,.int many tm]) m C Q:=by
 refine aE G (zx s.hand hb s.scr hi hz bS hm) (λrv C' q=>?_) hn;refine dB q λv t ak=>?_; clear q; obtain ⟨rfl,h0,h1,⟨o,rfl⟩,hh⟩:=ak
 have k:aq (one h) C (upd C h o):=aq.refl.upd (by refine ae (aj _) ?_; decide) λo' e=>by
  refine fJ s.hand λk tk n z9 z8 e'=>?_;replace e:=eG e' e; subst e; exact dX
 exact hQ v t _ h0 h1 k More.refl.upd ⟨hh,s.scr.keep k (aG (Ne.symm bS)),s.tab.upd (s.hand.ne67 s.tab),s.rows.keep k (aG (Ne.symm qu)),s.rat.keep k,k _ _ s.ex (.inr (aG (Ne.symm bS)))⟩
noncomputable def Off (fp:FP) (h sl rl:Addr):Prop:=fp h=0∧fp sl=0∧fp rl=0∧fp 67=0
theorem ee.some {C:Led}{h sl rl:Addr}{vs:List Value}{as:List Addr}{ivs:List Iv}{b:Int} (s:ee C h sl rl vs as ivs b):C h≠none∧C sl≠none∧C rl≠none∧C 67≠none:=by
 refine fJ s.hand λk tk n z9 z8 e1=>?_;refine aQ s.scr λk2 e2=>?_
 refine aQ s.rows λk3 e3=>?_;refine bg s.tab λo ps e4 z9=>?_
 refine ae e1 (ae e2 (ae e3 (ae e4 ?_)));exact ⟨nofun,nofun,nofun,nofun⟩
theorem ee.off {C:Led}{h sl rl:Addr}{vs:List Value}{as:List Addr}{ivs:List Iv}{b:Int}{fp:FP} (s:ee C h sl rl vs as ivs b) (hf:∀ z,fp z≠0->C z=none):Off fp h sl rl:=by
 refine dI s.some λa1 a2 a3 a4=>?_;have key:∀ z,C z≠none->fp z=0:=λz hz=>Classical.byContradiction λw=>hz (hf z w)
 exact ⟨key _ a1,key _ a2,key _ a3,key _ a4⟩
theorem BQ {C:Led}{h sl rl:Addr}{vs:List Value}{as:List Addr}{ivs:List Iv}{b:Int}{fp fp':FP} (s:ee C h sl rl vs as ivs b) (o:Off fp h sl rl) (hf:∀ z,fp' z≠0->fp z≠0∨C z=none):Off fp' h sl rl:=by
 refine dI s.some λa1 a2 a3 a4=>?_;refine dI o λo1 o2 o3 o4=>?_; clear o
 have key:∀ z,fp z=0->C z≠none->fp' z=0:=λz h1 h2=>Classical.byContradiction λw=>(hf z w).elim (λy=>y h1) h2
 exact ⟨key _ o1 a1,key _ o2 a2,key _ o3 a3,key _ o4 a4⟩
theorem oe {A:Around}{Qg:Heap}{L:Addr}{E:Value->Shared->Prop}{m:Loc}{env:Env}{n:Nat}{C:Led}{h sl rl x D:Addr}{vs:List Value}{as bs:List Addr}{ivs rws ue:List Iv}{b:Int}{fp:FP}{t:T}{ps:List (Int×Int)}{Q:Value->Loc->Led->Prop} (G:Gd (S2 P) n A Qg L env) (jZ:P.gn=AllBare) (s:ee C h sl rl vs as ivs b) (hit:g9 P C x fp ue t ps) (aL:∀ z,fp z≤1) (off:Off fp h sl rl)
  (tr:Tr rws ue t ps) (hl:cN C D (bs.map Value.ref)) (hr:aY C bs rws) (hQ:∀ C' fp',g9 P C' x fp' ue t ps->(∀ z,fp' z≤1)->Off fp' h sl rl->ee C' h sl rl vs as ivs b->Q (.bool true) m C') (hn:autoParam (70≤n) aO):W (S2 P) A Qg L E (call (.ref 892) [.ref x,.ref D]) m C Q:=by
 refine aE G (yQ tr jZ hit aL s.tab off.2.2.2 hl hr) (λrv C' q=>?_) hn;refine aS q λak aZ=>?_; clear q; subst ak; obtain ⟨fp',q1,q2,q3,q4,q5,q6⟩:=aZ
 refine hQ C' fp' q1 q2 (BQ s off q3) (s.keep q5 ?_ ?_ ?_ q4)
 ·show fp h+one 67 h=0;exact ae off.1 (ae (aG (s.hand.ne67 s.tab)) rfl)
 ·show fp sl+one 67 sl=0;rw [off.2.1,aG λq=>?_];walk_at "bh";refine aQ s.scr λk2 e2=>?_;refine bx s.tab λo ps e4 hd z9=>?_
  rw [q] at e2; replace e2:=eG e4 e2; subst e2; injection hd
 ·show fp rl+one 67 rl=0;rw [off.2.2.1,aG λq=>?_];walk_at "bh";refine aQ s.rows λk2 e2=>?_;refine bx s.tab λo ps e4 hd z9=>?_
  rw [q] at e2; replace e2:=eG e4 e2; subst e2; injection hd
theorem fA.law {C C':Led}{h sl rl x:Addr}{vs:List Value}{as:List Addr}{ivs ue:List Iv}{b:Int}{fp:FP}{t:T}{ps:List (Int×Int)} (s:ee C h sl rl vs as ivs b) (off:Off fp h sl rl) (q:fA P C x fp ue t ps C'):∃ fp',g9 P C' x fp' ue t ps∧(∀ z,fp' z≤1)∧Off fp' h sl rl∧ee C' h sl rl vs as ivs b:=by
 walk_at "bh";obtain ⟨fp',q1,q2,q3,q4,q5⟩:=q;walk_at "ch";exact ⟨fp',q1,q2,BQ s off q3,s.keep q4 off.1 off.2.1 off.2.2.1 (s.tab.keep q4 off.2.2.2)⟩
theorem aY.take {C:Led}{as:List Addr}{ivs:List Iv} (h:aY C as ivs):∀ k,aY C (as.take k) (ivs.take k):=by
 induction h with
 | nil=>intro k; rw [List.take_nil,List.take_nil]; exact .nil
 | cons h _ ih =>
  intro k;cases k with
  | zero=>exact .nil
  | succ k=>exact .cons h (ih k)
theorem aY.split {C:Led}{as:List Addr}{ivs:List Iv} (h:aY C as ivs):∀ {i:Nat},i < ivs.length->∃ pa a qa p iv q,as=pa++a::qa∧ivs=p++iv::q∧pa.length=i∧aY C (pa++qa) (p++q)∧iE C a iv∧ivs[i]?=some iv:=by
 induction h with
 | nil=>intro i h; cases h
 | @cons a iv as ivs h1 h2 ih =>
  intro i hi;cases i with
  | zero=>exact ⟨[],a,as,[],iv,ivs,rfl,rfl,rfl,h2,h1,rfl⟩
  | succ i =>
   refine bL (ih (i:=i) (Nat.lt_of_succ_lt_succ hi)) λpa a' qa p ue gw=>?_; refine cW gw λq ak aZ e e1 e2 e3=>?_; clear gw; subst ak; subst aZ
   exact ⟨a::pa,a',qa,iv::p,ue,q,rfl,rfl,by exact ae List.length_cons (ae e rfl),.cons h1 e1,e2,e3⟩
end
section
theorem aY.item {C:Led}{as:List Addr}{ivs:List Iv} (h:aY C as ivs):∀ {i:Nat},i < ivs.length->∃ a iv,(as.map Value.ref)[i]?=some (.ref a)∧iE C a iv∧ivs[i]?=some iv:=by
 induction h with
 | nil=>intro i h; cases h
 | @cons a iv as ivs h1 _ ih =>
  intro i hi;cases i with
  | zero=>exact ⟨a,iv,rfl,h1,rfl⟩
  | succ i =>
   obtain ⟨b,jv,e,e1,e2⟩:=ih (i:=i) (Nat.lt_of_succ_lt_succ hi);exact ⟨b,jv,e,e1,e2⟩
theorem B_:∃ oc od name qual params body scope dV kV doc pm an eN ct xY,(KK P).lookup 897=some ⟨oc,od,.func (fnOf name qual params body scope dV kV doc pm an eN ct),xY⟩∧nU P body qual scope:=by
 refine' ⟨_,_,_,_,_,_,_,_,_,_,_,_,_,_,_,?ho,?_⟩
 case ho=>exact rfl
 intro pp fa eN A base L E G C sl vs ns Wk hi hz Ar Qp et;have hs:cN C sl vs:=⟨0,Wk⟩;walk_at "r";refine bH (vs:=[Value.ref sl,Value.int 0 _]) (λh OD=>?_) (by simp [sizeLine_eq]);walk_at "r";refine bH (vs:=[]) (λrl iG=>?_) (by simp [sizeLine_eq]);walk_at "r";rename_i NT _ _;have Bb:ee (upd (upd C h (listOf #[Value.ref sl,Value.int 0 NT] 0)) rl (listOf #[] 0)) h sl rl vs [] [] 0:=by
  have s1:=aB (o:=listOf #[Value.ref sl,Value.int 0 NT] 0) OD;have s2:=aB (o:=listOf #[] 0) iG;have bS:h≠rl:=λq=>by rw [← q] at iG; exact bo iG (af ..)
  exact ⟨⟨0,NT,0,by exact Int.NonNeg.mk (0+0),by exact Int.NonNeg.mk (0+0),s2 _ _ (af _ _ _)⟩,hs.imp λk e=>s2 _ _ (s1 _ _ e),Ar.keep (aq.of_sub (fp:=λz9=>0) λz o e=>s2 _ _ (s1 _ _ e)) rfl,⟨0,af _ _ _⟩,.nil,s2 _ _ (s1 _ _ Wk)⟩
 have Af:h≠sl:=λq=>by
  refine aQ hs λk e=>?_; clear hs
  rw [q] at OD; exact bo OD e
 have qu:h≠rl:=λq=>by rw [← q] at iG; exact bo iG (af ..)
 have FO:sl≠rl:=λq=>by
  refine aQ hs λk e=>?_; clear hs
  rw [← q,aB OD _ _ e] at iG; cases iG
 generalize upd (upd C h (listOf #[Value.ref sl,Value.int 0 NT] 0)) rl (listOf #[] 0)=C0 at *;refine lZ G Bb (by exact Int.NonNeg.mk (500+0)) hi hz Af qu (by decide) (λv tv C1 v0 v6 k1 m1 DZ=>?_);walk_at "r";obtain ⟨kn,MV⟩:∃ kn:Nat,1+v=kn:=⟨(1+v).toNat,(Int.toNat_of_nonneg (Int.add_nonneg (by decide) v0)).symm⟩;have MX:kn≤6:=Int.ofNat_le.mp (Int.le_trans (Int.le_of_eq (MV.symm.trans (Int.add_comm 1 v))) (Int.add_one_le_of_lt v6));rw [MV];refine uQ (λra t1 t2 t3 Mr=>?_);refine oo (af _ _ _) (by exact Int.NonNeg.mk (kn+0)) (Int.ofNat_le.mpr (Qb MX (by decide))) (λai Ao=>?_);refine wG G Ao (λi m C'=>m "hand"=some (.ref h)∧m "rows"=some (.ref rl)∧∃ as ivs b,HJ (ee C' h sl rl vs as ivs b) (b≤1+3 * i) (ivs.length≤i) (aH [] ivs=ivs) ((∀ j∈ivs,0≤j.1∧j.1 < j.2.1∧j.2.1≤12)) ((0 < i->ivs≠[]))) ?_ ?_ ?_
 ·exact ⟨by walk_at "nm",by walk_at "nm",[],[],1,DZ.sub (aB Mr),by exact Int.NonNeg.mk (1+3 * 0 - Nat.succ 0),by simp,rfl,by simp,by omega⟩
 ·rintro E' i ti m C2 Ho ⟨vZ,qZ,as,ivs,b,AN,hb,hlen,jf,FK,vY⟩ J hJ;walk_at "r";have JJ:b≤16:=Int.le_trans hb (Int.le_trans (Int.add_le_add_left (Int.mul_le_mul_of_nonneg_left (Int.ofNat_le.mpr (Nat.le_of_lt_succ (Nat.lt_of_lt_of_le Ho MX))) (by decide)) 1) (by decide));have OJ:b+1+1+1≤1+3 * ((i+1:Nat):Int):=by exact Int.le_of_not_gt λq9=>absurd (Int.add_le_add (Int.add_one_le_of_lt q9) hb) (by simp +arith only [Int.reduceNeg,not_false_eq_true,Int.reducePow,Int.natCast_add,Int.cast_ofNat_Int,Int.natCast_one])
  refine lZ G AN (Int.le_trans JJ (by decide)) hi hz Af qu (by decide) (λv1 Et C3 u0 u10 k3 m3 AM=>?_);walk_at "r";refine Li G (λt4=>?_);walk_at "r";refine lZ G AM (Int.le_trans (Int.add_le_add_right JJ 1) (by decide)) hi hz Af qu (by split <;> omega) (λv2 NS C4 w0 w1 k4 m4 AL=>?_);walk_at "r";refine lZ G AL (Int.le_trans (Int.add_le_add_right (Int.add_le_add_right JJ 1) 1) (by decide)) hi hz Af qu (by decide) (λv3 Es C5 y0 y1 k5 m5 EE=>?_);walk_at "r";rename_i te _;refine cg (vs:=[Value.int v1 Et,Value.int (v1+1+v2) te,Value.int v3 Es]) (λK9 hrw=>?_) (by simp [sizeLine_eq]);have sR:=aB (o:=bU [Value.int v1 Et,Value.int (v1+1+v2) te,Value.int v3 Es] 0) hrw;have lx:iE (upd C5 K9 (bU [Value.int v1 Et,Value.int (v1+1+v2) te,Value.int v3 Es] 0)) K9 (v1,v1+1+v2,v3):=⟨Et,te,Es,0,af _ _ _⟩;have vW:=EE.sub sR;have yk:v1+1+v2≤12:=by split at w1 <;> omega
  generalize upd C5 K9 (bU [Value.int v1 Et,Value.int (v1+1+v2) te,Value.int v3 Es] 0)=C6 at *;walk_at "r";refine uJ G vW.rows vW.rat lx ?_;walk_at "r";by_cases jy:(v1,v1+1+v2,v3)∈ivs
  ·refine bN (by simp [jy]) ?_;walk_at "r";exact ⟨by walk_at "nm",by walk_at "nm",as,ivs,b+1+1+1,vW,OJ,by exact Qb hlen (Nat.le_add_right i 1),jf,FK,λz9 e=>by rw [e] at jy; cases jy⟩
  ·refine cq (by simp [jy]) ?_;walk_at "r";refine dG vW.rows ?_;walk_at "r";refine aQ (id vW.rows) λkr FX=>?_;refine kU FX (by rw [List.length_map,vW.rat.len,sizeLine_eq]; exact Qb hlen (Qb (Nat.le_of_lt Ho) (Qb MX (by decide)))) ?_
   walk_at "r";have k7:aq (one rl) C6 (upd C6 rl (listOf (as.map Value.ref++[Value.ref K9]).toArray (kr+1))):=aq.refl.upd (by refine ae (aj _) ?_; decide) λo' e=>by replace e:=eG FX e; subst e; exact dX
   refine ⟨by walk_at "nm",by walk_at "nm",as++[K9],ivs++[(v1,v1+1+v2,v3)],b+1+1+1,?_,OJ,by simp; exact hlen,?_,?_,λz9 e=>by simp at e⟩
   ·have FL:rl≠67:=λq=>by
     refine bx vW.tab λo ps e' hd z9=>?_;rw [← q] at e'; replace e':=eG FX e'; subst e'; injection hd
    refine ⟨?_,vW.scr.keep k7 (aG FO),vW.tab.upd FL,⟨kr+1,by refine ae (af _ _ _) ?_; simp⟩,(vW.rat.keep k7).snoc (lx.keep k7),k7 _ _ vW.ex (.inr (aG FO))⟩;refine fJ vW.hand λkk tk n a1 a2 e=>?_;exact ⟨kk,tk,n,a1,a2,k7 _ _ e (.inr (aG qu))⟩
   ·refine ae (mY _ _ _) (ae jf ?_);exact if_neg jy
   ·intro j hj;rcases List.mem_append.mp hj with hj | hj
    ·exact FK j hj
    ·rw [List.mem_singleton] at hj;subst hj;exact ⟨u0,by show v1 < v1+1+v2; exact Int.lt_of_not_ge λq=>absurd (Int.add_le_add w0 q) (by simp +arith only [Int.reduceNeg,not_false_eq_true,Int.reducePow]),yk⟩
 ·rintro E' m C2 ⟨vZ,qZ,as,ivs,b,AN,hb,hlen,jf,FK,vY⟩;have Rf:=hz;have qw:ivs.Nodup:=by exact eI jf (kG _ _ .nil)
  have fC:b≤19:=Int.le_of_not_gt λq=>absurd (Int.add_le_add (Int.add_one_le_of_lt q) (Int.add_le_add hb (Int.add_le_add (Int.le_of_eq (Eq.symm MV)) (Int.add_le_add (Int.le_of_eq (Eq.symm MV)) (Int.add_le_add (Int.le_of_eq (Eq.symm MV)) (Int.add_le_add (Int.add_one_le_of_lt v6) (Int.add_le_add (Int.add_one_le_of_lt v6) (Int.add_one_le_of_lt v6)))))))) (by simp +arith only [Int.reduceNeg,not_false_eq_true,Int.reducePow])
  have h6:ivs.length≤6:=Qb hlen MX;have mh:=AN.rat.len;have Wr:∀ i∈ivs,GH i:=FK;clear vY jf hb hlen;walk_at "r";refine dU AN.rows (by refine ae (List.length_map _) (ae mh ?_); exact Nat.lt_of_le_of_lt h6 (by decide)) (λtn=>?_);walk_at "r";refine lZ G AN (Int.le_trans fC (Int.NonNeg.mk (500 - Nat.succ 18))) hi hz Af qu (by rw [List.length_map,mh]; exact Int.lt_add_one_of_le (Int.natCast_nonneg _)) (λv tv C3 v0 v1 k3 m3 AM=>?_);rw [List.length_map,mh] at v1;refine aQ (⟨v.toNat,(Int.toNat_of_nonneg v0).symm⟩:∃ kv:Nat,v=kv) λkv ak=>?_; subst ak
  have Sq:kv≤ivs.length:=Int.ofNat_le.mp (Int.le_of_lt_add_one v1);walk_at "r";refine ic G rfl (by decide) rfl (by decide) ?_;walk_at "r";refine ⟨rl,_,(kv:Int),tv,rfl,AM.rows,by refine ae (List.length_map _) (ae mh ?_); exact Qb h6 (Nat.le_add_left 6 994),rfl,v0,λd0 o0 dl pX AX=>?_⟩;refine ae (Int.toNat_natCast _) (eI List.map_take ?_);have D5:=aB (o:=o0) pX;have D0:=aB (o:=listOf ((as.take kv).map Value.ref).toArray 0) AX;have Nt:cN (upd (upd C3 d0 o0) dl (listOf ((as.take kv).map Value.ref).toArray 0)) dl ((as.take kv).map Value.ref):=⟨0,af _ _ _⟩;have AL:=AM.sub λz o e=>D0 z o (D5 z o e)
  clear D5 D0 pX AX AM k3 m3 AN;generalize upd (upd C3 d0 o0) dl (listOf ((as.take kv).map Value.ref).toArray 0)=C4 at *;have Kq:=AL.rat.take kv;have OA:(ivs.take kv).length=kv:=by rw [List.length_take]; exact Nat.min_eq_left Sq
  have OX:(ivs.take kv).length≤6:=by rw [OA]; exact Qb Sq h6
  have Ml:=Kq.len;refine bO Nt (λa ha=>?_);refine iz.intro (vs:=(as.take kv).map Value.ref) ha (by rw [List.length_map,Ml]; exact Qb OX (by decide))
   (λout rest C'=>(∀ z o,C4 z=some o->C' z=some o)∧∃ outs kZ bV aK,HJ (out=outs.map Value.ref) (aP C' outs kZ) (rest=bV.map Value.ref) (aY C' bV aK) (kZ++aK=ivs.take kv) (outs.length+bV.length≤(as.take kv).length)) ?_ ?_ ?_ ?_
  ·rintro out rest C' ⟨hs,outs,kZ,bV,aK,rfl,-,rfl,-,-,hz⟩;exact ⟨Nt.imp λk e=>hs _ _ e,by simpa using hz⟩
  ·exact ⟨λz9 z8 e=>e,[],[],as.take kv,ivs.take kv,rfl,.nil,rfl,Kq,rfl,by simp⟩
  ·rintro g Lc E' mc C' u rest out G' q0 J hJ;refine gY q0 λhs outs kZ bV aK ak=>?_; clear q0; obtain ⟨rfl,ho,gQ,Sz,hd,hz⟩:=ak
   cases Sz with
   | nil=>cases gQ
   | @cons b jv bs gv hb gR =>
    simp only [List.map_cons,List.cons.injEq] at gQ;refine aS gQ λak aZ=>?_; clear gQ; subst ak; subst aZ
    refine bP hb λtb te td k KC=>?_; clear hb
    refine eJ G' ⟨k,KC⟩ (bc (aW ?_));walk_at "st";refine bc (aW ?_);walk_at "st";refine bc (aW ?_);walk_at "r";refine aE G' ko (λrv C2 q=>?_) (Qe rfl);refine c9 q λx ak xg hx vX=>?_; clear q; subst ak
    have k2:aq (λz9=>0) C' C2:=aq.of_sub vX;walk_at "r";exact ⟨λz o e=>vX _ _ (hs _ _ e),outs++[x],kZ++[jv],bs,gv,by simp,(ho.keep k2).snoc hx,rfl,gR.keep k2,by refine eI hd ?_; simp,by simp only [List.length_append,List.length_cons,List.length_nil] at hz ⊢; exact Qd λq=>Ql (Qa q hz)⟩
  ·rintro D out C' q0 hD;refine gY q0 λhs outs kZ bV aK ak=>?_; clear q0; obtain ⟨rfl,ho,gQ,Sz,hd,hz⟩:=ak
   have has:bV=[]:=List.map_eq_nil_iff.mp gQ.symm;subst has;cases Sz;rw [List.append_nil] at hd;subst hd;have sD:=aB (o:=listOf (outs.map Value.ref).toArray (outs.map Value.ref).length) hD;have EE:=AL.sub λz o e=>sD z o (hs z o e)
   have WL:=ho.keep (aq.of_sub (fp:=λz9=>0) sD);have Hj:cN (upd C' D (listOf (outs.map Value.ref).toArray (outs.map Value.ref).length)) D (outs.map Value.ref):=⟨_,af _ _ _⟩;clear sD hs ho hD AL Kq Ml Nt ha;walk_at "r";have aX:∀ i∈ivs.take kv,i∈ivs:=λi hi=>List.mem_of_mem_take hi
   have FQ:(ivs.take kv).Nodup:=qw.sublist (List.take_sublist _ _);have Oq:∀ i∈ivs.take kv,GH i:=λi hi=>Wr i (aX i hi)
   refine aE G (vm Hj WL OX (vR FQ) (λi hi=>(Oq i hi).2.1) (DM FQ OX Oq)) (λrv C6 q=>?_) (Qe rfl);walk_at "bh";obtain ⟨x,fp,sl6,t,rfl,-,xq,iu,KC,U8,K8,Hf,s6⟩:=q;walk_at "ch";have vW:=EE.sub s6;have Lx:=EE.off Hf;have O6:Tr (ivs.take kv) (ivs.take kv) t (bounds (ivs.take kv)):=Tr.new FQ OX Oq xq iu KC;clear Hf xq iu KC Hj WL s6 EE aX FQ Oq;generalize upd C' D (listOf (outs.map Value.ref).toArray (outs.map Value.ref).length)=C5 at *;walk_at "r";refine ⟨rl,_,(kv:Int),tv,rfl,vW.rows,by refine ae (List.length_map _) (ae mh ?_); exact Qb h6 (Nat.le_add_left 6 994),rfl,v0,λd0 o0 dl pX AX=>?_⟩;rw [Int.toNat_natCast,← List.map_take];have D5:=aB (o:=o0) pX;have D0:=aB (o:=listOf ((as.take kv).map Value.ref).toArray 0) AX;have Xh:cN (upd (upd C6 d0 o0) dl (listOf ((as.take kv).map Value.ref).toArray 0)) dl ((as.take kv).map Value.ref):=⟨0,af _ _ _⟩;have Pg:=vW.sub λz o e=>D0 z o (D5 z o e)
   have U7:=U8.keep (aq.of_sub (fp:=λz9=>0) λz o e=>D0 z o (D5 z o e)) λz9 z8=>rfl
   clear D5 D0 pX AX vW U8;generalize upd (upd C6 d0 o0) dl (listOf ((as.take kv).map Value.ref).toArray 0)=C7 at *;walk_at "r";refine oe G pp.g Pg U7 K8 Lx O6 Xh (Pg.rat.take kv) (λC8 f8 U6 K7 Lw Pf=>?_);clear Pg U7 K8 Lx Xh;walk_at "r";refine bN (by decide) ?_;walk_at "r";refine dU Pf.rows (by refine ae (List.length_map _) (ae mh ?_); exact Nat.lt_of_le_of_lt h6 (by decide)) (λtn2=>?_);refine ae (List.length_map _) (ae mh ?_);walk_at "r";refine se (λra t1 t2 t3 Mr=>?_);walk_at "r";refine iA (af _ _ _) v0 (Int.le_of_not_gt (Int.not_le_of_gt v1)) (Int.ofNat_le.mpr (Qb h6 (by decide))) (λai Ao=>?_);have UH:=Pf.sub (aB (o:=gS kv ivs.length t1 t2 t3) Mr);have U5:=U6.keep (aq.of_sub (fp:=λz9=>0) (aB (o:=gS kv ivs.length t1 t2 t3) Mr)) λz9 z8=>rfl
   clear Pf U6;refine mH (b:=kv) (k:=ivs.length) G Ao (λi m C'=>m "hand"=some (.ref h)∧m "rows"=some (.ref rl)∧m "tree"=some (.ref x)∧∃ f t ue ps,A4 (ee C' h sl rl vs as ivs (b+1)) (g9 P C' x f ue t ps) (∀ z,f z≤1) (Off f h sl rl) (Tr (ivs.take i) ue t ps)) ⟨by walk_at "nm",by walk_at "nm",by walk_at "nm",f8,t,_,_,UH,U5,K7,Lw,O6⟩ Sq ?_ ?_
   ·intro E' i ti m C' Ho hI J hJ;refine dI hI λq1 q2 q3 aZ=>?_; clear hI; refine bP aZ λf t ue ps ak=>?_; clear aZ; obtain ⟨st,it,sep,off,tr⟩:=ak
    refine bx (st.rat.item Ho) λYL HX RH Mq Mo=>?_;refine bP Mq λqb qe qd qk lx=>?_
    obtain ⟨dx,od,a2,fa,v2,ft,d2,hx,bC,hf,-⟩:=id it;have XE:ivs.take (i+1)=ivs.take i++[HX]:=by refine ae List.take_add_one (ae Mo ?_); rfl
    have yn:HX ∉ ivs.take i:=λw=>by
     have h1:(ivs.take (i+1)).Nodup:=qw.sublist (List.take_sublist _ _);rw [XE] at h1;exact (List.nodup_append.mp h1).2.2 HX w HX (.head _) rfl
    have Wo:GH HX:=Wr HX (List.mem_of_getElem? Mo);have CJ:(as.map Value.ref)[((i:Int)).toNat]?=some (.ref YL):=RH;refine aF (tr.add (by rw [List.length_take]; exact Qb (Nat.min_le_left _ _) (Nat.le_of_lt_succ (Nat.lt_of_lt_of_le Ho h6))) yn Wo) λt' mP Kc=>?_;walk_at "r"
    refine gg st.rows (Int.le_trans (Int.le_refl 0) (Int.NonNeg.mk (i+0))) (Int.lt_of_lt_of_le (Int.ofNat_lt.mpr Ho) (Int.le_trans (Int.ofNat_le.mpr h6) (by decide))) CJ ?_;walk_at "r";refine cU (hl:=⟨qk,lx⟩) (by decide) (by decide) (j:=0) (by rfl) (by rfl) ?_;walk_at "r";refine gg st.rows (Int.le_trans (Int.le_refl 0) (Int.NonNeg.mk (i+0))) (Int.lt_of_lt_of_le (Int.ofNat_lt.mpr Ho) (Int.le_trans (Int.ofNat_le.mpr h6) (by decide))) CJ ?_;walk_at "r";refine cU (hl:=⟨qk,lx⟩) (by decide) (by decide) (j:=1) (by rfl) (by rfl) ?_;walk_at "r";refine gg st.rows (Int.le_trans (Int.le_refl 0) (Int.NonNeg.mk (i+0))) (Int.lt_of_lt_of_le (Int.ofNat_lt.mpr Ho) (Int.le_trans (Int.ofNat_le.mpr h6) (by decide))) CJ ?_;walk_at "r";refine cU (hl:=⟨qk,lx⟩) (by decide) (by decide) (j:=2) (by rfl) (by rfl) ?_;walk_at "r";refine aE G ko (λrv C2 q=>?_) (Qe rfl);refine c9 q λxi ak z9 Rj s2=>?_; clear q; subst ak
    have AN:=st.sub s2;have zW:=it.keep (aq.of_sub (fp:=λz9=>0) s2) λz9 z8=>rfl
    clear st it lx Mq hx bC hf s2;walk_at "r";refine aE G (yP zW sep Rj (λw=>yn (tr.iv.mem_iff.mp w)) Wo.2.1 (by have:=tr.ilen; exact Qb this (Nat.le_add_left 6 894)) (by have:=tr.plen; exact Qb this (Nat.le_add_left 12 788)) (by refine ae (jq _) ?_; have:=tr.flen; exact Qb this (Nat.le_add_left 6 994)) mP) (λrv C3 q=>?_) (Qe rfl);refine c9 (q.2.law AN off) λf3 FE Pk PN AM=>?_;clear AN zW sep off q tr mP
    rw [← XE] at Kc;walk_at "r";refine ⟨rl,_,((i:Int)+1),_,rfl,AM.rows,by refine ae (List.length_map _) (ae mh ?_); exact Qb h6 (Nat.le_add_left 6 994),rfl,by exact Int.le_trans (Int.le_refl 0) (Int.NonNeg.mk (i+1+0)),λd0 o0 dl pX AX=>?_⟩;refine ae (show ((i:Int)+1).toNat=i+1 from rfl) (eI List.map_take ?_);have D5:=aB (o:=o0) pX;have D0:=aB (o:=listOf ((as.take (i+1)).map Value.ref).toArray 0) AX;have Nt:cN (upd (upd C3 d0 o0) dl (listOf ((as.take (i+1)).map Value.ref).toArray 0)) dl ((as.take (i+1)).map Value.ref):=⟨0,af _ _ _⟩;have AL:=AM.sub λz o e=>D0 z o (D5 z o e)
    have P_:=FE.keep (aq.of_sub (fp:=λz9=>0) λz o e=>D0 z o (D5 z o e)) λz9 z8=>rfl
    clear D5 D0 pX AX AM FE;generalize upd (upd C3 d0 o0) dl (listOf ((as.take (i+1)).map Value.ref).toArray 0)=C4 at *;walk_at "r";refine oe G pp.g AL P_ Pk PN Kc Nt (AL.rat.take (i+1)) (λC5 f5 P9 HU Ia EE=>?_);walk_at "r";refine bN (by decide) ?_;walk_at "r";exact ⟨by walk_at "nm",by walk_at "nm",by walk_at "nm",f5,t',_,_,EE,P9,HU,Ia,Kc⟩
   ·intro E' m C' hI;refine dI hI λq1 q2 q3 aZ=>?_; clear hI; refine bP aZ λf t' ue ps ak=>?_; clear aZ; obtain ⟨st,it,sep,off,tr⟩:=ak
    rw [List.take_length] at tr;walk_at "r";refine xW (λj m C'=>m "hand"=some (.ref h)∧m "rows"=some (.ref rl)∧m "tree"=some (.ref x)∧∃ as ivs,∃ b:Int,∃ f t ue ps,ud (j=ivs.length) (b+j≤30) (ee C' h sl rl vs as ivs b) (g9 P C' x f ue t ps)∧(∀ z,f z≤1)∧Off f h sl rl∧Tr ivs ue t ps) ivs.length ⟨q1,q2,q3,as,ivs,b+1,f,t',ue,ps,⟨rfl,by exact Int.le_of_not_gt λq9=>absurd (Int.add_le_add (Int.add_one_le_of_lt q9) (Int.add_le_add fC (Int.ofNat_le.mpr h6))) (by simp +arith only [Int.reduceNeg,not_false_eq_true,Int.reducePow,Int.natCast_add,Int.cast_ofNat_Int,Int.natCast_one]),st,it⟩,sep,off,tr⟩ (λE j m C' hI J hJ=>?_);clear q1 q2 q3 st it sep off tr Lw K7 O6 UH U5 Mr Ao;refine dI hI λq1 q2 q3 aZ=>?_; clear hI; refine bL aZ λas ivs b f t gw=>?_; clear aZ; refine cL gw λue ps ak sep off tr=>?_; clear gw; obtain ⟨rfl,Te,st,it⟩:=ak
    walk_at "r";refine bH (vs:=[]) (λe0 WZ=>?_) (by simp [sizeLine_eq]);have s0:=aB (o:=listOf ([]:List Value).toArray 0) WZ;have MT:cN (upd C' e0 (listOf ([]:List Value).toArray 0)) e0 (([]:List Addr).map Value.ref):=⟨0,af _ _ _⟩;have Bb:=st.sub s0;have U9:=it.keep (aq.of_sub (fp:=λz9=>0) s0) λz9 z8=>rfl
    clear st it s0 WZ;generalize upd C' e0 (listOf ([]:List Value).toArray 0)=C0' at *;walk_at "r";refine oz G Bb.rows Bb.rat MT .nil ?_ (Qe rfl);walk_at "r";have h6:=tr.len;have mh:=Bb.rat.len;by_cases yz:ivs=[]
    ·refine bN (by simp [yz]) ?_;walk_at "r";exact ⟨rfl,Bb.ex,Bb.tab⟩
    ·have o_:0 < ivs.length:=List.length_pos_iff.mpr yz;refine cq (by simp [yz]) ?_;walk_at "r";refine fO Bb.rows ?_;walk_at "r";refine dU Bb.rows (by refine ae (List.length_map _) (ae mh ?_); exact Nat.lt_of_le_of_lt h6 (by decide)) (λtn=>?_);walk_at "r";refine lZ G Bb (Int.le_trans (Int.le_trans (Int.le_add_of_nonneg_right (Int.natCast_nonneg _)) Te) (by decide)) hi Rf Af qu (by refine ae (List.length_map _) (ae mh ?_); exact Int.ofNat_lt.mpr o_) (λv tv C1 v0 v1 k1 m1 DZ=>?_);rw [List.length_map,mh] at v1;refine aQ (⟨v.toNat,(Int.toNat_of_nonneg v0).symm⟩:∃ kv:Nat,v=kv) λkv ak=>?_; subst ak
     have Kj:=U9.keep k1 λz w=>aG λe=>w (e▸off.1)
     clear Bb U9 k1 m1 MT;refine bL (DZ.rat.split (i:=kv) (Int.ofNat_lt.mp v1)) λpa ra qa p HX gw=>?_; refine cW gw λq ak aZ e1 Mn lx z9=>?_; clear gw; subst ak; subst aZ
     refine aQ (id DZ.rows) λkr FX=>?_;refine bP lx λqb qe qd qk Hb=>?_
     refine cL tr.rem λt' fb mP c1 c2 Kc=>?_;rw [List.map_append,List.map_cons] at FX
     walk_at "r";refine EN FX (ae (List.length_map _) (ae e1 rfl)) (by refine eI List.map_cons (eI List.map_append (ae (List.length_map _) (ae mh ?_))); exact Qb h6 (Nat.le_add_left 6 994)) ?_;refine eI List.map_append ?_;have k2:aq (one rl) C1 (upd C1 rl (listOf ((pa++qa).map Value.ref).toArray (kr+1))):=aq.refl.upd (by refine ae (aj _) ?_; decide) λo' e=>by replace e:=eG FX e; subst e; exact dX
     have FL:rl≠67:=λw=>by
      refine bx DZ.tab λo ps e' hd z9=>?_;rw [← w] at e'; replace e':=eG FX e'; subst e'; injection hd
     have AN:ee (upd C1 rl (listOf ((pa++qa).map Value.ref).toArray (kr+1))) h sl rl vs (pa++qa) (p++q) (b+1):=by
      refine ⟨?_,DZ.scr.keep k2 (aG FO),DZ.tab.upd FL,⟨kr+1,af _ _ _⟩,Mn.keep k2,k2 _ _ DZ.ex (.inr (aG FO))⟩;refine fJ DZ.hand λkk tk n a1 a2 e=>?_;exact ⟨kk,tk,n,a1,a2,k2 _ _ e (.inr (aG qu))⟩
     have zW:=Kj.keep k2 λz w=>aG λe=>w (e▸off.2.2.1)
     have Ha:=k2 _ _ Hb (.inl (yj _ _));clear DZ Kj k2 FX lx Hb Mn FL;generalize upd C1 rl (listOf ((pa++qa).map Value.ref).toArray (kr+1))=C2 at *;walk_at "r";refine eJ G ⟨qk,Ha⟩ (bc (aW ?_));walk_at "st";refine bc (aW ?_);walk_at "st";refine bc (aW ?_);walk_at "bh";obtain ⟨dx,od,a2,fa,v2,ft,d2,hx,bC,hf,-⟩:=id zW;walk_at "ch";walk_at "r";refine aE G ko (λrv C3 q=>?_) (Qe rfl);refine c9 q λxi ak z9 Rj s3=>?_; clear q; subst ak
     have AM:=AN.sub s3;have FE:=zW.keep (aq.of_sub (fp:=λz9=>0) s3) λz9 z8=>rfl
     clear AN zW hx bC hf s3 Ha;walk_at "r";refine aE G (yM FE sep Rj (tr.iv.mem_iff.mpr (List.mem_append_right _ (.head _))) (by have:=tr.ilen; exact Qb this (Nat.le_add_left 6 894)) (by have:=tr.plen; exact Qb this (Nat.le_add_left 12 788)) mP c1 c2) (λrv C4 q=>?_) (Qe rfl);refine c9 (q.2.law AM off) λf4 P_ Pj PM AL=>?_;clear AM FE sep off q tr mP c1 c2
     walk_at "r";refine oe G pp.g AL P_ Pj PM Kc AL.rows AL.rat (λC5 f5 P9 HU Ia EE=>?_);walk_at "r";refine bN (by decide) ?_;walk_at "r";rw [List.length_append,List.length_cons] at Te;exact ⟨(p++q).length,by simp only [List.length_append,List.length_cons]; exact Qb (Nat.le_refl (p.length+q.length).succ) (Nat.le_refl (p.length+q.length).succ),by walk_at "nm",by walk_at "nm",by walk_at "nm",pa++qa,p++q,b+1,f5,t',_,_,⟨rfl,by refine ae List.length_append ?_; exact Int.le_of_not_gt λq9=>absurd (Int.add_le_add (Int.add_one_le_of_lt q9) Te) (by simp +arith only [Int.reduceNeg,not_false_eq_true,Int.reducePow,Int.natCast_add,Int.cast_ofNat_Int,Int.natCast_one]),EE,P9⟩,HU,Ia,Kc⟩
end
section
variable {P:e_}
noncomputable def yG (bs:List Addr) (h:Heap):Prop:=∀ b∈bs,∃ o,h.get? b=some o∧(o=tabObj #[]∨∃ FC,o=listOf FC 0)
section
variable {bs:List Addr}{h ek:Heap}{L:Addr}{p:Program}{loose:List Str}{zD:ExcName->Option Value}{mg mb m:Loc}
theorem yw {b:Addr}{o:Obj} (hT:yG bs h) (e:h.get? b=some o) (h1:o≠tabObj #[]) (h2:∀ FC,o≠listOf FC 0):(hideAll h bs).get? b=some o:=hideAll_get _ e λq=>by
 refine aF (hT b q) λo' e' w=>?_;replace e':=eG e e'; subst e'
 rcases w with w | ⟨FC,w⟩
 ·exact h1 w
 ·exact h2 FC w
theorem tL {a:Addr}{mm:Loc} (hT:yG bs h) (x:h.Ns a mm):(hideAll h bs).Ns a mm :=
 let ⟨o,es,ep,e,hd,r⟩:=x; ⟨o,es,ep,yw hT e (λq=>by rw [q] at hd; injection hd) (λFC q=>by rw [q] at hd; injection hd),hd,r⟩
theorem F3 (hT:yG bs h) (T:Top p loose zD mg mb h) :
  Top topProg (loose++(recsOf p).map (·.name)++(litsOf p).map (·.1)++(clssOf p loose).map (·.name)) zD mg mb (hideAll h bs) where
 g:=tL hT T.g
 b:=tL hT T.b
 nolimit:=let ⟨mc,a,r⟩:=T.nolimit; ⟨mc,tL hT a,r⟩
 nodigits:=let ⟨mc,a,r⟩:=T.nodigits; ⟨mc,tL hT a,r⟩
 fn:=λd hd=>absurd (show d∈([]:List DefRec) from hd) List.not_mem_nil
 own:=λo ho=>absurd (show o∈([]:List OwnSpec) from ho) List.not_mem_nil
 const:=λx d e=>by exact iO ((show (none:Option PyData)=some d from e))
 free:=λx h1 h2 z9 z8 z7=>T.free x h1 (λq=>h2 (List.mem_append_left _ (List.mem_append_left _ (List.mem_append_left _ q))))
  (λq=>h2 (List.mem_append_left _ (List.mem_append_left _ (List.mem_append_right _ q)))) (λq=>h2 (List.mem_append_left _ (List.mem_append_right _ q))) λq=>h2 (List.mem_append_right _ q)
 builtins:=T.builtins
 tab:=λd hd=>absurd (show d∈([]:List DefRec) from hd) List.not_mem_nil
 bmain:=let ⟨bm,ob,a1,a2,a3,a4,a5,a6⟩:=T.bmain; ⟨bm,ob,a1,a2,yw hT a3 (λq=>by rw [q] at a4; injection a4) (λFC q=>by rw [q] at a6; injection a6),a4,a5,a6⟩
 seer:=λe=>absurd (show false=true from e) Bool.false_ne_true
theorem Js (F:Fr h L ek m):Fr (hideAll h bs) L ek m:=⟨F.ns,λb o e=>F.keep b o (of_hideAll _ e),Qb (Qc (hideAll_size _ _)) F.above⟩
end
theorem f_:∀ {K:Frag}{q:Addr×Obj},q∈oQ K->q∈K∧q.1≠67∧q.1≠434
 | [],_,h=>by cases h
 | p::r,q,h=>by
  unfold oQ at h;split at h
  ·exact ⟨.tail _ (f_ h).1,(f_ h).2⟩
  ·rename_i w;rcases List.mem_cons.mp h with rfl | h
   ·simp only [Bool.or_eq_true,beq_iff_eq,not_or] at w;exact ⟨.head _,w⟩
   ·exact ⟨.tail _ (f_ h).1,(f_ h).2⟩
theorem ij:∀ {K:Frag}{a:Addr}{o:Obj},(oQ K).lookup a=some o->K.lookup a=some o
 | [],_,_,h=>h
 | p::r,a,o,h=>by
  have hm:=f_ (mem_of_lookupK h);unfold oQ at h;refine ae List.lookup_cons ?_;split at h
  ·rename_i w;have:(a == p.1)=false:=by
    refine ae (propext beq_eq_false_iff_ne) ?_;intro e;simp only [Bool.or_eq_true,beq_iff_eq] at w;rw [← e] at w;exact w.elim hm.2.1 hm.2.2
   refine ae this ?_;exact ij h
  ·rw [List.lookup_cons] at h;cases hb:a == p.1 with
   | true=>rw [hb] at h; exact h
   | false=>rw [hb] at h; exact ij h
noncomputable def BJ (K:Frag):Bool:=K.all λp=>match p.2.cls,p.2.data with
 | .type n,.seq _ _=>!(n == ("list":Str))
 | _,_=>true
theorem Cs:BJ (KK P)=true:=by kernel_rfl
theorem Jt {sl:Addr}{FC:Array Value}{h:Heap} (iu:h.get? sl=some (listOf FC 0)) (X:(kf P.w.params).In h):(KK P).In (hideAll h [67,434,sl]):=λa o e=>by
 have hm:=List.all_eq_true.mp Cs (a,o) (mem_of_lookupK e);have hk:=(f_ (mem_of_lookupK e)).2;have hx:=X a o (ij e);refine hideAll_get _ hx λw=>?_;rcases List.mem_cons.mp w with w | w
 ·exact hk.1 w
 rcases List.mem_cons.mp w with w | w
 ·exact hk.2 w
 rcases List.mem_singleton.mp w with rfl;rw [iu] at hx;replace hx:=Option.some.inj hx; subst hx;have:(!(("list":Str) == ("list":Str)))=true:=hm;simp at this
theorem B9:mz dD.P:=by
 obtain ⟨oc,od,name,qual,params,body,scope,dV,kV,doc,pm,an,eN,ct,xY,hl,hg⟩:=B_;have e:fnAt (KK dD.P) 897=(body,qual,scope):=by unfold fnAt; exact ae hl rfl
 unfold mz;refine ae e ?_; exact @hg
noncomputable abbrev ur:List (Addr×Addr):=[(71,67),(438,434)]
theorem Fh {w:World}{aC:Shared}{p:Program}{loose:List Str}{zD:ExcName->Option Value}{mg mb:Loc}{fa:Addr}{cd:Value}{ek:Heap}{tk:Tok}{sl:Addr}{vs:List Value}{ns:List Int}{body:List Stmt}{qual:Str}{scope:Scope}{E:Value->Shared->Prop}
  (T:Top p loose zD mg mb aC.heap) (KX:(kf w.params).In aC.heap) (hg:aC.gens=#[]) (F:Fr aC.heap aC.heap.objs.size ek (λx=>[(("script":Str),Value.ref sl)].reverse.lookup x)) (iu:aC.heap.get? sl=some (listOf vs.toArray 0)) (hI:IntsAre vs ns) (hz:ns.length≤63)
  (hfn:∀ P:e_,fnAt (KK P) 897=(body,qual,scope)) (hk:scope.kind=.function) :
  wpAny (model PySem.Challenge.pw_jr0008_02 w) (callerA.deeper (envOf qual scope aC.heap.objs.size fa cd)) (execs body (envOf qual scope aC.heap.objs.size fa cd))
   (λf s'=>f=.ret (.bool true)∧(∀ b o,(ghostOf aC.heap ur).get? b=some o->s'.heap.get? b=some o)∧s'.os=aC.os∧AllBare s'.gens∧GrownAll ur s'.heap) E
   { heap:=ek,gens:=aC.gens,drawn:=aC.drawn,toks:=tk,os:=aC.os }:=by
 have Ar:aC.heap.get? 67=some (tabObj #[]):=KX 67 _ (by kernel_rfl);have Gk:aC.heap.get? 434=some (tabObj #[]):=KX 434 _ (by kernel_rfl);have n1:sl≠67:=λe=>by rw [e] at iu; replace iu:=eG Ar iu; refine dI (PySem.Obj.mk.inj iu) λkE j0 XI XH=>?_; clear iu; injection kE
 have n2:sl≠434:=λe=>by rw [e] at iu; replace iu:=eG Gk iu; refine dI (PySem.Obj.mk.inj iu) λkE j0 XI XH=>?_; clear iu; injection kE
 have hT:yG [67,434,sl] aC.heap:=by
  intro b hb;rcases List.mem_cons.mp hb with rfl | hb
  ·exact ⟨_,Ar,.inl rfl⟩
  rcases List.mem_cons.mp hb with rfl | hb
  ·exact ⟨_,Gk,.inl rfl⟩
  rcases List.mem_singleton.mp hb with rfl;exact ⟨_,iu,.inr ⟨_,rfl⟩⟩
 let P:e_:={ w:=w,os:=aC.os,dr:=aC.drawn,gn:=AllBare,tb:=λa=>a == 434,tq:=λline z9=>if line=317 then "Node.pop_greatest_child.<locals>.<lambda>" else "Node.pop_greatest_child.<locals>.get_new_s_center",cd:=λz9=>none,loose:=loose++(recsOf p).map (·.name)++(litsOf p).map (·.1)++(clssOf p loose).map (·.name),mg:=mg,mb:=mb }
 haveI:jl P:=⟨rfl,rfl,rfl,rfl,rfl⟩
 have Tb:=F3 hT T;have Xb:(KK P).In (hideAll aC.heap [67,434,sl]):=Jt (P:=P) iu KX;have Fb:=Js (bs:=[67,434,sl]) F;have G:Gd (S2 P) 300 (callerA.deeper (envOf qual scope aC.heap.objs.size fa cd)) (hideAll aC.heap [67,434,sl]) aC.heap.objs.size (envOf qual scope aC.heap.objs.size fa cd) :=
  ⟨Xb,topRead_of Tb,hk,by show 1+claimMargin+1+2 * 300 < recursionLimit; decide,by show 4+3+8 * 300 < cLine; decide,rfl,rfl,rfl,rfl⟩
 have Dc:nU P body qual scope:=by
  have:nU P _ _ _:=Fi B9 P;rw [hfn P] at this;exact @this
 let C:Led:=λa=>if a=sl then some (listOf vs.toArray 0) else if a=67 then some (tabObj #[]) else none
 let D:Led:=λa=>if a=434 then some (tabObj #[]) else none
 let F0:Led:=λz9=>none
 have c1:C sl=some (listOf vs.toArray 0):=if_pos rfl;have c2:C 67=some (tabObj #[]):=(if_neg (Ne.symm n1)).trans (if_pos rfl);have c3:D 434=some (tabObj #[]):=if_pos rfl;have jD:join F0 D=D:=by funext a; show (none:Option Obj).or (D a)=D a; rfl
 have mf:g_ C D:=λa=>by
  by_cases e:a=434
  ·exact .inl ((if_neg (by refine ae e ?_; exact Ne.symm n2)).trans (if_neg (by refine ae e ?_; decide)))
  ·exact .inr (if_neg e)
 have w:=Dc (E:=E) G c1 hI hz ⟨_,_,c2,rfl,trivial,rfl⟩ _ ⟨λz9 z8 z7 q=>q⟩;have gk:∀ {a:Addr}{o:Obj},aC.heap.get? a=some o->a≠aC.heap.objs.size:=λe=>Nat.ne_of_lt (Heap.lt_size e)
 have hR:bR (S2 P) (hideAll aC.heap [67,434,sl]) aC.heap.objs.size (λx=>[(("script":Str),Value.ref sl)].reverse.lookup x) C (join F0 D) { heap:=ek,gens:=aC.gens,drawn:=aC.drawn,toks:=tk,os:=aC.os }:=by
  refine ae jD ?_;refine ⟨⟨Fb,λa o e=>?_,?_,rfl,rfl⟩,mf⟩
  ·by_cases e1:a=sl
   ·subst e1;have:some (listOf vs.toArray 0)=some o:=(aI c1).symm.trans e;replace this:=Option.some.inj this; subst this;exact ⟨F.keep _ _ iu,gk iu,hideAll_none _ (by simp)⟩
   by_cases e2:a=67
   ·subst e2;have:some (tabObj #[])=some o:=(aI c2).symm.trans e;replace this:=Option.some.inj this; subst this;exact ⟨F.keep _ _ Ar,gk Ar,hideAll_none _ (by simp)⟩
   by_cases e3:a=434
   ·subst e3;have:some (tabObj #[])=some o:=(aT mf c3).symm.trans e;replace this:=Option.some.inj this; subst this;exact ⟨F.keep _ _ Gk,gk Gk,hideAll_none _ (by simp)⟩
   ·have:join C D a=none:=by
     show (C a).or (D a)=none;refine ae (show C a=none from (if_neg e1).trans (if_neg e2)) (ae (show D a=none from if_neg e3) ?_); rfl
    exact bo this e
  ·exact .of_eq hg
 have Tp:t9 (S2 P) D:=⟨λa e=>?_,λa o e=>by exact iO e⟩
 ·refine wpAny_mono (w.go F0 _ ⟨D,Tp,λa=>.inl rfl,hR⟩) (λf s' z=>?_) (λz9 z8 e=>e);obtain ⟨m',C',⟨T',tb,dj,R'⟩,q1,q2,o,ps,e,-,-,rfl⟩:=z;refine aF (tb.t 434 rfl) λYN e3 z9=>?_;have g1:=R'.get q2
  have g2:=R'.get e;have g3:=(R'.r.N 434 _ (aT R'.d (aT dj e3))).1;refine ⟨q1,λb o e=>?_,R'.r.o.1,R'.r.g,⟨ps,g2⟩,⟨YN,g3⟩,trivial⟩;by_cases e1:b=sl
  ·subst e1;have:=of_hideAll _ e;replace this:=eG iu this; subst this;exact g1
  ·refine R'.r.F.keep b o (hideAll_get _ (of_hideAll _ e) λhm=>?_);rcases List.mem_cons.mp hm with rfl | hm
   ·have g:=hideAll_none (ur.map (·.2)) (h:=aC.heap) (b:=67) (by decide);exact bo g e
   rcases List.mem_cons.mp hm with rfl | hm
   ·have g:=hideAll_none (ur.map (·.2)) (h:=aC.heap) (b:=434) (by decide);exact bo g e
   exact e1 (List.mem_singleton.mp hm)
 ·have e2:(a == 434)=true:=e;have e':a=434:=by simpa using e2
  exact ⟨#[],by refine ae e' ?_; exact c3,trivial,λz9 z8 h=>by exact iO h⟩
theorem BO {M:Model}{A:Around}{cd:Code}{s aC:Shared}{cw:ClaimW}{cl:Str->Option Addr}{zD:ExcName->Option Value}{args:List WData}{tabs:List (Addr×Addr)} (hT:TabsAt tabs aC.heap) (hr:∀ a x,cw.raises a x=false) (hp:cw.post args (.bool true) args=true)
  (h:codeAny M A cd (λr s'=>r=.ok (.ret (.bool true))∧(∀ b o,(ghostOf aC.heap tabs).get? b=some o->s'.heap.get? b=some o)∧s'.os=aC.os∧AllBare s'.gens∧GrownAll tabs s'.heap) s):codeAny M A cd (GoodWG cw cl zD args aC) s :=
 codeAny_mono h λr s' ⟨hc,hk,I8,hg,hgr⟩=>by
  have keep:∀ b o,b ∉ tabs.map (·.2)->aC.heap.get? b=some o->s'.heap.get? b=some o:=λb o hb e=>hk b o (ghost_ne e hb)
  have grown:∀ b o,b∈tabs.map (·.2)->aC.heap.get? b=some o->isCodeTable aC.heap b∧o=tabObj #[]∧∃ ps,s'.heap.get? b=some (tabObj ps):=λb o hb e=>by
   refine aF (List.mem_map.mp hb) λq hq ak=>?_; subst ak
   have e2:=(hT q hq).2;rw [e] at e2;exact ⟨((hT q hq).1.tab (hT q hq).2).isCodeTable,Option.some.inj e2,hgr.get q hq⟩
  refine ⟨.inl ⟨.bool true,.bool true,[],hc,hr _,.bool true,hp,λz9=>⟨.nil,nofun⟩⟩,⟨λb o e=>?_,λb o e=>?_⟩,I8,hg⟩
  ·by_cases hb:b∈tabs.map (·.2)
   ·refine bw (grown b o hb e) λht ak aZ=>?_; refine aQ aZ λps hP=>?_; clear aZ; subst ak
    exact .inr (.inl ⟨ht,rfl,#[],ps,rfl,by refine ae Array.empty_append ?_; exact hP⟩)
   ·exact .inl (keep b o hb e)
  ·by_cases hb:b∈tabs.map (·.2)
   ·refine bw (grown b o hb e) λz9 z8 ak=>?_; refine aQ ak λps hP=>?_; clear ak
    exact ⟨_,hP⟩
   ·exact ⟨o,keep b o hb e⟩
end
end
theorem yK {P:Params}{h:Heap}{a:Addr}{vs:List Value}{xs:List WData} (w:Well P h (.ref a) (.list xs)) (hL:h.IsList a vs.toArray):h.get? a=some (listOf vs.toArray 0):=by
 cases w with
 | list e _ =>
  refine bF hL λo e' z9 ak=>?_; clear hL; refine aQ ak λn hd=>?_; clear ak
  rw [e] at e'; cases e';injection hd with h1;rw [e,h1]
theorem cw_holds:PySem.Challenge.rw_jr0008_02.Holds:=hd (by
 k_fill
 intro w bD aC mg mb G Y fa o pm cd doc dV kV ho hd iJ hD hmg hg args vals as xo Jj RG Kn Hj;have KX:(kf w.params).In aC.heap:=kIn_of Y;have hT9:TabsAt ur aC.heap:=List.forall_mem_cons.mpr ⟨⟨codeHd_of_K (c:=71) (P:=67) KX (by kernel_rfl),KX 67 _ (by kernel_rfl)⟩,List.forall_mem_cons.mpr ⟨⟨codeHd_of_K (c:=438) (P:=434) KX (by kernel_rfl),KX 434 _ (by kernel_rfl)⟩,λz9 h=>nomatch h⟩⟩;have X:=(Ground.X G).1;have V:=(Ground.X G).2;refine Ground.open G ?_;intro T B D TE TW;try (refine guard_noD D (by decide +kernel) ?_; clear D)
 clear hmg
 wrow_args xo Jj RG Kn Hj
 all_goals (
  first | refine callC_kw (enter_call ?_) | refine enter_call ?_
  w_top on
  refine BO hT9 (λz9 z8=>rfl) (by kernel_rfl) ?_
  w_call any ho hd iJ hD T F
  clear hd)
 rename Well _ _ _ _=>ww
 rename Heap.IsList _ _ _=>hl
 rename IntsAre _ _=>hi
 rename ¬ _ < _=>hc
 refine wpAny_mono (Fh T KX hg (by assumption) (yK ww hl) hi (by exact Int.ofNat_le.mp (Int.le_of_not_gt λq9=>absurd (Int.add_le_add (Int.add_one_le_of_lt q9) (Int.le_of_not_gt hc)) (by simp +arith only [Int.reduceNeg,not_false_eq_true,Int.reducePow,Int.natCast_add,Int.cast_ofNat_Int,Int.natCast_one]))) (λP=>by kernel_rfl) rfl) (λf s' h=>?_) (λz9 z8 e=>e);refine d9 h λak h1 h2 h3 h4=>?_; clear h; subst ak
 exact ⟨rfl,h1,h2,h3,h4⟩)
end dD
theorem PySem.Challenge.cw_jr0008_02_holds : PySem.Challenge.rw_jr0008_02.Holds := by
 exact dD.cw_holds
