import PyProof.Rows.All
import Wide.All
import OpenK.AllK
import Wide.FinOn
import Lean
import PySem.Challenge.RW_ta0062_01
set_option Elab.async false
set_option linter.unusedVariables false
set_option linter.unusedSimpArgs false
open PySem PySem.W PyProof.Rows
namespace Mine
set_option maxRecDepth 100000
noncomputable abbrev pg : Program := PySem.Challenge.rw_ta0062_01.row.prog
noncomputable section
noncomputable def stAt (i : Nat) : Stmt := (pg.main.body[i]?).getD default
noncomputable def cutF : Str := "/claim/cut.py"
noncomputable def tup0 : Obj := { cls := .type "tuple",data := .seq (Array.mk []) 0 }
noncomputable def fld0 : Obj := { cls := .none,data := .fields (Array.mk []) }
noncomputable def toksOf : Nat → List Str → List Value
 | _,[] => []
 | t,x :: r => .str x t :: toksOf (t + 1) r
noncomputable def nmOf : Stmt → Str
 | .FunctionDef n .. => n
 | .Assign [.Name x _] .. => x
 | _ => default
noncomputable def funO (cls dv md cd : Value) (g : Nat) : Stmt → Obj
 | .FunctionDef n a b _ _ _ sc _ _ _ => { cls := cls,data := .func { name := n,qualname := n,params := a,body := .stmts b,scope := sc,globals := g,closure := [],defaults := dv,kwdefaults := .none,pyModule := md,code := cd } }
 | _ => default
noncomputable def locs : Stmt → List Str
 | .FunctionDef _ _ _ _ _ _ sc _ _ _ => (sc.names.filter fun p => match p.2 with | .local => true | _ => false).map (·.1)
 | _ => []
noncomputable def lineOf : Stmt → Nat
 | .FunctionDef _ _ _ _ _ _ _ _ _ p => p.line
 | _ => 0
noncomputable def codeO (s : Stmt) (l t a m : Nat) (n : Nat) (x y z : Value) : Obj :=
 { cls := .type "code",data := .fields (Array.mk [.str (nmOf s) t,.str (nmOf s) (t + 1),.str cutF (t + 2),.int l 0,.int n 0,.int 0 0,.int 0 0,.int 3 0,.ref a,.bool true,.int 181 0,.ref (a + 1),.none,x,y,z,.int m 0,.int l 0,.str cutF (m + 1)]) }
noncomputable def defO (i a t n l m : Nat) (f : Bool) (md dv : Value) : List Obj := match f with
 | true => [tup0,fld0,{ cls := .type "tuple",data := .seq (Array.mk (toksOf (t + 3) (locs (stAt i)))) 0 },tup0,funO .none .none .none .none 0 (stAt i),
   codeO (stAt i) l t a m n (.ref (a + 2)) (.ref (a + 3)) (.ref (a + 4)),funO (.type "function") dv md (.ref (a + 5)) 3 (stAt i)]
 | false => [tup0,fld0,funO .none .none .none .none 0 (stAt i),codeO (stAt i) l t a m n .none .none (.ref (a + 2)),funO (.type "function") dv md (.ref (a + 3)) 3 (stAt i)]
noncomputable def md0 : Value := .str "cpy313.traceback" 187
noncomputable def md1 : Value := .str "cpy313.dis" 223
noncomputable def md2 : Value := .str "cpy313.operator" 275
noncomputable def md3 : Value := .str "cpy313.token" 350
noncomputable def md4 : Value := .str "law_ta0062_01" 570
noncomputable def flagO : Obj := { cls := .type "dict",data := .dict (Array.mk [⟨1,.int 1 225,.str "OPTIMIZED" 226⟩,⟨2,.int 2 227,.str "NEWLOCALS" 228⟩,⟨4,.int 4 229,.str "VARARGS" 230⟩,⟨8,.int 8 231,.str "VARKEYWORDS" 232⟩,⟨16,.int 16 233,.str "NESTED" 234⟩,⟨32,.int 32 235,.str "GENERATOR" 236⟩,⟨64,.int 64 237,.str "NOFREE" 238⟩,⟨128,.int 128 239,.str "COROUTINE" 240⟩,⟨256,.int 256 241,.str "ITERABLE_COROUTINE" 242⟩,⟨512,.int 512 243,.str "ASYNC_GENERATOR" 244⟩]) 10 }
noncomputable def strE (P : Params) (x : Str) (t : Nat) (v : Value) : DictEntry := ⟨PyData.keyHash P x,.str x t,v⟩
noncomputable def exE (P : Params) : List DictEntry := [("!",452,54),("!=",454,28),("%",456,24),("%=",458,40),("&",460,19),("&=",462,41),("(",464,7),(")",466,8),("*",468,16),("**",470,35),("**=",472,46),("*=",474,38),("+",476,14),("+=",478,36),(",",480,12),("-",482,15),("-=",484,37),("->",486,51),(".",488,23),("...",490,52),("/",492,17),("//",494,47),("//=",496,48),("/=",498,39),(":",500,11),(":=",502,53),(";",504,13),("<",506,20),("<<",508,33),("<<=",510,44),("<=",512,29),("=",514,22),("==",516,27),(">",518,21),(">=",520,30),(">>",521,34),(">>=",522,45),("@",523,49),("@=",524,50),("[",525,9),("]",526,10),("^",527,32),("^=",528,43),("{",529,25),("|",530,18),("|=",531,42),("}",532,26),("~",533,31)].map fun (x : String × Nat × Nat) => strE P (Str.ofString x.1) x.2.1 (.int x.2.2 (340 + 2 * x.2.2))
noncomputable def tabO (l : List DictEntry) (n : Nat) : Obj := { cls := .type "dict",data := .dict (Array.mk l) n }
noncomputable def codeM : Obj := { cls := .type "code",data := .fields (Array.mk [.str "<module>" 182,.str "<module>" 183,.str cutF 184,.int 1 0,.int 0 0,.int 0 0,.int 0 0,.int 0 0,.ref 11,.bool false,.int 181 0,.ref 12,.none,.none,.none,.none,.int 185 0,.int 1 0,.str cutF 186]) }
noncomputable def frameM : Obj := { cls := .type "frame",slots := Array.mk [some (.ref 13),some (.ref 3),some (.ref 3),none,some (.str "__main__" 164),none,some (.ref 0)] }
noncomputable def kid (i c : Nat) : List Value := [.int (lineOf (stAt i)) 0,.int 0 0,.ref c]
noncomputable def kids : List (Nat × Nat) := [(4,20),(5,27),(8,35),(9,42),(11,49),(12,56),(13,63),(14,70),(15,77),(16,84),(17,91),(18,99),(71,109),(72,116),(73,123),(75,130),(76,137),(77,144),(78,151),(79,156),(80,161),(81,166),(82,171),(83,178),(84,185),(85,192),(86,197),(87,202),(88,207),(89,214),(90,219)]
noncomputable def kidsO (n : Nat) : Obj := { cls := .none,data := .fields (Array.mk ((kids.take n).flatMap fun x => kid x.1 x.2)) }
noncomputable def entsFix (P : Params) (nv : Value) : List DictEntry := [strE P "__name__" 165 nv,strE P "__doc__" 166 .none,strE P "__package__" 167 .none,strE P "__loader__" 168 (.builtin "__main__.__loader__#opaque"),strE P "__spec__" 169 .none,strE P "__annotations__" 170 (.ref 6),strE P "__builtins__" 171 (.ref 4),strE P "__file__" 173 (.str cutF 172),strE P "__cached__" 174 .none]
noncomputable def names : List (String × Nat × Value) := [("_MAX_STRING_SIZE",190,.int 40 189),("_MOVE_COST",192,.int 2 191),("_CASE_COST",194,.int 1 193),("_substitution_cost",202,.ref 21),("_levenshtein_distance",222,.ref 28),("COMPILER_FLAG_NAMES",255,.ref 29),("pretty_flags",265,.ref 36),("_parse_varint",274,.ref 43),("eq",284,.ref 50),("lshift",292,.ref 57),("or_",300,.ref 64),("concat",309,.ref 71),("countOf",319,.ref 78),("getitem",327,.ref 85),("indexOf",337,.ref 92),("length_hint",349,.ref 100),("ENDMARKER",353,.int 0 352),("LPAR",355,.int 7 354),("RPAR",357,.int 8 356),("LSQB",359,.int 9 358),("RSQB",361,.int 10 360),("COLON",363,.int 11 362),("COMMA",365,.int 12 364),("SEMI",367,.int 13 366),("PLUS",369,.int 14 368),("MINUS",371,.int 15 370),("STAR",373,.int 16 372),("SLASH",375,.int 17 374),("VBAR",377,.int 18 376),("AMPER",379,.int 19 378),("LESS",381,.int 20 380),("GREATER",383,.int 21 382),("EQUAL",385,.int 22 384),("DOT",387,.int 23 386),("PERCENT",389,.int 24 388),("LBRACE",391,.int 25 390),("RBRACE",393,.int 26 392),("EQEQUAL",395,.int 27 394),("NOTEQUAL",397,.int 28 396),("LESSEQUAL",399,.int 29 398),("GREATEREQUAL",401,.int 30 400),("TILDE",403,.int 31 402),("CIRCUMFLEX",405,.int 32 404),("LEFTSHIFT",407,.int 33 406),("RIGHTSHIFT",409,.int 34 408),("DOUBLESTAR",411,.int 35 410),("PLUSEQUAL",413,.int 36 412),("MINEQUAL",415,.int 37 414),("STAREQUAL",417,.int 38 416),("SLASHEQUAL",419,.int 39 418),("PERCENTEQUAL",421,.int 40 420),("AMPEREQUAL",423,.int 41 422),("VBAREQUAL",425,.int 42 424),("CIRCUMFLEXEQUAL",427,.int 43 426),("LEFTSHIFTEQUAL",429,.int 44 428),("RIGHTSHIFTEQUAL",431,.int 45 430),("DOUBLESTAREQUAL",433,.int 46 432),("DOUBLESLASH",435,.int 47 434),("DOUBLESLASHEQUAL",437,.int 48 436),("AT",439,.int 49 438),("ATEQUAL",441,.int 50 440),("RARROW",443,.int 51 442),("ELLIPSIS",445,.int 52 444),("COLONEQUAL",447,.int 53 446),("EXCLAMATION",449,.int 54 448),("NT_OFFSET",451,.int 256 450),("EXACT_TOKEN_TYPES",548,.ref 101),("ISTERMINAL",555,.ref 110),("ISNONTERMINAL",562,.ref 117),("ISEOF",569,.ref 124),("_law_spelled",578,.ref 131),("_law_terminal",585,.ref 138),("_law_rules",597,.ref 145),("_law_cost",605,.ref 152),("_law_stretch",611,.ref 157),("_law_leaf",617,.ref 162),("_law_join",623,.ref 167),("_law_record",629,.ref 172),("_law_octets",639,.ref 179),("_law_read",648,.ref 186),("_law_kind_fits",655,.ref 193),("_law_unpacked",661,.ref 198),("_law_words",667,.ref 203),("_law_sign_fits",673,.ref 208),("_law_stretches_fit",685,.ref 215),("law",691,.ref 220)]
noncomputable def nsO (P : Params) (n k : Nat) (nv : Value) : Obj := { cls := .type "dict",data := .dict (Array.mk (entsFix P nv ++ (names.take n).map fun x => strE P (Str.ofString x.1) x.2.1 x.2.2)) k }
noncomputable def restO (P : Params) : List Obj := [defO 4 15 195 2 5 200 true md0 .none,
 defO 5 22 203 3 11 220 true md0 .none,
 [flagO],
 defO 8 30 256 1 51 263 true md1 .none,
 defO 9 37 266 1 63 272 true md1 .none,
 defO 11 44 277 2 72 282 true md2 .none,
 defO 12 51 285 2 74 290 true md2 .none,
 defO 13 58 293 2 76 298 true md2 .none,
 defO 14 65 301 2 78 307 true md2 .none,
 defO 15 72 310 2 83 317 true md2 .none,
 defO 16 79 320 2 89 325 true md2 .none,
 defO 17 86 328 2 91 335 true md2 .none,
 [{ cls := .type "tuple",data := .seq (Array.mk [.int 0 338]) 0 }],
 defO 18 94 339 2 97 347 true md2 (.ref 93),
 [tabO (exE P) 48],
 [tabO (((exE P).drop 17).take 17) 17],
 [tabO (((exE P).drop 34).take 14) 14],
 defO 71 104 549 1 174 553 true md3 .none,
 defO 72 111 556 1 176 560 true md3 .none,
 defO 73 118 563 1 178 567 true md3 .none,
 defO 75 125 572 1 181 576 true md4 .none,
 defO 76 132 579 1 185 583 true md4 .none,
 defO 77 139 586 1 189 595 true md4 .none,
 defO 78 146 598 2 209 603 true md4 .none,
 defO 79 153 606 2 213 609 false md4 .none,
 defO 80 158 612 2 217 615 false md4 .none,
 defO 81 163 618 2 220 621 false md4 .none,
 defO 82 168 624 3 229 627 false md4 .none,
 defO 83 173 630 3 240 637 true md4 .none,
 defO 84 180 640 1 248 646 true md4 .none,
 defO 85 187 649 1 256 653 true md4 .none,
 defO 86 194 656 1 258 659 false md4 .none,
 defO 87 199 662 1 275 665 false md4 .none,
 defO 88 204 668 4 279 671 false md4 .none,
 defO 89 209 674 3 292 683 true md4 .none,
 defO 90 216 686 1 301 689 false md4 .none].flatten
noncomputable def objsO (P : Params) (n k j : Nat) (nv : Value) : List Obj := [boot_o_0 P,boot_o_1 P,boot_o_2 P,nsO P n k nv,boot_o_4 P,boot_o_5 P,boot_o_6 P,boot_o_7 P,boot_o_8 P,boot_o_9 P,boot_o_10 P,tup0,kidsO j,codeM,frameM] ++ restO P
noncomputable def bt (l : List Obj) (n : Nat) : Nat → Nat → Nat → BT
 | 0,_,_ => .nil
 | f + 1,a,b => match Nat.blt b n with
  | true => .node ((l[b]?).getD default) (bt l n f (2 * a) (a + b)) (bt l n f (2 * a) (2 * a + b))
  | false => .nil
noncomputable def gs0 : Array GenState := Array.mk []
noncomputable def pz : Pos := ⟨0,0,0,0⟩
noncomputable def envM : Env := { scope := pg.main.scope,locals := mainNs,globals := mainNs,cells := [],code := .ref 13,frame := some 14 }
noncomputable abbrev bdM : List Stmt := behindTheImports pg
noncomputable abbrev cM : Code := .body bdM envM
noncomputable def stT (P : Params) (n k j : Nat) (nv : Value) (c t : Nat) (os : OsState) : SharedT := ⟨bt (objsO P n k j nv) c 9 1 0,c,{},gs0,{},t,os⟩
noncomputable def sts (i n : Nat) : List Stmt := (pg.main.body.drop i).take n
noncomputable def hT0 (P : Params) (os : OsState) : SharedT := stT P 0 9 0 (.str "__main__" 164) 15 187 os
noncomputable def ps0 : Pos := ⟨0,0,0,0⟩
noncomputable def hT1 (P : Params) (os : OsState) : SharedT := stT P 10 19 6 (.str "cpy313.operator" 275) 58 293 os
noncomputable def ps1 : Pos := ⟨74,0,75,17⟩
noncomputable def hT2 (P : Params) (os : OsState) : SharedT := stT P 38 47 12 (.str "cpy313.token" 350) 101 396 os
noncomputable def ps2 : Pos := ⟨144,0,144,7⟩
noncomputable def hT3 (P : Params) (os : OsState) : SharedT := stT P 66 75 12 (.str "cpy313.token" 350) 101 452 os
noncomputable def ps3 : Pos := ⟨172,0,172,9⟩
noncomputable def hT4 (P : Params) (os : OsState) : SharedT := stT P 67 76 12 (.str "cpy313.token" 350) 104 549 os
noncomputable def ps4 : Pos := ⟨173,0,173,17⟩
noncomputable def hT5 (P : Params) (os : OsState) : SharedT := stT P 80 89 25 (.str "law_ta0062_01" 570) 187 649 os
noncomputable def ps5 : Pos := ⟨248,0,255,23⟩
noncomputable def hT6 (P : Params) (os : OsState) : SharedT := stT P 86 95 31 (.str "law_ta0062_01" 570) 221 692 os
noncomputable def ps6 : Pos := ⟨301,0,328,60⟩
noncomputable def hpE (P : Params) : Heap := ⟨Array.mk (objsO P 86 95 31 (.str "law_ta0062_01" 570)),{}⟩
end
noncomputable abbrev annM : Option Value := some (.ref 6)
theorem hd_pre : ∀ w : World,(fun os => topGo treeTable pg w 11 annM 12 ⟨boot_heap w.params,gs0,boot_drawn,boot_toks,os⟩ (topStub pg)) = fun os => some ((hT0 w.params os).abs,⟨denote treeTable cM,cM,pz,[topFrame pz]⟩) := by
 intro w
 rewrite [PySem.W.Fast.te15667345088766844465,PySem.W.Fast.te14364793385576792824,PySem.W.Fast.te11892475500146522536]
 kernel_rfl
theorem hd_block : ∀ w : World,(fun os => segRun treeTable pg w 11 annM 1 1 (hT0 w.params os).abs (blockOf bdM envM cM pz [topFrame pz])) = fun os => some (.next,(hT0 w.params os).abs,cM,ps0) := by
 intro w
 rewrite [PySem.W.Fast.te14374325043358763698,PySem.W.Fast.te14364793385576792824]
 kernel_rfl
theorem hd_s1f : ∀ w : World,(fun os => segRunT treeTable pg (w.withFollow "special-get-raises" false) 11 annM 1 390 (hT0 (w.withFollow "special-get-raises" false).params os) (piecesOf (sts 0 13) envM cM ps0 [topFrame pz])) = fun os => some (.next,hT1 (w.withFollow "special-get-raises" false).params os,cM,ps1) := by
 intro w
 rewrite [PySem.W.Fast.te10110043849684766642,PySem.W.Fast.te14364793385576792824]
 kernel_rfl
theorem hd_s1t : ∀ w : World,(fun os => segRunT treeTable pg (w.withFollow "special-get-raises" true) 11 annM 1 390 (hT0 (w.withFollow "special-get-raises" true).params os) (piecesOf (sts 0 13) envM cM ps0 [topFrame pz])) = fun os => some (.next,hT1 (w.withFollow "special-get-raises" true).params os,cM,ps1) := by
 intro w
 rewrite [PySem.W.Fast.te10110043849684766642,PySem.W.Fast.te14364793385576792824]
 kernel_rfl
theorem hd_s1 : ∀ w : World,(fun os => segRunT treeTable pg w 11 annM 1 390 (hT0 w.params os) (piecesOf (sts 0 13) envM cM ps0 [topFrame pz])) = fun os => some (.next,hT1 w.params os,cM,ps1) := byRow2 "special-get-raises" hd_s1f hd_s1t
theorem hd_s2 : ∀ w : World,(fun os => segRunT treeTable pg w 11 annM 1 398 (hT1 w.params os) (piecesOf (sts 13 29) envM cM ps1 [topFrame pz])) = fun os => some (.next,hT2 w.params os,cM,ps2) := by
 intro w
 rewrite [PySem.W.Fast.te10110043849684766642,PySem.W.Fast.te14364793385576792824]
 kernel_rfl
theorem hd_s3 : ∀ w : World,(fun os => segRunT treeTable pg w 11 annM 1 253 (hT2 w.params os) (piecesOf (sts 42 28) envM cM ps2 [topFrame pz])) = fun os => some (.next,hT3 w.params os,cM,ps3) := by
 intro w
 rewrite [PySem.W.Fast.te10110043849684766642,PySem.W.Fast.te14364793385576792824]
 kernel_rfl
theorem hd_s4f : ∀ w : World,(fun os => segRunT treeTable pg (w.withFollow "special-get-raises" false) 11 annM 1 979 (hT3 (w.withFollow "special-get-raises" false).params os) (piecesOf (sts 70 1) envM cM ps3 [topFrame pz])) = fun os => some (.next,hT4 (w.withFollow "special-get-raises" false).params os,cM,ps4) := by
 intro w
 rewrite [PySem.W.Fast.te10110043849684766642,PySem.W.Fast.te14364793385576792824]
 kernel_rfl
theorem hd_s4t : ∀ w : World,(fun os => segRunT treeTable pg (w.withFollow "special-get-raises" true) 11 annM 1 979 (hT3 (w.withFollow "special-get-raises" true).params os) (piecesOf (sts 70 1) envM cM ps3 [topFrame pz])) = fun os => some (.next,hT4 (w.withFollow "special-get-raises" true).params os,cM,ps4) := by
 intro w
 rewrite [PySem.W.Fast.te10110043849684766642,PySem.W.Fast.te14364793385576792824]
 kernel_rfl
theorem hd_s4 : ∀ w : World,(fun os => segRunT treeTable pg w 11 annM 1 979 (hT3 w.params os) (piecesOf (sts 70 1) envM cM ps3 [topFrame pz])) = fun os => some (.next,hT4 w.params os,cM,ps4) := byRow2 "special-get-raises" hd_s4f hd_s4t
theorem hd_s5 : ∀ w : World,(fun os => segRunT treeTable pg w 11 annM 1 386 (hT4 w.params os) (piecesOf (sts 71 14) envM cM ps4 [topFrame pz])) = fun os => some (.next,hT5 w.params os,cM,ps5) := by
 intro w
 rewrite [PySem.W.Fast.te10110043849684766642,PySem.W.Fast.te14364793385576792824]
 kernel_rfl
theorem hd_s6 : ∀ w : World,(fun os => segRunT treeTable pg w 11 annM 1 168 (hT5 w.params os) (piecesOf (sts 85 6) envM cM ps5 [topFrame pz])) = fun os => some (.next,hT6 w.params os,cM,ps6) := by
 intro w
 rewrite [PySem.W.Fast.te10110043849684766642,PySem.W.Fast.te14364793385576792824]
 kernel_rfl
theorem hd_fin : ∀ w : World,(fun os => topRun treeTable pg w 11 annM 2 (hT6 w.params os).abs ⟨doneF .next,cM,ps6,[topFrame pz]⟩) = fun os => some ⟨hpE w.params,gs0,{},692,os⟩ := by
 intro w
 rewrite [PySem.W.Fast.te14082659384304107361,PySem.W.Fast.te14364793385576792824]
 kernel_rfl
theorem hd_bd : bdM = (sts 0 13 ++ (sts 13 29 ++ (sts 42 28 ++ (sts 70 1 ++ (sts 71 14 ++ (sts 85 6 ++ [])))))) := by kernel_rfl
theorem hd_run (w : World) (os : OsState) : topRun treeTable pg w 11 annM (12 + (1 + (390 + (398 + (253 + (979 + (386 + (168 + 2)))))))) ⟨boot_heap w.params,gs0,boot_drawn,boot_toks,os⟩ (topStub pg) = some ⟨hpE w.params,gs0,{},692,os⟩ := by
 have k0 := piece_nil (env := envM) (congrFun (hd_fin w) os)
 have k1 := piece_app (segRun_of (congrFun (hd_s6 w) os)) k0
 have k2 := piece_app (segRun_of (congrFun (hd_s5 w) os)) k1
 have k3 := piece_app (segRun_of (congrFun (hd_s4 w) os)) k2
 have k4 := piece_app (segRun_of (congrFun (hd_s3 w) os)) k3
 have k5 := piece_app (segRun_of (congrFun (hd_s2 w) os)) k4
 have k6 := piece_app (segRun_of (congrFun (hd_s1 w) os)) k5
 rewrite [← hd_bd] at k6
 exact go_top (congrFun (hd_pre w) os) (piece_block (congrFun (hd_block w) os) k6)
noncomputable section
noncomputable def keptAt : List Nat := [1,2,3,4,5,8,9,11,12,13,14,15,16,17] ++ (List.range' 20 50) ++ [71,72,73] ++ List.range' 75 16
noncomputable def qv : Program := view pg keptAt
noncomputable abbrev looseM : List Str := [Str.ofString "COMPILER_FLAG_NAMES",Str.ofString "length_hint",Str.ofString "EXACT_TOKEN_TYPES"]
noncomputable def dfO : Obj := { cls := .type "tuple",data := .seq (Array.mk [.int 0 338]) 0 }
noncomputable def lhC : Obj := codeO (stAt 18) 97 339 94 347 2 (.ref 96) (.ref 97) (.ref 98)
noncomputable def lhF : Obj := funO (.type "function") (.ref 93) md2 (.ref 99) 3 (stAt 18)
noncomputable def exO (P : Params) : Obj := tabO (exE P) 48
noncomputable def KM (P : Params) : Frag := [(2,boot_o_2 P),(3,nsO P 86 95 (.str "law_ta0062_01" 570)),(29,flagO),(93,dfO),(99,lhC),(100,lhF),(101,exO P)]
noncomputable def kA : List Addr := [2,3,29,93,99,100,101]
noncomputable abbrev HkM : Hook := kHook KM kA (fun _ => rfl)
end
theorem hd_size : ∀ w : World,((boot_heap w.params).isNs mainGlobals && gs0.size == 0,(boot_heap w.params).objs.size,(boot_heap w.params).nsMap mainGlobals "__annotations__") = (true,11,annM) := by
 intro w
 rewrite [PySem.W.Fast.te8920871248978507458]
 kernel_rfl
noncomputable abbrev fin_ (w : World) (os : OsState) : Shared := ⟨hpE w.params,gs0,{},692,os⟩
theorem lk1 : ∀ (w : World),(fun os => (staticsOk (importedModules pg.main.body) (boot_heap w.params) (hpE w.params) && namesBound pg (hpE w.params) && gensDone (fin_ w os) && laidKept (boot_heap w.params) (hpE w.params))) = fun _ => true := by
 intro w
 rewrite [PySem.W.Fast.te5923862056798008813]
 kernel_rfl
noncomputable abbrev xtM : Shared → Bool := fun s => xlAt qv [] s && recOk PySem.Challenge.rw_ta0062_01.row.records s
noncomputable abbrev seM (w : World) (os : OsState) := openSeen qv looseM (importedModules pg.main.body) xtM true (fin_ w os)
theorem parts {α₁ α₂ α₃ α₄ α₅ α₆ α₇ α₈ α₉ : Type} {T : α₁ × α₂ × α₃ × α₄ × α₅ × α₆ × α₇ × α₈ × α₉} {a b c d e f g h k} (h1 : T.1 = a) (h2 : T.2.1 = b) (h3 : T.2.2.1 = c) (h4 : T.2.2.2.1 = d) (h5 : T.2.2.2.2.1 = e) (h6 : T.2.2.2.2.2.1 = f) (h7 : T.2.2.2.2.2.2.1 = g) (h8 : T.2.2.2.2.2.2.2.1 = h) (h9 : T.2.2.2.2.2.2.2.2 = k) : T = (a,b,c,d,e,f,g,h,k) := by
 subst h1 h2 h3 h4 h5 h6 h7 h8 h9
 rfl
theorem lk2_1 (w : World) (os : OsState) : (seM w os).1 = expectedOf qv := by
 unfold seM
 rewrite [PySem.W.Fast.te5923862056798008813,PySem.W.Fast.te4187177175401517315]
 kernel_rfl
theorem lk2_2 (w : World) (os : OsState) : (seM w os).2.1 = bltViewBooted := by
 unfold seM
 rewrite [PySem.W.Fast.te5923862056798008813,PySem.W.Fast.te4187177175401517315]
 kernel_rfl
theorem lk3a (w : World) (os : OsState) : (fin_ w os).heap.keysOk (looseW qv looseM) ((recsOf qv).map (·.name)) ((litsOf qv).map (·.1)) ((clssOf qv (looseW qv looseM)).map (·.name)) = true := by
 rewrite [PySem.W.Fast.te10880121769531294198,PySem.W.Fast.te821141287760084731,PySem.W.Fast.te3399658132070893891,PySem.W.Fast.te7409074990110511671,PySem.W.Fast.te13664370479719496447,R.mapR_eq]
 kernel_rfl
theorem lk3b (w : World) (os : OsState) : (fin_ w os).heap.accountedOkI (importedModules pg.main.body) = true := by
 rewrite [PySem.W.Fast.te5923862056798008813,PySem.W.Fast.te14722251495701143533]
 kernel_rfl
theorem lk3c (w : World) (os : OsState) : (fin_ w os).heap.isNs mainGlobals = true := by
 kernel_rfl
theorem lk3d (w : World) (os : OsState) : (fin_ w os).heap.isNs builtinsNs = true := by
 kernel_rfl
theorem lk3e (w : World) (os : OsState) : tablesOk qv (fin_ w os).heap = true := by
 rewrite [PySem.W.Fast.te10994771534591457954]
 kernel_rfl
theorem lk3f (w : World) (os : OsState) : xtM (fin_ w os) = true := by
 kernel_rfl
theorem lk2_3 (w : World) (os : OsState) : (seM w os).2.2.1 = true :=
 look_both (look_both (look_both (look_both (look_both (look_both (lk3a w os) (lk3b w os)) (lk3c w os)) (lk3d w os)) (lk3e w os)) (lk3f w os)) rfl
theorem lk2_4 (w : World) (os : OsState) : (seM w os).2.2.2.1 = true := by
 unfold seM
 rewrite [PySem.W.Fast.te5923862056798008813,PySem.W.Fast.te4187177175401517315]
 kernel_rfl
theorem lk2_5 (w : World) (os : OsState) : (seM w os).2.2.2.2.1 = pinGoodD (drecsOf qv) := by
 unfold seM
 rewrite [PySem.W.Fast.te5923862056798008813,PySem.W.Fast.te4187177175401517315]
 kernel_rfl
theorem lk2_6 (w : World) (os : OsState) : (seM w os).2.2.2.2.2.1 = plainGoodE qv (looseW qv looseM) := by
 unfold seM
 rewrite [PySem.W.Fast.te5923862056798008813,PySem.W.Fast.te4187177175401517315]
 kernel_rfl
theorem lk2_7 (w : World) (os : OsState) : (seM w os).2.2.2.2.2.2.1 = plainGoodD qv looseM := by
 unfold seM
 rewrite [PySem.W.Fast.te5923862056798008813,PySem.W.Fast.te4187177175401517315]
 kernel_rfl
theorem lk2_8 (w : World) (os : OsState) : (seM w os).2.2.2.2.2.2.2.1 = wideGood qv := by
 unfold seM
 rewrite [PySem.W.Fast.te5923862056798008813,PySem.W.Fast.te4187177175401517315]
 kernel_rfl
theorem lk2_9 (w : World) (os : OsState) : (seM w os).2.2.2.2.2.2.2.2 = clsGoodW qv looseM := by
 unfold seM
 rewrite [PySem.W.Fast.te5923862056798008813,PySem.W.Fast.te4187177175401517315]
 kernel_rfl
theorem lk2 (w : World) : (fun os => seM w os) = fun _ => openGood qv looseM :=
 funext fun os => parts (lk2_1 w os) (lk2_2 w os) (lk2_3 w os) (lk2_4 w os) (lk2_5 w os) (lk2_6 w os) (lk2_7 w os) (lk2_8 w os) (lk2_9 w os)
theorem lk3 : ∀ (w : World),(fun os => HkM.obs (fin_ w os)) = fun _ => HkM.val w := by
 intro w
 kernel_rfl
theorem hd_left : LeftO pg qv looseM xtM HkM.obs HkM.val 5262 true :=
 LeftO.of_pieces (boot_open (by kernel_rfl) (by kernel_rfl) (fun s => by kernel_rfl)) hd_size hd_run (by kernel_rfl) fun w => funext fun os => looks_pair (congrFun (lk1 w) os) (looks_pair (congrFun (lk2 w) os) (congrFun (lk3 w) os))
set_option maxHeartbeats 8000000 in
theorem said_looks : PySem.W.Fast.tw12908688711261696721 (PySem.W.Fast.tw2368527892694137696 PySem.Challenge.rw_ta0062_01).prog = true := by
 delta PySem.W.Fast.tw12908688711261696721
 refine look_both (look_both ?_ ?_) ?_
 all_goals as_aux_lemma => kernel_rfl
set_option maxHeartbeats 8000000 in
theorem hd_said : PySem.Challenge.rw_ta0062_01.wellSaid = true := by
 rewrite [PySem.W.Fast.te9446332074065402090]
 delta PySem.W.Fast.tw9446332074065402090 PySem.W.Fast.tw17960256430627541270 PySem.W.Fast.tw2436336058641802641
 rw [said_looks]
 refine look_both (look_both (look_both (look_both (look_both (look_both (look_both (look_both (look_both (look_both ?_ ?_) ?_) ?_) ?_) ?_) ?_) ?_) ?_) ?_) ?_
 all_goals as_aux_lemma => kernel_rfl
set_option maxRecDepth 512
set_option genSizeOf false
set_option genInjectivity false
inductive D where
 | nil
 | int (n : Int)
 | bool (b : Bool)
 | str (l : List Nat)
 | list (ds : List D)
 | own (ds : List D)
 | bor (ds : List D)
 | dict (es : List (Int × List Nat))
 | texts (ls : List (List Nat))
 | sig (l : List Nat) (t : Nat)
 | ptr (a : Nat)
noncomputable def D.isEl : D → Bool
 | .nil | .int _ | .bool _ | .str _ | .list _ => true
 | _ => false
noncomputable def D.isVal : D → Bool
 | .own _ | .bor _ | .sig _ _ | .ptr _ => false
 | _ => true
noncomputable def D.isTexts : D → Bool
 | .texts _ => true
 | _ => false
noncomputable def D.isScalar : D → Bool
 | .nil | .int _ | .bool _ | .str _ => true
 | _ => false
inductive Out where
 | next | brk | cont
 | ret (d : D)
noncomputable abbrev St := List (Str × D)
noncomputable def put (x : Str) (d : D) : St → St
 | [] => [(x,d)]
 | (y,e) :: r => if x == y then (y,d) :: r else (y,e) :: put x d r
structure GE where
 fn : List (Str × (List D → Option D))
 dat : List (Str × D)
noncomputable def seqOf : D → Option (List D)
 | .list ds | .bor ds | .own ds => some ds
 | _ => none
noncomputable def items : D → Option (List D)
 | .str l => some (l.map fun c => .str [c])
 | d => seqOf d
noncomputable def intOf : D → Option Int
 | .int n => some n
 | _ => none
noncomputable def strOf : D → Option (List Nat)
 | .str l => some l
 | _ => none
noncomputable def allM {α β : Type} (f : α → Option β) : List α → Option (List β)
 | [] => some []
 | a :: r => (f a).bind fun b => (allM f r).bind fun bs => some (b :: bs)
noncomputable def intsOf (ds : List D) : Option (List Int) := allM intOf ds
noncomputable def strsOf (ds : List D) : Option (List (List Nat)) := allM strOf ds
noncomputable def small (n : Int) : Bool := decide (n.natAbs < 2 ^ 62)
noncomputable def fits (n : Nat) : Bool := decide (n ≤ 1000000)
noncomputable def truth : D → Option Bool
 | .nil => some false
 | .bool b => some b
 | .int n => some (n != 0)
 | .str l => if fits l.length then some (!l.isEmpty) else none
 | .list ds => if fits ds.length then some (!ds.isEmpty) else none
 | .bor ds => if fits ds.length then some (!ds.isEmpty) else none
 | _ => none
noncomputable def cut {α : Type} (l : List α) (lo hi : Option Int) : List α :=
 (l.drop (lo.elim 0 (clipAt l.length))).take (hi.elim l.length (clipAt l.length) - lo.elim 0 (clipAt l.length))
noncomputable def optInt : D → Option (Option Int)
 | .nil => some none
 | .int n => if small n then some (some n) else none
 | _ => none
noncomputable def intB (f : Int → Int → Option D) (a b : D) : Option D := (intOf a).bind fun x => (intOf b).bind fun y => f x y
noncomputable def addD (a b : D) : Option D := match a with
 | .int x => (intOf b).map fun y => .int (x + y)
 | .str x => (strOf b).bind fun y => if fits (x.length + y.length) then some (.str (x ++ y)) else none
 | _ => (seqOf a).bind fun x => (seqOf b).bind fun y => if fits (x.length + y.length) then some (.list (x ++ y)) else none
noncomputable def mulD (a b : D) : Option D := match a with
 | .int x => (intOf b).bind fun y => if small x && small y then some (.int (x * y)) else none
 | .str x => (intOf b).bind fun k => if small k && fits (x.length * k.toNat) then some (.str (List.replicate k.toNat x).flatten) else none
 | _ => (seqOf a).bind fun x => (intOf b).bind fun k => if small k && fits (x.length * k.toNat) then some (.list (List.replicate k.toNat x).flatten) else none
noncomputable def binop (op : Operator) (a b : D) : Option D := match op with
 | .Add => addD a b
 | .Mult => mulD a b
 | .Sub => intB (fun x y => some (.int (x - y))) a b
 | .FloorDiv => intB (fun x y => if y != 0 && small y then some (.int (x.fdiv y)) else none) a b
 | .Mod => intB (fun x y => if y == 0 then none else some (.int (x.fmod y))) a b
 | .Pow => intB (fun x y => if decide (0 ≤ y) && decide (y ≤ 1000) && small x then some (.int (x ^ y.toNat)) else none) a b
 | .LShift => intB (fun x y => if decide (0 ≤ y) && decide (y ≤ 1000) && small x then some (.int (x * 2 ^ y.toNat)) else none) a b
 | .BitOr => intB (fun x y => some (.int (Builtin.bitOr x y))) a b
 | .BitAnd => intB (fun x y => some (.int (Builtin.bitAnd x y))) a b
 | .BitXor => intB (fun x y => some (.int (Builtin.bitXor x y))) a b
 | _ => none
noncomputable def listEq (a b : D) : Option Bool :=
 (seqOf a).bind fun x => (seqOf b).bind fun y =>
  if fits x.length && fits y.length then (match intsOf x,intsOf y with
   | some xs,some ys => some (xs == ys)
   | _,_ => if y.isEmpty then some x.isEmpty else none)
  else none
noncomputable def intC (f : Int → Int → Bool) (a b : D) : Option Bool := (intOf a).bind fun x => (intOf b).map fun y => f x y
noncomputable def eqD (a b : D) : Option Bool := match a with
 | .int x => (intOf b).map fun y => x == y
 | .str x => (strOf b).map fun y => x == y
 | _ => listEq a b
noncomputable def neD (a b : D) : Option Bool := match a with
 | .int x => (intOf b).map fun y => x != y
 | .str x => (strOf b).map fun y => x != y
 | _ => (listEq a b).map (!·)
noncomputable def isNil : D → Bool
 | .nil => true
 | _ => false
noncomputable def boolOf : D → Option Bool
 | .bool b => some b
 | _ => none
noncomputable def isD (a b : D) : Option Bool := match a with
 | .nil => if isNil b then some true else none
 | .str _ => if isNil b then some false else none
 | .bool x => (boolOf b).map fun y => x == y
 | _ => none
noncomputable def textsOf : D → Option (List (List Nat))
 | .texts l => some l
 | _ => none
noncomputable def dictOf : D → Option (List (Int × List Nat))
 | .dict l => some l
 | _ => none
noncomputable def inD (a b : D) : Option Bool := match a with
 | .str x => (textsOf b).map fun ls => ls.contains x
 | .int n => (dictOf b).map fun es => (es.lookup n).isSome
 | _ => none
noncomputable def cmpop (op : CmpOp) (a b : D) : Option Bool := match op with
 | .Eq => eqD a b
 | .NotEq => neD a b
 | .Lt => intC (fun x y => decide (x < y)) a b
 | .Gt => intC (fun x y => decide (y < x)) a b
 | .LtE => intC (fun x y => decide (x ≤ y)) a b
 | .GtE => intC (fun x y => decide (y ≤ x)) a b
 | .Is => isD a b
 | .In => inD a b
 | _ => none
noncomputable def subs (o i : D) : Option D := match o with
 | .str l => (intOf i).bind fun k => if small k then ((seqIndex? k l.length).bind (l[·]?)).map fun c => .str [c] else none
 | .dict es => (intOf i).bind fun n => (es.lookup n).map .str
 | _ => (seqOf o).bind fun ds => (intOf i).bind fun k => if decide (0 ≤ k) && small k then ds[k.toNat]? else none
noncomputable def slice (o lo hi : D) : Option D :=
 (optInt lo).bind fun l => (optInt hi).bind fun h => match o with
  | .str x => if fits x.length then some (.str (cut x l h)) else none
  | o => (seqOf o).bind fun ds => if fits ds.length then some (.list (cut ds l h)) else none
noncomputable def minOf : List Int → Option Int
 | [] => none
 | a :: r => some (r.foldl (fun m x => if x < m then x else m) a)
noncomputable def lowerOf (l : List Nat) : List Nat := l.map fun c => if 65 ≤ c ∧ c ≤ 90 then c + 32 else c
noncomputable def hexOf (n : Int) : List Nat := (baseText "0x" 16 n).cps.toList
noncomputable def joinOf (sep : List Nat) : List (List Nat) → List Nat
 | [] => []
 | [x] => x
 | x :: r => x ++ sep ++ joinOf sep r
noncomputable def one {α : Type} : List α → Option α
 | [] => none
 | x :: r => if r.isEmpty then some x else none
noncomputable def two {α : Type} : List α → Option (α × α)
 | [] => none
 | x :: r => (one r).map fun y => (x,y)
noncomputable def trip {α : Type} : List α → Option (α × α × α)
 | [] => none
 | x :: r => (two r).map fun q => (x,q)
noncomputable def ranged (as : List D) : Option (List D) :=
 (intsOf as).bind fun ns => match one ns with
  | some b => if small b && fits b.toNat then some ((List.range b.toNat).map fun (i : Nat) => D.int (0 + (i : Int) * 1)) else none
  | none => (two ns).bind fun q => if small q.1 && small q.2 && fits (q.2 - q.1).toNat then some ((List.range (q.2 - q.1).toNat).map fun (i : Nat) => D.int (q.1 + (i : Int) * 1)) else none
noncomputable def ranged3 (as : List D) : Option (List D) :=
 (intsOf as).bind fun ns => (trip ns).bind fun q => if Builtin.Range.small q.1 q.2.1 q.2.2 && decide (0 < q.2.2) && small q.2.2 && decide (0 ≤ Builtin.Range.rangeSize q.1 q.2.1 q.2.2) && fits (Builtin.Range.rangeSize q.1 q.2.1 q.2.2).toNat
    then some ((List.range (Builtin.Range.rangeSize q.1 q.2.1 q.2.2).toNat).map fun (i : Nat) => D.int (q.1 + (i : Int) * q.2.2)) else none
noncomputable def lenOf (a : D) : Option D := match a with
 | .str l => if fits l.length then some (.int l.length) else none
 | _ => (seqOf a).bind fun ds => if fits ds.length then some (.int ds.length) else none
noncomputable def bMin (as : List D) : Option D := match one as with
 | some a => (seqOf a).bind fun ds => (intsOf ds).bind fun ns => if fits ns.length then (minOf ns).map .int else none
 | none => (two as).bind fun q => (intOf q.1).bind fun a => (intOf q.2).map fun b => .int (if b < a then b else a)
noncomputable def bSum (as : List D) : Option D := (one as).bind fun a => (seqOf a).bind fun ds => (intsOf ds).bind fun ns => if fits ns.length && ns.all (fun n => decide (n.natAbs < 2 ^ 30)) then some (.int ns.sum) else none
noncomputable def bChr (as : List D) : Option D := (one as).bind fun a => (intOf a).bind fun n => if decide (0 ≤ n) && decide (n ≤ 0x10FFFF) then some (.str [n.toNat]) else none
noncomputable def bHex (as : List D) : Option D := (one as).bind fun a => (intOf a).bind fun n => if fits (hexOf n).length then some (.str (hexOf n)) else none
noncomputable def bcall (f : Str) (as : List D) : Option D :=
 if f = "len" then (one as).bind lenOf
 else if f = "min" then bMin as
 else if f = "sum" then bSum as
 else if f = "chr" then bChr as
 else if f = "hex" then bHex as
 else none
noncomputable def mLower (o : D) (as : List D) : Option D := (strOf o).bind fun l => if as.isEmpty && (l.all (· < 128) && fits l.length) then some (.str (lowerOf l)) else none
noncomputable def mJoin (o : D) (as : List D) : Option D := (strOf o).bind fun l => (one as).bind fun a => (seqOf a).bind fun ds => (strsOf ds).bind fun ss => if fits ((ss.map (·.length)).sum + ss.length * l.length) then some (.str (joinOf l ss)) else none
noncomputable def mGet (o : D) (as : List D) : Option D := (dictOf o).bind fun es => (two as).bind fun q => (intOf q.1).bind fun n => (strOf q.2).map fun d => .str ((es.lookup n).getD d)
noncomputable def meth (o : D) (m : Str) (as : List D) : Option D :=
 if m = "lower" then mLower o as
 else if m = "join" then mJoin o as
 else if m = "get" then mGet o as
 else none
noncomputable def constOf : Const → Option D
 | .none => some .nil
 | .bool b => some (.bool b)
 | .int n => some (.int n)
 | .str x => some (.str x.cps.toList)
 | _ => none
noncomputable def isBound (k : Option NameKind) : Bool := k == some .local || k == some .cell || k == some .free
noncomputable def isHeld (k : Option NameKind) : Bool := k == some .local || k == some .cell
noncomputable def isGlob (sc : Scope) (x : Str) : Bool := sc.names.lookup x == some .globalImplicit
theorem hide {P : Prop} (h : ∀ G : Prop,(P → G) → G) : P := h P id
theorem gq {α : Type} {M : Model} {A : Around} {t : Sem α} {Q : α → Shared → Prop} {E : Value → Shared → Prop} {s : Shared} (h : ∀ Q' : α → Shared → Prop,(∀ a s',Q a s' → Q' a s') → wpAny M A t Q' E s) : wpAny M A t Q E s := h Q fun _ _ h => h
theorem no {α : Type} {x : α} {P : Prop} (h : none = some x) : P := nomatch h
theorem nof {P : Prop} (h : false = true) : P := nomatch h
inductive B2 {α β : Type} (x : Option α) (f : α → Option β) (b : β) : Prop
 | mk (a : α) (h1 : x = some a) (h2 : f a = some b) : B2 x f b
inductive M2 {α β : Type} (x : Option α) (f : α → β) (b : β) : Prop
 | mk (a : α) (h1 : x = some a) (h2 : f a = b) : M2 x f b
theorem b2 {α β : Type} {x : Option α} {f : α → Option β} {b : β} (h : x.bind f = some b) : B2 x f b :=
 let ⟨a,h1,h2⟩ := Option.bind_eq_some_iff.mp h; ⟨a,h1,h2⟩
theorem m2 {α β : Type} {x : Option α} {f : α → β} {b : β} (h : x.map f = some b) : M2 x f b :=
 let ⟨a,h1,h2⟩ := Option.map_eq_some_iff.mp h; ⟨a,h1,h2⟩
theorem ite_some {α : Type} {c : Bool} {x : Option α} {d : α} (e : (if c then x else none) = some d) : c = true ∧ x = some d := by
 cases c with
 | true => exact ⟨rfl,e⟩
 | false => exact no e
theorem nil_of_empty {α : Type} {l : List α} (h : l.isEmpty = true) : l = [] := by
 cases l with
 | nil => rfl
 | cons _ _ => exact nof h
theorem one_eq {α : Type} {l : List α} {x : α} (h : one l = some x) : l = [x] := by
 cases l with
 | nil => exact no h
 | cons y r =>
  obtain ⟨h1,h2⟩ := ite_some h
  cases h2
  rw [nil_of_empty h1]
theorem two_eq {α : Type} {l : List α} {q : α × α} (h : two l = some q) : l = [q.1,q.2] := by
 cases l with
 | nil => exact no h
 | cons y r => obtain ⟨z,hz,rfl⟩ := m2 h; rw [one_eq hz]
theorem trip_eq {α : Type} {l : List α} {q : α × α × α} (h : trip l = some q) : l = [q.1,q.2.1,q.2.2] := by
 cases l with
 | nil => exact no h
 | cons y r => obtain ⟨z,hz,rfl⟩ := m2 h; rw [two_eq hz]
noncomputable def cstrC : Const → Option Str
 | .str x => some x
 | _ => none
noncomputable def cstr : Expr → Option Str
 | .Constant c _ _ => cstrC c
 | _ => none
noncomputable def nameP : Expr → Option (Str × Pos)
 | .Name x p => some (x,p)
 | _ => none
noncomputable def tupE : Expr → Option (List Expr)
 | .Tuple es _ _ => some es
 | _ => none
theorem cstr_eq {e : Expr} {x : Str} : cstr e = some x → ∃ k p,e = .Constant (.str x) k p := by
 have hc : ∀ c : Const,cstrC c = some x → c = .str x := fun c => by
  cases c with
  | str y => intro h; cases h; rfl
  | _ => exact no
 cases e with
 | Constant c k p => intro h; rw [hc c h]; exact ⟨_,_,rfl⟩
 | _ => exact no
theorem nameP_eq {e : Expr} {q : Str × Pos} : nameP e = some q → e = .Name q.1 q.2 := by
 cases e with
 | Name x p => intro h; cases h; rfl
 | _ => exact no
theorem tupE_eq {e : Expr} {es : List Expr} : tupE e = some es → ∃ k p,e = .Tuple es k p := by
 cases e with
 | Tuple es k p => intro h; cases h; exact ⟨_,_,rfl⟩
 | _ => exact no
noncomputable def strsConst : List Expr → Option (List (List Nat))
 | [] => some []
 | e :: r => (cstr e).bind fun x => (strsConst r).map fun ls => x.cps.toList :: ls
noncomputable abbrev EV := Scope → St → Expr → D → Prop
noncomputable abbrev TS := Scope → St → Expr → Bool → Prop
noncomputable def notStar : Expr → Bool
 | .Starred _ _ => false
 | _ => true
noncomputable def AllR (P : Expr → D → Prop) : List Expr → List D → Prop
 | [],ds => ds = []
 | e :: r,ds => ∃ d t,P e d ∧ AllR P r t ∧ ds = d :: t
noncomputable def evs (ev : EV) (sc : Scope) (σ : St) (es : List Expr) (ds : List D) : Prop := es.all notStar = true ∧ AllR (ev sc σ) es ds
noncomputable def itemsS (strict : Bool) (d : D) : Option (List D) := if strict && !d.isVal then none else items d
noncomputable def notSet : Expr → Bool
 | .Set _ _ _ => false
 | _ => true
noncomputable def iterE (strict : Bool) (ev : EV) (sc : Scope) (σ : St) (e : Expr) (ds : List D) : Prop :=
 notSet e = true ∧ ((∃ p as pos es,e = .Call (.Name ("range" : Str) p) as [] pos ∧ isGlob sc "range" = true ∧ evs ev sc σ as es ∧ ranged es = some ds) ∨ ∃ d,ev sc σ e d ∧ itemsS strict d = some ds)
noncomputable def stops : BoolOp → Bool → Bool
 | .And,t => !t
 | .Or,t => t
noncomputable def boolV (ev : EV) (sc : Scope) (σ : St) (op : BoolOp) : List Expr → D → Prop
 | [],_ => False
 | e :: r,d => ∃ a,ev sc σ e a ∧ if r.isEmpty then d = a else ∃ t,truth a = some t ∧ if stops op t then d = a else boolV ev sc σ op r d
noncomputable def allT (ts : TS) (sc : Scope) (σ : St) (op : BoolOp) : List Expr → Bool → Prop
 | [],b => b = (op == .And)
 | e :: r,b => ∃ t,ts sc σ e t ∧ if stops op t then b = t else allT ts sc σ op r b
noncomputable def testsT (ts : TS) (sc : Scope) (σ : St) : List Expr → Bool → Prop
 | [],b => b = true
 | e :: r,b => ∃ t,ts sc σ e t ∧ if t then testsT ts sc σ r b else b = false
noncomputable def turns (ts : TS) (sc : Scope) (x : Str) (ifs : List Expr) (k : St → List D → Prop) (σ : St) : List D → List D → Prop
 | [],out => out = []
 | d :: ds,out => ∃ ok here r,testsT ts sc (put x d σ) ifs ok ∧ (if ok then k (put x d σ) here else here = []) ∧ turns ts sc x ifs k σ ds r ∧ out = here ++ r ∧ out.length ≤ 1000000
noncomputable def compGo (ev : EV) (ts : TS) (sc : Scope) (elt : Expr) : List Comprehension → St → List D → Prop
 | [],σ,out => ∃ d,ev sc σ elt d ∧ d.isEl = true ∧ out = [d]
 | g :: rest,σ,out => ∃ x px iter ifs xs,g = ⟨.Name x px,iter,ifs,0⟩ ∧ isHeld (sc.names.lookup x) = true ∧ σ.lookup x = none ∧ iterE true ev sc σ iter xs ∧ turns ts sc x ifs (compGo ev ts sc elt rest) σ xs out
noncomputable def scopeOk (sc scope : Scope) : Bool :=
 scope.kind == .function && scope.names.all (fun (n,k) => scope.names.lookup n == some k && (k != .free || sc.names.lookup n == some .cell || sc.names.lookup n == some .free))
noncomputable def freeOf (scope : Scope) (σ : St) : St := σ.filter fun p => scope.names.lookup p.1 == some .free
noncomputable def comp (ev : EV) (ts : TS) (sc : Scope) (σ : St) (elt : Expr) (gens : List Comprehension) (scope : Scope) (out : List D) : Prop :=
 ∃ x px iter ifs rest xs,gens = ⟨.Name x px,iter,ifs,0⟩ :: rest ∧ scopeOk sc scope = true ∧ isHeld (scope.names.lookup x) = true ∧ iterE false ev sc σ iter xs ∧ turns ts scope x ifs (compGo ev ts scope elt rest) (freeOf scope σ) xs out
noncomputable def plainObj : Expr → Bool
 | .Name _ _ | .Constant _ _ _ => true
 | _ => false
noncomputable def D.seen : D → D
 | .own ds => .bor ds
 | .sig l _ => .str l
 | d => d
noncomputable def D.froze : D → D
 | .own ds => .list ds
 | .sig l _ => .str l
 | d => d
noncomputable def view (σ : St) : St := σ.map fun p => (p.1,p.2.seen)
noncomputable def frozen (σ : St) : St := σ.map fun p => (p.1,p.2.froze)
noncomputable abbrev XS := Scope → St → List Stmt → Out → St → Prop
noncomputable def isList : Expr → Bool
 | .List _ _ => true
 | _ => false
noncomputable def isMult : Operator → Bool
 | .Mult => true
 | _ => false
noncomputable def isNamed (x : Str) : Expr → Bool
 | .Name f _ => f == x
 | _ => false
noncomputable def mine : Expr → Bool
 | .List _ _ => true
 | .BinOp l op _ _ => isList l && isMult op
 | .Call f _ _ _ => isNamed "list" f
 | _ => false
noncomputable def after (o : Out) (σ₁ σ' : St) (out : Out) (k : Prop) : Prop := match o with
 | .next | .cont => k
 | .brk => out = .next ∧ σ' = σ₁
 | .ret v => out = .ret v ∧ σ' = σ₁
noncomputable def forGo (xs : XS) (sc : Scope) (x : Str) (body orelse : List Stmt) : List D → St → Out → St → Prop
 | [],σ,out,σ' => xs sc σ orelse out σ'
 | d :: ds,σ,out,σ' => ∃ o σ₁,xs sc (put x d σ) body o σ₁ ∧ after o σ₁ σ' out (forGo xs sc x body orelse ds σ₁ out σ')
noncomputable def whileGo (ts : TS) (xs : XS) (sc : Scope) (test : Expr) (body orelse : List Stmt) : Nat → St → Out → St → Prop
 | 0,_,_,_ => False
 | k + 1,σ,out,σ' => ∃ t,ts sc (view σ) test t ∧ if t then ∃ o σ₁,xs sc σ body o σ₁ ∧ after o σ₁ σ' out (whileGo ts xs sc test body orelse k σ₁ out σ') else xs sc σ orelse out σ'
noncomputable def given (x : Str) (e : Expr) (σ : St) : St := match nameP e with
 | some q => if q.1 == x then σ else (match σ.lookup q.1 with
   | some (.own ds) => put q.1 (.list ds) σ
   | _ => σ)
 | none => σ
noncomputable def augOk : Operator → Bool
 | .FloorDiv | .Mod | .Pow | .Mult => false
 | _ => true
noncomputable def okName (x : Str) : Bool := x != ("__debug__" : Str) && x != ("__classdict__" : Str)
noncomputable def noComp : Expr → Bool
 | .SetComp .. | .DictComp .. => false
 | _ => true
noncomputable def Le (h h' : Heap) : Prop := ∀ b o,h.get? b = some o → h'.get? b = some o
theorem Le.refl (h : Heap) : Le h h := fun _ _ e => e
theorem Le.trans {h h' h'' : Heap} (x : Le h h') (y : Le h' h'') : Le h h'' := fun b o e => y b o (x b o e)
theorem Le.push (h : Heap) (o : Obj) : Le h (h.push o) := fun _ _ e => Heap.get?_push_of_some _ e
mutual
noncomputable def El (B : Addr → Prop) (h : Heap) : D → Value → Prop
 | .nil,v => v = .none
 | .int n,v => ∃ t,v = .int n t
 | .bool b,v => v = .bool b
 | .str l,v => ∃ t,v = .str ⟨l.toArray⟩ t
 | .list ds,v => ∃ a vs,v = .ref a ∧ ¬ B a ∧ h.PlainList a (List.toArray vs) ∧ Els B h ds vs
 | .own _,_ => False
 | .bor _,_ => False
 | .dict _,_ => False
 | .texts _,_ => False
 | .sig l t,v => v = .str ⟨l.toArray⟩ t
 | .ptr a,v => v = .ref a
noncomputable def Els (B : Addr → Prop) (h : Heap) : List D → List Value → Prop
 | [],vs => vs = []
 | d :: ds,vs => ∃ v r,vs = v :: r ∧ El B h d v ∧ Els B h ds r
end
noncomputable def TabVals : List (Int × List Nat) → List (Int × Value) → Prop
 | [],kvs => kvs = []
 | e :: es,kvs => ∃ t r,kvs = (e.1,.str ⟨e.2.toArray⟩ t) :: r ∧ TabVals es r
section
variable (prog : Program) (w : World)
noncomputable def Den (B : Addr → Prop) (h : Heap) : D → Value → Prop
 | .bor ds,v => ∃ a vs,v = .ref a ∧ h.PlainList a (List.toArray vs) ∧ Els B h ds vs
 | .dict es,v => ∃ a kvs,v = .ref a ∧ ¬ B a ∧ (a == sysModules) = false ∧ h.DictOf (intKind prog w) a kvs ∧ TabVals es kvs
 | d,v => El B h d v
end
theorem Els.cons {B : Addr → Prop} {h : Heap} {d : D} {ds : List D} {v : Value} {vs : List Value} (x : El B h d v) (y : Els B h ds vs) : Els B h (d :: ds) (v :: vs) := ⟨v,vs,rfl,x,y⟩
theorem Els.nil {B : Addr → Prop} {h : Heap} : Els B h [] [] := rfl
mutual
theorem El.mono {B B' : Addr → Prop} {h h' : Heap} (hk : ∀ b o,¬ B b → h.get? b = some o → h'.get? b = some o ∧ ¬ B' b) : ∀ {d : D} {v : Value},El B h d v → El B' h' d v
 | .nil,_,x => x
 | .int _,_,x => x
 | .bool _,_,x => x
 | .str _,_,x => x
 | .sig _ _,_,x => x
 | .ptr _,_,x => x
 | .list _,_,x => by
  obtain ⟨a,vs,e,hb,⟨n,hp⟩,hr⟩ := x
  exact ⟨a,vs,e,(hk a _ hb hp).2,⟨n,(hk a _ hb hp).1⟩,Els.mono hk hr⟩
theorem Els.mono {B B' : Addr → Prop} {h h' : Heap} (hk : ∀ b o,¬ B b → h.get? b = some o → h'.get? b = some o ∧ ¬ B' b) : ∀ {ds : List D} {vs : List Value},Els B h ds vs → Els B' h' ds vs
 | [],_,x => x
 | _ :: _,_,x => by
  obtain ⟨v,r,e,hd,hr⟩ := x
  exact ⟨v,r,e,El.mono hk hd,Els.mono hk hr⟩
end
theorem El.le {B : Addr → Prop} {h h' : Heap} (hk : Le h h') {d : D} {v : Value} (x : El B h d v) : El B h' d v := x.mono fun b o hb e => ⟨hk b o e,hb⟩
theorem Els.le {B : Addr → Prop} {h h' : Heap} (hk : Le h h') {ds : List D} {vs : List Value} (x : Els B h ds vs) : Els B h' ds vs := x.mono fun b o hb e => ⟨hk b o e,hb⟩
theorem Els.length {B : Addr → Prop} {h : Heap} : ∀ {ds : List D} {vs : List Value},Els B h ds vs → vs.length = ds.length
 | [],_,x => by cases x; rfl
 | _ :: _,_,x => by obtain ⟨v,r,rfl,_,hr⟩ := x; simp [Els.length hr]
theorem Els.get {B : Addr → Prop} {h : Heap} : ∀ {ds : List D} {vs : List Value},Els B h ds vs → ∀ (i : Nat) {d : D},ds[i]? = some d → ∃ v,vs[i]? = some v ∧ El B h d v
 | [],_,_,i,d,e => by simp at e
 | _ :: _,_,x,0,d,e => by obtain ⟨v,r,rfl,hd,hr⟩ := x; simp at e; subst e; exact ⟨v,rfl,hd⟩
 | _ :: _,_,x,i + 1,d,e => by obtain ⟨v,r,rfl,hd,hr⟩ := x; simpa using Els.get hr i (by simpa using e)
theorem Els.getV {B : Addr → Prop} {h : Heap} : ∀ {ds : List D} {vs : List Value},Els B h ds vs → ∀ (i : Nat) {v : Value},vs[i]? = some v → ∃ d,ds[i]? = some d ∧ El B h d v
 | [],_,x,i,v,e => by cases x; simp at e
 | _ :: _,_,x,0,v,e => by obtain ⟨u,r,rfl,hd,hr⟩ := x; simp at e; subst e; exact ⟨_,rfl,hd⟩
 | _ :: _,_,x,i + 1,v,e => by obtain ⟨u,r,rfl,hd,hr⟩ := x; simpa using Els.getV hr i (by simpa using e)
theorem Els.append {B : Addr → Prop} {h : Heap} : ∀ {ds es : List D} {vs us : List Value},Els B h ds vs → Els B h es us → Els B h (ds ++ es) (vs ++ us)
 | [],_,_,_,x,y => by cases x; exact y
 | _ :: _,_,_,_,x,y => by obtain ⟨v,r,rfl,hd,hr⟩ := x; exact ⟨v,_,rfl,hd,Els.append hr y⟩
theorem Els.take {B : Addr → Prop} {h : Heap} : ∀ {ds : List D} {vs : List Value},Els B h ds vs → ∀ k : Nat,Els B h (ds.take k) (vs.take k)
 | _,_,_,0 => by simp; exact Els.nil
 | [],_,x,k + 1 => by cases x; exact Els.nil
 | _ :: _,_,x,k + 1 => by obtain ⟨v,r,rfl,hd,hr⟩ := x; exact ⟨v,_,rfl,hd,Els.take hr k⟩
theorem Els.drop {B : Addr → Prop} {h : Heap} : ∀ {ds : List D} {vs : List Value},Els B h ds vs → ∀ k : Nat,Els B h (ds.drop k) (vs.drop k)
 | _,_,x,0 => x
 | [],_,x,k + 1 => by cases x; exact Els.nil
 | _ :: _,_,x,k + 1 => by obtain ⟨v,r,rfl,hd,hr⟩ := x; exact Els.drop hr k
theorem Els.cut {B : Addr → Prop} {h : Heap} {ds : List D} {vs : List Value} (x : Els B h ds vs) (lo hi : Option Int) : Els B h (cut ds lo hi) (cut vs lo hi) := by
 unfold Mine.cut; rw [x.length]; exact (x.drop _).take _
theorem Els.repl {B : Addr → Prop} {h : Heap} {ds : List D} {vs : List Value} (x : Els B h ds vs) : ∀ k : Nat,Els B h (List.replicate k ds).flatten (List.replicate k vs).flatten
 | 0 => Els.nil
 | k + 1 => by simp only [List.replicate_succ,List.flatten_cons]; exact x.append (x.repl k)
theorem Els.set {B : Addr → Prop} {h : Heap} : ∀ {ds : List D} {vs : List Value},Els B h ds vs → ∀ (i : Nat) {d : D} {v : Value},El B h d v → Els B h (ds.set i d) (vs.set i v)
 | [],_,x,i,d,v,y => by cases x; exact Els.nil
 | _ :: _,_,x,0,d,v,y => by obtain ⟨u,r,rfl,hd,hr⟩ := x; exact ⟨v,_,rfl,y,hr⟩
 | _ :: _,_,x,i + 1,d,v,y => by obtain ⟨u,r,rfl,hd,hr⟩ := x; exact ⟨u,_,rfl,hd,Els.set hr i y⟩
theorem allM_cons {α β : Type} {f : α → Option β} {a : α} {r : List α} {bs : List β} (h : allM f (a :: r) = some bs) : ∃ b t,f a = some b ∧ allM f r = some t ∧ bs = b :: t := by
 rw [allM,Option.bind_eq_some_iff] at h
 obtain ⟨b,hb,h⟩ := h
 rw [Option.bind_eq_some_iff] at h
 obtain ⟨t,ht,h⟩ := h
 exact ⟨b,t,hb,ht,(Option.some.inj h).symm⟩
theorem allM_nil {α β : Type} {f : α → Option β} {bs : List β} (h : allM f [] = some bs) : bs = [] := (Option.some.inj h).symm
theorem Els.ints {B : Addr → Prop} {h : Heap} : ∀ {ds : List D} {vs : List Value} {ns : List Int},Els B h ds vs → intsOf ds = some ns → IntsAre vs ns
 | [],_,_,x,e => by cases x; cases allM_nil e; exact .nil
 | d :: ds,_,_,x,e => by
  obtain ⟨v,r,rfl,hd,hr⟩ := x
  obtain ⟨n,t,hn,ht,rfl⟩ := allM_cons e
  cases d <;> simp [intOf] at hn
  subst hn
  obtain ⟨tk,rfl⟩ := hd
  exact .cons _ tk (Els.ints hr ht)
theorem seqOf_of {B : Addr → Prop} {prog : Program} {w : World} {h : Heap} {d : D} {v : Value} {ds : List D} (x : Den prog w B h d v) (e : seqOf d = some ds) :
  ∃ a vs,v = .ref a ∧ h.PlainList a (List.toArray vs) ∧ Els B h ds vs := by
 cases d <;> simp [seqOf] at e
 ·subst e; obtain ⟨a,vs,e1,_,e2,e3⟩ := x; exact ⟨a,vs,e1,e2,e3⟩
 ·exact x.elim
 ·subst e; obtain ⟨a,vs,e1,e2,e3⟩ := x; exact ⟨a,vs,e1,e2,e3⟩
theorem Den.mono {B B' : Addr → Prop} {prog : Program} {w : World} {h h' : Heap} (hk : ∀ b o,¬ B b → h.get? b = some o → h'.get? b = some o ∧ ¬ B' b) (hl : Le h h') {d : D} {v : Value} (x : Den prog w B h d v) : Den prog w B' h' d v := by
 cases d with
 | bor ds => obtain ⟨a,vs,e1,⟨n,e2⟩,e3⟩ := x; exact ⟨a,vs,e1,⟨n,hl _ _ e2⟩,e3.mono hk⟩
 | dict es =>
  obtain ⟨a,kvs,e1,e2,e3,e4,e5⟩ := x
  refine ⟨a,kvs,e1,?_,e3,?_,e5⟩
  ·obtain ⟨o,_,_,ho,_⟩ := e4; exact (hk a o e2 ho).2
  ·exact e4.at fun o e => hl _ _ e
 | own ds => exact x.elim
 | texts ds => exact x.elim
 | _ => exact El.mono hk x
theorem Den.le {B : Addr → Prop} {prog : Program} {w : World} {h h' : Heap} (hk : Le h h') {d : D} {v : Value} (x : Den prog w B h d v) : Den prog w B h' d v := x.mono (fun b o hb e => ⟨hk b o e,hb⟩) hk
theorem Den.of_el {B : Addr → Prop} {prog : Program} {w : World} {h : Heap} {d : D} {v : Value} (x : El B h d v) : Den prog w B h d v := by
 cases d <;> first | exact x | exact x.elim
theorem Den.el {B : Addr → Prop} {prog : Program} {w : World} {h : Heap} {d : D} {v : Value} (x : Den prog w B h d v) (e : d.isEl = true) : El B h d v := by
 cases d <;> first | exact x | cases e
noncomputable def Amb (lv : Nat) (A : Around) : Prop := A.handled = none ∧ A.depth + lv < recursionLimit ∧ A.units + 8 * lv + 100 < cLine
noncomputable def Kp (s s' : Shared) : Prop := ∃ h' tk,s' = { s with heap := h',toks := tk } ∧ Le s.heap h'
noncomputable def Yd (prog : Program) (w : World) (B : Addr → Prop) (A : Around) (s : Shared) (t : Sem Value) (d : D) : Prop :=
 ∀ (Q : Value → Shared → Prop) (E : Value → Shared → Prop),(∀ v s',Kp s s' → Den prog w B s'.heap d v → Q v s') → wpAny (model prog w) A t Q E s
theorem Kp.rfl' (s : Shared) : Kp s s := ⟨s.heap,s.toks,rfl,fun _ _ e => e⟩
theorem Kp.tok (s : Shared) (t : Nat) : Kp s { s with toks := t } := ⟨s.heap,t,rfl,fun _ _ e => e⟩
theorem Kp.heap {s : Shared} {h' : Heap} {t : Nat} (hk : Le s.heap h') : Kp s { s with heap := h',toks := t } := ⟨h',t,rfl,hk⟩
theorem Kp.le {s s' : Shared} (x : Kp s s') : Le s.heap s'.heap := by obtain ⟨h',t,rfl,hk⟩ := x; exact hk
theorem Kp.trans {s s' s'' : Shared} (x : Kp s s') (y : Kp s' s'') : Kp s s'' := by
 obtain ⟨h',t,rfl,hk⟩ := x
 obtain ⟨h'',t',rfl,hk'⟩ := y
 exact ⟨h'',t',rfl,fun b o e => hk' b o (hk b o e)⟩
noncomputable def Below' (B : Addr → Prop) (s : Shared) : Prop := ∀ b,B b → b < s.heap.objs.size
section
variable {prog : Program} {w : World} {A : Around} {B : Addr → Prop} {s : Shared}
theorem yd_int {t : Sem Value} {n : Int} (h : ∀ (Q E : Value → Shared → Prop),(∀ tk s',Kp s s' → Q (.int n tk) s') → wpAny (model prog w) A t Q E s) : Yd prog w B A s t (.int n) :=
 fun Q E hQ => h Q E fun tk s' hk => hQ _ s' hk ⟨tk,rfl⟩
theorem yd_str {t : Sem Value} {l : List Nat} (h : ∀ (Q E : Value → Shared → Prop),(∀ tk s',Kp s s' → Q (.str ⟨l.toArray⟩ tk) s') → wpAny (model prog w) A t Q E s) : Yd prog w B A s t (.str l) :=
 fun Q E hQ => h Q E fun tk s' hk => hQ _ s' hk ⟨tk,rfl⟩
theorem yd_bool {t : Sem Value} {b : Bool} (h : ∀ (Q E : Value → Shared → Prop),(∀ s',Kp s s' → Q (.bool b) s') → wpAny (model prog w) A t Q E s) : Yd prog w B A s t (.bool b) :=
 fun Q E hQ => h Q E fun s' hk => hQ _ s' hk rfl
theorem new_list {vs : List Value} {ds : List D} (hb : Below' B s) (x : Els B s.heap ds vs) : Den prog w B (s.heap.push { cls := .type "list",data := .seq vs.toArray }) (.list ds) (.ref s.heap.objs.size) :=
 ⟨_,vs,rfl,fun hB => Nat.lt_irrefl _ (hb _ hB),⟨_,Heap.get?_push_size _ rfl⟩,x.le (Le.push _ _)⟩
theorem yd_list {t : Sem Value} {vs : List Value} {ds : List D} (hb : Below' B s) (x : Els B s.heap ds vs)
  (h : ∀ (Q E : Value → Shared → Prop),Q (.ref s.heap.objs.size) { s with heap := s.heap.push { cls := .type "list",data := .seq vs.toArray } } → wpAny (model prog w) A t Q E s) : Yd prog w B A s t (.list ds) :=
 fun Q E hQ => h Q E (hQ _ _ (Kp.heap (t := s.toks) (Le.push _ _)) (new_list hb x))
theorem small_lt {n : Int} (h : small n = true) : n.natAbs < 2 ^ 62 := by simpa [small] using h
theorem fits_le {n : Nat} (h : fits n = true) : n ≤ 1000000 := by simpa [fits] using h
theorem fits_line {n : Nat} (h : fits n = true) : n ≤ sizeLine := by have := fits_le h; rw [sizeLine_eq]; lia
theorem str_append (x y : List Nat) : (⟨x.toArray⟩ : Str) ++ (⟨y.toArray⟩ : Str) = ⟨(x ++ y).toArray⟩ := by
 show Str.mk (x.toArray ++ y.toArray) = _
 simp
theorem den_int {h : Heap} {n : Int} {v : Value} (x : Den prog w B h (.int n) v) : ∃ t,v = .int n t := x
theorem den_str {h : Heap} {l : List Nat} {v : Value} (x : Den prog w B h (.str l) v) : ∃ t,v = .str ⟨l.toArray⟩ t := x
theorem den_bool {h : Heap} {b : Bool} {v : Value} (x : Den prog w B h (.bool b) v) : v = .bool b := x
theorem den_nil {h : Heap} {v : Value} (x : Den prog w B h .nil v) : v = .none := x
theorem mul_list_plain {l : Addr} {items : Array Value} {x : Int} {u : Tok} {Q E : Value → Shared → Prop} (hl : s.heap.PlainList l items)
  (hlo : -(2 ^ 63 : Int) ≤ x) (hhi : x < 2 ^ 63) (hsz : items.size * x.toNat ≤ 2 ^ 24)
  (h : Q (.ref s.heap.objs.size) { s with heap := s.heap.push { cls := .type "list",data := .seq (List.foldl (fun x1 x2 => x1 ++ x2) #[] (List.replicate (if items.isEmpty = true then 0 else x.toNat) items)) } }) :
  wpAny (model prog w) A (binaryOp .Mult (.ref l) (.int x u)) Q E s := by
 obtain ⟨k,hl⟩ := hl
 exact wpAny_binaryOp_repeat_ref (T := "list") (U := "int") (by decide) ⟨_,hl,rfl⟩ (fun s' => typeIs_int s' x u) noFill_list_mul F.fills_int_mul F.slot_int_rmul repeat_list F.slot_int_index.lookup
  (call_meets F.slot_int_rmul (typeIs_int s x u) F.entry_int_rmul (F.args_int_rmul_2 _ _) (int___rmul___int_list x u l items k)
   ⟨hl,rfl,⟨_,hl,rfl⟩,call_meets F.slot_list_mul ⟨_,hl,rfl⟩ F.entry_list_mul (F.args_list_mul_2 _ _)
    (AutoListH.list___mul___list_int_3 l items k x u (by simp [Builtin.List.listFitsIndex]; lia) (by lia) (by simp [Builtin.List.listTooLong,sizeLine]; lia))
    ⟨hl,h⟩⟩)
theorem foldl_app (acc : List Value) (vs : List Value) : ∀ k : Nat,List.foldl (fun x1 x2 => x1 ++ x2) acc.toArray (List.replicate k vs.toArray) = (acc ++ (List.replicate k vs).flatten).toArray
 | 0 => by simp
 | k + 1 => by
  rw [List.replicate_succ,List.foldl_cons,List.append_toArray,foldl_app _ vs k,List.replicate_succ,List.flatten_cons,List.append_assoc]
theorem flatten_nils {α : Type} : ∀ k : Nat,(List.replicate k ([] : List α)).flatten = []
 | 0 => rfl
 | k + 1 => by rw [List.replicate_succ,List.flatten_cons,flatten_nils k]; rfl
theorem mul_items (vs : List Value) (k : Nat) : List.foldl (fun x1 x2 => x1 ++ x2) #[] (List.replicate (if vs.toArray.isEmpty = true then 0 else k) vs.toArray) = ((List.replicate k vs).flatten).toArray := by
 cases vs with
 | nil => simp
 | cons v r =>
  have := foldl_app [] (v :: r) k
  simpa using this
theorem add_lists_plain {l b : Addr} {vs us : List Value} {Q E : Value → Shared → Prop} (hl : s.heap.PlainList l vs.toArray) (hb : s.heap.PlainList b us.toArray) (hsz : vs.length + us.length ≤ sizeLine)
  (h : Q (.ref s.heap.objs.size) { s with heap := s.heap.push { cls := .type "list",data := .seq (vs ++ us).toArray } }) :
  wpAny (model prog w) A (binaryOp .Add (.ref l) (.ref b)) Q E s := by
 obtain ⟨n,ho⟩ := hl
 obtain ⟨n2,ho2⟩ := hb
 have e : vs.toArray ++ us.toArray = (vs ++ us).toArray := by simp
 refine concat_meets ⟨_,ho,rfl⟩ ⟨_,ho2,rfl⟩ noFill_list_add seq_list_add PySem.F.slot_list_add PySem.F.entry_list_add (PySem.F.args_list_add_2 _ _) (list_addW l b vs.toArray us.toArray n n2 none none #[] #[] (by simpa using hsz)) ⟨ho,ho2,?_⟩
 rw [e]
 exact h
end
section
variable {prog : Program} {w : World} {A : Around} {B : Addr → Prop} {s : Shared}
theorem mulOk_of_fits {x : Str} {n : Int} (hs : small n = true) (hf : fits (x.length * n.toNat) = true) : MulOk x n := by
 have h1 := small_lt hs
 have h2 := fits_le hf
 refine ⟨?_,fun h3 h4 => ?_,fun h3 h4 => ?_⟩
 ·have a1 : ¬ n < -(2 ^ 63 : Int) := by lia
  have a2 : ¬ n ≥ (2 ^ 63 : Int) := by lia
  rw [decide_eq_false a1,decide_eq_false a2]; rfl
 ·have hpos : 0 < n := by lia
  have e : ((x.length * n.toNat : Nat) : Int) = (x.length : Int) * n := by
   rw [Int.natCast_mul,Int.toNat_of_nonneg (by lia)]
  have h5 : (x.length : Int) * n ≤ 2 ^ 63 - 1 := by rw [← e]; lia
  have h6 : (x.length : Int) ≤ (2 ^ 63 - 1) / n := (Int.le_ediv_iff_mul_le hpos).mpr h5
  lia
 ·exact short24 (by lia)
theorem txt_mul (l : List Nat) (n : Int) : Txt.mul ⟨l.toArray⟩ n = ⟨((List.replicate n.toNat l).flatten).toArray⟩ := by
 unfold Txt.mul
 have key : ∀ (k : Nat) (acc : List Nat),(List.replicate k l.toArray).foldl (· ++ ·) acc.toArray = (acc ++ (List.replicate k l).flatten).toArray := by
  intro k
  induction k with
  | zero => intro acc; simp
  | succ k ih => intro acc; rw [List.replicate_succ,List.foldl_cons,List.append_toArray,ih,List.replicate_succ,List.flatten_cons,List.append_assoc]
 by_cases h1 : n < 1
 ·rw [if_pos h1,show n.toNat = 0 by lia]; rfl
 ·rw [if_neg h1]
  split
  ·rename_i hc
   rw [Bool.or_eq_true,beq_iff_eq,beq_iff_eq] at hc
   rcases hc with h | h
   ·subst h; simp
   ·have : l = [] := by simpa [Str.length] using h
    subst this
    rw [flatten_nils]
  ·have := key n.toNat []
   simpa using this
theorem intOf_eq {d : D} {n : Int} : intOf d = some n → d = .int n := by
 cases d with
 | int m => intro h; cases h; rfl
 | _ => exact no
theorem strOf_eq {d : D} {l : List Nat} : strOf d = some l → d = .str l := by
 cases d with
 | str m => intro h; cases h; rfl
 | _ => exact no
theorem intB_inv {f : Int → Int → Option D} {a b d : D} (e : intB f a b = some d) : ∃ x y,a = .int x ∧ b = .int y ∧ f x y = some d :=
 let ⟨x,hx,e⟩ := b2 e; let ⟨y,hy,e⟩ := b2 e; ⟨x,y,intOf_eq hx,intOf_eq hy,e⟩
theorem ite_inv {α : Type} {c : Bool} {x d : α} (e : (if c then some x else none) = some d) : c = true ∧ x = d := by
 cases c with
 | true => exact ⟨rfl,Option.some.inj e⟩
 | false => first | exact no e | exact nof e | cases e
section
variable {a b d : D} {va vb : Value}
theorem add_seq (hb : Below' B s) (xb : Den prog w B s.heap b vb) (xa : Den prog w B s.heap a va) (e : ((seqOf a).bind fun x => (seqOf b).bind fun y => if fits (x.length + y.length) then some (D.list (x ++ y)) else none) = some d) : Yd prog w B A s (binaryOp .Add va vb) d := by
 obtain ⟨ds,h1,e⟩ := b2 e
 obtain ⟨es,h2,e⟩ := b2 e
 obtain ⟨hf,rfl⟩ := ite_inv e
 obtain ⟨l1,vs,rfl,p1,q1⟩ := seqOf_of xa h1
 obtain ⟨l2,us,rfl,p2,q2⟩ := seqOf_of xb h2
 exact yd_list hb (q1.append q2) fun Q E hQ => add_lists_plain p1 p2 (by rw [q1.length,q2.length]; exact fits_line hf) hQ
theorem add_sound (hb : Below' B s) (e : addD a b = some d) (xa : Den prog w B s.heap a va) (xb : Den prog w B s.heap b vb) : Yd prog w B A s (binaryOp .Add va vb) d := by
 revert xa e
 cases a with
 | int x =>
  intro e xa
  obtain ⟨y,hy,rfl⟩ := m2 e
  obtain rfl := intOf_eq hy
  obtain ⟨t,rfl⟩ := den_int xa; obtain ⟨u,rfl⟩ := den_int xb
  exact yd_int fun Q E hQ => PyProof.Rows.add_int (hQ _ _ (Kp.tok _ _))
 | str x =>
  intro e xa
  obtain ⟨y,hy,e⟩ := b2 e
  obtain rfl := strOf_eq hy
  obtain ⟨hf,rfl⟩ := ite_inv e
  obtain ⟨t,rfl⟩ := den_str xa; obtain ⟨u,rfl⟩ := den_str xb
  refine yd_str fun Q E hQ => PyProof.Rows.add_str (fun t' tk => ?_) (by simpa [Str.length] using fits_line hf)
  rw [str_append]
  exact hQ _ _ (Kp.tok _ _)
 | _ => exact fun e xa => add_seq hb xb xa e
theorem mul_seq (hb : Below' B s) (xb : Den prog w B s.heap b vb) (xa : Den prog w B s.heap a va) (e : ((seqOf a).bind fun x => (intOf b).bind fun k => if small k && fits (x.length * k.toNat) then some (D.list (List.replicate k.toNat x).flatten) else none) = some d) : Yd prog w B A s (binaryOp .Mult va vb) d := by
 obtain ⟨ds,h1,e⟩ := b2 e
 obtain ⟨k,hk,e⟩ := b2 e
 obtain rfl := intOf_eq hk
 obtain ⟨hf,rfl⟩ := ite_inv e
 rw [Bool.and_eq_true] at hf
 have hs := small_lt hf.1
 have hl := fits_le hf.2
 obtain ⟨l1,vs,rfl,p1,q1⟩ := seqOf_of xa h1
 obtain ⟨u,rfl⟩ := den_int xb
 refine yd_list hb (q1.repl _) fun Q E hQ => mul_list_plain p1 (by lia) (by lia) (by rw [List.size_toArray,q1.length]; lia) ?_
 rw [mul_items]
 exact hQ
theorem mul_sound (hb : Below' B s) (e : mulD a b = some d) (xa : Den prog w B s.heap a va) (xb : Den prog w B s.heap b vb) : Yd prog w B A s (binaryOp .Mult va vb) d := by
 revert xa e
 cases a with
 | int x =>
  intro e xa
  obtain ⟨y,hy,e⟩ := b2 e
  obtain rfl := intOf_eq hy
  obtain ⟨hs,rfl⟩ := ite_inv e
  obtain ⟨t,rfl⟩ := den_int xa; obtain ⟨u,rfl⟩ := den_int xb
  rw [Bool.and_eq_true] at hs
  have h1 := small_lt hs.1
  exact yd_int fun Q E hQ => PyProof.Rows.mul_int (hm := IntMulOk.of_left (intBits_le_64 (by lia) (by lia))) (hQ _ _ (Kp.tok _ _))
 | str x =>
  intro e xa
  obtain ⟨y,hy,e⟩ := b2 e
  obtain rfl := intOf_eq hy
  obtain ⟨hf,rfl⟩ := ite_inv e
  obtain ⟨t,rfl⟩ := den_str xa; obtain ⟨u,rfl⟩ := den_int xb
  rw [Bool.and_eq_true] at hf
  refine yd_str fun Q E hQ => SB.mul (mulOk_of_fits hf.1 (by simpa [Str.length] using hf.2)) fun t' k => ?_
  rw [txt_mul]
  exact hQ _ _ (Kp.tok _ _)
 | _ => exact fun e xa => mul_seq hb xb xa e
theorem intB_sound {g : Value → Value → Sem Value} {f : Int → Int → Option D} (e : intB f a b = some d) (xa : Den prog w B s.heap a va) (xb : Den prog w B s.heap b vb) (k : ∀ x y t u,f x y = some d → Yd prog w B A s (g (.int x t) (.int y u)) d) : Yd prog w B A s (g va vb) d := by
 obtain ⟨x,y,rfl,rfl,e⟩ := intB_inv e
 obtain ⟨t,rfl⟩ := den_int xa; obtain ⟨u,rfl⟩ := den_int xb
 exact k x y t u e
theorem shift_ok {x y : Int} (h : (decide (0 ≤ y) && decide (y ≤ 1000) && small x) = true) : 0 ≤ y ∧ y ≤ 1000 ∧ x.natAbs < 2 ^ 62 := by
 simp only [Bool.and_eq_true,decide_eq_true_eq] at h
 exact ⟨h.1.1,h.1.2,small_lt h.2⟩
theorem noPy {x y : Int} (h : small y = true) : Builtin.divisionGoesByPylong x y = false := PyProof.noPylong_of_log2 (by
 have h1 := small_lt h
 rcases Nat.eq_zero_or_pos y.natAbs with h0 | hp
 ·rw [h0]; decide +kernel
 ·exact Nat.lt_trans ((Nat.log2_lt (Nat.ne_of_gt hp)).mpr h1) (by decide))
theorem binop_sound {lv : Nat} {op : Operator} (hA : Amb lv A) (hb : Below' B s) (e : binop op a b = some d) (xa : Den prog w B s.heap a va) (xb : Den prog w B s.heap b vb) :
  Yd prog w B A s (binaryOp op va vb) d := by
 cases op with
 | Add => exact add_sound hb e xa xb
 | Mult => exact mul_sound hb e xa xb
 | Sub => exact intB_sound e xa xb fun x y t u e => Option.some.inj e ▸ yd_int fun Q E hQ => PyProof.Rows.sub_int (hQ _ _ (Kp.tok _ _))
 | FloorDiv =>
  exact intB_sound e xa xb fun x y t u e => by
   obtain ⟨hy,rfl⟩ := ite_inv e
   rw [Bool.and_eq_true] at hy
   exact yd_int fun Q E hQ => floordiv_int (by simpa using hy.1) (hQ _ _ (Kp.tok _ _)) (.inl (noPy hy.2))
 | Mod =>
  exact intB_sound e xa xb fun x y t u e => by
   split at e
   ·exact no e
   ·rename_i hy
    cases e
    exact yd_int fun Q E hQ => PyProof.Rows.mod_int (by simpa using hy) (hQ _ _ (Kp.tok _ _))
 | Pow =>
  exact intB_sound e xa xb fun x y t u e => by
   obtain ⟨hy,rfl⟩ := ite_inv e
   have hy := shift_ok hy
   exact yd_int fun Q E hQ => pow_int_small hy.1 (by lia) (by lia) (hQ _ _ (Kp.tok _ _))
 | LShift =>
  exact intB_sound e xa xb fun x y t u e => by
   obtain ⟨hy,rfl⟩ := ite_inv e
   have hy := shift_ok hy
   exact yd_int fun Q E hQ => lshift_int_small hy.1 (by lia) (by lia) (hQ _ _ (Kp.tok _ _))
 | BitOr => exact intB_sound e xa xb fun x y t u e => Option.some.inj e ▸ yd_int fun Q E hQ => or_int (hQ _ _ (Kp.tok _ _))
 | BitAnd => exact intB_sound e xa xb fun x y t u e => Option.some.inj e ▸ yd_int fun Q E hQ => and_int (hQ _ _ (Kp.tok _ _))
 | BitXor => exact intB_sound e xa xb fun x y t u e => Option.some.inj e ▸ yd_int fun Q E hQ => xor_int (hQ _ _ (Kp.tok _ _))
 | _ => exact no e
theorem iadd_sound (sa : a.isScalar = true) (xb : Den prog w B s.heap b vb) (xa : Den prog w B s.heap a va) (e : addD a b = some d) : Yd prog w B A s (inplaceOp .Add va vb) d := by
 revert sa e xa
 cases a with
 | int x =>
  intro sa xa e
  obtain ⟨y,hy,rfl⟩ := m2 e
  obtain rfl := intOf_eq hy
  obtain ⟨t,rfl⟩ := den_int xa; obtain ⟨u,rfl⟩ := den_int xb
  exact yd_int fun Q E hQ => PyProof.Rows.iadd_int (hQ _ _ (Kp.tok _ _))
 | str x =>
  intro sa xa e
  obtain ⟨y,hy,e⟩ := b2 e
  obtain rfl := strOf_eq hy
  obtain ⟨hf,rfl⟩ := ite_inv e
  obtain ⟨t,rfl⟩ := den_str xa; obtain ⟨u,rfl⟩ := den_str xb
  refine yd_str fun Q E hQ => PyProof.Rows.iadd_str (fun t' tk => ?_) (by simpa [Str.length] using fits_line hf)
  rw [str_append]
  exact hQ _ _ (Kp.tok _ _)
 | nil => exact fun _ _ => no
 | bool _ => exact fun _ _ => no
 | _ => exact nof
theorem inplace_sound {lv : Nat} {op : Operator} (hA : Amb lv A) (e : binop op a b = some d) (sa : a.isScalar = true) (sb : b.isScalar = true)
  (hop : op ≠ .FloorDiv ∧ op ≠ .Mod ∧ op ≠ .Pow ∧ op ≠ .Mult) (xa : Den prog w B s.heap a va) (xb : Den prog w B s.heap b vb) : Yd prog w B A s (inplaceOp op va vb) d := by
 cases op with
 | Add => exact iadd_sound sa xb xa e
 | Mult => exact absurd rfl hop.2.2.2
 | FloorDiv => exact absurd rfl hop.1
 | Mod => exact absurd rfl hop.2.1
 | Pow => exact absurd rfl hop.2.2.1
 | Sub => exact intB_sound e xa xb fun x y t u e => Option.some.inj e ▸ yd_int fun Q E hQ => PyProof.Rows.isub_int (hQ _ _ (Kp.tok _ _))
 | LShift =>
  exact intB_sound e xa xb fun x y t u e => by
   obtain ⟨hy,rfl⟩ := ite_inv e
   have hy := shift_ok hy
   exact yd_int fun Q E hQ => ilshift_int_small hy.1 (by lia) (by lia) (hQ _ _ (Kp.tok _ _))
 | BitOr => exact intB_sound e xa xb fun x y t u e => Option.some.inj e ▸ yd_int fun Q E hQ => ior_int (hQ _ _ (Kp.tok _ _))
 | BitAnd => exact intB_sound e xa xb fun x y t u e => Option.some.inj e ▸ yd_int fun Q E hQ => iand_int (hQ _ _ (Kp.tok _ _))
 | BitXor => exact intB_sound e xa xb fun x y t u e => Option.some.inj e ▸ yd_int fun Q E hQ => ixor_int (hQ _ _ (Kp.tok _ _))
 | _ => exact no e
end
end
section
variable {prog : Program} {w : World} {A : Around} {B : Addr → Prop} {s : Shared}
theorem amb_units {lv : Nat} {A : Around} (h : Amb lv A) : A.units + 64 < cLine := by have := h.2.2; lia
theorem amb_units0 {lv : Nat} {A : Around} (h : Amb lv A) : A.units < cLine := by have := h.2.2; lia
noncomputable def Tr (prog : Program) (w : World) (A : Around) (s : Shared) (t : Sem Bool) (b : Bool) : Prop :=
 ∀ (Q : Bool → Shared → Prop) (E : Value → Shared → Prop),(∀ s',Kp s s' → Q b s') → wpAny (model prog w) A t Q E s
theorem listEq_sound {lv : Nat} {a b : D} {c : Bool} {va vb : Value} (hA : Amb lv A) (e : listEq a b = some c) (xa : Den prog w B s.heap a va) (xb : Den prog w B s.heap b vb) :
  (∀ (Q E : Value → Shared → Prop),Q (.bool c) s → wpAny (model prog w) A (compareOp .Eq va vb) Q E s) ∧
  (∀ (Q E : Value → Shared → Prop),Q (.bool (!c)) s → wpAny (model prog w) A (compareOp .NotEq va vb) Q E s) := by
 unfold listEq at e
 rw [Option.bind_eq_some_iff] at e
 obtain ⟨ds,h1,e⟩ := e
 rw [Option.bind_eq_some_iff] at e
 obtain ⟨es,h2,e⟩ := e
 obtain ⟨l1,vs,rfl,p1,q1⟩ := seqOf_of xa h1
 obtain ⟨l2,us,rfl,p2,q2⟩ := seqOf_of xb h2
 split at e
 ·split at e
  ·rename_i xs ys hx hy
   cases e
   have i1 := q1.ints hx
   have i2 := q2.ints hy
   have hd : decide (xs = ys) = (xs == ys) := by by_cases h : xs = ys <;> simp [h]
   exact ⟨fun Q E hQ => ke_eq_ints p1.isList p2.isList i1 i2 (amb_units hA) (by rw [hd]; exact hQ),fun Q E hQ => ke_ne_ints p1.isList p2.isList i1 i2 (amb_units hA) (by rw [hd]; exact hQ)⟩
  ·rename_i hno
   split at e
   ·rename_i hy
    cases e
    have hes : es = [] := by simpa using hy
    subst hes
    cases hds : ds with
    | nil => exact absurd rfl (hno [] [] (by rw [hds]; rfl))
    | cons d r =>
     subst hds
     have hsz : (vs.toArray.size != us.toArray.size) = true := by
      have h3 := q1.length
      have h4 := q2.length
      simp only [List.size_toArray,h3,h4]
      simp
     refine ⟨fun Q E hQ => SeqAt.eq_list_lengthsAt p1.isList p2.isList hsz (amb_units0 hA) ?_,fun Q E hQ => ?_⟩
     ·simpa using hQ
     ·show wpAny _ _ (richCompare .NotEq _ _) _ _ _
      exact SeqAt.RcNeAt.lists_lengths p1.isList p2.isList hsz (amb_units0 hA) prog w E Q (by simpa using hQ)
   ·cases e
 ·cases e
theorem str_beq (x y : List Nat) : ((⟨x.toArray⟩ : Str) == (⟨y.toArray⟩ : Str)) = (x == y) := by
 by_cases h : x = y
 ·subst h; simp
 ·rw [beq_eq_false_iff_ne.mpr h,beq_eq_false_iff_ne]
  intro e; exact h (by simpa using e)
theorem str_bne (x y : List Nat) : ((⟨x.toArray⟩ : Str) != (⟨y.toArray⟩ : Str)) = (x != y) := by
 simp only [bne,str_beq]
theorem tab_lookup : ∀ {es : List (Int × List Nat)} {kvs : List (Int × Value)},TabVals es kvs → ∀ n : Int,
  match es.lookup n with
  | some l => ∃ t,valueAt kvs n = some (.str ⟨l.toArray⟩ t)
  | none => valueAt kvs n = none
 | [],_,x,n => by cases x; rfl
 | (k,l) :: r,_,x,n => by
  obtain ⟨t,kr,rfl,hr⟩ := x
  have ih := tab_lookup hr n
  rw [List.lookup_cons]
  by_cases h : n = k
  ·subst h
   simp only [beq_self_eq_true]
   exact ⟨t,by simp [valueAt]⟩
  ·have h' : (n == k) = false := by simpa using h
   have h'' : ¬ (k = n) := fun e => h e.symm
   simp only [h']
   have hv : valueAt ((k,Value.str ⟨l.toArray⟩ t) :: kr) n = valueAt kr n := by simp [valueAt,h'']
   rw [hv]; exact ih
theorem intKind_is (n : Int) (t : Tok) : (intKind prog w).is n (.int n t) = true := by
 show _ = true
 simp [intKind,Value.isInt]
theorem isNil_eq {b : D} : isNil b = true → b = .nil := by
 cases b with
 | nil => exact fun _ => rfl
 | _ => exact nof
theorem boolOf_eq {b : D} {x : Bool} : boolOf b = some x → b = .bool x := by
 cases b with
 | bool y => intro h; cases h; rfl
 | _ => exact no
theorem textsOf_eq {b : D} {x : List (List Nat)} : textsOf b = some x → b = .texts x := by
 cases b with
 | texts y => intro h; cases h; rfl
 | _ => exact no
theorem dictOf_eq {b : D} {x : List (Int × List Nat)} : dictOf b = some x → b = .dict x := by
 cases b with
 | dict y => intro h; cases h; rfl
 | _ => exact no
section
variable {lv : Nat} {a b : D} {c : Bool} {va vb : Value}
theorem intC_sound {op : CmpOp} {f : Int → Int → Bool} (e : intC f a b = some c) (xa : Den prog w B s.heap a va) (xb : Den prog w B s.heap b vb) (k : ∀ x y t u,Yd prog w B A s (compareOp op (.int x t) (.int y u)) (.bool (f x y))) : Yd prog w B A s (compareOp op va vb) (.bool c) := by
 obtain ⟨x,hx,e1⟩ := b2 e
 obtain ⟨y,hy,rfl⟩ := m2 e1
 obtain rfl := intOf_eq hx
 obtain rfl := intOf_eq hy
 obtain ⟨t,rfl⟩ := den_int xa; obtain ⟨u,rfl⟩ := den_int xb
 exact k x y t u
theorem eq_other (hA : Amb lv A) (xa : Den prog w B s.heap a va) (xb : Den prog w B s.heap b vb) (e : listEq a b = some c) : Yd prog w B A s (compareOp .Eq va vb) (.bool c) := yd_bool fun Q E hQ => (listEq_sound hA e xa xb).1 Q E (hQ _ (Kp.rfl' _))
theorem ne_other (hA : Amb lv A) (xa : Den prog w B s.heap a va) (xb : Den prog w B s.heap b vb) (e : (listEq a b).map (!·) = some c) : Yd prog w B A s (compareOp .NotEq va vb) (.bool c) := by
 obtain ⟨c',e',rfl⟩ := m2 e
 exact yd_bool fun Q E hQ => (listEq_sound hA e' xa xb).2 Q E (hQ _ (Kp.rfl' _))
theorem eqD_sound (hA : Amb lv A) (xb : Den prog w B s.heap b vb) : Den prog w B s.heap a va → eqD a b = some c → Yd prog w B A s (compareOp .Eq va vb) (.bool c) := by
 cases a with
 | int x =>
  intro xa e
  obtain ⟨y,hy,rfl⟩ := m2 e
  obtain rfl := intOf_eq hy
  obtain ⟨t,rfl⟩ := den_int xa; obtain ⟨u,rfl⟩ := den_int xb
  exact yd_bool fun Q E hQ => PyProof.Rows.eq_int (hQ _ (Kp.rfl' _))
 | str x =>
  intro xa e
  obtain ⟨y,hy,rfl⟩ := m2 e
  obtain rfl := strOf_eq hy
  obtain ⟨t,rfl⟩ := den_str xa; obtain ⟨u,rfl⟩ := den_str xb
  exact yd_bool fun Q E hQ => PyProof.Rows.eq_str (by rw [str_beq]; exact hQ _ (Kp.rfl' _))
 | _ => exact fun xa => eq_other hA xa xb
theorem neD_sound (hA : Amb lv A) (xb : Den prog w B s.heap b vb) : Den prog w B s.heap a va → neD a b = some c → Yd prog w B A s (compareOp .NotEq va vb) (.bool c) := by
 cases a with
 | int x =>
  intro xa e
  obtain ⟨y,hy,rfl⟩ := m2 e
  obtain rfl := intOf_eq hy
  obtain ⟨t,rfl⟩ := den_int xa; obtain ⟨u,rfl⟩ := den_int xb
  exact yd_bool fun Q E hQ => PyProof.Rows.ne_int (hQ _ (Kp.rfl' _))
 | str x =>
  intro xa e
  obtain ⟨y,hy,rfl⟩ := m2 e
  obtain rfl := strOf_eq hy
  obtain ⟨t,rfl⟩ := den_str xa; obtain ⟨u,rfl⟩ := den_str xb
  exact yd_bool fun Q E hQ => PyProof.Rows.ne_str (by rw [str_bne]; exact hQ _ (Kp.rfl' _))
 | _ => exact fun xa => ne_other hA xa xb
theorem isD_sound (xb : Den prog w B s.heap b vb) : Den prog w B s.heap a va → isD a b = some c → Yd prog w B A s (compareOp .Is va vb) (.bool c) := by
 cases a with
 | nil =>
  intro xa e
  obtain ⟨h,rfl⟩ := ite_inv e
  obtain rfl := isNil_eq h
  cases den_nil xa; cases den_nil xb
  exact yd_bool fun Q E hQ => is_none_none (hQ _ (Kp.rfl' _))
 | str l =>
  intro xa e
  obtain ⟨h,rfl⟩ := ite_inv e
  obtain rfl := isNil_eq h
  obtain ⟨t,rfl⟩ := den_str xa; cases den_nil xb
  exact yd_bool fun Q E hQ => is_str_none (hQ _ (Kp.rfl' _))
 | bool x =>
  intro xa e
  obtain ⟨y,hy,rfl⟩ := m2 e
  obtain rfl := boolOf_eq hy
  cases den_bool xa; cases den_bool xb
  exact yd_bool fun Q E hQ => is_bool (hQ _ (Kp.rfl' _))
 | _ => exact fun _ => no
theorem inD_sound (hb : ∀ ls,b ≠ .texts ls) (xb : Den prog w B s.heap b vb) : Den prog w B s.heap a va → inD a b = some c → Yd prog w B A s (compareOp .In va vb) (.bool c) := by
 cases a with
 | str l =>
  intro xa e
  obtain ⟨y,hy,_⟩ := m2 e
  exact absurd (textsOf_eq hy) (hb y)
 | int n =>
  intro xa e
  obtain ⟨es,hy,rfl⟩ := m2 e
  obtain rfl := dictOf_eq hy
  obtain ⟨t,rfl⟩ := den_int xa
  obtain ⟨d,kvs,rfl,_,hd,hm,ht⟩ := xb
  have := tab_lookup ht n
  refine yd_bool fun Q E hQ => wpAny_in_of (intKind_is n t) hd hm.mapOf ?_
  cases hl : es.lookup n with
  | none => rw [hl] at this hQ; rw [this]; exact hQ _ (Kp.tok _ _)
  | some l => rw [hl] at this hQ; obtain ⟨u,hu⟩ := this; rw [hu]; exact hQ _ (Kp.tok _ _)
 | _ => exact fun _ => no
theorem cmpop_sound {op : CmpOp} (hA : Amb lv A) (e : cmpop op a b = some c) (hb : ∀ ls,b ≠ .texts ls) (xa : Den prog w B s.heap a va) (xb : Den prog w B s.heap b vb) :
  Yd prog w B A s (compareOp op va vb) (.bool c) := by
 cases op with
 | Eq => exact eqD_sound hA xb xa e
 | NotEq => exact neD_sound hA xb xa e
 | Lt => exact intC_sound e xa xb fun x y t u => yd_bool fun Q E hQ => PyProof.Rows.lt_int (hQ _ (Kp.rfl' _))
 | Gt => exact intC_sound e xa xb fun x y t u => yd_bool fun Q E hQ => PyProof.Rows.gt_int (hQ _ (Kp.rfl' _))
 | LtE => exact intC_sound e xa xb fun x y t u => yd_bool fun Q E hQ => PyProof.Rows.le_int (hQ _ (Kp.rfl' _))
 | GtE => exact intC_sound e xa xb fun x y t u => yd_bool fun Q E hQ => PyProof.Rows.ge_int (hQ _ (Kp.rfl' _))
 | Is => exact isD_sound xb xa e
 | In => exact inD_sound hb xb xa e
 | _ => exact no e
end
theorem truth_seq {d : D} {ds : List D} {c : Bool} {v : Value} (hs : seqOf d = some ds) (e : (if fits ds.length then some (!ds.isEmpty) else none) = some c) (x : Den prog w B s.heap d v) : Tr prog w A s (truthy v) c := fun Q E hQ => by
 obtain ⟨hf,rfl⟩ := ite_inv e
 obtain ⟨l1,vs,rfl,p1,q1⟩ := seqOf_of x hs
 have hl := fits_le hf
 refine wpAny_truthy_list p1.isList (by rw [List.size_toArray,q1.length]; lia) ?_
 have he : (!vs.toArray.isEmpty) = !ds.isEmpty := by have := q1.length; cases vs <;> cases ds <;> simp at this ⊢
 rw [he]; exact hQ _ (Kp.tok _ _)
theorem truth_sound {d : D} {c : Bool} {v : Value} : truth d = some c → Den prog w B s.heap d v → Tr prog w A s (truthy v) c := by
 cases d with
 | nil => intro e x; cases e; cases den_nil x; exact fun Q E hQ => PyProof.Rows.truthy_none (hQ _ (Kp.rfl' _))
 | bool b => intro e x; cases e; cases den_bool x; exact fun Q E hQ => wpAny_truthy_bool (hQ _ (Kp.rfl' _))
 | int n => intro e x; cases e; obtain ⟨t,rfl⟩ := den_int x; exact fun Q E hQ => PyProof.Rows.truthy_int (hQ _ (Kp.rfl' _))
 | str l =>
  intro e x Q E hQ
  obtain ⟨hf,rfl⟩ := ite_inv e
  obtain ⟨t,rfl⟩ := den_str x
  have hl := fits_le hf
  refine PySem.P.truthy_str (by simp [Str.length]; lia) ?_
  have he : (((⟨l.toArray⟩ : Str).length : Int) != 0) = !l.isEmpty := by cases l <;> simp [Str.length] <;> lia
  rw [he]; exact hQ _ (Kp.tok _ _)
 | list ds => exact truth_seq rfl
 | bor ds => exact truth_seq rfl
 | _ => exact no
theorem subs_seq {o i d : D} {vo vi : Value} (xi : Den prog w B s.heap i vi) (xo : Den prog w B s.heap o vo) (e : ((seqOf o).bind fun ds => (intOf i).bind fun k => if decide (0 ≤ k) && small k then ds[k.toNat]? else none) = some d) : Yd prog w B A s (getItem vo vi) d := by
 obtain ⟨ds,h1,e1⟩ := b2 e
 obtain ⟨k,hk,e'⟩ := b2 e1
 obtain rfl := intOf_eq hk
 clear e e1
 obtain ⟨hk,e'⟩ := ite_some e'
 rw [Bool.and_eq_true,decide_eq_true_eq] at hk
 have h2 := small_lt hk.2
 obtain ⟨l1,vs,rfl,p1,q1⟩ := seqOf_of xo h1
 obtain ⟨u,rfl⟩ := den_int xi
 obtain ⟨v,hv,xv⟩ := q1.get _ e'
 exact fun Q E hQ => wpAny_getItem_list p1.isList hk.1 (by lia) (by simpa using hv) (hQ _ _ (Kp.rfl' _) (Den.of_el xv))
theorem subs_sound {o i d : D} {vo vi : Value} (e : subs o i = some d) (xo : Den prog w B s.heap o vo) (xi : Den prog w B s.heap i vi) : Yd prog w B A s (getItem vo vi) d := by
 revert xo e
 cases o with
 | str l =>
  intro e xo
  obtain ⟨k,hk,e'⟩ := b2 e
  obtain rfl := intOf_eq hk
  clear e
  obtain ⟨hs,e'⟩ := ite_some e'
  obtain ⟨c,hc,rfl⟩ := m2 e'
  have h1 := small_lt hs
  obtain ⟨t,rfl⟩ := den_str xo; obtain ⟨u,rfl⟩ := den_int xi
  refine yd_str fun Q E hQ => PyProof.Rows.getItem_str (c := c) ?_ ?_ (hQ _ _ (Kp.tok _ _))
  ·have a1 : ¬ k < -(2 ^ 63 : Int) := by lia
   have a2 : ¬ k ≥ (2 ^ 63 : Int) := by lia
   rw [decide_eq_false a1,decide_eq_false a2]; rfl
  ·simpa [Str.length] using hc
 | dict es =>
  intro e xo
  obtain ⟨n,hn,e'⟩ := b2 e
  obtain rfl := intOf_eq hn
  clear e
  obtain ⟨l,hl,rfl⟩ := m2 e'
  obtain ⟨t,rfl⟩ := den_int xi
  obtain ⟨a,kvs,rfl,_,hd,hm,ht⟩ := xo
  have := tab_lookup ht n
  rw [hl] at this
  obtain ⟨u,hu⟩ := this
  exact yd_str fun Q E hQ => wpAny_getItem_of (intKind_is n t) hm.mapOf hu (hQ _ _ (Kp.tok _ _))
 | _ => exact fun e xo => subs_seq xi xo e
noncomputable def HasItem (s : Shared) (vo : Value) : Prop := ∃ T id,s.TypeIs vo T ∧ typeLookup (.type T) "__getitem__" = pure (some (.builtin id))
theorem seq_type {o d : D} {f : List D → Option D} {vo : Value} (xo : Den prog w B s.heap o vo) (e : (seqOf o).bind f = some d) : HasItem s vo := by
 obtain ⟨ds,h,_⟩ := b2 e
 obtain ⟨l1,vs,rfl,p1,q1⟩ := seqOf_of xo h
 exact ⟨"list",_,p1.isList.typeIs,slot_list_getitem.lookup⟩
theorem subs_type {o i d : D} {vo : Value} (e : subs o i = some d) (xo : Den prog w B s.heap o vo) : HasItem s vo := by
 revert xo e
 cases o with
 | str l =>
  intro e xo
  obtain ⟨t,rfl⟩ := den_str xo
  exact ⟨"str",_,typeIs_str s _ t,F.slot_str_getitem.lookup⟩
 | dict es =>
  intro e xo
  obtain ⟨a,kvs,rfl,_,hd,hm,ht⟩ := xo
  exact ⟨"dict",_,hm.typeIs,slot_dict_getitem.lookup⟩
 | _ => exact fun e xo => seq_type (f := fun ds => (intOf i).bind fun k => if decide (0 ≤ k) && small k then ds[k.toNat]? else none) xo e
theorem strIdx (lo hi : Option Int) (n : Nat) : Builtin.Str.strSliceIndices lo hi 1 n = sliceRange ((lo.elim 0 (clipAt n) : Nat) : Int) ((hi.elim n (clipAt n) : Nat) : Int) 1 := by
 cases lo <;> cases hi <;> simp [Builtin.Str.strSliceIndices,clipAt_cast]
theorem cut_str (l : List Nat) (lo hi : Option Int) : (Builtin.Str.strSliceIndices lo hi 1 l.length).filterMap (l.toArray[·]?) = cut l lo hi := by
 rw [strIdx,sliceRange_one,pick_run]
 rfl
theorem clipAt_le (n : Nat) (i : Int) : clipAt n i ≤ n := by
 have := clipAt_cast n i
 lia
theorem cut_whole (l : List Nat) (lo hi : Option Int) (h : (Builtin.Str.strSliceIndices lo hi 1 l.length).length = l.length) : cut l lo hi = l := by
 rw [strIdx,sliceRange_one,List.length_map,List.length_range] at h
 unfold cut
 generalize ha : (lo.elim 0 (clipAt l.length)) = a at *
 generalize hbb : (hi.elim l.length (clipAt l.length)) = b at *
 have hb : b ≤ l.length := by
  rw [← hbb]; cases hi with
  | none => exact Nat.le_refl _
  | some i => exact clipAt_le _ _
 by_cases hl : l.length = 0
 ·have : l = [] := List.length_eq_zero_iff.mp hl
  subst this; simp
 ·have h0 : a = 0 := by lia
  have h1 : b = l.length := by lia
  subst h0 h1; simp
theorem part_ok {d : D} {v : Value} {x : Option Int} (e : optInt d = some x) : Den prog w B s.heap d v → IsPart v x ∧ ∃ p : Option (Int × Tok),v = partValue p ∧ p.map (·.1) = x := by
 revert e
 cases d with
 | nil => intro e y; cases e; cases den_nil y; exact ⟨.none,none,rfl,rfl⟩
 | int n => intro e y; obtain ⟨_,rfl⟩ := ite_inv e; obtain ⟨t,rfl⟩ := den_int y; exact ⟨.int _ _,some (_,t),rfl,rfl⟩
 | _ => exact no
section
variable {vo vl vh : Value} {sl : Addr} {lo hi : Option Int} {q1 q2 : Option (Int × Tok)}
theorem slice_str {x : List Nat} {d : D} {t : Tok} (hf : fits x.length = true) (hs : s.heap.IsSliceOf sl (partValue q1) (partValue q2) .none) (r1 : q1.map (·.1) = lo) (r2 : q2.map (·.1) = hi) (hd : D.str (cut x lo hi) = d) : Yd prog w B A s (getItem (.str ⟨x.toArray⟩ t) (.ref sl)) d := by
 subst hd
 refine yd_str fun Q E hQ => wpAny_getItem_str_slice (l := q1) (u := q2) (st := none) hs rfl ?_
 have hpk : slicePicked ⟨x.toArray⟩ q1 q2 none = Builtin.Str.strSliceIndices lo hi 1 x.length := by
  unfold slicePicked; rw [r1,r2]; simp [Str.length]
 unfold sliceMade
 rw [hpk]
 split
 ·rename_i hc
  have hw : cut x lo hi = x := by
   apply cut_whole
   simpa [Str.length] using hc
  rw [hw] at hQ
  exact hQ _ _ (Kp.rfl' _)
 ·have : (List.filterMap (fun x_1 => (⟨x.toArray⟩ : Str).cps[x_1]?) (Builtin.Str.strSliceIndices lo hi 1 x.length)) = cut x lo hi := cut_str x lo hi
  rw [this]
  have hle : (cut x lo hi).length ≤ x.length := by unfold cut; simp; lia
  have := fits_line hf
  exact ⟨by simpa [Str.length] using (by lia : (cut x lo hi).length ≤ sizeLine),hQ _ _ (Kp.tok _ _)⟩
theorem slice_seq' {o d : D} (hb : Below' B s) (hs : s.heap.IsSliceOf sl vl vh .none) (p1 : IsPart vl lo) (p2 : IsPart vh hi) (xo : Den prog w B s.heap o vo) (e : ((seqOf o).bind fun ds => if fits ds.length then some (D.list (cut ds lo hi)) else none) = some d) : Yd prog w B A s (getItem vo (.ref sl)) d := by
 obtain ⟨ds,h3,e⟩ := b2 e
 obtain ⟨hf,rfl⟩ := ite_inv e
 obtain ⟨l1,vs,rfl,p3,q3⟩ := seqOf_of xo h3
 refine yd_list hb (q3.cut lo hi) fun Q E hQ => wpAny_getItem_list_slice p3.isList hs p1 p2 .none (by simp) ?_ (by rw [List.size_toArray,q3.length]; exact fits_line hf)
 rw [slicePick_plain]
 simpa [cut] using hQ
end
theorem slice_sound {o l h d : D} {vo vl vh : Value} {sl : Addr} (e : slice o l h = some d) (hb : Below' B s) (xo : Den prog w B s.heap o vo) (xl : Den prog w B s.heap l vl) (xh : Den prog w B s.heap h vh)
  (hs : s.heap.IsSliceOf sl vl vh .none) : Yd prog w B A s (getItem vo (.ref sl)) d := by
 obtain ⟨lo,h1,e1⟩ := b2 e
 clear e
 obtain ⟨hi,h2,e2⟩ := b2 e1
 clear e1
 obtain ⟨p1,q1,rfl,r1⟩ := part_ok h1 xl
 obtain ⟨p2,q2,rfl,r2⟩ := part_ok h2 xh
 revert xo e2
 cases o with
 | str x =>
  intro xo e
  obtain ⟨hf,hd⟩ := ite_inv e
  obtain ⟨t,rfl⟩ := den_str xo
  exact slice_str hf hs r1 r2 hd
 | _ => exact fun xo e => slice_seq' hb hs p1 p2 xo e
theorem slice_type {o l h d : D} {vo : Value} (e : slice o l h = some d) (xo : Den prog w B s.heap o vo) : HasItem s vo := by
 obtain ⟨lo,h1,e1⟩ := b2 e
 clear e
 obtain ⟨hi,h2,e2⟩ := b2 e1
 clear e1
 revert xo e2
 cases o with
 | str l =>
  intro xo e
  obtain ⟨t,rfl⟩ := den_str xo
  exact ⟨"str",_,typeIs_str s _ t,F.slot_str_getitem.lookup⟩
 | _ => exact fun xo e => seq_type (f := fun ds => if fits ds.length then some (D.list (cut ds lo hi)) else none) xo e
end
section
variable {prog : Program} {w : World} {A : Around} {B : Addr → Prop} {s : Shared}
noncomputable def Dens (prog : Program) (w : World) (B : Addr → Prop) (h : Heap) : List D → List Value → Prop
 | [],vs => vs = []
 | d :: ds,vs => ∃ v r,vs = v :: r ∧ Den prog w B h d v ∧ Dens prog w B h ds r
theorem Dens.le {h h' : Heap} (hk : Le h h') : ∀ {ds : List D} {vs : List Value},Dens prog w B h ds vs → Dens prog w B h' ds vs
 | [],_,x => x
 | _ :: _,_,x => by obtain ⟨v,r,e,hd,hr⟩ := x; exact ⟨v,r,e,hd.le hk,Dens.le hk hr⟩
theorem Dens.length {h : Heap} : ∀ {ds : List D} {vs : List Value},Dens prog w B h ds vs → vs.length = ds.length
 | [],_,x => by cases x; rfl
 | _ :: _,_,x => by obtain ⟨v,r,rfl,_,hr⟩ := x; simp [Dens.length hr]
theorem ints_items {vs : List Value} {ns : List Int} (hi : IntsAre vs ns) : ∃ xs : Array (Int × Tok),vs.toArray = intItems xs ∧ xs.toList.map (·.1) = ns := by
 induction hi with
 | nil => exact ⟨#[],by simp [intItems],rfl⟩
 | cons n t h ih =>
  obtain ⟨xs,e1,e2⟩ := ih
  refine ⟨((n,t) :: xs.toList).toArray,?_,by simp [e2]⟩
  have : intItems ((n,t) :: xs.toList).toArray = (Value.int n t :: (intItems xs).toList).toArray := by simp [intItems]
  rw [this,← e1]
theorem sum_plain {lv : Nat} {l : Addr} {vs : List Value} {ns : List Int} {Q E : Value → Shared → Prop} (hA : Amb lv A) (hl : s.heap.PlainList l vs.toArray) (hi : IntsAre vs ns)
  (h : ∀ s' t,Kp s s' → Q (.int ns.sum t) s') : wpAny (model prog w) A (call (.builtin "sum") [.ref l]) Q E s := by
 obtain ⟨xs,e1,e2⟩ := ints_items hi
 refine sum_intListG (xs := xs) hA.1 (by rw [← e1]; exact hl.isList) fun h' tk t' hk => ?_
 have e : preSum (numAt xs) xs.size = ns.sum := by rw [preSum_eq,e2,List.take_of_length_le (by rw [← e2]; simp)]
 rw [e]
 exact h _ _ ⟨h',tk,rfl,hk⟩
theorem minOf_spec : ∀ {ns : List Int} {m : Int},minOf ns = some m → m ∈ ns ∧ ∀ a ∈ ns,m ≤ a := by
 have key : ∀ (r : List Int) (a : Int),(r.foldl (fun m x => if x < m then x else m) a) ∈ a :: r ∧ ∀ b ∈ a :: r,(r.foldl (fun m x => if x < m then x else m) a) ≤ b := by
  intro r
  induction r with
  | nil => intro a; simp
  | cons c r ih =>
   intro a
   rw [List.foldl_cons]
   obtain ⟨h1,h2⟩ := ih (if c < a then c else a)
   have h3 := h2 _ List.mem_cons_self
   refine ⟨?_,fun b hb => ?_⟩
   ·rcases List.mem_cons.mp h1 with h | h
    ·rw [h]; split <;> simp
    ·simp [h]
   ·rcases List.mem_cons.mp hb with rfl | hb
    ·split at h3 <;> split <;> lia
    ·rcases List.mem_cons.mp hb with rfl | hb
     ·split at h3 <;> split <;> lia
     ·exact h2 _ (List.mem_cons_of_mem _ hb)
 intro ns m e
 cases ns with
 | nil => cases e
 | cons a r => cases e; exact key r a
theorem min_plain {lv : Nat} {l : Addr} {vs : List Value} {ns : List Int} {m : Int} {Q E : Value → Shared → Prop} (hA : Amb lv A) (hl : s.heap.PlainList l vs.toArray) (hi : IntsAre vs ns) (hm : minOf ns = some m)
  (h : ∀ s' t,Kp s s' → Q (.int m t) s') : wpAny (model prog w) A (call (.builtin "min") [.ref l]) Q E s := by
 obtain ⟨xs,e1,e2⟩ := ints_items hi
 have hne : 0 < xs.size := by
  rcases Nat.eq_zero_or_pos xs.size with h0 | h0
  ·have : ns = [] := by rw [← e2]; simp [Array.size_eq_zero_iff.mp h0]
   subst this; cases hm
  ·exact h0
 refine min_intList (xs := xs) hA.1 (by rw [← e1]; exact hl.isList) hne fun v h' tk hv hk => ?_
 obtain ⟨t,rfl⟩ := intItems_at hv
 obtain ⟨h1,h2⟩ := argBest_lt (numAt xs) (xs.size - 1)
 obtain ⟨m1,m2⟩ := minOf_spec hm
 have e : numAt xs (argBest (fun i j => decide (numAt xs i < numAt xs j)) (xs.size - 1)) = m := by
  refine Int.le_antisymm ?_ ?_
  ·obtain ⟨j,hj,rfl⟩ := mem_getD m1
   rw [← e2,List.length_map,Array.length_toList] at hj
   have := h2 j (by lia)
   rw [numAt_eq xs j,e2] at this
   exact this
  ·apply m2
   rw [numAt_eq,e2]
   exact getD_mem (by rw [← e2,List.length_map,Array.length_toList]; lia)
 rw [e]
 exact h _ _ ⟨h',tk,rfl,hk⟩
theorem dens_one {h : Heap} {ds : List D} {a : D} {vs : List Value} (x : Dens prog w B h ds vs) (e : one ds = some a) : ∃ v,vs = [v] ∧ Den prog w B h a v := by
 rw [one_eq e] at x
 obtain ⟨v,r,rfl,hv,hr⟩ := x
 cases hr
 exact ⟨v,rfl,hv⟩
theorem dens_two {h : Heap} {ds : List D} {q : D × D} {vs : List Value} (x : Dens prog w B h ds vs) (e : two ds = some q) : ∃ v u,vs = [v,u] ∧ Den prog w B h q.1 v ∧ Den prog w B h q.2 u := by
 rw [two_eq e] at x
 obtain ⟨v,r,rfl,hv,u,r2,rfl,hu,hr⟩ := x
 cases hr
 exact ⟨v,u,rfl,hv,hu⟩
section
variable {lv : Nat} {ds : List D} {a d : D} {v : Value} {vs : List Value}
theorem len_seq (x : Den prog w B s.heap a v) (e : ((seqOf a).bind fun ds => if fits ds.length then some (D.int ds.length) else none) = some d) : Yd prog w B A s (call (.builtin "len") [v]) d := by
 obtain ⟨es,h1,e⟩ := b2 e
 obtain ⟨hl,rfl⟩ := ite_inv e
 obtain ⟨a,vs,rfl,p,q⟩ := seqOf_of x h1
 have := fits_le hl
 refine yd_int fun Q E hQ => Calls.call_len_list p.isList (by rw [List.size_toArray,q.length]; lia) ?_
 rw [List.size_toArray,q.length]
 exact hQ _ _ (Kp.tok _ _)
theorem len_one : lenOf a = some d → Den prog w B s.heap a v → Yd prog w B A s (call (.builtin "len") [v]) d := by
 cases a with
 | str l =>
  intro e x
  obtain ⟨hl,rfl⟩ := ite_inv e
  obtain ⟨t,rfl⟩ := den_str x
  have := fits_le hl
  refine yd_int fun Q E hQ => PyProof.Rows.len_str (by simp [Str.length]; lia) ?_
  have he : (((⟨l.toArray⟩ : Str).length : Nat) : Int) = (l.length : Int) := by simp [Str.length]
  rw [he]; exact hQ _ _ (Kp.tok _ _)
 | _ => exact fun e x => len_seq x e
theorem len_sound (e : (one ds).bind lenOf = some d) (x : Dens prog w B s.heap ds vs) : Yd prog w B A s (call (.builtin "len") vs) d := by
 obtain ⟨a,h1,e⟩ := b2 e
 obtain ⟨v,rfl,hv⟩ := dens_one x h1
 exact len_one e hv
theorem min_sound (hA : Amb lv A) (e : bMin ds = some d) (x : Dens prog w B s.heap ds vs) : Yd prog w B A s (call (.builtin "min") vs) d := by
 unfold bMin at e
 cases h1 : one ds with
 | some a =>
  rw [h1] at e
  obtain ⟨es,h2,e⟩ := b2 e
  obtain ⟨ns,h3,e⟩ := b2 e
  obtain ⟨_,e⟩ := ite_some e
  obtain ⟨m,hm,rfl⟩ := m2 e
  obtain ⟨v,rfl,hv⟩ := dens_one x h1
  obtain ⟨a,vs,rfl,p,q⟩ := seqOf_of hv h2
  exact yd_int fun Q E hQ => min_plain hA p (q.ints h3) hm fun s' t hk => hQ _ _ hk
 | none =>
  rw [h1] at e
  obtain ⟨q,h2,e⟩ := b2 e
  obtain ⟨a,ha,e⟩ := b2 e
  obtain ⟨b,hb,rfl⟩ := m2 e
  obtain ⟨v,u,rfl,hv,hu⟩ := dens_two x h2
  rw [intOf_eq ha] at hv
  rw [intOf_eq hb] at hu
  obtain ⟨t,rfl⟩ := den_int hv
  obtain ⟨t',rfl⟩ := den_int hu
  refine yd_int fun Q E hQ => min_two_ints hA.1 fun h' tk hk => ?_
  by_cases hc : b < a
  ·rw [if_pos hc] at hQ ⊢; exact hQ _ _ ⟨h',tk,rfl,hk⟩
  ·rw [if_neg hc] at hQ ⊢; exact hQ _ _ ⟨h',tk,rfl,hk⟩
theorem sum_sound (hA : Amb lv A) (e : bSum ds = some d) (x : Dens prog w B s.heap ds vs) : Yd prog w B A s (call (.builtin "sum") vs) d := by
 obtain ⟨a,h1,e⟩ := b2 e
 obtain ⟨es,h2,e⟩ := b2 e
 obtain ⟨ns,h3,e⟩ := b2 e
 obtain ⟨_,rfl⟩ := ite_inv e
 obtain ⟨v,rfl,hv⟩ := dens_one x h1
 obtain ⟨a,vs,rfl,p,q⟩ := seqOf_of hv h2
 exact yd_int fun Q E hQ => sum_plain hA p (q.ints h3) fun s' t hk => hQ _ _ hk
theorem chr_sound (e : bChr ds = some d) (x : Dens prog w B s.heap ds vs) : Yd prog w B A s (call (.builtin "chr") vs) d := by
 obtain ⟨a,h1,e⟩ := b2 e
 obtain ⟨n,h2,e⟩ := b2 e
 obtain ⟨hn,rfl⟩ := ite_inv e
 obtain ⟨v,rfl,hv⟩ := dens_one x h1
 rw [intOf_eq h2] at hv
 obtain ⟨t,rfl⟩ := den_int hv
 rw [Bool.and_eq_true,decide_eq_true_eq,decide_eq_true_eq] at hn
 refine yd_str fun Q E hQ => P.chr_of_int ?_ (hQ _ _ (Kp.tok _ _))
 have a1 : ¬ n < 0 := by lia
 have a2 : ¬ n > 0x10FFFF := by lia
 rw [decide_eq_false a1,decide_eq_false a2]; rfl
theorem hex_sound (e : bHex ds = some d) (x : Dens prog w B s.heap ds vs) : Yd prog w B A s (call (.builtin "hex") vs) d := by
 obtain ⟨a,h1,e⟩ := b2 e
 obtain ⟨n,h2,e⟩ := b2 e
 obtain ⟨hn,rfl⟩ := ite_inv e
 obtain ⟨v,rfl,hv⟩ := dens_one x h1
 rw [intOf_eq h2] at hv
 obtain ⟨t,rfl⟩ := den_int hv
 have hl := fits_line hn
 refine yd_str fun Q E hQ => P.hex_of_int (hQ _ _ (Kp.tok _ _)) ?_
 simpa [hexOf,Str.length] using hl
theorem ite_cases {α : Type} {c : Prop} [Decidable c] {x y : Option α} {d : α} {P : Prop} (e : (if c then x else y) = some d) (h1 : c → x = some d → P) (h2 : y = some d → P) : P := by
 by_cases h : c
 ·exact h1 h ((if_pos h).symm.trans e)
 ·exact h2 ((if_neg h).symm.trans e)
theorem bcall_sound {f : Str} (hA : Amb lv A) (e : bcall f ds = some d) (x : Dens prog w B s.heap ds vs) :
  ∃ id : String,id ∈ ["len","min","sum","chr","hex"] ∧ f = Str.ofString id ∧ Yd prog w B A s (call (.builtin id) vs) d :=
 ite_cases e (fun h e => ⟨_,by decide,h,len_sound e x⟩) fun e => ite_cases e (fun h e => ⟨_,by decide,h,min_sound hA e x⟩) fun e => ite_cases e (fun h e => ⟨_,by decide,h,sum_sound hA e x⟩) fun e =>
  ite_cases e (fun h e => ⟨_,by decide,h,chr_sound e x⟩) fun e => ite_cases e (fun h e => ⟨_,by decide,h,hex_sound e x⟩) no
end
theorem strs_values : ∀ {ds : List D} {vs : List Value} {ss : List (List Nat)} {h : Heap},Els B h ds vs → strsOf ds = some ss → ∃ l : List (Str × Tok),vs = strValues l ∧ l.map (·.1) = ss.map fun x => (⟨x.toArray⟩ : Str)
 | [],_,_,_,x,e => by cases x; cases allM_nil e; exact ⟨[],rfl,rfl⟩
 | d :: ds,_,_,_,x,e => by
  obtain ⟨v,r,rfl,hd,hr⟩ := x
  obtain ⟨n,t,hn,ht,rfl⟩ := allM_cons e
  cases d <;> simp [strOf] at hn
  subst hn
  obtain ⟨tk,rfl⟩ := hd
  obtain ⟨l,rfl,e2⟩ := strs_values hr ht
  exact ⟨(⟨_⟩,tk) :: l,rfl,by rw [List.map_cons,List.map_cons,e2]⟩
theorem join_eq (sep : List Nat) : ∀ ss : List (List Nat),Txt.join ⟨sep.toArray⟩ (ss.map fun x => (⟨x.toArray⟩ : Str)) = ⟨(joinOf sep ss).toArray⟩ := by
 intro ss
 show Builtin.Str.glued _ _ = _
 rw [StrLaws.glued_eq_join]
 induction ss with
 | nil => rfl
 | cons x r ih =>
  cases r with
  | nil => rfl
  | cons y r =>
   show (⟨x.toArray⟩ : Str) ++ ⟨sep.toArray⟩ ++ Str.join _ _ = _
   rw [ih,str_append,str_append]
   rfl
theorem joinOk_fits {sep : List Nat} {ss : List (List Nat)} (h : fits ((ss.map (·.length)).sum + ss.length * sep.length) = true) : JoinOk ⟨sep.toArray⟩ (ss.map fun x => (⟨x.toArray⟩ : Str)) = true := by
 unfold JoinOk
 rw [StrLaws.joinTotal]
 have e : ((ss.map fun x => (⟨x.toArray⟩ : Str)).map (·.length)) = ss.map (·.length) := by
  rw [List.map_map]; congr 1
 rw [e,List.length_map,Bool.not_eq_true']
 exact short24 (by have := fits_le h; simpa [Str.length] using (by lia : (ss.map (·.length)).sum + ss.length * sep.length ≤ 16777216))
noncomputable def Met (prog : Program) (w : World) (B : Addr → Prop) (A : Around) (s : Shared) (vo : Value) (m : Str) (ds : List D) (d : D) : Prop :=
  ∃ T id,PlainAttrs T ∧ Slot T m id ∧ typeOf (.builtin id) = pure (.type "method_descriptor") ∧ s.TypeIs vo T ∧ (∀ a,vo = .ref a → ∃ ob,s.heap.get? a = some ob ∧ ob.dict = none) ∧
   ∀ (s' : Shared) (vs : List Value),Kp s s' → Dens prog w B s'.heap ds vs → Yd prog w B A s' (call (.builtin id) (vo :: vs)) d
section
variable {o d : D} {ds : List D} {vo : Value}
theorem lower_sound (xo : Den prog w B s.heap o vo) (e : mLower o ds = some d) : Met prog w B A s vo "lower" ds d := by
 obtain ⟨l,h1,e⟩ := b2 e
 obtain ⟨hl,rfl⟩ := ite_inv e
 rw [strOf_eq h1] at xo
 obtain ⟨t,rfl⟩ := den_str xo
 rw [Bool.and_eq_true,Bool.and_eq_true] at hl
 obtain rfl := nil_of_empty hl.1
 have hlen := fits_le hl.2.2
 refine ⟨"str",_,F.plainAttrs_str,F.slot_str_lower,F.type_str_lower,typeIs_str _ _ _,(fun _ e => nomatch e),fun s' vs k x => ?_⟩
 cases x
 refine yd_str fun Q E hQ => SCL.lower (by simp [Str.length]; lia) fun _ => ?_
 have hl' : ∀ c ∈ l,c < 128 := by simpa using hl.2.1
 rw [lower_ascii (x := ⟨l.toArray⟩) (by simpa using hl')]
 have he : (⟨(⟨l.toArray⟩ : Str).cps.map lo1⟩ : Str) = ⟨(lowerOf l).toArray⟩ := by
  simp only [List.map_toArray]; rfl
 rw [he]
 exact hQ _ _ (Kp.tok _ _)
theorem join_sound (xo : Den prog w B s.heap o vo) (e : mJoin o ds = some d) : Met prog w B A s vo "join" ds d := by
 obtain ⟨l,h1,e⟩ := b2 e
 obtain ⟨a,h2,e⟩ := b2 e
 obtain ⟨es,h3,e⟩ := b2 e
 obtain ⟨ss,h4,e⟩ := b2 e
 obtain ⟨hf,rfl⟩ := ite_inv e
 rw [strOf_eq h1] at xo
 obtain ⟨t,rfl⟩ := den_str xo
 refine ⟨"str",_,F.plainAttrs_str,F.slot_str_join,F.type_str_join,typeIs_str _ _ _,(fun _ e => nomatch e),fun s' vs k x => ?_⟩
 obtain ⟨v,rfl,hv⟩ := dens_one x h2
 obtain ⟨a,vs,rfl,p,q⟩ := seqOf_of hv h3
 obtain ⟨l,rfl,e2⟩ := strs_values q h4
 refine yd_str fun Q E hQ => SC.join p.isList e2 (joinOk_fits hf) fun t' k => ?_
 rw [join_eq]
 exact hQ _ _ (Kp.tok _ _)
theorem get_sound (xo : Den prog w B s.heap o vo) (e : mGet o ds = some d) : Met prog w B A s vo "get" ds d := by
 obtain ⟨es,h1,e⟩ := b2 e
 obtain ⟨q,h2,e⟩ := b2 e
 obtain ⟨n,h3,e⟩ := b2 e
 obtain ⟨dl,h4,rfl⟩ := m2 e
 rw [dictOf_eq h1] at xo
 obtain ⟨a,kvs,rfl,_,hd,hm,ht⟩ := xo
 refine ⟨"dict",_,F.plainAttrs_dict,F.slot_dict_get,F.type_dict_get,hm.typeIs,?_,fun s' vs k x => ?_⟩
 ·rintro a' ⟨⟩
  obtain ⟨o,es',ep,ho,hx,_⟩ := hm
  exact ⟨o,ho,hx.2.1⟩
 ·obtain ⟨v,v2,rfl,hv,hv2⟩ := dens_two x h2
  rw [intOf_eq h3] at hv
  rw [strOf_eq h4] at hv2
  obtain ⟨t,rfl⟩ := den_int hv
  obtain ⟨u,rfl⟩ := den_str hv2
  have hm' := hm.at (h' := s'.heap) fun o e => k.le _ _ e
  refine yd_str fun Q E hQ => call_meetsIn F.slot_dict_get hm'.typeIs F.entry_dict_get (F.args_dict_get_3 _ _ _) (meets_dict_get_default (intKind prog w) a (intKind_is n t) hd _) ⟨_,hm'.mapOf,?_⟩
  have := tab_lookup ht n
  cases hl : es.lookup n with
  | none => rw [hl] at this hQ; rw [this]; exact hQ _ _ (Kp.tok _ _)
  | some l => rw [hl] at this hQ; obtain ⟨u',hu⟩ := this; rw [hu]; exact hQ _ _ (Kp.tok _ _)
theorem meth_sound {m : Str} (e : meth o m ds = some d) (xo : Den prog w B s.heap o vo) : Met prog w B A s vo m ds d :=
 ite_cases e (fun h e => by rw [h]; exact lower_sound xo e) fun e => ite_cases e (fun h e => by rw [h]; exact join_sound xo e) fun e => ite_cases e (fun h e => by rw [h]; exact get_sound xo e) no
end
end
structure EnvOK (env : Env) (sc : Scope) : Prop where
 kind : env.scope.kind = .function
 glob : env.globals = mainGlobals
 blt : env.builtins = builtinsNs
 same : ∀ x,env.kindOf x = sc.names.lookup x ∨ (env.kindOf x = some .cell ∧ sc.names.lookup x = some .free)
 cells : ∀ x,sc.names.lookup x = some .cell ∨ sc.names.lookup x = some .free → ∃ c,env.cells.lookup x = some c
noncomputable def VarAt (env : Env) (h : Heap) (x : Str) (v : Value) : Prop :=
 (env.kindOf x = some .local ∧ ∃ m,h.Ns env.locals m ∧ m x = some v) ∨
 ((env.kindOf x = some .cell ∨ env.kindOf x = some .free) ∧ ∃ c,env.cells.lookup x = some c ∧ h.IsCell c (some v))
theorem VarAt.le {env : Env} {h h' : Heap} {x : Str} {v : Value} (hk : Le h h') : VarAt env h x v → VarAt env h' x v
 | .inl ⟨e,m,hn,hm⟩ => .inl ⟨e,m,hn.keepsP hk,hm⟩
 | .inr ⟨e,c,hc,hv⟩ => .inr ⟨e,c,hc,hv.keeps hk⟩
section
variable (prog : Program) (w : World)
noncomputable def Sees (B : Addr → Prop) (env : Env) (σ : St) (h : Heap) : Prop := (∀ x c,env.cells.lookup x = some c → ∃ o,h.get? c = some o) ∧ ∀ x d,σ.lookup x = some d → ∃ v,VarAt env h x v ∧ Den prog w B h d v
structure Ok (lv : Nat) (h₀ : Heap) (B : Addr → Prop) (A : Around) (s : Shared) : Prop where
 amb : Amb lv A
 le : Le h₀ s.heap
 alive : ∀ b,B b → ∃ o,s.heap.get? b = some o
 off : ∀ b,B b → h₀.get? b = none
noncomputable def Con (lv : Nat) (h₀ : Heap) (a : Addr) (F : List D → Option D) : Prop :=
 ∀ (A : Around) (s : Shared) (B : Addr → Prop) (vs : List Value) (ds : List D) (d : D),Ok lv h₀ B A s → Dens prog w B s.heap ds vs → F ds = some d → Yd prog w B A s (call (.ref a) vs) d
noncomputable def fnNames : List String := ["len","min","sum","chr","hex","isinstance","hasattr","iter","next"]
noncomputable def tyNames : List String := ["range","list","int","enumerate","ValueError","StopIteration","TypeError"]
structure Gd (lv : Nat) (G : GE) (h₀ : Heap) : Prop where
 ns : ∃ mg mb,h₀.Ns mainGlobals mg ∧ h₀.Ns builtinsNs mb ∧
  (∀ x F,G.fn.lookup x = some F → ∃ a o fd,mg x = some (.ref a) ∧ h₀.get? a = some o ∧ o.data = .func fd ∧ Con prog w lv h₀ a F) ∧
  (∀ x d,G.dat.lookup x = some d → ∃ v,mg x = some v ∧ Den prog w (fun _ => False) h₀ d v) ∧
  (∀ n ∈ fnNames,mg (Str.ofString n) = none ∧ mb (Str.ofString n) = some (.builtin n)) ∧
  (∀ n ∈ tyNames,mg (Str.ofString n) = none ∧ mb (Str.ofString n) = some (.type n))
 nolimit : h₀.NoLimit
end
section
variable {prog : Program} {w : World} {lv : Nat} {h₀ : Heap} {B : Addr → Prop} {A : Around} {s s' : Shared} {env : Env} {sc : Scope} {σ : St} {G : GE}
theorem Sees.le {h h' : Heap} (hk : Le h h') (x : Sees prog w B env σ h) : Sees prog w B env σ h' := ⟨fun y c e => let ⟨o,ho⟩ := x.1 y c e; ⟨o,hk c o ho⟩,fun y d e => let ⟨v,a,b⟩ := x.2 y d e; ⟨v,a.le hk,b.le hk⟩⟩
theorem Ok.keeps (x : Ok lv h₀ B A s) (k : Kp s s') : Ok lv h₀ B A s' :=
 ⟨x.amb,x.le.trans k.le,fun b hb => let ⟨o,ho⟩ := x.alive b hb; ⟨o,k.le b o ho⟩,x.off⟩
theorem Ok.below (x : Ok lv h₀ B A s) : Below' B s := fun b hb => let ⟨o,ho⟩ := x.alive b hb; Heap.lt_size ho
noncomputable def EvS (prog : Program) (w : World) (lv : Nat) (h₀ : Heap) (ev : EV) : Prop :=
 ∀ sc σ e d,ev sc σ e d → ∀ A s B env,Ok lv h₀ B A s → EnvOK env sc → Sees prog w B env σ s.heap → Yd prog w B A s (eval e env) d
noncomputable def TsS (prog : Program) (w : World) (lv : Nat) (h₀ : Heap) (ts : TS) : Prop :=
 ∀ sc σ e b,ts sc σ e b → ∀ A s B env,Ok lv h₀ B A s → EnvOK env sc → Sees prog w B env σ s.heap → Tr prog w A s (isTrue e env (eval e env)) b
theorem Yd.then {t : Sem Value} {d : D} (h : Yd prog w B A s t d) {Q : Value → Shared → Prop} {E : Value → Shared → Prop} (k : ∀ v s',Kp s s' → Den prog w B s'.heap d v → Q v s') : wpAny (model prog w) A t Q E s := h Q E k
theorem Yd.keeps_post {t : Sem Value} {d : D} {s₀ : Shared} (hk : Kp s₀ s) (h : Yd prog w B A s t d) {Q : Value → Shared → Prop} {E : Value → Shared → Prop} (k : ∀ v s',Kp s₀ s' → Den prog w B s'.heap d v → Q v s') : wpAny (model prog w) A t Q E s :=
 h Q E fun v s' hk' x => k v s' (hk.trans hk') x
theorem const_sound {c : Const} {k : Nat} {pos : Pos} {d : D} (e : constOf c = some d) : Yd prog w B A s (eval (.Constant c k pos) env) d := by
 rw [eval_Constant]
 cases c with
 | none => cases e; exact fun Q E hQ => wpAny_pure (hQ _ _ (Kp.rfl' _) rfl)
 | bool b => cases e; exact fun Q E hQ => wpAny_pure (hQ _ _ (Kp.rfl' _) rfl)
 | int n => cases e; exact yd_int fun Q E hQ => wpAny_mkInt (hQ _ _ (Kp.tok _ _))
 | str x =>
  cases e
  exact fun Q E hQ => wpAny_mkText (hQ _ _ (Kp.tok _ _) ⟨s.toks,by simp⟩)
 | _ => first | exact no e | exact nof e | cases e
theorem okName_both {x : Str} (h : okName x = true) : (x == ("__debug__" : Str)) = false ∧ (x == ("__classdict__" : Str)) = false := by
 unfold okName at h
 rw [Bool.and_eq_true] at h
 exact ⟨by simpa using h.1,by simpa using h.2⟩
theorem loadVar {x : Str} {v : Value} {Q : Value → Shared → Prop} {E : Value → Shared → Prop} (hE : env.scope.kind = .function) (hx : VarAt env s.heap x v) (hd : (x == ("__debug__" : Str)) = false) (hc : (x == ("__classdict__" : Str)) = false) (h : Q v s) :
  wpAny (model prog w) A (eval (.Name x pos) env) Q E s := by
 refine wpAny_Name ?_ hd
 rcases hx with ⟨e,m,hn,hm⟩ | ⟨e | e,c,hc',hv⟩
 ·exact wpAny_loadName_local hE e hn hm h
 ·exact wpAny_loadName_cell hE e hc' hv h
 ·exact wpAny_loadName_free hE e hc' hv h hc
theorem name_var {x : Str} {pos : Pos} {d : D} (hn : okName x = true) (eo : EnvOK env sc) (sees : Sees prog w B env σ s.heap) (e : σ.lookup x = some d) : Yd prog w B A s (eval (.Name x pos) env) d := by
 obtain ⟨h1,h2⟩ := okName_both hn
 obtain ⟨v,hv,hd⟩ := sees.2 x d e
 exact fun Q E hQ => loadVar eo.kind hv h1 h2 (hQ _ _ (Kp.rfl' _) hd)
theorem name_dat {x : Str} {pos : Pos} {d : D} (hn : okName x = true) (hg : isGlob sc x = true) (g : Gd prog w lv G h₀) (o : Ok lv h₀ B A s) (eo : EnvOK env sc) (e : G.dat.lookup x = some d) :
  Yd prog w B A s (eval (.Name x pos) env) d := by
 obtain ⟨mg,mb,hmg,hmb,_,hdat,_,_⟩ := g.ns
 obtain ⟨v,hv,hd⟩ := hdat x d e
 unfold isGlob at hg
 have hk : env.kindOf x = some .globalImplicit := by
  rcases eo.same x with h | ⟨_,h⟩
  ·rw [h]; exact eq_of_beq hg
  ·rw [h] at hg; exact absurd hg (by decide)
 refine fun Q E hQ => Calls.Name_function_global eo.kind hk (Calls.loadGlobal_global (by rw [eo.glob]; exact hmg.keepsP o.le) hv ?_) (okName_both hn).1
 refine hQ _ _ (Kp.rfl' _) (hd.mono (fun b ob _ he => ⟨o.le b ob he,fun hB => ?_⟩) o.le)
 rw [o.off b hB] at he; cases he
theorem binop_ev {ev : EV} {l r : Expr} {op : Operator} {pos : Pos} {a b d : D} (H : EvS prog w lv h₀ ev) (o : Ok lv h₀ B A s) (eo : EnvOK env sc) (sees : Sees prog w B env σ s.heap)
  (ea : ev sc σ l a) (eb : ev sc σ r b) (e : binop op a b = some d) : Yd prog w B A s (eval (.BinOp l op r pos) env) d := fun Q E hQ => by
 refine wpAny_BinOp ((H _ _ _ _ ea A s B env o eo sees).then fun va s₁ k₁ xa => ?_)
 refine (H _ _ _ _ eb A s₁ B env (o.keeps k₁) eo (sees.le k₁.le)).then fun vb s₂ k₂ xb => ?_
 exact (binop_sound o.amb ((o.keeps k₁).keeps k₂).below e (xa.le k₂.le) xb).keeps_post (k₁.trans k₂) hQ
theorem compare_ev {ev : EV} {l r : Expr} {op : CmpOp} {pos : Pos} {a b : D} {c : Bool} (H : EvS prog w lv h₀ ev) (o : Ok lv h₀ B A s) (eo : EnvOK env sc) (sees : Sees prog w B env σ s.heap)
  (hm : behindInMarks op r = false) (ea : ev sc σ l a) (eb : ev sc σ r b) (ht : b.isTexts = false) (e : cmpop op a b = some c) :
  Yd prog w B A s (eval (.Compare l [op] [r] pos) env) (.bool c) := fun Q E hQ => by
 refine wpAny_Compare1 ((H _ _ _ _ ea A s B env o eo sees).then fun va s₁ k₁ xa => ?_) hm
 refine (H _ _ _ _ eb A s₁ B env (o.keeps k₁) eo (sees.le k₁.le)).then fun vb s₂ k₂ xb => ?_
 exact (cmpop_sound o.amb e (fun ls h => by subst h; cases ht) (xa.le k₂.le) xb).keeps_post (k₁.trans k₂) hQ
theorem compare_ts {ev : EV} {l r : Expr} {op : CmpOp} {pos : Pos} {a b : D} {c : Bool} (H : EvS prog w lv h₀ ev) (o : Ok lv h₀ B A s) (eo : EnvOK env sc) (sees : Sees prog w B env σ s.heap)
  (hm : behindInMarks op r = false) (ea : ev sc σ l a) (eb : ev sc σ r b) (ht : b.isTexts = false) (e : cmpop op a b = some c) {whole : Sem Value} :
  Tr prog w A s (isTrue (.Compare l [op] [r] pos) env whole) c := fun Q E hQ => by
 refine wpAny_isTrue_Compare1 ((H _ _ _ _ ea A s B env o eo sees).then fun va s₁ k₁ xa => ?_) hm
 refine (H _ _ _ _ eb A s₁ B env (o.keeps k₁) eo (sees.le k₁.le)).then fun vb s₂ k₂ xb => ?_
 refine (cmpop_sound o.amb e (fun ls h => by subst h; cases ht) (xa.le k₂.le) xb).then fun v s₃ k₃ xv => ?_
 cases den_bool xv
 exact wpAny_truthy_bool (hQ _ ((k₁.trans k₂).trans k₃))
theorem ifexp_ev {ev : EV} {ts : TS} {t b o' : Expr} {pos : Pos} {c : Bool} {d : D} (H : EvS prog w lv h₀ ev) (HT : TsS prog w lv h₀ ts) (o : Ok lv h₀ B A s) (eo : EnvOK env sc) (sees : Sees prog w B env σ s.heap)
  (et : ts sc σ t c) (e : ev sc σ (if c then b else o') d) : Yd prog w B A s (eval (.IfExp t b o' pos) env) d := fun Q E hQ => by
 rw [arm_eval_IfExp]
 refine wpAny_bind (HT _ _ _ _ et A s B env o eo sees _ _ fun s₁ k₁ => ?_)
 cases c with
 | true => exact (H _ _ _ _ e A s₁ B env (o.keeps k₁) eo (sees.le k₁.le)).keeps_post k₁ hQ
 | false => exact (H _ _ _ _ e A s₁ B env (o.keeps k₁) eo (sees.le k₁.le)).keeps_post k₁ hQ
theorem boolV_ev {ev : EV} {op : BoolOp} {pos : Pos} (H : EvS prog w lv h₀ ev) (eo : EnvOK env sc) : ∀ {es : List Expr} {d : D} {s : Shared},Ok lv h₀ B A s → Sees prog w B env σ s.heap → boolV ev sc σ op es d → Yd prog w B A s (boolOp pos op (evalEach es env)) d
 | [],_,_,_,_,e => e.elim
 | [x],d,s,o,sees,⟨_,e,(hd : d = _)⟩ => hd ▸ H _ _ _ _ e A s B env o eo sees
 | x :: y :: r,d,s,o,sees,⟨a,ha,(e : ∃ t,truth a = some t ∧ if stops op t = true then d = a else boolV ev sc σ op (y :: r) d)⟩ => fun Q E hQ => by
  obtain ⟨t,ht,e⟩ := e
  show wpAny _ _ (do let v ← eval x env; standAt pos; let t ← holding [v] (truthy v); (match op,t with | .And,false | .Or,true => pure v | _,_ => boolOp pos op (evalEach (y :: r) env))) Q E s
  refine wpAny_bind ((H _ _ _ _ ha A s B env o eo sees).then fun v s₁ k₁ xv => ?_)
  refine wpAny_bind (wpAny_standAt (wpAny_bind (wpAny_holding (truth_sound ht xv _ _ fun s₂ k₂ => ?_))))
  have go : boolV ev sc σ op (y :: r) d → wpAny (model prog w) A (boolOp pos op (evalEach (y :: r) env)) Q E s₂ := fun e' =>
   (boolV_ev H eo ((o.keeps k₁).keeps k₂) ((sees.le k₁.le).le k₂.le) e').keeps_post (k₁.trans k₂) hQ
  have stop : d = a → Q v s₂ := fun h => hQ _ _ (k₁.trans k₂) (h ▸ xv.le k₂.le)
  cases op <;> cases t
  ·exact wpAny_pure (stop e)
  ·exact go e
  ·exact go e
  ·exact wpAny_pure (stop e)
theorem allT_ts {ts : TS} {op : BoolOp} (HT : TsS prog w lv h₀ ts) (eo : EnvOK env sc) : ∀ {es : List Expr} {b : Bool} {s : Shared},Ok lv h₀ B A s → Sees prog w B env σ s.heap → allT ts sc σ op es b → Tr prog w A s (allTrue op es env) b
 | [],_,_,_,_,(e : _ = _) => fun Q E hQ => by cases e; exact wpAny_pure (hQ _ (Kp.rfl' _))
 | x :: r,b,s,o,sees,⟨t,ht,e⟩ => fun Q E hQ => by
  rw [arm_allTrue_cons]
  refine wpAny_bind (HT _ _ _ _ ht A s B env o eo sees _ _ fun s₁ k₁ => ?_)
  have go : allT ts sc σ op r b → wpAny (model prog w) A (allTrue op r env) Q E s₁ := fun e' =>
   allT_ts HT eo (o.keeps k₁) (sees.le k₁.le) e' Q E fun s₂ k₂ => hQ _ (k₁.trans k₂)
  cases op <;> cases t
  ·exact wpAny_pure ((show b = false from e) ▸ hQ _ k₁)
  ·exact go e
  ·exact go e
  ·exact wpAny_pure ((show b = true from e) ▸ hQ _ k₁)
theorem star_cons {x : Expr} {r : List Expr} (h : notStar x = true) : starEach (x :: r) env = (false,eval x env) :: starEach r env := by
 cases x <;> first | rfl | cases h
theorem spliced_ev {ev : EV} {pos : Pos} (H : EvS prog w lv h₀ ev) (eo : EnvOK env sc) : ∀ {es : List Expr} {ds : List D} {s : Shared} {Q : List Value → Shared → Prop} {E : Value → Shared → Prop},Ok lv h₀ B A s → Sees prog w B env σ s.heap →
  es.all notStar = true → AllR (ev sc σ) es ds → (∀ vs s',Kp s s' → Dens prog w B s'.heap ds vs → Q vs s') → wpAny (model prog w) A (spliced (backTo pos (starEach es env))) Q E s
 | [],ds,s,Q,E,o,sees,hn,(e : ds = []),hQ => Calls.spliced_nil (hQ _ _ (Kp.rfl' _) (e ▸ rfl))
 | x :: r,ds,s,Q,E,o,sees,hn,⟨d,t,hd,ht,e⟩,hQ => by
  subst e
  rw [List.all_cons,Bool.and_eq_true] at hn
  rw [star_cons hn.1]
  refine Calls.spliced_cons ((H _ _ _ _ hd A s B env o eo sees).then fun v s₁ k₁ xv => ?_)
  exact spliced_ev H eo (o.keeps k₁) (sees.le k₁.le) hn.2 ht fun vs s₂ k₂ xs => hQ _ _ (k₁.trans k₂) ⟨v,vs,rfl,xv.le k₂.le,xs⟩
theorem noStar_any {pos : Pos} : ∀ {es : List Expr},es.all notStar = true → (backTo pos (starEach es env)).any (·.1) = false
 | [],_ => rfl
 | x :: r,h => by
  rw [List.all_cons,Bool.and_eq_true] at h
  rw [star_cons h.1]
  show (false || (backTo pos (starEach r env)).any (·.1)) = false
  rw [noStar_any h.2]; rfl
theorem args_ev {ev : EV} {pos : Pos} {f : Value} {es : List Expr} {ds : List D} {Q : Args → Shared → Prop} {E : Value → Shared → Prop} (H : EvS prog w lv h₀ ev) (eo : EnvOK env sc) (o : Ok lv h₀ B A s) (sees : Sees prog w B env σ s.heap)
  (e : evs ev sc σ es ds) (hQ : ∀ vs s',Kp s s' → Dens prog w B s'.heap ds vs → Q ⟨vs,[]⟩ s') : wpAny (model prog w) A (evalArgs f true (backTo pos (starEach es env)) []) Q E s := by
 obtain ⟨hn,he⟩ := e
 cases es with
 | nil => exact PySem.evalArgs_none (hQ _ _ (Kp.rfl' _) (he ▸ rfl))
 | cons x r =>
  have hn' := hn
  rw [List.all_cons,Bool.and_eq_true] at hn'
  have hs := spliced_ev (pos := pos) (Q := fun vs s' => Q ⟨vs,[]⟩ s') (E := E) H eo o sees hn he hQ
  rw [star_cons hn'.1] at hs ⊢
  exact Calls.evalArgs_plain hs
theorem Dens.els : ∀ {h : Heap} {ds : List D} {vs : List Value},Dens prog w B h ds vs → ds.all D.isEl = true → Els B h ds vs
 | _,[],_,x,_ => x
 | _,d :: ds,_,x,e => by
  obtain ⟨v,r,rfl,hd,hr⟩ := x
  rw [List.all_cons,Bool.and_eq_true] at e
  exact ⟨v,r,rfl,hd.el e.1,Dens.els hr e.2⟩
noncomputable def YdF (prog : Program) (w : World) (B : Addr → Prop) (A : Around) (s : Shared) (t : Sem Value) (ds : List D) : Prop :=
 ∀ (Q : Value → Shared → Prop) (E : Value → Shared → Prop),(∀ a s' vs,Kp s s' → s.heap.get? a = none → s'.heap.PlainList a (List.toArray vs) → Els (fun b => B b ∨ b = a) s'.heap ds vs → Q (.ref a) s') → wpAny (model prog w) A t Q E s
theorem YdF.yd {t : Sem Value} {ds : List D} (o : Ok lv h₀ B A s) (h : YdF prog w B A s t ds) : Yd prog w B A s t (.list ds) := fun Q E hQ =>
 h Q E fun a s' vs k hf hp hvs => hQ _ _ k ⟨a,vs,rfl,fun hB => (let ⟨ob,hob⟩ := o.alive a hB; nomatch hf.symm.trans hob),hp,hvs.mono fun b ob hnb e => ⟨e,fun h => hnb (.inl h)⟩⟩
theorem fresh_at {s s₁ : Shared} (k₁ : Kp s s₁) : s.heap.get? s₁.heap.objs.size = none := by
 cases e : s.heap.get? s₁.heap.objs.size with
 | none => rfl
 | some o => exact absurd (Heap.lt_size (k₁.le _ _ e)) (Nat.lt_irrefl _)
theorem fresh_push {s₁ : Shared} {vs : List Value} {ds : List D} {Q : Value → Shared → Prop} (k : Kp s s₁) (x : Els B s₁.heap ds vs)
  (hQ : ∀ a s' vs,Kp s s' → s.heap.get? a = none → s'.heap.PlainList a (List.toArray vs) → Els (fun b => B b ∨ b = a) s'.heap ds vs → Q (.ref a) s') :
  Q (.ref s₁.heap.objs.size) { s₁ with heap := s₁.heap.push { cls := .type "list",data := .seq vs.toArray } } :=
 hQ _ _ vs (k.trans (Kp.heap (t := s₁.toks) (Le.push _ _))) (fresh_at k) ⟨_,Heap.get?_push_size _ rfl⟩ (x.mono fun b o hnb e => ⟨Le.push _ _ b o e,fun h => h.elim hnb fun h => Nat.lt_irrefl _ (h ▸ Heap.lt_size e)⟩)
theorem list_evF {ev : EV} {pos : Pos} {es : List Expr} {ds : List D} (H : EvS prog w lv h₀ ev) (eo : EnvOK env sc) (o : Ok lv h₀ B A s) (sees : Sees prog w B env σ s.heap)
  (e : evs ev sc σ es ds) (he : (ds.all D.isEl && fits ds.length) = true) : YdF prog w B A s (eval (.List es pos) env) ds := fun Q E hQ => by
 rw [Bool.and_eq_true] at he
 obtain ⟨hn,ha⟩ := e
 refine List_ (spliced_ev H eo o sees hn ha fun vs s₁ k₁ xs => ?_)
 have hl : vs.length ≤ sizeLine := by rw [xs.length]; exact fits_line he.2
 refine wpAny_newObj_type ?_ (by show vs.toArray.size ≤ sizeLine; rw [List.size_toArray]; exact hl)
 exact fresh_push k₁ (xs.els he.1) hQ
theorem subs_ev {ev : EV} {v i : Expr} {pos : Pos} {a k d : D} (hi : ∀ l h p,i ≠ .Slice l h none p) (H : EvS prog w lv h₀ ev) (eo : EnvOK env sc) (o : Ok lv h₀ B A s) (sees : Sees prog w B env σ s.heap)
  (ea : ev sc σ v a) (ek : ev sc σ i k) (e : subs a k = some d) : Yd prog w B A s (eval (.Subscript v i pos) env) d := fun Q E hQ => by
 rw [eval_Subscript]
 refine wpAny_bind ((H _ _ _ _ ea A s B env o eo sees).then fun vo s₁ k₁ xo => ?_)
 refine wpAny_bind (wpAny_holding ((H _ _ _ _ ek A s₁ B env (o.keeps k₁) eo (sees.le k₁.le)).then fun vi s₂ k₂ xi => ?_))
 refine wpAny_bind (wpAny_standAt ?_)
 have xo' := xo.le k₂.le
 obtain ⟨T,id,hT,hl⟩ := subs_type e xo'
 refine wpAny_bind ?_
 rw [getitemInPython_of_ne hT.not_modules]
 refine wpAny_bind (wpAny_specialOf hT hl ?_)
 refine wpAny_pure ?_
 have hs : subscripted i false vo vi = operate [vo,vi] (getItem vo vi) := by
  unfold subscripted
  split
  ·exact absurd rfl (hi _ _ _)
  ·rename_i h; cases h
  ·rfl
 rw [hs]
 refine wpAny_bind (wpAny_operating ((subs_sound e xo' xi).then fun r s₃ k₃ xr => ?_))
 exact wpAny_bind (wpAny_letTemporaryGo (wpAny_pure (hQ _ _ ((k₁.trans k₂).trans k₃) xr)))
noncomputable def optE (ev : EV) (sc : Scope) (σ : St) : Option Expr → D → Prop
 | none,d => d = D.nil
 | some e,d => ev sc σ e d
theorem part_ev {ev : EV} {x : Option Expr} {d : D} (H : EvS prog w lv h₀ ev) (eo : EnvOK env sc) (o : Ok lv h₀ B A s) (sees : Sees prog w B env σ s.heap) (e : optE ev sc σ x d) : Yd prog w B A s (evalPart x env) d := by
 cases x with
 | none => exact fun Q E hQ => wpAny_pure (hQ _ _ (Kp.rfl' _) (show Den _ _ _ _ d _ from (show d = D.nil from e) ▸ rfl))
 | some x => exact H _ _ _ _ e A s B env o eo sees
theorem slice_ev {ev : EV} {v : Expr} {lo hi : Option Expr} {p pos : Pos} {a l h d : D} (H : EvS prog w lv h₀ ev) (eo : EnvOK env sc) (o : Ok lv h₀ B A s) (sees : Sees prog w B env σ s.heap)
  (ea : ev sc σ v a) (el : optE ev sc σ lo l) (eh : optE ev sc σ hi h) (e : slice a l h = some d) : Yd prog w B A s (eval (.Subscript v (.Slice lo hi none p) pos) env) d := fun Q E hQ => by
 rw [eval_Subscript]
 refine wpAny_bind ((H _ _ _ _ ea A s B env o eo sees).then fun vo s₁ k₁ xo => ?_)
 refine wpAny_bind (wpAny_holding (wpAny_Slice ((part_ev H eo (o.keeps k₁) (sees.le k₁.le) el).then fun vl s₂ k₂ xl => ?_)))
 refine (part_ev H eo ((o.keeps k₁).keeps k₂) ((sees.le k₁.le).le k₂.le) eh).then fun vh s₃ k₃ xh => ?_
 rw [evalPart_none]
 refine wpAny_pure ?_
 refine wpAny_bind (wpAny_standAt ?_)
 have k₄ : Kp s₃ { s₃ with heap := s₃.heap.push { cls := .type "slice",data := .fields #[vl,vh,.none] } } := Kp.heap (t := s₃.toks) (Le.push _ _)
 have xo' := ((xo.le k₂.le).le k₃.le).le k₄.le
 obtain ⟨T,id,hT,hl⟩ := slice_type e xo'
 refine wpAny_bind ?_
 rw [getitemInPython_of_ne hT.not_modules]
 refine wpAny_bind (wpAny_specialOf hT hl ?_)
 refine wpAny_pure ?_
 have hs : ∀ sl,subscripted (.Slice lo hi none p) false vo sl = operate [sl,vo] (getItem vo sl) := fun _ => rfl
 rw [hs]
 have ks := ((k₁.trans k₂).trans k₃).trans k₄
 refine wpAny_bind (wpAny_operating ((slice_sound e (o.keeps ks).below xo' ((xl.le k₃.le).le k₄.le) (xh.le k₄.le) (Heap.IsSliceOf.new _ _ _ _)).then fun r s₅ k₅ xr => ?_))
 exact wpAny_bind (wpAny_letTemporaryGo (wpAny_pure (hQ _ _ (ks.trans k₅) xr)))
end
set_option maxRecDepth 100000
theorem lk_str_getitem : typeLookup (.type "str") "__getitem__" = pure (some (.builtin "str.__getitem__")) := F.slot_str_getitem.lookup
theorem ty_str_getitem : typeOf (.builtin "str.__getitem__") = pure (.type "wrapper_descriptor") := by kernel_rfl
theorem slot_wd_get : Slot "wrapper_descriptor" "__get__" "wrapper_descriptor.__get__" :=
 .of (owner := "wrapper_descriptor") (n := "__get__") (by rw [typeLookup_type,builtinLookup_eq_fast]; kernel_rfl) (by decide +kernel) (by decide +kernel) (by decide +kernel)
  (by first | exact .inl (by decide +kernel) | exact .inr (by decide +kernel)) (by rw [isSubtype_type]; kernel_rfl)
theorem no_wd_set : typeLookup (.type "wrapper_descriptor") "__set__" = pure none := by rw [typeLookup_type,builtinLookup_eq_fast]; kernel_rfl
theorem no_wd_del : typeLookup (.type "wrapper_descriptor") "__delete__" = pure none := by rw [typeLookup_type,builtinLookup_eq_fast]; kernel_rfl
theorem entry_wd_get : entryFor table "wrapper_descriptor.__get__" = some Builtin.«wrapper_descriptor.__get__» := entryFor_of_tree (by kernel_rfl)
theorem args_wd_get (a b c : Value) : argsOk "wrapper_descriptor.__get__" ⟨[a,b,c],[]⟩ := by unfold argsOk; kernel_rfl
theorem entry_hasattr : entryFor table "hasattr" = some Builtin.«hasattr» := entryFor_of_tree (by kernel_rfl)
theorem kind_hasattr : builtinKind "hasattr" = none := by decide +kernel
theorem plain_hasattr : plainId "hasattr" = true := by decide +kernel
theorem args_hasattr (a b : Value) : argsOk "hasattr" ⟨[a,b],[]⟩ := by unfold argsOk; kernel_rfl
section
variable {prog : Program} {w : World} {A : Around} {E : Value → Shared → Prop} {h : Heap} {g : Array GenState} {d : Drawn} {t : Nat} {os : OsState} {x : Str} {u : Tok}
theorem sub_gi : isSubtype (.type "str") (.type (".".intercalate ("str.__getitem__".cutAt '.').dropLast)) = pure true := by
 rw [show (".".intercalate ("str.__getitem__".cutAt '.').dropLast) = "str" from by
  have e0 : "str.__getitem__".cutAt '.' = ["str","__getitem__"] := by first | rfl | decide +kernel
  rw [e0]; decide +kernel]
 exact isSubtype_str_str
theorem gi_get {R : Result → Shared → Prop} (hq : ∀ a h' tk,Le h h' → R (.ok (.ret (.ref a))) ⟨h',g,d,tk,os⟩) :
  codeAny (model prog w) A (.call (.builtin "wrapper_descriptor.__get__") ⟨[.builtin "str.__getitem__",.str x u,.type "str"],[]⟩) R ⟨h,g,d,t,os⟩ := by
 have hT : (⟨h,g,d,t,os⟩ : Shared).TypeIs (.str x u) "str" := rfl
 have hT5 : (⟨h,g,d,t,os⟩ : Shared).TypeIs (.builtin "str.__getitem__") "wrapper_descriptor" := ty_str_getitem
 refine codeAny_call_builtin slot_wd_get.plain entry_wd_get (slot_wd_get.check _ _ _ _ _ _ _ _ hT5 (args_wd_get _ _ _) ?_)
 have f8 := sub_gi
 repeat (any_goals (first | assumption | wp_step))
 all_goals exact hq _ _ _ (Le.push _ _)
theorem gi_entry {tk : Tok} {Q : Fin → Shared → Prop} (hq : ∀ a h' tk,Le h h' → Q (.done (.ret (.ref a))) ⟨h',g,d,tk,os⟩) :
  wpAny (model prog w) A (Builtin.«object.__getattribute__» ⟨[.str x u,.str "__getitem__" tk],[]⟩) Q E ⟨h,g,d,t,os⟩ := by
 have hT : (⟨h,g,d,t,os⟩ : Shared).TypeIs (.str x u) "str" := rfl
 have hT5 : (⟨h,g,d,t,os⟩ : Shared).TypeIs (.builtin "str.__getitem__") "wrapper_descriptor" := ty_str_getitem
 have f4 := lk_str_getitem
 have f5 := ty_str_getitem
 have f6 := slot_wd_get.lookup
 have f7 := no_wd_set
 have f9 := no_wd_del
 repeat (any_goals (first | assumption | wp_step))
 refine gi_get fun v h' tk' hk => ?_
 exact wpAny_pure (hq v h' tk' hk)
theorem gi_call {tk : Tok} {R : Result → Shared → Prop} (hq : ∀ a h' tk,Le h h' → R (.ok (.ret (.ref a))) ⟨h',g,d,tk,os⟩) :
  codeAny (model prog w) A (.call (.builtin "object.__getattribute__") ⟨[.str x u,.str "__getitem__" tk],[]⟩) R ⟨h,g,d,t,os⟩ :=
 codeAny_call_builtin F.slot_str_getattribute.plain F.entry_object_getattribute (F.slot_str_getattribute.check _ _ _ _ _ _ _ _ (show (⟨h,g,d,t,os⟩ : Shared).TypeIs (.str x u) "str" from rfl) (F.args_object_getattribute_2 _ _) (gi_entry hq))
theorem gi_by {tk : Tok} {Q : Value → Shared → Prop} (hq : ∀ a h' tk,Le h h' → Q (.ref a) ⟨h',g,d,tk,os⟩) : wpAny (model prog w) A (getAttrBy (.str x u) (.str "__getitem__" tk) false) Q E ⟨h,g,d,t,os⟩ := by
 have hT : (⟨h,g,d,t,os⟩ : Shared).TypeIs (.str x u) "str" := rfl
 have f2 := F.slot_str_getattribute.lookup
 have f3 := F.slot_str_getattribute.bind (.str x u)
 repeat (any_goals (first | assumption | wp_step))
 refine gi_call fun v h' tk' hk => ?_
 repeat (any_goals (first | exact hq _ _ _ hk | assumption | wp_step))
theorem hasattr_str {v : Tok} {Q : Value → Shared → Prop} (hq : ∀ h' tk,Le h h' → Q (.bool true) ⟨h',g,d,tk,os⟩) :
  wpAny (model prog w) A (call (.builtin "hasattr") [.str x u,.str "__getitem__" v]) Q E ⟨h,g,d,t,os⟩ := by
 refine Calls.call_function_entry kind_hasattr plain_hasattr entry_hasattr (args_hasattr _ _) ?_
 have hT : (⟨h,g,d,t,os⟩ : Shared).TypeIs (.str x u) "str" := rfl
 have f4 := lk_str_getitem
 have f2 := F.slot_str_getattribute.lookup
 have e1 : withoutEnding? "str.__getitem__" "#data" = none := by decide +kernel
 unfold Builtin.«hasattr»
 refine wpAny_bind (m := someArgs "hasattr" 2 2 ⟨[.str x u,.str "__getitem__" v],[]⟩) (wpAny_pure ?_)
 refine wpAny_bind (wpAny_pure (a := ()) ?_)
 have hne : ¬ ((Value.str x u == Value.builtin "__main__.__loader__#opaque") = true) := fun h => nomatch (eq_of_beq h)
 refine (?_ : wpAny _ _ (if (Value.str x u == Value.builtin "__main__.__loader__#opaque") = true then _ else _) _ _ _)
 rw [if_neg hne]
 refine wpAny_bind (wpAny_pure (a := Value.type "str") ?_)
 refine wpAny_bind (wpAny_pure (a := some (Str.ofString "__getitem__")) ?_)
 refine wpAny_bind (wpAny_of_eq f4 ?_)
 refine wpAny_bind (wpAny_of_eq f2 ?_)
 rw [e1]
 refine wpAny_bind (wpAny_pure (a := 0) ?_)
 refine wpAny_bind (m := getAttrBy? _ _) ?_
 unfold getAttrBy?
 refine wpAny_bind (wpAny_attempt (gi_by fun a h' tk hk => ?_))
 exact wpAny_pure (wpAny_pure ⟨_,rfl,hq _ _ hk⟩)
end
set_option maxRecDepth 512
section
variable {prog : Program} {w : World} {lv : Nat} {h₀ : Heap} {B : Addr → Prop} {A : Around} {s s' : Shared} {env : Env} {sc : Scope} {σ : St} {G : GE}
theorem glob_kind {f : Str} (eo : EnvOK env sc) (hg : isGlob sc f = true) : env.kindOf f = some .globalImplicit := by
 unfold isGlob at hg
 rcases eo.same f with h | ⟨_,h⟩
 ·rw [h]; exact eq_of_beq hg
 ·rw [h] at hg; exact absurd hg (by decide)
theorem glob_val {mg : Str → Option Value} {f : Str} {p : Pos} {v : Value} {Q : Value → Shared → Prop} {E : Value → Shared → Prop} (eo : EnvOK env sc) (o : Ok lv h₀ B A s) (hg : isGlob sc f = true) (hmg : h₀.Ns mainGlobals mg) (hv : mg f = some v)
  (hd : (f == ("__debug__" : Str)) = false) (h : Q v s) : wpAny (model prog w) A (eval (.Name f p) env) Q E s :=
 Calls.Name_function_global eo.kind (glob_kind eo hg) (Calls.loadGlobal_global (by rw [eo.glob]; exact hmg.keepsP o.le) hv h) hd
theorem glob_blt {mg mb : Str → Option Value} {f : Str} {p : Pos} {v : Value} {Q : Value → Shared → Prop} {E : Value → Shared → Prop} (eo : EnvOK env sc) (o : Ok lv h₀ B A s) (hg : isGlob sc f = true) (hmg : h₀.Ns mainGlobals mg) (hmb : h₀.Ns builtinsNs mb)
  (hn : mg f = none) (hv : mb f = some v) (hd : (f == ("__debug__" : Str)) = false) (h : Q v s) : wpAny (model prog w) A (eval (.Name f p) env) Q E s :=
 Calls.Name_function_global eo.kind (glob_kind eo hg) (Calls.loadGlobal_builtin (by rw [eo.glob]; exact hmg.keepsP o.le) hn (by rw [eo.blt]; exact hmb.keepsP o.le) hv h) hd
theorem callFn_ev {ev : EV} {f : Str} {p pos : Pos} {as : List Expr} {ds : List D} {F : List D → Option D} {d : D} (H : EvS prog w lv h₀ ev) (g : Gd prog w lv G h₀) (eo : EnvOK env sc) (o : Ok lv h₀ B A s) (sees : Sees prog w B env σ s.heap)
  (hd : (f == ("__debug__" : Str)) = false) (hg : isGlob sc f = true) (e : evs ev sc σ as ds) (hF : G.fn.lookup f = some F) (he : F ds = some d) : Yd prog w B A s (eval (.Call (.Name f p) as [] pos) env) d := fun Q E hQ => by
 obtain ⟨mg,mb,hmg,hmb,hfn,_,_,_⟩ := g.ns
 obtain ⟨a,ob,fd,ha,ho,hdat,hcon⟩ := hfn f F hF
 refine wpAny_Call_Name_kw (glob_val eo o hg hmg ha hd ?_)
 refine Calls.callWith_function (o := ob) (fd := fd) (args_ev H eo o sees e fun vs s₁ k₁ xs => ⟨⟨k₁.le _ _ (o.le _ _ ho),hdat⟩,?_⟩)
 exact (hcon A s₁ B vs ds d (o.keeps k₁) xs he).keeps_post k₁ hQ
theorem notDebug (n : String) (h : n ∈ fnNames ++ tyNames) : (Str.ofString n == ("__debug__" : Str)) = false := by
 have : ∀ n ∈ fnNames ++ tyNames,(Str.ofString n == ("__debug__" : Str)) = false := by decide +kernel
 exact this n h
theorem bcall_name {f : Str} {ds : List D} {d : D} (e : bcall f ds = some d) : ∃ n ∈ ["len","min","sum","chr","hex"],f = Str.ofString n := by
 unfold bcall at e
 split at e
 ·rename_i h; exact ⟨"len",by decide,h⟩
 ·split at e
  ·rename_i h; exact ⟨"min",by decide,h⟩
  ·split at e
   ·rename_i h; exact ⟨"sum",by decide,h⟩
   ·split at e
    ·rename_i h; exact ⟨"chr",by decide,h⟩
    ·split at e
     ·rename_i h; exact ⟨"hex",by decide,h⟩
     ·cases e
theorem ofString_inj {a b : String} (ha : a ∈ ["len","min","sum","chr","hex"]) (hb : b ∈ ["len","min","sum","chr","hex"]) (h : Str.ofString a = Str.ofString b) : a = b := by
 have : ∀ a ∈ ["len","min","sum","chr","hex"],∀ b ∈ ["len","min","sum","chr","hex"],Str.ofString a = Str.ofString b → a = b := by decide +kernel
 exact this a ha b hb h
theorem callB_ev {ev : EV} {n : String} {p pos : Pos} {as : List Expr} {ds : List D} {d : D} (H : EvS prog w lv h₀ ev) (g : Gd prog w lv G h₀) (eo : EnvOK env sc) (o : Ok lv h₀ B A s) (sees : Sees prog w B env σ s.heap)
  (hn : n ∈ fnNames) (hg : isGlob sc (Str.ofString n) = true) (e : evs ev sc σ as ds)
  (he : ∀ vs s₁,Kp s s₁ → Dens prog w B s₁.heap ds vs → Yd prog w B A s₁ (call (.builtin n) vs) d) : Yd prog w B A s (eval (.Call (.Name (Str.ofString n) p) as [] pos) env) d := fun Q E hQ => by
 obtain ⟨mg,mb,hmg,hmb,_,_,hfn,_⟩ := g.ns
 obtain ⟨h1,h2⟩ := hfn n hn
 refine wpAny_Call_Name_kw (glob_blt eo o hg hmg hmb h1 h2 (notDebug n (List.mem_append_left _ hn)) ?_)
 refine Calls.callWith_builtin (noStar_any e.1) (args_ev H eo o sees e fun vs s₁ k₁ xs => ?_)
 exact (he vs s₁ k₁ xs).keeps_post k₁ hQ
theorem callBlt_ev {ev : EV} {f : Str} {p pos : Pos} {as : List Expr} {ds : List D} {d : D} (H : EvS prog w lv h₀ ev) (g : Gd prog w lv G h₀) (eo : EnvOK env sc) (o : Ok lv h₀ B A s) (sees : Sees prog w B env σ s.heap)
  (hg : isGlob sc f = true) (e : evs ev sc σ as ds) (he : bcall f ds = some d) : Yd prog w B A s (eval (.Call (.Name f p) as [] pos) env) d := by
 obtain ⟨n,hn,rfl⟩ := bcall_name he
 have hsub : ∀ n ∈ ["len","min","sum","chr","hex"],n ∈ fnNames := by decide
 refine callB_ev H g eo o sees (hsub n hn) hg e fun vs s₁ k₁ xs => ?_
 obtain ⟨id,hmem,hid,hy⟩ := bcall_sound (o.keeps k₁).amb he xs
 rw [ofString_inj hn hmem hid]; exact hy
theorem meth_ev {ev : EV} {ob : Expr} {m : Str} {apos pos : Pos} {as : List Expr} {a d : D} {ds : List D} (H : EvS prog w lv h₀ ev) (eo : EnvOK env sc) (o : Ok lv h₀ B A s) (sees : Sees prog w B env σ s.heap)
  (hline : (apos.endLine == pos.line) = true) (hp : plainObj ob = true) (hlen : as.length < 20) (ea : ev sc σ ob a) (e : evs ev sc σ as ds) (he : meth a m ds = some d) :
  Yd prog w B A s (eval (.Call (.Attribute ob m apos) as [] pos) env) d := fun Q E hQ => by
 have hbase : attributeBase ob m env (eval ob env) = eval ob env := by cases ob <;> first | rfl | cases hp
 have hn := e.1
 have hall : ∀ {es : List Expr},es.all notStar = true → (backTo pos (starEach es env)).all (fun x => !x.1) = true := by
  intro es
  induction es with
  | nil => intro _; rfl
  | cons x r ih =>
   intro h
   rw [List.all_cons,Bool.and_eq_true] at h
   rw [star_cons h.1]
   show (true && (backTo pos (starEach r env)).all (fun x => !x.1)) = true
   rw [ih h.2]; rfl
 refine wpAny_Call_method_lateS hbase ?_ hline ((H _ _ _ _ ea A s B env o eo sees).then fun vo s₁ k₁ xo => ?_)
 ·rw [hall hn]
  show (true && true && decide _) = true
  simp only [Bool.and_self,Bool.true_and,decide_eq_true_eq,List.length_nil,List.isEmpty_nil,if_true]
  lia
 ·obtain ⟨T,id,pa,slot,hty,hT,hd,hc⟩ := meth_sound (A := A) he xo
  refine ⟨T,id,pa,slot,hty,hT,hd,?_⟩
  refine Calls.callWith_builtin (noStar_any hn) (args_ev H eo (o.keeps k₁) (sees.le k₁.le) e fun vs s₂ k₂ xs => ?_)
  exact (hc s₂ vs k₂ xs).keeps_post (k₁.trans k₂) hQ
theorem isinstance_ev {ev : EV} {p q pos : Pos} {x : Expr} {n : Int} (H : EvS prog w lv h₀ ev) (g : Gd prog w lv G h₀) (eo : EnvOK env sc) (o : Ok lv h₀ B A s) (sees : Sees prog w B env σ s.heap) (hx : notStar x = true)
  (hg : isGlob sc "isinstance" = true) (hg2 : isGlob sc "int" = true) (e : ev sc σ x (.int n)) : Yd prog w B A s (eval (.Call (.Name "isinstance" p) [x,.Name "int" q] [] pos) env) (.bool true) := fun Q E hQ => by
 obtain ⟨mg,mb,hmg,hmb,_,_,hfn,hty⟩ := g.ns
 obtain ⟨h1,h2⟩ := hfn "isinstance" (by decide)
 obtain ⟨h3,h4⟩ := hty "int" (by decide)
 refine wpAny_Call_Name_kw (glob_blt eo o hg hmg hmb h1 h2 (notDebug _ (by decide)) ?_)
 have hs : starEach [x,.Name "int" q] env = [(false,eval x env),(false,eval (.Name "int" q) env)] := by rw [star_cons hx]; rfl
 rw [hs]
 refine Calls.callWith_builtin rfl (Calls.evalArgs_plain (Calls.spliced_cons ((H _ _ _ _ e A s B env o eo sees).then fun v s₁ k₁ xv => ?_)))
 refine Calls.spliced_cons (glob_blt eo (o.keeps k₁) hg2 hmg hmb h3 h4 (notDebug _ (by decide)) (Calls.spliced_nil ?_))
 obtain ⟨t,rfl⟩ := den_int xv
 exact call_isinstance_yes (Tx := "int") (typeIs_int _ _ _) (by rfl) isSubtype_int_int (hQ _ _ k₁ rfl)
theorem hasattr_ev {ev : EV} {p q pos : Pos} {k : Nat} {x : Expr} {l : List Nat} (H : EvS prog w lv h₀ ev) (g : Gd prog w lv G h₀) (eo : EnvOK env sc) (o : Ok lv h₀ B A s) (sees : Sees prog w B env σ s.heap) (hx : notStar x = true)
  (hg : isGlob sc "hasattr" = true) (e : ev sc σ x (.str l)) : Yd prog w B A s (eval (.Call (.Name "hasattr" p) [x,.Constant (.str "__getitem__") k q] [] pos) env) (.bool true) := fun Q E hQ => by
 obtain ⟨mg,mb,hmg,hmb,_,_,hfn,hty⟩ := g.ns
 obtain ⟨h1,h2⟩ := hfn "hasattr" (by decide)
 refine wpAny_Call_Name_kw (glob_blt eo o hg hmg hmb h1 h2 (notDebug _ (by decide)) ?_)
 have hs : starEach [x,.Constant (.str "__getitem__") k q] env = [(false,eval x env),(false,eval (.Constant (.str "__getitem__") k q) env)] := by rw [star_cons hx]; rfl
 rw [hs]
 refine Calls.callWith_builtin rfl (Calls.evalArgs_plain (Calls.spliced_cons ((H _ _ _ _ e A s B env o eo sees).then fun v s₁ k₁ xv => ?_)))
 refine Calls.spliced_cons (Calls.Constant_str (k := k) (pos := q) (Calls.spliced_nil ?_))
 obtain ⟨t,rfl⟩ := den_str xv
 obtain ⟨hp,gg,dd,tk,os⟩ := s₁
 refine hasattr_str fun h' tk' hk => hQ _ _ (k₁.trans ⟨h',tk',rfl,hk⟩) rfl
theorem ints_of : ∀ {as : List D} {ns : List Int},intsOf as = some ns → as = ns.map D.int
 | [],_,e => by cases allM_nil e; rfl
 | d :: r,_,e => by
  obtain ⟨n,t,hn,ht,rfl⟩ := allM_cons e
  cases d <;> simp [intOf] at hn
  subst hn
  rw [List.map_cons,← ints_of ht]
theorem els_ints {h : Heap} {P : Nat → Int} : ∀ (n : Nat) (vs : List Value),vs.length = n → (∀ (j : Nat) (v : Value),vs[j]? = some v → ∃ t,v = Value.int (P j) t) → Els B h ((List.range n).map fun i => D.int (P i)) vs
 | 0,vs,hl,_ => by
  have : vs = [] := List.length_eq_zero_iff.mp hl
  subst this; exact Els.nil
 | n + 1,vs,hl,hP => by
  rw [List.range_succ,List.map_append]
  have hvs : vs = vs.take n ++ vs.drop n := (List.take_append_drop n vs).symm
  rw [hvs]
  refine Els.append (els_ints n (vs.take n) (by rw [List.length_take]; lia) fun j v hj => ?_) ?_
  ·rw [List.getElem?_take] at hj
   split at hj
   ·exact hP j v hj
   ·cases hj
  ·have h1 : (vs.drop n).length = 1 := by rw [List.length_drop]; lia
   obtain ⟨v,hv⟩ := List.length_eq_one_iff.mp h1
   rw [hv]
   have : vs[n]? = some v := by
    have : (vs.drop n)[0]? = some v := by rw [hv]; rfl
    simpa using this
   exact Els.cons (hP n v this) Els.nil
theorem type_arg {T : String} {p pos : Pos} {as : List Expr} {ds : List D} {ev : EV} {Q : Value → Shared → Prop} {E : Value → Shared → Prop} (H : EvS prog w lv h₀ ev) (g : Gd prog w lv G h₀) (eo : EnvOK env sc) (o : Ok lv h₀ B A s) (sees : Sees prog w B env σ s.heap)
  (hT : T ∈ tyNames) (hg : isGlob sc (Str.ofString T) = true) (e : evs ev sc σ as ds)
  (h : ∀ vs s₁,Kp s s₁ → Dens prog w B s₁.heap ds vs → wpAny (model prog w) A (call (.type T) vs) Q E s₁) : wpAny (model prog w) A (eval (.Call (.Name (Str.ofString T) p) as [] pos) env) Q E s := by
 obtain ⟨mg,mb,hmg,hmb,_,_,_,hty⟩ := g.ns
 obtain ⟨h1,h2⟩ := hty T hT
 refine wpAny_Call_Name_kw (glob_blt eo o hg hmg hmb h1 h2 (notDebug T (List.mem_append_right _ hT)) ?_)
 exact PySem.callWith_type (noStar_any e.1) (args_ev H eo o sees e fun vs s₁ k₁ xs => h vs s₁ k₁ xs)
theorem dens1 {h : Heap} {d : D} {vs : List Value} (x : Dens prog w B h [d] vs) : ∃ v,vs = [v] ∧ Den prog w B h d v := by
 obtain ⟨v,r,rfl,hv,hr⟩ := x; cases hr; exact ⟨v,rfl,hv⟩
theorem dens2 {h : Heap} {d e : D} {vs : List Value} (x : Dens prog w B h [d,e] vs) : ∃ v u,vs = [v,u] ∧ Den prog w B h d v ∧ Den prog w B h e u := by
 obtain ⟨v,r,rfl,hv,hr⟩ := x; obtain ⟨u,rfl,hu⟩ := dens1 hr; exact ⟨v,u,rfl,hv,hu⟩
theorem dens3 {h : Heap} {d e f : D} {vs : List Value} (x : Dens prog w B h [d,e,f] vs) : ∃ v u t,vs = [v,u,t] ∧ Den prog w B h d v ∧ Den prog w B h e u ∧ Den prog w B h f t := by
 obtain ⟨v,r,rfl,hv,hr⟩ := x; obtain ⟨u,t,rfl,hu,ht⟩ := dens2 hr; exact ⟨v,u,t,rfl,hv,hu,ht⟩
theorem listRange_evF {ev : EV} {p q pos pos2 : Pos} {bs : List Expr} {ds es : List D} (H : EvS prog w lv h₀ ev) (g : Gd prog w lv G h₀) (eo : EnvOK env sc) (o : Ok lv h₀ B A s) (sees : Sees prog w B env σ s.heap)
  (hg : isGlob sc "list" = true) (hg2 : isGlob sc "range" = true) (e : evs ev sc σ bs ds) (he : ranged3 ds = some es) :
  YdF prog w B A s (eval (.Call (.Name "list" p) [.Call (.Name "range" q) bs [] pos2] [] pos) env) es := fun Q E hQ => by
 obtain ⟨ns,hn,he⟩ := b2 he
 obtain ⟨⟨a,b,c⟩,hq,he⟩ := b2 he
 obtain ⟨hc,rfl⟩ := ite_inv he
 have hds := ints_of hn
 rw [trip_eq hq] at hds
 subst hds
 simp only [Bool.and_eq_true,decide_eq_true_eq] at hc
 obtain ⟨mg,mb,hmg,hmb,_,_,_,hty⟩ := g.ns
 obtain ⟨h1,h2⟩ := hty "list" (by decide)
 refine wpAny_Call_Name_kw (glob_blt eo o hg hmg hmb h1 h2 (notDebug _ (by decide)) ?_)
 have hs : starEach [.Call (.Name "range" q) bs [] pos2] env = [(false,eval (.Call (.Name "range" q) bs [] pos2) env)] := rfl
 rw [hs]
 refine PySem.callWith_type rfl (Calls.evalArgs_plain (Calls.spliced_cons (type_arg H g eo o sees (T := "range") (by decide) hg2 e fun vs s₁ k₁ xs => ?_)))
 obtain ⟨v1,v2,v3,rfl,x1,x2,x3⟩ := dens3 xs
 obtain ⟨t1,rfl⟩ := den_int x1
 obtain ⟨t2,rfl⟩ := den_int x2
 obtain ⟨t3,rfl⟩ := den_int x3
 refine call_range_3 (by lia) (Calls.spliced_nil ?_) (.inl (noPy hc.1.1.2))
 have k₂ : Kp s₁ { s₁ with heap := s₁.heap.push { cls := .type "range",data := .fields #[.int a t1,.int b t2,.int c t3] },toks := s₁.toks } := Kp.heap (Le.push _ _)
 have hfit := fits_le hc.2
 refine call_list_range (n := (Builtin.Range.rangeSize a b c).toNat) o.amb.1 (IsRange.new ..) hc.1.1.1.1 (Int.toNat_of_nonneg hc.1.2).symm (by lia) fun h' tk acc' c' hk hl hit => ?_
 have k₃ := (k₁.trans k₂).trans ⟨h',tk,rfl,hk⟩
 refine hQ _ _ acc'.toList k₃ ?_ ⟨c',by simpa using hl⟩ ?_
 ·exact fresh_at (k₁.trans k₂)
 ·exact els_ints _ _ (by rw [Array.length_toList,hit.1]) fun j v hj => hit.2 j v (by simpa using hj)
theorem strsConst_vals : ∀ {es : List Expr} {ls : List (List Nat)},strsConst es = some ls → ∀ {s : Shared} {pos : Pos} {Q : List Value → Shared → Prop} {E : Value → Shared → Prop},
  (∀ l : List (Str × Tok),l.map (fun p => p.1.cps.toList) = ls → ∀ tk,Q (strValues l) { s with toks := tk }) → wpAny (model prog w) A (spliced (backTo pos (starEach es env))) Q E s
 | [],_,e,s,pos,Q,E,h => by cases e; exact Calls.spliced_nil (h [] rfl s.toks)
 | e0 :: r,_,e,s,pos,Q,E,h => by
  obtain ⟨x,hx,e⟩ := b2 e
  obtain ⟨ls,hr,rfl⟩ := m2 e
  obtain ⟨k,p,rfl⟩ := cstr_eq hx
  refine Calls.spliced_cons (Calls.Constant_str (k := k) (pos := p) ?_)
  refine strsConst_vals hr fun l hl tk => ?_
  exact h ((x,s.toks) :: l) (by rw [List.map_cons,hl]) tk
theorem any_strs (x : List Nat) : ∀ {l : List (Str × Tok)} {ls : List (List Nat)},l.map (fun p => p.1.cps.toList) = ls →
  ((strValues l).any fun v => match v with | .str y _ => y.cps.toList == x | _ => false) = ls.contains x
 | [],_,e => by cases e; rfl
 | (y,t) :: l,_,e => by
  cases e
  rw [List.map_cons,List.contains_cons]
  show ((y.cps.toList == x) || (strValues l).any _) = _
  rw [any_strs x rfl]
  congr 1
  rw [Bool.eq_iff_iff,beq_iff_eq,beq_iff_eq]; exact eq_comm
theorem inTexts {ev : EV} {l : Expr} {es : List Expr} {k : Nat} {p : Pos} {a : D} {ls : List (List Nat)} {c : Bool} {Q : Value → Shared → Prop} {E : Value → Shared → Prop} (H : EvS prog w lv h₀ ev) (eo : EnvOK env sc) (o : Ok lv h₀ B A s) (sees : Sees prog w B env σ s.heap)
  (ea : ev sc σ l a) (el : strsConst es = some ls) (e : cmpop .In a (.texts ls) = some c) (hf : fits ls.length = true)
  (hQ : ∀ s',Kp s s' → Q (.bool c) s') : wpAny (model prog w) A (eval l env) (fun va s₁ => wpAny (model prog w) A (eval (.Tuple es k p) env) (fun vb s₂ => wpAny (model prog w) A (compareOp .In va vb) Q E s₂) E s₁) E s := by
 refine (H _ _ _ _ ea A s B env o eo sees).then fun va s₁ k₁ xa => ?_
 have hax : ∃ x,a = .str x ∧ c = ls.contains x := by
  cases a <;> first | (cases e; exact ⟨_,rfl,rfl⟩) | cases e
 obtain ⟨x,rfl,rfl⟩ := hax
 obtain ⟨t,rfl⟩ := den_str xa
 refine Tuple_ (strsConst_vals el fun tl htl tk => ?_)
 have hlen : (strValues tl).length ≤ sizeLine := by
  have : (strValues tl).length = ls.length := by rw [← htl]; simp [strValues]
  rw [this]; exact fits_line hf
 refine wpAny_newObj_type ?_ (by show (strValues tl).toArray.size ≤ sizeLine; rw [List.size_toArray]; exact hlen)
 refine SeqRoads2.in_tuple (items := (strValues tl).toArray) (n := 0) (fun v => match v with | .str y _ => y.cps.toList == x | _ => false) ?_ (Heap.get?_push_size _ rfl) ?_
 ·intro y hy
  simp only [strValues,List.mem_toArray,List.mem_map] at hy
  obtain ⟨q,_,rfl⟩ := hy
  have := SeqRoads2.EqGives.str q.1 ⟨x.toArray⟩ q.2 t
  simpa using this
 ·have : ((strValues tl).toArray.any fun v => match v with | .str y _ => y.cps.toList == x | _ => false) = ls.contains x := by rw [List.any_toArray]; exact any_strs x htl
  rw [this]
  exact hQ _ (k₁.trans (Kp.heap (t := tk) (Le.push _ _)))
end
section
variable {prog : Program} {w : World} {lv : Nat} {h₀ : Heap} {B : Addr → Prop} {A : Around} {s s' : Shared} {env : Env} {sc : Scope} {σ : St} {G : GE}
theorem els_range {h : Heap} (a c : Int) (n : Nat) : ∀ i v,(∃ t,v = Value.int (a + (i : Nat) * c) t) → i < n → ∃ d,((List.range n).map fun (i : Nat) => D.int (a + (i : Int) * c))[i]? = some d ∧ El B h d v := by
 rintro i v ⟨t,rfl⟩ hi
 exact ⟨D.int (a + (i : Int) * c),by simp [hi],⟨t,rfl⟩⟩
structure Itr (prog : Program) (w : World) (B : Addr → Prop) (strict : Bool) (A : Around) (s : Shared) (ds : List D) (I : Addr) (fp : List Addr) (P : Nat → Value → Prop) (St : Nat → Heap → Prop) (s₂ : Shared) : Prop where
 kp : Kp s s₂
 fresh : s.heap.get? I = none
 walks : Walks prog w A I fp [I] ds.length P St
 start : St 0 s₂.heap
 foot : ∀ b ∈ fp,b = I ∨ (∃ o,s₂.heap.get? b = some o) ∧ b ≠ I ∧ (strict = true → ¬ B b)
 items : ∀ i v,i < ds.length → P i v → ∃ d,ds[i]? = some d ∧ El (fun b => B b ∨ b = I) s₂.heap d v
 live : ∀ i h,St i h → ∃ o,h.get? I = some o
theorem ranged_shape {as ds : List D} (e : ranged as = some ds) : ∃ a b : Int,(as = [.int b] ∧ a = 0 ∨ as = [.int a,.int b]) ∧ small a = true ∧ small b = true ∧ fits (b - a).toNat = true ∧
  ds = (List.range (b - a).toNat).map fun (i : Nat) => D.int (a + (i : Int) * 1) := by
 obtain ⟨ns,hn,e1⟩ := b2 e
 have := ints_of hn
 subst this
 clear e
 cases h1 : one ns with
 | some b =>
  rw [h1] at e1
  obtain ⟨hc,rfl⟩ := ite_inv e1
  rw [Bool.and_eq_true] at hc
  exact ⟨0,b,.inl ⟨by rw [one_eq h1]; rfl,rfl⟩,by decide,hc.1,by rw [Int.sub_zero]; exact hc.2,by rw [Int.sub_zero]⟩
 | none =>
  rw [h1] at e1
  obtain ⟨q,h2,e⟩ := b2 e1
  obtain ⟨hc,rfl⟩ := ite_inv e
  rw [Bool.and_eq_true,Bool.and_eq_true] at hc
  exact ⟨q.1,q.2,.inr (by rw [two_eq h2]; rfl),hc.1.1,hc.1.2,hc.2,rfl⟩
theorem itr_range {strict : Bool} {s s₁ : Shared} {a b : Int} {r : Addr} {t u v : Tok} {Q : Value → Shared → Prop} {E : Value → Shared → Prop} (k₁ : Kp s s₁) (hA : A.handled = none) (ha : small a = true) (hb : small b = true)
  (hr : IsRange s₁.heap r a b 1 t u v)
  (hQ : ∀ I fp P St s₂,Itr prog w B strict A s ((List.range (b - a).toNat).map fun (i : Nat) => D.int (a + (i : Int) * 1)) I fp P St s₂ → Q (.ref I) s₂) : wpAny (model prog w) A (pyIter (.ref r)) Q E s₁ := by
 have h1 := small_lt ha
 have h2 := small_lt hb
 refine wpAny_pyIter_range hr (small_one (by lia) (by lia) (by lia) (by lia)) ?_
 have hlen : ((List.range (b - a).toNat).map fun (i : Nat) => D.int (a + (i : Int) * 1)).length = (b - a).toNat := by simp
 have hsz : Builtin.Range.rangeSize a b 1 = (((b - a).toNat : Nat) : Int) := by rw [rangeSize_one]; split <;> lia
 refine hQ _ [s₁.heap.objs.size] (fun i v => ∃ t,v = .int (a + i * 1) t) (fun i h => IsRangeIter h s₁.heap.objs.size (a + (i : Nat) * 1) (((b - a).toNat : Int) - (i : Nat)) 1) _
  ⟨k₁.trans (Kp.heap (t := s₁.toks) (Le.push _ _)),?_,by rw [hlen]; exact Walks.range hA _ a 1 _,?_,?_,?_,fun _ _ x => ⟨_,x⟩⟩
 ·cases e : s.heap.get? s₁.heap.objs.size with
  | none => rfl
  | some o => exact absurd (Heap.lt_size (k₁.le _ _ e)) (Nat.lt_irrefl _)
 ·rw [hsz]
  have : IsRangeIter (s₁.heap.push { cls := .type "range_iterator",data := .fields #[rawInt a,rawInt ((b - a).toNat : Int),rawInt 1] }) s₁.heap.objs.size a ((b - a).toNat : Int) 1 := Heap.get?_push_size _ rfl
  simpa using this
 ·intro b hb
  rcases List.mem_cons.mp hb with rfl | hb
  ·exact .inl rfl
  ·cases hb
 ·intro i v hi hP
  exact els_range a 1 _ i v hP (by rw [hlen] at hi; exact hi)
theorem itr_items {strict : Bool} {s s₁ : Shared} {d : D} {ds : List D} {v : Value} {Q : Value → Shared → Prop} {E : Value → Shared → Prop} (k₁ : Kp s s₁) (hA : A.handled = none) (xv : Den prog w B s₁.heap d v) (e : itemsS strict d = some ds)
  (hQ : ∀ I fp P St s₂,Itr prog w B strict A s ds I fp P St s₂ → Q (.ref I) s₂) : wpAny (model prog w) A (pyIter v) Q E s₁ := by
 unfold itemsS at e
 split at e
 ·cases e
 ·rename_i hstr
  have hlist : ∀ es : List D,seqOf d = some es → ds = es → wpAny (model prog w) A (pyIter v) Q E s₁ := by
   intro es hs hd
   subst hd
   obtain ⟨a,vs,rfl,p,q⟩ := seqOf_of xv hs
   refine wpAny_pyIter_list p.isList ?_
   have hlt : a < s₁.heap.objs.size := by obtain ⟨n,e⟩ := p; exact Heap.lt_size e
   refine hQ _ [s₁.heap.objs.size,a] (fun i v => vs.toArray[i]? = some v) (fun i h => h.IsListIter s₁.heap.objs.size a i ∧ h.IsList a vs.toArray) _
    ⟨k₁.trans (Kp.heap (t := s₁.toks) (Le.push _ _)),fresh_at k₁,?_,⟨⟨_,Heap.get?_push_size _ rfl,rfl,rfl⟩,p.isList.push _⟩,?_,?_,fun _ _ x => let ⟨⟨o,e,_⟩,_⟩ := x; ⟨_,e⟩⟩
   ·have hn : ds.length = vs.toArray.size := by rw [List.size_toArray,q.length]
    rw [hn]
    exact Walks.list (prog := prog) (w := w) (A := A) hA s₁.heap.objs.size a (Nat.ne_of_lt hlt) vs.toArray
   ·intro b hb
    rcases List.mem_cons.mp hb with rfl | hb
    ·exact .inl rfl
    ·rcases List.mem_cons.mp hb with rfl | hb
     ·refine .inr ⟨?_,Nat.ne_of_lt hlt,fun hst => ?_⟩
      ·obtain ⟨n,e⟩ := p; exact ⟨_,Heap.get?_push_of_some _ e⟩
      ·rw [hst,Bool.true_and] at hstr
       cases d <;> simp [seqOf,D.isVal] at hs hstr
       obtain ⟨a',vs',ha',hB,_⟩ := xv
       cases ha'; exact hB
     ·cases hb
   ·intro i v hi hP
    obtain ⟨d,hd,hel⟩ := q.getV i (by simpa using hP)
    exact ⟨d,hd,hel.mono fun b o hnb e => ⟨Le.push _ _ b o e,fun h => by
     rcases h with h | h
     ·exact hnb h
     ·exact Nat.lt_irrefl _ (h ▸ Heap.lt_size e)⟩⟩
  cases d with
  | str l =>
   cases e
   obtain ⟨t,rfl⟩ := den_str xv
   have hn : (l.map fun c => D.str [c]).length = (⟨l.toArray⟩ : Str).cps.size := by simp
   have hit : ∀ (B' : Addr → Prop) (h : Heap) (i : Nat) (v : Value),i < (l.map fun c => D.str [c]).length → SignAt ⟨l.toArray⟩ i v → ∃ d,(l.map fun c => D.str [c])[i]? = some d ∧ El B' h d v := by
    rintro B' h i v hi ⟨c,u,hc,rfl⟩
    have hc' : l[i]? = some c := by simpa using hc
    exact ⟨D.str [c],by simp [hc'],⟨u,rfl⟩⟩
   have hft : ∀ (h : Heap) b,b ∈ [s₁.heap.objs.size] → b = s₁.heap.objs.size ∨ (∃ o,h.get? b = some o) ∧ b ≠ s₁.heap.objs.size ∧ (strict = true → ¬ B b) := by
    intro h b hb
    rcases List.mem_cons.mp hb with rfl | hb
    ·exact .inl rfl
    ·cases hb
   cases ha : (⟨l.toArray⟩ : Str).cps.all (· < 128)
   ·refine wpAny_pyIter_wide ha (hQ _ [s₁.heap.objs.size] (SignAt ⟨l.toArray⟩) (fun i h => h.IsStrIter s₁.heap.objs.size "str_iterator" ⟨l.toArray⟩ t i) _ ⟨k₁.trans (Kp.heap (t := s₁.toks) (Le.push _ _)),fresh_at k₁,?_,⟨_,Heap.get?_push_size _ rfl,rfl,rfl⟩,hft _,hit _ _,fun _ _ x => let ⟨o,e,_⟩ := x; ⟨_,e⟩⟩)
    rw [hn]; exact Walks.strWide hA _ _ t
   ·refine wpAny_pyIter_ascii ha (hQ _ [s₁.heap.objs.size] (SignAt ⟨l.toArray⟩) (fun i h => h.IsStrIter s₁.heap.objs.size "str_ascii_iterator" ⟨l.toArray⟩ t i) _ ⟨k₁.trans (Kp.heap (t := s₁.toks) (Le.push _ _)),fresh_at k₁,?_,⟨_,Heap.get?_push_size _ rfl,rfl,rfl⟩,hft _,hit _ _,fun _ _ x => let ⟨o,e,_⟩ := x; ⟨_,e⟩⟩)
    rw [hn]; exact Walks.strAscii hA _ _ t
  | list es => exact hlist es rfl (Option.some.inj e).symm
  | bor es => exact hlist es rfl (Option.some.inj e).symm
  | own es => exact xv.elim
  | _ => first | exact no e | exact nof e | cases e
theorem notSet_fold {e : Expr} (h : notSet e = true) (env : Env) (x : Value) : foldedSetIterable e env x = pure x := by
 cases e <;> first | rfl | cases h
theorem iter_ev {ev : EV} {strict : Bool} {e : Expr} {ds : List D} {Q : Value → Shared → Prop} {E : Value → Shared → Prop} (H : EvS prog w lv h₀ ev) (g : Gd prog w lv G h₀) (eo : EnvOK env sc) (o : Ok lv h₀ B A s) (sees : Sees prog w B env σ s.heap)
  (he : iterE strict ev sc σ e ds) (hQ : ∀ I fp P St s₂,Itr prog w B strict A s ds I fp P St s₂ → Q (.ref I) s₂) :
  wpAny (model prog w) A (eval e env) (fun x s₁ => wpAny (model prog w) A (pyIter x) Q E s₁) E s := by
 rcases he.2 with ⟨p,as,pos,es,rfl,hg,h1,he⟩ | ⟨d,h1,he⟩
 ·refine type_arg H g eo o sees (T := "range") (by decide) hg h1 fun vs s₁ k₁ xs => ?_
  obtain ⟨a,b,hsh,ha,hb',hfit,rfl⟩ := ranged_shape he
  rcases hsh with ⟨rfl,rfl⟩ | rfl
  ·obtain ⟨v,rfl,hv⟩ := dens1 xs
   obtain ⟨t,rfl⟩ := den_int hv
   exact call_range_1 (itr_range (k₁.trans ⟨_,_,rfl,Le.push _ _⟩) o.amb.1 ha hb' (IsRange.new ..) hQ)
  ·obtain ⟨v,u,rfl,hv,hu⟩ := dens2 xs
   obtain ⟨t,rfl⟩ := den_int hv
   obtain ⟨t2,rfl⟩ := den_int hu
   exact call_range_2 (itr_range (k₁.trans ⟨_,_,rfl,Le.push _ _⟩) o.amb.1 ha hb' (IsRange.new ..) hQ)
 ·exact (H _ _ _ _ h1 A s B env o eo sees).then fun v s₁ k₁ xv => itr_items k₁ o.amb.1 xv he hQ
end
noncomputable def Loc (env : Env) (sc : Scope) (b : Addr) : Prop := b = env.locals ∨ ∃ x,sc.names.lookup x = some .cell ∧ env.cells.lookup x = some b
structure Frm (env : Env) (sc : Scope) (h : Heap) : Prop where
 ns : ∃ m,h.Ns env.locals m
 cell : ∀ x,sc.names.lookup x = some .cell → ∃ c o,env.cells.lookup x = some c ∧ h.IsCell c o
 apart1 : ∀ x c,sc.names.lookup x = some .cell → env.cells.lookup x = some c → c ≠ env.locals
 apart2 : ∀ x y c,sc.names.lookup x = some .cell → env.cells.lookup x = some c → env.cells.lookup y = some c → y = x
theorem Frm.of_keeps {env : Env} {sc : Scope} {h h' : Heap} (f : Frm env sc h) (hk : ∀ b o,Loc env sc b → h.get? b = some o → h'.get? b = some o) : Frm env sc h' where
 ns := by
  obtain ⟨m,o,es,ep,ho,r⟩ := f.ns
  exact ⟨m,o,es,ep,hk _ _ (.inl rfl) ho,r⟩
 cell := fun x hx => by
  obtain ⟨c,o,hc,ob,hob,hd⟩ := f.cell x hx
  exact ⟨c,o,hc,ob,hk _ _ (.inr ⟨x,hx,hc⟩) hob,hd⟩
 apart1 := f.apart1
 apart2 := f.apart2
section
variable {prog : Program} {w : World} {lv : Nat} {h₀ : Heap} {B : Addr → Prop} {A : Around} {s s' : Shared} {env : Env} {sc : Scope} {σ : St} {G : GE}
theorem held_local (eo : EnvOK env sc) {x : Str} (hx : sc.names.lookup x = some .local) : env.kindOf x = some .local := by
 rcases eo.same x with h | ⟨_,h⟩
 ·rw [h,hx]
 ·rw [hx] at h; cases h
theorem held_cell (eo : EnvOK env sc) {x : Str} (hx : sc.names.lookup x = some .cell) : env.kindOf x = some .cell := by
 rcases eo.same x with h | ⟨_,h⟩
 ·rw [h,hx]
 ·rw [hx] at h; cases h
theorem store_var {x : Str} {v : Value} {Q : Unit → Shared → Prop} {E : Value → Shared → Prop} (eo : EnvOK env sc) (f : Frm env sc s.heap) (hx : isHeld (sc.names.lookup x) = true)
  (hQ : ∀ tgt h' tk,Loc env sc tgt → (∃ o,s.heap.get? tgt = some o ∧ ∀ xs n,o.data ≠ .seq xs n) → Heap.SameBut tgt s.heap h' → Frm env sc h' → VarAt env h' x v → (∀ y u,y ≠ x → VarAt env s.heap y u → VarAt env h' y u) → Q () { s with heap := h',toks := tk }) :
  wpAny (model prog w) A (storeName env x v) Q E s := by
 unfold isHeld at hx
 rw [Bool.or_eq_true,beq_iff_eq,beq_iff_eq] at hx
 rcases hx with hx | hx
 ·have hk := held_local eo hx
  obtain ⟨m,hn⟩ := f.ns
  refine wpAny_storeName_local hk hn (fun h' hn' hs => ?_) (by rw [eo.kind]; rfl)
  refine hQ env.locals h' _ (.inl rfl) ?_ hs ?_ (.inl ⟨hk,_,hn',by simp⟩) ?_
  ·obtain ⟨o,es,ep,ho,hd,_⟩ := hn
   exact ⟨o,ho,fun xs n e => by rw [hd] at e; cases e⟩
  ·refine ⟨⟨_,hn'⟩,fun y hy => ?_,f.apart1,f.apart2⟩
   obtain ⟨c,o,hc,hv⟩ := f.cell y hy
   exact ⟨c,o,hc,hv.sameBut hs (f.apart1 y c hy hc)⟩
  ·intro y u hyx hy
   rcases hy with ⟨e,m',hn'',hm⟩ | ⟨e,c,hc,hv⟩
   ·refine .inl ⟨e,_,hn',?_⟩
    have : m' y = m y := by
     obtain ⟨o,es,ep,ho,hd,_,hf⟩ := hn
     obtain ⟨o',es',ep',ho',hd',_,hf'⟩ := hn''
     rw [ho] at ho'; cases ho'
     rw [hd] at hd'; cases hd'
     rw [← hf,← hf']
    show (if y = x then some v else m y) = some u
    rw [if_neg hyx,← this,hm]
   ·refine .inr ⟨e,c,hc,hv.sameBut hs ?_⟩
    rintro rfl
    obtain ⟨o,es,ep,ho,hd,_⟩ := hn
    obtain ⟨o',ho',hd'⟩ := hv
    rw [ho] at ho'; cases ho'
    rw [hd] at hd'; cases hd'
 ·have hk := held_cell eo hx
  obtain ⟨c,o,hc,hv⟩ := f.cell x hx
  refine wpAny_storeName_cell eo.kind hk hc hv fun h' hv' hs => ?_
  have e : ({ s with heap := h' } : Shared) = { s with heap := h',toks := s.toks } := rfl
  rw [e]
  have hcl := f.apart1 x c hx hc
  refine hQ c h' _ (.inr ⟨x,hx,hc⟩) ?_ hs ?_ (.inr ⟨.inl hk,c,hc,hv'⟩) ?_
  ·obtain ⟨ob,ho,hd⟩ := hv
   exact ⟨ob,ho,fun xs n e => by rw [hd] at e; cases e⟩
  ·refine ⟨?_,fun y hy => ?_,f.apart1,f.apart2⟩
   ·obtain ⟨m,hn⟩ := f.ns
    exact ⟨m,hn.sameBut hs (Ne.symm hcl)⟩
   ·by_cases hyx : y = x
    ·subst hyx; exact ⟨c,_,hc,hv'⟩
    ·obtain ⟨c',o',hc',hv''⟩ := f.cell y hy
     exact ⟨c',o',hc',hv''.sameBut hs fun e => hyx (f.apart2 x y c hx hc (e ▸ hc'))⟩
  ·intro y u hyx hy
   rcases hy with ⟨e,m',hn'',hm⟩ | ⟨e,c',hc',hv''⟩
   ·exact .inl ⟨e,m',hn''.sameBut hs (Ne.symm hcl),hm⟩
   ·exact .inr ⟨e,c',hc',hv''.sameBut hs fun e => hyx (f.apart2 x y c hx hc (e ▸ hc'))⟩
theorem assign_var {x : Str} {px : Pos} {v : Value} {Q : Unit → Shared → Prop} {E : Value → Shared → Prop} (eo : EnvOK env sc) (f : Frm env sc s.heap) (hx : isHeld (sc.names.lookup x) = true)
  (hQ : ∀ tgt h' tk,Loc env sc tgt → (∃ o,s.heap.get? tgt = some o ∧ ∀ xs n,o.data ≠ .seq xs n) → Heap.SameBut tgt s.heap h' → Frm env sc h' → VarAt env h' x v → (∀ y u,y ≠ x → VarAt env s.heap y u → VarAt env h' y u) → Q () { s with heap := h',toks := tk }) :
  wpAny (model prog w) A (assign (.Name x px) env v) Q E s := wpAny_assign_Name (store_var eo f hx hQ)
noncomputable def freeCells (cells : List (Str × Addr)) : List (Str × NameKind) → List (Str × Addr) → List (Str × Addr)
 | [],acc => acc
 | (n,k) :: r,acc => if k == .free then freeCells cells r ((n,(cells.lookup n).getD 0) :: acc) else freeCells cells r acc
theorem forIn_cells (cells : List (Str × Addr)) (f : Str × NameKind → List (Str × Addr) → Sem (ForInStep (List (Str × Addr)))) (env : Env) (henv : env.cells = cells)
  (hf : ∀ n k cs,f (n,k) cs = if k == .free then (do let a ← cellOf env n; pure (.yield ((n,a) :: cs))) else pure (.yield cs)) :
  ∀ (names : List (Str × NameKind)) (acc : List (Str × Addr)),(∀ n,(n,NameKind.free) ∈ names → ∃ c,cells.lookup n = some c) → forIn names acc f = (pure (freeCells cells names acc) : Sem _)
 | [],acc,_ => by rw [List.forIn_nil]; rfl
 | (n,k) :: r,acc,h => by
  rw [List.forIn_cons,hf]
  unfold freeCells
  have hr : ∀ m,(m,NameKind.free) ∈ r → ∃ c,cells.lookup m = some c := fun m hm => h m (List.mem_cons_of_mem _ hm)
  split
  ·rename_i hk
   have hk' : k = .free := eq_of_beq hk
   subst hk'
   obtain ⟨c,hc⟩ := h n List.mem_cons_self
   have : cellOf env n = pure c := by unfold cellOf; rw [henv,hc]
   rw [this]
   show forIn r ((n,c) :: acc) f = _
   rw [forIn_cells cells f env henv hf r _ hr,hc]
   rfl
  ·exact forIn_cells cells f env henv hf r _ hr
theorem closure_eq (scope : Scope) (env : Env) (h : ∀ n,(n,NameKind.free) ∈ scope.names → ∃ c,env.cells.lookup n = some c) : closureFor scope env = pure (freeCells env.cells scope.names []) := by
 simp only [closureFor]
 rw [forIn_cells env.cells _ env rfl (fun n k cs => rfl) scope.names [] h]
 rfl
theorem freeCells_acc (cells : List (Str × Addr)) : ∀ (names : List (Str × NameKind)) (acc : List (Str × Addr)),freeCells cells names acc = freeCells cells names [] ++ acc
 | [],acc => rfl
 | (n,k) :: r,acc => by
  unfold freeCells
  split
  ·rw [freeCells_acc cells r (_ :: acc),freeCells_acc cells r [_],List.append_assoc]; rfl
  ·exact freeCells_acc cells r acc
theorem cellsFrom_acc : ∀ (names : List (Str × NameKind)) (n : Nat) (acc : List (Str × Addr)),cellsFrom n names acc = cellsFrom n names [] ++ acc
 | [],n,acc => rfl
 | (x,k) :: r,n,acc => by
  unfold cellsFrom
  split
  ·rw [cellsFrom_acc r (n + 1) (_ :: acc),cellsFrom_acc r (n + 1) [_],List.append_assoc]; rfl
  ·exact cellsFrom_acc r n acc
theorem freeCells_mem (cells : List (Str × Addr)) : ∀ (names : List (Str × NameKind)) (x : Str) (c : Addr),(x,c) ∈ freeCells cells names [] → (x,NameKind.free) ∈ names ∧ c = (cells.lookup x).getD 0
 | [],_,_,h => by cases h
 | (n,k) :: r,x,c,h => by
  unfold freeCells at h
  split at h
  ·rename_i hk
   rw [freeCells_acc] at h
   rcases List.mem_append.mp h with h | h
   ·have := freeCells_mem cells r x c h; exact ⟨List.mem_cons_of_mem _ this.1,this.2⟩
   ·rw [List.mem_singleton] at h; cases h
    rw [eq_of_beq hk]; exact ⟨List.mem_cons_self,rfl⟩
  ·have := freeCells_mem cells r x c h; exact ⟨List.mem_cons_of_mem _ this.1,this.2⟩
theorem freeCells_has (cells : List (Str × Addr)) : ∀ (names : List (Str × NameKind)) (x : Str),(x,NameKind.free) ∈ names → (x,(cells.lookup x).getD 0) ∈ freeCells cells names []
 | (n,k) :: r,x,h => by
  unfold freeCells
  rcases List.mem_cons.mp h with h | h
  ·cases h
   rw [if_pos (by rfl),freeCells_acc]
   exact List.mem_append_right _ (List.mem_singleton.mpr rfl)
  ·split
   ·rw [freeCells_acc]; exact List.mem_append_left _ (freeCells_has cells r x h)
   ·exact freeCells_has cells r x h
theorem cellsFrom_mem : ∀ (names : List (Str × NameKind)) (n : Nat) (x : Str) (c : Addr),(x,c) ∈ cellsFrom n names [] → (x,NameKind.cell) ∈ names
 | [],_,_,_,h => by cases h
 | (y,k) :: r,n,x,c,h => by
  unfold cellsFrom at h
  split at h
  ·rename_i hk
   rw [cellsFrom_acc] at h
   rcases List.mem_append.mp h with h | h
   ·exact List.mem_cons_of_mem _ (cellsFrom_mem r _ x c h)
   ·rw [List.mem_singleton] at h; cases h
    rw [eq_of_beq hk]; exact List.mem_cons_self
  ·exact List.mem_cons_of_mem _ (cellsFrom_mem r _ x c h)
theorem cellsFrom_has : ∀ (names : List (Str × NameKind)) (n : Nat) (x : Str),(x,NameKind.cell) ∈ names → ∃ c,(x,c) ∈ cellsFrom n names []
 | (y,k) :: r,n,x,h => by
  unfold cellsFrom
  rcases List.mem_cons.mp h with h | h
  ·cases h
   rw [if_pos (by rfl),cellsFrom_acc]
   exact ⟨n,List.mem_append_right _ (List.mem_singleton.mpr rfl)⟩
  ·split
   ·obtain ⟨c,hc⟩ := cellsFrom_has r (n + 1) x h
    rw [cellsFrom_acc]; exact ⟨c,List.mem_append_left _ hc⟩
   ·exact cellsFrom_has r n x h
theorem lookup_mem_iff {α : Type} {l : List (Str × α)} {x : Str} : (l.lookup x = none) ↔ ∀ c,(x,c) ∉ l := by
 induction l with
 | nil => simp
 | cons p r ih =>
  obtain ⟨y,a⟩ := p
  rw [List.lookup_cons]
  by_cases h : x = y
  ·subst h
   constructor
   ·intro h; simp at h
   ·intro h; exact absurd List.mem_cons_self (h a)
  ·have h' : (x == y) = false := by simpa using h
   simp only [h',ih]
   constructor
   ·intro hr c hc
    rcases List.mem_cons.mp hc with e | hc
    ·cases e; exact h rfl
    ·exact hr c hc
   ·intro hr c hc; exact hr c (List.mem_cons_of_mem _ hc)
theorem lookup_append {α : Type} (l r : List (Str × α)) (x : Str) : (l ++ r).lookup x = (l.lookup x).or (r.lookup x) := by
 induction l with
 | nil => simp
 | cons p t ih =>
  obtain ⟨y,a⟩ := p
  rw [List.cons_append,List.lookup_cons,List.lookup_cons]
  by_cases h : (x == y) = true
  ·simp [h]
  ·have h' : (x == y) = false := by simpa using h
   simp only [h',ih]
theorem lookup_of_unique {α : Type} {l : List (Str × α)} {x : Str} {c : α} (hm : (x,c) ∈ l) (hu : ∀ c',(x,c') ∈ l → c' = c) : l.lookup x = some c := by
 cases h : l.lookup x with
 | none => exact absurd hm (lookup_mem_iff.mp h c)
 | some c' => rw [hu c' (mem_of_lookup h)]
theorem relabel_lookup (scope : Scope) (env : Env) (x : Str) : (relabel scope env).names.lookup x = scope.names.lookup x ∨ ((relabel scope env).names.lookup x = some .cell ∧ scope.names.lookup x = some .free) := by
 show (scope.names.map fun (n,k) => if (k == NameKind.free && env.scope.kind == .function && env.kindOf n == some .cell) then (n,NameKind.cell) else (n,k)).lookup x = _ ∨ ((scope.names.map fun (n,k) => if (k == NameKind.free && env.scope.kind == .function && env.kindOf n == some .cell) then (n,NameKind.cell) else (n,k)).lookup x = _ ∧ _)
 induction scope.names with
 | nil => exact .inl rfl
 | cons p r ih =>
  obtain ⟨n,k⟩ := p
  rw [List.map_cons]
  by_cases hc : (k == NameKind.free && env.scope.kind == .function && env.kindOf n == some .cell) = true
  ·simp only [hc,if_true,List.lookup_cons]
   by_cases h : (x == n) = true
   ·simp only [h]
    rw [Bool.and_eq_true,Bool.and_eq_true] at hc
    exact .inr ⟨trivial,by rw [eq_of_beq hc.1.1]⟩
   ·have h' : (x == n) = false := by simpa using h
    simp only [h']; exact ih
  ·have hc' : (k == NameKind.free && env.scope.kind == .function && env.kindOf n == some .cell) = false := by simpa using hc
   simp only [hc',Bool.false_eq_true,if_false,List.lookup_cons]
   by_cases h : (x == n) = true
   ·simp only [h]; first | exact .inl rfl | exact .inl trivial
   ·have h' : (x == n) = false := by simpa using h
    simp only [h']; exact ih
end
noncomputable def Ch (W : Addr → Prop) (s s' : Shared) : Prop := ∃ h' tk,s' = { s with heap := h',toks := tk } ∧ ∀ b o,¬ W b → s.heap.get? b = some o → h'.get? b = some o
theorem Ch.trans {W : Addr → Prop} {s s' s'' : Shared} (x : Ch W s s') (y : Ch W s' s'') : Ch W s s'' := by
 obtain ⟨h',t,rfl,hk⟩ := x
 obtain ⟨h'',t',rfl,hk'⟩ := y
 exact ⟨h'',t',rfl,fun b o hb e => hk' b o hb (hk b o hb e)⟩
theorem Ch.mono {W W' : Addr → Prop} {s s' : Shared} (x : Ch W s s') (h : ∀ b o,W b → s.heap.get? b = some o → W' b) : Ch W' s s' := by
 obtain ⟨h',t,rfl,hk⟩ := x
 exact ⟨h',t,rfl,fun b o hb e => hk b o (fun hw => hb (h b o hw e)) e⟩
theorem Ch.of_kp {W : Addr → Prop} {s s' : Shared} (x : Kp s s') : Ch W s s' := by
 obtain ⟨h',t,rfl,hk⟩ := x
 exact ⟨h',t,rfl,fun b o _ e => hk b o e⟩
theorem Ch.get {W : Addr → Prop} {s s' : Shared} (x : Ch W s s') {b : Addr} {o : Obj} (hb : ¬ W b) (e : s.heap.get? b = some o) : s'.heap.get? b = some o := by
 obtain ⟨h',t,rfl,hk⟩ := x; exact hk b o hb e
theorem Ch.rfl' {W : Addr → Prop} (s : Shared) : Ch W s s := ⟨s.heap,s.toks,rfl,fun _ _ _ e => e⟩
noncomputable def Pl (ce : Env) (b : Addr) : Prop := b = ce.locals ∨ ∃ x,ce.cells.lookup x = some b
theorem Pl.of_loc {ce : Env} {sc : Scope} {b : Addr} (h : Loc ce sc b) : Pl ce b := by
 rcases h with h | ⟨x,_,hc⟩
 ·exact .inl h
 ·exact .inr ⟨x,hc⟩
theorem VarAt.ch {ce : Env} {h h' : Heap} {x : Str} {v : Value} (hk : ∀ b o,Pl ce b → h.get? b = some o → h'.get? b = some o) : VarAt ce h x v → VarAt ce h' x v
 | .inl ⟨e,m,⟨o,es,ep,ho,r⟩,hm⟩ => .inl ⟨e,m,⟨o,es,ep,hk _ _ (.inl rfl) ho,r⟩,hm⟩
 | .inr ⟨e,c,hc,o,ho,hd⟩ => .inr ⟨e,c,hc,o,hk _ _ (.inr ⟨_,hc⟩) ho,hd⟩
section
variable (prog : Program) (w : World)
structure CS (lv : Nat) (h₀ hb : Heap) (B : Addr → Prop) (ce : Env) (sc : Scope) (L : Addr) (Is : Addr → Prop) (A : Around) (σ : St) (out : List D) (s : Shared) : Prop where
 amb : Amb lv A
 le₀ : Le h₀ hb
 le : Le hb s.heap
 alive : ∀ b,B b → ∃ o,hb.get? b = some o
 off : ∀ b,B b → h₀.get? b = none
 frm : Frm ce sc s.heap
 new : ∀ b,b = L ∨ Loc ce sc b ∨ Is b → hb.get? b = none
 isAlive : ∀ b,Is b → ∃ o,s.heap.get? b = some o
 cells : ∀ x c,ce.cells.lookup x = some c → ∃ o,s.heap.get? c = some o
 sees : ∀ x d,σ.lookup x = some d → ∃ v,VarAt ce s.heap x v ∧ (Den prog w B hb d v ∨ El (fun b => B b ∨ b = L ∨ Loc ce sc b ∨ Is b) s.heap d v)
 acc : ∃ vs,s.heap.PlainList L (List.toArray vs) ∧ Els (fun b => B b ∨ b = L ∨ Loc ce sc b ∨ Is b) s.heap out vs
 lPl : ¬ Pl ce L
 lIs : ¬ Is L
 isPl : ∀ b,Is b → ¬ Pl ce b
end
section
variable {prog : Program} {w : World} {lv : Nat} {h₀ hb : Heap} {B : Addr → Prop} {A : Around} {s s' : Shared} {ce : Env} {sc : Scope} {σ : St} {G : GE} {L : Addr} {Is : Addr → Prop} {out : List D}
theorem Frm.loc_alive {h : Heap} (f : Frm ce sc h) {b : Addr} (hl : Loc ce sc b) : ∃ o,h.get? b = some o := by
 rcases hl with rfl | ⟨x,hx,hc⟩
 ·obtain ⟨m,o,_,_,ho,_⟩ := f.ns; exact ⟨o,ho⟩
 ·obtain ⟨c,o,hc',ob,hob,_⟩ := f.cell x hx
  rw [hc] at hc'; cases hc'; exact ⟨ob,hob⟩
theorem CS.ok (x : CS prog w lv h₀ hb B ce sc L Is A σ out s) : Ok lv h₀ (fun b => B b ∨ b = L ∨ Loc ce sc b ∨ Is b) A s where
 amb := x.amb
 le := x.le₀.trans x.le
 alive := fun b hbb => by
  rcases hbb with h | rfl | h | h
  ·obtain ⟨o,ho⟩ := x.alive b h; exact ⟨o,x.le _ _ ho⟩
  ·obtain ⟨vs,⟨n,e⟩,_⟩ := x.acc; exact ⟨_,e⟩
  ·exact x.frm.loc_alive h
  ·exact x.isAlive b h
 off := fun b hbb => by
  rcases hbb with h | h
  ·exact x.off b h
  ·cases e : h₀.get? b with
   | none => rfl
   | some o => have := x.new b h; rw [x.le₀ _ _ e] at this; cases this
theorem CS.sees' (x : CS prog w lv h₀ hb B ce sc L Is A σ out s) : Sees prog w (fun b => B b ∨ b = L ∨ Loc ce sc b ∨ Is b) ce σ s.heap :=
 ⟨x.cells,fun y d e => by
  obtain ⟨v,hv,hd⟩ := x.sees y d e
  refine ⟨v,hv,?_⟩
  rcases hd with hd | hd
  ·refine hd.mono (fun b o hnb he => ⟨x.le b o he,fun hB => ?_⟩) x.le
   rcases hB with h | h
   ·exact hnb h
   ·rw [x.new b h] at he; cases he
  ·exact Den.of_el hd⟩
theorem CS.step (x : CS prog w lv h₀ hb B ce sc L Is A σ out s) (k : Ch Is s s') (hI : ∀ b,Is b → ∃ o,s'.heap.get? b = some o) : CS prog w lv h₀ hb B ce sc L Is A σ out s' where
 amb := x.amb
 le₀ := x.le₀
 le := fun b o e => k.get (fun hi => by rw [x.new b (.inr (.inr hi))] at e; cases e) (x.le b o e)
 alive := x.alive
 off := x.off
 frm := x.frm.of_keeps fun b o hl e => k.get (fun hi => x.isPl b hi (Pl.of_loc hl)) e
 new := x.new
 isAlive := hI
 cells := fun y c hc => let ⟨o,ho⟩ := x.cells y c hc; ⟨o,k.get (fun hi => x.isPl c hi (.inr ⟨y,hc⟩)) ho⟩
 sees := fun y d e => by
  obtain ⟨v,hv,hd⟩ := x.sees y d e
  refine ⟨v,hv.ch fun b o hp e => k.get (fun hi => x.isPl b hi hp) e,?_⟩
  rcases hd with hd | hd
  ·exact .inl hd
  ·exact .inr (hd.mono fun b o hnb e => ⟨k.get (fun hi => hnb (.inr (.inr (.inr hi)))) e,hnb⟩)
 acc := by
  obtain ⟨vs,⟨n,e⟩,hvs⟩ := x.acc
  exact ⟨vs,⟨n,k.get x.lIs e⟩,hvs.mono fun b o hnb e => ⟨k.get (fun hi => hnb (.inr (.inr (.inr hi)))) e,hnb⟩⟩
 lPl := x.lPl
 lIs := x.lIs
 isPl := x.isPl
theorem CS.keeps (x : CS prog w lv h₀ hb B ce sc L Is A σ out s) (k : Kp s s') : CS prog w lv h₀ hb B ce sc L Is A σ out s' :=
 x.step (Ch.of_kp k) fun b hi => let ⟨o,ho⟩ := x.isAlive b hi; ⟨o,k.le b o ho⟩
theorem CS.addI {I : Addr} (x : CS prog w lv h₀ hb B ce sc L Is A σ out s) (k : Kp s s') (hf : s.heap.get? I = none) (hI : ∃ o,s'.heap.get? I = some o) : CS prog w lv h₀ hb B ce sc L (fun b => Is b ∨ b = I) A σ out s' := by
 have y := x.keeps k
 have ne : ∀ b o,s.heap.get? b = some o → b ≠ I := fun b o e h => by subst h; rw [hf] at e; cases e
 have hk : ∀ b o,¬ (B b ∨ b = L ∨ Loc ce sc b ∨ Is b) → s.heap.get? b = some o → s'.heap.get? b = some o ∧ ¬ (B b ∨ b = L ∨ Loc ce sc b ∨ Is b ∨ b = I) := fun b o hnb e =>
  ⟨k.le b o e,fun h => by
   rcases h with h | h | h | h | h
   ·exact hnb (.inl h)
   ·exact hnb (.inr (.inl h))
   ·exact hnb (.inr (.inr (.inl h)))
   ·exact hnb (.inr (.inr (.inr h)))
   ·exact ne b o e h⟩
 have pl : ¬ Pl ce I := fun hp => by
  rcases hp with h | ⟨z,h⟩
  ·obtain ⟨m,o,_,_,ho,_⟩ := x.frm.ns; exact ne _ _ ho h.symm
  ·obtain ⟨o,ho⟩ := x.cells z I h; exact ne _ _ ho rfl
 refine ⟨y.amb,y.le₀,y.le,y.alive,y.off,y.frm,fun b h => ?_,fun b h => ?_,y.cells,fun z d e => ?_,?_,y.lPl,fun h => ?_,fun b h => ?_⟩
 ·rcases h with h | h | h | h
  ·exact y.new b (.inl h)
  ·exact y.new b (.inr (.inl h))
  ·exact y.new b (.inr (.inr h))
  ·subst h
   cases e : hb.get? b with
   | none => rfl
   | some o => have := x.le _ _ e; rw [hf] at this; cases this
 ·rcases h with h | h
  ·exact y.isAlive b h
  ·subst h; exact hI
 ·obtain ⟨v,hv,hd⟩ := x.sees z d e
  refine ⟨v,hv.le k.le,?_⟩
  rcases hd with hd | hd
  ·exact .inl hd
  ·exact .inr (hd.mono hk)
 ·obtain ⟨vs,⟨n,e⟩,hvs⟩ := x.acc
  exact ⟨vs,⟨n,k.le _ _ e⟩,hvs.mono hk⟩
 ·rcases h with h | h
  ·exact y.lIs h
  ·obtain ⟨vs,⟨n,e⟩,hvs⟩ := x.acc
   exact ne _ _ e h
 ·rcases h with h | h
  ·exact y.isPl b h
  ·subst h; exact pl
theorem lookup_put {x y : Str} {d : D} : ∀ {σ : St},(put x d σ).lookup y = if y = x then some d else σ.lookup y
 | [] => by
  show List.lookup y [(x,d)] = _
  rw [List.lookup_cons]
  by_cases h : y = x
  ·subst h; simp
  ·have h' : (y == x) = false := by simpa using h
   rw [h',if_neg h]
 | (z,e) :: r => by
  unfold put
  by_cases hx : (x == z) = true
  ·rw [if_pos hx]
   have hz := eq_of_beq hx
   subst hz
   rw [List.lookup_cons,List.lookup_cons]
   by_cases h : y = x
   ·subst h; simp
   ·have h' : (y == x) = false := by simpa using h
    rw [h',if_neg h]
  ·rw [if_neg hx,List.lookup_cons,List.lookup_cons,lookup_put]
   by_cases h : (y == z) = true
   ·rw [h]
    have hz := eq_of_beq h
    subst hz
    by_cases h2 : y = x
    ·subst h2; simp at hx
    ·simp [h2]
   ·have h' : (y == z) = false := by simpa using h
    rw [h']
theorem CS.store {x : Str} {px : Pos} {d : D} {v : Value} {Q : Unit → Shared → Prop} {E : Value → Shared → Prop} (y : CS prog w lv h₀ hb B ce sc L Is A σ out s) (eo : EnvOK ce sc) (hx : isHeld (sc.names.lookup x) = true)
  (hd : El (fun b => B b ∨ b = L ∨ Loc ce sc b ∨ Is b) s.heap d v)
  (hQ : ∀ s',Ch (Loc ce sc) s s' → CS prog w lv h₀ hb B ce sc L Is A (put x d σ) out s' → Q () s') : wpAny (model prog w) A (assign (.Name x px) ce v) Q E s := by
 refine assign_var eo y.frm hx fun tgt h' tk ht hseq hs hf hv ho => ?_
 have keep : ∀ b o,b ≠ tgt → s.heap.get? b = some o → h'.get? b = some o := fun b o hne e => hs.extBut b o hne e
 have hkk : ∀ b o,¬ (B b ∨ b = L ∨ Loc ce sc b ∨ Is b) → s.heap.get? b = some o → h'.get? b = some o ∧ ¬ (B b ∨ b = L ∨ Loc ce sc b ∨ Is b) := fun b o hnb e =>
  ⟨keep b o (fun h => hnb (.inr (.inr (.inl (h ▸ ht))))) e,hnb⟩
 refine hQ _ ⟨h',tk,rfl,fun b o hnb e => keep b o (fun h => hnb (h ▸ ht)) e⟩ ⟨y.amb,y.le₀,fun b o e => ?_,y.alive,y.off,hf,y.new,fun b hi => ?_,fun z c hc => ?_,fun z d' e => ?_,?_,y.lPl,y.lIs,y.isPl⟩
 ·exact keep b o (fun h => by subst h; rw [y.new b (.inr (.inl ht))] at e; cases e) (y.le b o e)
 ·obtain ⟨o,ho'⟩ := y.isAlive b hi
  exact ⟨o,keep b o (fun h => y.isPl b hi (h ▸ Pl.of_loc ht)) ho'⟩
 ·by_cases hct : c = tgt
  ·subst hct; exact hf.loc_alive ht
  ·obtain ⟨o,ho'⟩ := y.cells z c hc; exact ⟨o,keep c o hct ho'⟩
 ·rw [lookup_put] at e
  split at e
  ·rename_i hz; cases e; subst hz
   exact ⟨v,hv,.inr (hd.mono hkk)⟩
  ·rename_i hz
   obtain ⟨u,hu,hdu⟩ := y.sees z d' e
   refine ⟨u,ho z u hz hu,?_⟩
   rcases hdu with hdu | hdu
   ·exact .inl hdu
   ·exact .inr (hdu.mono hkk)
 ·obtain ⟨vs,⟨n,e⟩,hvs⟩ := y.acc
  exact ⟨vs,⟨n,keep _ _ (fun h => y.lPl (h ▸ Pl.of_loc ht)) e⟩,hvs.mono hkk⟩
theorem CS.append {d : D} {v : Value} {Q : Value → Shared → Prop} {E : Value → Shared → Prop} (y : CS prog w lv h₀ hb B ce sc L Is A σ out s) (hd : El (fun b => B b ∨ b = L ∨ Loc ce sc b ∨ Is b) s.heap d v) (hfit : out.length ≤ 1000000)
  (hQ : ∀ s',Ch (fun b => b = L) s s' → CS prog w lv h₀ hb B ce sc L Is A σ (out ++ [d]) s' → Q .none s') : wpAny (model prog w) A (call (.builtin "list.append") [.ref L,v]) Q E s := by
 obtain ⟨vs,hp,hvs⟩ := y.acc
 refine wpAny_list_append_plain hp (fun h' hp' hs => ?_) (by rw [List.size_toArray,hvs.length,sizeLine_eq]; lia)
 have keep : ∀ b o,b ≠ L → s.heap.get? b = some o → h'.get? b = some o := fun b o hne e => hs.extBut b o hne e
 have hkk : ∀ b o,¬ (B b ∨ b = L ∨ Loc ce sc b ∨ Is b) → s.heap.get? b = some o → h'.get? b = some o ∧ ¬ (B b ∨ b = L ∨ Loc ce sc b ∨ Is b) := fun b o hnb e =>
  ⟨keep b o (fun h => hnb (.inr (.inl h))) e,hnb⟩
 refine hQ _ ⟨h',s.toks,rfl,fun b o hnb e => keep b o hnb e⟩ ⟨y.amb,y.le₀,fun b o e => ?_,y.alive,y.off,?_,y.new,fun b hi => ?_,fun z c hc => ?_,fun z d' e => ?_,?_,y.lPl,y.lIs,y.isPl⟩
 ·exact keep b o (fun h => by subst h; rw [y.new b (.inl rfl)] at e; cases e) (y.le b o e)
 ·exact y.frm.of_keeps fun b o hl e => keep b o (fun h => y.lPl (h ▸ Pl.of_loc hl)) e
 ·obtain ⟨o,ho'⟩ := y.isAlive b hi
  exact ⟨o,keep b o (fun h => y.lIs (h ▸ hi)) ho'⟩
 ·obtain ⟨o,ho'⟩ := y.cells z c hc; exact ⟨o,keep c o (fun h => y.lPl (h ▸ .inr ⟨z,hc⟩)) ho'⟩
 ·obtain ⟨u,hu,hdu⟩ := y.sees z d' e
  refine ⟨u,hu.ch fun b o hpl e => keep b o (fun h => y.lPl (h ▸ hpl)) e,?_⟩
  rcases hdu with hdu | hdu
  ·exact .inl hdu
  ·exact .inr (hdu.mono hkk)
 ·exact ⟨vs ++ [v],by simpa using hp',(hvs.mono hkk).append (Els.cons (hd.mono hkk) Els.nil)⟩
theorem tests_no {env : Env} : ∀ {ifs : List Expr} {s : Shared} {Q : Bool → Shared → Prop} {E : Value → Shared → Prop},Q false s →
  wpAny (model prog w) A (forIn ifs false fun c r => if r = true then do let ok ← isTrue c env (eval c env); pure (ForInStep.yield ok) else pure (ForInStep.yield r)) Q E s
 | [],s,Q,E,h => wpAny_pure h
 | c :: r,s,Q,E,h => by
  rw [List.forIn_cons]
  simp only [Bool.false_eq_true,if_false]
  exact wpAny_bind (wpAny_pure (tests_no h))
theorem tests_ok {env : Env} {ts : TS} (HT : TsS prog w lv h₀ ts) (eo : EnvOK env sc) : ∀ {ifs : List Expr} {b : Bool} {s : Shared} {Q : Bool → Shared → Prop} {E : Value → Shared → Prop},testsT ts sc σ ifs b → Ok lv h₀ B A s → Sees prog w B env σ s.heap →
  (∀ s',Kp s s' → Q b s') → wpAny (model prog w) A (forIn ifs true fun c r => if r = true then do let ok ← isTrue c env (eval c env); pure (ForInStep.yield ok) else pure (ForInStep.yield r)) Q E s
 | [],b,s,Q,E,(e : b = true),o,sees,h => by cases e; exact wpAny_pure (h s (Kp.rfl' _))
 | c :: r,b,s,Q,E,⟨t,ht,e⟩,o,sees,h => by
  rw [List.forIn_cons]
  simp only [if_true]
  refine wpAny_bind (wpAny_bind (HT _ _ _ _ ht A s B env o eo sees _ _ fun s₁ k₁ => wpAny_pure ?_))
  cases t with
  | true => exact tests_ok HT eo e (o.keeps k₁) (sees.le k₁.le) fun s₂ k₂ => h s₂ (k₁.trans k₂)
  | false => exact tests_no ((show b = false from e) ▸ h s₁ k₁)
end
noncomputable def emitK (elt : Expr) (gens : List Comprehension) (scope : Scope) (pos : Pos) (depth : Nat) (acc : Value) (env : Env) (kont : Sem Fin) : Sem Fin :=
 match gens[depth + 1]? with
 | some g' => do
  let x ← eval g'.iter env
  standAt g'.iter.pos
  let x ← if g'.is_async != 0 then foldedIterable g'.iter x else foldedSetIterable g'.iter env x
  let _ ← runOwn (.compStart (.ListComp elt gens scope pos) (depth + 1) (← holding [x] (if g'.is_async != 0 then asyncIter x else pyIter x)) acc env) env
  kont
 | none => do
  (do let _ ← call (.builtin "list.append") [acc,← eval elt env])
  kont
theorem compTurn_eq {elt target iter : Expr} {gens : List Comprehension} {ifs : List Expr} {scope : Scope} {pos : Pos} {depth : Nat} (it acc : Value) (env : Env) (hg : gens[depth]? = some ⟨target,iter,ifs,0⟩) :
  compTurn (.ListComp elt gens scope pos) depth it acc env = (do
   standAt iter.pos
   match ← pyNext it with
   | none => pure (.done .next)
   | some v =>
    letOwnedTupleGo target it v
    assign target env v
    let mut ok := true
    for c in ifs do
     if ok then ok ← isTrue c env (eval c env)
    if ok then emitK elt gens scope pos depth acc env (again (.compLoop (.ListComp elt gens scope pos) depth it acc env))
    else again (.compLoop (.ListComp elt gens scope pos) depth it acc env)) := by
 unfold compTurn emitK
 simp only [hg]
 rfl
section
variable {prog : Program} {w : World} {A : Around} {R : Result → Shared → Prop} {s : Shared}
theorem codeAny_compStart_at {elt target iter : Expr} {gens : List Comprehension} {ifs : List Expr} {scope : Scope} {pos : Pos} {depth : Nat} {it acc : Value} {env : Env} (hg : gens[depth]? = some ⟨target,iter,ifs,0⟩)
  (h0 : codeAny (model prog w) A (.compLoop (.ListComp elt gens scope pos) depth it acc env) R s)
  (h : wpAny (model prog w) A (pyIter it) (fun it' s' => codeAny (model prog w) A (.compLoop (.ListComp elt gens scope pos) depth it' acc env) R s')
   (notedBy (model prog w) A env fun x s' => R (.error x) s') s) :
  codeAny (model prog w) A (.compStart (.ListComp elt gens scope pos) depth it acc env) R s := by
 refine codeAny_of_tree ?_
 show wpAny _ _ ((compStart (.ListComp elt gens scope pos) depth it acc env).onRaise (fun x => do noteFrame x env; standAt theWindowsPlace)) _ _ s
 refine wpAny_notedAt ?_
 have hc : (clausesOf (.ListComp elt gens scope pos))[depth]? = some ⟨target,iter,ifs,0⟩ := hg
 unfold compStart
 rw [hc]
 show wpAny _ _ (ask >>= _) _ _ s
 refine wpAny_bind (wpAny_askSetting (wpAny_ite ?_))
 split
 ·first
   | exact wpAny_bind (wpAny_pure (wpAny_pure (And.intro rfl h0)))
   | exact wpAny_pure (And.intro rfl h0)
 ·first
   | exact wpAny_bind (wpAny_rule (wpAny_bind (wpAny_standAt (wpAny_bind (wpAny_mono h (fun it' s' h' => wpAny_pure (And.intro rfl h')) fun _ _ x => x)))))
   | (refine wpAny_bind (wpAny_rule ?_); show wpAny _ _ (standAt iter.pos >>= _) _ _ s; exact wpAny_bind (wpAny_standAt (wpAny_bind (wpAny_mono h (fun it' s' h' => wpAny_pure (And.intro rfl h')) fun _ _ x => x))))
end
section
variable {prog : Program} {w : World} {lv : Nat} {h₀ hb : Heap} {B : Addr → Prop} {A : Around} {s s' : Shared} {ce : Env} {sc : Scope} {σ : St} {G : GE} {L : Addr} {Is : Addr → Prop} {out : List D}
theorem CS.endI {I : Addr} (x : CS prog w lv h₀ hb B ce sc L (fun b => Is b ∨ b = I) A σ out s) (hI : ¬ Is I) (k : Ch (fun b => b = I) s s') : CS prog w lv h₀ hb B ce sc L Is A σ out s' := by
 have up : ∀ b,(b = L ∨ Loc ce sc b ∨ Is b) → (b = L ∨ Loc ce sc b ∨ Is b ∨ b = I) := fun b h => by
  rcases h with h | h | h
  ·exact .inl h
  ·exact .inr (.inl h)
  ·exact .inr (.inr (.inl h))
 have hk : ∀ b o,¬ (B b ∨ b = L ∨ Loc ce sc b ∨ Is b ∨ b = I) → s.heap.get? b = some o → s'.heap.get? b = some o ∧ ¬ (B b ∨ b = L ∨ Loc ce sc b ∨ Is b) := fun b o hnb e =>
  ⟨k.get (fun h => hnb (.inr (.inr (.inr (.inr h))))) e,fun h => hnb (h.elim .inl fun h => .inr (up b h))⟩
 have hL : L ≠ I := fun h => x.lIs (.inr h)
 have hpl : ∀ b,Pl ce b → b ≠ I := fun b hp h => x.isPl I (.inr rfl) (h ▸ hp)
 refine ⟨x.amb,x.le₀,fun b o e => k.get (fun h => ?_) (x.le b o e),x.alive,x.off,x.frm.of_keeps fun b o hl e => k.get (hpl b (Pl.of_loc hl)) e,fun b h => x.new b (up b h),fun b h => ?_,fun z c hc => ?_,fun z d e => ?_,?_,x.lPl,fun h => x.lIs (.inl h),fun b h => x.isPl b (.inl h)⟩
 ·subst h; rw [x.new b (.inr (.inr (.inr rfl)))] at e; cases e
 ·obtain ⟨o,ho⟩ := x.isAlive b (.inl h); exact ⟨o,k.get (fun hb => hI (hb ▸ h)) ho⟩
 ·obtain ⟨o,ho⟩ := x.cells z c hc; exact ⟨o,k.get (hpl c (.inr ⟨z,hc⟩)) ho⟩
 ·obtain ⟨v,hv,hd⟩ := x.sees z d e
  refine ⟨v,hv.ch fun b o hp e => k.get (hpl b hp) e,?_⟩
  rcases hd with hd | hd
  ·exact .inl hd
  ·exact .inr (hd.mono hk)
 ·obtain ⟨vs,⟨n,hp⟩,hvs⟩ := x.acc
  exact ⟨vs,⟨n,k.get hL hp⟩,hvs.mono hk⟩
theorem CS.sub {σ' : St} (x : CS prog w lv h₀ hb B ce sc L Is A σ' out s) (h : ∀ y d,σ.lookup y = some d → σ'.lookup y = some d) : CS prog w lv h₀ hb B ce sc L Is A σ out s :=
 ⟨x.amb,x.le₀,x.le,x.alive,x.off,x.frm,x.new,x.isAlive,x.cells,fun y d e => x.sees y d (h y d e),x.acc,x.lPl,x.lIs,x.isPl⟩
noncomputable def EmitOK (prog : Program) (w : World) (lv : Nat) (h₀ hb : Heap) (B : Addr → Prop) (ce : Env) (sc : Scope) (L : Addr) (A : Around) (T : Sem Fin → Sem Fin) (k : St → List D → Prop) : Prop :=
 ∀ (Is : Addr → Prop) (σ : St) (out here : List D) (s : Shared) (kont : Sem Fin) (Q : Fin → Shared → Prop) (E : Value → Shared → Prop),k σ here → CS prog w lv h₀ hb B ce sc L Is A σ out s → out.length + here.length ≤ 1000000 →
  (∀ s',Ch (fun b => b = L ∨ Loc ce sc b) s s' → CS prog w lv h₀ hb B ce sc L Is A σ (out ++ here) s' → wpAny (model prog w) A kont Q E s') → wpAny (model prog w) A (T kont) Q E s
theorem turns_fit {ts : TS} {x : Str} {ifs : List Expr} {k : St → List D → Prop} {ds out : List D} (h : turns ts sc x ifs k σ ds out) : out.length ≤ 1000000 := by
 cases ds with
 | nil => cases h; exact Nat.zero_le _
 | cons d ds => obtain ⟨_,_,_,_,_,_,_,hf⟩ := h; exact hf
theorem comp_loop {ts : TS} (HT : TsS prog w lv h₀ ts) (eo : EnvOK ce sc) {elt iter : Expr} {gens : List Comprehension} {scope : Scope} {pos px : Pos} {depth : Nat} {x : Str} {ifs : List Expr} {k : St → List D → Prop}
  (hg : gens[depth]? = some ⟨.Name x px,iter,ifs,0⟩) (hem : EmitOK prog w lv h₀ hb B ce sc L A (emitK elt gens scope pos depth (.ref L) ce) k)
  {xs out₀ out : List D} {I : Addr} {fp : List Addr} {P : Nat → Value → Prop} {St : Nat → Heap → Prop} {R : Result → Shared → Prop}
  (hx : isHeld (sc.names.lookup x) = true) (hxn : σ.lookup x = none) (ht : turns ts sc x ifs k σ xs out)
  (W : Walks prog w A I fp [I] xs.length P St) (live : ∀ i h,St i h → ∃ o,h.get? I = some o) (hIs : ¬ Is I)
  (foot : ∀ b ∈ fp,b = I ∨ ¬ (b = L ∨ Loc ce sc b)) (hst : St 0 s.heap)
  (items : ∀ i v,i < xs.length → P i v → ∃ d,xs[i]? = some d ∧ El (fun b => B b ∨ b = L ∨ Loc ce sc b ∨ Is b ∨ b = I) s.heap d v)
  (cs : CS prog w lv h₀ hb B ce sc L (fun b => Is b ∨ b = I) A σ out₀ s) (hfit : out₀.length + out.length ≤ 1000000)
  (hR : ∀ s',Ch (fun b => b = L ∨ Loc ce sc b ∨ b = I) s s' → CS prog w lv h₀ hb B ce sc L Is A σ (out₀ ++ out) s' → R (.ok .next) s') :
  codeAny (model prog w) A (.compLoop (.ListComp elt gens scope pos) depth (.ref I) (.ref L) ce) R s := by
 refine codeAny_loop rfl (fun k' s' => ∃ i out₁ o2,i ≤ xs.length ∧ k' = xs.length + 1 - i ∧ Ch (fun b => b = L ∨ Loc ce sc b ∨ b = I) s s' ∧ St i s'.heap ∧ CS prog w lv h₀ hb B ce sc L (fun b => Is b ∨ b = I) A σ out₁ s' ∧
  turns ts sc x ifs k σ (xs.drop i) o2 ∧ out₁ ++ o2 = out₀ ++ out) ?_ (xs.length + 1) ⟨0,out₀,out,Nat.zero_le _,rfl,Ch.rfl' _,hst,cs,ht,rfl⟩
 intro k' s₁ hinv
 show wpAny _ A ((compTurn (.ListComp elt gens scope pos) depth (.ref I) (.ref L) ce).onRaise (fun x => do noteFrame x ce; theTreesLotGoes x)) _ _ s₁
 refine wpAny_noted ?_
 rw [compTurn_eq _ _ _ hg]
 refine wpAny_bind (wpAny_standAt (wpAny_bind ?_))
 refine gq fun Q₃ hq => ?_
 obtain ⟨i,out₁,o2,hi,hk',c₁,hst₁,cs₁,ht₁,ho⟩ := hinv
 by_cases hlt : i < xs.length
 ·refine W.item i _ _ _ hlt hst₁ fun v h₂ tk₂ hP hst₂ hk₂ => ?_
  have c₂ : Ch (fun b => b = I) s₁ { s₁ with heap := h₂,toks := tk₂ } := ⟨h₂,tk₂,rfl,fun b o hb e => hk₂ b o (by simpa using hb) e⟩
  have c₂' : Ch (fun b => Is b ∨ b = I) s₁ { s₁ with heap := h₂,toks := tk₂ } := c₂.mono fun b _ hb _ => .inr hb
  have cs₂ := cs₁.step c₂' fun b hb => by
   rcases Classical.em (b = I) with hbI | hbI
   ·subst hbI; exact live _ _ hst₂
   ·obtain ⟨o,ho'⟩ := cs₁.isAlive b hb; exact ⟨o,c₂.get hbI ho'⟩
  obtain ⟨d,hd,hel⟩ := items i v hlt hP
  have c02 : Ch (fun b => b = L ∨ Loc ce sc b ∨ b = I) s { s₁ with heap := h₂,toks := tk₂ } := c₁.trans (c₂.mono fun b _ hb _ => .inr (.inr hb))
  have hel₂ : El (fun b => B b ∨ b = L ∨ Loc ce sc b ∨ Is b ∨ b = I) h₂ d v := hel.mono fun b o hnb e => ⟨c02.get (fun h => hnb (by
   rcases h with h | h | h
   ·exact .inr (.inl h)
   ·exact .inr (.inr (.inl h))
   ·exact .inr (.inr (.inr (.inr h))))) e,hnb⟩
  have hdrop : xs.drop i = d :: xs.drop (i + 1) := by
   rw [List.drop_eq_getElem_cons hlt]
   rw [List.getElem?_eq_getElem hlt] at hd
   rw [Option.some.inj hd]
  rw [hdrop] at ht₁
  obtain ⟨ok,here,r,h1,h2,h3,rfl,_⟩ := ht₁
  refine hq _ _ ?_
  refine wpAny_bind (wpAny_of_eq (rfl : letOwnedTupleGo (.Name x px) (.ref I) v = pure ()) (wpAny_bind ?_))
  refine cs₂.store eo hx hel₂ fun s₃ c₃ cs₃ => ?_
  refine wpAny_bind (tests_ok HT eo h1 cs₃.ok cs₃.sees' fun s₄ k₄ => ?_)
  have cs₄ := cs₃.keeps k₄
  have hfit' : out₁.length + here.length + r.length ≤ 1000000 := by
   have := congrArg List.length ho
   simp only [List.length_append] at this
   lia
  have back : ∀ s₅,Ch (fun b => b = L ∨ Loc ce sc b) { s₁ with heap := h₂,toks := tk₂ } s₅ → CS prog w lv h₀ hb B ce sc L (fun b => Is b ∨ b = I) A (put x d σ) (out₁ ++ here) s₅ →
    ∃ m,m < k' ∧ ∃ i' out₁' o2',i' ≤ xs.length ∧ m = xs.length + 1 - i' ∧ Ch (fun b => b = L ∨ Loc ce sc b ∨ b = I) s s₅ ∧ St i' s₅.heap ∧ CS prog w lv h₀ hb B ce sc L (fun b => Is b ∨ b = I) A σ out₁' s₅ ∧
     turns ts sc x ifs k σ (xs.drop i') o2' ∧ out₁' ++ o2' = out₀ ++ out := fun s₅ c₅ cs₅ => by
   refine ⟨xs.length + 1 - (i + 1),by lia,i + 1,out₁ ++ here,r,hlt,rfl,c02.trans (c₅.mono fun b _ hb _ => hb.elim .inl fun h => .inr (.inl h)),?_,?_,h3,by rw [List.append_assoc,ho]⟩
   ·refine W.frame _ _ _ hst₂ fun b hb o e => c₅.get ?_ e
    rcases foot b hb with rfl | hb'
    ·intro h
     rcases h with h | h
     ·exact cs₁.lIs (.inr h.symm)
     ·exact cs₁.isPl _ (.inr rfl) (Pl.of_loc h)
    ·exact hb'
   ·refine cs₅.sub fun y d' e => ?_
    rw [lookup_put]
    by_cases hyx : y = x
    ·subst hyx; rw [hxn] at e; cases e
    ·rw [if_neg hyx]; exact e
  have c24 : Ch (fun b => b = L ∨ Loc ce sc b) { s₁ with heap := h₂,toks := tk₂ } s₄ := (c₃.mono fun b _ hb _ => .inr hb).trans (Ch.of_kp k₄)
  cases ok with
  | false =>
   cases (show here = [] from h2)
   simp only [Bool.false_eq_true,if_false]
   exact wpAny_pure ⟨rfl,back s₄ c24 (by simpa using cs₄)⟩
  | true =>
   simp only [if_true] at h2 ⊢
   refine hem _ _ _ _ _ _ _ _ h2 cs₄ (by lia) fun s₅ c₅ cs₅ => ?_
   exact wpAny_pure ⟨rfl,back s₅ (c24.trans c₅) cs₅⟩
 ·have hil : i = xs.length := by lia
  subst hil
  refine W.done _ _ _ hst₁ fun h₂ tk₂ hk₂ => ?_
  rw [List.drop_length] at ht₁
  cases (show o2 = [] from ht₁)
  rw [List.append_nil] at ho
  subst ho
  have c₂ : Ch (fun b => b = I) s₁ { s₁ with heap := h₂,toks := tk₂ } := ⟨h₂,tk₂,rfl,fun b o hb e => hk₂ b o (by simpa using hb) e⟩
  refine hq _ _ ?_
  exact wpAny_pure (hR _ (c₁.trans (c₂.mono fun b _ hb _ => .inr (.inr hb))) (cs₁.endI hIs c₂))
theorem emit_ok {ev : EV} {ts : TS} (H : EvS prog w lv h₀ ev) (HT : TsS prog w lv h₀ ts) (g : Gd prog w lv G h₀) (eo : EnvOK ce sc) {elt : Expr} {gens : List Comprehension} {scope : Scope} {pos : Pos} :
  ∀ (rest : List Comprehension) (depth : Nat),gens.drop (depth + 1) = rest → EmitOK prog w lv h₀ hb B ce sc L A (emitK elt gens scope pos depth (.ref L) ce) (compGo ev ts sc elt rest)
 | [],depth,hd => fun Is σ out here s kont Q E hk cs hfit hQ => by
  have hn : gens[depth + 1]? = none := by
   rw [List.drop_eq_nil_iff] at hd
   exact List.getElem?_eq_none hd
  unfold emitK
  rw [hn]
  obtain ⟨d,h1,hel,rfl⟩ := hk
  refine wpAny_bind (wpAny_bind ((H _ _ _ _ h1 A s _ ce cs.ok eo cs.sees').then fun v s₁ k₁ xv => ?_))
  refine wpAny_bind ((cs.keeps k₁).append (xv.el hel) (by simp at hfit; lia) fun s₂ c₂ cs₂ => wpAny_pure ?_)
  exact hQ s₂ ((Ch.of_kp k₁).trans (c₂.mono fun b _ hb _ => .inl hb)) cs₂
 | g' :: rest,depth,hd => fun Is σ out here s kont Q E hk cs hfit hQ => by
  obtain ⟨x,px,iter,ifs,xs,rfl,hx,hxn,hit,ht⟩ := hk
  have hg : gens[depth + 1]? = some ⟨.Name x px,iter,ifs,0⟩ := by
   have : (gens.drop (depth + 1))[0]? = some ⟨.Name x px,iter,ifs,0⟩ := by rw [hd]; rfl
   simpa using this
  have hd' : gens.drop (depth + 1 + 1) = rest := by
   rw [← List.drop_drop,hd]; rfl
  unfold emitK
  rw [hg]
  have hns : notSet iter = true := hit.1
  refine wpAny_bind (wpAny_mono (iter_ev (Q := fun it s₂ => ∃ I fp P St,it = .ref I ∧ Itr prog w (fun b => B b ∨ b = L ∨ Loc ce sc b ∨ Is b) true A s xs I fp P St s₂) H g eo cs.ok cs.sees' hit fun I fp P St s₂ X => ⟨I,fp,P,St,rfl,X⟩) (fun x' s₁ h₁ => ?_) fun _ _ e => e)
  refine wpAny_bind (wpAny_standAt ?_)
  show wpAny _ _ (foldedSetIterable iter ce x' >>= fun x => (holding [x] (pyIter x) >>= fun it => (runOwn (.compStart (.ListComp elt gens scope pos) (depth + 1) it (.ref L) ce) ce >>= fun _ => kont))) Q E s₁
  refine wpAny_bind (wpAny_of_eq (notSet_fold hns ce x') (wpAny_bind (wpAny_holding (wpAny_mono h₁ (fun it s₂ h₂ => ?_) fun _ _ e => e))))
  obtain ⟨I,fp,P,St,rfl,X⟩ := h₂
  have hIs : ¬ Is I := fun h => by obtain ⟨o,ho⟩ := cs.isAlive I h; rw [X.fresh] at ho; cases ho
  refine wpAny_bind (wpAny_runOwn ?_)
  have loop : ∀ R : Result → Shared → Prop,(∀ s',Ch (fun b => b = L ∨ Loc ce sc b ∨ b = I) s₂ s' → CS prog w lv h₀ hb B ce sc L Is A σ (out ++ here) s' → R (.ok .next) s') →
    codeAny (model prog w) A (.compLoop (.ListComp elt gens scope pos) (depth + 1) (.ref I) (.ref L) ce) R s₂ := fun R hR => by
   refine comp_loop HT eo hg (emit_ok H HT g eo rest (depth + 1) hd') hx hxn ht X.walks X.live hIs (fun b hb => ?_) X.start (fun i v hi hP => ?_) (cs.addI X.kp X.fresh (X.live _ _ X.start)) hfit hR
   ·rcases X.foot b hb with h | ⟨_,_,h⟩
    ·exact .inl h
    ·exact .inr fun h' => h rfl (.inr (h'.elim .inl fun h' => .inr (.inl h')))
   ·obtain ⟨d,h1,h2⟩ := X.items i v hi hP
    refine ⟨d,h1,h2.mono fun b o hnb e => ⟨e,fun h => hnb ?_⟩⟩
    rcases h with h | h | h | h | h
    ·exact .inl (.inl h)
    ·exact .inl (.inr (.inl h))
    ·exact .inl (.inr (.inr (.inl h)))
    ·exact .inl (.inr (.inr (.inr h)))
    ·exact .inr h
  have fin : ∀ s',Ch (fun b => b = L ∨ Loc ce sc b ∨ b = I) s₂ s' → CS prog w lv h₀ hb B ce sc L Is A σ (out ++ here) s' → wpAny (model prog w) A kont Q E s' := fun s' c cs' => by
   refine hQ s' ?_ cs'
   have : Ch (fun b => b = L ∨ Loc ce sc b ∨ b = I) s s' := (Ch.of_kp X.kp).trans c
   refine this.mono fun b o hb e => ?_
   rcases hb with h | h | h
   ·exact .inl h
   ·exact .inr h
   ·subst h; rw [X.fresh] at e; cases e
  exact codeAny_compStart_at hg (loop _ fin) (X.walks.self 0 _ _ _ X.start (loop _ fin))
end
theorem ad1 {b L : Nat} (h : b = L + 1) (hlt : b < L) : False := by lia
theorem ad2 {b L : Nat} (h : L + 1 + 1 ≤ b) (hlt : b < L) : False := by lia
theorem ad3 {L : Nat} (h : L + 1 + 1 ≤ L) : False := by lia
theorem ad4 {b L : Nat} (h : L + 1 + 1 ≤ b) : L < b := by lia
section
variable {prog : Program} {w : World} {lv : Nat} {h₀ hb : Heap} {B : Addr → Prop} {A : Around} {s s' : Shared} {env : Env} {sc : Scope} {σ : St} {G : GE}
theorem newEnv_comp {M : Model} {scope : Scope} {globals : Addr} {cl : List (Str × Addr)} {qual : Str} {outer : Env} {Q : Env → Shared → Prop} {E : Value → Shared → Prop}
  (hQ : Q { scope := scope,locals := s.heap.objs.size,globals := globals,cells := cellsFrom (s.heap.objs.size + 1) scope.names cl,qual := qual,func := none,code := outer.code,frame := outer.frame,builtins := outer.builtins }
   { s with heap := pushCells (s.heap.push { cls := .type "dict",data := .dict #[] }) scope.names }) :
  wpAny M A (newFunctionEnv scope globals cl [] qual none .none (some outer)) Q E s := by
 simp only [newFunctionEnv,Option.isSome_some,if_true]
 refine wpAny_bind (wpAny_alloc ?_)
 refine wpAny_bind (wpAny_layCells _ (fun name kind cells => by cases hkc : kind == NameKind.cell <;> simp [hkc]) _ _ _ _ ?_)
 rw [show ({ s with heap := s.heap.push { cls := .type "dict",data := .dict #[] } } : Shared).heap.objs.size = s.heap.objs.size + 1 from Heap.size_push ..]
 rw [List.forIn_nil]
 exact wpAny_bind (wpAny_pure (wpAny_pure hQ))
theorem scopeOk_names {scope : Scope} (h : scopeOk sc scope = true) : scope.kind = .function ∧ (∀ n k,(n,k) ∈ scope.names → scope.names.lookup n = some k) ∧
  ∀ n,(n,NameKind.free) ∈ scope.names → sc.names.lookup n = some .cell ∨ sc.names.lookup n = some .free := by
 unfold scopeOk at h
 rw [Bool.and_eq_true,List.all_eq_true] at h
 refine ⟨eq_of_beq h.1,fun n k hm => ?_,fun n hm => ?_⟩
 ·have := h.2 (n,k) hm
  simp only [Bool.and_eq_true] at this
  exact eq_of_beq this.1
 ·have := h.2 (n,.free) hm
  simp only [Bool.and_eq_true,Bool.or_eq_true] at this
  rcases this.2 with (h' | h') | h'
  ·exact absurd h' (by decide)
  ·exact .inl (eq_of_beq h')
  ·exact .inr (eq_of_beq h')
theorem filter_lookup {p : Str → Bool} {x : Str} {d : D} : ∀ {σ : St},(σ.filter fun q => p q.1).lookup x = some d → p x = true ∧ σ.lookup x = some d
 | [],h => by cases h
 | (y,e) :: r,h => by
  rw [List.filter_cons] at h
  by_cases hp : p y = true
  ·rw [if_pos hp,List.lookup_cons] at h
   rw [List.lookup_cons]
   by_cases hx : (x == y) = true
   ·rw [hx] at h ⊢
    have := eq_of_beq hx
    subst this
    exact ⟨hp,h⟩
   ·have hx' : (x == y) = false := by simpa using hx
    rw [hx'] at h ⊢
    exact filter_lookup h
  ·rw [if_neg hp] at h
   have := filter_lookup h
   refine ⟨this.1,?_⟩
   rw [List.lookup_cons]
   by_cases hx : (x == y) = true
   ·have := eq_of_beq hx
    subst this
    exact absurd (filter_lookup h).1 hp
   ·have hx' : (x == y) = false := by simpa using hx
    rw [hx']; exact this.2
noncomputable def cEnv (scope : Scope) (env : Env) (C : Addr) : Env :=
 { scope := relabel scope env,locals := C,globals := env.globals,cells := cellsFrom (C + 1) scope.names (freeCells env.cells scope.names []),qual := env.qual,func := none,code := env.code,frame := env.frame,builtins := env.builtins }
theorem cEnv_cell {scope : Scope} (hs : scopeOk sc scope = true) {C : Addr} {x : Str} (hx : scope.names.lookup x = some .cell) : ∃ c,(cEnv scope env C).cells.lookup x = some c ∧ (x,c) ∈ cellsFrom (C + 1) scope.names [] := by
 obtain ⟨hk,hn,hf⟩ := scopeOk_names hs
 obtain ⟨c,hc⟩ := cellsFrom_has scope.names (C + 1) x (mem_of_lookup hx)
 show ∃ c,(cellsFrom (C + 1) scope.names (freeCells env.cells scope.names [])).lookup x = some c ∧ _
 rw [cellsFrom_acc,lookup_append]
 cases hl : (cellsFrom (C + 1) scope.names []).lookup x with
 | none => exact absurd hc (lookup_mem_iff.mp hl c)
 | some c' => exact ⟨c',rfl,mem_of_lookup hl⟩
theorem cEnv_free (eo : EnvOK env sc) {scope : Scope} (hs : scopeOk sc scope = true) {C : Addr} {x : Str} (hx : scope.names.lookup x = some .free) : ∃ c,env.cells.lookup x = some c ∧ (cEnv scope env C).cells.lookup x = some c := by
 obtain ⟨hk,hn,hf⟩ := scopeOk_names hs
 obtain ⟨c,hc⟩ := eo.cells x (hf x (mem_of_lookup hx))
 refine ⟨c,hc,?_⟩
 show (cellsFrom (C + 1) scope.names (freeCells env.cells scope.names [])).lookup x = some c
 rw [cellsFrom_acc,lookup_append]
 have h1 : (cellsFrom (C + 1) scope.names []).lookup x = none := lookup_mem_iff.mpr fun c' hm => by
  have := hn x .cell (cellsFrom_mem _ _ _ _ hm)
  rw [hx] at this; cases this
 rw [h1,Option.none_or]
 refine lookup_of_unique ?_ fun c' hm => ?_
 ·have := freeCells_has env.cells scope.names x (mem_of_lookup hx)
  rw [hc] at this; exact this
 ·have := (freeCells_mem env.cells scope.names x c' hm).2
  rw [hc] at this; exact this
theorem cEnv_lookup {scope : Scope} {C : Addr} {x : Str} {c : Addr} (h : (cEnv scope env C).cells.lookup x = some c) :
  (x,c) ∈ cellsFrom (C + 1) scope.names [] ∨ (scope.names.lookup x = some .free ∨ (x,NameKind.free) ∈ scope.names) ∧ c = (env.cells.lookup x).getD 0 := by
 have h' : (cellsFrom (C + 1) scope.names (freeCells env.cells scope.names [])).lookup x = some c := h
 rw [cellsFrom_acc] at h'
 rcases List.mem_append.mp (mem_of_lookup h') with hm | hm
 ·exact .inl hm
 ·have := freeCells_mem _ _ _ _ hm
  exact .inr ⟨.inr this.1,this.2⟩
theorem cEnv_ok (eo : EnvOK env sc) {scope : Scope} (hs : scopeOk sc scope = true) (C : Addr) : EnvOK (cEnv scope env C) scope where
 kind := (scopeOk_names hs).1
 glob := eo.glob
 blt := eo.blt
 same := fun x => relabel_lookup scope env x
 cells := fun x hx => by
  rcases hx with hx | hx
  ·obtain ⟨c,hc,_⟩ := cEnv_cell (env := env) hs (C := C) hx; exact ⟨c,hc⟩
  ·obtain ⟨c,_,hc⟩ := cEnv_free eo hs (C := C) hx; exact ⟨c,hc⟩
theorem Le.cells (h : Heap) (names : List (Str × NameKind)) : Le h (pushCells h names) := fun b o e => pushCells_keeps names h b o e
theorem CS.start {σ : St} {scope : Scope} {s₂ : Shared} {I : Addr} (o : Ok lv h₀ B A s) (eo : EnvOK env sc) (sees : Sees prog w B env σ s.heap) (hs : scopeOk sc scope = true) (k : Kp s s₂) (hf : s.heap.get? I = none) (hI : ∃ o,s₂.heap.get? I = some o) :
  CS prog w lv h₀ s.heap B (cEnv scope env (s₂.heap.objs.size + 1)) scope s₂.heap.objs.size (fun b => False ∨ b = I) A (freeOf scope σ) []
   { s₂ with heap := pushCells ((s₂.heap.push { cls := .type "list",data := .seq #[] }).push { cls := .type "dict",data := .dict #[] }) scope.names } := by
 obtain ⟨hk,hn,hfr⟩ := scopeOk_names hs
 generalize hL : s₂.heap.objs.size = L
 generalize hH : pushCells ((s₂.heap.push { cls := .type "list",data := .seq #[] }).push { cls := .type "dict",data := .dict #[] }) scope.names = H
 have le1 : Le (s₂.heap.push { cls := .type "list",data := .seq #[] }) H := fun b o' e => hH ▸ (Le.cells _ scope.names) b o' (Le.push _ _ b o' e)
 have le2 : Le s₂.heap H := (Le.push _ _).trans le1
 have szL : (s₂.heap.push { cls := .type "list",data := .seq #[] } : Heap).objs.size = L + 1 := by rw [Heap.size_push,hL]
 have ok := cellsFrom_ok scope.names ((s₂.heap.push { cls := .type "list",data := .seq #[] }).push { cls := .type "dict",data := .dict #[] }) (L + 1 + 1) [] ⟨fun _ _ hm => (nomatch hm),List.Pairwise.nil⟩ (by rw [Heap.size_push,szL]; exact Nat.le_refl _)
 rw [Heap.size_push,szL,hH] at ok
 have hLget : H.get? L = some { cls := .type "list",data := .seq #[] } := by
  refine le1 _ _ ?_
  rw [← hL]; exact Heap.get?_push_size _ rfl
 have hC : H.Ns (L + 1) (fun _ => none) := by
  have : ((s₂.heap.push { cls := .type "list",data := .seq #[] }).push { cls := .type "dict",data := .dict #[] } : Heap).Ns (L + 1) (fun _ => none) := by
   rw [← szL]; exact Heap.Ns.new _ _
  rw [← hH]; exact this.keepsP (Le.cells _ _)
 have old : ∀ b o',s.heap.get? b = some o' → b < L := fun b o' e => hL ▸ Heap.lt_size (k.le _ _ e)
 have cellOld : ∀ x c,(cEnv scope env (L + 1)).cells.lookup x = some c → ((x,c) ∈ cellsFrom (L + 1 + 1) scope.names []) ∨ ∃ o',s.heap.get? c = some o' := fun x c hc => by
  rcases cEnv_lookup hc with h | ⟨h,h2⟩
  ·exact .inl h
  ·have hx : scope.names.lookup x = some .free := by
    rcases h with h | h
    ·exact h
    ·exact hn x .free h
   obtain ⟨c',hc',_⟩ := cEnv_free eo hs (C := L + 1) hx
   rw [hc'] at h2
   obtain rfl : c = c' := h2
   exact .inr (sees.1 x c hc')
 have frm : Frm (cEnv scope env (L + 1)) scope H := by
  refine ⟨⟨_,hC⟩,fun x hx => ?_,fun x c hx hc => ?_,fun x y c hx hc hcy => ?_⟩
  ·obtain ⟨c,hc,hm⟩ := cEnv_cell (env := env) hs (C := L + 1) hx
   exact ⟨c,none,hc,(ok.empty x c hm).1⟩
  ·obtain ⟨c',hc',hm⟩ := cEnv_cell (env := env) hs (C := L + 1) hx
   rw [hc] at hc'; cases hc'
   have := (ok.empty x c hm).2
   show c ≠ L + 1
   exact fun h => by rw [h] at this; exact Nat.lt_irrefl _ this
  ·obtain ⟨c',hc',hm⟩ := cEnv_cell (env := env) hs (C := L + 1) hx
   rw [hc] at hc'; cases hc'
   rcases cellOld y c hcy with h | ⟨o',ho'⟩
   ·exact name_of_addr ok.apart h hm
   ·have h1 := old _ _ ho'
    exact (ad2 (ok.empty x c hm).2 h1).elim
 have locNew : ∀ b,Loc (cEnv scope env (L + 1)) scope b → L < b := fun b hb => by
  rcases hb with rfl | ⟨x,hx,hc⟩
  ·exact Nat.lt_succ_self L
  ·obtain ⟨c',hc',hm⟩ := cEnv_cell (env := env) hs (C := L + 1) hx
   rw [hc] at hc'; cases hc'
   exact ad4 (ok.empty x b hm).2
 have fresh : ∀ b,L ≤ b → s.heap.get? b = none := fun b hb => by
  cases e : s.heap.get? b with
  | none => rfl
  | some o' => exact absurd (old _ _ e) (Nat.not_lt.mpr hb)
 have hIlt : I < L := by obtain ⟨o',ho'⟩ := hI; exact hL ▸ Heap.lt_size ho'
 refine ⟨o.amb,o.le,(k.le.trans le2),o.alive,o.off,frm,fun b h => ?_,fun b h => ?_,fun x c hc => ?_,fun x d e => ?_,⟨[],⟨0,hLget⟩,rfl⟩,fun h => ?_,fun h => ?_,fun b h => ?_⟩
 ·rcases h with rfl | h | h | rfl
  ·exact fresh _ (Nat.le_refl _)
  ·exact fresh _ (Nat.le_of_lt (locNew b h))
  ·exact h.elim
  ·exact hf
 ·rcases h with h | rfl
  ·exact h.elim
  ·obtain ⟨o',ho'⟩ := hI; exact ⟨o',le2 _ _ ho'⟩
 ·rcases cellOld x c hc with h | ⟨o',ho'⟩
  ·obtain ⟨o',ho',_⟩ := (ok.empty x c h).1; exact ⟨o',ho'⟩
  ·exact ⟨o',le2 _ _ (k.le _ _ ho')⟩
 ·have hfo : (σ.filter fun p => (fun y => scope.names.lookup y == some .free) p.1).lookup x = some d := e
  obtain ⟨h1,h2⟩ := filter_lookup (p := fun y => scope.names.lookup y == some .free) hfo
  have hx : scope.names.lookup x = some .free := eq_of_beq h1
  obtain ⟨v,hv,hd⟩ := sees.2 x d h2
  obtain ⟨c,hc,hc'⟩ := cEnv_free eo hs (C := L + 1) hx
  refine ⟨v,?_,.inl hd⟩
  have hkind : (cEnv scope env (L + 1)).kindOf x = some .cell ∨ (cEnv scope env (L + 1)).kindOf x = some .free := by
   rcases (cEnv_ok eo hs (L + 1)).same x with h | ⟨h,_⟩
   ·rw [h]; exact .inr hx
   ·exact .inl h
  rcases hv with ⟨hl,_⟩ | ⟨_,c2,hc2,hv⟩
  ·exfalso
   rcases eo.same x with h | ⟨h,_⟩
   ·rcases hfr x (mem_of_lookup hx) with h' | h' <;> (rw [h,h'] at hl; cases hl)
   ·rw [h] at hl; cases hl
  ·rw [hc] at hc2; cases hc2
   exact .inr ⟨hkind,c,hc',hv.keeps (k.le.trans le2)⟩
 ·rcases h with h | ⟨x,h⟩
  ·exact absurd h (Nat.ne_of_lt (Nat.lt_succ_self L))
  ·rcases cellOld x L h with h | ⟨o',ho'⟩
   ·exact ad3 (ok.empty x L h).2
   ·exact absurd (old _ _ ho') (Nat.lt_irrefl _)
 ·rcases h with h | h
  ·exact h.elim
  ·exact absurd h.symm (Nat.ne_of_lt hIlt)
 ·rcases h with h | rfl
  ·exact h.elim
  ·intro hp
   rcases hp with h | ⟨x,h⟩
   ·exact ad1 h hIlt
   ·rcases cellOld x b h with h | ⟨o',ho'⟩
    ·exact ad2 (ok.empty x b h).2 hIlt
    ·rw [hf] at ho'; cases ho'
theorem comp_core {ev : EV} {ts : TS} (H : EvS prog w lv h₀ ev) (HT : TsS prog w lv h₀ ts) (g : Gd prog w lv G h₀) {elt : Expr} {gens : List Comprehension} {scope : Scope} {pos p : Pos} {out : List D} {use : Option (Value → Sem Unit)}
  {Q : Value → Shared → Prop} {E : Value → Shared → Prop} (o : Ok lv h₀ B A s) (eo : EnvOK env sc) (sees : Sees prog w B env σ s.heap) (he : comp ev ts sc σ elt gens scope out)
  (hR : ∀ L C vs s',Kp s s' → s.heap.get? L = none → s.heap.get? C = none → L ≠ C → (∃ m,s'.heap.Ns C m) → s'.heap.PlainList L (List.toArray vs) → Els (fun b => B b ∨ b = L ∨ b = C) s'.heap out vs → out.length ≤ 1000000 →
   compPost (model prog w) A E use Q (.ref L) C (.ok .next) s') :
  wpAny (model prog w) A (comprehension (.ListComp elt gens scope pos) scope env p (newList []) false (firstIter gens env) use) Q E s := by
 obtain ⟨x,px,iter,ifs,rest,xs,rfl,hs,hx,hit,ht⟩ := he
 obtain ⟨hk,hn,hfr⟩ := scopeOk_names hs
 have hns : notSet iter = true := hit.1
 refine wpAny_comprehension_free (g := ⟨.Name x px,iter,ifs,0⟩) (gs := rest) rfl (notSet_fold hns env) (closure_eq scope env fun n hm => eo.cells n (hfr n hm)) hk (fun z hz hl => by
  obtain ⟨n,k⟩ := z
  cases hl
  exact hn n _ hz) ?_
 refine wpAny_mono (iter_ev (Q := fun it s₂ => ∃ I fp P St,it = .ref I ∧ Itr prog w B false A s xs I fp P St s₂) H g eo o sees hit fun I fp P St s₂ X => ⟨I,fp,P,St,rfl,X⟩) (fun x' s₁ h₁ => ?_) fun _ _ e => e
 refine wpAny_mono h₁ (fun it s₂ h₂ => ?_) fun _ _ e => e
 obtain ⟨I,fp,P,St,rfl,X⟩ := h₂
 refine wpAny_newObj_type ?_
 refine newEnv_comp ?_
 have cs := CS.start (prog := prog) (w := w) o eo sees hs X.kp X.fresh (X.live _ _ X.start)
 have hsz : ((s₂.heap.push { cls := .type "list",data := .seq ([] : List Value).toArray }) : Heap).objs.size = s₂.heap.objs.size + 1 := Heap.size_push ..
 have sm : (⟨pushCells ((s₂.heap.push { cls := .type "list",data := .seq ([] : List Value).toArray }).push { cls := .type "dict",data := .dict #[] }) scope.names,s₂.gens,s₂.drawn,s₂.toks,s₂.os⟩ : Shared).heap = pushCells ((s₂.heap.push { cls := .type "list",data := .seq #[] }).push { cls := .type "dict",data := .dict #[] }) scope.names := rfl
 have le2 : Le s₂.heap (pushCells ((s₂.heap.push { cls := .type "list",data := .seq #[] }).push { cls := .type "dict",data := .dict #[] }) scope.names) := (Le.push _ _).trans ((Le.push _ _).trans (Le.cells _ _))
 show codeAny (model prog w) A (.compStart _ 0 (.ref I) (.ref s₂.heap.objs.size) { scope := relabel scope env,locals := (s₂.heap.push { cls := .type "list",data := .seq ([] : List Value).toArray }).objs.size,globals := env.globals,cells := cellsFrom ((s₂.heap.push { cls := .type "list",data := .seq ([] : List Value).toArray }).objs.size + 1) scope.names (freeCells env.cells scope.names []),qual := env.qual,func := none,code := env.code,frame := env.frame,builtins := env.builtins }) _ { s₂ with heap := pushCells ((s₂.heap.push { cls := .type "list",data := .seq #[] }).push { cls := .type "dict",data := .dict #[] }) scope.names }
 rw [hsz]
 have hI : I < s₂.heap.objs.size := by obtain ⟨o',ho'⟩ := X.live _ _ X.start; exact Heap.lt_size ho'
 generalize hs3 : ({ s₂ with heap := pushCells ((s₂.heap.push { cls := .type "list",data := .seq #[] }).push { cls := .type "dict",data := .dict #[] }) scope.names } : Shared) = s₃ at cs
 have k3 : Kp s₂ s₃ := hs3 ▸ Kp.heap (t := s₂.toks) le2
 have hst3 : St 0 s₃.heap := X.walks.frame _ _ _ X.start fun b _ o' e => k3.le b o' e
 show codeAny (model prog w) A (.compStart _ 0 (.ref I) (.ref s₂.heap.objs.size) (cEnv scope env (s₂.heap.objs.size + 1))) _ s₃
 have fin : ∀ s',Ch (fun b => b = s₂.heap.objs.size ∨ Loc (cEnv scope env (s₂.heap.objs.size + 1)) scope b ∨ b = I) s₃ s' →
   CS prog w lv h₀ s.heap B (cEnv scope env (s₂.heap.objs.size + 1)) scope s₂.heap.objs.size (fun _ => False) A (freeOf scope σ) ([] ++ out) s' →
   compPost (model prog w) A E use Q (.ref s₂.heap.objs.size) (s₂.heap.objs.size + 1) (.ok .next) s' := fun s' c cs' => by
  obtain ⟨vs,hp,hvs⟩ := cs'.acc
  refine hR _ _ vs s' ?_ (cs'.new _ (.inl rfl)) (cs'.new _ (.inr (.inl (.inl rfl)))) (Nat.ne_of_lt (Nat.lt_succ_self _)) cs'.frm.ns hp ?_ (turns_fit ht)
  ·obtain ⟨h2,t2,rfl,hk2⟩ := X.kp.trans k3
   obtain ⟨h4,t4,rfl,hk4⟩ := c
   refine ⟨h4,t4,rfl,fun b o' e => hk4 b o' (fun h => ?_) (hk2 b o' e)⟩
   rcases h with h | h | h
   ·rw [cs'.new b (.inl h)] at e; cases e
   ·rw [cs'.new b (.inr (.inl h))] at e; cases e
   ·subst h; rw [X.fresh] at e; cases e
  ·exact hvs.mono fun b o' hnb e => ⟨e,fun h => hnb (by
    rcases h with h | h | h
    ·exact .inl h
    ·exact .inr (.inl h)
    ·exact .inr (.inr (.inl (.inl h))))⟩
 have hxn : (freeOf scope σ).lookup x = none := by
  cases e : (freeOf scope σ).lookup x with
  | none => rfl
  | some d =>
   have hfo : (σ.filter fun p => (fun y => scope.names.lookup y == some .free) p.1).lookup x = some d := e
   have h1 := eq_of_beq (filter_lookup (p := fun y => scope.names.lookup y == some .free) hfo).1
   rw [h1] at hx; exact absurd hx (by decide)
 have loop : codeAny (model prog w) A (.compLoop (.ListComp elt (⟨.Name x px,iter,ifs,0⟩ :: rest) scope pos) 0 (.ref I) (.ref s₂.heap.objs.size) (cEnv scope env (s₂.heap.objs.size + 1))) (compPost (model prog w) A E use Q (.ref s₂.heap.objs.size) (s₂.heap.objs.size + 1)) s₃ := by
  refine comp_loop (hg := rfl) (Is := fun _ => False) (out₀ := []) HT (cEnv_ok eo hs _) (emit_ok H HT g (cEnv_ok eo hs _) rest 0 rfl) hx hxn ht X.walks X.live (fun h => h) (fun b hb => ?_) hst3 (fun i v hi hP => ?_) cs (by simpa using turns_fit ht) fin
  ·rcases X.foot b hb with h | ⟨⟨o',ho'⟩,_,_⟩
   ·exact .inl h
   ·refine .inr fun h => ?_
    have hlt := Heap.lt_size ho'
    rcases h with h | h
    ·exact absurd h (Nat.ne_of_lt hlt)
    ·rcases h with h | ⟨z,hz,hc⟩
     ·exact ad1 h hlt
     ·obtain ⟨c',hc',hm⟩ := cEnv_cell (env := env) hs (C := s₂.heap.objs.size + 1) hz
      rw [hc] at hc'; cases hc'
      have ok := cellsFrom_ok scope.names ((s₂.heap.push { cls := .type "list",data := .seq #[] }).push { cls := .type "dict",data := .dict #[] }) (s₂.heap.objs.size + 1 + 1) [] ⟨fun _ _ hm => (nomatch hm),List.Pairwise.nil⟩ (by rw [Heap.size_push,Heap.size_push]; exact Nat.le_refl _)
      rw [Heap.size_push,Heap.size_push] at ok
      exact ad2 (ok.empty z b hm).2 hlt
  ·obtain ⟨d,h1,h2⟩ := X.items i v hi hP
   refine ⟨d,h1,h2.mono fun b o' hnb e => ⟨k3.le b o' e,fun h => hnb ?_⟩⟩
   rcases h with h | h | h | h | h
   ·exact .inl h
   ·exact absurd (Heap.lt_size e) (by rw [h]; exact Nat.lt_irrefl _)
   ·exfalso
    have hlt := Heap.lt_size e
    rcases h with h | ⟨z,hz,hc⟩
    ·exact ad1 h hlt
    ·obtain ⟨c',hc',hm⟩ := cEnv_cell (env := env) hs (C := s₂.heap.objs.size + 1) hz
     rw [hc] at hc'; cases hc'
     have ok := cellsFrom_ok scope.names ((s₂.heap.push { cls := .type "list",data := .seq #[] }).push { cls := .type "dict",data := .dict #[] }) (s₂.heap.objs.size + 1 + 1) [] ⟨fun _ _ hm => (nomatch hm),List.Pairwise.nil⟩ (by rw [Heap.size_push,Heap.size_push]; exact Nat.le_refl _)
     rw [Heap.size_push,Heap.size_push] at ok
     exact ad2 (ok.empty z b hm).2 hlt
   ·exact h.elim
   ·exact .inr h
 exact codeAny_compStart_at rfl loop (X.walks.self 0 _ _ _ hst3 loop)
theorem comp_ev {ev : EV} {ts : TS} (H : EvS prog w lv h₀ ev) (HT : TsS prog w lv h₀ ts) (g : Gd prog w lv G h₀) {elt : Expr} {gens : List Comprehension} {scope : Scope} {pos : Pos} {out : List D} (o : Ok lv h₀ B A s) (eo : EnvOK env sc) (sees : Sees prog w B env σ s.heap)
  (he : comp ev ts sc σ elt gens scope out) : Yd prog w B A s (eval (.ListComp elt gens scope pos) env) (.list out) := fun Q E hQ => by
 have ha : firstAsync gens = false := by
  obtain ⟨x,px,iter,ifs,rest,xs,rfl,_⟩ := he; rfl
 rw [eval_ListComp,ha]
 refine comp_core (use := none) H HT g o eo sees he fun L C vs s' k hL hC hLC ⟨m,hn⟩ hp hvs _ => ⟨m,hn,fun h' hs' => ?_⟩
 obtain ⟨h1,t1,rfl,hk1⟩ := k
 refine hQ _ _ ⟨h',t1,rfl,fun b ob e => hs'.extBut b ob (fun h => by subst h; rw [hC] at e; cases e) (hk1 b ob e)⟩ ⟨L,vs,rfl,fun hB => ?_,?_,?_⟩
 ·obtain ⟨ob,hob⟩ := o.alive L hB; rw [hL] at hob; cases hob
 ·obtain ⟨n,e⟩ := hp; exact ⟨n,hs'.extBut _ _ hLC e⟩
 ·exact hvs.mono fun b ob hnb e => ⟨hs'.extBut b ob (fun h => hnb (.inr (.inr h))) e,fun h => hnb (.inl h)⟩
end
section
variable {prog : Program} {w : World} {lv : Nat} {h₀ hb : Heap} {B : Addr → Prop} {A : Around} {s s' : Shared} {env : Env} {sc : Scope} {σ : St} {G : GE}
theorem value_ts {ev : EV} {e : Expr} {d : D} {b : Bool} (H : EvS prog w lv h₀ ev) (o : Ok lv h₀ B A s) (eo : EnvOK env sc) (sees : Sees prog w B env σ s.heap) (h1 : ev sc σ e d) (h2 : truth d = some b)
  (he : isTrue e env (eval e env) = (do let v ← eval e env; standAt e.pos; holding [v] (truthy v))) : Tr prog w A s (isTrue e env (eval e env)) b := fun Q E hQ => by
 refine wpAny_isTrue_value ((H _ _ _ _ h1 A s B env o eo sees).then fun v s₁ k₁ xv => ?_) he
 exact truth_sound h2 xv _ _ fun s₂ k₂ => hQ _ (k₁.trans k₂)
theorem not_ts {ts : TS} {e : Expr} {pos : Pos} {b : Bool} (HT : TsS prog w lv h₀ ts) (o : Ok lv h₀ B A s) (eo : EnvOK env sc) (sees : Sees prog w B env σ s.heap) (h : ts sc σ e b) {whole : Sem Value} : Tr prog w A s (isTrue (.UnaryOp .Not e pos) env whole) (!b) := fun Q E hQ => by
 exact wpAny_isTrue_Not (HT _ _ _ _ h A s B env o eo sees _ _ fun s' k => hQ _ k)
end
noncomputable abbrev Ow := Str → Option Addr
noncomputable def Wr (env : Env) (sc : Scope) (ow : Ow) (Is : Addr → Prop) (b : Addr) : Prop := Loc env sc b ∨ (∃ x,ow x = some b) ∨ Is b
noncomputable def Bf (B : Addr → Prop) (env : Env) (sc : Scope) (ow : Ow) (Is : Addr → Prop) (b : Addr) : Prop := B b ∨ Wr env sc ow Is b
structure FS (prog : Program) (w : World) (lv : Nat) (h₀ hb : Heap) (B : Addr → Prop) (env : Env) (sc : Scope) (A : Around) (Is : Addr → Prop) (ow : Ow) (σ : St) (s : Shared) : Prop where
 amb : Amb lv A
 le₀ : Le h₀ hb
 le : Le hb s.heap
 alive : ∀ b,B b → ∃ o,hb.get? b = some o
 off : ∀ b,B b → h₀.get? b = none
 frm : Frm env sc s.heap
 new : ∀ b,Wr env sc ow Is b → hb.get? b = none
 isAlive : ∀ b,Is b → ∃ o,s.heap.get? b = some o
 cells : ∀ x c,env.cells.lookup x = some c → ∃ o,s.heap.get? c = some o
 own : ∀ x a,ow x = some a → ∃ ds vs,σ.lookup x = some (.own ds) ∧ VarAt env s.heap x (.ref a) ∧ s.heap.PlainList a (List.toArray vs) ∧ Els (Bf B env sc ow Is) s.heap ds vs
 val : ∀ x ds,σ.lookup x = some (.own ds) → ∃ a,ow x = some a
 sees : ∀ x d,σ.lookup x = some d → (∀ ds,d ≠ .own ds) → ∃ v,VarAt env s.heap x v ∧ (Den prog w B hb d v ∨ El (Bf B env sc ow Is) s.heap d v)
 inj : ∀ x y a,ow x = some a → ow y = some a → x = y
 owPl : ∀ x a,ow x = some a → ¬ Pl env a
 owIs : ∀ x a,ow x = some a → ¬ Is a
 isPl : ∀ b,Is b → ¬ Pl env b
theorem view_lookup : ∀ {σ : St} {x : Str},(view σ).lookup x = (σ.lookup x).map D.seen
 | [],x => rfl
 | (y,e) :: r,x => by
  show List.lookup x ((y,e.seen) :: view r) = _
  rw [List.lookup_cons,List.lookup_cons]
  cases (x == y)
  ·exact view_lookup
  ·rfl
theorem frozen_lookup : ∀ {σ : St} {x : Str},(frozen σ).lookup x = (σ.lookup x).map D.froze
 | [],x => rfl
 | (y,e) :: r,x => by
  show List.lookup x ((y,e.froze) :: frozen r) = _
  rw [List.lookup_cons,List.lookup_cons]
  cases (x == y)
  ·exact frozen_lookup
  ·rfl
section
variable {prog : Program} {w : World} {lv : Nat} {h₀ hb : Heap} {B : Addr → Prop} {A : Around} {s s' : Shared} {env : Env} {sc : Scope} {σ σ' : St} {G : GE} {Is : Addr → Prop} {ow ow' : Ow}
theorem seen_den {B : Addr → Prop} {h : Heap} {d : D} {v : Value} (hn : ∀ ds,d ≠ .own ds) (x : Den prog w B h d v) : Den prog w B h d.seen v := by
 cases d with
 | own ds => exact absurd rfl (hn ds)
 | sig l t => exact ⟨t,x⟩
 | _ => exact x
theorem froze_den {B : Addr → Prop} {h : Heap} {d : D} {v : Value} (hn : ∀ ds,d ≠ .own ds) (x : Den prog w B h d v) : Den prog w B h d.froze v := by
 cases d with
 | own ds => exact absurd rfl (hn ds)
 | sig l t => exact ⟨t,x⟩
 | _ => exact x
theorem FS.baseOff (x : FS prog w lv h₀ hb B env sc A Is ow σ s) {b : Addr} {o : Obj} (e : hb.get? b = some o) : ¬ Wr env sc ow Is b := fun h => by rw [x.new b h] at e; cases e
theorem FS.wrAlive (x : FS prog w lv h₀ hb B env sc A Is ow σ s) {b : Addr} (h : Wr env sc ow Is b) : ∃ o,s.heap.get? b = some o := by
 rcases h with h | ⟨y,h⟩ | h
 ·exact x.frm.loc_alive h
 ·obtain ⟨ds,vs,_,_,⟨n,e⟩,_⟩ := x.own y b h; exact ⟨_,e⟩
 ·exact x.isAlive b h
theorem FS.ok (x : FS prog w lv h₀ hb B env sc A Is ow σ s) : Ok lv h₀ (Bf B env sc ow Is) A s where
 amb := x.amb
 le := x.le₀.trans x.le
 alive := fun b hbb => by
  rcases hbb with h | h
  ·obtain ⟨o,ho⟩ := x.alive b h; exact ⟨o,x.le _ _ ho⟩
  ·exact x.wrAlive h
 off := fun b hbb => by
  rcases hbb with h | h
  ·exact x.off b h
  ·cases e : h₀.get? b with
   | none => rfl
   | some o => exact absurd h (x.baseOff (x.le₀ _ _ e))
theorem FS.sees' (x : FS prog w lv h₀ hb B env sc A Is ow σ s) : Sees prog w (Bf B env sc ow Is) env (view σ) s.heap :=
 ⟨x.cells,fun y d e => by
  rw [view_lookup,Option.map_eq_some_iff] at e
  obtain ⟨d₀,h0,rfl⟩ := e
  by_cases ho : ∃ ds,d₀ = .own ds
  ·obtain ⟨ds,rfl⟩ := ho
   obtain ⟨a,ha⟩ := x.val y ds h0
   obtain ⟨ds',vs,h1,hv,hp,hvs⟩ := x.own y a ha
   rw [h0] at h1; cases h1
   exact ⟨_,hv,a,vs,rfl,hp,hvs⟩
  ·have hno : ∀ ds,d₀ ≠ .own ds := fun ds h => ho ⟨ds,h⟩
   obtain ⟨v,hv,hd⟩ := x.sees y d₀ h0 hno
   refine ⟨v,hv,seen_den hno ?_⟩
   rcases hd with hd | hd
   ·exact hd.mono (fun b o hnb he => ⟨x.le b o he,fun hB => hB.elim hnb (x.baseOff he)⟩) x.le
   ·exact Den.of_el hd⟩
theorem FS.frozenOk (x : FS prog w lv h₀ hb B env sc A Is ow σ s) : Ok lv h₀ (Bf B env sc (fun _ => none) Is) A s ∧ Sees prog w (Bf B env sc (fun _ => none) Is) env (frozen σ) s.heap := by
 have sub : ∀ b,Bf B env sc (fun _ => none) Is b → Bf B env sc ow Is b := fun b h => by
  rcases h with h | h | ⟨y,h⟩ | h
  ·exact .inl h
  ·exact .inr (.inl h)
  ·cases h
  ·exact .inr (.inr (.inr h))
 refine ⟨⟨x.ok.amb,x.ok.le,fun b h => x.ok.alive b (sub b h),fun b h => x.ok.off b (sub b h)⟩,x.cells,fun y d e => ?_⟩
 have hk : ∀ b o,¬ Bf B env sc ow Is b → s.heap.get? b = some o → s.heap.get? b = some o ∧ ¬ Bf B env sc (fun _ => none) Is b := fun b o hnb e => ⟨e,fun h => hnb (sub b h)⟩
 rw [frozen_lookup,Option.map_eq_some_iff] at e
 obtain ⟨d₀,h0,rfl⟩ := e
 by_cases ho : ∃ ds,d₀ = .own ds
 ·obtain ⟨ds,rfl⟩ := ho
  obtain ⟨a,ha⟩ := x.val y ds h0
  obtain ⟨ds',vs,h1,hv,hp,hvs⟩ := x.own y a ha
  rw [h0] at h1; cases h1
  refine ⟨_,hv,a,vs,rfl,fun h => ?_,hp,hvs.mono hk⟩
  rcases h with h | h | ⟨z,h⟩ | h
  ·obtain ⟨o,ho⟩ := x.alive a h
   exact x.baseOff ho (.inr (.inl ⟨y,ha⟩))
  ·exact x.owPl y a ha (Pl.of_loc h)
  ·cases h
  ·exact x.owIs y a ha h
 ·have hno : ∀ ds,d₀ ≠ .own ds := fun ds h => ho ⟨ds,h⟩
  obtain ⟨v,hv,hd⟩ := x.sees y d₀ h0 hno
  refine ⟨v,hv,froze_den hno ?_⟩
  rcases hd with hd | hd
  ·exact hd.mono (fun b o hnb he => ⟨x.le b o he,fun hB => (sub b hB).elim hnb (x.baseOff he)⟩) x.le
  ·exact Den.of_el (hd.mono hk)
theorem FS.step (x : FS prog w lv h₀ hb B env sc A Is ow σ s) (k : Ch Is s s') (hI : ∀ b,Is b → ∃ o,s'.heap.get? b = some o) : FS prog w lv h₀ hb B env sc A Is ow σ s' := by
 have hk : ∀ b o,¬ Bf B env sc ow Is b → s.heap.get? b = some o → s'.heap.get? b = some o ∧ ¬ Bf B env sc ow Is b := fun b o hnb e => ⟨k.get (fun hi => hnb (.inr (.inr (.inr hi)))) e,hnb⟩
 have hp : ∀ b o,Pl env b → s.heap.get? b = some o → s'.heap.get? b = some o := fun b o hpl e => k.get (fun hi => x.isPl b hi hpl) e
 refine ⟨x.amb,x.le₀,fun b o e => k.get (fun hi => x.baseOff e (.inr (.inr hi))) (x.le b o e),x.alive,x.off,x.frm.of_keeps fun b o hl e => hp b o (Pl.of_loc hl) e,x.new,hI,fun y c hc => ?_,fun y a ha => ?_,x.val,fun y d e hno => ?_,x.inj,x.owPl,x.owIs,x.isPl⟩
 ·obtain ⟨o,ho⟩ := x.cells y c hc; exact ⟨o,hp c o (.inr ⟨y,hc⟩) ho⟩
 ·obtain ⟨ds,vs,h1,hv,⟨n,e⟩,hvs⟩ := x.own y a ha
  exact ⟨ds,vs,h1,hv.ch hp,⟨n,k.get (x.owIs y a ha) e⟩,hvs.mono hk⟩
 ·obtain ⟨v,hv,hd⟩ := x.sees y d e hno
  exact ⟨v,hv.ch hp,hd.imp (fun h => h) fun h => h.mono hk⟩
theorem FS.keeps (x : FS prog w lv h₀ hb B env sc A Is ow σ s) (k : Kp s s') : FS prog w lv h₀ hb B env sc A Is ow σ s' :=
 x.step (Ch.of_kp k) fun b hi => let ⟨o,ho⟩ := x.isAlive b hi; ⟨o,k.le b o ho⟩
theorem FS.addI {I : Addr} (x : FS prog w lv h₀ hb B env sc A Is ow σ s) (k : Kp s s') (hf : s.heap.get? I = none) (hI : ∃ o,s'.heap.get? I = some o) : FS prog w lv h₀ hb B env sc A (fun b => Is b ∨ b = I) ow σ s' := by
 have y := x.keeps k
 have ne : ∀ b o,s.heap.get? b = some o → b ≠ I := fun b o e h => by subst h; rw [hf] at e; cases e
 have up : ∀ b,Bf B env sc ow (fun b => Is b ∨ b = I) b → Bf B env sc ow Is b ∨ b = I := fun b h => by
  rcases h with h | h | h | h | h
  ·exact .inl (.inl h)
  ·exact .inl (.inr (.inl h))
  ·exact .inl (.inr (.inr (.inl h)))
  ·exact .inl (.inr (.inr (.inr h)))
  ·exact .inr h
 have hk : ∀ b o,¬ Bf B env sc ow Is b → s.heap.get? b = some o → s'.heap.get? b = some o ∧ ¬ Bf B env sc ow (fun b => Is b ∨ b = I) b := fun b o hnb e => ⟨k.le b o e,fun h => (up b h).elim hnb (ne b o e)⟩
 have pl : ¬ Pl env I := fun hp => by
  rcases hp with h | ⟨z,h⟩
  ·obtain ⟨m,o,_,_,ho,_⟩ := x.frm.ns; exact ne _ _ ho h.symm
  ·obtain ⟨o,ho⟩ := x.cells z I h; exact ne _ _ ho rfl
 refine ⟨y.amb,y.le₀,y.le,y.alive,y.off,y.frm,fun b h => ?_,fun b h => ?_,y.cells,fun z a ha => ?_,y.val,fun z d e hno => ?_,y.inj,y.owPl,fun z a ha h => ?_,fun b h => ?_⟩
 ·rcases h with h | h | h | h
  ·exact y.new b (.inl h)
  ·exact y.new b (.inr (.inl h))
  ·exact y.new b (.inr (.inr h))
  ·subst h
   cases e : hb.get? b with
   | none => rfl
   | some o => have := x.le _ _ e; rw [hf] at this; cases this
 ·rcases h with h | h
  ·exact y.isAlive b h
  ·subst h; exact hI
 ·obtain ⟨ds,vs,h1,hv,⟨n,e⟩,hvs⟩ := x.own z a ha
  exact ⟨ds,vs,h1,hv.le k.le,⟨n,k.le _ _ e⟩,hvs.mono hk⟩
 ·obtain ⟨v,hv,hd⟩ := x.sees z d e hno
  exact ⟨v,hv.le k.le,hd.imp (fun h => h) fun h => h.mono hk⟩
 ·rcases h with h | h
  ·exact y.owIs z a ha h
  ·obtain ⟨ds,vs,_,_,⟨n,e⟩,_⟩ := x.own z a ha
   exact ne _ _ e h
 ·rcases h with h | h
  ·exact y.isPl b h
  ·subst h; exact pl
theorem FS.endI {I : Addr} (x : FS prog w lv h₀ hb B env sc A (fun b => Is b ∨ b = I) ow σ s) (hI : ¬ Is I) (k : Ch (fun b => b = I) s s') : FS prog w lv h₀ hb B env sc A Is ow σ s' := by
 have up : ∀ b,Wr env sc ow Is b → Wr env sc ow (fun b => Is b ∨ b = I) b := fun b h => by
  rcases h with h | h | h
  ·exact .inl h
  ·exact .inr (.inl h)
  ·exact .inr (.inr (.inl h))
 have hk : ∀ b o,¬ Bf B env sc ow (fun b => Is b ∨ b = I) b → s.heap.get? b = some o → s'.heap.get? b = some o ∧ ¬ Bf B env sc ow Is b := fun b o hnb e =>
  ⟨k.get (fun h => hnb (.inr (.inr (.inr (.inr h))))) e,fun h => hnb (h.elim .inl fun h => .inr (up b h))⟩
 have hpl : ∀ b,Pl env b → b ≠ I := fun b hp h => x.isPl I (.inr rfl) (h ▸ hp)
 have hp : ∀ b o,Pl env b → s.heap.get? b = some o → s'.heap.get? b = some o := fun b o hp e => k.get (hpl b hp) e
 refine ⟨x.amb,x.le₀,fun b o e => k.get (fun h => ?_) (x.le b o e),x.alive,x.off,x.frm.of_keeps fun b o hl e => hp b o (Pl.of_loc hl) e,fun b h => x.new b (up b h),fun b h => ?_,fun z c hc => ?_,fun z a ha => ?_,x.val,fun z d e hno => ?_,x.inj,x.owPl,fun z a ha h => x.owIs z a ha (.inl h),fun b h => x.isPl b (.inl h)⟩
 ·subst h; exact x.baseOff e (.inr (.inr (.inr rfl)))
 ·obtain ⟨o,ho⟩ := x.isAlive b (.inl h); exact ⟨o,k.get (fun hb => hI (hb ▸ h)) ho⟩
 ·obtain ⟨o,ho⟩ := x.cells z c hc; exact ⟨o,hp c o (.inr ⟨z,hc⟩) ho⟩
 ·obtain ⟨ds,vs,h1,hv,⟨n,e⟩,hvs⟩ := x.own z a ha
  exact ⟨ds,vs,h1,hv.ch hp,⟨n,k.get (fun h => x.owIs z a ha (.inr h)) e⟩,hvs.mono hk⟩
 ·obtain ⟨v,hv,hd⟩ := x.sees z d e hno
  exact ⟨v,hv.ch hp,hd.imp (fun h => h) fun h => h.mono hk⟩
noncomputable def Tn (env : Env) (sc : Scope) (ow : Ow) (s : Shared) (ow' : Ow) (s' : Shared) : Prop :=
 Ch (fun b => Loc env sc b ∨ ∃ x,ow x = some b) s s' ∧ ∀ x a,ow' x = some a → (∃ y,ow y = some a) ∨ s.heap.get? a = none
theorem Tn.rfl' : Tn env sc ow s ow s := ⟨Ch.rfl' _,fun x a h => .inl ⟨x,h⟩⟩
theorem Tn.trans {s'' : Shared} {ow'' : Ow} (x : Tn env sc ow s ow' s') (y : Tn env sc ow' s' ow'' s'') (hl : ∀ b,Loc env sc b → ∃ o,s'.heap.get? b = some o) : Tn env sc ow s ow'' s'' := by
 obtain ⟨⟨h1,t1,rfl,k1⟩,o1⟩ := x
 obtain ⟨⟨h2,t2,rfl,k2⟩,o2⟩ := y
 refine ⟨⟨h2,t2,rfl,fun b o hb e => k2 b o (fun h => ?_) (k1 b o hb e)⟩,fun z a h => ?_⟩
 ·rcases h with h | ⟨z,h⟩
  ·exact hb (.inl h)
  ·rcases o1 z b h with h | h
   ·exact hb (.inr h)
   ·rw [h] at e; cases e
 ·rcases o2 z a h with ⟨u,h⟩ | h
  ·exact o1 u a h
  ·by_cases hw : Loc env sc a ∨ ∃ x,ow x = some a
   ·rcases hw with hw | hw
    ·obtain ⟨o,ho⟩ := hl a hw
     have h' : h1.get? a = none := h
     have ho' : h1.get? a = some o := ho
     rw [h'] at ho'; cases ho'
    ·exact .inl hw
   ·cases e : s.heap.get? a with
    | none => exact .inr rfl
    | some o => rw [k1 a o hw e] at h; cases h
theorem Tn.of_kp (k : Kp s s') : Tn env sc ow s ow s' := ⟨Ch.of_kp k,fun x a h => .inl ⟨x,h⟩⟩
end
section
variable {prog : Program} {w : World} {lv : Nat} {h₀ hb : Heap} {B : Addr → Prop} {A : Around} {s s' : Shared} {env : Env} {sc : Scope} {σ σ' : St} {G : GE} {Is : Addr → Prop} {ow ow' : Ow}
noncomputable def offW (x : Str) (ow : Ow) : Ow := fun y => if y = x then none else ow y
noncomputable def on (x : Str) (a : Addr) (ow : Ow) : Ow := fun y => if y = x then some a else ow y
theorem off_some {x y : Str} {a : Addr} (h : offW x ow y = some a) : y ≠ x ∧ ow y = some a := by
 unfold offW at h
 split at h
 ·cases h
 ·exact ⟨by assumption,h⟩
theorem off_sub {x : Str} {b : Addr} (h : Wr env sc (offW x ow) Is b) : Wr env sc ow Is b := by
 rcases h with h | ⟨y,h⟩ | h
 ·exact .inl h
 ·exact .inr (.inl ⟨y,(off_some h).2⟩)
 ·exact .inr (.inr h)
theorem off_subB {x : Str} {b : Addr} (h : Bf B env sc (offW x ow) Is b) : Bf B env sc ow Is b := h.imp (fun h => h) off_sub
theorem FS.store {x : Str} {d : D} {v : Value} {Q : Unit → Shared → Prop} {E : Value → Shared → Prop} (y : FS prog w lv h₀ hb B env sc A Is ow σ s) (eo : EnvOK env sc) (hx : isHeld (sc.names.lookup x) = true)
  (hno : ∀ ds,d ≠ .own ds) (hd : Den prog w B hb d v ∨ El (Bf B env sc ow Is) s.heap d v)
  (hQ : ∀ s',FS prog w lv h₀ hb B env sc A Is (offW x ow) (put x d σ) s' → Tn env sc ow s (offW x ow) s' → Q () s') : wpAny (model prog w) A (storeName env x v) Q E s := by
 refine store_var eo y.frm hx fun tgt h' tk ht hseq hs hf hv ho => ?_
 have keep : ∀ b o,b ≠ tgt → s.heap.get? b = some o → h'.get? b = some o := fun b o hne e => hs.extBut b o hne e
 have hkk : ∀ b o,¬ Bf B env sc ow Is b → s.heap.get? b = some o → h'.get? b = some o ∧ ¬ Bf B env sc (offW x ow) Is b := fun b o hnb e =>
  ⟨keep b o (fun h => hnb (.inr (.inl (h ▸ ht)))) e,fun h => hnb (off_subB h)⟩
 refine hQ _ ⟨y.amb,y.le₀,fun b o e => ?_,y.alive,y.off,hf,fun b h => y.new b (off_sub h),fun b hi => ?_,fun z c hc => ?_,fun z a ha => ?_,fun z ds e => ?_,fun z d' e hn => ?_,fun z u a h1 h2 => y.inj z u a (off_some h1).2 (off_some h2).2,fun z a h => y.owPl z a (off_some h).2,fun z a h => y.owIs z a (off_some h).2,y.isPl⟩
  ⟨⟨h',tk,rfl,fun b o hnb e => keep b o (fun h => hnb (.inl (h ▸ ht))) e⟩,fun z a h => .inl ⟨z,(off_some h).2⟩⟩
 ·exact keep b o (fun h => by subst h; exact y.baseOff e (.inl ht)) (y.le b o e)
 ·obtain ⟨o,ho'⟩ := y.isAlive b hi
  exact ⟨o,keep b o (fun h => y.isPl b hi (h ▸ Pl.of_loc ht)) ho'⟩
 ·by_cases hct : c = tgt
  ·subst hct; exact hf.loc_alive ht
  ·obtain ⟨o,ho'⟩ := y.cells z c hc; exact ⟨o,keep c o hct ho'⟩
 ·obtain ⟨hzx,ha⟩ := off_some ha
  obtain ⟨ds,vs,h1,hv',⟨n,e⟩,hvs⟩ := y.own z a ha
  refine ⟨ds,vs,?_,ho z _ hzx hv',⟨n,keep _ _ (fun h => y.owPl z a ha (h ▸ Pl.of_loc ht)) e⟩,hvs.mono hkk⟩
  rw [lookup_put,if_neg hzx]; exact h1
 ·rw [lookup_put] at e
  split at e
  ·cases e; exact absurd rfl (hno ds)
  ·rename_i hzx
   obtain ⟨a,ha⟩ := y.val z ds e
   exact ⟨a,by unfold offW; rw [if_neg hzx]; exact ha⟩
 ·rw [lookup_put] at e
  split at e
  ·rename_i hz; cases e; subst hz
   exact ⟨v,hv,hd.imp (fun h => h) fun h => h.mono hkk⟩
  ·rename_i hz
   obtain ⟨u,hu,hdu⟩ := y.sees z d' e hn
   exact ⟨u,ho z u hz hu,hdu.imp (fun h => h) fun h => h.mono hkk⟩
theorem FS.storeOwn {x : Str} {ds : List D} {vs : List Value} {a : Addr} {s₀ : Shared} {Q : Unit → Shared → Prop} {E : Value → Shared → Prop} (y₀ : FS prog w lv h₀ hb B env sc A Is ow σ s₀) (k : Kp s₀ s) (hfr : s₀.heap.get? a = none) (eo : EnvOK env sc) (hx : isHeld (sc.names.lookup x) = true)
  (hp : s.heap.PlainList a (List.toArray vs)) (hd : Els (fun b => Bf B env sc ow Is b ∨ b = a) s.heap ds vs)
  (hQ : ∀ s',FS prog w lv h₀ hb B env sc A Is (on x a ow) (put x (.own ds) σ) s' → Tn env sc ow s₀ (on x a ow) s' → Q () s') : wpAny (model prog w) A (storeName env x (.ref a)) Q E s := by
 have y := y₀.keeps k
 have ne : ∀ b o,s₀.heap.get? b = some o → b ≠ a := fun b o e h => by subst h; rw [hfr] at e; cases e
 have onS : ∀ {z : Str} {b : Addr},on x a ow z = some b → (z = x ∧ b = a) ∨ (z ≠ x ∧ ow z = some b) := fun {z b} h => by
  unfold on at h
  split at h
  ·rename_i hz; cases h; exact .inl ⟨hz,rfl⟩
  ·rename_i hz; exact .inr ⟨hz,h⟩
 have sub : ∀ b,Wr env sc (on x a ow) Is b → Wr env sc ow Is b ∨ b = a := fun b h => by
  rcases h with h | ⟨z,h⟩ | h
  ·exact .inl (.inl h)
  ·rcases onS h with ⟨_,h⟩ | ⟨_,h⟩
   ·exact .inr h
   ·exact .inl (.inr (.inl ⟨z,h⟩))
  ·exact .inl (.inr (.inr h))
 have subB : ∀ b,Bf B env sc (on x a ow) Is b → Bf B env sc ow Is b ∨ b = a := fun b h => by
  rcases h with h | h
  ·exact .inl (.inl h)
  ·exact (sub b h).imp .inr fun h => h
 have aPl : ¬ Pl env a := fun hpl => by
  rcases hpl with h | ⟨z,h⟩
  ·obtain ⟨m,o,_,_,ho,_⟩ := y₀.frm.ns; exact ne _ _ ho h.symm
  ·obtain ⟨o,ho⟩ := y₀.cells z a h; exact ne _ _ ho rfl
 have aIs : ¬ Is a := fun h => by obtain ⟨o,ho⟩ := y₀.isAlive a h; exact ne _ _ ho rfl
 have aOw : ∀ z,ow z ≠ some a := fun z h => by
  obtain ⟨ds,vs,_,_,⟨n,e⟩,_⟩ := y₀.own z a h; exact ne _ _ e rfl
 refine store_var eo y.frm hx fun tgt h' tk ht hseq hs hf hv ho => ?_
 have keep : ∀ b o,b ≠ tgt → s.heap.get? b = some o → h'.get? b = some o := fun b o hne e => hs.extBut b o hne e
 have hat : a ≠ tgt := fun h => aPl (h ▸ Pl.of_loc ht)
 have hk0 : ∀ b o,¬ Bf B env sc ow Is b → s₀.heap.get? b = some o → h'.get? b = some o ∧ ¬ Bf B env sc (on x a ow) Is b := fun b o hnb e =>
  ⟨keep b o (fun h => hnb (.inr (.inl (h ▸ ht)))) (k.le b o e),fun h => (subB b h).elim hnb (ne b o e)⟩
 have hk1 : ∀ b o,¬ (Bf B env sc ow Is b ∨ b = a) → s.heap.get? b = some o → h'.get? b = some o ∧ ¬ Bf B env sc (on x a ow) Is b := fun b o hnb e =>
  ⟨keep b o (fun h => hnb (.inl (.inr (.inl (h ▸ ht))))) e,fun h => hnb (subB b h)⟩
 obtain ⟨hk,tk0,rfl,kk⟩ := k
 refine hQ _ ⟨y.amb,y.le₀,fun b o e => ?_,y.alive,y.off,hf,fun b h => ?_,fun b hi => ?_,fun z c hc => ?_,fun z b h => ?_,fun z ds' e => ?_,fun z d' e hn => ?_,fun z u b h1 h2 => ?_,fun z b h => ?_,fun z b h => ?_,y.isPl⟩
  ⟨⟨h',tk,rfl,fun b o hnb e => keep b o (fun h => hnb (.inl (h ▸ ht))) (kk b o e)⟩,fun z b h => ?_⟩
 ·exact keep b o (fun h => by subst h; exact y.baseOff e (.inl ht)) (y.le b o e)
 ·rcases sub b h with h | h
  ·exact y.new b h
  ·subst h
   cases e : hb.get? b with
   | none => rfl
   | some o => exact absurd rfl (ne b o (y₀.le b o e))
 ·obtain ⟨o,ho'⟩ := y.isAlive b hi
  exact ⟨o,keep b o (fun h => y.isPl b hi (h ▸ Pl.of_loc ht)) ho'⟩
 ·by_cases hct : c = tgt
  ·subst hct; exact hf.loc_alive ht
  ·obtain ⟨o,ho'⟩ := y.cells z c hc; exact ⟨o,keep c o hct ho'⟩
 ·rcases onS h with ⟨rfl,rfl⟩ | ⟨hzx,h⟩
  ·obtain ⟨n,e⟩ := hp
   exact ⟨ds,vs,by rw [lookup_put,if_pos rfl],hv,⟨n,keep _ _ hat e⟩,hd.mono hk1⟩
  ·obtain ⟨ds',vs',h1,hv',⟨n,e⟩,hvs⟩ := y₀.own z b h
   refine ⟨ds',vs',?_,ho z _ hzx (hv'.le kk),⟨n,keep _ _ (fun h' => y.owPl z b h (h' ▸ Pl.of_loc ht)) (kk _ _ e)⟩,hvs.mono hk0⟩
   rw [lookup_put,if_neg hzx]; exact h1
 ·rw [lookup_put] at e
  split at e
  ·rename_i hz; exact ⟨a,by unfold on; rw [if_pos hz]⟩
  ·rename_i hzx
   obtain ⟨b,hb'⟩ := y.val z ds' e
   exact ⟨b,by unfold on; rw [if_neg hzx]; exact hb'⟩
 ·rw [lookup_put] at e
  split at e
  ·cases e; exact absurd rfl (hn ds)
  ·rename_i hz
   obtain ⟨u,hu,hdu⟩ := y₀.sees z d' e hn
   exact ⟨u,ho z u hz (hu.le kk),hdu.imp (fun h => h) fun h => h.mono hk0⟩
 ·rcases onS h1 with ⟨hz,hb1⟩ | ⟨hzx,h1'⟩
  ·rcases onS h2 with ⟨hu,_⟩ | ⟨_,h2'⟩
   ·rw [hz,hu]
   ·exact absurd (hb1 ▸ h2') (aOw _)
  ·rcases onS h2 with ⟨hu,hb2⟩ | ⟨_,h2'⟩
   ·exact absurd (hb2 ▸ h1') (aOw _)
   ·exact y.inj z u b h1' h2'
 ·rcases onS h with ⟨rfl,rfl⟩ | ⟨_,h⟩
  ·exact aPl
  ·exact y.owPl z b h
 ·rcases onS h with ⟨rfl,rfl⟩ | ⟨_,h⟩
  ·exact aIs
  ·exact y.owIs z b h
 ·rcases onS h with ⟨rfl,rfl⟩ | ⟨_,h⟩
  ·exact .inr hfr
  ·exact .inl ⟨z,h⟩
theorem FS.upd {x : Str} {ds : List D} {vs : List Value} {a : Addr} {h' : Heap} {tk : Nat} (y : FS prog w lv h₀ hb B env sc A Is ow σ s) (ha : ow x = some a) (hs : Heap.SameBut a s.heap h') (hp : h'.PlainList a (List.toArray vs))
  (hd : Els (Bf B env sc ow Is) s.heap ds vs) :
  FS prog w lv h₀ hb B env sc A Is ow (put x (.own ds) σ) { s with heap := h',toks := tk } ∧ Tn env sc ow s ow { s with heap := h',toks := tk } := by
 have keep : ∀ b o,b ≠ a → s.heap.get? b = some o → h'.get? b = some o := fun b o hne e => hs.extBut b o hne e
 have hkk : ∀ b o,¬ Bf B env sc ow Is b → s.heap.get? b = some o → h'.get? b = some o ∧ ¬ Bf B env sc ow Is b := fun b o hnb e => ⟨keep b o (fun h => hnb (.inr (.inr (.inl ⟨x,h ▸ ha⟩)))) e,hnb⟩
 have hpl : ∀ b o,Pl env b → s.heap.get? b = some o → h'.get? b = some o := fun b o h e => keep b o (fun hba => y.owPl x a ha (hba ▸ h)) e
 obtain ⟨ds₀,vs₀,hl₀,hv₀,_,_⟩ := y.own x a ha
 refine ⟨⟨y.amb,y.le₀,fun b o e => ?_,y.alive,y.off,y.frm.of_keeps fun b o hl e => hpl b o (Pl.of_loc hl) e,y.new,fun b hi => ?_,fun z c hc => ?_,fun z b h => ?_,fun z ds' e => ?_,fun z d' e hn => ?_,y.inj,y.owPl,y.owIs,y.isPl⟩,
  ⟨⟨h',tk,rfl,fun b o hnb e => keep b o (fun h => hnb (.inr ⟨x,h ▸ ha⟩)) e⟩,fun z b h => .inl ⟨z,h⟩⟩⟩
 ·exact keep b o (fun h => by subst h; exact y.baseOff e (.inr (.inl ⟨x,ha⟩))) (y.le b o e)
 ·obtain ⟨o,ho'⟩ := y.isAlive b hi
  exact ⟨o,keep b o (fun h => y.owIs x a ha (h ▸ hi)) ho'⟩
 ·obtain ⟨o,ho'⟩ := y.cells z c hc; exact ⟨o,hpl c o (.inr ⟨z,hc⟩) ho'⟩
 ·by_cases hzx : z = x
  ·subst hzx
   rw [ha] at h; cases h
   exact ⟨ds,vs,by rw [lookup_put,if_pos rfl],hv₀.ch hpl,hp,hd.mono hkk⟩
  ·obtain ⟨ds',vs',h1,hv',⟨n,e⟩,hvs⟩ := y.own z b h
   refine ⟨ds',vs',?_,hv'.ch hpl,⟨n,keep _ _ (fun hba => hzx (y.inj z x b h (hba ▸ ha))) e⟩,hvs.mono hkk⟩
   rw [lookup_put,if_neg hzx]; exact h1
 ·rw [lookup_put] at e
  split at e
  ·rename_i hz; exact ⟨a,hz ▸ ha⟩
  ·exact y.val z ds' e
 ·rw [lookup_put] at e
  split at e
  ·cases e; exact absurd rfl (hn ds)
  ·obtain ⟨u,hu,hdu⟩ := y.sees z d' e hn
   exact ⟨u,hu.ch hpl,hdu.imp (fun h => h) fun h => h.mono hkk⟩
theorem FS.give {x : Str} {ds : List D} (y : FS prog w lv h₀ hb B env sc A Is ow σ s) (hx : σ.lookup x = some (.own ds)) : FS prog w lv h₀ hb B env sc A Is (offW x ow) (put x (.list ds) σ) s ∧ Tn env sc ow s (offW x ow) s := by
 obtain ⟨a,ha⟩ := y.val x ds hx
 obtain ⟨ds₀,vs₀,hl₀,hv₀,hp₀,hvs₀⟩ := y.own x a ha
 rw [hx] at hl₀; cases hl₀
 have hk : ∀ b o,¬ Bf B env sc ow Is b → s.heap.get? b = some o → s.heap.get? b = some o ∧ ¬ Bf B env sc (offW x ow) Is b := fun b o hnb e => ⟨e,fun h => hnb (off_subB h)⟩
 refine ⟨⟨y.amb,y.le₀,y.le,y.alive,y.off,y.frm,fun b h => y.new b (off_sub h),y.isAlive,y.cells,fun z b h => ?_,fun z ds' e => ?_,fun z d' e hn => ?_,fun z u b h1 h2 => y.inj z u b (off_some h1).2 (off_some h2).2,fun z b h => y.owPl z b (off_some h).2,fun z b h => y.owIs z b (off_some h).2,y.isPl⟩,
  ⟨Ch.rfl' _,fun z b h => .inl ⟨z,(off_some h).2⟩⟩⟩
 ·obtain ⟨hzx,h⟩ := off_some h
  obtain ⟨ds',vs',h1,hv',hp',hvs⟩ := y.own z b h
  refine ⟨ds',vs',?_,hv',hp',hvs.mono hk⟩
  rw [lookup_put,if_neg hzx]; exact h1
 ·rw [lookup_put] at e
  split at e
  ·cases e
  ·rename_i hzx
   obtain ⟨b,hb'⟩ := y.val z ds' e
   exact ⟨b,by unfold offW; rw [if_neg hzx]; exact hb'⟩
 ·rw [lookup_put] at e
  split at e
  ·rename_i hz; cases e; subst hz
   refine ⟨_,hv₀,.inr ⟨a,vs₀,rfl,fun h => ?_,hp₀,hvs₀.mono hk⟩⟩
   rcases h with h | h | ⟨u,h⟩ | h
   ·obtain ⟨o,ho⟩ := y.alive a h; exact y.baseOff ho (.inr (.inl ⟨z,ha⟩))
   ·exact y.owPl z a ha (Pl.of_loc h)
   ·obtain ⟨huz,h⟩ := off_some h
    exact huz (y.inj u z a h ha)
   ·exact y.owIs z a ha h
  ·obtain ⟨u,hu,hdu⟩ := y.sees z d' e hn
   exact ⟨u,hu,hdu.imp (fun h => h) fun h => h.mono hk⟩
theorem setItem_plain {l : Addr} {items : Array Value} {k : Int} {t : Tok} {v : Value} {Q : Unit → Shared → Prop} {E : Value → Shared → Prop} (hl : s.heap.PlainList l items)
  (h0 : 0 ≤ k) (hfit : k < 2 ^ 63) (hn : k < items.size)
  (hQ : ∀ h',h'.PlainList l (items.setIfInBounds k.toNat v) → Heap.SameBut l s.heap h' → Q () { s with heap := h' }) :
  wpAny (model prog w) A (setItem (.ref l) (.int k t) v) Q E s := by
 obtain ⟨ne,ho⟩ := id hl
 have hl' := hl.isList
 unfold setItem
 try with_reducible refine wpAny_holding ?_
 first | refine wpAny_bind (wpAny_pure ?_) | skip
 refine wpAny_bind (wpAny_sequenceKey hl'.typeIs (by decide) ?_)
 refine wpAny_bind (wpAny_callSpecial?_slot (name := Str.ofString "__setitem__") hl'.typeIs slot_list_setitem
  (wpAny_call_entry slot_list_setitem hl'.typeIs entry_list_setitem ?_ (args_list_setitem _ _ _)))
 show wpAny _ _ (Builtin.List.listSubscript? (.int k t) >>= _) _ _ s
 refine wpAny_bind (wpAny_listSubscript_int (fitsIndex_of h0 hfit) ?_)
 clear hfit
 obtain ⟨j,rfl⟩ := Int.eq_ofNat_of_zero_le h0
 have hj : j < items.size := by lia
 have hx' : items[j]? = some items[j] := Array.getElem?_eq_getElem hj
 show wpAny _ _ ((seqItemAt l j >>= fun r => pure (r.map (j,·))) >>= _) _ _ s
 refine wpAny_bind (wpAny_bind (wpAny_seqItemAt ho rfl (wpAny_pure ?_)))
 rw [hx']
 show wpAny _ _ (setSeqItemAt l j v >>= _) _ _ s
 have hfin : (s.heap.update l (Obj.mapSeq (·.setIfInBounds j v))).PlainList l (items.setIfInBounds j v) := by
  have e : Obj.mapSeq (fun x => x.setIfInBounds j v) { cls := .type "list",data := .seq items ne } = { cls := .type "list",data := .seq (items.setIfInBounds j v) (if (items.setIfInBounds j v).size == items.size then ne else ne + 1) } := rfl
  exact ⟨_,by rw [Heap.get?_update_self _ ho (by rw [e]; rfl),e]⟩
 refine wpAny_bind (wpAny_setSeqItemAt ho rfl ?_)
 first
  | exact wpAny_bind (wpAny_pure (wpAny_pure ⟨.none,rfl,wpAny_pure (hQ _ hfin (Heap.SameBut.update ..))⟩))
  | exact wpAny_pure ⟨.none,rfl,wpAny_pure (hQ _ hfin (Heap.SameBut.update ..))⟩
theorem extend_plain {l b : Addr} {items its2 : Array Value} {Q : Value → Shared → Prop} {E : Value → Shared → Prop} (hl : s.heap.PlainList l items) (hb : s.heap.PlainList b its2) (hsz : items.size + its2.size ≤ sizeLine)
  (hQ : ∀ h',h'.PlainList l (items ++ its2) → Heap.SameBut l s.heap h' → Q .none { s with heap := h' }) :
  wpAny (model prog w) A (call (.builtin "list.extend") [.ref l,.ref b]) Q E s := by
 obtain ⟨n,hm⟩ := hl
 obtain ⟨n2,hb⟩ := hb
 refine call_meets PySem.F.slot_list_extend ⟨_,hm,rfl⟩ PySem.F.entry_list_extend (PySem.F.args_list_extend_2 _ _) (AutoSeq1.list_extend_list_list_0 l items n b its2 n2 (extend_door hsz) (Nat.le_trans (Nat.le_add_right _ _) hsz)) ⟨hm,hb,?_⟩
 exact hQ _ ⟨_,by rw [Heap.get?_update_self _ hm (by rw [mapSeq_app]; rfl),mapSeq_app]⟩ (Heap.SameBut.update ..)
end
noncomputable def MineS (prog : Program) (w : World) (lv : Nat) (h₀ : Heap) (ev : EV) : Prop :=
 ∀ sc σ v ds,mine v = true → ev sc σ v (.list ds) → ∀ A s B env,Ok lv h₀ B A s → EnvOK env sc → Sees prog w B env σ s.heap → YdF prog w B A s (eval v env) ds
section
variable {prog : Program} {w : World} {lv : Nat} {h₀ : Heap} {B : Addr → Prop} {A : Around} {s s' : Shared} {env : Env} {sc : Scope} {σ : St} {G : GE}
theorem mul_evF {ev : EV} {l r : Expr} {pos : Pos} {es : List D} {b : D} {ds : List D} (H : EvS prog w lv h₀ ev) (eo : EnvOK env sc) (o : Ok lv h₀ B A s) (sees : Sees prog w B env σ s.heap)
  (ea : ev sc σ l (.list es)) (eb : ev sc σ r b) (e : binop .Mult (.list es) b = some (.list ds)) : YdF prog w B A s (eval (.BinOp l .Mult r pos) env) ds := fun Q E hQ => by
 refine wpAny_BinOp ((H _ _ _ _ ea A s B env o eo sees).then fun va s₁ k₁ xa => ?_)
 refine (H _ _ _ _ eb A s₁ B env (o.keeps k₁) eo (sees.le k₁.le)).then fun vb s₂ k₂ xb => ?_
 obtain ⟨k,hk,e⟩ := b2 (show (intOf b).bind (fun k => if small k && fits (es.length * k.toNat) then some (D.list (List.replicate k.toNat es).flatten) else none) = some (.list ds) from e)
 obtain rfl := intOf_eq hk
 obtain ⟨hc,e⟩ := ite_inv e
 cases e
 obtain ⟨l,vs,rfl,p,q⟩ := seqOf_of (ds := es) (xa.le k₂.le) rfl
 obtain ⟨t,rfl⟩ := den_int xb
 rw [Bool.and_eq_true] at hc
 have h1 := small_lt hc.1
 have h2 := fits_le hc.2
 refine mul_list_plain p (by lia) (by lia) (by rw [List.size_toArray,q.length]; lia) ?_
 rw [mul_items]
 exact fresh_push (k₁.trans k₂) (q.repl _) hQ
end
noncomputable def OutR (B : Addr → Prop) (env : Env) (sc : Scope) (Is : Addr → Prop) (s : Shared) : Out → Flow → Prop
 | .next,f => f = .next
 | .brk,f => f = .brk
 | .cont,f => f = .cont
 | .ret d,f => ∃ v,f = .ret v ∧ El (Bf B env sc (fun _ => none) Is) s.heap d v
noncomputable def StS (prog : Program) (w : World) (lv : Nat) (h₀ : Heap) (sc : Scope) (σ : St) (out : Out) (σ' : St) (t : Env → Sem Flow) : Prop :=
 ∀ (A : Around) (s : Shared) (B : Addr → Prop) (hb : Heap) (env : Env) (ow : Ow) (Is : Addr → Prop),EnvOK env sc → FS prog w lv h₀ hb B env sc A Is ow σ s → ∀ (Q : Flow → Shared → Prop) (E : Value → Shared → Prop),
  (∀ fl s' ow',FS prog w lv h₀ hb B env sc A Is ow' σ' s' → Tn env sc ow s ow' s' → OutR B env sc Is s' out fl → Q fl s') → wpAny (model prog w) A (t env) Q E s
noncomputable def XsS (prog : Program) (w : World) (lv : Nat) (h₀ : Heap) (xs : XS) : Prop := ∀ sc σ l out σ',xs sc σ l out σ' → StS prog w lv h₀ sc σ out σ' (execs l)
noncomputable def CompS (prog : Program) (w : World) (lv : Nat) (h₀ : Heap) (ev : EV) : Prop :=
 ∀ sc σ elt gens scope p d,ev sc σ (.ListComp elt gens scope p) d → ∃ ev' ts' out,EvS prog w lv h₀ ev' ∧ TsS prog w lv h₀ ts' ∧ comp ev' ts' sc σ elt gens scope out ∧ d = .list out
section
variable {prog : Program} {w : World} {lv : Nat} {h₀ hb : Heap} {B : Addr → Prop} {A : Around} {s s' : Shared} {env : Env} {sc : Scope} {σ σ' : St} {G : GE} {Is : Addr → Prop} {ow ow' : Ow}
theorem scalar_el {d : D} (hd : d.isScalar = true) {B B' : Addr → Prop} {h h' : Heap} {v : Value} (x : Den prog w B h d v) : El B' h' d v := by
 cases d <;> first | exact x | cases hd
theorem scalar_own {d : D} (hd : d.isScalar = true) : ∀ ds,d ≠ .own ds := fun ds h => by subst h; cases hd
theorem isEl_own {d : D} (hd : d.isEl = true) : ∀ ds,d ≠ .own ds := fun ds h => by subst h; cases hd
theorem FS.assign {x : Str} {px : Pos} {d : D} {v : Value} {Q : Unit → Shared → Prop} {E : Value → Shared → Prop} (y : FS prog w lv h₀ hb B env sc A Is ow σ s) (eo : EnvOK env sc) (hx : isHeld (sc.names.lookup x) = true)
  (hno : ∀ ds,d ≠ .own ds) (hd : Den prog w B hb d v ∨ El (Bf B env sc ow Is) s.heap d v)
  (hQ : ∀ s',FS prog w lv h₀ hb B env sc A Is (offW x ow) (put x d σ) s' → Tn env sc ow s (offW x ow) s' → Q () s') : wpAny (model prog w) A (assign (.Name x px) env v) Q E s :=
 wpAny_assign_Name (y.store eo hx hno hd hQ)
theorem Tn.kpL {s₁ : Shared} (k : Kp s s₁) (t : Tn env sc ow s₁ ow' s') : Tn env sc ow s ow' s' := by
 obtain ⟨c,h⟩ := t
 refine ⟨(Ch.of_kp k).trans c,fun x a hx => ?_⟩
 rcases h x a hx with h | h
 ·exact .inl h
 ·refine .inr ?_
  cases e : s.heap.get? a with
  | none => rfl
  | some o => rw [k.le a o e] at h; cases h
theorem Tn.to {ow'' : Ow} {s'' : Shared} (y : FS prog w lv h₀ hb B env sc A Is ow' σ' s') (t : Tn env sc ow s ow' s') (t' : Tn env sc ow' s' ow'' s'') : Tn env sc ow s ow'' s'' := t.trans t' fun b hb => y.frm.loc_alive hb
theorem swaps_cases {v : Expr} (hv : noComp v = true) {x : Str} {px : Pos} {line : Nat} {env : Env} :
  swapsWith v (some (.Name x px)) line env = pure false ∨ ((∃ elt gens scope p,v = .ListComp elt gens scope p) ∧ swapsWith v (some (.Name x px)) line env = pure true) := by
 cases v with
 | ListComp elt gens scope p =>
  have e : ∃ b,swapsWith (.ListComp elt gens scope p) (some (.Name x px)) line env = pure b := ⟨_,rfl⟩
  obtain ⟨b,e⟩ := e
  cases b with
  | false => exact .inl e
  | true => exact .inr ⟨⟨_,_,_,_,rfl⟩,e⟩
 | SetComp => cases hv
 | DictComp => cases hv
 | _ => exact .inl rfl
theorem st_assign {ev : EV} {x : Str} {px pos : Pos} {v : Expr} {d : D} (H : EvS prog w lv h₀ ev) (HC : CompS prog w lv h₀ ev) (g : Gd prog w lv G h₀) (hx : isHeld (sc.names.lookup x) = true) (hv : noComp v = true)
  (he : ev sc (view σ) v d) (hd : d.isEl = true) : StS prog w lv h₀ sc σ .next (put x d σ) (exec (.Assign [.Name x px] v pos)) := fun A s B hb env ow Is eo fs Q E hQ => by
 rcases swaps_cases hv (x := x) (px := px) (line := pos.line) (env := env) with hs | ⟨⟨elt,gens,scope,p,rfl⟩,hs⟩
 ·refine wpAny_Assign_Name ((H _ _ _ _ he A s _ env fs.ok eo fs.sees').then fun vv s₁ k₁ xv => ?_) hs
  exact (fs.keeps k₁).store eo hx (isEl_own hd) (.inr (xv.el hd)) fun s' fs' t => hQ _ _ _ fs' (t.kpL k₁) rfl
 ·obtain ⟨ev',ts',out,H',HT',hc,rfl⟩ := HC _ _ _ _ _ _ _ he
  rw [exec_Assign_Name_used _ _ _ _ hs]
  refine wpAny_bind (wpAny_standAt (wpAny_bind ?_))
  have ha : firstAsync gens = false := by
   obtain ⟨x',px',iter,ifs,rest,xs,rfl,_⟩ := hc; rfl
  show wpAny _ A (do let _ ← comprehension (.ListComp elt gens scope p) scope env _ (newList []) (firstAsync gens) (firstIter gens env) (some (assign (.Name x px) env))) _ _ s
  rw [ha]
  refine wpAny_bind (wpAny_mono (Q := fun _ s' => Q .next s') ?_ (fun _ s' hq => wpAny_pure (wpAny_pure hq)) fun _ _ e => e)
  refine comp_core (use := some (assign (.Name x px) env)) H' HT' g fs.ok eo fs.sees' hc fun L C vs s₁ k hL hC hLC hn hp hvs _ => ?_
  have hCa : ∃ o,s₁.heap.get? C = some o := by obtain ⟨m,o,_,_,ho,_⟩ := hn; exact ⟨o,ho⟩
  have hIs : ¬ Is C := fun h => by obtain ⟨o,ho⟩ := fs.isAlive C h; rw [hC] at ho; cases ho
  have fsC := fs.addI k hC hCa
  have up : ∀ b,Bf B env sc ow (fun b => Is b ∨ b = C) b → Bf B env sc ow Is b ∨ b = C := fun b h => by
   rcases h with h | h | h | h | h
   ·exact .inl (.inl h)
   ·exact .inl (.inr (.inl h))
   ·exact .inl (.inr (.inr (.inl h)))
   ·exact .inl (.inr (.inr (.inr h)))
   ·exact .inr h
  show wpAny _ A (assign (.Name x px) env (.ref L)) _ _ s₁
  refine fsC.assign (d := .list out) eo hx (fun _ h => by cases h) (.inr ⟨L,vs,rfl,fun h => ?_,hp,hvs.mono fun b o hnb e => ⟨e,fun h => hnb ((up b h).imp (fun h => h) .inr)⟩⟩) fun s₂ fs₂ t₂ => ?_
  ·rcases up L h with h | h
   ·obtain ⟨o,ho⟩ := fs.ok.alive L h; rw [hL] at ho; cases ho
   ·exact hLC h
  ·have hn2 : ∃ m,s₂.heap.Ns C m := by
    obtain ⟨m,o,es,ep,ho,r⟩ := hn
    exact ⟨m,o,es,ep,t₂.1.get (fun h => by
     rcases h with h | ⟨z,h⟩
     ·exact fsC.isPl C (.inr rfl) (Pl.of_loc h)
     ·exact fsC.owIs z C h (.inr rfl)) ho,r⟩
   obtain ⟨m,hn2⟩ := hn2
   refine ⟨m,hn2,fun h' hs' => ?_⟩
   have c : Ch (fun b => b = C) s₂ { s₂ with heap := h' } := ⟨h',s₂.toks,rfl,fun b o hb e => hs'.extBut b o hb e⟩
   refine hQ _ _ _ (fs₂.endI hIs c) ?_ rfl
   have t := t₂.kpL k
   refine ⟨?_,t.2⟩
   obtain ⟨h3,t3,rfl,k3⟩ := t.1
   exact ⟨h',t3,rfl,fun b o hnb e => hs'.extBut b o (fun h => by subst h; rw [hC] at e; cases e) (k3 b o hnb e)⟩
theorem st_assignOwn {ev : EV} {x : Str} {px pos : Pos} {v : Expr} {ds : List D} (HM : MineS prog w lv h₀ ev) (hx : isHeld (sc.names.lookup x) = true) (hm : mine v = true)
  (he : ev sc (view σ) v (.list ds)) : StS prog w lv h₀ sc σ .next (put x (.own ds) σ) (exec (.Assign [.Name x px] v pos)) := fun A s B hb env ow Is eo fs Q E hQ => by
 have hs : swapsWith v (some (.Name x px)) pos.line env = pure false := by cases v <;> first | rfl | cases hm
 refine wpAny_Assign_Name (HM _ _ _ _ hm he A s _ env fs.ok eo fs.sees' _ _ fun a s₁ vs k₁ hf hp hvs => ?_) hs
 exact fs.storeOwn k₁ hf eo hx hp hvs fun s' fs' t => hQ _ _ _ fs' t rfl
theorem st_assign2 {ev : EV} {x y : Str} {px py pos : Pos} {v : Expr} {d : D} (H : EvS prog w lv h₀ ev) (hx : isHeld (sc.names.lookup x) = true) (hy : isHeld (sc.names.lookup y) = true)
  (he : ev sc (view σ) v d) (hd : d.isScalar = true) : StS prog w lv h₀ sc σ .next (put y d (put x d σ)) (exec (.Assign [.Name x px,.Name y py] v pos)) := fun A s B hb env ow Is eo fs Q E hQ => by
 refine wpAny_Assign_two ((H _ _ _ _ he A s _ env fs.ok eo fs.sees').then fun vv s₁ k₁ xv => ?_)
 refine (fs.keeps k₁).assign eo hx (scalar_own hd) (.inr (scalar_el hd xv)) fun s₂ fs₂ t₂ => ?_
 refine fs₂.assign eo hy (scalar_own hd) (.inr (scalar_el hd xv)) fun s₃ fs₃ t₃ => ?_
 exact hQ _ _ _ fs₃ (Tn.to fs₂ (t₂.kpL k₁) t₃) rfl
theorem swapped_names {x y e f : Str} {px py pe pf tp pos : Pos} {k k2 : Nat} {env : Env} (hE : env.scope.kind = .function) (hx : env.kindOf x = some .local) (hy : env.kindOf y = some .local) (hxy : x ≠ y) (hl : (py.line == px.line) = true)
  (he : (e == ("__debug__" : Str)) = false) : swappedStores [.Tuple [.Name x px,.Name y py] k tp] (.Tuple [.Name e pe,.Name f pf] k2 pos) env = pure (some [x,y]) := by
 have hb : env.blockKind = .function := by unfold Env.blockKind; rw [hE]; rfl
 have hl' : py.line = px.line := eq_of_beq hl
 have hd : ([x,y] : List Str).eraseDups = [x,y] := by
  simp [List.eraseDups_cons,hxy,Ne.symm hxy]
 have hp : ∀ (z : Str) (pz : Pos),(Expr.Name z pz).pos = pz := fun _ _ => rfl
 unfold swappedStores
 have f1 : foldedForSure 8 (.Name e pe) = false := rfl
 have c1 : constantsAlone 8 (.Name e pe) = false := he
 simp [hb,hx,hy,hl',hd,f1,c1,hp,List.filterMap_cons,List.filterMap_nil]
theorem st_swap {ev : EV} {x y e f : Str} {px py pe pf tp vp pos : Pos} {k k2 : Nat} {a b : D} (H : EvS prog w lv h₀ ev) (hx : sc.names.lookup x = some .local) (hy : sc.names.lookup y = some .local) (hxy : x ≠ y) (hl : (py.line == px.line) = true)
  (hdb : okName e = true) (ha : ev sc (view σ) (.Name e pe) a) (hb' : ev sc (view σ) (.Name f pf) b) (sa : a.isScalar = true) (sb : b.isScalar = true) :
  StS prog w lv h₀ sc σ .next (put x a (put y b σ)) (exec (.Assign [.Tuple [.Name x px,.Name y py] k tp] (.Tuple [.Name e pe,.Name f pf] k2 vp) pos)) := fun A s B hb env ow Is eo fs Q E hQ => by
 have hdb' : (e == ("__debug__" : Str)) = false := by
  unfold okName at hdb
  rw [Bool.and_eq_true] at hdb
  simpa using hdb.1
 have hw := swapped_names (k := k) (k2 := k2) (tp := tp) (pos := vp) (pe := pe) (pf := pf) (f := f) eo.kind (held_local eo hx) (held_local eo hy) hxy hl hdb'
 refine Assign_Tuple_swapped (names := [x,y]) ?_ rfl hw
 have hs : starEach [.Name e pe,.Name f pf] env = [(false,eval (.Name e pe) env),(false,eval (.Name f pf) env)] := rfl
 refine Tuple_ ?_
 rw [hs]
 refine Calls.spliced_cons ((H _ _ _ _ ha A s _ env fs.ok eo fs.sees').then fun va s₁ k₁ xa => ?_)
 have fs₁ := fs.keeps k₁
 refine Calls.spliced_cons ((H _ _ _ _ hb' A s₁ _ env fs₁.ok eo fs₁.sees').then fun vb s₂ k₂ xb => Calls.spliced_nil ?_)
 refine wpAny_newObj_type ?_
 have k₃ : Kp s₂ { s₂ with heap := s₂.heap.push { cls := .type "tuple",data := .seq [va,vb].toArray } } := Kp.heap (t := s₂.toks) (Le.push _ _)
 refine unpackItems_tuple (items := #[va,vb]) fs.amb.1 ⟨_,Heap.get?_push_size _ rfl,rfl,_,rfl⟩ fun h' hext => ?_
 have k₄ : Kp s₂ { s₂ with heap := h',toks := s₂.toks } := k₃.trans (Kp.heap (s := { s₂ with heap := s₂.heap.push { cls := .type "tuple",data := .seq [va,vb].toArray } }) (t := s₂.toks) fun b o e => hext b o (Nat.ne_of_lt (Heap.lt_size e)) e)
 have fs₄ := (fs₁.keeps k₂).keeps k₄
 have hy' : isHeld (sc.names.lookup y) = true := by rw [hy]; rfl
 have hx' : isHeld (sc.names.lookup x) = true := by rw [hx]; rfl
 show wpAny _ A (do holding [va] (bindName env y vb); (do holding [] (bindName env x va); pure ())) _ _ _
 refine wpAny_bind (wpAny_holding (wpAny_bindName (fs₄.store eo hy' (scalar_own sb) (.inr (scalar_el sb xb)) fun s₅ fs₅ t₅ => ?_)))
 refine wpAny_bind (wpAny_holding (wpAny_bindName (fs₅.store eo hx' (scalar_own sa) (.inr (scalar_el sa xa)) fun s₆ fs₆ t₆ => wpAny_pure ?_)))
 exact hQ _ _ _ fs₆ (((Tn.to fs₅ t₅ t₆).kpL k₄ |>.kpL k₂).kpL k₁) rfl
end
section
variable {prog : Program} {w : World} {lv : Nat} {h₀ hb : Heap} {B : Addr → Prop} {A : Around} {s s' : Shared} {env : Env} {sc : Scope} {σ σ' : St} {G : GE} {Is : Addr → Prop} {ow ow' : Ow}
theorem loadHeld {x : Str} {v : Value} {Q : Value → Shared → Prop} {E : Value → Shared → Prop} (eo : EnvOK env sc) (hx : isHeld (sc.names.lookup x) = true) (hv : VarAt env s.heap x v) (h : Q v s) : wpAny (model prog w) A (loadName env x) Q E s := by
 rcases hv with ⟨e,m,hn,hm⟩ | ⟨e | e,c,hc',hv⟩
 ·exact wpAny_loadName_local eo.kind e hn hm h
 ·exact wpAny_loadName_cell eo.kind e hc' hv h
 ·exfalso
  unfold isHeld at hx
  rw [Bool.or_eq_true,beq_iff_eq,beq_iff_eq] at hx
  rcases hx with hx | hx
  ·rw [held_local eo hx] at e; cases e
  ·rw [held_cell eo hx] at e; cases e
theorem st_setItem {ev : EV} {x : Str} {px sp pos : Pos} {i v : Expr} {ds : List D} {d : D} {k : Int} (H : EvS prog w lv h₀ ev) (hx : isHeld (sc.names.lookup x) = true) (hn : okName x = true)
  (hv : ev sc (view σ) v d) (hi : ev sc (view σ) i (.int k)) (hl : σ.lookup x = some (.own ds)) (sd : d.isScalar = true) (h0 : 0 ≤ k) (hk : k.toNat < ds.length) (hf : fits ds.length = true) :
  StS prog w lv h₀ sc σ .next (put x (.own (ds.set k.toNat d)) σ) (exec (.Assign [.Subscript (.Name x px) i sp] v pos)) := fun A s B hb env ow Is eo fs Q E hQ => by
 have hs : swapsWith v (some (.Subscript (.Name x px) i sp)) pos.line env = pure false := by cases v <;> rfl
 refine wpAny_Assign_Subscript ((H _ _ _ _ hv A s _ env fs.ok eo fs.sees').then fun vv s₁ k₁ xv => ?_) hs
 have fs₁ := fs.keeps k₁
 obtain ⟨a,ha⟩ := fs₁.val x ds hl
 obtain ⟨ds',vs,hl',hva,hp,hvs⟩ := fs₁.own x a ha
 rw [hl] at hl'; cases hl'
 refine loadVar eo.kind hva (okName_both hn).1 (okName_both hn).2 ?_
 refine (H _ _ _ _ hi A s₁ _ env fs₁.ok eo fs₁.sees').then fun vi s₂ k₂ xi => ?_
 obtain ⟨t,rfl⟩ := den_int xi
 have fs₂ := fs₁.keeps k₂
 have hfit := fits_le hf
 have hlen := hvs.length
 refine setItem_plain (hp.imp fun n e => k₂.le _ _ e) h0 (by lia) (by rw [List.size_toArray,hlen]; lia) fun h' hp' hsb => ?_
 obtain ⟨fs₃,t₃⟩ := fs₂.upd (tk := s₂.toks) (ds := ds.set k.toNat d) (vs := vs.set k.toNat vv) ha hsb (by simpa using hp') ((hvs.le k₂.le).set _ (scalar_el sd xv))
 exact hQ _ _ _ fs₃ ((t₃.kpL k₂).kpL k₁) rfl
theorem aug_ops {op : Operator} (h : augOk op = true) : op ≠ .FloorDiv ∧ op ≠ .Mod ∧ op ≠ .Pow ∧ op ≠ .Mult := by
 cases op <;> first | exact ⟨by decide,by decide,by decide,by decide⟩ | (simp [augOk] at h)
theorem st_aug {ev : EV} {x : Str} {px pos : Pos} {op : Operator} {v : Expr} {a b d : D} (H : EvS prog w lv h₀ ev) (hx : isHeld (sc.names.lookup x) = true)
  (hl : σ.lookup x = some a) (hv : ev sc (view σ) v b) (sa : a.isScalar = true) (sb : b.isScalar = true) (hop : augOk op = true) (hb : binop op a b = some d) (hd : d.isEl = true) :
  StS prog w lv h₀ sc σ .next (put x d σ) (exec (.AugAssign (.Name x px) op v pos)) := fun A s B hb' env ow Is eo fs Q E hQ => by
 obtain ⟨va,hva,hda⟩ := fs.sees x a hl (scalar_own sa)
 have xa : ∀ (B' : Addr → Prop) (h' : Heap),Den prog w B' h' a va := fun B' h' => by
  rcases hda with h | h
  ·exact Den.of_el (scalar_el sa h)
  ·exact Den.of_el (scalar_el sa (Den.of_el (prog := prog) (w := w) h))
 refine wpAny_AugAssign_Name (loadHeld eo hx hva ?_)
 refine (H _ _ _ _ hv A s _ env fs.ok eo fs.sees').then fun vb s₁ k₁ xb => ?_
 refine (inplace_sound fs.amb hb sa sb (aug_ops hop) (xa _ _) xb).then fun vd s₂ k₂ xd => ?_
 exact (fs.keeps (k₁.trans k₂)).store eo hx (isEl_own hd) (.inr ((xd.el hd))) fun s' fs' t => hQ _ _ _ fs' (t.kpL (k₁.trans k₂)) rfl
theorem StS.kp {out : Out} {t : Env → Sem Flow} {s₁ : Shared} {Q : Flow → Shared → Prop} {E : Value → Shared → Prop} (h : StS prog w lv h₀ sc σ out σ' t) (k : Kp s s₁) (eo : EnvOK env sc) (fs : FS prog w lv h₀ hb B env sc A Is ow σ s)
  (hQ : ∀ fl s' ow',FS prog w lv h₀ hb B env sc A Is ow' σ' s' → Tn env sc ow s ow' s' → OutR B env sc Is s' out fl → Q fl s') : wpAny (model prog w) A (t env) Q E s₁ :=
 h A s₁ B hb env ow Is eo (fs.keeps k) Q E fun fl s' ow' f t o => hQ fl s' ow' f (t.kpL k) o
theorem st_if {ts : TS} {xs : XS} {t : Expr} {b o : List Stmt} {pos : Pos} {c : Bool} {out : Out} (HT : TsS prog w lv h₀ ts) (HX : XsS prog w lv h₀ xs) (ht : ts sc (view σ) t c) (hx : xs sc σ (if c then b else o) out σ') :
  StS prog w lv h₀ sc σ out σ' (exec (.If t b o pos)) := fun A s B hb env ow Is eo fs Q E hQ => by
 refine wpAny_If (HT _ _ _ _ ht A s _ env fs.ok eo fs.sees' _ _ fun s₁ k₁ => ?_)
 cases c with
 | true => exact (HX _ _ _ _ _ hx).kp k₁ eo fs hQ
 | false => exact (HX _ _ _ _ _ hx).kp k₁ eo fs hQ
theorem st_return {ev : EV} {e : Expr} {pos : Pos} {d : D} (H : EvS prog w lv h₀ ev) (he : ev sc (frozen σ) e d) (hd : d.isEl = true) : StS prog w lv h₀ sc σ (.ret d) σ (exec (.Return (some e) pos)) := fun A s B hb env ow Is eo fs Q E hQ => by
 obtain ⟨o',sees'⟩ := fs.frozenOk
 exact wpAny_Return_some ((H _ _ _ _ he A s _ env o' eo sees').then fun v s₁ k₁ xv => hQ _ _ _ (fs.keeps k₁) (Tn.of_kp k₁) ⟨v,rfl,xv.el hd⟩)
theorem st_try {xs : XS} {b : List Stmt} {hs : List ExceptHandler} {pos : Pos} {out out' : Out} (HX : XsS prog w lv h₀ xs) (hx : xs sc σ b out σ') (ho : (out = .next ∧ out' = .next) ∨ ∃ d,out = .ret d ∧ out' = .ret d) :
  StS prog w lv h₀ sc σ out' σ' (exec (.Try b hs [] [] pos)) := fun A s B hb env ow Is eo fs Q E hQ => by
 show wpAny _ A (do standAt pos; tryStmt false (execs b env) hs (execs [] env) [] env) Q E s
 refine wpAny_bind (wpAny_standAt ?_)
 unfold tryStmt
 simp only [List.isEmpty_nil,if_true]
 refine wpAny_bind (wpAny_attempt ?_)
 refine HX _ _ _ _ _ hx A s B hb env ow Is eo fs _ _ fun fl s' ow' f t o => ?_
 rcases ho with ⟨rfl,rfl⟩ | ⟨d,rfl,rfl⟩
 ·cases o
  exact wpAny_execs_nil (hQ _ _ _ f t rfl)
 ·obtain ⟨v,rfl,xv⟩ := o
  exact wpAny_pure (hQ _ _ _ f t ⟨v,rfl,xv⟩)
theorem given_ok {x : Str} {e : Expr} (y : FS prog w lv h₀ hb B env sc A Is ow σ s) : ∃ ow',FS prog w lv h₀ hb B env sc A Is ow' (given x e σ) s ∧ Tn env sc ow s ow' s ∧ (∀ ds,σ.lookup x = some (.own ds) → (given x e σ).lookup x = some (.own ds)) := by
 have same : ∃ ow',FS prog w lv h₀ hb B env sc A Is ow' σ s ∧ Tn env sc ow s ow' s ∧ (∀ ds,σ.lookup x = some (.own ds) → σ.lookup x = some (.own ds)) := ⟨ow,y,Tn.rfl',fun _ h => h⟩
 unfold given
 split
 ·rename_i q hq
  obtain ⟨z,p⟩ := q
  split
  ·exact same
  ·rename_i hzx
   split
   ·rename_i ds hz
    obtain ⟨f,t⟩ := y.give hz
    refine ⟨_,f,t,fun ds' h => ?_⟩
    rw [lookup_put]
    by_cases hxz : x = z
    ·subst hxz; simp at hzx
    ·rw [if_neg hxz]; exact h
   ·exact same
 ·exact same
theorem st_listCall {ev : EV} {x : Str} {px apos cpos pos : Pos} {m : Str} {id : String} {e : Expr} {ds : List D} {d : D} {σ₂ : St} (H : EvS prog w lv h₀ ev) (hx : isHeld (sc.names.lookup x) = true) (hn : okName x = true) (hline : (apos.endLine == cpos.line) = true) (hst : notStar e = true)
  (hslot : Slot "list" m id) (hty : typeOf (.builtin id) = pure (.type "method_descriptor")) (hl : σ.lookup x = some (.own ds)) (he : ev sc (view (given x e σ)) e d)
  (hcall : ∀ (A : Around) (s : Shared) (B : Addr → Prop) (hb : Heap) (env : Env) (ow : Ow) (Is : Addr → Prop) (a : Addr) (v : Value) (Q : Value → Shared → Prop) (E : Value → Shared → Prop),FS prog w lv h₀ hb B env sc A Is ow (given x e σ) s → ow x = some a →
   (given x e σ).lookup x = some (.own ds) → Den prog w (Bf B env sc ow Is) s.heap d v → (∀ s',FS prog w lv h₀ hb B env sc A Is ow σ₂ s' → Tn env sc ow s ow s' → Q .none s') → wpAny (model prog w) A (call (.builtin id) [.ref a,v]) Q E s) :
  StS prog w lv h₀ sc σ .next σ₂ (exec (.Expr (.Call (.Attribute (.Name x px) m apos) [e] [] cpos) pos)) := fun A s B hb env ow Is eo fs Q E hQ => by
 have hint : interactive env = false := by unfold interactive; rw [eo.kind]; rfl
 refine wpAny_Expr ?_ hint rfl
 have hstar : starEach [e] env = [(false,eval e env)] := by rw [star_cons hst]; rfl
 refine wpAny_Call_method_lateS rfl ?_ hline ?_
 ·rw [hstar]; rfl
 obtain ⟨ow',fs',t',hl2⟩ := given_ok (x := x) (e := e) fs
 obtain ⟨a,ha'⟩ := fs'.val x ds (hl2 ds hl)
 obtain ⟨ds',vs,hl',hva,hp,hvs⟩ := fs'.own x a ha'
 refine loadVar eo.kind hva (okName_both hn).1 (okName_both hn).2 ?_
 obtain ⟨n,hobj⟩ := hp
 refine ⟨"list",id,F.plainAttrs_list,hslot,hty,⟨_,hobj,rfl⟩,fun b hb' => by cases hb'; exact ⟨_,hobj,rfl⟩,?_⟩
 rw [hstar]
 refine Calls.callWith_builtin rfl (Calls.evalArgs_plain (Calls.spliced_cons ((H _ _ _ _ he A s _ env fs'.ok eo fs'.sees').then fun v s₁ k₁ xv => Calls.spliced_nil ?_)))
 refine hcall A s₁ B hb env ow' Is a v _ _ (fs'.keeps k₁) ha' (hl2 ds hl) xv fun s₂ fs₂ t₂ => ?_
 exact hQ _ _ _ fs₂ (Tn.to fs' t' (t₂.kpL k₁)) rfl
theorem st_append {ev : EV} {x : Str} {px apos cpos pos : Pos} {e : Expr} {ds : List D} {d : D} (H : EvS prog w lv h₀ ev) (hx : isHeld (sc.names.lookup x) = true) (hn : okName x = true) (hline : (apos.endLine == cpos.line) = true) (hst : notStar e = true)
  (hl : σ.lookup x = some (.own ds)) (he : ev sc (view (given x e σ)) e d) (hd : d.isEl = true) (hf : fits ds.length = true) :
  StS prog w lv h₀ sc σ .next (put x (.own (ds ++ [d])) (given x e σ)) (exec (.Expr (.Call (.Attribute (.Name x px) "append" apos) [e] [] cpos) pos)) := by
 refine st_listCall H hx hn hline hst F.slot_list_append F.type_list_append hl he fun A s B hb env ow Is a v Q E fs ha hl2 xv hQ => ?_
 obtain ⟨ds',vs,hl',hva,hp,hvs⟩ := fs.own x a ha
 rw [hl2] at hl'; cases hl'
 refine wpAny_list_append_plain hp (fun h' hp' hs => ?_) (by rw [List.size_toArray,hvs.length]; exact fits_line hf)
 obtain ⟨f,t⟩ := fs.upd (tk := s.toks) (ds := ds ++ [d]) (vs := vs ++ [v]) ha hs (by simpa using hp') (hvs.append (Els.cons (xv.el hd) Els.nil))
 exact hQ _ f t
theorem st_extend {ev : EV} {x : Str} {px apos cpos pos : Pos} {e : Expr} {ds es : List D} {d : D} (H : EvS prog w lv h₀ ev) (hx : isHeld (sc.names.lookup x) = true) (hn : okName x = true) (hline : (apos.endLine == cpos.line) = true) (hst : notStar e = true)
  (hl : σ.lookup x = some (.own ds)) (he : ev sc (view (given x e σ)) e d) (hd : seqOf d = some es) (hf : fits (ds.length + es.length) = true) :
  StS prog w lv h₀ sc σ .next (put x (.own (ds ++ es)) (given x e σ)) (exec (.Expr (.Call (.Attribute (.Name x px) "extend" apos) [e] [] cpos) pos)) := by
 refine st_listCall H hx hn hline hst F.slot_list_extend F.type_list_extend hl he fun A s B hb env ow Is a v Q E fs ha hl2 xv hQ => ?_
 obtain ⟨ds',vs,hl',hva,hp,hvs⟩ := fs.own x a ha
 rw [hl2] at hl'; cases hl'
 obtain ⟨b,us,rfl,p,q⟩ := seqOf_of xv hd
 refine extend_plain hp p (by rw [List.size_toArray,List.size_toArray,hvs.length,q.length]; exact fits_line hf) fun h' hp' hs => ?_
 obtain ⟨f,t⟩ := fs.upd (tk := s.toks) (ds := ds ++ es) (vs := vs ++ us) ha hs (by simpa using hp') (hvs.append q)
 exact hQ _ f t
end
section
variable {prog : Program} {w : World} {lv : Nat} {h₀ hb : Heap} {B : Addr → Prop} {A : Around} {s s' : Shared} {env : Env} {sc : Scope} {σ σ' : St} {G : GE} {Is : Addr → Prop} {ow ow' : Ow}
theorem OutR.mono {out : Out} {fl : Flow} {I : Addr} (h : OutR B env sc (fun b => Is b ∨ b = I) s out fl) : OutR B env sc Is s out fl := by
 cases out with
 | ret d =>
  obtain ⟨v,e,x⟩ := h
  refine ⟨v,e,x.mono fun b o hnb e => ⟨e,fun h => hnb ?_⟩⟩
  rcases h with h | h | ⟨z,h⟩ | h
  ·exact .inl h
  ·exact .inr (.inl h)
  ·cases h
  ·exact .inr (.inr (.inr (.inl h)))
 | _ => exact h
theorem st_while {ts : TS} {xs : XS} {t : Expr} {b o : List Stmt} {pos : Pos} {out : Out} {k : Nat} (HT : TsS prog w lv h₀ ts) (HX : XsS prog w lv h₀ xs) (h : whileGo ts xs sc t b o k σ out σ') :
  StS prog w lv h₀ sc σ out σ' (exec (.While t b o pos)) := fun A s B hb env ow Is eo fs Q E hQ => by
 refine wpAny_While (codeAny_whileLoop (fun n s₁ => ∃ σ₁ ow₁,FS prog w lv h₀ hb B env sc A Is ow₁ σ₁ s₁ ∧ Tn env sc ow s ow₁ s₁ ∧ whileGo ts xs sc t b o n σ₁ out σ') ?_ k ⟨σ,ow,fs,Tn.rfl',h⟩)
 intro n s₁ hinv
 refine gq fun Q₃ hq => ?_
 obtain ⟨σ₁,ow₁,fs₁,t₁,h₁⟩ := hinv
 cases n with
 | zero => exact h₁.elim
 | succ n =>
  obtain ⟨c,hc,h₁⟩ := h₁
  refine HT _ _ _ _ hc A s₁ _ env fs₁.ok eo fs₁.sees' _ _ fun s₂ k₂ => ?_
  refine hq _ _ ?_
  cases c with
  | false =>
   exact (HX _ _ _ _ _ h₁).kp k₂ eo fs₁ fun fl s₃ ow₃ f₃ t₃ o₃ => hQ _ _ _ f₃ (Tn.to fs₁ t₁ t₃) o₃
  | true =>
   show wpAny _ _ (execs _ _) _ _ _
   refine gq fun Q₄ hq => ?_
   obtain ⟨o₁,σ₂,hx,h₁⟩ := h₁
   refine (HX _ _ _ _ _ hx).kp k₂ eo fs₁ fun fl s₃ ow₃ f₃ t₃ o₃ => ?_
   have t := Tn.to fs₁ t₁ t₃
   cases o₁ with
   | next => cases o₃; exact hq _ _ ⟨n,Nat.lt_succ_self _,σ₂,ow₃,f₃,t,h₁⟩
   | cont => cases o₃; exact hq _ _ ⟨n,Nat.lt_succ_self _,σ₂,ow₃,f₃,t,h₁⟩
   | brk => cases o₃; exact hq _ _ (hQ _ _ _ (by rw [h₁.2]; exact f₃) t (by rw [h₁.1]; rfl))
   | ret d =>
    obtain ⟨v,rfl,xv⟩ := o₃
    exact hq _ _ (hQ _ _ _ (by rw [h₁.2]; exact f₃) t (by rw [h₁.1]; exact ⟨v,rfl,xv⟩))
theorem for_core {ev : EV} {xs : XS} {x : Str} {px pos : Pos} {iter : Expr} {b o : List Stmt} {out : Out} {ds : List D} (H : EvS prog w lv h₀ ev) (g : Gd prog w lv G h₀) (hx : isHeld (sc.names.lookup x) = true)
  (hi : iterE true ev sc (view σ) iter ds) (h : forGo xs sc x b o ds σ out σ') (A : Around) (s : Shared) (B : Addr → Prop) (hb : Heap) (env : Env) (ow : Ow) (Is : Addr → Prop) (eo : EnvOK env sc) (fs : FS prog w lv h₀ hb B env sc A Is ow σ s)
  (HX : ∀ (l : List Stmt) (σ₁ : St) (out₁ : Out) (σ₂ : St),(l = b ∨ l = o) → xs sc σ₁ l out₁ σ₂ → ∀ (s₁ : Shared) (ow₁ : Ow) (Is₁ : Addr → Prop),FS prog w lv h₀ hb B env sc A Is₁ ow₁ σ₁ s₁ → ∀ (Q : Flow → Shared → Prop) (E : Value → Shared → Prop),
   (∀ fl s' ow',FS prog w lv h₀ hb B env sc A Is₁ ow' σ₂ s' → Tn env sc ow₁ s₁ ow' s' → OutR B env sc Is₁ s' out₁ fl → Q fl s') → wpAny (model prog w) A (execs l env) Q E s₁)
  (Q : Flow → Shared → Prop) (E : Value → Shared → Prop)
  (hQ : ∀ fl s' ow',FS prog w lv h₀ hb B env sc A Is ow' σ' s' → Tn env sc ow s ow' s' → OutR B env sc Is s' out fl → Q fl s') : wpAny (model prog w) A (exec (.For (.Name x px) iter b o pos) env) Q E s := by
 have hns : notSet iter = true := hi.1
 refine wpAny_For (iter_ev H g eo fs.ok fs.sees' hi fun I fp P St s₂ X => ?_) (notSet_fold hns env)
 have fs₂ := fs.addI X.kp X.fresh (X.live _ _ X.start)
 have hIs : ¬ Is I := fun h => by obtain ⟨o',ho'⟩ := fs.isAlive I h; rw [X.fresh] at ho'; cases ho'
 refine codeAny_forLoop_any (fun n s₁ => ∃ i σ₁ ow₁,i ≤ ds.length ∧ n = ds.length + 1 - i ∧ St i s₁.heap ∧ FS prog w lv h₀ hb B env sc A (fun b => Is b ∨ b = I) ow₁ σ₁ s₁ ∧
  Ch (fun b => Loc env sc b ∨ (∃ x,ow x = some b) ∨ b = I) s₂ s₁ ∧ (∀ z a,ow₁ z = some a → (∃ y,ow y = some a) ∨ s₂.heap.get? a = none) ∧
  forGo xs sc x b o (ds.drop i) σ₁ out σ') ?_ (ds.length + 1) ⟨0,σ,ow,Nat.zero_le _,rfl,X.start,fs₂,Ch.rfl' _,fun z a h => .inl ⟨z,h⟩,h⟩
 intro n s₁ hinv
 refine gq fun Q₃ hq => ?_
 obtain ⟨i,σ₁,ow₁,hil,hn,hst,fs₁,c₁,o₁,h₁⟩ := hinv
 have fin : ∀ (ow₂ : Ow) (s₃ : Shared),Ch (fun b => Loc env sc b ∨ (∃ x,ow x = some b) ∨ b = I) s₂ s₃ → (∀ z a,ow₂ z = some a → (∃ y,ow y = some a) ∨ s₂.heap.get? a = none) → Tn env sc ow s ow₂ s₃ := fun ow₂ s₃ c o => by
  refine ⟨((Ch.of_kp X.kp).trans c).mono fun b ob hb' e => ?_,fun z a hz => ?_⟩
  ·rcases hb' with h | h | h
   ·exact .inl h
   ·exact .inr h
   ·subst h; rw [X.fresh] at e; cases e
  ·rcases o z a hz with h | h
   ·exact .inl h
   ·refine .inr ?_
    cases e : s.heap.get? a with
    | none => rfl
    | some ob => rw [X.kp.le _ _ e] at h; cases h
 have more : ∀ (owa owb : Ow) (sa sb : Shared),(∀ b,Loc env sc b ∨ b = I → ∃ ob,sa.heap.get? b = some ob) → Ch (fun b => Loc env sc b ∨ (∃ x,ow x = some b) ∨ b = I) s₂ sa → (∀ z a,owa z = some a → (∃ y,ow y = some a) ∨ s₂.heap.get? a = none) → Tn env sc owa sa owb sb →
   Ch (fun b => Loc env sc b ∨ (∃ x,ow x = some b) ∨ b = I) s₂ sb ∧ ∀ z a,owb z = some a → (∃ y,ow y = some a) ∨ s₂.heap.get? a = none := fun owa owb sa sb hl ca oa t => by
  obtain ⟨⟨h2,t2,rfl,k2⟩,ob⟩ := t
  obtain ⟨h1,t1,rfl,k1⟩ := ca
  refine ⟨⟨h2,t2,rfl,fun b ob' hb' e => k2 b ob' (fun h => ?_) (k1 b ob' hb' e)⟩,fun z a hz => ?_⟩
  ·rcases h with h | ⟨z,h⟩
   ·exact hb' (.inl h)
   ·rcases oa z b h with h | h
    ·exact hb' (.inr (.inl h))
    ·rw [h] at e; cases e
  ·rcases ob z a hz with ⟨u,h⟩ | h
   ·exact oa u a h
   ·by_cases hw : Loc env sc a ∨ (∃ x,ow x = some a) ∨ a = I
    ·have dead : (Loc env sc a ∨ a = I) → False := fun h' => by
      obtain ⟨o',ho'⟩ := hl a h'
      have h'' : h1.get? a = none := h
      have ho'' : h1.get? a = some o' := ho'
      rw [h''] at ho''; cases ho''
     rcases hw with hw | hw | hw
     ·exact (dead (.inl hw)).elim
     ·exact .inl hw
     ·exact (dead (.inr hw)).elim
    ·cases e : s₂.heap.get? a with
     | none => exact .inr rfl
     | some o' => rw [k1 a o' hw e] at h; cases h
 by_cases hlt : i < ds.length
 ·refine X.walks.item i _ _ _ hlt hst fun v h₂ tk₂ hP hst₂ hk₂ => ?_
  have c₂ : Ch (fun b => b = I) s₁ { s₁ with heap := h₂,toks := tk₂ } := ⟨h₂,tk₂,rfl,fun b o' hb' e => hk₂ b o' (by simpa using hb') e⟩
  have fs₃ := fs₁.step (c₂.mono fun b _ hb' _ => .inr hb') fun b hb' => by
   rcases Classical.em (b = I) with hbI | hbI
   ·subst hbI; exact X.live _ _ hst₂
   ·obtain ⟨o',ho'⟩ := fs₁.isAlive b hb'; exact ⟨o',c₂.get hbI ho'⟩
  have c02 : Ch (fun b => Loc env sc b ∨ (∃ x,ow x = some b) ∨ b = I) s₂ { s₁ with heap := h₂,toks := tk₂ } := c₁.trans (c₂.mono fun b _ hb' _ => .inr (.inr hb'))
  obtain ⟨d,hd,hel⟩ := X.items i v hlt hP
  have notOw : ∀ b ob,s₂.heap.get? b = some ob → ¬ Bf B env sc ow Is b → b ≠ I → ¬ Bf B env sc ow₁ (fun b => Is b ∨ b = I) b := fun b ob e hnb hbI h => by
   rcases h with h | h | ⟨z,h⟩ | h | h
   ·exact hnb (.inl h)
   ·exact hnb (.inr (.inl h))
   ·rcases o₁ z b h with h | h
    ·exact hnb (.inr (.inr (.inl h)))
    ·rw [h] at e; cases e
   ·exact hnb (.inr (.inr (.inr h)))
   ·exact hbI h
  have hel₂ : El (Bf B env sc ow₁ (fun b => Is b ∨ b = I)) h₂ d v := hel.mono fun b ob hnb e =>
   ⟨c02.get (fun h => hnb (by
    rcases h with h | h | h
    ·exact .inl (.inr (.inl h))
    ·exact .inl (.inr (.inr (.inl h)))
    ·exact .inr h)) e,notOw b ob e (fun h => hnb (.inl h)) fun h => hnb (.inr h)⟩
  have hdrop : ds.drop i = d :: ds.drop (i + 1) := by
   rw [List.drop_eq_getElem_cons hlt]
   rw [List.getElem?_eq_getElem hlt] at hd
   rw [Option.some.inj hd]
  rw [hdrop] at h₁
  obtain ⟨o₂,σ₂,hxs,h₁⟩ := h₁
  have hno : ∀ es,d ≠ .own es := fun es h => by subst h; exact hel
  refine hq _ _ (wpAny_of_eq (rfl : letOwnedTupleGo (.Name x px) (.ref I) v = pure ()) ?_)
  show wpAny _ _ (assign _ _ _) _ _ _
  refine gq fun Q₄ hq => ?_
  refine fs₃.assign eo hx hno (.inr hel₂) fun s₄ fs₄ t₄ => ?_
  refine hq _ _ ?_
  refine gq fun Q₅ hq => ?_
  refine HX _ _ _ _ (.inl rfl) hxs s₄ _ _ fs₄ _ _ fun fl s₅ ow₅ fs₅ t₅ o₅ => ?_
  have live3 : ∀ b,Loc env sc b ∨ b = I → ∃ ob,({ s₁ with heap := h₂,toks := tk₂ } : Shared).heap.get? b = some ob := fun b h => by
   rcases h with h | h
   ·exact fs₃.frm.loc_alive h
   ·subst h; exact X.live _ _ hst₂
  obtain ⟨c5,o5⟩ := more _ _ _ _ live3 c02 o₁ (Tn.to fs₄ t₄ t₅)
  have stay : St (i + 1) s₅.heap := by
   refine X.walks.frame _ _ _ hst₂ fun b hb' ob e => (Tn.to fs₄ t₄ t₅).1.get ?_ e
   rcases X.foot b hb' with rfl | ⟨⟨o',ho'⟩,hbI,hnb⟩
   ·intro h
    rcases h with h | ⟨z,h⟩
    ·exact fs₃.isPl _ (.inr rfl) (Pl.of_loc h)
    ·exact fs₃.owIs z _ h (.inr rfl)
   ·intro h
    refine notOw b o' ho' (hnb rfl) hbI ?_
    rcases h with h | h
    ·exact .inr (.inl h)
    ·exact .inr (.inr (.inl h))
  cases o₂ with
  | next => cases o₅; exact hq _ _ ⟨ds.length + 1 - (i + 1),by lia,i + 1,σ₂,ow₅,hlt,rfl,stay,fs₅,c5,o5,h₁⟩
  | cont => cases o₅; exact hq _ _ ⟨ds.length + 1 - (i + 1),by lia,i + 1,σ₂,ow₅,hlt,rfl,stay,fs₅,c5,o5,h₁⟩
  | brk => cases o₅; exact hq _ _ (hQ _ _ _ (by rw [h₁.2]; exact fs₅.endI hIs (Ch.rfl' _)) (fin _ _ c5 o5) (by rw [h₁.1]; rfl))
  | ret d' =>
   obtain ⟨v',rfl,xv⟩ := o₅
   exact hq _ _ (hQ _ _ _ (by rw [h₁.2]; exact fs₅.endI hIs (Ch.rfl' _)) (fin _ _ c5 o5) (by rw [h₁.1]; exact OutR.mono (out := .ret d') ⟨v',rfl,xv⟩))
 ·have hil' : i = ds.length := by lia
  subst hil'
  refine X.walks.done _ _ _ hst fun h₂ tk₂ hk₂ => ?_
  rw [List.drop_length] at h₁
  have c₂ : Ch (fun b => b = I) s₁ { s₁ with heap := h₂,toks := tk₂ } := ⟨h₂,tk₂,rfl,fun b o' hb' e => hk₂ b o' (by simpa using hb') e⟩
  have fs₃ := fs₁.endI hIs c₂
  have c02 : Ch (fun b => Loc env sc b ∨ (∃ x,ow x = some b) ∨ b = I) s₂ { s₁ with heap := h₂,toks := tk₂ } := c₁.trans (c₂.mono fun b _ hb' _ => .inr (.inr hb'))
  refine hq _ _ ?_
  refine HX _ _ _ _ (.inr rfl) h₁ _ _ _ fs₃ _ _ fun fl s₄ ow₄ fs₄ t₄ o₄ => ?_
  exact hQ _ _ _ fs₄ (Tn.to fs₃ (fin _ _ c02 o₁) t₄) o₄
theorem st_for {ev : EV} {xs : XS} {x : Str} {px pos : Pos} {iter : Expr} {b o : List Stmt} {out : Out} {ds : List D} (H : EvS prog w lv h₀ ev) (HX : XsS prog w lv h₀ xs) (g : Gd prog w lv G h₀) (hx : isHeld (sc.names.lookup x) = true)
  (hi : iterE true ev sc (view σ) iter ds) (h : forGo xs sc x b o ds σ out σ') : StS prog w lv h₀ sc σ out σ' (exec (.For (.Name x px) iter b o pos)) := fun A s B hb env ow Is eo fs Q E hQ =>
 for_core H g hx hi h A s B hb env ow Is eo fs (fun l σ₁ out₁ σ₂ _ hx s₁ ow₁ Is₁ fs₁ Q E hQ => HX _ _ _ _ _ hx A s₁ B hb env ow₁ Is₁ eo fs₁ Q E hQ) Q E hQ
end
theorem bindL_not {kindOf : Str → Option NameKind} {x : Str} : ∀ {binds : List (Str × Value)} {m : Str → Option Value},(∀ v,(x,v) ∉ binds) → bindL kindOf binds m x = m x
 | [],m,_ => rfl
 | (n,v) :: r,m,h => by
  have hn : x ≠ n := fun e => h v (by rw [e]; exact List.mem_cons_self)
  have hr : ∀ v,(x,v) ∉ r := fun v hm => h v (List.mem_cons_of_mem _ hm)
  unfold bindL
  rw [bindL_not hr]
  split
  ·simp [hn]
  ·rfl
theorem bindC_not {kindOf : Str → Option NameKind} {x : Str} : ∀ {binds : List (Str × Value)} {m : Str → Option Value},(∀ v,(x,v) ∉ binds) → bindC kindOf binds m x = m x
 | [],m,_ => rfl
 | (n,v) :: r,m,h => by
  have hn : x ≠ n := fun e => h v (by rw [e]; exact List.mem_cons_self)
  have hr : ∀ v,(x,v) ∉ r := fun v hm => h v (List.mem_cons_of_mem _ hm)
  unfold bindC
  rw [bindC_not hr]
  split
  ·rfl
  ·simp [hn]
theorem zip_not {x : Str} : ∀ {ps : List Str} {vs : List Value},x ∉ ps → ∀ v,(x,v) ∉ ps.zip vs := fun h v hm => h (List.of_mem_zip hm).1
theorem bind_local {kindOf : Str → Option NameKind} {x : Str} {v : Value} (hk : kindOf x = some .local) : ∀ {ps : List Str} {vs : List Value} {m : Str → Option Value},ps.Nodup → (ps.zip vs).lookup x = some v → bindL kindOf (ps.zip vs) m x = some v
 | [],_,_,_,h => by cases h
 | _ :: _,[],_,_,h => by cases h
 | p :: ps,u :: vs,m,hn,h => by
  rw [List.nodup_cons] at hn
  rw [List.zip_cons_cons,List.lookup_cons] at h
  rw [List.zip_cons_cons]
  unfold bindL
  by_cases hx : (x == p) = true
  ·rw [hx] at h
   have hxp := eq_of_beq hx
   subst hxp
   cases h
   rw [bindL_not (zip_not hn.1),if_pos hk]
   simp
  ·have hx' : (x == p) = false := by simpa using hx
   rw [hx'] at h
   exact bind_local hk hn.2 h
theorem bind_cell {kindOf : Str → Option NameKind} {x : Str} {v : Value} (hk : kindOf x ≠ some .local) : ∀ {ps : List Str} {vs : List Value} {m : Str → Option Value},ps.Nodup → (ps.zip vs).lookup x = some v → bindC kindOf (ps.zip vs) m x = some v
 | [],_,_,_,h => by cases h
 | _ :: _,[],_,_,h => by cases h
 | p :: ps,u :: vs,m,hn,h => by
  rw [List.nodup_cons] at hn
  rw [List.zip_cons_cons,List.lookup_cons] at h
  rw [List.zip_cons_cons]
  unfold bindC
  by_cases hx : (x == p) = true
  ·rw [hx] at h
   have hxp := eq_of_beq hx
   subst hxp
   cases h
   rw [bindC_not (zip_not hn.1),if_neg hk]
   simp
  ·have hx' : (x == p) = false := by simpa using hx
   rw [hx'] at h
   exact bind_cell hk hn.2 h
section
variable {prog : Program} {w : World} {lv : Nat} {h₀ : Heap} {B : Addr → Prop} {A : Around} {s s' : Shared} {G : GE}
theorem zip_den {h : Heap} {x : Str} {d : D} : ∀ {ps : List Str} {ds : List D} {vs : List Value},Dens prog w B h ds vs → (ps.zip ds).lookup x = some d → ∃ v,(ps.zip vs).lookup x = some v ∧ Den prog w B h d v ∧ x ∈ ps
 | [],_,_,_,h => by cases h
 | _ :: _,[],_,_,h => by cases h
 | p :: ps,e :: ds,_,xs,h => by
  obtain ⟨v,r,rfl,hv,hr⟩ := xs
  rw [List.zip_cons_cons,List.lookup_cons] at h
  rw [List.zip_cons_cons,List.lookup_cons]
  by_cases hx : (x == p) = true
  ·rw [hx] at h ⊢
   cases h
   exact ⟨v,rfl,hv,by rw [eq_of_beq hx]; exact List.mem_cons_self⟩
  ·have hx' : (x == p) = false := by simpa using hx
   rw [hx'] at h ⊢
   obtain ⟨u,h1,h2,h3⟩ := zip_den hr h
   exact ⟨u,h1,h2,List.mem_cons_of_mem _ h3⟩
noncomputable def defOk (ps : List Str) (scope : Scope) : Bool :=
 scope.kind == .function && !scope.isCoroutine && !scope.isGenerator && decide ps.Nodup && ps.all (fun x => isHeld (scope.names.lookup x)) && scope.names.all (fun p => p.2 != .free)
theorem lookup_free {scope : Scope} (h : scope.names.all (fun p => p.2 != .free) = true) (x : Str) : scope.names.lookup x ≠ some .free := fun e => by
 have := List.all_eq_true.mp h _ (mem_of_lookup e)
 simp at this
theorem cells_at {scope : Scope} {L : Addr} {x : Str} (hx : scope.names.lookup x = some .cell) : ∃ c,(cellsFrom (L + 1) scope.names []).lookup x = some c := by
 obtain ⟨c,hc⟩ := cellsFrom_has scope.names (L + 1) x (mem_of_lookup hx)
 cases hl : (cellsFrom (L + 1) scope.names []).lookup x with
 | none => exact absurd hc (lookup_mem_iff.mp hl c)
 | some c' => exact ⟨c',rfl⟩
theorem FS.begin {scope : Scope} {ps : List Str} {env : Env} {vs : List Value} {ds : List D} {s₁ : Shared} (hd : defOk ps scope = true) (o : Ok lv h₀ B A s) (xs : Dens prog w B s.heap ds vs)
  (e1 : env.scope = scope) (e2 : env.locals = s.heap.objs.size) (e3 : env.cells = cellsFrom (s.heap.objs.size + 1) scope.names []) (e4 : env.globals = mainGlobals) (e5 : env.builtins = builtinsNs)
  (X : InCallC s env.locals (bindL env.kindOf (ps.zip vs) fun _ => none) env.cells (bindC env.kindOf (ps.zip vs) fun _ => none) s₁) {A' : Around} (hA : Amb lv A') :
  EnvOK env scope ∧ FS prog w lv h₀ s.heap B env scope A' (fun _ => False) (fun _ => none) (ps.zip ds) s₁ := by
 unfold defOk at hd
 simp only [Bool.and_eq_true] at hd
 obtain ⟨⟨⟨⟨⟨hk,hco⟩,hgen⟩,hnd⟩,hheld⟩,hfree⟩ := hd
 have hnd' : ps.Nodup := of_decide_eq_true hnd
 have hk' : scope.kind = .function := eq_of_beq hk
 have dead : ∀ b,s.heap.objs.size ≤ b → s.heap.get? b = none := fun b hb => by
  cases e : s.heap.get? b with
  | none => rfl
  | some o' => exact absurd (Heap.lt_size e) (Nat.not_lt.mpr hb)
 have kO : ∀ x,env.kindOf x = scope.names.lookup x := fun x => by rw [← e1]; rfl
 have cAt : ∀ x,scope.names.lookup x = some .cell → ∃ c,env.cells.lookup x = some c := fun x hx => by rw [e3]; exact cells_at hx
 have eo : EnvOK env scope := ⟨by rw [e1]; exact hk',e4,e5,fun x => .inl (kO x),fun x hx => by
  rcases hx with hx | hx
  ·exact cAt x hx
  ·exact absurd hx (lookup_free hfree x)⟩
 have abv : ∀ x c,env.cells.lookup x = some c → env.locals < c := fun x c h => X.above x c (mem_of_lookup h)
 have wr : ∀ b,Wr env scope (fun _ => none) (fun _ => False) b → s.heap.get? b = none := fun b h => by
  rcases h with (h | ⟨x,hx,hc⟩) | ⟨x,h⟩ | h
  ·rw [h,e2]; exact dead _ (Nat.le_refl _)
  ·have := abv x b hc
   rw [e2] at this
   exact dead b (Nat.le_of_lt this)
  ·cases h
  ·exact h.elim
 refine ⟨eo,hA,o.le,X.toInCall.keep,o.alive,o.off,⟨⟨_,X.toInCall.ns⟩,fun x hx => ?_,fun x c hx hc => Nat.ne_of_gt (abv x c hc),fun x y c hx hc hy => name_of_addr X.apart (mem_of_lookup hy) (mem_of_lookup hc)⟩,wr,fun _ h => h.elim,fun x c hc => ?_,fun x a h => (by cases h),fun x es h => ?_,fun x d h hno => ?_,fun x y a h => (by cases h),fun x a h => (by cases h),fun x a h => (by cases h),fun _ h => h.elim⟩
 ·obtain ⟨c,hc⟩ := cAt x hx
  exact ⟨c,_,hc,X.cell x c hc⟩
 ·obtain ⟨o',ho',_⟩ := X.cell x c hc; exact ⟨o',ho'⟩
 ·obtain ⟨v,_,hv,_⟩ := zip_den xs h
  exact hv.elim
 ·obtain ⟨v,hv,hdv,hm⟩ := zip_den xs h
  refine ⟨v,?_,.inl hdv⟩
  have hh := List.all_eq_true.mp hheld x hm
  unfold isHeld at hh
  rw [Bool.or_eq_true,beq_iff_eq,beq_iff_eq] at hh
  rcases hh with hh | hh
  ·have hkx : env.kindOf x = some .local := by rw [kO,hh]
   exact .inl ⟨hkx,_,X.toInCall.ns,bind_local hkx hnd' hv⟩
  ·have hkx : env.kindOf x = some .cell := by rw [kO,hh]
   obtain ⟨c,hc⟩ := cAt x hh
   refine .inr ⟨.inl hkx,c,hc,?_⟩
   have := X.cell x c hc
   rw [bind_cell (by rw [hkx]; decide) hnd' hv] at this
   exact this
theorem Con.up {lv' : Nat} {a : Addr} {F : List D → Option D} (h : Con prog w lv h₀ a F) (hl : lv ≤ lv') : Con prog w lv' h₀ a F := fun A s B vs ds d o xs e =>
 h A s B vs ds d ⟨⟨o.amb.1,by have := o.amb.2.1; lia,by have := o.amb.2.2; lia⟩,o.le,o.alive,o.off⟩ xs e
structure DefAt (h₀ : Heap) (a : Addr) (fd : FuncData) (body : List Stmt) (scope : Scope) : Prop where
 ob : ∃ o,h₀.get? a = some o ∧ o.data = .func fd
 crec : h₀.CodeRec fd.code fd.qualname
 body : fd.body = .stmts body
 scope : fd.scope = scope
 closure : fd.closure = []
 glob : fd.globals = mainGlobals
 blt : fd.builtins = builtinsNs
theorem def_callT {a : Addr} {fd : FuncData} {body : List Stmt} {scope : Scope} {ps : List Str} {vs vs' : List Value} {ds : List D} {E : Value → Shared → Prop} (hat : DefAt h₀ a fd body scope) (hlim : h₀.NoLimit) (hd : defOk ps scope = true)
  (hbind : BindsTo s fd ⟨vs',[]⟩ (ps.zip vs)) (o : Ok (lv + 1) h₀ B A s) (xs : Dens prog w B s.heap ds vs) {Q : Value → Shared → Prop}
  (h : ∀ A' env s₁,Amb lv A' → EnvOK env scope → Le s.heap s₁.heap → FS prog w lv h₀ s.heap B env scope A' (fun _ => False) (fun _ => none) (ps.zip ds) s₁ → (∀ x v,(ps.zip vs).lookup x = some v → x ∈ ps → VarAt env s₁.heap x v) → (∃ h' tk,s₁ = { s with heap := h',toks := tk }) → A' = A.deeper env ∧ env.frame = some env.locals ∧ env.locals = s.heap.objs.size ∧ env.cells = cellsFrom (s.heap.objs.size + 1) scope.names [] → s.toks ≤ s₁.toks →
   wpAny (model prog w) A' (execs body env) (fun fl s' => Q (match fl with | .ret v => v | _ => .none) s') (fun e s' => wpAny (model prog w) A' (leaving env e) (fun _ s'' => E e s'') (fun e' s'' => E e' s'') s') s₁) :
  wpAny (model prog w) A (call (.ref a) vs') Q E s := by
 obtain ⟨ob,ho,hdat⟩ := hat.ob
 have hd' := hd
 unfold defOk at hd'
 simp only [Bool.and_eq_true] at hd'
 obtain ⟨⟨⟨⟨⟨hk,hco⟩,hgen⟩,hnd⟩,hheld⟩,hfree⟩ := hd'
 have o' : Ok lv h₀ B A s := ⟨⟨o.amb.1,by have := o.amb.2.1; lia,by have := o.amb.2.2; lia⟩,o.le,o.alive,o.off⟩
 have hsc := hat.scope
 refine wpAny_call ?_
 refine codeAny_call_function (by have := o.amb.2.1; lia) (o.le _ _ ho) hdat (by rw [hsc]; simpa using hco) (by rw [hsc]; simpa using hgen) hat.body (hat.crec.keeps o.le) (hbind _ _ _ _ ?_)
 rw [hat.closure]
 refine wpAny_with_toks (n := s.toks) (Nat.le_refl _) (wpAny_newFunctionEnv_cells (by rw [hsc]; exact eq_of_beq hk) (fun x hx => ?_) fun env' he s' X htk => ?_)
 ·rw [hsc]
  have hm := (List.of_mem_zip (a := x.1) (b := x.2) hx).1
  have hh := List.all_eq_true.mp hheld x.1 hm
  unfold isHeld at hh
  rw [Bool.or_eq_true,beq_iff_eq,beq_iff_eq] at hh
  rcases hh with hh | hh
  ·exact .inl hh
  ·obtain ⟨c,hc⟩ := cells_at (L := s.heap.objs.size) hh
   exact .inr ⟨hh,by rw [hc]; rfl⟩
 ·have hA : Amb lv (A.deeper env') := by
   refine ⟨o.amb.1,?_,?_⟩
   ·have := o.amb.2.1
    show A.depth + 1 + lv < recursionLimit
    lia
   ·have := o.amb.2.2
    show A.units + 3 + 8 * lv + 100 < cLine
    lia
  subst he
  obtain ⟨eo,fs⟩ := FS.begin (s₁ := s') hd o' xs (by exact hsc) rfl (by rw [← hsc]; rfl) hat.glob hat.blt X hA
  refine ⟨(hlim.keeps o.le).keeps X.toInCall.keep,codeAny_func ?_⟩
  refine h _ _ s' hA eo X.toInCall.keep fs (fun x v hv hm => ?_) X.toInCall.same ⟨rfl,rfl,rfl,by rw [← hsc]; rfl⟩ htk
  have hh := List.all_eq_true.mp hheld x hm
  unfold isHeld at hh
  rw [Bool.or_eq_true,beq_iff_eq,beq_iff_eq] at hh
  rcases hh with hh | hh
  ·have hkx := held_local eo hh
   exact .inl ⟨hkx,_,X.toInCall.ns,bind_local hkx (of_decide_eq_true hnd) hv⟩
  ·have hkx := held_cell eo hh
   obtain ⟨c,hc⟩ := eo.cells x (.inl hh)
   refine .inr ⟨.inl hkx,c,hc,?_⟩
   have := X.cell x c hc
   rw [bind_cell (by rw [hkx]; decide) (of_decide_eq_true hnd) hv] at this
   exact this
theorem def_call {a : Addr} {fd : FuncData} {body : List Stmt} {scope : Scope} {ps : List Str} {vs vs' : List Value} {ds : List D} {E : Value → Shared → Prop} (hat : DefAt h₀ a fd body scope) (hlim : h₀.NoLimit) (hd : defOk ps scope = true)
  (hbind : BindsTo s fd ⟨vs',[]⟩ (ps.zip vs)) (o : Ok (lv + 1) h₀ B A s) (xs : Dens prog w B s.heap ds vs) {Q : Value → Shared → Prop}
  (h : ∀ A' env s₁,Amb lv A' → EnvOK env scope → Le s.heap s₁.heap → FS prog w lv h₀ s.heap B env scope A' (fun _ => False) (fun _ => none) (ps.zip ds) s₁ → (∀ x v,(ps.zip vs).lookup x = some v → x ∈ ps → VarAt env s₁.heap x v) → (∃ h' tk,s₁ = { s with heap := h',toks := tk }) → A' = A.deeper env ∧ env.frame = some env.locals ∧ env.locals = s.heap.objs.size ∧ env.cells = cellsFrom (s.heap.objs.size + 1) scope.names [] →
   wpAny (model prog w) A' (execs body env) (fun fl s' => Q (match fl with | .ret v => v | _ => .none) s') (fun e s' => wpAny (model prog w) A' (leaving env e) (fun _ s'' => E e s'') (fun e' s'' => E e' s'') s') s₁) :
  wpAny (model prog w) A (call (.ref a) vs') Q E s :=
 def_callT hat hlim hd hbind o xs fun A' env s₁ a1 a2 a3 a4 a5 a6 a7 _ => h A' env s₁ a1 a2 a3 a4 a5 a6 a7
theorem leave_kp {env : Env} {scope : Scope} {A' : Around} {σ : St} {s₁ : Shared} {ow' : Ow} (hle : ∃ h' tk,s₁ = { s with heap := h',toks := tk }) (hk : Le s.heap s₁.heap) (fs : FS prog w lv h₀ s.heap B env scope A' (fun _ => False) (fun _ => none) σ s₁)
  (t : Tn env scope (fun _ => none) s₁ ow' s') : Kp s s' := by
 obtain ⟨h2,t2,rfl,k2⟩ := t.1
 obtain ⟨h1,t1,rfl⟩ := hle
 refine ⟨h2,t2,rfl,fun b ob e => k2 b ob (fun h => ?_) (hk b ob e)⟩
 rcases h with h | ⟨z,h⟩
 ·exact fs.baseOff e (.inl h)
 ·cases h
theorem out_el {env : Env} {scope : Scope} {d : D} {v : Value} (xv : El (Bf B env scope (fun _ => none) (fun _ => False)) s.heap d v) : El B s.heap d v := xv.mono fun b ob hnb e => ⟨e,fun hB => hnb (.inl hB)⟩
end
section
variable {prog : Program} {w : World} {lv : Nat} {h₀ hb : Heap} {B : Addr → Prop} {A : Around} {s s' : Shared} {env : Env} {sc : Scope} {σ σ' : St} {G : GE} {Is : Addr → Prop} {ow ow' : Ow}
theorem NoneBooked.le {h h' : Heap} (x : NoneBooked h) (k : Le h h') : NoneBooked h' := let ⟨mc,hn,e⟩ := x; ⟨mc,hn.keepsP k,e⟩
theorem is_str {x y : Str} {t u : Tok} {Q : Value → Shared → Prop} {E : Value → Shared → Prop} (ht : t ≠ 0) (hu : u ≠ 0) (hne : t ≠ u) (hb : NoneBooked s.heap) (hQ : ∀ b,(b = true → x = y) → Q (.bool b) s) :
  wpAny (model prog w) A (compareOp .Is (.str x t) (.str y u)) Q E s := by
 show wpAny _ _ (do return .bool (← isSame (.str x t) (.str y u))) Q E s
 have h0 : (t == 0 || u == 0) = false := by simp [ht,hu]
 have h1 : (t == u) = false := by simp [hne]
 cases hxy : (x == y)
 ·refine wpAny_bind ?_
  rw [isSame_str_other x y t u h0 h1 hxy]
  exact wpAny_pure (wpAny_pure (hQ false fun h => by cases h))
 ·exact wpAny_bind (wpAny_isSame_str h0 hb fun b => wpAny_pure (hQ b fun _ => eq_of_beq hxy))
theorem FS.sub (x : FS prog w lv h₀ hb B env sc A Is (fun _ => none) σ' s) (h : ∀ y d,σ.lookup y = some d → σ'.lookup y = some d) (hno : ∀ y ds,σ.lookup y ≠ some (.own ds)) : FS prog w lv h₀ hb B env sc A Is (fun _ => none) σ s :=
 ⟨x.amb,x.le₀,x.le,x.alive,x.off,x.frm,x.new,x.isAlive,x.cells,fun y a ha => (by cases ha),fun y ds e => absurd e (hno y ds),fun y d e hn => x.sees y d (h y d e) hn,x.inj,x.owPl,x.owIs,x.isPl⟩
theorem off_none {x : Str} : offW x (fun _ => none) = (fun _ => none : Ow) := by
 funext y; unfold offW; split <;> rfl
theorem strNext {I : Addr} {x : Str} {t : Tok} {i c : Nat} {Q : Option Value → Shared → Prop} {E : Value → Shared → Prop} (hit : s.heap.IsStrIter I (strIterType x) x t i) (hx : x.cps[i]? = some c)
  (hQ : ∀ h',h'.IsStrIter I (strIterType x) x t (i + 1) → Heap.SameBut I s.heap h' → Q (some (.str ⟨#[c]⟩ s.toks)) { s with heap := h',toks := s.toks + 1 }) : wpAny (model prog w) A (pyNext (.ref I)) Q E s := by
 unfold strIterType at hit hQ
 split at hit
 ·rename_i h; simp only [h,if_true] at hQ; exact wpAny_pyNext_ascii_item hit hx hQ
 ·rename_i h; simp only [h,if_false] at hQ; exact wpAny_pyNext_wide_item hit hx (by simpa using hQ)
theorem strEnd {I : Addr} {x : Str} {t : Tok} {i : Nat} {Q : Option Value → Shared → Prop} {E : Value → Shared → Prop} (hh : A.handled = none) (hit : s.heap.IsStrIter I (strIterType x) x t i) (hx : x.cps[i]? = none)
  (hQ : ∀ h',Heap.ExtBut I s.heap h' → Q none { s with heap := h' }) : wpAny (model prog w) A (pyNext (.ref I)) Q E s := by
 unfold strIterType at hit
 split at hit
 ·exact wpAny_pyNext_ascii_end hh hit hx hQ
 ·exact wpAny_pyNext_wide_end hh hit hx hQ
theorem for_str {x : Str} {px pos : Pos} {iter : Expr} {b : List Stmt} {l : List Nat} {τ : Nat → St} {K : Nat} {Q : Flow → Shared → Prop} {E : Value → Shared → Prop} {ev : EV} (H : EvS prog w lv h₀ ev) (hx : isHeld (sc.names.lookup x) = true) (hns : notSet iter = true) (eo : EnvOK env sc)
  (fs : FS prog w lv h₀ hb B env sc A Is (fun _ => none) (τ 0) s) (hi : ev sc (view (τ 0)) iter (.str l)) (hK : K ≤ s.toks)
  (hno : ∀ i y ds,(τ i).lookup y ≠ some (.own ds))
  (body : ∀ i c u s₁ (E' : Value → Shared → Prop),l[i]? = some c → K ≤ u → u + 1 ≤ s₁.toks → ∀ Is',FS prog w lv h₀ hb B env sc A Is' (fun _ => none) (put x (.sig [c] u) (τ i)) s₁ →
   wpAny (model prog w) A (execs b env) (fun fl s₂ => fl = .next ∧ ∃ σ',FS prog w lv h₀ hb B env sc A Is' (fun _ => none) σ' s₂ ∧ Tn env sc (fun _ => none) s₁ (fun _ => none) s₂ ∧ ∀ y d,(τ (i + 1)).lookup y = some d → σ'.lookup y = some d) E' s₁)
  (hQ : ∀ s',FS prog w lv h₀ hb B env sc A Is (fun _ => none) (τ l.length) s' → Tn env sc (fun _ => none) s (fun _ => none) s' → K ≤ s'.toks → Q .next s') :
  wpAny (model prog w) A (exec (.For (.Name x px) iter b [] pos) env) Q E s := by
 refine wpAny_For ?_ (notSet_fold hns env)
 refine wpAny_with_toks (n := K) hK ((H _ _ _ _ hi A s _ env fs.ok eo fs.sees').then fun v s₁ k₁ xv => ?_)
 intro hK₁
 obtain ⟨t,rfl⟩ := den_str xv
 refine wpAny_pyIter_strU ?_
 generalize hI : s₁.heap.objs.size = I
 have k₂ : Kp s { s₁ with heap := s₁.heap.push { cls := .type (strIterType ⟨l.toArray⟩),data := .fields #[.str ⟨l.toArray⟩ t,.int 0 0] } } := k₁.trans (Kp.heap (t := s₁.toks) (Le.push _ _))
 have hfr : s.heap.get? I = none := hI ▸ fresh_at k₁
 have hit0 : (s₁.heap.push { cls := .type (strIterType ⟨l.toArray⟩),data := .fields #[.str ⟨l.toArray⟩ t,.int 0 0] }).IsStrIter I (strIterType ⟨l.toArray⟩) ⟨l.toArray⟩ t 0 := ⟨_,hI ▸ Heap.get?_push_size _ rfl,rfl,rfl⟩
 have live : ∀ h i,Heap.IsStrIter h I (strIterType ⟨l.toArray⟩) ⟨l.toArray⟩ t i → ∃ o,h.get? I = some o := fun h i x => let ⟨o,e,_⟩ := x; ⟨o,e⟩
 have fs₂ := fs.addI k₂ hfr (live _ _ hit0)
 have hIs : ¬ Is I := fun h => by obtain ⟨o',ho'⟩ := fs.isAlive I h; rw [hfr] at ho'; cases ho'
 refine codeAny_forLoop_any (fun n s' => ∃ i,i ≤ l.length ∧ n = l.length + 1 - i ∧ s'.heap.IsStrIter I (strIterType ⟨l.toArray⟩) ⟨l.toArray⟩ t i ∧ K ≤ s'.toks ∧ FS prog w lv h₀ hb B env sc A (fun b => Is b ∨ b = I) (fun _ => none) (τ i) s' ∧
  Tn env sc (fun _ => none) s (fun _ => none) s') ?_ (l.length + 1) ⟨0,Nat.zero_le _,rfl,hit0,hK₁,fs₂,Tn.of_kp k₂⟩
 rintro n s₃ ⟨i,hil,rfl,hit,hK₃,fs₃,t₃⟩
 have tnI : ∀ s₄ : Shared,Ch (fun b => b = I) s₃ s₄ → Tn env sc (fun _ => none) s (fun _ => none) s₄ := fun s₄ c => by
  obtain ⟨⟨h1,t1,rfl,k1⟩,_⟩ := t₃
  obtain ⟨h2,t2,rfl,k2⟩ := c
  exact ⟨⟨h2,t2,rfl,fun b o hb' e => k2 b o (fun h => by subst h; rw [hfr] at e; cases e) (k1 b o hb' e)⟩,fun z a h => by cases h⟩
 by_cases hlt : i < l.length
 ·have hc : (⟨l.toArray⟩ : Str).cps[i]? = some l[i] := by simp [hlt]
  refine strNext hit hc fun h₄ hit₄ hs₄ => ?_
  have c₄ : Ch (fun b => b = I) s₃ { s₃ with heap := h₄,toks := s₃.toks + 1 } := ⟨h₄,_,rfl,fun b o hb' e => hs₄.extBut b o hb' e⟩
  have fs₄ := fs₃.step (c₄.mono fun b _ h _ => .inr h) fun b h => by
   rcases Classical.em (b = I) with hbI | hbI
   ·subst hbI; exact live _ _ hit₄
   ·obtain ⟨o',ho'⟩ := fs₃.isAlive b h; exact ⟨o',c₄.get hbI ho'⟩
  refine wpAny_of_eq (rfl : letOwnedTupleGo (.Name x px) (.ref I) _ = pure ()) ?_
  refine wpAny_with_toks (n := s₃.toks + 1) (Nat.le_refl _) (fs₄.assign (d := .sig [l[i]] s₃.toks) eo hx (fun _ h => by cases h) (.inr rfl) fun s₅ fs₅ t₅ => ?_)
  intro htk₅
  rw [off_none] at fs₅ t₅
  refine wpAny_with_toks (n := K) (Nat.le_trans hK₃ (Nat.le_trans (Nat.le_succ _) htk₅)) (wpAny_mono (body i l[i] s₃.toks s₅ _ (List.getElem?_eq_getElem hlt) hK₃ htk₅ _ fs₅) (fun fl s₆ h₆ => ?_) fun _ _ e _ => e)
  intro hK₆
  obtain ⟨rfl,σ',fs₆,t₆,hsub⟩ := h₆
  have t46 := Tn.to fs₅ t₅ t₆
  refine ⟨l.length + 1 - (i + 1),by lia,i + 1,hlt,rfl,?_,hK₆,fs₆.sub hsub (hno _),Tn.to fs₄ (tnI _ c₄) t46⟩
  obtain ⟨o,ho,r⟩ := hit₄
  exact ⟨o,t46.1.get (fun h => by
   rcases h with h | ⟨z,h⟩
   ·exact fs₄.isPl _ (.inr rfl) (Pl.of_loc h)
   ·cases h) ho,r⟩
 ·have hil' : i = l.length := by lia
  subst hil'
  refine strEnd fs.amb.1 hit (by simp) fun h₄ hs₄ => ?_
  have c₄ : Ch (fun b => b = I) s₃ { s₃ with heap := h₄ } := ⟨h₄,s₃.toks,rfl,fun b o hb' e => hs₄ b o hb' e⟩
  exact wpAny_execs_nil (hQ _ (fs₃.endI hIs c₄) (tnI _ c₄) hK₃)
end
section
variable {prog : Program} {w : World} {lv : Nat} {h₀ hb : Heap} {B : Addr → Prop} {A : Around} {s s' : Shared} {env : Env} {sc : Scope} {σ σ' : St} {G : GE} {Is : Addr → Prop} {ow ow' : Ow}
theorem FS.sigAt {x : Str} {l : List Nat} {t : Nat} (y : FS prog w lv h₀ hb B env sc A Is ow σ s) (h : σ.lookup x = some (.sig l t)) : VarAt env s.heap x (.str ⟨l.toArray⟩ t) := by
 obtain ⟨v,hv,hd⟩ := y.sees x _ h (fun _ e => by cases e)
 have : v = .str ⟨l.toArray⟩ t := by
  rcases hd with h | h
  ·exact h
  ·exact h
 rw [← this]; exact hv
theorem isOrEq {i b : Str} {x y : List Nat} {t u : Nat} {p1 p2 p3 p4 p5 p6 p7 : Pos} {whole : Sem Value} {Q : Bool → Shared → Prop} {E : Value → Shared → Prop} (y' : FS prog w lv h₀ hb B env sc A Is ow σ s) (eo : EnvOK env sc)
  (hi : σ.lookup i = some (.sig x u)) (hb' : σ.lookup b = some (.sig y t)) (ni : okName i = true) (nb : okName b = true) (hu : u ≠ 0) (ht : t ≠ 0) (hne : u ≠ t) (hnb : NoneBooked h₀)
  (hQ : ∀ s',Kp s s' → Q (x == y) s') :
  wpAny (model prog w) A (isTrue (.BoolOp .Or [.Compare (.Name i p1) [.Is] [.Name b p2] p3,.Compare (.Name i p4) [.Eq] [.Name b p5] p6] p7) env whole) Q E s := by
 have vi := y'.sigAt hi
 have vb := y'.sigAt hb'
 have hi1 := okName_both ni
 have hb1 := okName_both nb
 refine wpAny_isTrue_BoolOp ?_
 rw [arm_allTrue_cons]
 refine wpAny_bind (wpAny_isTrue_Compare1 (loadVar eo.kind vi hi1.1 hi1.2 (loadVar eo.kind vb hb1.1 hb1.2 (is_str hu ht hne (NoneBooked.le hnb (y'.le₀.trans y'.le)) fun c hc => wpAny_truthy_bool ?_))) rfl)
 cases c with
 | true =>
  have e : (x == y) = true := by
   have := hc rfl
   have h' : (⟨x.toArray⟩ : Str).cps.toList = (⟨y.toArray⟩ : Str).cps.toList := by rw [this]
   simpa using h'
  rw [e] at hQ
  exact wpAny_pure (hQ s (Kp.rfl' _))
 | false =>
  show wpAny _ _ (allTrue .Or [_] env) Q E s
  rw [arm_allTrue_cons]
  refine wpAny_bind (wpAny_isTrue_Compare1 (loadVar eo.kind vi hi1.1 hi1.2 (loadVar eo.kind vb hb1.1 hb1.2 ?_)) rfl)
  have xa : Den prog w B s.heap (.str x) (.str ⟨x.toArray⟩ u) := ⟨u,rfl⟩
  have xb : Den prog w B s.heap (.str y) (.str ⟨y.toArray⟩ t) := ⟨t,rfl⟩
  refine (cmpop_sound (c := x == y) y'.amb rfl (fun _ h => by cases h) xa xb).then fun v s₁ k₁ xv => ?_
  cases den_bool xv
  refine wpAny_truthy_bool ?_
  cases hxy : (x == y)
  ·rw [hxy] at hQ; exact wpAny_pure (hQ s₁ k₁)
  ·rw [hxy] at hQ; exact wpAny_pure (hQ s₁ k₁)
theorem textItem {ev : EV} {v i : Expr} {pos : Pos} {l : List Nat} {k : Int} {c : Nat} (H : EvS prog w lv h₀ ev) (o : Ok lv h₀ B A s) (eo : EnvOK env sc) (sees : Sees prog w B env σ s.heap) (hi : ∀ l h p,i ≠ .Slice l h none p) (h1 : 1 ≤ s.toks)
  (ea : ev sc σ v (.str l)) (ek : ev sc σ i (.int k)) (hs : small k = true) (hc : (seqIndex? k l.length).bind (l[·]?) = some c) {Q : Value → Shared → Prop} {E : Value → Shared → Prop}
  (hQ : ∀ t s',Kp s s' → t ≠ 0 → t < s'.toks → Q (.str ⟨#[c]⟩ t) s') : wpAny (model prog w) A (eval (.Subscript v i pos) env) Q E s := by
 have hsub : subs (.str l) (.int k) = some (.str [c]) := by
  show (if small k then ((seqIndex? k l.length).bind (l[·]?)).map fun c => D.str [c] else none) = _
  rw [if_pos hs,hc]; rfl
 rw [eval_Subscript]
 refine wpAny_bind (wpAny_with_toks (n := 1) h1 ((H _ _ _ _ ea A s B env o eo sees).then fun vo s₁ k₁ xo => ?_))
 intro t₁
 refine wpAny_bind (wpAny_holding (wpAny_with_toks (n := 1) t₁ ((H _ _ _ _ ek A s₁ B env (o.keeps k₁) eo (sees.le k₁.le)).then fun vi s₂ k₂ xi => ?_)))
 intro t₂
 refine wpAny_bind (wpAny_standAt ?_)
 have xo' := xo.le k₂.le
 obtain ⟨T,id,hT,hl⟩ := subs_type hsub xo'
 refine wpAny_bind ?_
 rw [getitemInPython_of_ne hT.not_modules]
 refine wpAny_bind (wpAny_specialOf hT hl ?_)
 refine wpAny_pure ?_
 have hs' : subscripted i false vo vi = operate [vo,vi] (getItem vo vi) := by
  unfold subscripted
  split
  ·exact absurd rfl (hi _ _ _)
  ·rename_i h; cases h
  ·rfl
 rw [hs']
 obtain ⟨tv,rfl⟩ := den_str xo'
 obtain ⟨ti,rfl⟩ := den_int xi
 have hk := small_lt hs
 refine wpAny_bind (wpAny_operating (PyProof.Rows.getItem_str (c := c) ?_ ?_ ?_))
 ·rw [Bool.or_eq_false_iff]; exact ⟨decide_eq_false (by lia),decide_eq_false (by lia)⟩
 ·have e : (⟨l.toArray⟩ : Str).length = l.length := by simp [Str.length]
  rw [e]; simpa using hc
 ·exact wpAny_bind (wpAny_letTemporaryGo (wpAny_pure (hQ s₂.toks _ ((k₁.trans k₂).trans (Kp.tok _ _)) (by lia) (Nat.lt_succ_self _))))
end
section
variable {prog : Program} {w : World} {lv : Nat} {h₀ hb base : Heap} {B : Addr → Prop} {A : Around} {s s' : Shared} {env : Env} {outer : List Env} {sc : Scope} {σ σ' : St} {G : GE} {Is : Addr → Prop} {ow ow' : Ow} {L : Addr}
theorem try_catch {X T : String} {tn : Str} {tp pos hpos : Pos} {b₀ : Stmt} {suite body orelse : List Stmt} {rest : List ExceptHandler} {Q : Flow → Shared → Prop} {E : Value → Shared → Prop}
  (hfr : A.frames = some (env :: outer)) (hf : env.frame = some L)
  (hexc : isSubtype (.type T) (.type "BaseException") = pure true) (hnt : isSubtype (.type ((Manifest.find? T).elim "type" fun x => x.metatype)) (.type "tuple") = pure false) (hsub : isSubtype (.type X) (.type T) = pure true)
  (hT : ∀ (A' : Around) (s₁ : Shared) (Q' : Value → Shared → Prop) (E' : Value → Shared → Prop),base.StaysIn s₁.heap → Q' (.type T) s₁ → wpAny (model prog w) A' (eval (.Name tn tp) env) Q' E' s₁)
  (h : wpAny (model prog w) A (execs body env) (fun f s₁ => match f with | .next => wpAny (model prog w) A (execs orelse env) Q E s₁ | f => Q f s₁)
   (fun x s₁ => ∃ e a0,x = .ref e ∧ Heap.FlyingW base (env :: outer) e (.type X) a0 s₁.heap ∧ ∀ h',base.StaysIn h' → s₁.heap.UpToSlots h' → ∀ E',wpAny (model prog w) (A.mark (some (.ref e))) (execs (b₀ :: suite) env) Q E' { s₁ with heap := h' }) s) :
  wpAny (model prog w) A (exec (.Try body (.ExceptHandler (some (.Name tn tp)) none (b₀ :: suite) hpos :: rest) orelse [] pos) env) Q E s := by
 refine wpAny_Try_except (wpAny_mono h (fun _ _ x => x) fun x s₁ h₁ => ?_)
 obtain ⟨e,a0,rfl,hfl,hk⟩ := h₁
 refine wpAny_looks_onW hfr hf hfl fun h₁ held up₁ => ?_
 refine wpAny_landsW held fun h₂ fly₂ up₂ => ?_
 refine wpAny_handleBy_builtin hexc hnt hsub (hT _ _ _ _ fly₂.1 ⟨rfl,fly₂.there,?_⟩)
 rw [if_pos rfl]
 refine lands_againW fly₂ fun h₃ fly₃ up₃ => ?_
 exact hk h₃ fly₃.1 ((up₁.trans up₂).trans up₃) _
theorem FS.touch {h' : Heap} {tk : Nat} {Ls : List Addr} (y : FS prog w lv h₀ hb B env sc A Is ow σ s) (hLs : env.locals ∈ Ls) (hdead : ∀ b ∈ Ls,hb.get? b = none) (hne : ∀ b ∈ Ls,b ≠ env.locals → ¬ Bf B env sc ow Is b → False)
  (hk : ∀ b o,b ∉ Ls → s.heap.get? b = some o → h'.get? b = some o) (hu : s.heap.UpToSlots h') (hcl : ∀ x c,env.cells.lookup x = some c → c ∉ Ls) (hown : ∀ x a,ow x = some a → a ∉ Ls) (hIs : ∀ b,Is b → b ∉ Ls) :
  FS prog w lv h₀ hb B env sc A Is ow σ { s with heap := h',toks := tk } := by
 have lns : ∀ m,s.heap.Ns env.locals m → h'.Ns env.locals m := fun m hn => hu.ns hn
 have va : ∀ x v,VarAt env s.heap x v → VarAt env h' x v := fun x v h => by
  rcases h with ⟨e,m,hn,hm⟩ | ⟨e,c,hc,o,ho,hd⟩
  ·exact .inl ⟨e,m,lns m hn,hm⟩
  ·exact .inr ⟨e,c,hc,o,hk c o (hcl x c hc) ho,hd⟩
 have hkk : ∀ b o,¬ Bf B env sc ow Is b → s.heap.get? b = some o → h'.get? b = some o ∧ ¬ Bf B env sc ow Is b := fun b o hnb e =>
  ⟨hk b o (fun hm => by
   by_cases hb' : b = env.locals
   ·exact hnb (.inr (.inl (.inl hb')))
   ·exact hne b hm hb' hnb) e,hnb⟩
 refine ⟨y.amb,y.le₀,fun b o e => hk b o (fun hm => by rw [hdead b hm] at e; cases e) (y.le b o e),y.alive,y.off,⟨?_,fun x hx => ?_,y.frm.apart1,y.frm.apart2⟩,y.new,fun b hi => ?_,fun x c hc => ?_,fun x a ha => ?_,y.val,fun x d e hn => ?_,y.inj,y.owPl,y.owIs,y.isPl⟩
 ·obtain ⟨m,hn⟩ := y.frm.ns; exact ⟨m,lns m hn⟩
 ·obtain ⟨c,v,hc,o,ho,hd⟩ := y.frm.cell x hx
  exact ⟨c,v,hc,o,hk c o (hcl x c hc) ho,hd⟩
 ·obtain ⟨o,ho⟩ := y.isAlive b hi; exact ⟨o,hk b o (hIs b hi) ho⟩
 ·obtain ⟨o,ho⟩ := y.cells x c hc; exact ⟨o,hk c o (hcl x c hc) ho⟩
 ·obtain ⟨ds,vs,h1,hv,⟨n,e⟩,hvs⟩ := y.own x a ha
  exact ⟨ds,vs,h1,va x _ hv,⟨n,hk _ _ (hown x a ha) e⟩,hvs.mono hkk⟩
 ·obtain ⟨v,hv,hd⟩ := y.sees x d e hn
  exact ⟨v,va x v hv,hd.imp (fun h => h) fun h => h.mono hkk⟩
end
set_option maxRecDepth 100000
theorem iterEntry : entryFor table "iter" = some Builtin.«iter» := entryFor_of_fast (by kernel_rfl)
theorem nextEntry : entryFor table "next" = some Builtin.«next» := entryFor_of_fast (by kernel_rfl)
theorem iterArgs (a : Value) : argsOk "iter" ⟨[a],[]⟩ := by unfold argsOk; kernel_rfl
theorem nextArgs (a : Value) : argsOk "next" ⟨[a],[]⟩ := by unfold argsOk; kernel_rfl
noncomputable def NewExc (h : Heap) (e : Addr) (X : String) : Prop := ∃ oe vs a0,h.get? e = some oe ∧ oe.cls = .type X ∧ oe.data = .fields vs ∧ vs[0]? = some a0 ∧ vs[1]? = some .none
section
variable {prog : Program} {w : World} {A : Around} {s : Shared} {Q : Value → Shared → Prop} {E : Value → Shared → Prop}
theorem iterList {l : Addr} {items : Array Value} (hl : s.heap.IsList l items) (h : Q (.ref s.heap.objs.size) { s with heap := s.heap.push { cls := .type "list_iterator",data := .fields #[.ref l,.int 0 0] } }) :
  wpAny (model prog w) A (call (.builtin "iter") [.ref l]) Q E s := by
 refine PySem.Calls.call_function_entry (by decide +kernel) (by decide +kernel) iterEntry (iterArgs _) ?_
 unfold Builtin.«iter»
 refine wpAny_bind (m := someArgs "iter" 1 2 _) (wpAny_of_eq (a := [Value.ref l]) (by first | rfl | kernel_rfl!) ?_)
 show wpAny _ _ (pyIter (.ref l) >>= _) _ _ _
 refine wpAny_bind (wpAny_pyIter_list hl ?_)
 exact wpAny_pure ⟨_,rfl,h⟩
theorem nextItem {it l : Addr} {i : Nat} {items : Array Value} {x : Value} (hit : s.heap.IsListIter it l i) (hl : s.heap.IsList l items) (hx : items[i]? = some x)
  (hQ : ∀ h',h'.IsListIter it l (i + 1) → Heap.SameBut it s.heap h' → Q x { s with heap := h' }) : wpAny (model prog w) A (call (.builtin "next") [.ref it]) Q E s := by
 refine PySem.Calls.call_function_entry (by decide +kernel) (by decide +kernel) nextEntry (nextArgs _) ?_
 unfold Builtin.«next»
 refine wpAny_bind (m := someArgs "next" 1 2 _) (wpAny_of_eq (a := [Value.ref it]) (by first | rfl | kernel_rfl!) ?_)
 dsimp only
 refine wpAny_bind (wpAny_specialOf (name := Str.ofString "__next__") hit.typeIs slot_listiter_next.lookup ?_)
 refine wpAny_ite_split (fun hab => absurd hab (by decide)) (fun _ => ?_)
 obtain ⟨o,ho,hc,hd⟩ := id hit
 obtain ⟨ol,hol,_,nl,hdl⟩ := hl
 refine wpAny_bind (wpAny_callSpecial?_slot (name := Str.ofString "__next__") hit.typeIs slot_listiter_next (wpAny_call_entry slot_listiter_next hit.typeIs entry_listiter_next ?_ (args_listiter_next _)))
 show wpAny _ _ (field (.ref it) 0 >>= _) _ _ s
 refine wpAny_bind (wpAny_field ho hd (x := .ref l) rfl ?_)
 show wpAny _ _ (if (Value.ref l == Value.none) = true then _ else _) _ _ s
 rw [if_neg (show ¬ ((Value.ref l == Value.none) = true) from Bool.false_ne_true)]
 show wpAny _ _ (field (.ref it) 1 >>= _) _ _ s
 refine wpAny_bind (wpAny_field ho hd (x := .int i 0) rfl ?_)
 show wpAny _ _ (seqItems? (.ref l) >>= _) _ _ s
 refine wpAny_bind (wpAny_seqItems hol hdl ?_)
 simp only [Int.toNat_natCast,hx]
 refine wpAny_bind (wpAny_setField ho hd (by simp) (wpAny_pure ⟨x,rfl,wpAny_pure ⟨_,rfl,hQ _ ?_ (Heap.SameBut.update ..)⟩⟩))
 exact ⟨_,Heap.get?_update_self _ ho (Obj.isFreed_of_fields (Obj.data_mapFields hd _)),(Obj.cls_mapFields ..).trans hc,by
  rw [Obj.data_mapFields hd]; simp [rawInt]⟩
theorem nextEnd {it l : Addr} {i : Nat} {items : Array Value} (hh : A.handled = none) (hit : s.heap.IsListIter it l i) (hl : s.heap.IsList l items) (hx : items[i]? = none)
  (hE : ∀ h' e,Heap.ExtBut it s.heap h' → s.heap.get? e = none → NewExc h' e "StopIteration" → E (.ref e) { s with heap := h' }) : wpAny (model prog w) A (call (.builtin "next") [.ref it]) Q E s := by
 refine PySem.Calls.call_function_entry (by decide +kernel) (by decide +kernel) nextEntry (nextArgs _) ?_
 unfold Builtin.«next»
 refine wpAny_bind (m := someArgs "next" 1 2 _) (wpAny_of_eq (a := [Value.ref it]) (by first | rfl | kernel_rfl!) ?_)
 dsimp only
 refine wpAny_bind (wpAny_specialOf (name := Str.ofString "__next__") hit.typeIs slot_listiter_next.lookup ?_)
 refine wpAny_ite_split (fun hab => absurd hab (by decide)) (fun _ => ?_)
 obtain ⟨o,ho,hc,hd⟩ := id hit
 obtain ⟨ol,hol,_,nl,hdl⟩ := hl
 refine wpAny_bind (wpAny_callSpecial?_slot (name := Str.ofString "__next__") hit.typeIs slot_listiter_next (wpAny_call_entry slot_listiter_next hit.typeIs entry_listiter_next ?_ (args_listiter_next _)))
 show wpAny _ _ (field (.ref it) 0 >>= _) _ _ s
 refine wpAny_bind (wpAny_field ho hd (x := .ref l) rfl ?_)
 show wpAny _ _ (if (Value.ref l == Value.none) = true then _ else _) _ _ s
 rw [if_neg (show ¬ ((Value.ref l == Value.none) = true) from Bool.false_ne_true)]
 show wpAny _ _ (field (.ref it) 1 >>= _) _ _ s
 refine wpAny_bind (wpAny_field ho hd (x := .int i 0) rfl ?_)
 show wpAny _ _ (seqItems? (.ref l) >>= _) _ _ s
 refine wpAny_bind (wpAny_seqItems hol hdl ?_)
 simp only [Int.toNat_natCast,hx]
 refine wpAny_bind (wpAny_rule (wpAny_bind (wpAny_setField ho hd (by simp) ?_)))
 show wpAny _ _ (newExc (.type "StopIteration") [] >>= _) _ _ _
 refine wpAny_bind ?_
 simp only [newExc,newTuple]
 refine wpAny_bind (wpAny_newObj_type ?_ (by size_fits))
 refine wpAny_bind (m := firstArgMember _ _) (wpAny_of_eq (a := Value.none) (by first | rfl | (simp only [firstArgMember]; rfl)) ?_)
 refine wpAny_newObj_type ?_ (by size_fits)
 simp only [raiseNew]
 refine wpAny_bind (wpAny_handled ?_)
 first | rw [show A.in1.in1.handled = none from hh] | rw [show A.in1.handled = none from hh] | rw [hh]
 refine wpAny_bind (wpAny_pure (wpAny_throw ?_))
 refine hE _ _ (((Heap.SameBut.update ..).extBut.push _).push _) ?_ ⟨_,_,_,Heap.get?_push_size _ rfl,rfl,rfl,rfl,rfl⟩
 refine Heap.get?_none_of_le ?_
 rw [Heap.size_push]
 exact Nat.le_succ_of_le (by simp [Heap.update])
end
set_option maxRecDepth 512
section
variable {prog : Program} {w : World} {lv : Nat} {h₀ hb : Heap} {B : Addr → Prop} {A : Around} {s s' : Shared} {env : Env} {sc : Scope} {σ σ' : St} {G : GE} {Is : Addr → Prop} {ow ow' : Ow}
theorem FS.hide {Hs : List Addr} (y : FS prog w lv h₀ hb B env sc A Is ow σ s) (hB : ∀ b ∈ Hs,B b) (hcls : ∀ b ∈ Hs,∀ o,hb.get? b = some o → o.cls ≠ .type "list") (hpl : ∀ b ∈ Hs,¬ Pl env b) (hw : ∀ x a,ow x = some a → a ∉ Hs) :
  FS prog w lv h₀ (hideAll hb Hs) (fun b => B b ∧ b ∉ Hs) env sc A (fun b => Is b ∨ b ∈ Hs) ow σ s := by
 have iff1 : ∀ b,Bf (fun b => B b ∧ b ∉ Hs) env sc ow (fun b => Is b ∨ b ∈ Hs) b → Bf B env sc ow Is b := fun b h => by
  rcases h with h | h | h | h | h
  ·exact .inl h.1
  ·exact .inr (.inl h)
  ·exact .inr (.inr (.inl h))
  ·exact .inr (.inr (.inr h))
  ·exact .inl (hB b h)
 have hk : ∀ b o,¬ Bf B env sc ow Is b → s.heap.get? b = some o → s.heap.get? b = some o ∧ ¬ Bf (fun b => B b ∧ b ∉ Hs) env sc ow (fun b => Is b ∨ b ∈ Hs) b := fun b o hnb e => ⟨e,fun h => hnb (iff1 b h)⟩
 have keep : ∀ b o,b ∉ Hs → hb.get? b = some o → (hideAll hb Hs).get? b = some o := fun b o hn e => hideAll_get _ e hn
 have hk0 : ∀ b o,¬ B b → hb.get? b = some o → (hideAll hb Hs).get? b = some o ∧ ¬ (B b ∧ b ∉ Hs) := fun b o hnb e => ⟨keep b o (fun hm => hnb (hB b hm)) e,fun h => hnb h.1⟩
 have den : ∀ d v,Den prog w B hb d v → Den prog w (fun b => B b ∧ b ∉ Hs) (hideAll hb Hs) d v := fun d v x => by
  cases d with
  | bor ds =>
   obtain ⟨a,vs,e1,⟨n,e2⟩,e3⟩ := x
   exact ⟨a,vs,e1,⟨n,keep a _ (fun hm => hcls a hm _ e2 rfl) e2⟩,e3.mono hk0⟩
  | dict es =>
   obtain ⟨a,kvs,e1,e2,e3,e4,e5⟩ := x
   exact ⟨a,kvs,e1,fun h => e2 h.1,e3,e4.at fun o e => (hk0 a o e2 e).1,e5⟩
  | own ds => exact x.elim
  | texts ds => exact x.elim
  | _ => exact El.mono hk0 x
 refine ⟨y.amb,fun b o e => keep b o (fun hm => by rw [y.off b (hB b hm)] at e; cases e) (y.le₀ b o e),fun b o e => y.le b o (of_hideAll _ e),fun b h => ?_,fun b h => y.off b h.1,y.frm,fun b h => ?_,fun b h => ?_,y.cells,fun x a ha => ?_,y.val,fun x d e hn => ?_,y.inj,y.owPl,fun x a ha h => ?_,fun b h => ?_⟩
 ·obtain ⟨o,ho⟩ := y.alive b h.1; exact ⟨o,keep b o h.2 ho⟩
 ·have low : Wr env sc ow Is b → (hideAll hb Hs).get? b = none := fun h' => by
   cases e : (hideAll hb Hs).get? b with
   | none => rfl
   | some o => exact absurd h' (y.baseOff (of_hideAll _ e))
  rcases h with h | h | h | h
  ·exact low (.inl h)
  ·exact low (.inr (.inl h))
  ·exact low (.inr (.inr h))
  ·exact hideAll_none _ h
 ·rcases h with h | h
  ·exact y.isAlive b h
  ·obtain ⟨o,ho⟩ := y.alive b (hB b h); exact ⟨o,y.le b o ho⟩
 ·obtain ⟨ds,vs,h1,hv,hp,hvs⟩ := y.own x a ha
  exact ⟨ds,vs,h1,hv,hp,hvs.mono hk⟩
 ·obtain ⟨v,hv,hd⟩ := y.sees x d e hn
  exact ⟨v,hv,hd.imp (den d v) fun h => h.mono hk⟩
 ·rcases h with h | h
  ·exact y.owIs x a ha h
  ·exact hw x a ha h
 ·rcases h with h | h
  ·exact y.isPl b h
  ·exact hpl b h
theorem FS.ptrAt {x : Str} {a : Nat} (y : FS prog w lv h₀ hb B env sc A Is ow σ s) (h : σ.lookup x = some (.ptr a)) : VarAt env s.heap x (.ref a) := by
 obtain ⟨v,hv,hd⟩ := y.sees x _ h (fun _ e => by cases e)
 have : v = .ref a := by
  rcases hd with h | h
  ·exact h
  ·exact h
 rw [← this]; exact hv
theorem next_ev {x : Str} {p q pos : Pos} {I l : Addr} {i : Nat} {items : Array Value} {v : Value} {Q : Value → Shared → Prop} {E : Value → Shared → Prop} (g : Gd prog w lv G h₀) (eo : EnvOK env sc) (y : FS prog w lv h₀ hb B env sc A Is ow σ s) (hg : isGlob sc "next" = true) (hn : okName x = true)
  (hx : σ.lookup x = some (.ptr I)) (hI : Is I) (hit : s.heap.IsListIter I l i) (hl : s.heap.IsList l items) (hv : items[i]? = some v) (hlI : l ≠ I)
  (hQ : ∀ h',h'.IsListIter I l (i + 1) → h'.IsList l items → FS prog w lv h₀ hb B env sc A Is ow σ { s with heap := h' } → Ch (fun b => b = I) s { s with heap := h' } → Q v { s with heap := h' }) :
  wpAny (model prog w) A (eval (.Call (.Name "next" p) [.Name x q] [] pos) env) Q E s := by
 obtain ⟨mg,mb,hmg,hmb,_,_,hfn,_⟩ := g.ns
 obtain ⟨h1,h2⟩ := hfn "next" (by decide)
 refine wpAny_Call_Name_kw (glob_blt eo y.ok hg hmg hmb h1 h2 (notDebug _ (by decide)) ?_)
 have hs : starEach [.Name x q] env = [(false,eval (.Name x q) env)] := rfl
 rw [hs]
 refine Calls.callWith_builtin rfl (Calls.evalArgs_plain (Calls.spliced_cons (loadVar eo.kind (y.ptrAt hx) (okName_both hn).1 (okName_both hn).2 (Calls.spliced_nil ?_))))
 refine nextItem hit hl hv fun h' hit' hsb => ?_
 have c : Ch (fun b => b = I) s { s with heap := h' } := ⟨h',s.toks,rfl,fun b o hb' e => hsb.extBut b o hb' e⟩
 refine hQ h' hit' (hl.extBut hsb.extBut hlI) (y.step (c.mono fun b _ h _ => h ▸ hI) fun b hb' => ?_) c
 rcases Classical.em (b = I) with hbI | hbI
 ·subst hbI; obtain ⟨o,ho,_⟩ := hit'; exact ⟨o,ho⟩
 ·obtain ⟨o,ho⟩ := y.isAlive b hb'; exact ⟨o,c.get hbI ho⟩
theorem next_stop {x : Str} {p q pos : Pos} {I l : Addr} {i : Nat} {items : Array Value} {Q : Value → Shared → Prop} {E : Value → Shared → Prop} (g : Gd prog w lv G h₀) (eo : EnvOK env sc) (y : FS prog w lv h₀ hb B env sc A Is ow σ s) (hg : isGlob sc "next" = true) (hn : okName x = true)
  (hx : σ.lookup x = some (.ptr I)) (hit : s.heap.IsListIter I l i) (hl : s.heap.IsList l items) (hv : items[i]? = none)
  (hE : ∀ h' e,Heap.ExtBut I s.heap h' → s.heap.get? e = none → NewExc h' e "StopIteration" → E (.ref e) { s with heap := h' }) :
  wpAny (model prog w) A (eval (.Call (.Name "next" p) [.Name x q] [] pos) env) Q E s := by
 obtain ⟨mg,mb,hmg,hmb,_,_,hfn,_⟩ := g.ns
 obtain ⟨h1,h2⟩ := hfn "next" (by decide)
 refine wpAny_Call_Name_kw (glob_blt eo y.ok hg hmg hmb h1 h2 (notDebug _ (by decide)) ?_)
 have hs : starEach [.Name x q] env = [(false,eval (.Name x q) env)] := rfl
 rw [hs]
 refine Calls.callWith_builtin rfl (Calls.evalArgs_plain (Calls.spliced_cons (loadVar eo.kind (y.ptrAt hx) (okName_both hn).1 (okName_both hn).2 (Calls.spliced_nil ?_))))
 exact nextEnd y.amb.1 hit hl hv hE
end
set_option genSizeOf false
set_option genInjectivity false
mutual
inductive CE where
 | const (d : D)
 | var (i : Nat)
 | dat (i : Nat)
 | bin (op : Operator) (a b : CE)
 | boolv (op : BoolOp) (es : List CE)
 | cmp (op : CmpOp) (a b : CE)
 | inTexts (a : CE) (ls : List (List Nat))
 | ite (t : CT) (a b : CE)
 | list (es : List CE)
 | subs (a i : CE)
 | slice (a lo hi : CE)
 | meth (m : Str) (a : CE) (es : List CE)
 | call (f : Nat) (es : List CE)
 | blt (f : Str) (es : List CE)
 | isInt (e : CE)
 | hasGet (e : CE)
 | listRange (es : List CE)
 | comp (frees : List Nat) (n : Nat) (elt : CE) (first : CG) (rest : List CG)
inductive CT where
 | neg (t : CT)
 | every (op : BoolOp) (ts : List CT)
 | cmp (op : CmpOp) (a b : CE)
 | inTexts (a : CE) (ls : List (List Nat))
 | val (e : CE)
inductive CG where
 | range (x : Nat) (es : List CE) (ifs : List CT)
 | expr (x : Nat) (e : CE) (ifs : List CT)
end
noncomputable def CG.tgt : CG → Nat
 | .range x _ _ => x
 | .expr x _ _ => x
noncomputable abbrev Rho := List (Option D)
structure GC where
 fn : List (List D → Option D)
 dat : List D
noncomputable def turnsC (ts : Rho → Option Bool) (x : Nat) (k : Rho → Option (List D)) (ρ : Rho) : List D → Option (List D)
 | [] => some []
 | d :: ds => (ts (ρ.set x (some d))).bind fun ok =>
   (if ok then k (ρ.set x (some d)) else some []).bind fun here => (turnsC ts x k ρ ds).bind fun r => if fits (here.length + r.length) then some (here ++ r) else none
mutual
noncomputable def evC (G : GC) (ρ : Rho) : CE → Option D
 | .const d => some d
 | .var i => ρ[i]?.join
 | .dat i => G.dat[i]?
 | .bin op a b => (evC G ρ a).bind fun x => (evC G ρ b).bind fun y => binop op x y
 | .boolv op es => boolvC G ρ op es
 | .cmp op a b => (evC G ρ a).bind fun x => (evC G ρ b).bind fun y => if y.isTexts then none else (cmpop op x y).map .bool
 | .inTexts a ls => (evC G ρ a).bind fun x => if fits ls.length then (cmpop .In x (.texts ls)).map .bool else none
 | .ite t a b => (tsC G ρ t).bind fun c => if c then evC G ρ a else evC G ρ b
 | .list es => (evsC G ρ es).bind fun ds => if ds.all D.isEl && fits ds.length then some (.list ds) else none
 | .subs a i => (evC G ρ a).bind fun o => (evC G ρ i).bind fun k => subs o k
 | .slice a lo hi => (evC G ρ a).bind fun o => (evC G ρ lo).bind fun l => (evC G ρ hi).bind fun h => slice o l h
 | .meth m a es => (evC G ρ a).bind fun o => (evsC G ρ es).bind fun ds => meth o m ds
 | .call f es => (evsC G ρ es).bind fun ds => (G.fn[f]?).bind fun F => (F ds).bind fun d => if d.isEl then some d else none
 | .blt f es => (evsC G ρ es).bind fun ds => bcall f ds
 | .isInt e => (evC G ρ e).bind fun d => match d with | .int _ => some (.bool true) | _ => none
 | .hasGet e => (evC G ρ e).bind fun d => match d with | .str _ => some (.bool true) | _ => none
 | .listRange es => (evsC G ρ es).bind fun ds => (ranged3 ds).map .list
 | .comp fr n elt first rest => (headC G false ρ (fr.map (fun i => ρ[i]?.join) ++ List.replicate n none) (fun ρ' => gensC G (fun ρ' => (evC G ρ' elt).bind fun d => if d.isEl then some [d] else none) rest ρ') first).map .list
noncomputable def evsC (G : GC) (ρ : Rho) : List CE → Option (List D)
 | [] => some []
 | e :: r => (evC G ρ e).bind fun d => (evsC G ρ r).bind fun ds => some (d :: ds)
noncomputable def boolvC (G : GC) (ρ : Rho) (op : BoolOp) : List CE → Option D
 | [] => none
 | e :: r => (evC G ρ e).bind fun d => if r.isEmpty then some d else (truth d).bind fun t => match op,t with
  | .And,false | .Or,true => some d
  | _,_ => boolvC G ρ op r
noncomputable def tsC (G : GC) (ρ : Rho) : CT → Option Bool
 | .neg t => (tsC G ρ t).map (!·)
 | .every op ts => everyC G ρ op ts
 | .cmp op a b => (evC G ρ a).bind fun x => (evC G ρ b).bind fun y => if y.isTexts then none else cmpop op x y
 | .inTexts a ls => (evC G ρ a).bind fun x => if fits ls.length then cmpop .In x (.texts ls) else none
 | .val e => (evC G ρ e).bind truth
noncomputable def everyC (G : GC) (ρ : Rho) (op : BoolOp) : List CT → Option Bool
 | [] => some (op == .And)
 | t :: r => (tsC G ρ t).bind fun c => match op,c with
  | .And,false => some false
  | .Or,true => some true
  | _,_ => everyC G ρ op r
noncomputable def testsC (G : GC) (ρ : Rho) : List CT → Option Bool
 | [] => some true
 | t :: r => (tsC G ρ t).bind fun c => if c then testsC G ρ r else some false
noncomputable def gensC (G : GC) (emit : Rho → Option (List D)) : List CG → Rho → Option (List D)
 | [],ρ => emit ρ
 | g :: rest,ρ => if (ρ[g.tgt]?.join).isNone then headC G true ρ ρ (fun ρ => gensC G emit rest ρ) g else none
noncomputable def headC (G : GC) (strict : Bool) (ρ ρ' : Rho) (k : Rho → Option (List D)) : CG → Option (List D)
 | .range x es ifs => (evsC G ρ es).bind fun as => (ranged as).bind fun xs => if fits xs.length then turnsC (fun ρ => testsC G ρ ifs) x k ρ' xs else none
 | .expr x e ifs => (evC G ρ e).bind fun d => (itemsS strict d).bind fun xs => if fits xs.length then turnsC (fun ρ => testsC G ρ ifs) x k ρ' xs else none
end
set_option genSizeOf false
set_option genInjectivity false
structure Names where
 ns : List Str
 fns : List Str
 dats : List Str
noncomputable def idx (x : Str) (l : List Str) : Option Nat := l.findIdx? (· == x)
noncomputable def CE.nil : CE := .const .nil
noncomputable def Names.built (N : Names) (sc : Scope) (f : Str) : Bool := isGlob sc f && (idx f N.fns).isNone && (idx f N.dats).isNone
noncomputable def cTarget (N : Names) (sc : Scope) (x : Str) : Option Nat := if isHeld (sc.names.lookup x) then idx x N.ns else none
noncomputable abbrev CEF := Names → Scope → Expr → Option CE
noncomputable abbrev CTF := Names → Scope → Expr → Option CT
noncomputable def frees (N : Names) : List Str → Option (List Nat)
 | [] => some []
 | x :: r => (idx x N.ns).bind fun i => (frees N r).map (i :: ·)
noncomputable def rangeE : Expr → Option (List Expr)
 | .Call f as kws _ => if isNamed "range" f && kws.isEmpty then some as else none
 | _ => none
noncomputable def sliceE : Expr → Option (Option Expr × Option Expr)
 | .Slice lo hi st _ => if st.isNone then some (lo,hi) else none
 | _ => none
noncomputable def isIn : CmpOp → Bool
 | .In => true
 | _ => false
noncomputable def isNot : UnaryOp → Bool
 | .Not => true
 | _ => false
noncomputable def cArgs (ce : Expr → Option CE) (as : List Expr) : Option (List CE) := if as.all notStar then allM ce as else none
noncomputable def cIter {β : Type} (ce : Expr → Option CE) (bt : Bool) (A : List CE → β) (B : CE → β) (iter : Expr) : Option β :=
 if notSet iter then (match rangeE iter with
  | some as => if bt then (cArgs ce as).map A else none
  | none => (ce iter).map B) else none
noncomputable def cHead (ce : CEF) (ct : CTF) (N : Names) (sc : Scope) (M : Names) (scope : Scope) (c : Comprehension) : Option CG :=
 if c.is_async == 0 then (nameP c.target).bind fun q => (cTarget M scope q.1).bind fun k => (allM (ct M scope) c.ifs).bind fun ts =>
  cIter (ce N sc) (N.built sc "range") (fun es => .range k es ts) (fun e => .expr k e ts) c.iter else none
noncomputable def cTwo {β : Type} (ce : Expr → Option CE) (mk : CmpOp → CE → CE → β) (l : Expr) (op : CmpOp) (r : Expr) : Option β :=
 if behindInMarks op r then none else (ce l).bind fun a => (ce r).map fun b => mk op a b
noncomputable def cCmp {β : Type} (ce : Expr → Option CE) (mk : CmpOp → CE → CE → β) (mt : CE → List (List Nat) → β) (l : Expr) (ops : List CmpOp) (rs : List Expr) : Option β :=
 (one ops).bind fun op => (one rs).bind fun r => if isIn op then (match tupE r with
  | some es => (ce l).bind fun a => (strsConst es).map (mt a)
  | none => cTwo ce mk l op r) else cTwo ce mk l op r
noncomputable def cOpt (ce : Expr → Option CE) : Option Expr → Option CE
 | none => some CE.nil
 | some e => ce e
noncomputable def cSub (ce : Expr → Option CE) (v i : Expr) : Option CE := (ce v).bind fun o => match sliceE i with
 | some q => (cOpt ce q.1).bind fun l => (cOpt ce q.2).map fun h => .slice o l h
 | none => (ce i).map fun k => .subs o k
noncomputable def cMeth (ce : Expr → Option CE) (o : Expr) (m : Str) (apos : Pos) (as : List Expr) (pos : Pos) : Option CE :=
 if apos.endLine == pos.line && plainObj o && decide (as.length < 20) then (ce o).bind fun a => (cArgs ce as).map (.meth m a) else none
noncomputable def cCallN (ce : Expr → Option CE) (N : Names) (sc : Scope) (f : Str) (as : List Expr) : Option CE :=
 if f == "isinstance" then (two as).bind fun q => if isGlob sc f && isNamed "int" q.2 && isGlob sc "int" && notStar q.1 then (ce q.1).map .isInt else none
 else if f == "hasattr" then (two as).bind fun q => if isGlob sc f && cstr q.2 == some "__getitem__" && notStar q.1 then (ce q.1).map .hasGet else none
 else if f == "list" then (one as).bind fun c => (rangeE c).bind fun bs => if isGlob sc f && isGlob sc "range" then (cArgs ce bs).map .listRange else none
 else if isGlob sc f then (cArgs ce as).bind fun es => match idx f N.fns with
  | some k => some (.call k es)
  | none => if (idx f N.dats).isNone then some (.blt f es) else none
 else none
noncomputable def cCall (ce : Expr → Option CE) (N : Names) (sc : Scope) (f : Expr) (as : List Expr) (kws : List Keyword) (pos : Pos) : Option CE :=
 if kws.isEmpty then (match f with
  | .Attribute o m apos => cMeth ce o m apos as pos
  | .Name f _ => cCallN ce N sc f as
  | _ => none) else none
noncomputable def cComp (ce : CEF) (ct : CTF) (N : Names) (sc : Scope) (elt : Expr) (gens : List Comprehension) (scope : Scope) : Option CE :=
 if scopeOk sc scope then
  let fr := (scope.names.filter fun p => p.2 == .free).map (·.1)
  let lo := (scope.names.filter fun p => p.2 == .local || p.2 == .cell).map (·.1)
  (frees N fr).bind fun ix => (ce { N with ns := fr ++ lo } scope elt).bind fun c => match gens with
   | g :: r => (cHead ce ct N sc { N with ns := fr ++ lo } scope g).bind fun h => (allM (cHead ce ct { N with ns := fr ++ lo } scope { N with ns := fr ++ lo } scope) r).map (.comp ix lo.length c h)
   | [] => none
 else none
noncomputable def cName (N : Names) (sc : Scope) (x : Str) : Option CE :=
 if okName x then (if isBound (sc.names.lookup x) then (idx x N.ns).map .var else if isGlob sc x then (idx x N.dats).map .dat else none) else none
noncomputable def cEF (ce : CEF) (ct : CTF) (N : Names) (sc : Scope) : Expr → Option CE
 | .Constant c _ _ => (constOf c).map .const
 | .Name x _ => cName N sc x
 | .BinOp l op r _ => (ce N sc l).bind fun a => (ce N sc r).map fun b => .bin op a b
 | .BoolOp op vs _ => (allM (ce N sc) vs).map (.boolv op)
 | .Compare l ops rs _ => cCmp (ce N sc) .cmp .inTexts l ops rs
 | .IfExp t b o _ => (ct N sc t).bind fun c => (ce N sc b).bind fun x => (ce N sc o).map fun y => .ite c x y
 | .List es _ => (cArgs (ce N sc) es).map .list
 | .Subscript v i _ => cSub (ce N sc) v i
 | .Call f as kws pos => cCall (ce N sc) N sc f as kws pos
 | .ListComp elt gens scope _ => cComp ce ct N sc elt gens scope
 | _ => none
noncomputable def cTF (ce : CEF) (ct : CTF) (N : Names) (sc : Scope) (e : Expr) : Option CT := match e with
 | .UnaryOp op x _ => if isNot op then (ct N sc x).map .neg else none
 | .BoolOp op vs _ => (allM (ct N sc) vs).map (.every op)
 | .IfExp .. => none
 | .Compare l ops rs _ => cCmp (ce N sc) .cmp .inTexts l ops rs
 | _ => (ce N sc e).map .val
mutual
noncomputable def cE : Nat → CEF
 | 0 => fun _ _ _ => none
 | n + 1 => cEF (cE n) (cT n)
noncomputable def cT : Nat → CTF
 | 0 => fun _ _ _ => none
 | n + 1 => cTF (cE n) (cT n)
end
set_option genSizeOf false
set_option genInjectivity false
inductive CStm where
 | set (x : Nat) (e : CE)
 | own (x : Nat) (e : CE)
 | set2 (x y : Nat) (e : CE)
 | swap (x y : Nat) (e f : CE)
 | item (x : Nat) (i v : CE)
 | aug (x : Nat) (op : Operator) (v : CE)
 | ite (t : CT) (a b : List CStm)
 | loop (t : CT) (a b : List CStm)
 | forR (x : Nat) (es : List CE) (a b : List CStm)
 | forE (x : Nat) (e : CE) (a b : List CStm)
 | ret (e : CE)
 | brk
 | cont
 | pass
 | app (x : Nat) (g : Option Nat) (e : CE)
 | ext (x : Nat) (g : Option Nat) (e : CE)
 | attempt (a : List CStm)
 | fail
noncomputable def viewC (ρ : Rho) : Rho := ρ.map (Option.map D.seen)
noncomputable def frozenC (ρ : Rho) : Rho := ρ.map (Option.map D.froze)
noncomputable def giveC (g : Option Nat) (ρ : Rho) : Rho := match g with
 | none => ρ
 | some y => match ρ[y]?.join with
  | some (.own ds) => ρ.set y (some (.list ds))
  | _ => ρ
noncomputable def forGoC (k : Rho → Option (Out × Rho)) (els : Rho → Option (Out × Rho)) (x : Nat) : List D → Rho → Option (Out × Rho)
 | [],ρ => els ρ
 | d :: ds,ρ => (k (ρ.set x (some d))).bind fun r => match r with
  | (.next,ρ') | (.cont,ρ') => forGoC k els x ds ρ'
  | (.brk,ρ') => some (.next,ρ')
  | (.ret d,ρ') => some (.ret d,ρ')
noncomputable def whileGoC (t : Rho → Option Bool) (k els : Rho → Option (Out × Rho)) : Nat → Rho → Option (Out × Rho)
 | 0,_ => none
 | n + 1,ρ => (t ρ).bind fun c => if c then (k ρ).bind fun r => match r with
   | (.next,ρ') | (.cont,ρ') => whileGoC t k els n ρ'
   | (.brk,ρ') => some (.next,ρ')
   | (.ret d,ρ') => some (.ret d,ρ')
  else els ρ
mutual
noncomputable def exC (G : GC) : CStm → Rho → Option (Out × Rho)
 | .set x e,ρ => (evC G (viewC ρ) e).bind fun d => if d.isEl then some (.next,ρ.set x (some d)) else none
 | .own x e,ρ => (evC G (viewC ρ) e).bind fun d => match d with | .list ds => some (.next,ρ.set x (some (.own ds))) | _ => none
 | .set2 x y e,ρ => (evC G (viewC ρ) e).bind fun d => if d.isScalar then some (.next,(ρ.set x (some d)).set y (some d)) else none
 | .swap x y e f,ρ => (evC G (viewC ρ) e).bind fun a => (evC G (viewC ρ) f).bind fun b => if a.isScalar && b.isScalar then some (.next,(ρ.set y (some b)).set x (some a)) else none
 | .item x i v,ρ => (evC G (viewC ρ) v).bind fun d => (evC G (viewC ρ) i).bind fun k => match ρ[x]?.join,k with
   | some (.own ds),.int k => if d.isScalar && decide (0 ≤ k) && decide (k.toNat < ds.length) && fits ds.length then some (.next,ρ.set x (some (.own (ds.set k.toNat d)))) else none
   | _,_ => none
 | .aug x op v,ρ => (ρ[x]?.join).bind fun a => (evC G (viewC ρ) v).bind fun b => if a.isScalar && b.isScalar && augOk op then (binop op a b).bind fun d => if d.isEl then some (.next,ρ.set x (some d)) else none else none
 | .ite t a b,ρ => (tsC G (viewC ρ) t).bind fun c => if c then xsC G a ρ else xsC G b ρ
 | .loop t a b,ρ => whileGoC (fun ρ => tsC G (viewC ρ) t) (fun ρ => xsC G a ρ) (fun ρ => xsC G b ρ) 200 ρ
 | .forR x es a b,ρ => (evsC G (viewC ρ) es).bind fun as => (ranged as).bind fun ds => if fits ds.length then forGoC (fun ρ => xsC G a ρ) (fun ρ => xsC G b ρ) x ds ρ else none
 | .forE x e a b,ρ => (evC G (viewC ρ) e).bind fun d => (itemsS true d).bind fun ds => if fits ds.length then forGoC (fun ρ => xsC G a ρ) (fun ρ => xsC G b ρ) x ds ρ else none
 | .ret e,ρ => (evC G (frozenC ρ) e).bind fun d => if d.isEl then some (.ret d,ρ) else none
 | .brk,ρ => some (.brk,ρ)
 | .cont,ρ => some (.cont,ρ)
 | .pass,ρ => some (.next,ρ)
 | .app x g e,ρ => match ρ[x]?.join with
   | some (.own ds) => (evC G (viewC (giveC g ρ)) e).bind fun d => if d.isEl && fits ds.length then some (.next,(giveC g ρ).set x (some (.own (ds ++ [d])))) else none
   | _ => none
 | .ext x g e,ρ => match ρ[x]?.join with
   | some (.own ds) => (evC G (viewC (giveC g ρ)) e).bind fun d => (seqOf d).bind fun es => if fits (ds.length + es.length) then some (.next,(giveC g ρ).set x (some (.own (ds ++ es)))) else none
   | _ => none
 | .attempt a,ρ => (xsC G a ρ).bind fun r => match r with
   | (.next,ρ') => some (.next,ρ')
   | (.ret d,ρ') => some (.ret d,ρ')
   | _ => none
 | .fail,_ => none
noncomputable def xsC (G : GC) : List CStm → Rho → Option (Out × Rho)
 | [],ρ => some (.next,ρ)
 | s :: r,ρ => (exC G s ρ).bind fun x => match x with
   | (.next,ρ') => xsC G r ρ'
   | x => some x
end
noncomputable def runC (G : GC) (n : Nat) (body : List CStm) (as : List D) : Option D :=
 (xsC G body (as.map some ++ List.replicate n none)).bind fun r => match r with
  | (.ret d,_) => some d
  | (.next,_) => some .nil
  | _ => none
noncomputable def cGive (N : Names) (x : Str) (e : Expr) : Option (Option Nat) := match nameP e with
 | some q => if q.1 == x then some none else (match idx q.1 N.ns with | some i => some (some i) | none => some none)
 | none => some none
noncomputable def itemE : Expr → Option ((Str × Pos) × Expr × Pos)
 | .Subscript v i p => (nameP v).map fun q => (q,i,p)
 | _ => none
noncomputable def pairE (e : Expr) : Option ((Str × Pos) × (Str × Pos)) := (tupE e).bind fun es => (two es).bind fun q => (nameP q.1).bind fun a => (nameP q.2).map fun b => (a,b)
noncomputable def attrE : Expr → Option ((Str × Pos) × Str × Pos)
 | .Attribute o m apos => (nameP o).map fun q => (q,m,apos)
 | _ => none
noncomputable def mcallE : Expr → Option (((Str × Pos) × Str × Pos) × Expr × Pos)
 | .Call f as kws cpos => if kws.isEmpty then (one as).bind fun e => (attrE f).map fun q => (q,e,cpos) else none
 | _ => none
noncomputable abbrev CSF := Names → Scope → List Stmt → Option (List CStm)
noncomputable def cSet (ce : CEF) (N : Names) (sc : Scope) (x : Str) (v : Expr) : Option CStm :=
 if noComp v then (cTarget N sc x).bind fun k => (ce N sc v).map fun e => if mine v then .own k e else .set k e else none
noncomputable def cItem (ce : CEF) (N : Names) (sc : Scope) (x : Str) (i v : Expr) : Option CStm :=
 if okName x then (cTarget N sc x).bind fun a => (ce N sc i).bind fun u => (ce N sc v).map (.item a u) else none
noncomputable def cSwap (ce : CEF) (N : Names) (sc : Scope) (x y e f : Str × Pos) : Option CStm :=
 if sc.names.lookup x.1 == some .local && sc.names.lookup y.1 == some .local && x.1 != y.1 && y.2.line == x.2.line && okName e.1 then
  (cTarget N sc x.1).bind fun a => (cTarget N sc y.1).bind fun b => (ce N sc (.Name e.1 e.2)).bind fun u => (ce N sc (.Name f.1 f.2)).map (.swap a b u)
 else none
noncomputable def cAsg1 (ce : CEF) (N : Names) (sc : Scope) (t v : Expr) : Option CStm := match nameP t with
 | some q => cSet ce N sc q.1 v
 | none => match itemE t with
  | some q => cItem ce N sc q.1.1 q.2.1 v
  | none => (pairE t).bind fun q => (pairE v).bind fun u => cSwap ce N sc q.1 q.2 u.1 u.2
noncomputable def cAsg (ce : CEF) (N : Names) (sc : Scope) (ts : List Expr) (v : Expr) : Option CStm := match two ts with
 | some q => (nameP q.1).bind fun x => (nameP q.2).bind fun y => (cTarget N sc x.1).bind fun a => (cTarget N sc y.1).bind fun b => (ce N sc v).map (.set2 a b)
 | none => (one ts).bind fun t => cAsg1 ce N sc t v
noncomputable def cCallS (ce : CEF) (N : Names) (sc : Scope) (x m : Str) (apos cpos : Pos) (e : Expr) : Option CStm :=
 if okName x && (apos.endLine == cpos.line) && notStar e then
  (cTarget N sc x).bind fun k => (cGive N x e).bind fun g => (ce N sc e).bind fun u => if m == "append" then some (.app k g u) else if m == "extend" then some (.ext k g u) else none
 else none
noncomputable def cSF (ce : CEF) (ct : CTF) (cs : CSF) (N : Names) (sc : Scope) : Stmt → Option CStm
 | .Assign ts v _ => cAsg ce N sc ts v
 | .AugAssign t op v _ => (nameP t).bind fun q => (cTarget N sc q.1).bind fun a => (ce N sc v).map (.aug a op)
 | .If t b o _ => (ct N sc t).bind fun c => (cs N sc b).bind fun u => (cs N sc o).map (.ite c u)
 | .While t b o _ => (ct N sc t).bind fun c => (cs N sc b).bind fun u => (cs N sc o).map (.loop c u)
 | .For t iter b o _ => (nameP t).bind fun q => (cTarget N sc q.1).bind fun k => (cs N sc b).bind fun u => (cs N sc o).bind fun v =>
  cIter (ce N sc) (N.built sc "range") (fun es => .forR k es u v) (fun e => .forE k e u v) iter
 | .Return v _ => v.bind fun e => (ce N sc e).map .ret
 | .Break _ => some .brk
 | .Continue _ => some .cont
 | .Pass _ => some .pass
 | .Expr e _ => (mcallE e).bind fun q => cCallS ce N sc q.1.1.1 q.1.2.1 q.1.2.2 q.2.2 q.2.1
 | .Try b _ oe fe _ => if oe.isEmpty && fe.isEmpty then (cs N sc b).map .attempt else none
 | _ => none
noncomputable def cSs : Nat → CSF
 | 0,_,_,_ => none
 | n + 1,N,sc,l => match l with
  | [] => some []
  | st :: r => (cSs n N sc r).map (((cSF (cE n) (cT n) (cSs n) N sc st).getD .fail) :: ·)
set_option genSizeOf false
set_option genInjectivity false
structure GRel (N : Names) (G : GE) (C : GC) : Prop where
 fn : ∀ x,G.fn.lookup x = (idx x N.fns).bind (C.fn[·]?)
 fnN : ∀ x,(idx x N.fns).isNone = (G.fn.lookup x).isNone
 dat : ∀ x,G.dat.lookup x = (idx x N.dats).bind (C.dat[·]?)
 datN : ∀ x,(idx x N.dats).isNone = (G.dat.lookup x).isNone
structure Rel (N : Names) (sc : Scope) (σ : St) (ρ : Rho) : Prop where
 len : ρ.length = N.ns.length
 «at» : ∀ x i,isBound (sc.names.lookup x) = true → idx x N.ns = some i → σ.lookup x = ρ[i]?.join
theorem isNamed_eq {x : Str} {e : Expr} : isNamed x e = true → ∃ p,e = .Name x p := by
 cases e with
 | Name f p => intro h; cases (eq_of_beq h); exact ⟨p,rfl⟩
 | _ => exact nof
theorem rangeE_eq {e : Expr} {as : List Expr} : rangeE e = some as → ∃ p pos,e = .Call (.Name "range" p) as [] pos := by
 cases e with
 | Call f bs kws pos =>
  intro h
  obtain ⟨hc,rfl⟩ := ite_inv h
  rw [Bool.and_eq_true] at hc
  obtain ⟨p,rfl⟩ := isNamed_eq hc.1
  rw [nil_of_empty hc.2]; exact ⟨_,_,rfl⟩
 | _ => exact no
theorem sliceE_eq {e : Expr} {q : Option Expr × Option Expr} : sliceE e = some q → ∃ p,e = .Slice q.1 q.2 none p := by
 cases e with
 | Slice lo hi st p =>
  cases st with
  | none => intro h; cases h; exact ⟨_,rfl⟩
  | some _ => exact no
 | _ => exact no
theorem isIn_eq {op : CmpOp} (h : isIn op = true) : op = .In := by cases op <;> first | rfl | cases h
noncomputable def evR (G : GE) (C : GC) (n : Nat) : EV := fun sc σ e d => ∃ N ρ c,GRel N G C ∧ Rel N sc σ ρ ∧ cE n N sc e = some c ∧ evC C ρ c = some d
noncomputable def tsR (G : GE) (C : GC) (n : Nat) : TS := fun sc σ e b => ∃ N ρ c,GRel N G C ∧ Rel N sc σ ρ ∧ cT n N sc e = some c ∧ tsC C ρ c = some b
section
variable {G : GE} {C : GC} {n : Nat} {N : Names} {sc : Scope} {σ : St} {ρ : Rho}
theorem lookup_put' {x y : Str} {d : D} : ∀ {σ : St},(put x d σ).lookup y = if y = x then some d else σ.lookup y
 | [] => by
  show List.lookup y [(x,d)] = _
  rw [List.lookup_cons]
  by_cases h : y = x
  ·subst h; simp
  ·have h' : (y == x) = false := by simpa using h
   rw [h',if_neg h]
 | (z,e) :: r => by
  unfold put
  by_cases hx : (x == z) = true
  ·rw [if_pos hx]
   have hz := eq_of_beq hx
   subst hz
   rw [List.lookup_cons,List.lookup_cons]
   by_cases h : y = x
   ·subst h; simp
   ·have h' : (y == x) = false := by simpa using h
    rw [h',if_neg h]
  ·rw [if_neg hx,List.lookup_cons,List.lookup_cons,lookup_put']
   by_cases h : (y == z) = true
   ·rw [h]
    have hz := eq_of_beq h
    subst hz
    by_cases h2 : y = x
    ·subst h2; simp at hx
    ·simp [h2]
   ·have h' : (y == z) = false := by simpa using h
    rw [h']
theorem idx_inj {x y : Str} {l : List Str} {i : Nat} (hx : idx x l = some i) (hy : idx y l = some i) : x = y := by
 unfold idx at hx hy
 rw [List.findIdx?_eq_some_iff_getElem] at hx hy
 obtain ⟨h1,h2,_⟩ := hx
 obtain ⟨h3,h4,_⟩ := hy
 rw [← eq_of_beq h2,← eq_of_beq h4]
theorem idx_lt {x : Str} {l : List Str} {i : Nat} (h : idx x l = some i) : i < l.length := by
 unfold idx at h
 rw [List.findIdx?_eq_some_iff_getElem] at h
 exact h.1
theorem Rel.put {x : Str} {i : Nat} {d : D} (r : Rel N sc σ ρ) (hi : idx x N.ns = some i) : Rel N sc (put x d σ) (ρ.set i (some d)) := by
 refine ⟨by rw [List.length_set]; exact r.len,fun y j hy hj => ?_⟩
 rw [lookup_put',List.getElem?_set]
 by_cases hij : i = j
 ·subst hij
  have := idx_inj hj hi
  subst this
  rw [if_pos rfl,if_pos rfl,if_pos (by rw [r.len]; exact idx_lt hi)]
  rfl
 ·rw [if_neg hij]
  have hne : y ≠ x := fun h => by subst h; rw [hi] at hj; cases hj; exact hij rfl
  rw [if_neg hne]
  exact r.at y j hy hj
theorem allM_cons' {α β : Type} {f : α → Option β} {x : α} {xs : List α} {l : List β} (h : allM f (x :: xs) = some l) : ∃ c cs,f x = some c ∧ allM f xs = some cs ∧ l = c :: cs :=
 let ⟨c,h1,h⟩ := b2 h; let ⟨cs,h2,h⟩ := b2 h; ⟨c,cs,h1,h2,(Option.some.inj h).symm⟩
theorem all_of (g : GRel N G C) (r : Rel N sc σ ρ) : ∀ {es : List Expr} {cs : List CE} {ds : List D},allM (cE n N sc) es = some cs → evsC C ρ cs = some ds → AllR (evR G C n sc σ) es ds
 | [],cs,ds,h,e => by cases h; exact (Option.some.inj e).symm
 | x :: xs,cs,ds,h,e => by
  obtain ⟨c,cs,h1,h2,rfl⟩ := allM_cons' h
  obtain ⟨d,e1,e⟩ := b2 e
  obtain ⟨t,e2,e⟩ := b2 e
  exact ⟨d,t,⟨N,ρ,c,g,r,h1,e1⟩,all_of g r h2 e2,(Option.some.inj e).symm⟩
theorem evs_of (g : GRel N G C) (r : Rel N sc σ ρ) {es : List Expr} {cs : List CE} {ds : List D} (h : cArgs (cE n N sc) es = some cs) (e : evsC C ρ cs = some ds) : evs (evR G C n) sc σ es ds :=
 ⟨(ite_some h).1,all_of g r (ite_some h).2 e⟩
theorem every_of (g : GRel N G C) (r : Rel N sc σ ρ) {op : BoolOp} : ∀ {es : List Expr} {cs : List CT} {b : Bool},allM (cT n N sc) es = some cs → everyC C ρ op cs = some b → allT (tsR G C n) sc σ op es b
 | [],cs,b,h,e => by cases h; exact (Option.some.inj e).symm
 | x :: xs,cs,b,h,e => by
  obtain ⟨c,cs,h1,h2,rfl⟩ := allM_cons' h
  obtain ⟨t,e1,e⟩ := b2 e
  refine ⟨t,⟨N,ρ,c,g,r,h1,e1⟩,?_⟩
  cases op <;> cases t
  ·exact (Option.some.inj e).symm
  ·exact every_of g r h2 e
  ·exact every_of g r h2 e
  ·exact (Option.some.inj e).symm
theorem tests_of (g : GRel N G C) (r : Rel N sc σ ρ) : ∀ {es : List Expr} {cs : List CT} {b : Bool},allM (cT n N sc) es = some cs → testsC C ρ cs = some b → testsT (tsR G C n) sc σ es b
 | [],cs,b,h,e => by cases h; exact (Option.some.inj e).symm
 | x :: xs,cs,b,h,e => by
  obtain ⟨c,cs,h1,h2,rfl⟩ := allM_cons' h
  obtain ⟨t,e1,e⟩ := b2 e
  refine ⟨t,⟨N,ρ,c,g,r,h1,e1⟩,?_⟩
  cases t with
  | true => exact tests_of g r h2 e
  | false => exact (Option.some.inj e).symm
theorem boolv_of (g : GRel N G C) (r : Rel N sc σ ρ) {op : BoolOp} : ∀ {es : List Expr} {cs : List CE} {d : D},allM (cE n N sc) es = some cs → boolvC C ρ op cs = some d → boolV (evR G C n) sc σ op es d
 | [],cs,d,h,e => by cases h; cases e
 | x :: xs,cs,d,h,e => by
  obtain ⟨c,cs,h1,h2,rfl⟩ := allM_cons' h
  obtain ⟨a,e1,e⟩ := b2 e
  refine ⟨a,⟨N,ρ,c,g,r,h1,e1⟩,?_⟩
  cases xs with
  | nil => cases h2; exact (Option.some.inj e).symm
  | cons y ys =>
   obtain ⟨c',cs',h3,h4,rfl⟩ := allM_cons' h2
   obtain ⟨t,e2,e⟩ := b2 e
   refine ⟨t,e2,?_⟩
   cases op <;> cases t
   ·exact (Option.some.inj e).symm
   ·exact boolv_of g r h2 e
   ·exact boolv_of g r h2 e
   ·exact (Option.some.inj e).symm
theorem turns_of {x : Str} {i : Nat} {ifs : List Expr} {cs : List CT} {kC : Rho → Option (List D)} {k : St → List D → Prop} (g : GRel N G C) (hi : idx x N.ns = some i) (hc : allM (cT n N sc) ifs = some cs)
  (hk : ∀ σ ρ out,Rel N sc σ ρ → kC ρ = some out → k σ out) (r : Rel N sc σ ρ) : ∀ {ds out : List D},turnsC (fun ρ => testsC C ρ cs) i kC ρ ds = some out → turns (tsR G C n) sc x ifs k σ ds out
 | [],out,h => (Option.some.inj h).symm
 | d :: ds,out,h => by
  obtain ⟨ok,h1,h⟩ := b2 h
  obtain ⟨here,h2,h⟩ := b2 h
  obtain ⟨rr,h3,h⟩ := b2 h
  obtain ⟨hf,rfl⟩ := ite_inv h
  have rp := r.put (d := d) hi
  refine ⟨ok,here,rr,tests_of g rp hc h1,?_,turns_of g hi hc hk r h3,rfl,by rw [List.length_append]; exact fits_le hf⟩
  cases ok with
  | true => exact hk _ _ _ rp h2
  | false => exact (Option.some.inj h2).symm
theorem GRel.ns (g : GRel N G C) (l : List Str) : GRel { N with ns := l } G C := ⟨g.fn,g.fnN,g.dat,g.datN⟩
theorem built_glob {f : Str} (h : N.built sc f = true) : isGlob sc f = true := by
 unfold Names.built at h
 simp only [Bool.and_eq_true] at h
 exact h.1.1
theorem iter_of {β : Type} {A : List CE → β} {B : CE → β} {iter : Expr} {out : β} (h : cIter (cE n N sc) (N.built sc "range") A B iter = some out) :
  notSet iter = true ∧ ((∃ p as pos es,iter = .Call (.Name "range" p) as [] pos ∧ isGlob sc "range" = true ∧ cArgs (cE n N sc) as = some es ∧ out = A es) ∨ ∃ e,cE n N sc iter = some e ∧ out = B e) := by
 obtain ⟨hs,h⟩ := ite_some h
 refine ⟨hs,?_⟩
 cases hr : rangeE iter with
 | some as =>
  rw [hr] at h
  obtain ⟨hb,h⟩ := ite_some h
  obtain ⟨es,h1,rfl⟩ := m2 h
  obtain ⟨p,pos,rfl⟩ := rangeE_eq hr
  exact .inl ⟨p,as,pos,es,rfl,built_glob hb,h1,rfl⟩
 | none =>
  rw [hr] at h
  obtain ⟨e,h1,rfl⟩ := m2 h
  exact .inr ⟨e,h1,rfl⟩
theorem isBound_held {k : Option NameKind} (h : isHeld k = true) : isBound k = true := by
 unfold isHeld at h; unfold isBound
 cases hk : k == some NameKind.local <;> cases hc : k == some NameKind.cell <;> simp_all
theorem target_ok {x : Str} {k : Nat} (h : cTarget N sc x = some k) : isHeld (sc.names.lookup x) = true ∧ idx x N.ns = some k := ite_some h
theorem head_of {M : Names} {scope : Scope} {c : Comprehension} {cg : CG} (g : GRel N G C) (gM : GRel M G C) (h : cHead (cE n) (cT n) N sc M scope c = some cg) (r : Rel N sc σ ρ) {σ' : St} {ρ' : Rho} (r' : Rel M scope σ' ρ') {strict : Bool}
  {kC : Rho → Option (List D)} {k : St → List D → Prop} (hk : ∀ σ ρ out,Rel M scope σ ρ → kC ρ = some out → k σ out) {out : List D} (he : headC C strict ρ ρ' kC cg = some out) :
  ∃ x px iter ifs xs,c = ⟨.Name x px,iter,ifs,0⟩ ∧ isHeld (scope.names.lookup x) = true ∧ idx x M.ns = some cg.tgt ∧ iterE strict (evR G C n) sc σ iter xs ∧ turns (tsR G C n) scope x ifs k σ' xs out := by
 obtain ⟨t,iter,ifs,a⟩ := c
 obtain ⟨ha,h⟩ := ite_some h
 obtain rfl : a = 0 := eq_of_beq ha
 obtain ⟨q,hq,h⟩ := b2 h
 obtain ⟨i,h1,h⟩ := b2 h
 obtain ⟨tt,h2,h⟩ := b2 h
 obtain rfl : t = _ := nameP_eq hq
 obtain ⟨hh,hi⟩ := target_ok h1
 obtain ⟨hns,hit⟩ := iter_of h
 rcases hit with ⟨p,as,pos,es,rfl,hg,q3,rfl⟩ | ⟨e,q2,rfl⟩
 ·obtain ⟨vs,e1,he⟩ := b2 he
  obtain ⟨xs,e2,he⟩ := b2 he
  exact ⟨_,_,_,ifs,xs,rfl,hh,hi,⟨hns,.inl ⟨p,as,pos,vs,rfl,hg,evs_of g r q3 e1,e2⟩⟩,turns_of gM hi h2 hk r' (ite_some he).2⟩
 ·obtain ⟨d,e1,he⟩ := b2 he
  obtain ⟨xs,e2,he⟩ := b2 he
  exact ⟨_,_,_,ifs,xs,rfl,hh,hi,⟨hns,.inr ⟨d,⟨N,ρ,e,g,r,q2,e1⟩,e2⟩⟩,turns_of gM hi h2 hk r' (ite_some he).2⟩
theorem gens_of (g : GRel N G C) {elt : Expr} {celt : CE} (hc : cE n N sc elt = some celt) :
  ∀ {gens : List Comprehension} {cgs : List CG} {σ : St} {ρ : Rho} {out : List D},allM (cHead (cE n) (cT n) N sc N sc) gens = some cgs → Rel N sc σ ρ →
   gensC C (fun ρ' => (evC C ρ' celt).bind fun d => if d.isEl then some [d] else none) cgs ρ = some out → compGo (evR G C n) (tsR G C n) sc elt gens σ out
 | [],cgs,σ,ρ,out,h,r,he => by
  cases h
  obtain ⟨d,e1,he⟩ := b2 he
  obtain ⟨hd,rfl⟩ := ite_inv he
  exact ⟨d,⟨N,ρ,celt,g,r,hc,e1⟩,hd,rfl⟩
 | c :: rest,cgs,σ,ρ,out,h,r,he => by
  obtain ⟨cg,cgs',h1,h2,rfl⟩ := allM_cons' h
  obtain ⟨hn,he⟩ := ite_some he
  obtain ⟨x,px,iter,ifs,xs,rfl,q1,q2,q3,q4⟩ := head_of g g h1 r r (strict := true) (k := compGo (evR G C n) (tsR G C n) sc elt rest) (fun σ ρ out rr hb => gens_of g hc h2 rr hb) he
  refine ⟨x,px,iter,ifs,xs,rfl,q1,?_,q3,q4⟩
  rw [r.at x _ (isBound_held q1) q2]
  exact Option.isNone_iff_eq_none.mp hn
theorem lookup_filter {f : Str × D → Bool} {b : Bool} {x : Str} (hf : ∀ d,f (x,d) = b) : ∀ {σ : St},(σ.filter f).lookup x = if b then σ.lookup x else none
 | [] => by cases b <;> rfl
 | (y,e) :: r => by
  rw [List.filter_cons]
  by_cases h : (x == y) = true
  ·have := eq_of_beq h; subst this
   rw [hf]
   cases b with
   | true => simp
   | false => simpa using lookup_filter hf (σ := r)
  ·have h' : (x == y) = false := by simpa using h
   split
   ·rw [List.lookup_cons,List.lookup_cons,h',lookup_filter hf (σ := r)]
   ·rw [List.lookup_cons,h',lookup_filter hf (σ := r)]
theorem frees_get : ∀ {l : List Str} {ix : List Nat},frees N l = some ix → ix.length = l.length ∧ ∀ (i : Nat) (x : Str),l[i]? = some x → ∃ j : Nat,ix[i]? = some j ∧ idx x N.ns = some j
 | [],ix,h => by cases h; exact ⟨rfl,fun i x h => by simp at h⟩
 | y :: r,ix,h => by
  simp only [frees] at h
  obtain ⟨j,h1,h⟩ := b2 h
  obtain ⟨ix',h2,rfl⟩ := m2 h
  obtain ⟨hl,hg⟩ := frees_get h2
  refine ⟨by simp [hl],fun i x hx => ?_⟩
  cases i with
  | zero => simp at hx; subst hx; exact ⟨j,rfl,h1⟩
  | succ i => simp at hx; simpa using hg i x hx
theorem idx_get {x : Str} {l : List Str} {i : Nat} (h : idx x l = some i) : l[i]? = some x := by
 unfold idx at h
 rw [List.findIdx?_eq_some_iff_getElem] at h
 obtain ⟨h1,h2,_⟩ := h
 rw [List.getElem?_eq_getElem h1,eq_of_beq h2]
theorem comp_rel {scope : Scope} {fr lo : List Str} {ix : List Nat} (hfr : fr = (scope.names.filter fun p => p.2 == .free).map (·.1)) (hlo : lo = (scope.names.filter fun p => p.2 == .local || p.2 == .cell).map (·.1))
  (hok : scopeOk sc scope = true) (hx : frees N fr = some ix) (r : Rel N sc σ ρ) :
  Rel { N with ns := fr ++ lo } scope (freeOf scope σ) (ix.map (fun i => ρ[i]?.join) ++ List.replicate lo.length none) := by
 obtain ⟨hl,hg⟩ := frees_get hx
 have hnm : ∀ n k,(n,k) ∈ scope.names → scope.names.lookup n = some k ∧ (k = .free → sc.names.lookup n = some .cell ∨ sc.names.lookup n = some .free) := by
  intro n k hm
  unfold scopeOk at hok
  rw [Bool.and_eq_true,List.all_eq_true] at hok
  have := hok.2 (n,k) hm
  rw [Bool.and_eq_true] at this
  refine ⟨by simpa using this.1,fun hk => ?_⟩
  subst hk
  have := this.2
  simpa using this
 refine ⟨by simp [hl],fun x i hb hi => ?_⟩
 show _ = _
 have hi' : (fr ++ lo)[i]? = some x := idx_get hi
 unfold freeOf
 by_cases hlt : i < fr.length
 ·rw [List.getElem?_append_left hlt] at hi'
  obtain ⟨j,h1,h2⟩ := hg i x hi'
  have hm : (x,NameKind.free) ∈ scope.names := by
   have := List.mem_of_getElem? hi'
   rw [hfr,List.mem_map] at this
   obtain ⟨⟨a,b⟩,hm,rfl⟩ := this
   rw [List.mem_filter] at hm
   have h2 := hm.2
   have : b = .free := by simpa using h2
   subst this
   exact hm.1
  obtain ⟨l1,l2⟩ := hnm _ _ hm
  rw [lookup_filter (b := true) (fun d => by simp [l1])]
  rw [List.getElem?_append_left (by rw [List.length_map,hl]; exact hlt),List.getElem?_map,h1]
  have hbo : isBound (sc.names.lookup x) = true := by
   rcases l2 rfl with h | h <;> rw [h] <;> rfl
  simpa using r.at x j hbo h2
 ·rw [List.getElem?_append_right (by lia)] at hi'
  have hm : ∃ k,(x,k) ∈ scope.names ∧ (k = .local ∨ k = .cell) := by
   have := List.mem_of_getElem? hi'
   rw [hlo,List.mem_map] at this
   obtain ⟨⟨a,b⟩,hm,rfl⟩ := this
   rw [List.mem_filter] at hm
   have h2 := hm.2
   exact ⟨b,hm.1,by simpa using h2⟩
  obtain ⟨k,hm,hk⟩ := hm
  have l1 := (hnm _ _ hm).1
  have hi'' := hi'
  rw [List.getElem?_eq_some_iff] at hi''
  obtain ⟨hlt2,_⟩ := hi''
  rw [lookup_filter (b := false) (fun d => by rw [l1]; rcases hk with rfl | rfl <;> rfl)]
  rw [List.getElem?_append_right (by rw [List.length_map,hl]; lia),List.length_map,hl,List.getElem?_replicate,if_pos hlt2]
  rfl
theorem comp_of (g : GRel N G C) {elt : Expr} {gens : List Comprehension} {scope : Scope} {c : CE} {d : D} (h : cComp (cE n) (cT n) N sc elt gens scope = some c) (r : Rel N sc σ ρ) (he : evC C ρ c = some d) :
  ∃ out,comp (evR G C n) (tsR G C n) sc σ elt gens scope out ∧ d = .list out := by
 obtain ⟨hok,h⟩ := ite_some h
 obtain ⟨ix,h1,h⟩ := b2 h
 obtain ⟨celt,h2,h⟩ := b2 h
 cases gens with
 | nil => cases h
 | cons g0 rest =>
  obtain ⟨cg,h3,h⟩ := b2 h
  obtain ⟨cgs,h4,rfl⟩ := m2 h
  obtain ⟨out,h5,rfl⟩ := m2 he
  have rr := comp_rel rfl rfl hok h1 r
  obtain ⟨x,px,iter,ifs,xs,rfl,q1,q2,q3,q4⟩ := head_of g (g.ns _) h3 r rr (strict := false) (k := compGo (evR G C n) (tsR G C n) scope elt rest) (fun σ ρ out rr hb => gens_of (g.ns _) h2 h4 rr hb) h5
  exact ⟨out,⟨x,px,iter,ifs,rest,xs,rfl,hok,q1,q3,q4⟩,rfl⟩
end
section
variable {prog : Program} {w : World} {lv : Nat} {h₀ : Heap} {B : Addr → Prop} {A : Around} {s : Shared} {env : Env} {G : GE} {C : GC} {n : Nat} {N : Names} {sc : Scope} {σ : St} {ρ : Rho}
theorem cmp_of {β : Type} {mk : CmpOp → CE → CE → β} {mt : CE → List (List Nat) → β} {l : Expr} {ops : List CmpOp} {rs : List Expr} {c : β} (h : cCmp (cE n N sc) mk mt l ops rs = some c) :
  (∃ k p es a ls,ops = [.In] ∧ rs = [.Tuple es k p] ∧ cE n N sc l = some a ∧ strsConst es = some ls ∧ c = mt a ls) ∨ ∃ op r a b,ops = [op] ∧ rs = [r] ∧ behindInMarks op r = false ∧ cE n N sc l = some a ∧ cE n N sc r = some b ∧ c = mk op a b := by
 obtain ⟨op,h1,h⟩ := b2 h
 obtain ⟨r,h2,h⟩ := b2 h
 have q1 := one_eq h1
 have q2 := one_eq h2
 have go : cTwo (cE n N sc) mk l op r = some c → ∃ op r a b,ops = [op] ∧ rs = [r] ∧ behindInMarks op r = false ∧ cE n N sc l = some a ∧ cE n N sc r = some b ∧ c = mk op a b := fun h => by
  unfold cTwo at h
  cases hm : behindInMarks op r with
  | true => rw [hm] at h; cases h
  | false =>
   rw [hm] at h
   obtain ⟨a,h3,h⟩ := b2 h
   obtain ⟨b,h4,rfl⟩ := m2 h
   exact ⟨op,r,a,b,q1,q2,hm,h3,h4,rfl⟩
 cases hi : isIn op with
 | false => rw [hi] at h; exact .inr (go h)
 | true =>
  rw [hi] at h
  cases ht : tupE r with
  | none => rw [ht] at h; exact .inr (go h)
  | some es =>
   rw [ht] at h
   obtain ⟨a,h3,h⟩ := b2 h
   obtain ⟨ls,h4,rfl⟩ := m2 h
   obtain ⟨k,p,rfl⟩ := tupE_eq ht
   exact .inl ⟨k,p,es,a,ls,by rw [q1,isIn_eq hi],q2,h3,h4,rfl⟩
theorem callN_sound (H : EvS prog w lv h₀ (evR G C n)) (gd : Gd prog w lv G h₀) (hG : ∀ x F,G.fn.lookup x = some F → (x == ("__debug__" : Str)) = false) (g : GRel N G C) (r : Rel N sc σ ρ) (o : Ok lv h₀ B A s) (eo : EnvOK env sc) (sees : Sees prog w B env σ s.heap)
  {f : Str} {p pos : Pos} {as : List Expr} {c : CE} {d : D} (h : cCallN (cE n N sc) N sc f as = some c) (he : evC C ρ c = some d) : Yd prog w B A s (eval (.Call (.Name f p) as [] pos) env) d := by
 unfold cCallN at h
 split at h
 ·rename_i hf
  obtain rfl := eq_of_beq hf
  obtain ⟨q,h1,h⟩ := b2 h
  obtain ⟨hc,h⟩ := ite_some h
  obtain ⟨c',h2,rfl⟩ := m2 h
  simp only [Bool.and_eq_true] at hc
  obtain ⟨d',h3,he⟩ := b2 he
  obtain ⟨p',hp⟩ := isNamed_eq hc.1.1.2
  cases d' with
  | int m => cases he; rw [two_eq h1,hp]; exact isinstance_ev H gd eo o sees hc.2 hc.1.1.1 hc.1.2 ⟨N,ρ,c',g,r,h2,h3⟩
  | _ => first | exact no he | exact nof he | cases he
 split at h
 ·rename_i hf
  obtain rfl := eq_of_beq hf
  obtain ⟨q,h1,h⟩ := b2 h
  obtain ⟨hc,h⟩ := ite_some h
  obtain ⟨c',h2,rfl⟩ := m2 h
  simp only [Bool.and_eq_true] at hc
  obtain ⟨d',h3,he⟩ := b2 he
  obtain ⟨k,p',hp⟩ := cstr_eq (eq_of_beq hc.1.2)
  cases d' with
  | str m => cases he; rw [two_eq h1,hp]; exact hasattr_ev H gd eo o sees hc.2 hc.1.1 ⟨N,ρ,c',g,r,h2,h3⟩
  | _ => first | exact no he | exact nof he | cases he
 split at h
 ·rename_i hf
  obtain rfl := eq_of_beq hf
  obtain ⟨e,h1,h⟩ := b2 h
  obtain ⟨bs,h2,h⟩ := b2 h
  obtain ⟨hc,h⟩ := ite_some h
  obtain ⟨es,h3,rfl⟩ := m2 h
  rw [Bool.and_eq_true] at hc
  obtain ⟨ds,h4,he⟩ := b2 he
  obtain ⟨xs,h5,rfl⟩ := m2 he
  obtain ⟨q,pos2,rfl⟩ := rangeE_eq h2
  rw [one_eq h1]
  exact (listRange_evF H gd eo o sees hc.1 hc.2 (evs_of g r h3 h4) h5).yd o
 ·obtain ⟨hg,h⟩ := ite_some h
  obtain ⟨es,h1,h⟩ := b2 h
  cases hi : idx f N.fns with
  | some k =>
   rw [hi] at h
   cases h
   obtain ⟨ds,h2,he⟩ := b2 he
   obtain ⟨F,h3,he⟩ := b2 he
   obtain ⟨d',h4,he⟩ := b2 he
   obtain ⟨_,rfl⟩ := ite_inv he
   have hF : G.fn.lookup f = some F := by rw [g.fn,hi]; exact h3
   exact callFn_ev H gd eo o sees (hG f F hF) hg (evs_of g r h1 h2) hF h4
  | none =>
   rw [hi] at h
   obtain ⟨_,rfl⟩ := ite_inv h
   obtain ⟨ds,h2,he⟩ := b2 he
   exact callBlt_ev H gd eo o sees hg (evs_of g r h1 h2) he
theorem opt_of (g : GRel N G C) (r : Rel N sc σ ρ) {x : Option Expr} {c : CE} {d : D} (h : cOpt (cE n N sc) x = some c) (he : evC C ρ c = some d) : optE (evR G C n) sc σ x d := by
 cases x with
 | none => cases h; exact (Option.some.inj he).symm
 | some e => exact ⟨N,ρ,c,g,r,h,he⟩
theorem cE_sound (gd : Gd prog w lv G h₀) (hG : ∀ x F,G.fn.lookup x = some F → (x == ("__debug__" : Str)) = false) (H : EvS prog w lv h₀ (evR G C n)) (HT : TsS prog w lv h₀ (tsR G C n)) : EvS prog w lv h₀ (evR G C (n + 1)) := by
 rintro sc σ e d ⟨N,ρ,c,g,r,h,he⟩ A s B env o eo sees
 have h : cEF (cE n) (cT n) N sc e = some c := h
 cases e with
 | Constant k kd p => obtain ⟨v,h1,rfl⟩ := m2 h; cases he; exact const_sound h1
 | Name x p =>
  obtain ⟨ho,h⟩ := ite_some h
  cases hb : isBound (sc.names.lookup x) with
  | true =>
   rw [hb] at h
   obtain ⟨i,h1,rfl⟩ := m2 h
   exact name_var ho eo sees ((r.at x i hb h1).trans he)
  | false =>
   rw [hb] at h
   obtain ⟨hg,h⟩ := ite_some h
   obtain ⟨i,h1,rfl⟩ := m2 h
   exact name_dat ho hg gd o eo (by rw [g.dat,h1]; exact he)
 | BinOp l op rr p =>
  obtain ⟨a,h1,h⟩ := b2 h
  obtain ⟨b,h2,rfl⟩ := m2 h
  obtain ⟨x,h3,he⟩ := b2 he
  obtain ⟨y,h4,he⟩ := b2 he
  exact binop_ev H o eo sees ⟨N,ρ,a,g,r,h1,h3⟩ ⟨N,ρ,b,g,r,h2,h4⟩ he
 | BoolOp op vs p =>
  obtain ⟨es,h1,rfl⟩ := m2 h
  rw [arm_eval_BoolOp]
  exact boolV_ev H eo o sees (boolv_of g r h1 he)
 | Compare l ops rs p =>
  rcases cmp_of h with ⟨k,p',es,a,ls,rfl,rfl,h1,h2,rfl⟩ | ⟨op,rr,a,b,rfl,rfl,hm,h1,h2,rfl⟩
  ·obtain ⟨x,h3,he⟩ := b2 he
   obtain ⟨hf,he⟩ := ite_some he
   obtain ⟨c,h4,rfl⟩ := m2 he
   exact fun Q E hQ => wpAny_Compare1 (inTexts H eo o sees ⟨N,ρ,a,g,r,h1,h3⟩ h2 h4 hf fun s' k => hQ _ _ k rfl) rfl
  ·obtain ⟨x,h3,he⟩ := b2 he
   obtain ⟨y,h4,he⟩ := b2 he
   cases ht : y.isTexts with
   | true => rw [ht] at he; cases he
   | false =>
    rw [ht] at he
    obtain ⟨c,h5,rfl⟩ := m2 he
    exact compare_ev H o eo sees hm ⟨N,ρ,a,g,r,h1,h3⟩ ⟨N,ρ,b,g,r,h2,h4⟩ ht h5
 | IfExp t b o' p =>
  obtain ⟨ct,h1,h⟩ := b2 h
  obtain ⟨x,h2,h⟩ := b2 h
  obtain ⟨y,h3,rfl⟩ := m2 h
  obtain ⟨v,h4,he⟩ := b2 he
  refine ifexp_ev H HT o eo sees ⟨N,ρ,ct,g,r,h1,h4⟩ ?_
  cases v with
  | true => exact ⟨N,ρ,x,g,r,h2,he⟩
  | false => exact ⟨N,ρ,y,g,r,h3,he⟩
 | List es p =>
  obtain ⟨cs,h1,rfl⟩ := m2 h
  obtain ⟨ds,h2,he⟩ := b2 he
  obtain ⟨hc,rfl⟩ := ite_inv he
  exact (list_evF H eo o sees (evs_of g r h1 h2) hc).yd o
 | Subscript v i p =>
  obtain ⟨oc,h1,h⟩ := b2 h
  cases hs : sliceE i with
  | some q =>
   rw [hs] at h
   obtain ⟨l,h2,h⟩ := b2 h
   obtain ⟨u,h3,rfl⟩ := m2 h
   obtain ⟨a,h4,he⟩ := b2 he
   obtain ⟨b,h5,he⟩ := b2 he
   obtain ⟨k,h6,he⟩ := b2 he
   obtain ⟨ps,rfl⟩ := sliceE_eq hs
   exact slice_ev H eo o sees ⟨N,ρ,oc,g,r,h1,h4⟩ (opt_of g r h2 h5) (opt_of g r h3 h6) he
  | none =>
   rw [hs] at h
   obtain ⟨k,h2,rfl⟩ := m2 h
   obtain ⟨a,h4,he⟩ := b2 he
   obtain ⟨b,h5,he⟩ := b2 he
   exact subs_ev (fun l u ps hh => by rw [hh] at hs; cases hs) H eo o sees ⟨N,ρ,oc,g,r,h1,h4⟩ ⟨N,ρ,k,g,r,h2,h5⟩ he
 | Call f as kws pos =>
  obtain ⟨hk,h⟩ := ite_some h
  obtain rfl := nil_of_empty hk
  cases f with
  | Attribute ob m apos =>
   obtain ⟨hc,h⟩ := ite_some h
   simp only [Bool.and_eq_true,decide_eq_true_eq] at hc
   obtain ⟨a,h1,h⟩ := b2 h
   obtain ⟨es,h2,rfl⟩ := m2 h
   obtain ⟨x,h3,he⟩ := b2 he
   obtain ⟨vs,h4,he⟩ := b2 he
   exact meth_ev H eo o sees hc.1.1 hc.1.2 hc.2 ⟨N,ρ,a,g,r,h1,h3⟩ (evs_of g r h2 h4) he
  | Name f p => exact callN_sound H gd hG g r o eo sees h he
  | _ => first | exact no h | exact nof h | cases h
 | ListComp elt gens scope pos =>
  obtain ⟨out,h1,rfl⟩ := comp_of g h r he
  exact comp_ev H HT gd o eo sees h1
 | _ => first | exact no h | exact nof h | cases h
theorem cT_sound (H : EvS prog w lv h₀ (evR G C n)) (HT : TsS prog w lv h₀ (tsR G C n)) : TsS prog w lv h₀ (tsR G C (n + 1)) := by
 rintro sc σ e b ⟨N,ρ,c,g,r,h,he⟩ A s B env o eo sees
 have h : cTF (cE n) (cT n) N sc e = some c := h
 have val : (cE n N sc e).map CT.val = some c → isTrue e env (eval e env) = (do let v ← eval e env; standAt e.pos; holding [v] (truthy v)) → Tr prog w A s (isTrue e env (eval e env)) b := fun h hv => by
  obtain ⟨c',h1,rfl⟩ := m2 h
  obtain ⟨d,h2,he⟩ := b2 he
  exact value_ts H o eo sees ⟨N,ρ,c',g,r,h1,h2⟩ he hv
 cases e with
 | UnaryOp op x p =>
  obtain ⟨hn,h⟩ := ite_some h
  obtain ⟨t,h1,rfl⟩ := m2 h
  obtain ⟨v,h2,rfl⟩ := m2 he
  cases op with
  | Not => exact not_ts HT o eo sees ⟨N,ρ,t,g,r,h1,h2⟩
  | _ => first | exact no hn | exact nof hn | cases hn
 | BoolOp op vs p =>
  obtain ⟨es,h1,rfl⟩ := m2 h
  exact fun Q E hQ => wpAny_isTrue_BoolOp (allT_ts HT eo o sees (every_of g r h1 he) Q E hQ)
 | IfExp => cases h
 | Compare l ops rs p =>
  rcases cmp_of h with ⟨k,p',es,a,ls,rfl,rfl,h1,h2,rfl⟩ | ⟨op,rr,a,b',rfl,rfl,hm,h1,h2,rfl⟩
  ·obtain ⟨x,h3,he⟩ := b2 he
   obtain ⟨hf,he⟩ := ite_some he
   exact fun Q E hQ => wpAny_isTrue_Compare1 (inTexts H eo o sees ⟨N,ρ,a,g,r,h1,h3⟩ h2 he hf fun s' k => wpAny_truthy_bool (hQ _ k)) rfl
  ·obtain ⟨x,h3,he⟩ := b2 he
   obtain ⟨y,h4,he⟩ := b2 he
   cases ht : y.isTexts with
   | true => rw [ht] at he; cases he
   | false =>
    rw [ht] at he
    exact compare_ts H o eo sees hm ⟨N,ρ,a,g,r,h1,h3⟩ ⟨N,ρ,b',g,r,h2,h4⟩ ht he
 | _ => exact val h rfl
theorem ev_ts_sound (gd : Gd prog w lv G h₀) (hG : ∀ x F,G.fn.lookup x = some F → (x == ("__debug__" : Str)) = false) : ∀ n,EvS prog w lv h₀ (evR G C n) ∧ TsS prog w lv h₀ (tsR G C n)
 | 0 => ⟨fun _ _ _ _ ⟨_,_,_,_,_,h,_⟩ => (by cases h),fun _ _ _ _ ⟨_,_,_,_,_,h,_⟩ => (by cases h)⟩
 | n + 1 => ⟨cE_sound gd hG (ev_ts_sound gd hG n).1 (ev_ts_sound gd hG n).2,cT_sound (ev_ts_sound gd hG n).1 (ev_ts_sound gd hG n).2⟩
end
theorem itemE_eq {e : Expr} {q : (Str × Pos) × Expr × Pos} : itemE e = some q → e = .Subscript (.Name q.1.1 q.1.2) q.2.1 q.2.2 := by
 cases e with
 | Subscript v i p => intro h; obtain ⟨a,h1,rfl⟩ := m2 h; rw [nameP_eq h1]
 | _ => exact no
theorem pairE_eq {e : Expr} {q : (Str × Pos) × (Str × Pos)} (h : pairE e = some q) : ∃ k p,e = .Tuple [.Name q.1.1 q.1.2,.Name q.2.1 q.2.2] k p := by
 obtain ⟨es,h1,h⟩ := b2 h
 obtain ⟨u,h2,h⟩ := b2 h
 obtain ⟨a,h3,h⟩ := b2 h
 obtain ⟨b,h4,rfl⟩ := m2 h
 obtain ⟨k,p,rfl⟩ := tupE_eq h1
 rw [two_eq h2,nameP_eq h3,nameP_eq h4]; exact ⟨_,_,rfl⟩
theorem attrE_eq {e : Expr} {q : (Str × Pos) × Str × Pos} : attrE e = some q → e = .Attribute (.Name q.1.1 q.1.2) q.2.1 q.2.2 := by
 cases e with
 | Attribute o m apos => intro h; obtain ⟨z,h3,rfl⟩ := m2 h; rw [nameP_eq h3]
 | _ => exact no
theorem mcallE_eq {e : Expr} {q : ((Str × Pos) × Str × Pos) × Expr × Pos} : mcallE e = some q → e = .Call (.Attribute (.Name q.1.1.1 q.1.1.2) q.1.2.1 q.1.2.2) [q.2.1] [] q.2.2 := by
 cases e with
 | Call f as kws p =>
  intro h
  obtain ⟨hk,h⟩ := ite_some h
  obtain ⟨a,h1,h⟩ := b2 h
  obtain ⟨u,h2,rfl⟩ := m2 h
  rw [attrE_eq h2,one_eq h1,nil_of_empty hk]
 | _ => exact no
section
variable {G : GE} {C : GC} {n : Nat} {N : Names} {sc : Scope} {σ : St} {ρ : Rho}
theorem lookup_map (f : D → D) (x : Str) : ∀ (σ : St),(σ.map fun p => (p.1,f p.2)).lookup x = (σ.lookup x).map f
 | [] => rfl
 | (y,d) :: r => by
  rw [List.map_cons,List.lookup_cons,List.lookup_cons,lookup_map f x r]
  cases x == y <;> rfl
theorem join_map (f : D → D) (ρ : Rho) (i : Nat) : ((ρ.map (Option.map f))[i]?).join = (ρ[i]?.join).map f := by
 rw [List.getElem?_map]
 cases ρ[i]? with
 | none => rfl
 | some o => cases o <;> rfl
theorem Rel.view (r : Rel N sc σ ρ) : Rel N sc (view σ) (viewC ρ) :=
 ⟨by unfold viewC; rw [List.length_map]; exact r.len,fun x i hb hi => by unfold Mine.view viewC; rw [lookup_map,join_map,r.at x i hb hi]⟩
theorem Rel.frozen (r : Rel N sc σ ρ) : Rel N sc (frozen σ) (frozenC ρ) :=
 ⟨by unfold frozenC; rw [List.length_map]; exact r.len,fun x i hb hi => by unfold Mine.frozen frozenC; rw [lookup_map,join_map,r.at x i hb hi]⟩
theorem giveC_len (g : Option Nat) (ρ : Rho) : (giveC g ρ).length = ρ.length := by
 unfold giveC
 split
 ·rfl
 ·split
  ·rw [List.length_set]
  ·rfl
theorem giveC_ne {i j : Nat} (h : i ≠ j) (ρ : Rho) : (giveC (some i) ρ)[j]? = ρ[j]? := by
 unfold giveC
 simp only
 split
 ·rw [List.getElem?_set,if_neg h]
 ·rfl
theorem Rel.give {x : Str} {e : Expr} {g : Option Nat} (h : cGive N x e = some g) (r : Rel N sc σ ρ) : Rel N sc (given x e σ) (giveC g ρ) := by
 unfold cGive at h
 unfold given
 cases hq : nameP e with
 | none => rw [hq] at h; cases h; exact r
 | some q =>
  rw [hq] at h
  clear hq
  have h : (if q.1 == x then some none else (match idx q.1 N.ns with | some i => some (some i) | none => some none)) = some g := h
  show Rel N sc (if q.1 == x then σ else (match σ.lookup q.1 with | some (.own ds) => Mine.put q.1 (.list ds) σ | _ => σ)) (giveC g ρ)
  cases hy : q.1 == x with
  | true => rw [hy] at h; cases h; exact r
  | false =>
   rw [hy] at h
   simp only [Bool.false_eq_true,if_false] at h ⊢
   refine ⟨by rw [giveC_len]; exact r.len,fun z j hb hj => ?_⟩
   have h0 := r.at z j hb hj
   cases hi : idx q.1 N.ns with
   | none =>
    rw [hi] at h
    cases h
    have hzy : z ≠ q.1 := fun e => by rw [← e,hj] at hi; cases hi
    show _ = ρ[j]?.join
    split
    ·rw [lookup_put',if_neg hzy]; exact h0
    ·exact h0
   | some i =>
    rw [hi] at h
    cases h
    by_cases hzy : z = q.1
    ·rw [← hzy,hj] at hi; cases hi
     have hl : j < ρ.length := by rw [r.len]; exact idx_lt hj
     rw [← hzy,h0]
     show List.lookup z (match ρ[j]?.join with | some (.own ds) => Mine.put z (.list ds) σ | _ => σ) = (match ρ[j]?.join with | some (.own ds) => ρ.set j (some (.list ds)) | _ => ρ)[j]?.join
     rcases hq : ρ[j]?.join with _ | d
     ·rw [h0,hq]
     ·cases d with
      | own ds => simp [lookup_put',hl]
      | _ => simp only [h0,hq]
    ·have hij : i ≠ j := fun e => by subst e; exact hzy (idx_inj hj hi)
     rw [giveC_ne hij]
     split
     ·rw [lookup_put',if_neg hzy]; exact h0
     ·exact h0
end
section
variable {prog : Program} {w : World} {lv : Nat} {h₀ : Heap} {G : GE} {C : GC} {n : Nat} {N : Names} {sc : Scope} {σ : St} {ρ ρ' : Rho} {out : Out}
noncomputable def xsS (prog : Program) (w : World) (lv : Nat) (h₀ : Heap) : XS := fun sc σ l out σ' => StS prog w lv h₀ sc σ out σ' (execs l)
theorem xsS_ok : XsS prog w lv h₀ (xsS prog w lv h₀) := fun _ _ _ _ _ h => h
noncomputable def Runs (prog : Program) (w : World) (lv : Nat) (h₀ : Heap) (N : Names) (sc : Scope) (σ : St) (out : Out) (ρ' : Rho) (t : Env → Sem Flow) : Prop := ∃ σ',Rel N sc σ' ρ' ∧ StS prog w lv h₀ sc σ out σ' t
noncomputable def SXok (prog : Program) (w : World) (lv : Nat) (h₀ : Heap) (G : GE) (C : GC) (cs : CSF) : Prop :=
 ∀ N sc l b σ ρ out ρ',GRel N G C → cs N sc l = some b → Rel N sc σ ρ → xsC C b ρ = some (out,ρ') → Runs prog w lv h₀ N sc σ out ρ' (execs l)
theorem forGo_ok {cs : CSF} {x : Str} {i : Nat} {body orelse : List Stmt} {kb ke : List CStm} (hi : idx x N.ns = some i) (g : GRel N G C) (S : SXok prog w lv h₀ G C cs) (h1 : cs N sc body = some kb) (h2 : cs N sc orelse = some ke) :
  ∀ {ds : List D} {σ : St} {ρ : Rho} {out : Out} {ρ' : Rho},Rel N sc σ ρ → forGoC (fun ρ => xsC C kb ρ) (fun ρ => xsC C ke ρ) i ds ρ = some (out,ρ') → ∃ σ',Rel N sc σ' ρ' ∧ forGo (xsS prog w lv h₀) sc x body orelse ds σ out σ'
 | [],σ,ρ,out,ρ',r,h => S _ _ _ _ _ _ _ _ g h2 r h
 | d :: ds,σ,ρ,out,ρ',r,h => by
  obtain ⟨⟨o,ρ₁⟩,e1,h⟩ := b2 h
  obtain ⟨σ₁,r1,e2⟩ := S _ _ _ _ _ _ _ _ g h1 (r.put (d := d) hi) e1
  cases o with
  | next => exact let ⟨σ',r',f⟩ := forGo_ok hi g S h1 h2 r1 h; ⟨σ',r',_,σ₁,e2,f⟩
  | cont => exact let ⟨σ',r',f⟩ := forGo_ok hi g S h1 h2 r1 h; ⟨σ',r',_,σ₁,e2,f⟩
  | brk => cases h; exact ⟨σ₁,r1,_,σ₁,e2,rfl,rfl⟩
  | ret v => cases h; exact ⟨σ₁,r1,_,σ₁,e2,rfl,rfl⟩
theorem whileGo_ok {cs : CSF} {test : Expr} {t : CT} {body orelse : List Stmt} {kb ke : List CStm} (g : GRel N G C) (S : SXok prog w lv h₀ G C cs) (h0 : cT n N sc test = some t) (h1 : cs N sc body = some kb) (h2 : cs N sc orelse = some ke) :
  ∀ {k : Nat} {σ : St} {ρ : Rho} {out : Out} {ρ' : Rho},Rel N sc σ ρ → whileGoC (fun ρ => tsC C (viewC ρ) t) (fun ρ => xsC C kb ρ) (fun ρ => xsC C ke ρ) k ρ = some (out,ρ') → ∃ σ',Rel N sc σ' ρ' ∧ whileGo (tsR G C n) (xsS prog w lv h₀) sc test body orelse k σ out σ'
 | 0,σ,ρ,out,ρ',r,h => by cases h
 | k + 1,σ,ρ,out,ρ',r,h => by
  obtain ⟨b,e0,h⟩ := b2 h
  have et : tsR G C n sc (view σ) test b := ⟨N,_,t,g,r.view,h0,e0⟩
  cases b with
  | false => exact let ⟨σ',r',f⟩ := S _ _ _ _ _ _ _ _ g h2 r h; ⟨σ',r',false,et,f⟩
  | true =>
   obtain ⟨⟨o,ρ₁⟩,e1,h⟩ := b2 h
   obtain ⟨σ₁,r1,e2⟩ := S _ _ _ _ _ _ _ _ g h1 r e1
   cases o with
   | next => exact let ⟨σ',r',f⟩ := whileGo_ok g S h0 h1 h2 r1 h; ⟨σ',r',true,et,_,σ₁,e2,f⟩
   | cont => exact let ⟨σ',r',f⟩ := whileGo_ok g S h0 h1 h2 r1 h; ⟨σ',r',true,et,_,σ₁,e2,f⟩
   | brk => cases h; exact ⟨σ₁,r1,true,et,_,σ₁,e2,rfl,rfl⟩
   | ret v => cases h; exact ⟨σ₁,r1,true,et,_,σ₁,e2,rfl,rfl⟩
inductive MineV : Expr → Prop
 | list (es p) : MineV (.List es p)
 | bin (l op r p) (h : (isList l && isMult op) = true) : MineV (.BinOp l op r p)
 | call (f as k p) (h : isNamed "list" f = true) : MineV (.Call f as k p)
theorem mine_cases {v : Expr} : mine v = true → MineV v := by
 cases v with
 | List es p => exact fun _ => .list es p
 | BinOp l op r p => exact .bin l op r p
 | Call f as k p => exact .call f as k p
 | _ => exact nof
theorem isList_eq {e : Expr} : isList e = true → ∃ es p,e = .List es p := by
 cases e with
 | List es p => exact fun _ => ⟨_,_,rfl⟩
 | _ => exact nof
theorem mine_sound (gd : Gd prog w lv G h₀) (hG : ∀ x F,G.fn.lookup x = some F → (x == ("__debug__" : Str)) = false) : ∀ n,MineS prog w lv h₀ (evR G C n)
 | 0 => fun _ _ _ _ _ ⟨_,_,_,_,_,h,_⟩ => by cases h
 | n + 1 => by
  rintro sc σ v ds hm ⟨N,ρ,c,g,r,h,he⟩ A s B env o eo sees
  obtain ⟨H,HT⟩ := ev_ts_sound (prog := prog) (w := w) (C := C) gd hG n
  have h : cEF (cE n) (cT n) N sc v = some c := h
  cases mine_cases hm with
  | list es p =>
   obtain ⟨cs,h1,rfl⟩ := m2 h
   obtain ⟨ds',h2,he⟩ := b2 he
   obtain ⟨hc,he⟩ := ite_inv he
   cases he
   exact list_evF H eo o sees (evs_of g r h1 h2) hc
  | bin l op rr p hb =>
   rw [Bool.and_eq_true] at hb
   obtain ⟨a,h1,h⟩ := b2 h
   obtain ⟨b,h2,rfl⟩ := m2 h
   obtain ⟨x,h3,he⟩ := b2 he
   obtain ⟨y,h4,he⟩ := b2 he
   obtain ⟨rfl,es,rfl⟩ : op = .Mult ∧ ∃ es,x = .list es := by
    refine ⟨(by have h2 := hb.2; cases op <;> first | rfl | cases h2),?_⟩
    obtain ⟨es,p,rfl⟩ := isList_eq hb.1
    cases n with
    | zero => cases h1
    | succ n =>
     obtain ⟨cs,h1,rfl⟩ := m2 (show (cArgs (cE n N sc) es).map CE.list = some a from h1)
     obtain ⟨ds',h2,h3⟩ := b2 h3
     exact ⟨_,((ite_inv h3).2).symm⟩
   exact mul_evF H eo o sees ⟨N,ρ,a,g,r,h1,h3⟩ ⟨N,ρ,b,g,r,h2,h4⟩ he
  | call f as kws pos hb =>
   obtain ⟨p,rfl⟩ := isNamed_eq hb
   obtain ⟨hk,h⟩ := ite_some h
   obtain rfl := nil_of_empty hk
   have h : cCallN (cE n N sc) N sc "list" as = some c := h
   unfold cCallN at h
   rw [if_neg (by decide +kernel),if_neg (by decide +kernel),if_pos (by decide +kernel)] at h
   obtain ⟨e,h1,h⟩ := b2 h
   obtain ⟨bs,h2,h⟩ := b2 h
   obtain ⟨hc,h⟩ := ite_some h
   obtain ⟨es,h3,rfl⟩ := m2 h
   rw [Bool.and_eq_true] at hc
   obtain ⟨ds',h4,he⟩ := b2 he
   obtain ⟨xs,h5,he⟩ := m2 he
   cases he
   obtain ⟨q,pos2,rfl⟩ := rangeE_eq h2
   rw [one_eq h1]
   exact listRange_evF H gd eo o sees hc.1 hc.2 (evs_of g r h3 h4) h5
theorem comp_sound (gd : Gd prog w lv G h₀) (hG : ∀ x F,G.fn.lookup x = some F → (x == ("__debug__" : Str)) = false) : ∀ n,CompS prog w lv h₀ (evR G C n)
 | 0 => fun _ _ _ _ _ _ _ ⟨_,_,_,_,_,h,_⟩ => by cases h
 | n + 1 => fun sc σ elt gens scope p d ⟨N,ρ,c,g,r,h,he⟩ =>
  let ⟨out,h1,h2⟩ := comp_of g (show cComp (cE n) (cT n) N sc elt gens scope = some c from h) r he
  ⟨_,_,out,(ev_ts_sound gd hG n).1,(ev_ts_sound gd hG n).2,h1,h2⟩
theorem st_flow {pos : Pos} {out : Out} {t : Env → Sem Flow} {fl : Flow} (ht : ∀ (A : Around) (env : Env) (s : Shared) (Q : Flow → Shared → Prop) (E : Value → Shared → Prop),Q fl s → wpAny (model prog w) A (t env) Q E s) (ho : ∀ B env Is s,OutR B env sc Is s out fl) :
  StS prog w lv h₀ sc σ out σ t := fun A s B hb env ow Is eo fs Q E hQ => ht _ _ _ _ _ (hQ _ _ _ fs Tn.rfl' (ho _ _ _ _))
section
variable (gd : Gd prog w lv G h₀) (H : EvS prog w lv h₀ (evR G C n)) (HT : TsS prog w lv h₀ (tsR G C n)) (HM : MineS prog w lv h₀ (evR G C n)) (HC : CompS prog w lv h₀ (evR G C n)) (S : SXok prog w lv h₀ G C (cSs n)) (g : GRel N G C) (r : Rel N sc σ ρ)
include g r
include H HM HC gd in
theorem set_ok {x : Str} {px pos : Pos} {v : Expr} {k : CStm} (h : cSet (cE n) N sc x v = some k) (he : exC C k ρ = some (out,ρ')) : Runs prog w lv h₀ N sc σ out ρ' (exec (.Assign [.Name x px] v pos)) := by
 obtain ⟨hc,h⟩ := ite_some h
 obtain ⟨i,h1,h⟩ := b2 h
 obtain ⟨c,h2,h⟩ := m2 h
 obtain ⟨hh,hi⟩ := target_ok h1
 cases hm : mine v with
 | true =>
  rw [hm] at h
  subst h
  obtain ⟨d,h3,he⟩ := b2 he
  cases d with
  | list ds => cases he; exact ⟨_,r.put hi,st_assignOwn HM hh hm ⟨N,_,c,g,r.view,h2,h3⟩⟩
  | _ => first | exact no he | exact nof he | cases he
 | false =>
  rw [hm] at h
  subst h
  obtain ⟨d,h3,he⟩ := b2 he
  obtain ⟨hd,he⟩ := ite_inv he
  cases he
  exact ⟨_,r.put hi,st_assign H HC gd hh hc ⟨N,_,c,g,r.view,h2,h3⟩ hd⟩
include H in
theorem item_ok {x : Str} {px sp pos : Pos} {i v : Expr} {k : CStm} (h : cItem (cE n) N sc x i v = some k) (he : exC C k ρ = some (out,ρ')) : Runs prog w lv h₀ N sc σ out ρ' (exec (.Assign [.Subscript (.Name x px) i sp] v pos)) := by
 obtain ⟨hc,h⟩ := ite_some h
 obtain ⟨j,h1,h⟩ := b2 h
 obtain ⟨c,h2,h⟩ := b2 h
 obtain ⟨c',h3,rfl⟩ := m2 h
 obtain ⟨hh,hi⟩ := target_ok h1
 obtain ⟨d,h4,he⟩ := b2 he
 obtain ⟨kk,h5,he⟩ := b2 he
 have hx := r.at x j (isBound_held hh) hi
 split at he
 ·rename_i ds k hl
  obtain ⟨hcc,he⟩ := ite_inv he
  cases he
  simp only [Bool.and_eq_true,decide_eq_true_eq] at hcc
  exact ⟨_,r.put hi,st_setItem H hh hc ⟨N,_,c',g,r.view,h3,h4⟩ ⟨N,_,c,g,r.view,h2,h5⟩ (hx.trans hl) hcc.1.1.1 hcc.1.1.2 hcc.1.2 hcc.2⟩
 ·cases he
include H in
theorem swap_ok {x y e f : Str × Pos} {kt kv : Nat} {tp vp pos : Pos} {k : CStm} (h : cSwap (cE n) N sc x y e f = some k) (he : exC C k ρ = some (out,ρ')) :
  Runs prog w lv h₀ N sc σ out ρ' (exec (.Assign [.Tuple [.Name x.1 x.2,.Name y.1 y.2] kt tp] (.Tuple [.Name e.1 e.2,.Name f.1 f.2] kv vp) pos)) := by
 obtain ⟨hc,h⟩ := ite_some h
 obtain ⟨i,h1,h⟩ := b2 h
 obtain ⟨j,h2,h⟩ := b2 h
 obtain ⟨c,h3,h⟩ := b2 h
 obtain ⟨c',h4,rfl⟩ := m2 h
 obtain ⟨a,h5,he⟩ := b2 he
 obtain ⟨b,h6,he⟩ := b2 he
 obtain ⟨hs,he⟩ := ite_inv he
 cases he
 simp only [Bool.and_eq_true,beq_iff_eq,bne_iff_ne] at hc hs
 exact ⟨_,(r.put (target_ok h2).2).put (target_ok h1).2,st_swap H hc.1.1.1.1 hc.1.1.1.2 hc.1.1.2 (beq_iff_eq.mpr hc.1.2) hc.2 ⟨N,_,c,g,r.view,h3,h5⟩ ⟨N,_,c',g,r.view,h4,h6⟩ hs.1 hs.2⟩
include H in
theorem callS_ok {x m : Str} {px apos cpos pos : Pos} {e : Expr} {k : CStm} (h : cCallS (cE n) N sc x m apos cpos e = some k) (he : exC C k ρ = some (out,ρ')) :
  Runs prog w lv h₀ N sc σ out ρ' (exec (.Expr (.Call (.Attribute (.Name x px) m apos) [e] [] cpos) pos)) := by
 obtain ⟨hc,h⟩ := ite_some h
 obtain ⟨i,h1,h⟩ := b2 h
 obtain ⟨gg,h2,h⟩ := b2 h
 obtain ⟨u,h3,h⟩ := b2 h
 obtain ⟨hh,hi⟩ := target_ok h1
 have rg := r.give h2
 have hx := r.at x i (isBound_held hh) hi
 simp only [Bool.and_eq_true] at hc
 cases hm : m == ("append" : Str) with
 | true =>
  obtain rfl := eq_of_beq hm
  rw [hm] at h
  cases h
  have he : (match ρ[i]?.join with | some (.own ds) => (evC C (viewC (giveC gg ρ)) u).bind fun d => if d.isEl && fits ds.length then some (Out.next,(giveC gg ρ).set i (some (.own (ds ++ [d])))) else none | _ => none) = some (out,ρ') := he
  split at he
  ·rename_i ds hq
   obtain ⟨d,h5,he⟩ := b2 he
   obtain ⟨hd,he⟩ := ite_inv he
   cases he
   rw [Bool.and_eq_true] at hd
   exact ⟨_,rg.put hi,st_append H hh hc.1.1 hc.1.2 hc.2 (hx.trans hq) ⟨N,_,u,g,rg.view,h3,h5⟩ hd.1 hd.2⟩
  ·cases he
 | false =>
  rw [hm] at h
  obtain ⟨hm2,h⟩ := ite_some (show (if m == "extend" then some (CStm.ext i gg u) else none) = some k from h)
  obtain rfl := eq_of_beq hm2
  cases h
  have he : (match ρ[i]?.join with | some (.own ds) => (evC C (viewC (giveC gg ρ)) u).bind fun d => (seqOf d).bind fun es => if fits (ds.length + es.length) then some (Out.next,(giveC gg ρ).set i (some (.own (ds ++ es)))) else none | _ => none) = some (out,ρ') := he
  split at he
  ·rename_i ds hq
   obtain ⟨d,h5,he⟩ := b2 he
   obtain ⟨es,h6,he⟩ := b2 he
   obtain ⟨hd,he⟩ := ite_inv he
   cases he
   exact ⟨_,rg.put hi,st_extend H hh hc.1.1 hc.1.2 hc.2 (hx.trans hq) ⟨N,_,u,g,rg.view,h3,h5⟩ h6 hd⟩
  ·cases he
include H HM HC gd in
theorem asg_ok {ts : List Expr} {v : Expr} {pos : Pos} {k : CStm} (h : cAsg (cE n) N sc ts v = some k) (he : exC C k ρ = some (out,ρ')) : Runs prog w lv h₀ N sc σ out ρ' (exec (.Assign ts v pos)) := by
 unfold cAsg at h
 cases ht : two ts with
 | some q =>
  rw [ht] at h
  obtain ⟨x,h1,h⟩ := b2 h
  obtain ⟨y,h2,h⟩ := b2 h
  obtain ⟨i,h3,h⟩ := b2 h
  obtain ⟨j,h4,h⟩ := b2 h
  obtain ⟨c,h5,rfl⟩ := m2 h
  obtain ⟨d,h6,he⟩ := b2 he
  obtain ⟨hd,he⟩ := ite_inv he
  cases he
  rw [two_eq ht,nameP_eq h1,nameP_eq h2]
  exact ⟨_,(r.put (target_ok h3).2).put (target_ok h4).2,st_assign2 H (target_ok h3).1 (target_ok h4).1 ⟨N,_,c,g,r.view,h5,h6⟩ hd⟩
 | none =>
  rw [ht] at h
  obtain ⟨t,h1,h'⟩ := b2 h
  clear h
  obtain rfl := one_eq h1
  have h : cAsg1 (cE n) N sc t v = some k := h'
  clear h'
  unfold cAsg1 at h
  cases hn : nameP t with
  | some q => rw [hn] at h; rw [nameP_eq hn]; exact set_ok gd H HM HC g r h he
  | none =>
   rw [hn] at h
   cases hi : itemE t with
   | some q => rw [hi] at h; rw [itemE_eq hi]; exact item_ok H g r h he
   | none =>
    rw [hi] at h
    obtain ⟨q,h2,h⟩ := b2 h
    obtain ⟨u,h3,h⟩ := b2 h
    obtain ⟨k1,p1,rfl⟩ := pairE_eq h2
    obtain ⟨k2,p2,rfl⟩ := pairE_eq h3
    exact swap_ok H g r h he
include H HT HM HC gd S in
theorem cSF_ok {st : Stmt} {k : CStm} (h : cSF (cE n) (cT n) (cSs n) N sc st = some k) (he : exC C k ρ = some (out,ρ')) : Runs prog w lv h₀ N sc σ out ρ' (exec st) := by
 cases st with
 | Assign ts v p => exact asg_ok gd H HM HC g r h he
 | AugAssign t op v p =>
  obtain ⟨q,h0,h⟩ := b2 h
  obtain ⟨i,h1,h⟩ := b2 h
  obtain ⟨c,h2,rfl⟩ := m2 h
  obtain ⟨hh,hi⟩ := target_ok h1
  obtain ⟨a,h5,he⟩ := b2 he
  obtain ⟨b,h6,he⟩ := b2 he
  obtain ⟨hs,he⟩ := ite_some he
  obtain ⟨d,h7,he⟩ := b2 he
  obtain ⟨hd,he⟩ := ite_inv he
  cases he
  simp only [Bool.and_eq_true] at hs
  rw [nameP_eq h0]
  exact ⟨_,r.put hi,st_aug H hh ((r.at q.1 i (isBound_held hh) hi).trans h5) ⟨N,_,c,g,r.view,h2,h6⟩ hs.1.1 hs.1.2 hs.2 h7 hd⟩
 | If t b o p =>
  obtain ⟨c,h1,h⟩ := b2 h
  obtain ⟨u,h2,h⟩ := b2 h
  obtain ⟨w',h3,rfl⟩ := m2 h
  obtain ⟨bb,h4,he⟩ := b2 he
  have ht : tsR G C n sc (view σ) t bb := ⟨N,_,c,g,r.view,h1,h4⟩
  cases bb with
  | true => exact let ⟨σ',r',f⟩ := S _ _ _ _ _ _ _ _ g h2 r he; ⟨σ',r',st_if HT xsS_ok ht f⟩
  | false => exact let ⟨σ',r',f⟩ := S _ _ _ _ _ _ _ _ g h3 r he; ⟨σ',r',st_if HT xsS_ok ht f⟩
 | While t b o p =>
  obtain ⟨c,h1,h⟩ := b2 h
  obtain ⟨u,h2,h⟩ := b2 h
  obtain ⟨w',h3,rfl⟩ := m2 h
  exact let ⟨σ',r',f⟩ := whileGo_ok g S h1 h2 h3 r he; ⟨σ',r',st_while HT xsS_ok f⟩
 | For t iter b o p =>
  obtain ⟨q,h0,h⟩ := b2 h
  obtain ⟨i,h1,h⟩ := b2 h
  obtain ⟨u,h2,h⟩ := b2 h
  obtain ⟨v,h3,h⟩ := b2 h
  obtain ⟨hh,hi⟩ := target_ok h1
  rw [nameP_eq h0]
  obtain ⟨hns,hit⟩ := iter_of h
  rcases hit with ⟨p',as,pos,es,rfl,hg,q3,rfl⟩ | ⟨e,q2,rfl⟩
  ·obtain ⟨vs,e1,he⟩ := b2 he
   obtain ⟨ds,e2,he⟩ := b2 he
   exact let ⟨σ',r',f⟩ := forGo_ok hi g S h2 h3 r (ite_some he).2; ⟨σ',r',st_for H xsS_ok gd hh ⟨hns,.inl ⟨p',as,pos,vs,rfl,hg,evs_of g r.view q3 e1,e2⟩⟩ f⟩
  ·obtain ⟨d,e1,he⟩ := b2 he
   obtain ⟨ds,e2,he⟩ := b2 he
   exact let ⟨σ',r',f⟩ := forGo_ok hi g S h2 h3 r (ite_some he).2; ⟨σ',r',st_for H xsS_ok gd hh ⟨hns,.inr ⟨d,⟨N,_,e,g,r.view,q2,e1⟩,e2⟩⟩ f⟩
 | Return v p =>
  obtain ⟨e,h0,h⟩ := b2 h
  obtain ⟨c,h1,rfl⟩ := m2 h
  obtain ⟨d,h2,he⟩ := b2 he
  obtain ⟨hd,he⟩ := ite_inv he
  cases he; cases h0
  exact ⟨_,r,st_return H ⟨N,_,c,g,r.frozen,h1,h2⟩ hd⟩
 | Break p => cases h; cases he; exact ⟨_,r,st_flow (pos := default) (fun A env s Q E hq => wpAny_Break hq) fun _ _ _ _ => rfl⟩
 | Continue p => cases h; cases he; exact ⟨_,r,st_flow (pos := default) (fun A env s Q E hq => wpAny_Continue hq) fun _ _ _ _ => rfl⟩
 | Pass p => cases h; cases he; exact ⟨_,r,st_flow (pos := default) (fun A env s Q E hq => wpAny_Pass hq) fun _ _ _ _ => rfl⟩
 | Expr e p =>
  obtain ⟨q,h0,h⟩ := b2 h
  rw [mcallE_eq h0]
  exact callS_ok H g r h he
 | Try b hs oe fe p =>
  obtain ⟨hc,h⟩ := ite_some h
  rw [Bool.and_eq_true] at hc
  obtain rfl := nil_of_empty hc.1
  obtain rfl := nil_of_empty hc.2
  obtain ⟨u,h1,rfl⟩ := m2 h
  obtain ⟨⟨o,ρ₁⟩,e1,he⟩ := b2 he
  obtain ⟨σ₁,r1,e2⟩ := S _ _ _ _ _ _ _ _ g h1 r e1
  cases o with
  | next => cases he; exact ⟨_,r1,st_try xsS_ok e2 (.inl ⟨rfl,rfl⟩)⟩
  | ret v => cases he; exact ⟨_,r1,st_try xsS_ok e2 (.inr ⟨_,rfl,rfl⟩)⟩
  | brk => first | exact no he | exact nof he | cases he
  | cont => first | exact no he | exact nof he | cases he
 | _ => first | exact no h | exact nof h | cases h
end
theorem cSs_ok (gd : Gd prog w lv G h₀) (hG : ∀ x F,G.fn.lookup x = some F → (x == ("__debug__" : Str)) = false) : ∀ n,SXok prog w lv h₀ G C (cSs n)
 | 0 => fun _ _ _ _ _ _ _ _ _ h => by cases h
 | n + 1 => fun N sc l b σ ρ out ρ' g h r he => by
  cases l with
  | nil => cases h; cases he; exact ⟨σ,r,fun A s B hb env ow Is eo fs Q E hQ => wpAny_execs_nil (hQ _ _ _ fs Tn.rfl' rfl)⟩
  | cons st rest =>
   obtain ⟨bs,h1,rfl⟩ := m2 (show (cSs n N sc rest).map (((cSF (cE n) (cT n) (cSs n) N sc st).getD .fail) :: ·) = some b from h)
   obtain ⟨⟨o,ρ₁⟩,e1,he⟩ := b2 he
   have S := cSs_ok gd hG n
   cases hk : cSF (cE n) (cT n) (cSs n) N sc st with
   | none => rw [hk] at e1; cases e1
   | some k =>
    rw [hk] at e1
    obtain ⟨σ₁,r1,f⟩ := cSF_ok gd (ev_ts_sound gd hG n).1 (ev_ts_sound gd hG n).2 (mine_sound gd hG n) (comp_sound gd hG n) S g r hk e1
    cases o with
    | next =>
     obtain ⟨σ₂,r2,f2⟩ := S _ _ _ _ _ _ _ _ g h1 r1 he
     refine ⟨σ₂,r2,fun A s B hb env ow Is eo fs Q E hQ => wpAny_execs_cons (f A s B hb env ow Is eo fs _ _ fun fl s₁ ow₁ fs₁ t₁ o₁ => ?_)⟩
     cases o₁
     exact f2 A s₁ B hb env ow₁ Is eo fs₁ _ _ fun fl s₂ ow₂ fs₂ t₂ o₂ => hQ _ _ _ fs₂ (Tn.to fs₁ t₁ t₂) o₂
    | brk => cases he; exact ⟨σ₁,r1,fun A s B hb env ow Is eo fs Q E hQ => wpAny_execs_cons (f A s B hb env ow Is eo fs _ _ fun fl s₁ ow₁ fs₁ t₁ o₁ => by cases o₁; exact hQ _ _ _ fs₁ t₁ rfl)⟩
    | cont => cases he; exact ⟨σ₁,r1,fun A s B hb env ow Is eo fs Q E hQ => wpAny_execs_cons (f A s B hb env ow Is eo fs _ _ fun fl s₁ ow₁ fs₁ t₁ o₁ => by cases o₁; exact hQ _ _ _ fs₁ t₁ rfl)⟩
    | ret v => cases he; exact ⟨σ₁,r1,fun A s B hb env ow Is eo fs Q E hQ => wpAny_execs_cons (f A s B hb env ow Is eo fs _ _ fun fl s₁ ow₁ fs₁ t₁ o₁ => by obtain ⟨v,rfl,xv⟩ := o₁; exact hQ _ _ _ fs₁ t₁ ⟨v,rfl,xv⟩)⟩
end
theorem zip_rel {sc : Scope} {fns dats : List Str} : ∀ {ps rest : List Str} {as : List D},ps.length = as.length → (∀ x ∈ rest,x ∉ ps) → Rel ⟨ps ++ rest,fns,dats⟩ sc (ps.zip as) (as.map some ++ List.replicate rest.length none) := by
 intro ps rest as hl hd
 refine ⟨by simp [hl],fun x i hb hi => ?_⟩
 clear hb
 have hi' : idx x (ps ++ rest) = some i := hi
 clear hi
 induction ps generalizing as i with
 | nil =>
  cases as with
  | nil =>
   simp only [List.zip_nil_left,List.lookup_nil,List.map_nil,List.nil_append,List.getElem?_replicate]
   split <;> rfl
  | cons _ _ => simp at hl
 | cons p ps ih =>
  cases as with
  | nil => simp at hl
  | cons a as =>
   rw [List.zip_cons_cons,List.lookup_cons]
   have hq : idx x (p :: (ps ++ rest)) = some i := hi'
   unfold idx at hq
   rw [List.findIdx?_cons] at hq
   by_cases hx : x = p
   ·subst hx
    simp at hq
    subst hq
    simp
   ·have h1 : (p == x) = false := by simpa using fun h => hx h.symm
    have h2 : (x == p) = false := by simpa using hx
    rw [h1] at hq
    simp only [Bool.false_eq_true,if_false] at hq
    obtain ⟨j,hj,rfl⟩ := m2 hq
    rw [h2]
    simpa using ih (as := as) (i := j) (by simpa using hl) (fun x hx hp => hd x hx (List.mem_cons_of_mem _ hp)) hj
noncomputable def FR (prog : Program) (w : World) (lv : Nat) (h₀ hb : Heap) (B : Addr → Prop) (env : Env) (sc : Scope) (A : Around) (Is : Addr → Prop) (ow : Ow) (N : Names) (ρ : Rho) (s : Shared) : Prop :=
 ∃ σ,Rel N sc σ ρ ∧ FS prog w lv h₀ hb B env sc A Is ow σ s
structure Cx (prog : Program) (w : World) (lv : Nat) (h₀ : Heap) (G : GE) (N : Names) (C : GC) : Prop where
 g : Gd prog w lv G h₀
 hG : ∀ x F,G.fn.lookup x = some F → (x == ("__debug__" : Str)) = false
 hL : G.fn.lookup ("list" : Str) = none
 gr : GRel N G C
section
variable {prog : Program} {w : World} {lv : Nat} {h₀ hb : Heap} {B : Addr → Prop} {A : Around} {s s' : Shared} {env : Env} {sc : Scope} {σ σ' : St} {G : GE} {Is : Addr → Prop} {ow ow' : Ow} {N : Names} {C : GC} {ρ ρ' : Rho} {hb' : Heap}
theorem stmt_ok (X : Cx prog w lv h₀ G N C) {n : Nat} {st : Stmt} {k : CStm} {out : Out} (h : cSF (cE n) (cT n) (cSs n) N sc st = some k) (hx : exC C k ρ = some (out,ρ')) (eo : EnvOK env sc)
  (fr : FR prog w lv h₀ hb B env sc A Is ow N ρ s) {Q : Flow → Shared → Prop} {E : Value → Shared → Prop}
  (hQ : ∀ fl s' ow',FR prog w lv h₀ hb B env sc A Is ow' N ρ' s' → Tn env sc ow s ow' s' → OutR B env sc Is s' out fl → Q fl s') : wpAny (model prog w) A (exec st env) Q E s := by
 obtain ⟨σ,r,fs⟩ := fr
 obtain ⟨σ',r',f⟩ := cSF_ok X.g (ev_ts_sound X.g X.hG n).1 (ev_ts_sound X.g X.hG n).2 (mine_sound X.g X.hG n) (comp_sound X.g X.hG n) (cSs_ok X.g X.hG n) X.gr r h hx
 exact f A s B hb env ow Is eo fs Q E fun fl s' ow' f t o => hQ fl s' ow' ⟨σ',r',f⟩ t o
theorem seg_toks (X : Cx prog w lv h₀ G N C) (eo : EnvOK env sc) {K : Nat} {rest : List Stmt} {Q : Flow → Shared → Prop} {E : Value → Shared → Prop} : ∀ {l : List Stmt} {b : List CStm} {n : Nat} {ρ : Rho} {s : Shared} {ow : Ow},cSs n N sc l = some b → xsC C b ρ = some (.next,ρ') →
  FR prog w lv h₀ hb B env sc A Is ow N ρ s → K ≤ s.toks → (∀ s' ow',FR prog w lv h₀ hb B env sc A Is ow' N ρ' s' → Tn env sc ow s ow' s' → K ≤ s'.toks → wpAny (model prog w) A (execs rest env) Q E s') → wpAny (model prog w) A (execs (l ++ rest) env) Q E s
 | [],b,n,ρ,s,ow,h,hx,fr,hK,hQ => by
  cases n with
  | zero => cases h
  | succ n =>
   cases h
   cases hx
   exact hQ s ow fr Tn.rfl' hK
 | st :: l,b,n,ρ,s,ow,h,hx,fr,hK,hQ => by
  cases n with
  | zero => cases h
  | succ n =>
   obtain ⟨bs,h1,rfl⟩ := m2 (show (cSs n N sc l).map (((cSF (cE n) (cT n) (cSs n) N sc st).getD .fail) :: ·) = some b from h)
   obtain ⟨⟨o,ρ₁⟩,e1,hx⟩ := b2 hx
   cases hk : cSF (cE n) (cT n) (cSs n) N sc st with
   | none => rw [hk] at e1; cases e1
   | some k =>
    rw [hk] at e1
    refine wpAny_execs_cons (wpAny_with_toks (n := K) hK (stmt_ok X hk e1 eo fr fun fl s₁ ow₁ f₁ t₁ o₁ => ?_))
    intro hK₁
    cases o with
    | next =>
     cases o₁
     refine seg_toks X eo h1 hx f₁ hK₁ fun s₂ ow₂ f₂ t₂ hK₂ => hQ s₂ ow₂ f₂ ?_ hK₂
     obtain ⟨σ₁,_,fs₁⟩ := f₁
     exact Tn.to fs₁ t₁ t₂
    | brk => first | exact no hx | exact nof hx | cases hx
    | cont => first | exact no hx | exact nof hx | cases hx
    | ret d => cases hx
theorem seg_then (X : Cx prog w lv h₀ G N C) (eo : EnvOK env sc) {rest : List Stmt} {Q : Flow → Shared → Prop} {E : Value → Shared → Prop} {l : List Stmt} {b : List CStm} {n : Nat} (h : cSs n N sc l = some b) (hx : xsC C b ρ = some (.next,ρ'))
  (fr : FR prog w lv h₀ hb B env sc A Is ow N ρ s) (hQ : ∀ s' ow',FR prog w lv h₀ hb B env sc A Is ow' N ρ' s' → Tn env sc ow s ow' s' → wpAny (model prog w) A (execs rest env) Q E s') : wpAny (model prog w) A (execs (l ++ rest) env) Q E s :=
 seg_toks X eo h hx fr (Nat.zero_le _) fun s' ow' f t _ => hQ s' ow' f t
theorem seg_end (X : Cx prog w lv h₀ G N C) (eo : EnvOK env sc) {l : List Stmt} {b : List CStm} {n : Nat} {out : Out} (h : cSs n N sc l = some b) (hx : xsC C b ρ = some (out,ρ')) (fr : FR prog w lv h₀ hb B env sc A Is ow N ρ s) {Q : Flow → Shared → Prop} {E : Value → Shared → Prop}
  (hQ : ∀ fl s' ow',FR prog w lv h₀ hb B env sc A Is ow' N ρ' s' → Tn env sc ow s ow' s' → OutR B env sc Is s' out fl → Q fl s') : wpAny (model prog w) A (execs l env) Q E s := by
 obtain ⟨σ,r,fs⟩ := fr
 obtain ⟨σ',r',f⟩ := cSs_ok X.g X.hG n _ _ _ _ _ _ _ _ X.gr h r hx
 exact f A s B hb env ow Is eo fs Q E fun fl s' ow' f t o => hQ fl s' ow' ⟨σ',r',f⟩ t o
theorem expr_ok (X : Cx prog w lv h₀ G N C) (eo : EnvOK env sc) {e : Expr} {c : CE} {d : D} {n : Nat} (h : cE n N sc e = some c) (hx : evC C (viewC ρ) c = some d) (fr : FR prog w lv h₀ hb B env sc A Is ow N ρ s) : Yd prog w (Bf B env sc ow Is) A s (eval e env) d := by
 obtain ⟨σ,r,fs⟩ := fr
 exact (ev_ts_sound X.g X.hG n).1 _ _ _ _ ⟨N,_,c,X.gr,r.view,h,hx⟩ A s _ env fs.ok eo fs.sees'
theorem test_ok (X : Cx prog w lv h₀ G N C) (eo : EnvOK env sc) {e : Expr} {c : CT} {b : Bool} {n : Nat} (h : cT n N sc e = some c) (hx : tsC C (viewC ρ) c = some b) (fr : FR prog w lv h₀ hb B env sc A Is ow N ρ s) : Tr prog w A s (isTrue e env (eval e env)) b := by
 obtain ⟨σ,r,fs⟩ := fr
 exact (ev_ts_sound X.g X.hG n).2 _ _ _ _ ⟨N,_,c,X.gr,r.view,h,hx⟩ A s _ env fs.ok eo fs.sees'
theorem run_body (X : Cx prog w lv h₀ G N C) {m n : Nat} {body : List Stmt} {b : List CStm} {as : List D} {d : D} {Q : Flow → Shared → Prop} {E : Value → Shared → Prop} (hb : cSs n N sc body = some b) (hr : Rel N sc σ (as.map some ++ List.replicate m none)) (e : runC C m b as = some d) (eo : EnvOK env sc)
  (fs : FS prog w lv h₀ hb' B env sc A (fun _ => False) (fun _ => none) σ s)
  (hQ : ∀ fl s' ow' σ',FS prog w lv h₀ hb' B env sc A (fun _ => False) ow' σ' s' → Tn env sc (fun _ => none) s ow' s' → El (Bf B env sc (fun _ => none) (fun _ => False)) s'.heap d (match fl with | .ret v => v | _ => .none) → Q fl s') : wpAny (model prog w) A (execs body env) Q E s := by
 obtain ⟨⟨out,ρ'⟩,hx,e⟩ := b2 e
 obtain ⟨σ',_,f⟩ := cSs_ok X.g X.hG n _ _ _ _ _ _ _ _ X.gr hb hr hx
 refine f A s B hb' env _ _ eo fs _ _ fun fl s' ow' fs' t ho => hQ fl s' ow' σ' fs' t ?_
 cases out with
 | ret d' =>
  obtain ⟨v,rfl,xv⟩ := ho
  cases e
  exact xv
 | next => cases ho; cases e; exact (rfl : Value.none = .none)
 | _ => first | exact no e | exact nof e | cases e
theorem con_runC {n : Nat} {a : Addr} {fd : FuncData} {body : List Stmt} {b : List CStm} {scope : Scope} {ps rest fns dats : List Str} (X : Cx prog w lv h₀ G ⟨ps ++ rest,fns,dats⟩ C) (hb : cSs n ⟨ps ++ rest,fns,dats⟩ scope body = some b) (hr : ∀ x ∈ rest,x ∉ ps)
  (hat : DefAt h₀ a fd body scope) (hd : defOk ps scope = true) (hbind : ∀ vs : List Value,vs.length = ps.length → ∀ s,BindsTo s fd ⟨vs,[]⟩ (ps.zip vs)) :
  Con prog w (lv + 1) h₀ a (fun as => if ps.length = as.length then runC C rest.length b as else none) := fun A s B vs ds d o xs e => by
 have hl : ps.length = ds.length := by
  rcases Decidable.em (ps.length = ds.length) with h | h
  ·exact h
  ·simp only [if_neg h] at e; cases e
 simp only [if_pos hl] at e
 intro Q E hQ
 refine def_call hat X.g.nolimit hd (hbind vs (by rw [xs.length,hl]) s) o xs fun A' env s₁ hA eo hle fs _ hs1 _ => ?_
 exact run_body X hb (zip_rel hl hr) e eo fs fun fl s' ow' σ' fs' t xv => hQ _ s' (leave_kp hs1 hle fs t) (Den.of_el (out_el xv))
end
noncomputable def goV : List Int → Int → Int → Option (Int × List Int)
 | [],val,b => if Builtin.bitAnd b 64 = 0 then some (val,[]) else none
 | b' :: r,val,b => if Builtin.bitAnd b 64 = 0 then some (val,b' :: r) else if small val then goV r (Builtin.bitOr (val * 2 ^ 6) (Builtin.bitAnd b' 63)) b' else none
noncomputable def parseV : List Int → Option (Int × List Int)
 | [] => none
 | b :: r => goV r (Builtin.bitAnd b 63) b
section
variable {prog : Program} {w : World} {lv : Nat} {h₀ hb : Heap} {B : Addr → Prop} {A : Around} {s s' : Shared} {env : Env} {sc : Scope} {σ σ' : St} {G : GE} {Is : Addr → Prop} {ow ow' : Ow} {N : Names} {C : GC} {ρ ρ' : Rho}
theorem FR.step (x : FR prog w lv h₀ hb B env sc A Is ow N ρ s) (k : Ch Is s s') (hI : ∀ b,Is b → ∃ o,s'.heap.get? b = some o) : FR prog w lv h₀ hb B env sc A Is ow N ρ s' := let ⟨σ,r,y⟩ := x; ⟨σ,r,y.step k hI⟩
theorem FR.keeps (x : FR prog w lv h₀ hb B env sc A Is ow N ρ s) (k : Kp s s') : FR prog w lv h₀ hb B env sc A Is ow N ρ s' := let ⟨σ,r,y⟩ := x; ⟨σ,r,y.keeps k⟩
theorem FR.assign {x : Str} {px : Pos} {i : Nat} {d : D} {v : Value} {Q : Unit → Shared → Prop} {E : Value → Shared → Prop} (y : FR prog w lv h₀ hb B env sc A Is ow N ρ s) (eo : EnvOK env sc) (hx : isHeld (sc.names.lookup x) = true) (hi : idx x N.ns = some i)
  (hno : ∀ ds,d ≠ .own ds) (hd : Den prog w B hb d v ∨ El (Bf B env sc ow Is) s.heap d v)
  (hQ : ∀ s',FR prog w lv h₀ hb B env sc A Is (offW x ow) N (ρ.set i (some d)) s' → Tn env sc ow s (offW x ow) s' → Q () s') : wpAny (model prog w) A (storeName env x v) Q E s := by
 obtain ⟨σ,r,fs⟩ := y
 exact fs.store eo hx hno hd fun s' f t => hQ s' ⟨_,r.put hi,f⟩ t
theorem FR.lookup {x : Str} {i : Nat} {d : D} (y : FR prog w lv h₀ hb B env sc A Is ow N ρ s) (hx : isBound (sc.names.lookup x) = true) (hi : idx x N.ns = some i) (hd : ρ[i]?.join = some d) :
  ∃ σ,Rel N sc σ ρ ∧ FS prog w lv h₀ hb B env sc A Is ow σ s ∧ σ.lookup x = some d := by
 obtain ⟨σ,r,fs⟩ := y
 exact ⟨σ,r,fs,by rw [r.at x i hx hi,hd]⟩
structure PV (prog : Program) (w : World) (lv : Nat) (h₀ hb : Heap) (B : Addr → Prop) (env : Env) (sc : Scope) (A : Around) (Is : Addr → Prop) (N : Names) (I l : Addr) (items : Array Value) (s₀ : Shared) (ow : Ow) (ρ : Rho) (j : Nat) (s : Shared) : Prop where
 fr : FR prog w lv h₀ hb B env sc A Is ow N ρ s
 it : s.heap.IsListIter I l j
 li : s.heap.IsList l items
 ch : Ch (fun b => Loc env sc b ∨ b = I) s₀ s
 new : ∀ x a,ow x = some a → s₀.heap.get? a = none
theorem PV.seg {I l : Addr} {items : Array Value} {s₀ : Shared} {j : Nat} (x : PV prog w lv h₀ hb B env sc A Is N I l items s₀ ow ρ j s) (hI : Is I) (hbl : ∃ o,hb.get? l = some o) (f : FR prog w lv h₀ hb B env sc A Is ow' N ρ' s') (t : Tn env sc ow s ow' s') :
  PV prog w lv h₀ hb B env sc A Is N I l items s₀ ow' ρ' j s' := by
 obtain ⟨⟨σ,r,fs⟩,x1,x2,x3,x4⟩ := x
 obtain ⟨ol,hol⟩ := hbl
 refine ⟨f,?_,?_,?_,fun y a h => ?_⟩
 ·obtain ⟨o,ho,q⟩ := x1
  refine ⟨o,t.1.get (fun h => ?_) ho,q⟩
  rcases h with h | ⟨z,h⟩
  ·exact fs.isPl I hI (Pl.of_loc h)
  ·exact fs.owIs z I h hI
 ·obtain ⟨o,ho,q⟩ := x2
  exact ⟨o,t.1.get (fun h => fs.baseOff hol (h.imp (fun h => h) .inl)) ho,q⟩
 ·obtain ⟨h2,tk2,e2,k2⟩ := t.1
  obtain ⟨h1,tk1,e1,k1⟩ := x3
  refine ⟨h2,tk2,by rw [e2,e1],fun b o hb' e => k2 b o (fun h => ?_) (by rw [e1]; exact k1 b o hb' e)⟩
  rcases h with h | ⟨z,h⟩
  ·exact hb' (.inl h)
  ·rw [x4 z b h] at e; cases e
 ·rcases t.2 y a h with ⟨z,h⟩ | h
  ·exact x4 z a h
  ·cases e : s₀.heap.get? a with
   | none => rfl
   | some o =>
    exfalso
    by_cases hw : Loc env sc a ∨ a = I
    ·rcases hw with hw | hw
     ·obtain ⟨o',ho'⟩ := fs.frm.loc_alive hw; rw [h] at ho'; cases ho'
     ·subst hw; obtain ⟨o',ho'⟩ := fs.isAlive a hI; rw [h] at ho'; cases ho'
    ·have := x3.get hw e; rw [h] at this; cases this
theorem next_set {b it : Str} {p1 p2 p3 p4 p5 : Pos} {kb ki : Nat} {I l : Addr} {i : Nat} {items : Array Value} {n : Int} {t : Tok} {s₀ : Shared} {Q : Flow → Shared → Prop} {E : Value → Shared → Prop} (X : Cx prog w lv h₀ G N C) (eo : EnvOK env sc) (x : PV prog w lv h₀ hb B env sc A Is N I l items s₀ ow ρ i s)
  (hg : isGlob sc "next" = true) (hn : okName it = true) (hbh : isHeld (sc.names.lookup b) = true) (hih : isBound (sc.names.lookup it) = true) (xb : idx b N.ns = some kb) (xi : idx it N.ns = some ki) (hp : ρ[ki]?.join = some (.ptr I))
  (hI : Is I) (hbl : ∃ o,hb.get? l = some o) (hv : items[i]? = some (.int n t)) (hlI : l ≠ I)
  (hQ : ∀ s' ow',PV prog w lv h₀ hb B env sc A Is N I l items s₀ ow' (ρ.set kb (some (.int n))) (i + 1) s' → Q .next s') :
  wpAny (model prog w) A (exec (.Assign [.Name b p1] (.Call (.Name "next" p2) [.Name it p3] [] p4) p5) env) Q E s := by
 obtain ⟨σ,r,fs,hx⟩ := x.fr.lookup hih xi hp
 refine wpAny_Assign_Name (next_ev X.g eo fs hg hn hx hI x.it x.li hv hlI fun h' hit' hl' fs' c => ?_)
 refine FR.assign (px := p1) (i := kb) (d := .int n) ⟨σ,r,fs'⟩ eo hbh xb (fun _ h => by cases h) (.inr ⟨t,rfl⟩) fun s₂ f₂ t₂ => ?_
 have y : PV prog w lv h₀ hb B env sc A Is N I l items s₀ ow ρ (i + 1) { s with heap := h' } := by
  refine ⟨⟨σ,r,fs'⟩,hit',hl',?_,x.new⟩
  obtain ⟨h1,tk1,e1,k1⟩ := x.ch
  refine ⟨h',tk1,by rw [e1],fun b o hb' e => ?_⟩
  have := c.get (fun h => hb' (.inr h)) (x.ch.get hb' e)
  exact this
 exact hQ s₂ _ (y.seg hI hbl f₂ t₂)
theorem int_item : ∀ {ns : List Int} {vs : List Value} {h : Heap},Els (fun _ => False) h (ns.map D.int) vs → ∀ j (hj : j < ns.length),∃ t,vs[j]? = some (.int ns[j] t)
 | [],_,_,_,j,hj => absurd hj (Nat.not_lt_zero _)
 | a :: r,vs,h,x,j,hj => by
  obtain ⟨va,rv,rfl,⟨t,rfl⟩,hr⟩ := x
  cases j with
  | zero => exact ⟨t,rfl⟩
  | succ j => simpa using int_item hr j (by simpa using hj)
theorem drop_cons {α : Type} {ns : List α} {i : Nat} {b : α} {r : List α} (h : ns.drop i = b :: r) : ∃ hlt : i < ns.length,b = ns[i] ∧ r = ns.drop (i + 1) := by
 have hlt : i < ns.length := by
  rcases Nat.lt_or_ge i ns.length with h' | h'
  ·exact h'
  ·rw [List.drop_eq_nil_of_le h'] at h; cases h
 have e0 := List.drop_eq_getElem_cons hlt
 rw [h] at e0
 exact ⟨hlt,(List.cons.inj e0).1,(List.cons.inj e0).2⟩
structure PvParts (n : Nat) (N : Names) (sc : Scope) (sv sshl sor : Stmt) (tt er : Expr) (pr : Pos) : Prop where
 hN : N.ns = [("iterator" : Str),("b" : Str),("val" : Str)]
 k1 : sc.names.lookup ("iterator" : Str) = some .local
 k2 : sc.names.lookup ("b" : Str) = some .local
 glob : isGlob sc "next" = true
 c1 : cSs n N sc [sv] = some [.set 2 (.bin .BitAnd (.var 1) (.const (.int 63)))]
 c2 : cT n N sc tt = some (.val (.bin .BitAnd (.var 1) (.const (.int 64))))
 c3 : cSs n N sc [sshl] = some [.aug 2 .LShift (.const (.int 6))]
 c4 : cSs n N sc [sor] = some [.aug 2 .BitOr (.bin .BitAnd (.var 1) (.const (.int 63)))]
 c5 : cSs n N sc [.Return (some er) pr] = some [.ret (.var 2)]
theorem pv_walk {sv sshl sor : Stmt} {tt : Expr} {er : Expr} {pr pw p1 p2 p3 p4 p5 q1 q2 q3 q4 q5 : Pos} {n : Nat} {I l : Addr} {i : Nat} {ns : List Int} {vs : List Value} {v : Int} {rest : List Int} {E : Value → Shared → Prop} {s₀ : Shared} (X : Cx prog w lv h₀ G N C) (eo : EnvOK env sc)
  (K : PvParts n N sc sv sshl sor tt er pr)
  (x : PV prog w lv h₀ hb B env sc A Is N I l vs.toArray s₀ ow [some (.ptr I),none,none] i s) (hI : Is I) (hbl : ∃ o,hb.get? l = some o) (hlI : l ≠ I)
  (hvs : Els (fun _ => False) h₀ (ns.map D.int) vs) (hp : parseV (ns.drop i) = some (v,rest)) {Q : Flow → Shared → Prop}
  (hQ : ∀ s' ow' ρ' i' t,rest = ns.drop i' → i < i' → i' ≤ ns.length → PV prog w lv h₀ hb B env sc A Is N I l vs.toArray s₀ ow' ρ' i' s' → Q (.ret (.int v t)) s') :
  wpAny (model prog w) A (execs [.Assign [.Name "b" p1] (.Call (.Name "next" p2) [.Name "iterator" p3] [] p4) p5,sv,.While tt [sshl,.Assign [.Name "b" q1] (.Call (.Name "next" q2) [.Name "iterator" q3] [] q4) q5,sor] [] pw,.Return (some er) pr] env) Q E s := by
 have i0 : idx ("iterator" : Str) N.ns = some 0 := by rw [K.hN]; decide +kernel
 have i1 : idx ("b" : Str) N.ns = some 1 := by rw [K.hN]; decide +kernel
 have hb1 : isHeld (sc.names.lookup ("b" : Str)) = true := by rw [K.k2]; rfl
 have hi1 : isBound (sc.names.lookup ("iterator" : Str)) = true := by rw [K.k1]; rfl
 have hok : okName ("iterator" : Str) = true := by decide +kernel
 have item' : ∀ j (hj : j < ns.length),∃ t,vs.toArray[j]? = some (.int ns[j] t) := fun j hj => by simpa using int_item hvs j hj
 cases hd : ns.drop i with
 | nil => rw [hd] at hp; cases hp
 | cons b0 r0 =>
  rw [hd] at hp
  obtain ⟨hlt,hb0,hr0⟩ := drop_cons hd
  obtain ⟨t0,ht0⟩ := item' i hlt
  refine wpAny_execs_cons (next_set X eo x K.glob hok hb1 hi1 i1 i0 rfl hI hbl ht0 hlI fun s₁ ow₁ x₁ => ?_)
  refine seg_then (l := [sv]) X eo (ρ' := [some (.ptr I),some (.int b0),some (.int (Builtin.bitAnd b0 63))]) K.c1 (by rw [hb0]; rfl) x₁.fr fun s₂ ow₂ f₂ t₂ => ?_
  have x₂ := x₁.seg hI hbl f₂ t₂
  refine wpAny_execs_cons (wpAny_While (codeAny_whileLoop (fun m s' => ∃ j val b ow',m = ns.length - j ∧ i < j ∧ j ≤ ns.length ∧ goV (ns.drop j) val b = some (v,rest) ∧ PV prog w lv h₀ hb B env sc A Is N I l vs.toArray s₀ ow' [some (.ptr I),some (.int b),some (.int val)] j s') ?_ (ns.length - (i + 1))
   ⟨i + 1,_,_,ow₂,rfl,Nat.lt_succ_self _,hlt,by rw [← hr0]; exact hp,x₂⟩))
  rintro m s₃ ⟨j,val,b,ow₃,rfl,hij,hjl,hgo,x₃⟩
  refine test_ok X eo K.c2 (b := Builtin.bitAnd b 64 != 0) rfl x₃.fr _ _ fun s₄ k₄ => ?_
  have x₄ := x₃.seg hI hbl (x₃.fr.keeps k₄) (Tn.of_kp k₄)
  by_cases hz : Builtin.bitAnd b 64 = 0
  ·rw [hz]
   simp only [bne_self_eq_false,Bool.false_eq_true,if_false]
   have hv : v = val ∧ rest = ns.drop j := by
    cases hdj : ns.drop j with
    | nil => rw [hdj] at hgo; simp only [goV,hz,if_true] at hgo; cases hgo; exact ⟨rfl,rfl⟩
    | cons b' r => rw [hdj] at hgo; simp only [goV,hz,if_true] at hgo; cases hgo; exact ⟨rfl,rfl⟩
   refine wpAny_execs_nil ?_
   refine seg_end (out := .ret (.int val)) (ρ' := [some (.ptr I),some (.int b),some (.int val)]) X eo K.c5 rfl x₄.fr fun fl s₅ ow₅ f₅ t₅ o₅ => ?_
   obtain ⟨u,rfl,t,rfl⟩ := o₅
   rw [← hv.1]
   exact hQ s₅ ow₅ _ j t hv.2 hij hjl (x₄.seg hI hbl f₅ t₅)
  ·have hz' : (Builtin.bitAnd b 64 != 0) = true := by simpa using hz
   rw [hz']
   simp only [if_true]
   cases hdj : ns.drop j with
   | nil => rw [hdj] at hgo; simp only [goV,hz,if_false] at hgo; cases hgo
   | cons b' r =>
    rw [hdj] at hgo
    simp only [goV,hz,if_false] at hgo
    split at hgo
    ·rename_i hsm
     obtain ⟨hltj,hb',hr'⟩ := drop_cons hdj
     obtain ⟨t1,ht1⟩ := item' j hltj
     refine seg_then (l := [sshl]) X eo (ρ' := [some (.ptr I),some (.int b),some (.int (val * 2 ^ 6))]) K.c3 (by
      show ((if small val then some (D.int (val * 2 ^ 6)) else none).bind _).bind _ = _
      rw [if_pos hsm]; rfl) x₄.fr fun s₅ ow₅ f₅ t₅ => ?_
     have x₅ := x₄.seg hI hbl f₅ t₅
     refine wpAny_execs_cons (next_set X eo x₅ K.glob hok hb1 hi1 i1 i0 rfl hI hbl ht1 hlI fun s₆ ow₆ x₆ => ?_)
     refine seg_end (out := .next) (ρ' := [some (.ptr I),some (.int b'),some (.int (Builtin.bitOr (val * 2 ^ 6) (Builtin.bitAnd b' 63)))]) X eo K.c4 (by rw [hb']; rfl) x₆.fr fun fl s₇ ow₇ f₇ t₇ o₇ => ?_
     cases o₇
     exact ⟨ns.length - (j + 1),by lia,j + 1,_,_,ow₇,rfl,by lia,hltj,by rw [← hr']; exact hgo,x₆.seg hI hbl f₇ t₇⟩
    ·cases hgo
end
theorem no_cells {scope : Scope} (h : scope.names.all (fun p => p.2 != .cell) = true) (n : Nat) (x : Str) : (cellsFrom n scope.names []).lookup x = none := by
 rw [lookup_mem_iff]
 intro c hc
 have := List.all_eq_true.mp h _ (cellsFrom_mem _ _ _ _ hc)
 simp at this
section
variable {prog : Program} {w : World} {lv : Nat} {h₀ hb : Heap} {B : Addr → Prop} {A : Around} {s s' : Shared} {env : Env} {sc : Scope} {σ σ' : St} {G : GE} {Is : Addr → Prop} {ow ow' : Ow} {N : Names} {C : GC} {ρ ρ' : Rho} {fns dats : List Str}
theorem pv_start {scope : Scope} {A' : Around} {I l : Addr} {i : Nat} {items : Array Value} {s₁ : Shared} (fs : FS prog w lv h₀ s.heap B env scope A' (fun _ => False) (fun _ => none) ([("iterator" : Str)].zip [.ptr I]) s₁) (hle : Le s.heap s₁.heap) (e1 : env.locals = s.heap.objs.size) (e2 : env.cells = cellsFrom (s.heap.objs.size + 1) scope.names [])
  (hc : scope.names.all (fun p => p.2 != .cell) = true) (hB : B I) (hit : s.heap.IsListIter I l i) (hl : s.heap.IsList l items) (hlI : l ≠ I) :
  PV prog w lv h₀ (hideAll s.heap [I]) (fun b => B b ∧ b ∉ [I]) env scope A' (fun b => False ∨ b ∈ [I]) ⟨[("iterator" : Str)] ++ [("b" : Str),("val" : Str)],fns,dats⟩ I l items s₁ (fun _ => none) [some (.ptr I),none,none] i s₁ ∧ ∃ o,(hideAll s.heap [I]).get? l = some o := by
 obtain ⟨oi,ho,hcl,hdt⟩ := id hit
 obtain ⟨ol,hol,ql⟩ := id hl
 have f := fs.hide (Hs := [I]) (fun b hb' => by rw [List.mem_singleton] at hb'; rw [hb']; exact hB)
  (fun b hb' o e h => by rw [List.mem_singleton] at hb'; rw [hb',ho] at e; cases e; rw [hcl] at h; exact absurd h (by decide))
  (fun b hb' h => by
   rw [List.mem_singleton] at hb'
   rw [hb'] at h
   rcases h with h | ⟨x,h⟩
   ·rw [e1] at h
    exact absurd (Heap.lt_size ho) (by rw [h]; exact Nat.lt_irrefl _)
   ·rw [e2,no_cells hc] at h; cases h) fun x a h => by cases h
 refine ⟨⟨⟨_,zip_rel (ps := [("iterator" : Str)]) (rest := [("b" : Str),("val" : Str)]) (as := [.ptr I]) rfl (by decide +kernel),f⟩,⟨oi,hle _ _ ho,hcl,hdt⟩,⟨ol,hle _ _ hol,ql⟩,Ch.rfl' _,fun x a h => by cases h⟩,ol,hideAll_get _ hol (by simpa using hlI)⟩
inductive PvDef (n : Nat) (h₀ : Heap) (fns dats : List Str) (a : Addr) : Prop
 | mk (fd : FuncData) (sv sshl sor : Stmt) (tt er : Expr) (pr pw p1 p2 p3 p4 p5 q1 q2 q3 q4 q5 : Pos) (scope : Scope)
  (_ : DefAt h₀ a fd [.Assign [.Name "b" p1] (.Call (.Name "next" p2) [.Name "iterator" p3] [] p4) p5,sv,.While tt [sshl,.Assign [.Name "b" q1] (.Call (.Name "next" q2) [.Name "iterator" q3] [] q4) q5,sor] [] pw,.Return (some er) pr] scope)
  (_ : PvParts n ⟨[("iterator" : Str)] ++ [("b" : Str),("val" : Str)],fns,dats⟩ scope sv sshl sor tt er pr)
  (_ : defOk [("iterator" : Str)] scope = true)
  (_ : scope.names.all (fun p => p.2 != .cell) = true)
  (_ : ∀ vs : List Value,vs.length = 1 → ∀ s,BindsTo s fd ⟨vs,[]⟩ ([("iterator" : Str)].zip vs)) : PvDef n h₀ fns dats a
theorem pv_item {n : Nat} {a I l : Addr} {i : Nat} {ns : List Int} {vs : List Value} {v : Int} {rest : List Int} {Q : Value → Shared → Prop} {E : Value → Shared → Prop} (X : Cx prog w lv h₀ G ⟨[("iterator" : Str)] ++ [("b" : Str),("val" : Str)],fns,dats⟩ C) (Z : PvDef n h₀ fns dats a)
  (o : Ok (lv + 1) h₀ B A s) (hB : B I) (hit : s.heap.IsListIter I l i) (hl : s.heap.IsList l vs.toArray) (hlI : l ≠ I) (hvs : Els (fun _ => False) h₀ (ns.map D.int) vs) (hp : parseV (ns.drop i) = some (v,rest))
  (hQ : ∀ s' i' t,rest = ns.drop i' → i < i' → i' ≤ ns.length → s'.heap.IsListIter I l i' → Ch (fun b => b = I) s s' → Q (.int v t) s') : wpAny (model prog w) A (call (.ref a) [.ref I]) Q E s := by
 obtain ⟨fd,sv,sshl,sor,tt,er,pr,pw,p1,p2,p3,p4,p5,q1,q2,q3,q4,q5,scope,hat,K,hd,hc,hbind⟩ := Z
 refine def_call (ps := [("iterator" : Str)]) (vs := [.ref I]) (ds := [.ptr I]) hat X.g.nolimit hd (hbind _ rfl s) o ⟨_,_,rfl,rfl,rfl⟩ fun A' env s₁ hA eo hle fs _ hs1 hf => ?_
 obtain ⟨x,hbl⟩ := pv_start (fns := fns) (dats := dats) fs hle hf.2.2.1 hf.2.2.2 hc hB hit hl hlI
 refine pv_walk X eo K x (.inr List.mem_cons_self) hbl hlI hvs hp fun s' ow' ρ' i' t h1 h2 h3 x' => ?_
 refine hQ s' i' t h1 h2 h3 x'.it ?_
 obtain ⟨h2',t2',e2',k2'⟩ := x'.ch
 obtain ⟨h1',t1',e1'⟩ := hs1
 refine ⟨h2',t2',by rw [e2',e1'],fun b o hb' e => k2' b o (fun h => ?_) (hle b o e)⟩
 rcases h with h | h
 ·exact fs.baseOff e (.inl h)
 ·exact hb' h
theorem pv_end {n : Nat} {a I l : Addr} {items : Array Value} {base : Heap} {outer : List Env} {Q : Value → Shared → Prop} {E : Value → Shared → Prop} (X : Cx prog w lv h₀ G ⟨[("iterator" : Str)] ++ [("b" : Str),("val" : Str)],fns,dats⟩ C) (Z : PvDef n h₀ fns dats a)
  (o : Ok (lv + 1) h₀ B A s) (hB : B I) (hit : s.heap.IsListIter I l items.size) (hl : s.heap.IsList l items) (hlI : l ≠ I) (hfr : A.frames = some outer) (hbs : base.StaysIn s.heap) (hbI : base.get? I = none) (hff : s.heap.FunFrames base outer)
  (hE : ∀ e a0 h' tk,Heap.FlyingW base outer e (.type "StopIteration") a0 h' → s.heap.UpToSlots h' → E (.ref e) { s with heap := h',toks := tk }) : wpAny (model prog w) A (call (.ref a) [.ref I]) Q E s := by
 obtain ⟨fd,sv,sshl,sor,tt,er,pr,pw,p1,p2,p3,p4,p5,q1,q2,q3,q4,q5,scope,hat,K,hd,hc,hbind⟩ := Z
 refine def_call (ps := [("iterator" : Str)]) (vs := [.ref I]) (ds := [.ptr I]) hat X.g.nolimit hd (hbind _ rfl s) o ⟨_,_,rfl,rfl,rfl⟩ fun A' env s₁ hA eo hle fs _ hs1 hf => ?_
 obtain ⟨x,hbl⟩ := pv_start (fns := fns) (dats := dats) fs hle hf.2.2.1 hf.2.2.2 hc hB hit hl hlI
 have i0 : idx ("iterator" : Str) [("iterator" : Str),("b" : Str),("val" : Str)] = some 0 := by decide +kernel
 have hi1 : isBound (scope.names.lookup ("iterator" : Str)) = true := by rw [K.k1]; rfl
 obtain ⟨σ,r,fs',hx⟩ := x.fr.lookup hi1 i0 rfl
 refine wpAny_execs_cons (wpAny_Assign_Name (next_stop X.g eo fs' K.glob (by decide +kernel) hx x.it x.li (by simp) fun h₁ e hext hnone hnew => ?_))
 obtain ⟨oe,vs,a0,g1,g2,g3,g4,g5⟩ := hnew
 obtain ⟨m,hm⟩ := fs'.frm.ns
 have hL : env.locals = s.heap.objs.size := hf.2.2.1
 have notI : ∀ b o,base.get? b = some o → b ≠ I := fun b o e h => by rw [h,hbI] at e; cases e
 have hbl0 : base.get? env.locals = none := by
  cases e : base.get? env.locals with
  | none => rfl
  | some o' => have := Heap.lt_size (hbs _ _ e); rw [hL] at this; exact absurd this (Nat.lt_irrefl _)
 have st1 : base.StaysIn h₁ := fun b o e => hext b o (notI b o e) (hle _ _ (hbs b o e))
 have fields_I : ∀ b o,s.heap.get? b = some o → (∀ vs,o.data ≠ .fields vs) → b ≠ I := fun b o e hn h => by
  obtain ⟨oi,ho,hcl,hdt⟩ := id hit
  rw [h,ho] at e; cases e; exact hn _ hdt
 have hIo : ∀ b o,s₁.heap.get? b = some o → (∀ vs,o.data ≠ .fields vs) → b ≠ I := fun b o e hn h => by
  obtain ⟨oi,ho,hcl,hdt⟩ := id x.it
  rw [h,ho] at e; cases e; exact hn _ hdt
 have ffo : Heap.FunFrames h₁ base outer := hff.of_keeps fun b o e hn => ⟨o,hext b o (fields_I b o e hn) (hle b o e),rfl⟩
 have ns1 : h₁.Ns env.locals m := by
  obtain ⟨ob,es,ep,hob,hd',rr⟩ := hm
  exact ⟨ob,es,ep,hext _ _ (hIo _ _ hob (fun vs h => by rw [hd'] at h; cases h)) hob,hd',rr⟩
 have hfr' : A'.frames = some (env :: outer) := by rw [hf.1]; exact Around.frames_deeper hfr
 have ff : Heap.FunFrames h₁ base (env :: outer) := Heap.FunFrames.cons (by rw [eo.kind]; decide) hf.2.1 ns1 hbl0 ffo
 have hbe : base.get? e = none := by
  cases q : base.get? e with
  | none => rfl
  | some o' => have := hle _ _ (hbs _ _ q); rw [hnone] at this; cases this
 obtain ⟨h0',t0',e0'⟩ := hs1
 refine wpAny_leaving_firstW (base := base) (outer := outer) hfr' ff hf.2.1 g1 st1 hbe g3 g5 g4 fun h₂ hL => ?_
 obtain ⟨y1,⟨_,_,y2⟩,y3,y4⟩ := hL
 rw [g2] at y3
 have hs : s₁.toks = t0' := by rw [e0']
 have := hE e a0 h₂ s₁.toks ⟨y1,hbe,y2,y3⟩ fun b o e hn => y4 b o (hext b o (fields_I b o e hn) (hle b o e)) hn
 rw [e0'] at this ⊢
 exact this
end
set_option maxRecDepth 100000
noncomputable def readL : Nat → List Int → Option (List Int)
 | _,[] => some []
 | 0,_ => none
 | n + 1,l => (parseV l).bind fun p => (readL n p.2).map (p.1 :: ·)
theorem sub_stop_base : isSubtype (.type "StopIteration") (.type "BaseException") = pure true := by rfl
theorem sub_stop : isSubtype (.type "StopIteration") (.type "StopIteration") = pure true := by rfl
theorem stop_not_tuple : isSubtype (.type ((Manifest.find? "StopIteration").elim "type" fun x => x.metatype)) (.type "tuple") = pure false := by rfl
section
variable {prog : Program} {w : World} {lv : Nat} {h₀ hb : Heap} {B : Addr → Prop} {A : Around} {s s' : Shared} {env : Env} {sc : Scope} {σ σ' : St} {G : GE} {Is : Addr → Prop} {ow ow' : Ow} {N : Names} {C : GC} {ρ ρ' : Rho} {fns dats : List Str}
theorem ints_els {B : Addr → Prop} {h : Heap} {ns : List Int} : ∀ {vs : List Value},Els B h (ns.map D.int) vs → ∀ {B' : Addr → Prop} {h' : Heap},Els B' h' (ns.map D.int) vs := by
 induction ns with
 | nil => intro vs x B' h'; exact x
 | cons a r ih =>
  intro vs x B' h'
  obtain ⟨va,rv,rfl,⟨t,rfl⟩,hr⟩ := x
  exact ⟨_,_,rfl,⟨t,rfl⟩,ih hr⟩
structure RdParts (n : Nat) (N : Names) (sc : Scope) (stold : Stmt) (tt : Expr) : Prop where
 hN : N.ns = [("octets" : Str),("source" : Str),("told" : Str)]
 k0 : sc.names.lookup ("octets" : Str) = some .local
 k1 : sc.names.lookup ("source" : Str) = some .local
 k2 : sc.names.lookup ("told" : Str) = some .local
 g1 : isGlob sc "iter" = true
 g2 : isGlob sc "_parse_varint" = true
 g3 : isGlob sc "StopIteration" = true
 c1 : cSs n N sc [stold] = some [.own 2 (.list [])]
 c2 : cT n N sc tt = some (.val (.const (.bool true)))
theorem iter_set {x y : Str} {p1 p2 p3 p4 p5 : Pos} {kx : Nat} {Q : Flow → Shared → Prop} {E : Value → Shared → Prop} (X : Cx prog w lv h₀ G N C) (eo : EnvOK env sc) {σ : St} (r : Rel N sc σ ρ) (fs : FS prog w lv h₀ hb B env sc A Is (fun _ => none) σ s) (hg : isGlob sc "iter" = true) (hn : okName y = true)
  (hx : isHeld (sc.names.lookup x) = true) (xx : idx x N.ns = some kx) {l : Addr} {vs : List Value} (hp : VarAt env s.heap y (.ref l)) (hl : s.heap.PlainList l vs.toArray) (hlw : ¬ Loc env sc l)
  (hQ : ∀ I s',s.heap.get? I = none → PV prog w lv h₀ hb B env sc A (fun b => Is b ∨ b = I) N I l vs.toArray s (fun _ => none) (ρ.set kx (some (.ptr I))) 0 s' → Q .next s') :
  wpAny (model prog w) A (exec (.Assign [.Name x p1] (.Call (.Name "iter" p2) [.Name y p3] [] p4) p5) env) Q E s := by
 obtain ⟨mg,mb,hmg,hmb,_,_,hfn,_⟩ := X.g.ns
 obtain ⟨h1,h2⟩ := hfn "iter" (by decide)
 refine wpAny_Assign_Name (wpAny_Call_Name_kw (glob_blt eo fs.ok hg hmg hmb h1 h2 (notDebug _ (by decide)) ?_))
 have hs : starEach [.Name y p3] env = [(false,eval (.Name y p3) env)] := rfl
 rw [hs]
 refine Calls.callWith_builtin rfl (Calls.evalArgs_plain (Calls.spliced_cons (loadVar eo.kind hp (okName_both hn).1 (okName_both hn).2 (Calls.spliced_nil ?_))))
 obtain ⟨nn,hol⟩ := hl
 have hil : s.heap.IsList l vs.toArray := ⟨_,hol,rfl,_,rfl⟩
 refine iterList hil ?_
 generalize hI : s.heap.objs.size = I
 have hfr : s.heap.get? I = none := by
  cases e : s.heap.get? I with
  | none => rfl
  | some o => have := Heap.lt_size e; rw [hI] at this; exact absurd this (Nat.lt_irrefl _)
 have k : Kp s { s with heap := s.heap.push { cls := .type "list_iterator",data := .fields #[.ref l,.int 0 0] } } := Kp.heap (t := s.toks) (Le.push _ _)
 have hob : (s.heap.push { cls := .type "list_iterator",data := .fields #[.ref l,.int 0 0] }).get? I = some { cls := .type "list_iterator",data := .fields #[.ref l,.int 0 0] } := hI ▸ Heap.get?_push_size _ rfl
 have fs2 := fs.addI k hfr ⟨_,hob⟩
 refine FR.assign (px := p1) (i := kx) (d := .ptr I) ⟨σ,r,fs2⟩ eo hx xx (fun _ h => by cases h) (.inr rfl) fun s₂ f₂ t₂ => ?_
 rw [off_none] at f₂ t₂
 have hnI : ¬ Loc env sc I := fun h => fs2.isPl I (.inr rfl) (Pl.of_loc h)
 have g2 : ∀ b o,¬ Loc env sc b → (s.heap.push { cls := .type "list_iterator",data := .fields #[.ref l,.int 0 0] }).get? b = some o → s₂.heap.get? b = some o := fun b o hn e => t₂.1.get (fun h => by
  rcases h with h | ⟨z,h⟩
  ·exact hn h
  ·cases h) e
 refine hQ I s₂ hfr ⟨f₂,⟨_,g2 _ _ hnI hob,rfl,rfl⟩,⟨_,g2 _ _ hlw (k.le _ _ hol),rfl,_,rfl⟩,?_,fun z a h => by cases h⟩
 obtain ⟨h2',tk2,e2,k2⟩ := t₂.1
 refine ⟨h2',tk2,by rw [e2],fun b o hb' e => ?_⟩
 have := g2 b o (fun h => hb' (.inl h)) (k.le _ _ e)
 rw [e2] at this; exact this
theorem append_by {x : Str} {px apos cpos pos : Pos} {kx : Nat} {e : Expr} {ds : List D} {I l : Addr} {j : Nat} {P : Nat → Prop} {items : Array Value} {s₀ : Shared} {v0 : Int} {Q : Flow → Shared → Prop} {E : Value → Shared → Prop} (eo : EnvOK env sc) (hx : isHeld (sc.names.lookup x) = true) (hn : okName x = true) (hi : idx x N.ns = some kx) (hline : (apos.endLine == cpos.line) = true) (hst : notStar e = true)
  (y : PV prog w lv h₀ hb B env sc A Is N I l items s₀ ow ρ j s) (hI : Is I) (hbl : ∃ o,hb.get? l = some o) (hp : ρ[kx]?.join = some (.own ds)) (hf : fits ds.length = true)
  (he : wpAny (model prog w) A (eval e env) (fun v s₁ => ∃ t,v = .int v0 t ∧ ∃ j',P j' ∧ PV prog w lv h₀ hb B env sc A Is N I l items s₀ ow ρ j' s₁) E s)
  (hQ : ∀ s' j',P j' → PV prog w lv h₀ hb B env sc A Is N I l items s₀ ow (ρ.set kx (some (.own (ds ++ [.int v0])))) j' s' → Q .next s') :
  wpAny (model prog w) A (exec (.Expr (.Call (.Attribute (.Name x px) "append" apos) [e] [] cpos) pos) env) Q E s := by
 have hint : interactive env = false := by unfold interactive; rw [eo.kind]; rfl
 refine wpAny_Expr ?_ hint rfl
 have hstar : starEach [e] env = [(false,eval e env)] := by rw [star_cons hst]; rfl
 refine wpAny_Call_method_lateS rfl ?_ hline ?_
 ·rw [hstar]; rfl
 obtain ⟨σ,r,fs,hl⟩ := y.fr.lookup (isBound_held hx) hi hp
 obtain ⟨a,ha⟩ := fs.val x ds hl
 obtain ⟨ds',vs,hl',hva,hpl,hvs⟩ := fs.own x a ha
 refine loadVar eo.kind hva (okName_both hn).1 (okName_both hn).2 ?_
 obtain ⟨nn,hobj⟩ := hpl
 refine ⟨"list",_,F.plainAttrs_list,F.slot_list_append,F.type_list_append,⟨_,hobj,rfl⟩,fun b hb' => by cases hb'; exact ⟨_,hobj,rfl⟩,?_⟩
 rw [hstar]
 refine Calls.callWith_builtin rfl (Calls.evalArgs_plain (Calls.spliced_cons (wpAny_mono he (fun v s₁ h => ?_) fun _ _ h => h)))
 refine Calls.spliced_nil ?_
 obtain ⟨t,rfl,j',hj',y₁⟩ := h
 obtain ⟨σ₁,r₁,fs₁,hl₁⟩ := y₁.fr.lookup (isBound_held hx) hi hp
 obtain ⟨ds₁,vs₁,hl₁',hva₁,hpl₁,hvs₁⟩ := fs₁.own x a ha
 rw [hl₁] at hl₁'; cases hl₁'
 refine wpAny_list_append_plain hpl₁ (fun h' hp' hs => ?_) (by rw [List.size_toArray,hvs₁.length]; exact fits_line hf)
 obtain ⟨f,t'⟩ := fs₁.upd (tk := s₁.toks) (ds := ds ++ [.int v0]) (vs := vs₁ ++ [.int v0 t]) ha hs (by simpa using hp') (hvs₁.append (Els.cons (show El (Bf B env sc ow Is) s₁.heap (.int v0) (.int v0 t) from ⟨t,rfl⟩) Els.nil))
 exact hQ _ j' hj' (y₁.seg hI hbl ⟨_,r₁.put hi,f⟩ t')
structure PvAt (n : Nat) (h₀ : Heap) (fns dats : List Str) : Prop where
 ex : ∃ mg mb a o fd,h₀.Ns mainGlobals mg ∧ h₀.Ns builtinsNs mb ∧ mg ("_parse_varint" : Str) = some (.ref a) ∧ h₀.get? a = some o ∧ o.data = .func fd ∧ PvDef n h₀ fns dats a ∧ mg ("StopIteration" : Str) = none ∧ mb ("StopIteration" : Str) = some (.type "StopIteration")
theorem pv_expr {y : Str} {p q pos : Pos} {ky : Nat} {a I : Addr} {o : Obj} {fd : FuncData} {mg : Str → Option Value} {Q : Value → Shared → Prop} {E : Value → Shared → Prop} (eo : EnvOK env sc) (fr : FR prog w lv h₀ hb B env sc A Is ow N ρ s) (hg : isGlob sc "_parse_varint" = true) (hn : okName y = true)
  (hy : isBound (sc.names.lookup y) = true) (xy : idx y N.ns = some ky) (hp : ρ[ky]?.join = some (.ptr I)) (hmg : h₀.Ns mainGlobals mg) (ha : mg ("_parse_varint" : Str) = some (.ref a)) (ho : h₀.get? a = some o) (hdat : o.data = .func fd)
  (h : wpAny (model prog w) A (call (.ref a) [.ref I]) Q E s) : wpAny (model prog w) A (eval (.Call (.Name "_parse_varint" p) [.Name y q] [] pos) env) Q E s := by
 obtain ⟨σ,r,fs,hl⟩ := fr.lookup hy xy hp
 refine wpAny_Call_Name_kw (glob_val eo fs.ok hg hmg ha (by decide +kernel) ?_)
 refine Calls.callWith_function (o := o) (fd := fd) ?_
 have hs : starEach [.Name y q] env = [(false,eval (.Name y q) env)] := rfl
 rw [hs]
 refine Calls.evalArgs_plain (Calls.spliced_cons (loadVar eo.kind (fs.ptrAt hl) (okName_both hn).1 (okName_both hn).2 (Calls.spliced_nil ?_)))
 exact ⟨⟨fs.ok.le _ _ ho,hdat⟩,h⟩
end
section
variable {prog : Program} {w : World} {lv : Nat} {h₀ hb : Heap} {B : Addr → Prop} {A : Around} {s s' : Shared} {env : Env} {sc : Scope} {σ σ' : St} {G : GE} {Is : Addr → Prop} {ow ow' : Ow} {N : Names} {C : GC} {ρ ρ' : Rho} {fns dats : List Str}
noncomputable abbrev Npv (fns dats : List Str) : Names := ⟨[("iterator" : Str)] ++ [("b" : Str),("val" : Str)],fns,dats⟩
noncomputable abbrev Nrd (fns dats : List Str) : Names := ⟨[("octets" : Str)] ++ [("source" : Str),("told" : Str)],fns,dats⟩
inductive RdDef (n : Nat) (h₀ : Heap) (fns dats : List Str) (a : Addr) : Prop
 | mk (fd : FuncData) (stold : Stmt) (tt : Expr) (p1 p2 p3 p4 p5 q1 q2 q3 q4 q5 q6 q7 r1 r2 r3 r4 r5 pw : Pos) (scope : Scope)
  (_ : DefAt h₀ a fd [.Assign [.Name "source" p1] (.Call (.Name "iter" p2) [.Name "octets" p3] [] p4) p5,stold,.While tt [.Try [.Expr (.Call (.Attribute (.Name "told" q1) "append" q2) [.Call (.Name "_parse_varint" q3) [.Name "source" q4] [] q5] [] q6) q7] [.ExceptHandler (some (.Name "StopIteration" r1)) none [.Return (some (.Name "told" r2)) r3] r4] [] [] r5] [] pw] scope)
  (_ : (q2.endLine == q6.line) = true)
  (_ : RdParts n (Nrd fns dats) scope stold tt)
  (_ : defOk [("octets" : Str)] scope = true)
  (_ : scope.names.all (fun p => p.2 != .cell) = true)
  (_ : ∀ vs : List Value,vs.length = 1 → ∀ s,BindsTo s fd ⟨vs,[]⟩ ([("octets" : Str)].zip vs)) : RdDef n h₀ fns dats a
theorem readL_cons {k : Nat} {l : List Int} {out : List Int} (h : readL k l = some out) (hl : l ≠ []) : ∃ k' v r out',parseV l = some (v,r) ∧ readL k' r = some out' ∧ out = v :: out' := by
 cases l with
 | nil => exact absurd rfl hl
 | cons b r =>
  cases k with
  | zero => cases h
  | succ k =>
   simp only [readL] at h
   obtain ⟨⟨v,r'⟩,h1,h⟩ := b2 h
   obtain ⟨o,h2,rfl⟩ := m2 h
   exact ⟨k,v,r',o,h1,h2,rfl⟩
theorem with_same {s s₁ s₅ : Shared} {B₁ : Addr → Prop} (h1 : ∃ h t,s₁ = { s with heap := h,toks := t }) (h5 : Ch B₁ s₁ s₅) {h : Heap} {t : Nat} : ({ s₅ with heap := h,toks := t } : Shared) = { s with heap := h,toks := t } := by
 obtain ⟨h5',t5',e5',_⟩ := h5
 obtain ⟨h1',t1',e1'⟩ := h1
 rw [e5',e1']
theorem Ch.then {s₁ s₅ s₆ : Shared} {B₁ B₂ : Addr → Prop} (h1 : Ch B₁ s₁ s₅) (h2 : Ch B₂ s₅ s₆) (h : ∀ b,B₂ b → B₁ b) : Ch B₁ s₁ s₆ := by
 obtain ⟨h1',t1',e1',k1'⟩ := h1
 obtain ⟨h2',t2',e2',k2'⟩ := h2
 refine ⟨h2',t2',by rw [e2',e1'],fun b o' hb' e => k2' b o' (fun h' => hb' (h b h')) (by rw [e1']; exact k1' b o' hb' e)⟩
theorem rd_call {n : Nat} {f l : Addr} {cenv : Env} {m : Str → Option Value} {k : Nat} {ns out : List Int} {vs : List Value} {Q : Value → Shared → Prop} {E : Value → Shared → Prop}
  (X : Cx prog w lv h₀ G (Npv fns dats) C) (X' : Cx prog w (lv + 1) h₀ G (Nrd fns dats) C) (P : PvAt n h₀ fns dats) (Z : RdDef n h₀ fns dats f)
  (o : Ok (lv + 2) h₀ B A s) (hfr : A.frames = some [cenv]) (hcf : cenv.frame = some cenv.locals) (hck : cenv.scope.kind ≠ .module) (hcn : s.heap.Ns cenv.locals m) (hc0 : h₀.get? cenv.locals = none)
  (hl : s.heap.PlainList l vs.toArray) (hvs : Els (fun _ => False) h₀ (ns.map D.int) vs) (hr : readL k ns = some out) (hf : fits out.length = true)
  (hQ : ∀ a vs' h' tk,s.heap.get? a = none → h'.PlainList a (List.toArray vs') → Els (fun _ => False) h₀ (out.map D.int) vs' → (∀ b o,b ≠ cenv.locals → s.heap.get? b = some o → h'.get? b = some o) → s.heap.UpToSlots h' → Q (.ref a) { s with heap := h',toks := tk }) :
  wpAny (model prog w) A (call (.ref f) [.ref l]) Q E s := by
 obtain ⟨fd,stold,tt,p1,p2,p3,p4,p5,q1,q2,q3,q4,q5,q6,q7,r1,r2,r3,r4,r5,pw,scope,hat,hline,K,hd,hc,hbind⟩ := Z
 obtain ⟨mg,mb,pa,po,pfd,hmg,hmb,hpa,hpo,hpdat,PV0,hs1,hs2⟩ := P.ex
 have dvs : Den prog w B s.heap (.bor (ns.map D.int)) (.ref l) := ⟨l,vs,rfl,hl,ints_els hvs⟩
 refine def_call (ps := [("octets" : Str)]) (vs := [.ref l]) (ds := [.bor (ns.map D.int)]) hat X.g.nolimit hd (hbind _ rfl s) o ⟨_,_,rfl,dvs,rfl⟩ fun A' env s₁ hA eo hle fs hva hsame hfx => ?_
 have hLn : env.locals = s.heap.objs.size := hfx.2.2.1
 have i0 : idx ("octets" : Str) (Nrd fns dats).ns = some 0 := by show idx _ [("octets" : Str),("source" : Str),("told" : Str)] = _; decide +kernel
 have i1 : idx ("source" : Str) (Nrd fns dats).ns = some 1 := by show idx _ [("octets" : Str),("source" : Str),("told" : Str)] = _; decide +kernel
 have i2 : idx ("told" : Str) (Nrd fns dats).ns = some 2 := by show idx _ [("octets" : Str),("source" : Str),("told" : Str)] = _; decide +kernel
 have h1 : isHeld (scope.names.lookup ("source" : Str)) = true := by rw [K.k1]; rfl
 have h2 : isHeld (scope.names.lookup ("told" : Str)) = true := by rw [K.k2]; rfl
 have r0 : Rel (Nrd fns dats) scope ([("octets" : Str)].zip [.bor (ns.map D.int)]) [some (.bor (ns.map D.int)),none,none] := zip_rel (ps := [("octets" : Str)]) (rest := [("source" : Str),("told" : Str)]) (as := [.bor (ns.map D.int)]) rfl (by decide +kernel)
 have hoct : VarAt env s₁.heap ("octets" : Str) (.ref l) := hva _ _ (by simp) List.mem_cons_self
 obtain ⟨nn,hol⟩ := hl
 have hlw : ¬ Loc env scope l := fun h => fs.baseOff hol (.inl h)
 have hbl : ∃ o,s.heap.get? l = some o := ⟨_,hol⟩
 have hcl : cenv.locals ≠ env.locals := fun h => by
  obtain ⟨ob,_,_,hob,_⟩ := hcn
  have := Heap.lt_size hob
  rw [h,hLn] at this; exact absurd this (Nat.lt_irrefl _)
 refine wpAny_execs_cons (iter_set X' eo r0 fs K.g1 (by decide +kernel) h1 i1 hoct ⟨nn,hle _ _ hol⟩ hlw fun I s₂ hIf x₂ => ?_)
 have hsI : s.heap.get? I = none := by
  cases e : s.heap.get? I with
  | none => rfl
  | some o' => rw [hle _ _ e] at hIf; cases hIf
 have hlI : l ≠ I := fun h => by rw [h,hsI] at hol; cases hol
 have hI : (fun b => False ∨ b = I) I := .inr rfl
 refine seg_then (l := [stold]) X' eo (ρ' := [some (.bor (ns.map D.int)),some (.ptr I),some (.own [])]) K.c1 rfl x₂.fr fun s₃ ow₃ f₃ t₃ => ?_
 have x₃ := x₂.seg hI hbl f₃ t₃
 have keep : ∀ (ow₄ : Ow) (ρ₄ : Rho) (j : Nat) (s₄ : Shared),PV prog w (lv + 1) h₀ s.heap B env scope A' (fun b => False ∨ b = I) (Nrd fns dats) I l vs.toArray s₁ ow₄ ρ₄ j s₄ → ∀ b o,s.heap.get? b = some o → s₄.heap.get? b = some o := fun ow₄ ρ₄ j s₄ x b o e => x.ch.get (fun h => by
  rcases h with h | h
  ·exact fs.baseOff e (.inl h)
  ·rw [h,hsI] at e; cases e) (hle _ _ e)
 refine wpAny_execs_cons (wpAny_While (codeAny_whileLoop (fun mm s' => ∃ j told ow' k' rest,mm = ns.length - j ∧ j ≤ ns.length ∧ readL k' (ns.drop j) = some rest ∧ told ++ rest = out ∧
  PV prog w (lv + 1) h₀ s.heap B env scope A' (fun b => False ∨ b = I) (Nrd fns dats) I l vs.toArray s₁ ow' [some (.bor (ns.map D.int)),some (.ptr I),some (.own (told.map D.int))] j s') ?_ (ns.length - 0)
   ⟨0,[],ow₃,k,out,rfl,Nat.zero_le _,hr,rfl,x₃⟩))
 intro mm s₄ hinv
 refine gq fun Q₄ hq₄ => ?_
 obtain ⟨j,told,ow₄,k',rest,hmm₀,hjl,hrd,htold,x₄⟩ := hinv
 refine test_ok X' eo K.c2 (b := true) rfl x₄.fr _ _ fun s₅ k₅ => ?_
 have x₅ := x₄.seg hI hbl (x₄.fr.keeps k₅) (Tn.of_kp k₅)
 refine hq₄ _ _ ?_
 show wpAny _ _ (execs _ _) _ _ _
 refine gq fun Q₆ hq₆ => ?_
 have hfr' : A'.frames = some [env,cenv] := by rw [hfx.1]; exact Around.frames_deeper hfr
 have hft : fits (told.map D.int).length = true := by
  rw [List.length_map]
  unfold fits at hf ⊢
  have hf' := of_decide_eq_true hf
  rw [← htold,List.length_append] at hf'
  exact decide_eq_true (by lia)
 have okc : ∀ {ow₆ : Ow} {ρ₆ : Rho} {j₆ : Nat} {s₆ : Shared},PV prog w (lv + 1) h₀ s.heap B env scope A' (fun b => False ∨ b = I) (Nrd fns dats) I l vs.toArray s₁ ow₆ ρ₆ j₆ s₆ → Ok (lv + 1) h₀ (Bf B env scope ow₆ (fun b => False ∨ b = I)) A' s₆ := fun x => by
  obtain ⟨σ₆,_,f₆⟩ := x.fr
  exact f₆.ok
 have hBI : Bf B env scope ow₄ (fun b => False ∨ b = I) I := .inr (.inr (.inr hI))
 have hsz : vs.length = ns.length := by rw [hvs.length,List.length_map]
 refine wpAny_execs_cons (try_catch (base := hideAll s₅.heap [env.locals,I,cenv.locals]) (outer := [cenv]) hfr' hfx.2.1 sub_stop_base stop_not_tuple sub_stop (fun A'' s₆ Q' E' hst hq => ?_) ?_)
 ·have hkeep : Le h₀ s₆.heap := fun b o' e => by
   refine hst _ _ (hideAll_get _ (keep _ _ _ _ x₅ _ _ (o.le _ _ e)) ?_)
   intro hm
   simp only [List.mem_cons,List.not_mem_nil,or_false] at hm
   rcases hm with hm | hm | hm
   ·rw [hm] at e
    have := Heap.lt_size (o.le _ _ e); rw [hLn] at this; exact absurd this (Nat.lt_irrefl _)
   ·rw [hm] at e
    rw [o.le _ _ e] at hsI; cases hsI
   ·rw [hm,hc0] at e; cases e
  exact Calls.Name_function_global eo.kind (glob_kind eo K.g3) (Calls.loadGlobal_builtin (by rw [eo.glob]; exact hmg.keepsP hkeep) hs1 (by rw [eo.blt]; exact hmb.keepsP hkeep) hs2 hq) (by decide +kernel)
 ·by_cases hjlt : j < ns.length
  ·
   obtain ⟨k2,v,r,out',hp,hr2,hrest⟩ := readL_cons hrd (fun h => by
    have := congrArg List.length h
    rw [List.length_drop,List.length_nil] at this; lia)
   have cI : ∀ {s₆ : Shared} {j₆ : Nat},Ch (fun b => b = I) s₅ s₆ → s₆.heap.IsListIter I l j₆ → PV prog w (lv + 1) h₀ s.heap B env scope A' (fun b => False ∨ b = I) (Nrd fns dats) I l vs.toArray s₁ ow₄ [some (.bor (ns.map D.int)),some (.ptr I),some (.own (told.map D.int))] j₆ s₆ := fun {s₆ j₆} c it => by
    refine ⟨x₅.fr.step (c.mono fun b _ h _ => .inr h) (fun b hb' => ?_),it,?_,?_,x₅.new⟩
    ·rcases hb' with hb' | hb'
     ·exact hb'.elim
     ·rw [hb']; obtain ⟨o',ho',_⟩ := it; exact ⟨o',ho'⟩
    ·obtain ⟨o',ho',q⟩ := x₅.li; exact ⟨o',c.get (fun h => hlI h) ho',q⟩
    ·exact x₅.ch.then c fun b h => .inr h
   have he : ∀ E',wpAny (model prog w) A' (eval (.Call (.Name "_parse_varint" q3) [.Name "source" q4] [] q5) env) (fun v' s₆ => ∃ t,v' = .int v t ∧ ∃ i',r = ns.drop i' ∧ j < i' ∧ i' ≤ ns.length ∧ PV prog w (lv + 1) h₀ s.heap B env scope A' (fun b => False ∨ b = I) (Nrd fns dats) I l vs.toArray s₁ ow₄ [some (.bor (ns.map D.int)),some (.ptr I),some (.own (told.map D.int))] i' s₆) E' s₅ := fun E' => by
    refine pv_expr eo x₅.fr K.g2 (by decide +kernel) (isBound_held h1) i1 rfl hmg hpa hpo hpdat ?_
    exact pv_item X PV0 (okc x₅) hBI x₅.it x₅.li hlI hvs hp fun s₆ i' t e1 e2 e3 it₆ c₆ => ⟨t,rfl,i',e1,e2,e3,cI c₆ it₆⟩
   refine wpAny_execs_cons (append_by (v0 := v) (P := fun i' => r = ns.drop i' ∧ j < i' ∧ i' ≤ ns.length) eo h2 (by decide +kernel) i2 hline rfl x₅ hI hbl rfl hft (wpAny_mono (he _) (fun v' s₆ h₆ => ?_) fun _ _ h => h) fun s₇ i' hi' x₇ => ?_)
   ·obtain ⟨t,e1,i',e2,e3,e4,x₆⟩ := h₆
    exact ⟨t,e1,i',⟨e2,e3,e4⟩,x₆⟩
   ·refine wpAny_execs_nil (wpAny_execs_nil (wpAny_execs_nil ?_))
    refine hq₆ _ _ ?_
    refine ⟨ns.length - i',by lia,i',told ++ [v],ow₄,k2,out',rfl,hi'.2.2,by rw [← hi'.1]; exact hr2,by rw [← htold,hrest,List.append_assoc]; rfl,?_⟩
    rw [List.map_append]; exact x₇
  ·
   have hje : j = vs.toArray.size := by rw [List.size_toArray,hsz]; lia
   have hnil : ns.drop j = [] := List.drop_eq_nil_of_le (by lia)
   have hout : told = out := by
    rw [hnil] at hrd
    have : rest = [] := by cases k' <;> (simp only [readL] at hrd; cases hrd; rfl)
    rw [← htold,this,List.append_nil]
   obtain ⟨σ₅,rel₅,fs₅,hl₅⟩ := x₅.fr.lookup (isBound_held h2) i2 rfl
   obtain ⟨a,ha⟩ := fs₅.val _ _ hl₅
   obtain ⟨ds',ws,hl',hva',hpl,hws⟩ := fs₅.own _ a ha
   rw [hl₅] at hl'; cases hl'
   have hsa : s.heap.get? a = none := by
    have := x₅.new _ _ ha
    cases e : s.heap.get? a with
    | none => rfl
    | some o' => rw [hle _ _ e] at this; cases this
   obtain ⟨mm,hmm⟩ := fs₅.frm.ns
   have hcn5 : s₅.heap.Ns cenv.locals m := by
    obtain ⟨ob,es,ep,hob,q⟩ := hcn
    exact ⟨ob,es,ep,keep _ _ _ _ x₅ _ _ hob,q⟩
   have hbase : (hideAll s₅.heap [env.locals,I,cenv.locals]).StaysIn s₅.heap := fun b o' e => of_hideAll _ e
   have hff : s₅.heap.FunFrames (hideAll s₅.heap [env.locals,I,cenv.locals]) [env,cenv] :=
    Heap.FunFrames.cons (by rw [eo.kind]; decide) hfx.2.1 hmm (hideAll_none _ (by simp)) (Heap.FunFrames.cons hck hcf hcn5 (hideAll_none _ (by simp)) trivial)
   refine wpAny_execs_cons (append_by (v0 := 0) (P := fun _ => False) eo h2 (by decide +kernel) i2 hline rfl x₅ hI hbl rfl hft (pv_expr eo x₅.fr K.g2 (by decide +kernel) (isBound_held h1) i1 rfl hmg hpa hpo hpdat (pv_end (outer := [env,cenv]) X PV0 (okc x₅) hBI (hje ▸ x₅.it) x₅.li hlI hfr' hbase (hideAll_none _ (by simp)) hff ?_)) fun _ _ h => h.elim)
   intro e a0 h' tk fly up
   refine ⟨e,a0,rfl,fly,fun h'' hst up2 E' => ?_⟩
   have up5 : s₅.heap.UpToSlots h'' := up.trans up2
   refine wpAny_execs_cons (wpAny_Return_some ?_)
   have off3 : ∀ b o',s₅.heap.get? b = some o' → b ≠ env.locals → b ≠ I → b ≠ cenv.locals → h''.get? b = some o' := fun b o' e n1 n2 n3 => hst _ _ (hideAll_get _ e (by simp [n1,n2,n3]))
   have hva'' : VarAt env h'' ("told" : Str) (.ref a) := by
    rcases hva' with ⟨e1,m',hn',hm'⟩ | ⟨e1,c,hc',hv'⟩
    ·exact .inl ⟨e1,m',up5.ns hn',hm'⟩
    ·exfalso
     rw [hfx.2.2.2,no_cells hc] at hc'; cases hc'
   refine loadVar eo.kind hva'' (by decide +kernel) (by decide +kernel) ?_
   have hk : ∀ b o',b ≠ cenv.locals → s.heap.get? b = some o' → h''.get? b = some o' := fun b o' hb' e => off3 _ _ (keep _ _ _ _ x₅ _ _ e)
    (fun h => by rw [h] at e; have := Heap.lt_size e; rw [hLn] at this; exact absurd this (Nat.lt_irrefl _)) (fun h => by rw [h,hsI] at e; cases e) hb'
   have hup : s.heap.UpToSlots h'' := fun b o' e hn => up5 b o' (keep _ _ _ _ x₅ _ _ e) hn
   have hpa' : h''.PlainList a ws.toArray := by
    obtain ⟨na,hna⟩ := hpl
    exact ⟨na,off3 _ _ hna (fun h => fs₅.owPl _ _ ha (.inl h)) (fun h => fs₅.owIs _ _ ha (.inr h)) (fun h => by
    obtain ⟨ob,_,_,hob,_⟩ := hcn
    rw [← h,hsa] at hob; cases hob)⟩
   refine hq₆ _ _ ?_
   exact (congrArg (Q _) (with_same hsame x₅.ch)).mpr (hQ a ws h'' tk hsa hpa' (by rw [← hout]; exact ints_els hws) hk hup)
end
section
variable {prog : Program} {w : World} {A : Around} {E : Value → Shared → Prop} {s : Shared}
theorem strDraw {I : Addr} {x : Str} {t : Tok} {i c : Nat} {Q : Value → Shared → Prop} (hit : s.heap.IsStrIter I (strIterType x) x t i) (hx : x.cps[i]? = some c)
  (hQ : ∀ h',h'.IsStrIter I (strIterType x) x t (i + 1) → Heap.SameBut I s.heap h' → Q (.str ⟨#[c]⟩ s.toks) { s with heap := h',toks := s.toks + 1 }) : wpAny (model prog w) A (Builtin.SmallTypes.nextOf (.ref I)) Q E s := by
 unfold strIterType at hit hQ
 split at hit
 ·rename_i h; simp only [h,if_true] at hQ; exact wpAny_nextOf_ascii_item hit hx hQ
 ·rename_i h; simp only [h,if_false] at hQ; exact wpAny_nextOf_wide_item hit hx (by simpa using hQ)
theorem strIter_at {h h' : Heap} {I : Addr} {T : String} {x : Str} {t : Tok} {i : Nat} (a : h.IsStrIter I T x t i) (e : ∀ o,h.get? I = some o → h'.get? I = some o) : h'.IsStrIter I T x t i := let ⟨o,ho,r⟩ := a; ⟨o,e o ho,r⟩
theorem enum_item {e I : Addr} {x : Str} {t : Tok} {i c : Nat} {old : Value} {Q : Option Value → Shared → Prop} (he : IsEnum s.heap e I i old) (hit : s.heap.IsStrIter I (strIterType x) x t i) (hx : x.cps[i]? = some c) (hne : e ≠ I)
  (hQ : ∀ h',IsEnumOut h' e I ((i : Int) + 1) (.str ⟨#[c]⟩ s.toks) s.heap.objs.size → h'.IsStrIter I (strIterType x) x t (i + 1) → h'.get? s.heap.objs.size = some { cls := .type "tuple",data := .seq #[.int i (s.toks + 1),.str ⟨#[c]⟩ s.toks] } →
   (∀ b o,b ≠ e → b ≠ I → s.heap.get? b = some o → h'.get? b = some o) → Q (some (.ref s.heap.objs.size)) { s with heap := h',toks := s.toks + 2 }) : wpAny (model prog w) A (pyNext (.ref e)) Q E s := by
 have hT : s.TypeIs (.ref e) "enumerate" := ⟨_,he,rfl⟩
 unfold pyNext
 refine wpAny_bind (wpAny_attempt (wpAny_callSpecial?_slot (name := Str.ofString "__next__") hT F.slot_enumerate_next (wpAny_call_entry F.slot_enumerate_next hT F.entry_enumerate_next ?_ (F.args_enumerate_next_1 _))))
 obtain ⟨h₀,g,d,tk,os⟩ := s
 have lt_e : e < h₀.objs.size := Heap.lt_size he
 show wpAny _ _ (field (.ref e) 2 >>= _) _ _ _
 refine wpAny_bind (wpAny_field he rfl (x := .ref I) rfl (wpAny_bind (strDraw hit hx fun h₁ it₁ (sb₁ : Heap.SameBut I h₀ h₁) => ?_)))
 have e₁ : IsEnum h₁ e I i old := (sb₁.2 e hne).trans he
 show wpAny _ _ (field (.ref e) 3 >>= _) _ _ ⟨h₁,g,d,tk + 1,os⟩
 refine wpAny_bind (wpAny_field e₁ rfl (x := rawInt i) rfl ?_)
 show wpAny _ _ (field (.ref e) 4 >>= _) _ _ ⟨h₁,g,d,tk + 1,os⟩
 refine wpAny_bind (wpAny_field e₁ rfl (x := .none) rfl ?_)
 show wpAny _ _ (mkInt i >>= _) _ _ ⟨h₁,g,d,tk + 1,os⟩
 refine wpAny_bind (wpAny_mkInt ?_)
 show wpAny _ _ (setField (.ref e) 3 (rawInt ((i : Int) + 1)) >>= _) _ _ ⟨h₁,g,d,tk + 2,os⟩
 refine wpAny_bind (wpAny_setField_rec e₁ (by simp) fun h₂ e₂ (sb₂ : Heap.SameBut e h₁ h₂) => ?_)
 replace e₂ : IsEnum h₂ e I ((i : Int) + 1) old := e₂
 show wpAny _ _ (setField (.ref e) 4 .none >>= _) _ _ ⟨h₂,g,d,tk + 2,os⟩
 refine wpAny_bind (wpAny_setField_rec e₂ (by simp) fun h₃ e₃ (sb₃ : Heap.SameBut e h₂ h₃) => ?_)
 replace e₃ : IsEnum h₃ e I ((i : Int) + 1) old := e₃
 show wpAny _ _ (newTuple [.int i (tk + 1),.str ⟨#[c]⟩ tk] >>= _) _ _ ⟨h₃,g,d,tk + 2,os⟩
 refine wpAny_bind (wpAny_newTuple ?_)
 have sz : h₃.objs.size = h₀.objs.size := (sb₃.1.trans sb₂.1).trans sb₁.1
 obtain ⟨h₄,q₄⟩ : ∃ h₄,h₃.push { cls := .type "tuple",data := .seq #[.int i (tk + 1),.str ⟨#[c]⟩ tk] } = h₄ := ⟨_,rfl⟩
 have e₄ : IsEnum h₄ e I ((i : Int) + 1) old := q₄ ▸ Heap.get?_push_of_some _ e₃
 have t₄ : h₄.get? h₀.objs.size = some { cls := .type "tuple",data := .seq #[.int i (tk + 1),.str ⟨#[c]⟩ tk] } := by rw [← q₄,← sz]; exact Heap.get?_push_size _ rfl
 have old₄ : ∀ b o,b ≠ e → h₁.get? b = some o → h₄.get? b = some o := fun b o hb q => q₄ ▸ Heap.get?_push_of_some _ (sb₃.extBut b o hb (sb₂.extBut b o hb q))
 show wpAny _ _ (Builtin.SmallTypes.ownedTupleIsFree (.ref e) >>= _) _ _ ⟨h₃.push _,g,d,tk + 2,os⟩
 rw [sz]
 have e4 : h₃.push { cls := .type "tuple",data := .seq [Value.int i (tk + 1),.str ⟨#[c]⟩ tk].toArray } = h₄ := q₄
 rw [e4]
 unfold Builtin.SmallTypes.ownedTupleIsFree
 refine wpAny_bind (wpAny_bind (wpAny_field e₄ rfl (x := .none) rfl (wpAny_pure ?_)))
 simp only [if_true]
 refine wpAny_bind (wpAny_rule (wpAny_bind (wpAny_field e₄ rfl (x := old) rfl (wpAny_bind (wpAny_setField_rec e₄ (by simp) fun h₅ e₅ (sb₅ : Heap.SameBut e h₄ h₅) => ?_)))))
 replace e₅ : IsEnum h₅ e I ((i : Int) + 1) (.str ⟨#[c]⟩ tk) := e₅
 show wpAny _ _ (Builtin.SmallTypes.ownedTupleHandOut (.ref e) (.ref h₀.objs.size) >>= _) _ _ ⟨h₅,g,d,tk + 2,os⟩
 unfold Builtin.SmallTypes.ownedTupleHandOut
 refine wpAny_bind (wpAny_bind (wpAny_setField_rec e₅ (by simp) fun h₆ e₆ (sb₆ : Heap.SameBut e h₅ h₆) => ?_))
 replace e₆ : IsEnumOut h₆ e I ((i : Int) + 1) (.str ⟨#[c]⟩ tk) h₀.objs.size := e₆
 refine wpAny_setField_rec e₆ (by simp) fun h₇ e₇ (sb₇ : Heap.SameBut e h₆ h₇) => ?_
 replace e₇ : IsEnumOut h₇ e I ((i : Int) + 1) (.str ⟨#[c]⟩ tk) h₀.objs.size := e₇
 have up : ∀ b o,b ≠ e → h₄.get? b = some o → h₇.get? b = some o := fun b o hb q => sb₇.extBut b o hb (sb₆.extBut b o hb (sb₅.extBut b o hb q))
 refine wpAny_bind (wpAny_letGo (wpAny_pure ⟨_,rfl,wpAny_pure (hQ h₇ e₇ (strIter_at it₁ fun o q => up I o hne.symm (old₄ I o hne.symm q)) (up _ _ (Nat.ne_of_gt lt_e) t₄) fun b o hb hi q => up b o hb (old₄ b o hb (sb₁.extBut b o hi q)))⟩))
theorem enum_end {e I : Addr} {x : Str} {t : Tok} {i : Nat} {old : Value} {Q : Option Value → Shared → Prop} (hh : A.handled = none) (he : IsEnum s.heap e I i old) (hit : s.heap.IsStrIter I (strIterType x) x t i) (hx : i = x.cps.size)
  (hQ : ∀ h',Heap.ExtBut I s.heap h' → Q none { s with heap := h' }) : wpAny (model prog w) A (pyNext (.ref e)) Q E s := by
 subst hx
 unfold strIterType at hit
 split at hit
 ·exact wpAny_pyNext_enum_endD (Draws.strAscii (A := A.in1) hh I x t) he hit hQ
 ·exact wpAny_pyNext_enum_endD (Draws.strWide (A := A.in1) hh I x t) he hit hQ
end
section
variable {prog : Program} {w : World} {lv : Nat} {h₀ hb : Heap} {B : Addr → Prop} {A : Around} {s s' : Shared} {env : Env} {sc : Scope} {σ σ' : St} {G : GE} {Is : Addr → Prop} {ow ow' : Ow} {N : Names} {C : GC} {ρ ρ' : Rho} {fns dats : List Str}
theorem FS.addI2 {I e : Addr} {h' : Heap} (x : FS prog w lv h₀ hb B env sc A Is ow σ s) (k : Le s.heap h') (f1 : s.heap.get? I = none) (f2 : s.heap.get? e = none) (hne : I ≠ e) (a1 : ∃ o,h'.get? I = some o) (a2 : ∃ o,h'.get? e = some o) :
  FS prog w lv h₀ hb B env sc A (fun b => (Is b ∨ b = I) ∨ b = e) ow σ { s with heap := h' } := by
 have k1 : Kp s { s with heap := hideAll h' [e] } := ⟨_,s.toks,rfl,fun b o q => hideAll_get _ (k b o q) (by
  intro hm; rw [List.mem_singleton] at hm; rw [hm,f2] at q; cases q)⟩
 obtain ⟨o1,ho1⟩ := a1
 have y := x.addI k1 f1 ⟨o1,hideAll_get _ ho1 (by simpa using hne)⟩
 exact y.addI (s' := { s with heap := h' }) ⟨h',s.toks,rfl,fun b o q => of_hideAll _ q⟩ (hideAll_none _ (by simp)) a2
inductive IxDef (h₀ : Heap) (a : Addr) : Prop
 | mk (fd : FuncData) (m : Str) (k1 k2 : Nat) (p1 p2 p3 p4 p5 p6 q1 q2 q3 q4 q5 q6 q7 r1 r2 r3 u1 u2 u3 u4 pos : Pos) (scope : Scope)
  (_ : DefAt h₀ a fd [.For (.Tuple [.Name "i" p1,.Name "j" p2] k1 p3) (.Call (.Name "enumerate" p4) [.Name "a" p5] [] p6) [.If (.BoolOp .Or [.Compare (.Name "j" q1) [.Is] [.Name "b" q2] q3,.Compare (.Name "j" q4) [.Eq] [.Name "b" q5] q6] q7) [.Return (some (.Name "i" r1)) r2] [] r3] [.Raise (some (.Call (.Name "ValueError" u1) [.Constant (.str m) k2 u2] [] u3)) none u4] pos] scope)
  (_ : scope.names.lookup ("a" : Str) = some .local)
  (_ : scope.names.lookup ("b" : Str) = some .local)
  (_ : scope.names.lookup ("i" : Str) = some .local)
  (_ : scope.names.lookup ("j" : Str) = some .local)
  (_ : isGlob scope "enumerate" = true)
  (_ : isGlob scope "ValueError" = true)
  (_ : defOk [("a" : Str),("b" : Str)] scope = true)
  (_ : ∀ vs : List Value,vs.length = 2 → ∀ s,BindsTo s fd ⟨vs,[]⟩ ([("a" : Str),("b" : Str)].zip vs)) : IxDef h₀ a
theorem ix_call {f : Addr} {l : List Nat} {c : Nat} {ta t : Tok} {base : Heap} {outer : List Env} {Q : Value → Shared → Prop} {E : Value → Shared → Prop} (g : Gd prog w lv G h₀) (Z : IxDef h₀ f)
  (o : Ok (lv + 1) h₀ B A s) (hfr : A.frames = some outer) (hbs : base.StaysIn s.heap) (hff : s.heap.FunFrames base outer) (ht : t ≠ 0) (htk : t < s.toks) (hnb : NoneBooked h₀)
  (hfound : ∀ k s' t',l[k]? = some c → (∀ j,j < k → l[j]? ≠ some c) → Kp s s' → Q (.int (k : Nat) t') s')
  (hnone : (∀ j : Nat,l[j]? ≠ some c) → ∀ e a0 h' tk,Heap.FlyingW base outer e (.type "ValueError") a0 h' → s.heap.UpToSlots h' → E (.ref e) { s with heap := h',toks := tk }) :
  wpAny (model prog w) A (call (.ref f) [.str ⟨l.toArray⟩ ta,.str ⟨[c].toArray⟩ t]) Q E s := by
 obtain ⟨fd,m,k1,k2,p1,p2,p3,p4,p5,p6,q1,q2,q3,q4,q5,q6,q7,r1,r2,r3,u1,u2,u3,u4,pos,scope,hat,n1,n2,n3,n4,g1,g2,hd,hbind⟩ := Z
 have h3 : isHeld (scope.names.lookup ("i" : Str)) = true := by rw [n3]; rfl
 have h4 : isHeld (scope.names.lookup ("j" : Str)) = true := by rw [n4]; rfl
 obtain ⟨mg,mb,hmg,hmb,_,_,_,hty⟩ := g.ns
 obtain ⟨x1,x2⟩ := hty "enumerate" (by decide)
 obtain ⟨x3,x4⟩ := hty "ValueError" (by decide)
 refine def_callT (ps := [("a" : Str),("b" : Str)]) (vs := [.str ⟨l.toArray⟩ ta,.str ⟨[c].toArray⟩ t]) (ds := [.str l,.sig [c] t]) hat g.nolimit hd (hbind _ rfl s) o ⟨_,_,rfl,⟨ta,rfl⟩,_,_,rfl,rfl,rfl⟩ fun A' env s₁ hA eo hle fs hva hsame hfx htk₁ => ?_
 have hfr' : A'.frames = some (env :: outer) := by rw [hfx.1]; exact Around.frames_deeper hfr
 have hLn : env.locals = s.heap.objs.size := hfx.2.2.1
 refine wpAny_execs_cons (wpAny_For ?_ (by intro _; rfl))
 refine wpAny_Call_Name_kw (glob_blt eo fs.ok g1 hmg hmb x1 x2 (notDebug _ (by decide)) ?_)
 have hs : starEach [.Name "a" p5] env = [(false,eval (.Name "a" p5) env)] := rfl
 rw [hs]
 refine PySem.callWith_type rfl (Calls.evalArgs_plain (Calls.spliced_cons (loadVar eo.kind (hva _ (.str ⟨l.toArray⟩ ta) (by simp) (by simp)) (by decide +kernel) (by decide +kernel) (Calls.spliced_nil ?_))))
 refine call_enumerate_str fun h₂ he₂ hit₂ hsz₂ hk₂ => ?_
 generalize hI : s₁.heap.objs.size = I at he₂ hit₂
 generalize hen : I + 1 = en at he₂
 have dead : ∀ b,s₁.heap.objs.size ≤ b → s₁.heap.get? b = none := fun b hb => Heap.get?_none_of_le hb
 have fI : s₁.heap.get? I = none := dead I (by rw [hI]; exact Nat.le_refl _)
 have fE : s₁.heap.get? en = none := dead en (by rw [hI,← hen]; exact Nat.le_succ _)
 have hne : I ≠ en := by rw [← hen]; exact Nat.ne_of_lt (Nat.lt_succ_self _)
 have fs₂ := fs.addI2 hk₂ fI fE hne (let ⟨o,ho,_⟩ := hit₂; ⟨o,ho⟩) ⟨_,he₂⟩
 refine wpAny_pyIter_enum he₂ ?_
 refine codeAny_forLoop_any (fun n s' => ∃ i old,i ≤ l.length ∧ n = l.length + 1 - i ∧ IsEnum s'.heap en I ((i : Nat) : Int) old ∧ s'.heap.IsStrIter I (strIterType ⟨l.toArray⟩) ⟨l.toArray⟩ ta i ∧ t + 1 ≤ s'.toks ∧
  FS prog w lv h₀ s.heap B env scope A' (fun b => (False ∨ b = I) ∨ b = en) (fun _ => none) ([("a" : Str),("b" : Str)].zip [.str l,.sig [c] t]) s' ∧ Ch (fun b => Loc env scope b ∨ b = I ∨ b = en) s₁ s' ∧ ∀ j,j < i → l[j]? ≠ some c) ?_ (l.length + 1)
  ⟨0,.none,Nat.zero_le _,rfl,he₂,hit₂,Nat.le_trans htk htk₁,fs₂,⟨h₂,s₁.toks,rfl,fun b o _ e => hk₂ b o e⟩,fun j hj => absurd hj (Nat.not_lt_zero _)⟩
 intro n s₃ hinv
 refine gq fun Q₃ hq => ?_
 obtain ⟨i,old,hil,hn,he₃,hit₃,htk₃,fs₃,c₃,hj₃⟩ := hinv
 by_cases hlt : i < l.length
 ·have hc : (⟨l.toArray⟩ : Str).cps[i]? = some l[i] := by simp [hlt]
  refine enum_item he₃ hit₃ hc hne.symm fun h₄ he₄ hit₄ ht₄ hk₄ => ?_
  refine hq _ _ ?_
  refine wpAny_letOwnedTupleGo_enum he₄ fun h₅ he₅ (hs₅ : Heap.SameBut en h₄ h₅) => ?_
  have liveE : en < s₃.heap.objs.size := Heap.lt_size he₃
  have ht₅ : Heap.IsTuple h₅ s₃.heap.objs.size #[.int i (s₃.toks + 1),.str ⟨#[l[i]]⟩ s₃.toks] := ⟨_,(hs₅.2 _ (Nat.ne_of_gt liveE)).trans ht₄,rfl,_,rfl⟩
  refine wpAny_assign_Tuple fs₃.amb.1 ht₅ rfl rfl fun h₆ (hx₆ : Heap.ExtBut h₅.objs.size h₅ h₆) => ?_
  have k56 : ∀ b o,h₅.get? b = some o → h₆.get? b = some o := fun b o e => hx₆ b o (Nat.ne_of_lt (Heap.lt_size e)) e
  have k36 : ∀ b o,b ≠ en → b ≠ I → s₃.heap.get? b = some o → h₆.get? b = some o := fun b o n1 n2 e => k56 b o (hs₅.extBut b o n1 (hk₄ b o n1 n2 e))
  have he₆ : IsEnum h₆ en I ((i : Int) + 1) (.str ⟨#[l[i]]⟩ s₃.toks) := k56 _ _ he₅
  have hit₆ : h₆.IsStrIter I (strIterType ⟨l.toArray⟩) ⟨l.toArray⟩ ta (i + 1) := by
   exact strIter_at hit₄ fun o e => k56 I o (hs₅.extBut I o hne e)
  have c36 : Ch (fun b => (False ∨ b = I) ∨ b = en) s₃ { s₃ with heap := h₆,toks := s₃.toks + 2 } := ⟨h₆,_,rfl,fun b o hb e => k36 b o (fun h => hb (.inr h)) (fun h => hb (.inl (.inr h))) e⟩
  have fs₆ := fs₃.step c36 fun b hb => by
   rcases hb with (hb | hb) | hb
   ·exact hb.elim
   ·rw [hb]; obtain ⟨o',ho',_⟩ := hit₆; exact ⟨o',ho'⟩
   ·rw [hb]; exact ⟨_,he₆⟩
  show wpAny _ A' (do holding [.str ⟨#[l[i]]⟩ s₃.toks] (assign (.Name "i" p1) env (.int i (s₃.toks + 1))); do holding [] (assign (.Name "j" p2) env (.str ⟨#[l[i]]⟩ s₃.toks)); pure ()) _ _ _
  refine gq fun Q₅ hq₅ => ?_
  refine wpAny_bind (wpAny_holding (wpAny_with_toks (n := t + 1) (show t + 1 ≤ s₃.toks + 2 from Nat.le_trans htk₃ (Nat.le_add_right _ _)) (fs₆.assign (d := .int i) eo h3 (fun _ h => by cases h) (.inr ⟨_,rfl⟩) fun s₇ fs₇ t₇ => ?_)))
  intro htk₇
  rw [off_none] at fs₇ t₇
  refine wpAny_bind (wpAny_holding (wpAny_with_toks (n := t + 1) htk₇ (fs₇.assign (d := .sig [l[i]] s₃.toks) eo h4 (fun _ h => by cases h) (.inr rfl) fun s₈ fs₈ t₈ => ?_)))
  intro htk₈
  rw [off_none] at fs₈ t₈
  refine wpAny_pure ?_
  have t68 := Tn.to fs₇ t₇ t₈
  have hlj : ∀ (σ : St) (d : D),(put ("j" : Str) d σ).lookup ("j" : Str) = some d := fun σ d => by rw [lookup_put',if_pos rfl]
  have hlb : (put ("j" : Str) (.sig [l[i]] s₃.toks) (put ("i" : Str) (.int i) ([("a" : Str),("b" : Str)].zip [.str l,.sig [c] t]))).lookup ("b" : Str) = some (.sig [c] t) := by
   rw [lookup_put',if_neg (by decide +kernel),lookup_put',if_neg (by decide +kernel)]
   show List.lookup ("b" : Str) [(("a" : Str),D.str l),(("b" : Str),D.sig [c] t)] = _
   rw [List.lookup_cons,show ((("b" : Str) == ("a" : Str)) = false) from by decide +kernel]
   simp
  have c18 : ∀ s₉,Tn env scope (fun _ => none) { s₃ with heap := h₆,toks := s₃.toks + 2 } (fun _ => none) s₉ → Ch (fun b => Loc env scope b ∨ b = I ∨ b = en) s₁ s₉ := fun s₉ t9 => by
   obtain ⟨h9,tk9,e9,k9⟩ := t9.1
   obtain ⟨h3',tk3,e3',k3'⟩ := c₃
   refine ⟨h9,tk9,by rw [e9,e3'],fun b o hb e => k9 b o (fun h => ?_) (k36 b o (fun h => hb (.inr (.inr h))) (fun h => hb (.inr (.inl h))) (by rw [e3']; exact k3' b o hb e))⟩
   rcases h with h | ⟨z,h⟩
   ·exact hb (.inl h)
   ·cases h
  refine hq₅ _ _ ?_
  refine gq fun Q₆ hq₆ => ?_
  refine wpAny_execs_cons (wpAny_If (wpAny_with_toks (n := t + 1) htk₈ (isOrEq (x := [l[i]]) (y := [c]) (u := s₃.toks) (t := t) fs₈ eo (hlj _ _) hlb (by decide +kernel) (by decide +kernel) (Nat.ne_of_gt (Nat.lt_of_lt_of_le (Nat.succ_pos t) htk₃)) ht (Nat.ne_of_gt htk₃) hnb fun s₉ k₉ => ?_)))
  intro htk₉
  have t69 := t68.trans (Tn.of_kp k₉) fun b hb => fs₈.frm.loc_alive hb
  have fs₉ := fs₈.keeps k₉
  by_cases heq : l[i] = c
  ·rw [show (([l[i]] : List Nat) == [c]) = true by simp [heq]]
   simp only [if_true]
   have hli : (put ("j" : Str) (.sig [l[i]] s₃.toks) (put ("i" : Str) (.int i) ([("a" : Str),("b" : Str)].zip [.str l,.sig [c] t]))).lookup ("i" : Str) = some (.int i) := by
    rw [lookup_put',if_neg (by decide +kernel),lookup_put',if_pos rfl]
   obtain ⟨t',hv⟩ : ∃ t',VarAt env s₉.heap ("i" : Str) (.int i t') := by
    obtain ⟨v,hv,hdv⟩ := fs₉.sees _ _ hli (fun _ h => by cases h)
    have hvi : ∃ t',v = .int i t' := hdv.elim (fun h => h) fun h => h
    obtain ⟨t',rfl⟩ := hvi
    exact ⟨t',hv⟩
   refine wpAny_execs_cons (wpAny_Return_some (loadVar eo.kind hv (by decide +kernel) (by decide +kernel) ?_))
   refine hq₆ _ _ ?_
   refine hfound i s₉ t' (by rw [List.getElem?_eq_getElem hlt,heq]) hj₃ ?_
   obtain ⟨h9,tk9,e9,k9⟩ := c18 _ t69
   obtain ⟨h1',tk1,e1'⟩ := hsame
   refine ⟨h9,tk9,by rw [e9,e1'],fun b o e => k9 b o (fun h => ?_) (hle b o e)⟩
   rcases h with h | h | h
   ·exact fs.baseOff e (.inl h)
   ·rw [h] at e; rw [hle _ _ e] at fI; cases fI
   ·rw [h] at e; rw [hle _ _ e] at fE; cases fE
  ·rw [show (([l[i]] : List Nat) == [c]) = false by simp [heq]]
   simp only [Bool.false_eq_true,if_false]
   refine wpAny_execs_nil (wpAny_execs_nil ?_)
   have keep69 : ∀ b,(b = I ∨ b = en) → ∀ o,h₆.get? b = some o → s₉.heap.get? b = some o := fun b hb o e => t69.1.get (fun h => by
    rcases h with h | ⟨z,h⟩
    ·exact fs₆.isPl b (by rcases hb with hb | hb; exact .inl (.inr hb); exact .inr hb) (Pl.of_loc h)
    ·cases h) e
   refine hq₆ _ _ ?_
   refine ⟨l.length + 1 - (i + 1),by lia,i + 1,.str ⟨#[l[i]]⟩ s₃.toks,hlt,rfl,?_,strIter_at hit₆ fun o e => keep69 I (.inl rfl) o e,htk₉,fs₉.sub (fun y d hy => ?_) (fun y ds hy => ?_),c18 _ t69,fun j hj => ?_⟩
   ·have : ((i + 1 : Nat) : Int) = (i : Int) + 1 := by push_cast; rfl
    rw [this]; exact keep69 en (.inr rfl) _ he₆
   ·rw [lookup_put',lookup_put']
    have : y = ("a" : Str) ∨ y = ("b" : Str) := by
     have := mem_of_lookup hy
     have := (List.of_mem_zip this).1
     simpa using this
    rcases this with rfl | rfl
    ·rw [if_neg (by decide +kernel),if_neg (by decide +kernel)]; exact hy
    ·rw [if_neg (by decide +kernel),if_neg (by decide +kernel)]; exact hy
   ·have := (List.of_mem_zip (mem_of_lookup hy)).2
    simp at this
   ·rcases Nat.lt_succ_iff_lt_or_eq.mp hj with h | h
    ·exact hj₃ j h
    ·rw [h,List.getElem?_eq_getElem hlt]; simpa using heq
 ·have hie : i = l.length := by lia
  refine enum_end fs₃.amb.1 he₃ hit₃ (by simp [hie]) fun h₄ hx₄ => ?_
  have keep : ∀ b o,s.heap.get? b = some o → h₄.get? b = some o := fun b o e => by
   have eI : b ≠ I := fun h => by rw [h] at e; rw [hle _ _ e] at fI; cases fI
   refine hx₄ b o eI (c₃.get (fun h => ?_) (hle b o e))
   rcases h with h | h | h
   ·exact fs.baseOff e (.inl h)
   ·exact eI h
   ·rw [h] at e; rw [hle _ _ e] at fE; cases fE
  have ok₄ : Ok lv h₀ (fun _ => False) A' { s₃ with heap := h₄ } := ⟨hA,fun b o' e => keep b o' (o.le b o' e),fun b hb => hb.elim,fun b hb => hb.elim⟩
  refine hq _ _ ?_
  show wpAny _ _ (execs _ _) _ _ _
  refine wpAny_passesOwn PassesOwn.leaving ?_
  refine wpAny_execs_cons (wpAny_Raise_call F.excCall_ValueError F.excRaise_ValueError fs₃.amb.1 (by rfl) ?_)
  refine glob_blt eo ok₄ g2 hmg hmb x3 x4 (notDebug _ (by decide)) ⟨rfl,?_⟩
  refine Calls.evalArgs_plain (Calls.spliced_cons (Calls.Constant_str (k := k2) (pos := u2) (Calls.spliced_nil ⟨rfl,by simp [sizeLine],fun h₅ e hmade => ?_⟩)))
  have hno : ∀ j : Nat,l[j]? ≠ some c := fun j h => by
   rcases Nat.lt_or_ge j l.length with hj | hj
   ·exact hj₃ j (by rw [hie]; exact hj) h
   ·rw [List.getElem?_eq_none hj] at h; cases h
  have hLI : env.locals ≠ I := fun h => fs₃.isPl I (.inl (.inr rfl)) (.inl h.symm)
  have hff₄ : Heap.FunFrames h₄ base (env :: outer) := by
   obtain ⟨m₃,hm₃⟩ := fs₃.frm.ns
   have hns₄ : h₄.Ns env.locals m₃ := by
    obtain ⟨ob,es,ep,hob,r⟩ := hm₃
    exact ⟨ob,es,ep,hx₄ _ _ hLI hob,r⟩
   exact Heap.FunFrames.cons (by rw [eo.kind]; decide) hfx.2.1 hns₄ (by
    cases q : base.get? env.locals with
    | none => rfl
    | some o' => have := Heap.lt_size (hbs _ _ q); rw [hLn] at this; exact absurd this (Nat.lt_irrefl _)) (hff.of_keeps fun b o e _ => ⟨o,keep b o e,rfl⟩)
  refine wpAny_leaves_madeW (base := base) (h := h₄) hfr' hfx.2.1 (fun b o e => keep b o (hbs b o e)) hff₄ hmade.of fun h₆ tt fly _ _ up => ?_
  exact (congrArg (E (.ref e)) (with_same hsame c₃)).mpr (hnone hno e (.ref tt) h₆ (s₃.toks + 1) fly ((Heap.UpToSlots.of_keeps keep).trans ((Heap.UpToSlots.of_keeps hmade.keeps).trans up)))
end
section
variable {prog : Program} {w : World} {lv : Nat} {h₀ hb : Heap} {B : Addr → Prop} {A : Around} {s s' : Shared} {env : Env} {sc : Scope} {σ σ' : St} {G : GE} {Is : Addr → Prop} {ow ow' : Ow} {N : Names} {C : GC} {ρ ρ' : Rho} {fns dats : List Str}
theorem FS.subAny (x : FS prog w lv h₀ hb B env sc A Is ow σ' s) (h : ∀ y d,σ.lookup y = some d → σ'.lookup y = some d) (hno : ∀ y ds,σ.lookup y ≠ some (.own ds)) : FS prog w lv h₀ hb B env sc A Is (fun _ => none) σ s := by
 have sub : ∀ b,Wr env sc (fun _ => none) Is b → Wr env sc ow Is b := fun b h => by
  rcases h with h | ⟨z,h⟩ | h
  ·exact .inl h
  ·cases h
  ·exact .inr (.inr h)
 refine ⟨x.amb,x.le₀,x.le,x.alive,x.off,x.frm,fun b h => x.new b (sub b h),x.isAlive,x.cells,fun y a ha => (by cases ha),fun y ds e => absurd e (hno y ds),fun y d e hn => ?_,fun _ _ _ h => (by cases h),fun _ _ h => (by cases h),fun _ _ h => (by cases h),x.isPl⟩
 obtain ⟨v,hv,hd⟩ := x.sees y d (h y d e) hn
 exact ⟨v,hv,hd.imp (fun h => h) fun h => h.mono fun b o hnb e => ⟨e,fun hb' => hnb (hb'.imp (fun h => h) (sub b))⟩⟩
theorem Tn.anyOw (t : Tn env sc (fun _ => none) s (fun _ => none) s') : Tn env sc ow s (fun _ => none) s' := ⟨t.1.mono fun b _ h _ => h.elim .inl fun ⟨z,h⟩ => (by cases h),fun x a h => by cases h⟩
theorem Tn.noOw (t : Tn env sc (fun _ => none) s ow' s') : Tn env sc (fun _ => none) s (fun _ => none) s' := ⟨t.1,fun x a h => by cases h⟩
noncomputable abbrev Nco (fns dats : List Str) : Names := ⟨[("a" : Str),("b" : Str)] ++ [("count" : Str),("i" : Str)],fns,dats⟩
inductive CoDef (n : Nat) (h₀ : Heap) (fns dats : List Str) (a : Addr) : Prop
 | mk (fd : FuncData) (sc0 saug : Stmt) (iter er : Expr) (p1 pr q1 q2 q3 q4 q5 q6 q7 r3 pos : Pos) (scope : Scope)
  (_ : DefAt h₀ a fd [sc0,.For (.Name "i" p1) iter [.If (.BoolOp .Or [.Compare (.Name "i" q1) [.Is] [.Name "b" q2] q3,.Compare (.Name "i" q4) [.Eq] [.Name "b" q5] q6] q7) [saug] [] r3] [] pos,.Return (some er) pr] scope)
  (_ : scope.names.lookup ("a" : Str) = some .local)
  (_ : scope.names.lookup ("b" : Str) = some .local)
  (_ : scope.names.lookup ("count" : Str) = some .local)
  (_ : scope.names.lookup ("i" : Str) = some .local)
  (_ : notSet iter = true)
  (_ : cSs n (Nco fns dats) scope [sc0] = some [.set 2 (.const (.int 0))])
  (_ : cE n (Nco fns dats) scope iter = some (.var 0))
  (_ : cSs n (Nco fns dats) scope [saug] = some [.aug 2 .Add (.const (.int 1))])
  (_ : cSs n (Nco fns dats) scope [.Return (some er) pr] = some [.ret (.var 2)])
  (_ : defOk [("a" : Str),("b" : Str)] scope = true)
  (_ : ∀ vs : List Value,vs.length = 2 → ∀ s,BindsTo s fd ⟨vs,[]⟩ ([("a" : Str),("b" : Str)].zip vs)) : CoDef n h₀ fns dats a
theorem co_call {n : Nat} {f : Addr} {l : List Nat} {c : Nat} {ta t : Tok} {Q : Value → Shared → Prop} {E : Value → Shared → Prop} (X : Cx prog w lv h₀ G (Nco fns dats) C) (Z : CoDef n h₀ fns dats f)
  (o : Ok (lv + 1) h₀ B A s) (ht : t ≠ 0) (htk : t < s.toks) (hnb : NoneBooked h₀) (hQ : ∀ s' t',Kp s s' → Q (.int (l.count c : Nat) t') s') :
  wpAny (model prog w) A (call (.ref f) [.str ⟨l.toArray⟩ ta,.str ⟨[c].toArray⟩ t]) Q E s := by
 obtain ⟨fd,sc0,saug,iter,er,p1,pr,q1,q2,q3,q4,q5,q6,q7,r3,pos,scope,hat,n1,n2,n3,n4,hns,c1,c2,c3,c4,hd,hbind⟩ := Z
 have h4 : isHeld (scope.names.lookup ("i" : Str)) = true := by rw [n4]; rfl
 refine def_callT (ps := [("a" : Str),("b" : Str)]) (vs := [.str ⟨l.toArray⟩ ta,.str ⟨[c].toArray⟩ t]) (ds := [.str l,.sig [c] t]) hat X.g.nolimit hd (hbind _ rfl s) o ⟨_,_,rfl,⟨ta,rfl⟩,_,_,rfl,rfl,rfl⟩ fun A' env s₁ hA eo hle fs hva hsame hfx htk₁ => ?_
 have r0 : Rel (Nco fns dats) scope ([("a" : Str),("b" : Str)].zip [.str l,.sig [c] t]) [some (.str l),some (.sig [c] t),none,none] := zip_rel (ps := [("a" : Str),("b" : Str)]) (rest := [("count" : Str),("i" : Str)]) (as := [.str l,.sig [c] t]) rfl (by decide +kernel)
 refine seg_toks (K := t + 1) (l := [sc0]) X eo (ρ' := [some (.str l),some (.sig [c] t),some (.int 0),none]) c1 rfl ⟨_,r0,fs⟩ (Nat.le_trans htk htk₁) fun s₂ ow₂ f₂ t₂ htk₂ => ?_
 let τ : Nat → St := fun i => [("a" : Str),("b" : Str),("count" : Str)].zip [.str l,.sig [c] t,.int ((l.take i).count c : Nat)]
 have rτ : ∀ i,Rel (Nco fns dats) scope (τ i) [some (.str l),some (.sig [c] t),some (.int ((l.take i).count c : Nat)),none] := fun i => zip_rel (ps := [("a" : Str),("b" : Str),("count" : Str)]) (rest := [("i" : Str)]) (as := [.str l,.sig [c] t,.int ((l.take i).count c : Nat)]) rfl (by decide +kernel)
 have names : ∀ i y d,(τ i).lookup y = some d → (y = ("a" : Str) ∨ y = ("b" : Str) ∨ y = ("count" : Str)) := fun i y d h => by
  have := (List.of_mem_zip (mem_of_lookup h)).1
  simpa using this
 have noOwn : ∀ i y ds,(τ i).lookup y ≠ some (.own ds) := fun i y ds h => by
  have := (List.of_mem_zip (mem_of_lookup h)).2
  simp at this
 have hidx : idx ("a" : Str) (Nco fns dats).ns = some 0 ∧ idx ("b" : Str) (Nco fns dats).ns = some 1 ∧ idx ("count" : Str) (Nco fns dats).ns = some 2 ∧ idx ("i" : Str) (Nco fns dats).ns = some 3 := by
  show idx _ [("a" : Str),("b" : Str),("count" : Str),("i" : Str)] = _ ∧ idx _ [("a" : Str),("b" : Str),("count" : Str),("i" : Str)] = _ ∧ idx _ [("a" : Str),("b" : Str),("count" : Str),("i" : Str)] = _ ∧ idx _ [("a" : Str),("b" : Str),("count" : Str),("i" : Str)] = _
  decide +kernel
 have bnd : isBound (scope.names.lookup ("a" : Str)) = true ∧ isBound (scope.names.lookup ("b" : Str)) = true ∧ isBound (scope.names.lookup ("count" : Str)) = true := by rw [n1,n2,n3]; exact ⟨rfl,rfl,rfl⟩
 have agree : ∀ i (σ : St) (x : Option D),Rel (Nco fns dats) scope σ [some (.str l),some (.sig [c] t),some (.int ((l.take i).count c : Nat)),x] → ∀ y d,(τ i).lookup y = some d → σ.lookup y = some d := fun i σ x r y d h => by
  have ha := (rτ i).at
  rcases names i y d h with rfl | rfl | rfl
  ·rw [ha _ _ bnd.1 hidx.1] at h; rw [r.at _ _ bnd.1 hidx.1]; exact h
  ·rw [ha _ _ bnd.2.1 hidx.2.1] at h; rw [r.at _ _ bnd.2.1 hidx.2.1]; exact h
  ·rw [ha _ _ bnd.2.2 hidx.2.2.1] at h; rw [r.at _ _ bnd.2.2 hidx.2.2.1]; exact h
 obtain ⟨σ₂,r₂,fs₂⟩ := f₂
 have fsτ := fs₂.subAny (σ := τ 0) (agree 0 σ₂ none (by simpa using r₂)) (noOwn 0)
 have hi : evR G C n scope (view (τ 0)) iter (.str l) := ⟨_,_,_,X.gr,(rτ 0).view,c2,rfl⟩
 refine wpAny_execs_cons (for_str (K := t + 1) (τ := τ) (ev_ts_sound X.g X.hG n).1 h4 hns eo fsτ hi htk₂ noOwn (fun i ci u s₃ E' hci hKu hu Is' fs₃ => ?_) fun s₄ fs₄ t₄ _ => ?_)
 ·have hlj : (put ("i" : Str) (.sig [ci] u) (τ i)).lookup ("i" : Str) = some (.sig [ci] u) := by rw [lookup_put',if_pos rfl]
  have hlb : (put ("i" : Str) (.sig [ci] u) (τ i)).lookup ("b" : Str) = some (.sig [c] t) := by
   rw [lookup_put',if_neg (by decide +kernel),(rτ i).at _ _ bnd.2.1 hidx.2.1]; rfl
  have rp : Rel (Nco fns dats) scope (put ("i" : Str) (.sig [ci] u) (τ i)) [some (.str l),some (.sig [c] t),some (.int ((l.take i).count c : Nat)),some (.sig [ci] u)] := (rτ i).put (d := .sig [ci] u) hidx.2.2.2
  refine wpAny_execs_cons (wpAny_If (isOrEq (x := [ci]) (y := [c]) (u := u) (t := t) fs₃ eo hlj hlb (by decide +kernel) (by decide +kernel) (Nat.ne_of_gt (Nat.lt_of_lt_of_le (Nat.succ_pos t) hKu)) ht (Nat.ne_of_gt hKu) hnb fun s₅ k₅ => ?_))
  have fs₅ := fs₃.keeps k₅
  have hcnt : (l.take (i + 1)).count c = (l.take i).count c + if ci = c then 1 else 0 := by
   have hlt : i < l.length := (List.getElem?_eq_some_iff.mp hci).1
   have hv : l[i] = ci := (List.getElem?_eq_some_iff.mp hci).2
   rw [List.take_succ_eq_append_getElem hlt,List.count_append,hv]
   by_cases h : ci = c
   ·simp [h]
   ·simp [h]
  by_cases heq : ci = c
  ·rw [show (([ci] : List Nat) == [c]) = true by simp [heq]]
   simp only [if_true]
   refine seg_end (out := .next) (ρ' := [some (.str l),some (.sig [c] t),some (.int (((l.take i).count c : Nat) + 1)),some (.sig [ci] u)]) X eo c3 rfl ⟨_,rp,fs₅⟩ fun fl s₆ ow₆ f₆ t₆ o₆ => ?_
   cases o₆
   refine wpAny_execs_nil ?_
   obtain ⟨σ₆,r₆,fs₆⟩ := f₆
   refine ⟨rfl,τ (i + 1),fs₆.subAny (agree (i + 1) σ₆ (some (.sig [ci] u)) ?_) (noOwn _),(t₆.noOw).kpL k₅,fun y d h => h⟩
   rw [hcnt,if_pos heq]
   simpa using r₆
  ·rw [show (([ci] : List Nat) == [c]) = false by simp [heq]]
   simp only [Bool.false_eq_true,if_false]
   refine wpAny_execs_nil (wpAny_execs_nil ⟨rfl,_,fs₅,Tn.of_kp k₅,fun y d h => ?_⟩)
   refine agree (i + 1) _ (some (.sig [ci] u)) ?_ y d h
   rw [hcnt,if_neg heq]
   simpa using rp
 ·refine seg_end (out := .ret (.int ((l.take l.length).count c : Nat))) (ρ' := [some (.str l),some (.sig [c] t),some (.int ((l.take l.length).count c : Nat)),none]) X eo c4 rfl ⟨_,rτ l.length,fs₄⟩ fun fl s₆ ow₆ f₆ t₆ o₆ => ?_
  obtain ⟨v,rfl,tv,rfl⟩ := o₆
  have k := leave_kp hsame hle fs (Tn.to fs₄ (Tn.to fs₂ t₂ t₄.anyOw) t₆)
  rw [List.take_length]
  exact hQ s₆ tv k
end
theorem sub_value_base : isSubtype (.type "ValueError") (.type "BaseException") = pure true := by rfl
theorem sub_value : isSubtype (.type "ValueError") (.type "ValueError") = pure true := by rfl
theorem value_not_tuple : isSubtype (.type ((Manifest.find? "ValueError").elim "type" fun x => x.metatype)) (.type "tuple") = pure false := by rfl
section
variable {prog : Program} {w : World} {lv : Nat} {h₀ hb : Heap} {B : Addr → Prop} {A : Around} {s s' : Shared} {env : Env} {sc : Scope} {σ σ' : St} {G : GE} {Is : Addr → Prop} {ow ow' : Ow} {N : Names} {C : GC} {ρ ρ' : Rho} {fns dats : List Str}
noncomputable abbrev Nsf (fns dats : List Str) : Names := ⟨[("text" : Str),("sign" : Str),("marks" : Str),("shift" : Str)] ++ [("k" : Str),("places" : Str),("flags" : Str),("first" : Str)],fns,dats⟩
inductive SfDef (n : Nat) (h₀ : Heap) (fns dats : List Str) (bpre : List CStm) (t1 : CT) (blast : CStm) (a : Addr) : Prop
 | mk (fd : FuncData) (s1 s2 s3 last : Stmt) (e1 e2 e3 ef : Expr) (p1 p2 p3 p4 c1p c2p bp rp ip q1 q2 q3 q4 q5 q6 q7 r1 r2 r3 r4 r5 tp : Pos) (scope : Scope)
  (_ : DefAt h₀ a fd [s1,s2,s3,.If (.BoolOp .Or [.Compare e1 [.NotEq] [e2] c1p,.Compare (.Call (.Name "countOf" p1) [.Name "text" p2,.Name "sign" p3] [] p4) [.NotEq] [e3] c2p] bp) [.Return (some ef) rp] [] ip,.Try [.Assign [.Name "first" q1] (.Call (.Name "indexOf" q2) [.Name "text" q3,.Name "sign" q4] [] q5) q6] [.ExceptHandler (some (.Name "ValueError" q7)) none [.Return (some (.Compare (.Name "places" r1) [.Eq] [.List [] r2] r3)) r4] r5] [] [] tp,last] scope)
  (_ : scope.names.lookup ("text" : Str) = some .local)
  (_ : scope.names.lookup ("sign" : Str) = some .local)
  (_ : scope.names.lookup ("places" : Str) = some .local)
  (_ : scope.names.lookup ("first" : Str) = some .local)
  (_ : isGlob scope "countOf" = true)
  (_ : isGlob scope "indexOf" = true)
  (_ : isGlob scope "ValueError" = true)
  (_ : behindInMarks .NotEq e3 = false)
  (_ : cSs n (Nsf fns dats) scope [s1,s2,s3] = some bpre)
  (_ : cT n (Nsf fns dats) scope (.Compare e1 [.NotEq] [e2] c1p) = some t1)
  (_ : cE n (Nsf fns dats) scope e3 = some (.blt "len" [.var 5]))
  (_ : cSs n (Nsf fns dats) scope [last] = some [blast])
  (_ : defOk [("text" : Str),("sign" : Str),("marks" : Str),("shift" : Str)] scope = true)
  (_ : ∀ vs : List Value,vs.length = 4 → ∀ s,BindsTo s fd ⟨vs,[]⟩ ([("text" : Str),("sign" : Str),("marks" : Str),("shift" : Str)].zip vs)) : SfDef n h₀ fns dats bpre t1 blast a
structure FnAt (h₀ : Heap) (f : Str) (P : Addr → Prop) : Prop where
 ex : ∃ mg a o fd,h₀.Ns mainGlobals mg ∧ mg f = some (.ref a) ∧ h₀.get? a = some o ∧ o.data = .func fd ∧ P a
theorem call2 {f x y : Str} {p q r pos : Pos} {a : Addr} {o : Obj} {fd : FuncData} {mg : Str → Option Value} {vx vy : Value} {Q : Value → Shared → Prop} {E : Value → Shared → Prop} (eo : EnvOK env sc) (fs : FS prog w lv h₀ hb B env sc A Is ow σ s) (hg : isGlob sc f = true) (hf : (f == ("__debug__" : Str)) = false)
  (nx : okName x = true) (ny : okName y = true) (hx : VarAt env s.heap x vx) (hy : VarAt env s.heap y vy) (hmg : h₀.Ns mainGlobals mg) (ha : mg f = some (.ref a)) (ho : h₀.get? a = some o) (hdat : o.data = .func fd)
  (h : wpAny (model prog w) A (call (.ref a) [vx,vy]) Q E s) : wpAny (model prog w) A (eval (.Call (.Name f p) [.Name x q,.Name y r] [] pos) env) Q E s := by
 refine wpAny_Call_Name_kw (glob_val eo fs.ok hg hmg ha hf ?_)
 refine Calls.callWith_function (o := o) (fd := fd) ?_
 have hs : starEach [.Name x q,.Name y r] env = [(false,eval (.Name x q) env),(false,eval (.Name y r) env)] := rfl
 rw [hs]
 refine Calls.evalArgs_plain (Calls.spliced_cons (loadVar eo.kind hx (okName_both nx).1 (okName_both nx).2 (Calls.spliced_cons (loadVar eo.kind hy (okName_both ny).1 (okName_both ny).2 (Calls.spliced_nil ?_)))))
 exact ⟨⟨fs.ok.le _ _ ho,hdat⟩,h⟩
theorem FS.strAt {x : Str} {l : List Nat} (y : FS prog w lv h₀ hb B env sc A Is ow σ s) (h : σ.lookup x = some (.str l)) : ∃ t,VarAt env s.heap x (.str ⟨l.toArray⟩ t) := by
 obtain ⟨v,hv,hd⟩ := y.sees x _ h (fun _ e => by cases e)
 have : ∃ t,v = .str ⟨l.toArray⟩ t := hd.elim (fun h => h) fun h => h
 obtain ⟨t,rfl⟩ := this
 exact ⟨t,hv⟩
theorem sf_call {n : Nat} {f : Addr} {cenv : Env} {m : Str → Option Value} {bpre : List CStm} {t1 : CT} {blast : CStm} {l : List Nat} {c : Nat} {ta t tm tsh : Tok} {mk sh : Int} {ps : List Int} {ρ₁ : Rho} {Q : Value → Shared → Prop} {E : Value → Shared → Prop}
  (X : Cx prog w lv h₀ G (Nco fns dats) C) (X' : Cx prog w (lv + 1) h₀ G (Nsf fns dats) C) (P : FnAt h₀ "countOf" (CoDef n h₀ fns dats)) (P' : FnAt h₀ "indexOf" (IxDef h₀)) (Z : SfDef n h₀ fns dats bpre t1 blast f)
  (o : Ok (lv + 2) h₀ B A s) (hfr : A.frames = some [cenv]) (hcf : cenv.frame = some cenv.locals) (hck : cenv.scope.kind ≠ .module) (hcn : s.heap.Ns cenv.locals m) (hc0 : h₀.get? cenv.locals = none)
  (ht : t ≠ 0) (htk : t < s.toks) (hnb : NoneBooked h₀)
  (hpre : xsC C bpre [some (.str l),some (.sig [c] t),some (.int mk),some (.int sh),none,none,none,none] = some (.next,ρ₁)) (hl₁ : ρ₁[0]?.join = some (.str l)) (hs₁ : ρ₁[1]?.join = some (.sig [c] t)) (hp₁ : ρ₁[5]?.join = some (.list (ps.map D.int)))
  (ht1 : tsC C (viewC ρ₁) t1 = some false) (hcnt : l.count c = ps.length) (hfit : fits ps.length = true)
  (hfound : ∀ k : Nat,l[k]? = some c → (∀ j,j < k → l[j]? ≠ some c) → ∃ ρ₂,exC C blast (ρ₁.set 7 (some (.int k))) = some (.ret (.bool true),ρ₂)) (hnone : (∀ j : Nat,l[j]? ≠ some c) → ps = [])
  (hQ : ∀ h' tk,(∀ b o,b ≠ cenv.locals → s.heap.get? b = some o → h'.get? b = some o) → s.heap.UpToSlots h' → Q (.bool true) { s with heap := h',toks := tk }) :
  wpAny (model prog w) A (call (.ref f) [.str ⟨l.toArray⟩ ta,.str ⟨[c].toArray⟩ t,.int mk tm,.int sh tsh]) Q E s := by
 obtain ⟨fd,s1,s2,s3,last,e1,e2,e3,ef,p1,p2,p3,p4,c1p,c2p,bp,rp,ip,q1,q2,q3,q4,q5,q6,q7,r1,r2,r3,r4,r5,tp,scope,hat,n1,n2,n3,n4,g1,g2,g3,hbm,c1,c2,c3,c4,hd,hbind⟩ := Z
 obtain ⟨mg1,ca,cob,cfd,hmg1,hca,hcob,hcdat,CO⟩ := P.ex
 obtain ⟨mg2,xa,xob,xfd,hmg2,hxa,hxob,hxdat,IX⟩ := P'.ex
 obtain ⟨mg,mb,hmg,hmb,_,_,_,hty⟩ := X.g.ns
 obtain ⟨x3,x4⟩ := hty "ValueError" (by decide)
 have ix : idx ("text" : Str) (Nsf fns dats).ns = some 0 ∧ idx ("sign" : Str) (Nsf fns dats).ns = some 1 ∧ idx ("places" : Str) (Nsf fns dats).ns = some 5 ∧ idx ("first" : Str) (Nsf fns dats).ns = some 7 := by
  show idx _ [("text" : Str),("sign" : Str),("marks" : Str),("shift" : Str),("k" : Str),("places" : Str),("flags" : Str),("first" : Str)] = _ ∧ idx _ [("text" : Str),("sign" : Str),("marks" : Str),("shift" : Str),("k" : Str),("places" : Str),("flags" : Str),("first" : Str)] = _ ∧ idx _ [("text" : Str),("sign" : Str),("marks" : Str),("shift" : Str),("k" : Str),("places" : Str),("flags" : Str),("first" : Str)] = _ ∧ idx _ [("text" : Str),("sign" : Str),("marks" : Str),("shift" : Str),("k" : Str),("places" : Str),("flags" : Str),("first" : Str)] = _
  decide +kernel
 have bnd : isBound (scope.names.lookup ("text" : Str)) = true ∧ isBound (scope.names.lookup ("sign" : Str)) = true ∧ isBound (scope.names.lookup ("places" : Str)) = true := by rw [n1,n2,n3]; exact ⟨rfl,rfl,rfl⟩
 have h4 : isHeld (scope.names.lookup ("first" : Str)) = true := by rw [n4]; rfl
 refine def_callT (ps := [("text" : Str),("sign" : Str),("marks" : Str),("shift" : Str)]) (vs := [.str ⟨l.toArray⟩ ta,.str ⟨[c].toArray⟩ t,.int mk tm,.int sh tsh]) (ds := [.str l,.sig [c] t,.int mk,.int sh]) hat X.g.nolimit hd (hbind _ rfl s) o ⟨_,_,rfl,⟨ta,rfl⟩,_,_,rfl,rfl,_,_,rfl,⟨tm,rfl⟩,_,_,rfl,⟨tsh,rfl⟩,rfl⟩ fun A' env s₁ hA eo hle fs hva hsame hfx htk₁ => ?_
 have hLn : env.locals = s.heap.objs.size := hfx.2.2.1
 have hfr' : A'.frames = some [env,cenv] := by rw [hfx.1]; exact Around.frames_deeper hfr
 have r0 : Rel (Nsf fns dats) scope ([("text" : Str),("sign" : Str),("marks" : Str),("shift" : Str)].zip [.str l,.sig [c] t,.int mk,.int sh]) [some (.str l),some (.sig [c] t),some (.int mk),some (.int sh),none,none,none,none] :=
  zip_rel (ps := [("text" : Str),("sign" : Str),("marks" : Str),("shift" : Str)]) (rest := [("k" : Str),("places" : Str),("flags" : Str),("first" : Str)]) (as := [.str l,.sig [c] t,.int mk,.int sh]) rfl (by decide +kernel)
 refine seg_toks (K := t + 1) (l := [s1,s2,s3]) X' eo c1 hpre ⟨_,r0,fs⟩ (Nat.le_trans htk htk₁) fun s₂ ow₂ f₂ t₂ htk₂ => ?_
 have out : ∀ {s₃ : Shared} {ow₃ : Ow},Tn env scope (fun _ => none) s₁ ow₃ s₃ → Kp s s₃ := fun t₃ => leave_kp hsame hle fs t₃
 refine wpAny_execs_cons (wpAny_If (wpAny_isTrue_BoolOp ?_))
 rw [arm_allTrue_cons]
 refine wpAny_bind (wpAny_with_toks (n := t + 1) htk₂ (test_ok X' eo c2 ht1 f₂ _ _ fun s₃ k₃ => ?_))
 intro htk₃
 have f₃ := f₂.keeps k₃
 show wpAny _ A' (allTrue .Or [_] env) _ _ s₃
 rw [arm_allTrue_cons]
 obtain ⟨σ₃,rel₃,fs₃⟩ := f₃
 have lt₃ : σ₃.lookup ("text" : Str) = some (.str l) := by rw [rel₃.at _ _ bnd.1 ix.1,hl₁]
 have ls₃ : σ₃.lookup ("sign" : Str) = some (.sig [c] t) := by rw [rel₃.at _ _ bnd.2.1 ix.2.1,hs₁]
 obtain ⟨ta₃,vt₃⟩ := fs₃.strAt lt₃
 have okA : Ok (lv + 1) h₀ (Bf B env scope ow₂ (fun _ => False)) A' s₃ := fs₃.ok
 refine wpAny_bind (wpAny_isTrue_Compare1 (call2 eo fs₃ g1 (by decide +kernel) (by decide +kernel) (by decide +kernel) vt₃ (fs₃.sigAt ls₃) hmg1 hca hcob hcdat (wpAny_with_toks (n := t + 1) htk₃ (co_call X CO okA ht htk₃ hnb fun s₄ tc k₄ => ?_))) hbm)
 intro htk₄
 have f₄ : FR prog w (lv + 1) h₀ s.heap B env scope A' (fun _ => False) ow₂ (Nsf fns dats) ρ₁ s₄ := ⟨σ₃,rel₃,fs₃.keeps k₄⟩
 refine wpAny_with_toks (n := t + 1) htk₄ ((expr_ok X' eo c3 (d := .int ps.length) (by
  have : (viewC ρ₁)[5]?.join = some (.list (ps.map D.int)) := by unfold viewC; rw [join_map,hp₁]; rfl
  refine Eq.trans (congrArg (fun o : Option D => (o.bind fun d => some [d]).bind (bcall "len")) this) ?_
  refine (if_pos ?_).trans (by rw [List.length_map])
  rw [List.length_map]; exact hfit) f₄).then fun v₅ s₅ k₅ x₅ => ?_)
 intro htk₅
 obtain ⟨tv,rfl⟩ := den_int x₅
 refine PyProof.Rows.ne_int ?_
 rw [hcnt]
 simp only [bne_self_eq_false]
 refine wpAny_truthy_bool ?_
 show wpAny _ A' (allTrue .Or [] env) _ _ s₅
 refine wpAny_pure ?_
 show wpAny _ A' (execs [] env) _ _ s₅
 refine wpAny_execs_nil ?_
 have fs₅ := (fs₃.keeps k₄).keeps k₅
 have t₅ : Tn env scope (fun _ => none) s₁ ow₂ s₅ := by
  have a := t₂
  obtain ⟨_,_,ff⟩ := f₂
  exact Tn.to (ff.keeps k₃ |>.keeps k₄) (Tn.to ff a (Tn.of_kp (k₃.trans k₄))) (Tn.of_kp k₅)
 have hff : ∀ (s₆ : Shared),(∀ b o,s.heap.get? b = some o → s₆.heap.get? b = some o) → (∃ m',s₆.heap.Ns env.locals m') → s₆.heap.FunFrames (hideAll s₅.heap [env.locals,cenv.locals]) [env,cenv] := fun s₆ hk ⟨m',hm'⟩ => by
  obtain ⟨ob,es,ep,hob,r⟩ := hcn
  exact Heap.FunFrames.cons (by rw [eo.kind]; decide) hfx.2.1 hm' (hideAll_none _ (by simp)) (Heap.FunFrames.cons hck hcf (⟨ob,es,ep,hk _ _ hob,r⟩ : s₆.heap.Ns cenv.locals m) (hideAll_none _ (by simp)) trivial)
 have k05 := out t₅
 have lt₅ : σ₃.lookup ("text" : Str) = some (.str l) := lt₃
 obtain ⟨ta₅,vt₅⟩ := fs₅.strAt lt₃
 have okB : Ok (lv + 1) h₀ (Bf B env scope ow₂ (fun _ => False)) A' s₅ := fs₅.ok
 refine wpAny_execs_cons (try_catch (base := hideAll s₅.heap [env.locals,cenv.locals]) (outer := [cenv]) hfr' hfx.2.1 sub_value_base value_not_tuple sub_value (fun A'' s₆ Q' E' hst hq => ?_) ?_)
 ·have hkeep : Le h₀ s₆.heap := fun b o' e => by
   refine hst _ _ (hideAll_get _ (k05.le _ _ (o.le _ _ e)) ?_)
   intro hm
   simp only [List.mem_cons,List.not_mem_nil,or_false] at hm
   rcases hm with hm | hm
   ·rw [hm] at e
    have := Heap.lt_size (o.le _ _ e); rw [hLn] at this; exact absurd this (Nat.lt_irrefl _)
   ·rw [hm,hc0] at e; cases e
  exact Calls.Name_function_global eo.kind (glob_kind eo g3) (Calls.loadGlobal_builtin (by rw [eo.glob]; exact hmg.keepsP hkeep) x3 (by rw [eo.blt]; exact hmb.keepsP hkeep) x4 hq) (by decide +kernel)
 ·refine wpAny_execs_cons (wpAny_Assign_Name (call2 eo fs₅ g2 (by decide +kernel) (by decide +kernel) (by decide +kernel) vt₅ (fs₅.sigAt ls₃) hmg2 hxa hxob hxdat (ix_call (base := hideAll s₅.heap [env.locals,cenv.locals]) (outer := [env,cenv]) X.g IX okB hfr' (fun b o' e => of_hideAll _ e) (hff s₅ (fun b o' e => k05.le _ _ e) fs₅.frm.ns) ht htk₅ hnb
   (fun k s₆ t' hk1 hk2 k₆ => ?_) (fun hno e a0 h' tk fly up => ?_))))
  ·
   have f₆ : FR prog w (lv + 1) h₀ s.heap B env scope A' (fun _ => False) ow₂ (Nsf fns dats) ρ₁ s₆ := ⟨σ₃,rel₃,fs₅.keeps k₆⟩
   refine f₆.assign (px := q1) (i := 7) (d := .int (k : Nat)) eo h4 ix.2.2.2 (fun _ h => by cases h) (.inr ⟨t',rfl⟩) fun s₇ f₇ t₇ => ?_
   refine wpAny_execs_nil (wpAny_execs_nil ?_)
   obtain ⟨ρ₂,hlast⟩ := hfound k hk1 hk2
   refine seg_end (out := .ret (.bool true)) (ρ' := ρ₂) X' eo c4 (by show (exC C blast _).bind _ = _; rw [hlast]; rfl) f₇ fun fl s₈ ow₈ f₈ t₈ o₈ => ?_
   obtain ⟨v,rfl,xv⟩ := o₈
   cases (show v = .bool true from xv)
   obtain ⟨_,_,ff₇⟩ := f₇
   have k := out (Tn.to ff₇ (Tn.to fs₅ t₅ (t₇.kpL k₆)) t₈)
   obtain ⟨h8,tk8,rfl,k8⟩ := k
   exact hQ h8 tk8 (fun b o' _ e => k8 b o' e) (Heap.UpToSlots.of_keeps k8)
  ·
   refine ⟨e,a0,rfl,fly,fun h'' hst up2 E' => ?_⟩
   have up5 : s₅.heap.UpToSlots h'' := up.trans up2
   have hps := hnone hno
   have lp₅ : σ₃.lookup ("places" : Str) = some (.list []) := by rw [rel₃.at _ _ bnd.2.2 ix.2.2.1,hp₁,hps]; rfl
   obtain ⟨v,hv,hdv⟩ := fs₅.sees _ _ lp₅ (fun _ h => by cases h)
   have hpl : ∃ pa,v = .ref pa ∧ s₅.heap.PlainList pa (List.toArray []) := by
    rcases hdv with hdv | hdv
    ·obtain ⟨pa,us,rfl,_,⟨nn,hp⟩,hus⟩ := hdv
     cases (show us = [] from hus)
     exact ⟨pa,rfl,nn,fs₅.le _ _ hp⟩
    ·obtain ⟨pa,us,rfl,_,⟨nn,hp⟩,hus⟩ := hdv
     cases (show us = [] from hus)
     exact ⟨pa,rfl,nn,hp⟩
   obtain ⟨pa,rfl,nn,hpo⟩ := hpl
   obtain ⟨mm,obm,esm,epm,hobm,hdm,_⟩ := fs₅.frm.ns
   have hv'' : VarAt env h'' ("places" : Str) (.ref pa) := by
    rcases hv with ⟨e1,m',hn',hm'⟩ | ⟨e1,c,hc',hv'⟩
    ·exact .inl ⟨e1,m',up5.ns hn',hm'⟩
    ·exfalso
     have := held_local eo n3
     rw [this] at e1
     rcases e1 with e1 | e1 <;> cases e1
   have hpa'' : h''.get? pa = some { cls := .type "list",data := .seq (List.toArray []) nn } := by
    refine hst _ _ (hideAll_get _ hpo ?_)
    intro hm
    simp only [List.mem_cons,List.not_mem_nil,or_false] at hm
    rcases hm with hm | hm
    ·rw [hm,hobm] at hpo; cases hpo; cases hdm
    ·obtain ⟨ob,es,ep,hob,hdo,_⟩ := hcn
     rw [hm,k05.le _ _ hob] at hpo; cases hpo; cases hdo
   refine wpAny_execs_cons (wpAny_Return_some (wpAny_Compare1 (loadVar eo.kind hv'' (by decide +kernel) (by decide +kernel) ?_) rfl))
   refine List_ (Calls.spliced_nil ?_)
   refine wpAny_newObj_type ?_ (by show (List.toArray ([] : List Value)).size ≤ sizeLine; simp)
   have k6 : ∀ b o',h''.get? b = some o' → (h''.push { cls := .type "list",data := .seq (List.toArray []) }).get? b = some o' := fun b o' e => Heap.get?_push_of_some _ e
   refine ke_eq_ints (xs := []) (ys := []) (ns := []) (ms := []) ⟨_,k6 _ _ hpa'',rfl,_,rfl⟩ ⟨_,Heap.get?_push_size _ rfl,rfl,_,rfl⟩ (by first | exact trivial | constructor) (by first | exact trivial | constructor) (by rw [Around.mark_units]; exact amb_units hA) ?_
   obtain ⟨h5,tk5,e5,k5⟩ := k05
   have fin := hQ (h''.push { cls := .type "list",data := .seq (List.toArray []) }) tk (fun b o' hb e => k6 _ _ (hst _ _ (hideAll_get _ (by rw [e5]; exact k5 _ _ e) (by
     intro hm
     simp only [List.mem_cons,List.not_mem_nil,or_false] at hm
     rcases hm with hm | hm
     ·rw [hm] at e
      have := Heap.lt_size e; rw [hLn] at this; exact absurd this (Nat.lt_irrefl _)
     ·exact hb hm)))) (((Heap.UpToSlots.of_keeps (h' := s₅.heap) (by rw [e5]; exact k5)).trans up5).trans (Heap.UpToSlots.of_keeps k6))
   rw [e5]
   exact fin
end
noncomputable def TabS : List (Int × List Nat) → List (Str × Value) → Prop
 | [],kvs => kvs = []
 | e :: es,kvs => ∃ t r,kvs = (⟨e.2.toArray⟩,.int e.1 t) :: r ∧ TabS es r
theorem TabS.get : ∀ {es : List (Int × List Nat)} {kvs : List (Str × Value)},TabS es kvs → kvs.length = es.length ∧ ∀ (i : Nat) (e : Int × List Nat),es[i]? = some e → ∃ t,kvs[i]? = some ((⟨e.2.toArray⟩ : Str),Value.int e.1 t)
 | [],_,x => by cases x; exact ⟨rfl,fun i e h => by simp at h⟩
 | e :: es,_,⟨t,r,h,y⟩ => by
  subst h
  obtain ⟨h1,h2⟩ := TabS.get y
  refine ⟨by simp [h1],fun i e' h => ?_⟩
  cases i with
  | zero => simp at h; subst h; exact ⟨t,rfl⟩
  | succ i => simpa using h2 i e' (by simpa using h)
theorem TabVals.snoc : ∀ {es : List (Int × List Nat)} {kvs : List (Int × Value)} {n : Int} {l : List Nat} {t : Tok},TabVals es kvs → TabVals (es ++ [(n,l)]) (kvs ++ [(n,.str ⟨l.toArray⟩ t)])
 | [],_,n,l,t,x => by cases x; exact ⟨t,[],rfl,rfl⟩
 | e :: es,_,n,l,t,⟨u,r,h,y⟩ => by subst h; exact ⟨u,_,rfl,TabVals.snoc y⟩
theorem TabVals.keys : ∀ {es : List (Int × List Nat)} {kvs : List (Int × Value)},TabVals es kvs → kvs.map (·.1) = es.map (·.1)
 | [],_,x => by cases x; rfl
 | e :: es,_,⟨u,r,h,y⟩ => by subst h; simp [TabVals.keys y]
theorem cps_inj {x y : List Nat} {t u : Tok} (h : (Value.str ⟨x.toArray⟩ t) = .str ⟨y.toArray⟩ u) : x = y := by
 injection h with h1 _
 have := congrArg (fun s : Str => s.cps.toList) h1
 simpa using this
theorem stored_all {es : List (Int × List Nat)} (h1 : (es.map (·.1)).Nodup) (h2 : (es.map (·.2)).Nodup) {vs : List Value} {kvs : List (Int × Value)}
  (S : StoredAll (fun v n => ∃ e ∈ es,∃ t,v = .str ⟨e.2.toArray⟩ t ∧ n = e.1) (fun v y => y = v) vs kvs) : (∀ (j : Nat) (v : Value),vs[j]? = some v → ∃ e t,es[j]? = some e ∧ v = .str ⟨e.2.toArray⟩ t) → TabVals (es.take vs.length) kvs := by
 induction S with
 | nil => intro _; rfl
 | @snoc l kvs v k y S hk hv ih =>
  intro hj
  have ih' := ih fun j v' h => hj j v' (by
   have hlt : j < l.length := (List.getElem?_eq_some_iff.mp h).1
   rw [List.getElem?_append_left hlt]; exact h)
  obtain ⟨e',t',he',hv'⟩ := hj l.length v (by simp)
  obtain ⟨e,hem,t,hve,rfl⟩ := hk
  subst hv
  rw [hve] at hv'
  have hee := cps_inj hv'
  obtain ⟨i,hi⟩ := List.mem_iff_getElem?.mp hem
  have hlt : l.length < es.length := (List.getElem?_eq_some_iff.mp he').1
  have : e = e' := by
   have hi2 : (es.map (·.2))[i]? = some e.2 := by rw [List.getElem?_map,hi]; rfl
   have he2 : (es.map (·.2))[l.length]? = some e.2 := by rw [List.getElem?_map,he',hee]; rfl
   obtain ⟨a1,a2⟩ := List.getElem?_eq_some_iff.mp hi2
   obtain ⟨c1,c2⟩ := List.getElem?_eq_some_iff.mp he2
   have := (List.getElem_inj h2).mp (a2.trans c2.symm)
   rw [this] at hi
   rw [hi] at he'; exact Option.some.inj he'
  subst this
  have hget : es[l.length] = e := (List.getElem?_eq_some_iff.mp he').2
  have hnew : kvs.any (fun kv => kv.1 = e.1) = false := by
   rw [List.any_eq_false]
   intro kv hm
   have : kv.1 ∈ kvs.map (·.1) := List.mem_map.mpr ⟨kv,hm,rfl⟩
   rw [ih'.keys,List.map_take] at this
   intro heq
   have heq : kv.1 = e.1 := by simpa using heq
   rw [heq,List.mem_take_iff_getElem] at this
   obtain ⟨j,hj1,hj2⟩ := this
   have hj3 : j < (es.map (·.1)).length := by lia
   have hl3 : l.length < (es.map (·.1)).length := by rw [List.length_map]; exact hlt
   have : (es.map (·.1))[l.length] = e.1 := by rw [List.getElem_map,hget]
   have := (List.getElem_inj h1).mp (hj2.trans this.symm)
   lia
  rw [List.length_append,List.length_singleton,List.take_succ_eq_append_getElem hlt,hget]
  unfold stored
  rw [hnew]
  simp only [Bool.false_eq_true,if_false]
  rw [hve]
  exact TabVals.snoc ih'
section
variable {prog : Program} {w : World} {lv : Nat} {h₀ hb : Heap} {B : Addr → Prop} {A : Around} {s s' : Shared} {env : Env} {sc : Scope} {σ σ' : St} {G : GE} {Is : Addr → Prop} {ow ow' : Ow} {N : Names} {C : GC} {ρ ρ' : Rho} {fns dats : List Str}
theorem FS.rebaseC {K : Addr} (y : FS prog w lv h₀ hb B env sc A (fun b => False ∨ b = K) (fun _ => none) σ s) (eo : EnvOK env sc) (hcell : ∀ x,sc.names.lookup x ≠ some .cell) :
  FS prog w lv h₀ (hideAll s.heap [env.locals,K]) B env sc A (fun b => False ∨ b = K) (fun _ => none) σ s ∧
   ∀ (es : List (Int × List Nat)) (a : Addr) (kvs : List (Int × Value)),s.heap.DictOf (intKind prog w) a kvs → ¬ B a → a ≠ env.locals → a ≠ K → (a == sysModules) = false → TabVals es kvs → Den prog w B (hideAll s.heap [env.locals,K]) (.dict es) (.ref a) := by
 have hL : hb.get? env.locals = none := y.new _ (.inl (.inl rfl))
 have hK : hb.get? K = none := y.new _ (.inr (.inr (.inr rfl)))
 have keep : ∀ b o,b ≠ env.locals → b ≠ K → s.heap.get? b = some o → (hideAll s.heap [env.locals,K]).get? b = some o := fun b o hne hk e => hideAll_get _ e (by simp [hne,hk])
 have le1 : Le hb (hideAll s.heap [env.locals,K]) := fun b o e => keep b o (fun h => by rw [h,hL] at e; cases e) (fun h => by rw [h,hK] at e; cases e) (y.le b o e)
 have loc : ∀ b,Loc env sc b → b = env.locals := fun b h => h.elim (fun h => h) fun ⟨x,hx,_⟩ => absurd hx (hcell x)
 refine ⟨⟨y.amb,y.le₀.trans le1,fun b o e => of_hideAll _ e,fun b hB => ?_,y.off,y.frm,fun b h => ?_,y.isAlive,y.cells,fun x a h => (by cases h),fun x ds e => ?_,fun x d e hn => ?_,y.inj,y.owPl,y.owIs,y.isPl⟩,fun es a kvs hd hB n1 n2 hm ht => ?_⟩
 ·obtain ⟨o,ho⟩ := y.alive b hB; exact ⟨o,le1 b o ho⟩
 ·rcases h with h | ⟨x,h⟩ | h | h
  ·rw [loc b h]; exact hideAll_none _ List.mem_cons_self
  ·cases h
  ·exact h.elim
  ·rw [h]; exact hideAll_none _ (List.mem_cons_of_mem _ List.mem_cons_self)
 ·exact y.val x ds e
 ·obtain ⟨v,hv,hd⟩ := y.sees x d e hn
  exact ⟨v,hv,hd.imp (fun h => h.le le1) fun h => h⟩
 ·exact ⟨a,kvs,rfl,hB,hm,hd.at fun o e => keep a o n1 n2 e,ht⟩
end
structure TabAt (prog : Program) (w : World) (h₀ : Heap) (es : List (Int × List Nat)) : Prop where
 n1 : (es.map (·.1)).Nodup
 n2 : (es.map (·.2)).Nodup
 ex : ∃ mg a ep kvs,h₀.Ns mainGlobals mg ∧ mg ("EXACT_TOKEN_TYPES" : Str) = some (.ref a) ∧ (a == sysModules) = false ∧ h₀.DictAt (strKind prog w) a kvs ep ∧ TabS es kvs
 size : es.length ≤ 1000
 sm : ∃ o,h₀.get? sysModules = some o
section
variable {prog : Program} {w : World} {lv : Nat} {h₀ hb : Heap} {B : Addr → Prop} {A : Around} {s s' : Shared} {env : Env} {sc : Scope} {σ σ' : St} {G : GE} {Is : Addr → Prop} {ow ow' : Ow} {N : Names} {C : GC} {ρ ρ' : Rho} {fns dats : List Str}
theorem signs_stmt {es : List (Int × List Nat)} {px a1 a2 a3 a4 a5 a6 cpos pos : Pos} {cs : Scope} (T : TabAt prog w h₀ es) (eo : EnvOK env sc) (y : FS prog w lv h₀ hb B env sc A (fun _ => False) (fun _ => none) σ s)
  (hcell : ∀ x,sc.names.lookup x ≠ some .cell) (hs1 : sc.names.lookup ("signs" : Str) = some .local) (hg : isGlob sc "EXACT_TOKEN_TYPES" = true)
  (k1 : cs.kind = .function) (k2 : cs.names.lookup ("sign" : Str) = some .local) (k3 : cs.names.lookup ("EXACT_TOKEN_TYPES" : Str) = some .globalImplicit) (k4 : ∀ z ∈ cs.names,z.2 ≠ .cell) (k5 : ∀ z ∈ cs.names,z.2 = .local → cs.names.lookup z.1 = some .local) (k6 : ∀ z ∈ cs.names,z.2 ≠ .free)
  (hline : (px.line == cpos.line) = true) (hany : (cs.names.any fun (n,k) => n == ("signs" : Str) && (k == .local || k == .cell)) = false) {Q : Flow → Shared → Prop} {E : Value → Shared → Prop}
  (hQ : ∀ hb' s',FS prog w lv h₀ hb' B env sc A (fun _ => False) (fun _ => none) (put ("signs" : Str) (.dict es) σ) s' → Tn env sc (fun _ => none) s (fun _ => none) s' → Q .next s') :
  wpAny (model prog w) A (exec (.Assign [.Name "signs" px] (.DictComp (.Subscript (.Name "EXACT_TOKEN_TYPES" a1) (.Name "sign" a2) a3) (.Name "sign" a4) [⟨.Name "sign" a5,.Name "EXACT_TOKEN_TYPES" a6,[],0⟩] cs cpos) pos) env) Q E s := by
 obtain ⟨mg,ta,ep,kvs,hmg,hta,htm,hda,htab⟩ := T.ex
 obtain ⟨hlen,hget⟩ := htab.get
 have hkx : env.kindOf ("signs" : Str) = some .local := held_local eo hs1
 have hsw : swapsWith (.DictComp (.Subscript (.Name "EXACT_TOKEN_TYPES" a1) (.Name "sign" a2) a3) (.Name "sign" a4) [⟨.Name "sign" a5,.Name "EXACT_TOKEN_TYPES" a6,[],0⟩] cs cpos) (some (.Name "signs" px)) pos.line env = pure true := by
  have e : swapsWith (.DictComp (.Subscript (.Name "EXACT_TOKEN_TYPES" a1) (.Name "sign" a2) a3) (.Name "sign" a4) [⟨.Name "sign" a5,.Name "EXACT_TOKEN_TYPES" a6,[],0⟩] cs cpos) (some (.Name "signs" px)) pos.line env = pure (env.blockKind == .function && env.kindOf ("signs" : Str) == some .local && px.line == cpos.line && !(cs.names.any fun (n,k) => n == ("signs" : Str) && (k == .local || k == .cell))) := rfl
  rw [e,hkx,hline,hany]
  have : (env.blockKind == ScopeKind.function) = true := by
   have := eo.kind
   unfold Env.blockKind
   first | rw [this]; rfl | simp [this]
  rw [this]; rfl
 rw [exec_Assign_Name_used _ _ _ _ hsw]
 refine wpAny_bind (wpAny_standAt (wpAny_bind ?_))
 show wpAny _ A (do let _ ← comprehension (.DictComp (.Subscript (.Name "EXACT_TOKEN_TYPES" a1) (.Name "sign" a2) a3) (.Name "sign" a4) [⟨.Name "sign" a5,.Name "EXACT_TOKEN_TYPES" a6,[],0⟩] cs cpos) cs env _ newDict false (eval (.Name "EXACT_TOKEN_TYPES" a6) env) (some (assign (.Name "signs" px) env))) _ _ s
 refine wpAny_bind (wpAny_mono (Q := fun _ s' => Q .next s') ?_ (fun _ s' hq => wpAny_pure (wpAny_pure hq)) fun _ _ e => e)
 have hcl : closureFor cs env = pure [] := by
  have := closure_eq cs env fun n hm => absurd rfl (k6 _ hm)
  rw [this]
  have : ∀ (l : List (Str × NameKind)),(∀ z ∈ l,z.2 ≠ .free) → freeCells env.cells l [] = [] := by
   intro l
   induction l with
   | nil => intro _; rfl
   | cons z r ih =>
    intro h
    obtain ⟨n,k⟩ := z
    unfold freeCells
    have hk : (k == NameKind.free) = false := by
     have := h _ List.mem_cons_self
     simpa using this
    rw [hk]
    exact ih fun z hz => h z (List.mem_cons_of_mem _ hz)
  rw [this _ k6]
 refine wpAny_comprehension_free (use := some (assign (.Name "signs" px) env)) (g := ⟨.Name "sign" a5,.Name "EXACT_TOKEN_TYPES" a6,[],0⟩) (gs := []) rfl (by intro _; rfl) hcl k1 k5 ?_
 refine glob_val eo y.ok hg hmg hta (by decide +kernel) ?_
 have hds : s.heap.DictAt (strKind prog w) ta kvs ep := hda.keep y.ok.le
 refine wpAny_pyIter_dict htm hds ?_
 generalize hI : s.heap.objs.size = I
 have fI : s.heap.get? I = none := Heap.get?_none_of_le (by rw [hI]; exact Nat.le_refl _)
 have hob : (s.heap.push { cls := .type "dict_keyiterator",data := .fields #[.ref ta,.int 0 0,.int kvs.length 0,.int ep 0] }).get? I = some { cls := .type "dict_keyiterator",data := .fields #[.ref ta,.int 0 0,.int kvs.length 0,.int ep 0] } := hI ▸ Heap.get?_push_size _ rfl
 have hltI : ta < I := hI ▸ hds.lt_size
 have le2 : Le s.heap (s.heap.push { cls := .type "dict_keyiterator",data := .fields #[.ref ta,.int 0 0,.int kvs.length 0,.int ep 0] }) := Le.push _ _
 generalize hs2 : ({ s with heap := s.heap.push { cls := .type "dict_keyiterator",data := .fields #[.ref ta,.int 0 0,.int kvs.length 0,.int ep 0] } } : Shared) = s₂
 have k02 : Kp s s₂ := hs2 ▸ Kp.heap (t := s.toks) le2
 have hit : s₂.heap.IsKeyIter I ta 0 kvs.length ep := by rw [← hs2]; exact ⟨_,hob,rfl,rfl⟩
 have hd2 : s₂.heap.DictAt (strKind prog w) ta kvs ep := hds.keep k02.le
 have W := Walks.dictKeys (prog := prog) (w := w) (knd := strKind prog w) y.amb.1 I ta (Nat.ne_of_lt hltI) kvs ep
 have hlt2 : ∀ b ∈ [I,ta],b < s₂.heap.objs.size := fun b hb => by
  simp only [List.mem_cons,List.not_mem_nil,or_false] at hb
  rcases hb with rfl | rfl
  ·obtain ⟨o,ho,_⟩ := hit; exact Heap.lt_size ho
  ·exact hd2.lt_size
 have keyOf : ∀ (i : Nat) (v : Value),(∃ k x,kvs[i]? = some (k,x) ∧ (strKind prog w).is k v = true) → ∃ (e : Int × List Nat) (t : Tok),es[i]? = some e ∧ v = .str ⟨e.2.toArray⟩ t := fun i v ⟨k,x,hk,hv⟩ => by
  have hlt : i < es.length := by rw [← hlen]; exact (List.getElem?_eq_some_iff.mp hk).1
  obtain ⟨t,ht⟩ := hget i es[i] (List.getElem?_eq_getElem hlt)
  rw [ht] at hk; cases hk
  obtain ⟨u,hu⟩ := Value.isStrOf_shape (show Value.isStrOf _ v = true from hv)
  exact ⟨es[i],u,List.getElem?_eq_getElem hlt,hu⟩
 have eC : ∀ C,EnvOK (compEnvC cs [] C env) cs := fun C => ⟨k1,eo.glob,eo.blt,fun x => relabel_lookup cs env x,fun x hx => by
  rcases hx with hx | hx
  ·exact absurd rfl (k4 _ (mem_of_lookup hx))
  ·exact absurd rfl (k6 _ (mem_of_lookup hx))⟩
 have hloc : ∀ C,(compEnvC cs [] C env).kindOf ("sign" : Str) = some .local := fun C => held_local (eC C) k2
 have hgl : ∀ C,(compEnvC cs [] C env).kindOf ("EXACT_TOKEN_TYPES" : Str) = some .globalImplicit := fun C => glob_kind (eC C) (by unfold isGlob; rw [k3]; rfl)
 have hfC : ∀ C,(compEnvC cs [] C env).scope.kind = .function := fun C => (eC C).kind
 have readS : ∀ C (m₃ : Str → Option Value) (v : Value) (s₃ : Shared) (p : Pos) (Q' : Value → Shared → Prop) (E' : Value → Shared → Prop),s₃.heap.Ns C m₃ → m₃ ("sign" : Str) = some v → Q' v s₃ → wpAny (model prog w) A (eval (.Name "sign" p) (compEnvC cs [] C env)) Q' E' s₃ := fun C m₃ v s₃ p Q' E' hn hm hq =>
  loadVar (hfC C) (.inl ⟨hloc C,m₃,hn,hm⟩) (by decide +kernel) (by decide +kernel) hq
 refine comp_block_walkCD (knd := intKind prog w) (RR := fun acc K => compPost (model prog w) A E (some (assign (.Name "signs" px) env)) (fun _ s' => Q .next s') acc K) W (by rw [hlen,sizeLine_eq]; have := T.size; lia) (fun _ => true)
  (fun v n => ∃ e ∈ es,∃ t,v = .str ⟨e.2.toArray⟩ t ∧ n = e.1) (fun v y => y = v) k4 k1 k2 ⟨hit,hd2⟩ hlt2 ⟨?_,?_,?_⟩ ?_
 ·intro K i v s₃ m₃ E' hP hn hm hk
  exact wpAny_pure ⟨rfl,s₃.heap,s₃.toks,rfl,fun _ _ e => e⟩
 ·intro K i v s₃ m₃ E' hP _ hn hm hk
  obtain ⟨e,t,he,rfl⟩ := keyOf i v hP
  have keep3 : ∀ b o,h₀.get? b = some o → s₃.heap.get? b = some o := fun b o e => hk b o (fun hm' => by
   rw [List.mem_singleton] at hm'
   rw [hm'] at e
   rw [y.ok.le _ _ e] at fI; cases fI) (k02.le _ _ (y.ok.le _ _ e))
  rw [eval_Subscript]
  refine wpAny_bind (Calls.Name_function_global (hfC K) (hgl K) (Calls.loadGlobal_global (by show s₃.heap.Ns env.globals mg; rw [eo.glob]; exact hmg.keepsP keep3) hta ?_) (by decide +kernel))
  refine wpAny_bind (wpAny_holding (readS K m₃ _ s₃ a2 _ _ hn hm ?_))
  refine wpAny_bind (wpAny_standAt ?_)
  have hd3 : s₃.heap.DictAt (strKind prog w) ta kvs ep := hda.keep keep3
  have hT := hd3.dictOf.typeIs
  refine wpAny_bind ?_
  rw [getitemInPython_of_ne hT.not_modules]
  refine wpAny_bind (wpAny_specialOf hT slot_dict_getitem.lookup ?_)
  refine wpAny_pure ?_
  have hs : subscripted (.Name "sign" a2) false (.ref ta) (.str ⟨e.2.toArray⟩ t) = operate [.ref ta,.str ⟨e.2.toArray⟩ t] (getItem (.ref ta) (.str ⟨e.2.toArray⟩ t)) := rfl
  rw [hs]
  obtain ⟨u,hu⟩ := hget i e he
  have hval : valueAt kvs (⟨e.2.toArray⟩ : Str) = some (.int e.1 u) := valueAt_of_get hda.nodup hu
  refine wpAny_bind (wpAny_operating (wpAny_getItem_of (knd := strKind prog w) (by simp [PySem.strKind,Value.isStrOf]) hd3.dictOf.mapOf hval ?_))
  refine wpAny_bind (wpAny_letTemporaryGo (wpAny_pure ⟨⟨e.1,intKind_is _ _,e,List.mem_of_getElem? he,t,rfl,rfl⟩,s₃.heap,_,rfl,fun _ _ e => e⟩))
 ·intro K i v s₃ m₃ E' hP _ hn hm hk
  exact readS K m₃ v s₃ a4 _ _ hn hm ⟨rfl,s₃.heap,s₃.toks,rfl,fun _ _ e => e⟩
 ·intro D K h' tk m' kvs' vs hD hK hDK hnK hdD hlv hPv hS hkeep
  have htv : TabVals es kvs' := by
   have hfil : vs.filter (fun _ => true) = vs := List.filter_eq_self.mpr fun _ _ => rfl
   rw [hfil] at hS
   have := stored_all T.n1 T.n2 hS fun j v hj => keyOf j v (hPv j v hj)
   rw [hlv,hlen,List.take_length] at this
   exact this
  have le3 : Le s.heap h' := fun b o e => hkeep b o (fun hm => by
   rw [List.mem_singleton] at hm; rw [hm,fI] at e; cases e) (k02.le _ _ e)
  have hsame : (⟨h',s₂.gens,s₂.drawn,tk,s₂.os⟩ : Shared) = { s with heap := h',toks := tk } := by rw [← hs2]
  have dead : ∀ b,s₂.heap.get? b = none → s.heap.get? b = none := fun b hb => by
   cases e : s.heap.get? b with
   | none => rfl
   | some o => rw [k02.le _ _ e] at hb; cases hb
  have hK0 := dead K hK
  have hD0 := dead D hD
  obtain ⟨ok,esk,epk,hok,rk⟩ := id hnK
  have yK := y.addI (I := K) (s' := { s with heap := h',toks := tk }) ⟨h',tk,rfl,le3⟩ hK0 ⟨ok,hok⟩
  obtain ⟨yB,hden⟩ := yK.rebaseC eo hcell
  have hDB : ¬ B D := fun h => by obtain ⟨o,ho⟩ := y.alive D h; rw [y.le _ _ ho] at hD0; cases hD0
  have hDL : D ≠ env.locals := fun h => by
   obtain ⟨m0,o0,es0,ep0,ho0,r0⟩ := y.frm.ns
   rw [← h,hD0] at ho0; cases ho0
  have hDm : (D == sysModules) = false := by
   cases e : (D == sysModules) with
   | false => rfl
   | true =>
    have : D = sysModules := by simpa using e
    obtain ⟨o,ho⟩ := T.sm
    rw [this,y.ok.le _ _ ho] at hD0; cases hD0
  have dD := hden es D kvs' hdD hDB hDL hDK hDm htv
  show wpAny _ A (assign (.Name "signs" px) env (.ref D)) _ _ _
  rw [hsame]
  refine yB.assign (d := .dict es) eo (by rw [hs1]; rfl) (fun _ h => by cases h) (.inl dD) fun s₄ f₄ t₄ => ?_
  rw [off_none] at f₄ t₄
  have hn4 : ∃ m,s₄.heap.Ns K m := ⟨m',ok,esk,epk,t₄.1.get (fun h => by
   rcases h with h | ⟨z,h⟩
   ·exact yB.isPl K (.inr rfl) (Pl.of_loc h)
   ·cases h) hok,rk⟩
  obtain ⟨m4,hn4⟩ := hn4
  refine ⟨m4,hn4,fun h5 hs5 => ?_⟩
  have c5 : Ch (fun b => b = K) s₄ { s₄ with heap := h5 } := ⟨h5,s₄.toks,rfl,fun b o hb e => hs5.extBut b o hb e⟩
  refine hQ _ _ (f₄.endI (fun h => h) c5) ?_
  obtain ⟨h4,tk4,e4,k4'⟩ := t₄.1
  refine ⟨⟨h5,tk4,by rw [e4],fun b o hb e => ?_⟩,fun x a h => by cases h⟩
  have := c5.get (fun h => by rw [h,hK0] at e; cases e) (t₄.1.get hb (le3 b o e))
  exact this
end
set_option maxRecDepth 512
noncomputable def flagTab : List (Int × List Nat) := [(1,[79,80,84,73,77,73,90,69,68]),(2,[78,69,87,76,79,67,65,76,83]),(4,[86,65,82,65,82,71,83]),(8,[86,65,82,75,69,89,87,79,82,68,83]),(16,[78,69,83,84,69,68]),(32,[71,69,78,69,82,65,84,79,82]),(64,[78,79,70,82,69,69]),(128,[67,79,82,79,85,84,73,78,69]),(256,[73,84,69,82,65,66,76,69,95,67,79,82,79,85,84,73,78,69]),(512,[65,83,89,78,67,95,71,69,78,69,82,65,84,79,82])]
noncomputable def exactTab : List (Int × List Nat) := [(54,[33]),(28,[33,61]),(24,[37]),(40,[37,61]),(19,[38]),(41,[38,61]),(7,[40]),(8,[41]),(16,[42]),(35,[42,42]),(46,[42,42,61]),(38,[42,61]),(14,[43]),(36,[43,61]),(12,[44]),(15,[45]),(37,[45,61]),(51,[45,62]),(23,[46]),(52,[46,46,46]),(17,[47]),(47,[47,47]),(48,[47,47,61]),(39,[47,61]),(11,[58]),(53,[58,61]),(13,[59]),(20,[60]),(33,[60,60]),(44,[60,60,61]),(29,[60,61]),(22,[61]),(27,[61,61]),(21,[62]),(30,[62,61]),(34,[62,62]),(45,[62,62,61]),(49,[64]),(50,[64,61]),(9,[91]),(10,[93]),(32,[94]),(43,[94,61]),(25,[123]),(18,[124]),(42,[124,61]),(26,[125]),(31,[126])]
noncomputable def fnsN : List Str := [("_substitution_cost" : Str),("_levenshtein_distance" : Str),("pretty_flags" : Str),("_parse_varint" : Str),("eq" : Str),("lshift" : Str),("or_" : Str),("concat" : Str),("countOf" : Str),("getitem" : Str),("indexOf" : Str),("ISTERMINAL" : Str),("ISNONTERMINAL" : Str),("ISEOF" : Str),("_law_spelled" : Str),("_law_terminal" : Str),("_law_rules" : Str),("_law_cost" : Str),("_law_stretch" : Str),("_law_leaf" : Str),("_law_join" : Str),("_law_record" : Str),("_law_octets" : Str),("_law_read" : Str),("_law_kind_fits" : Str),("_law_unpacked" : Str),("_law_words" : Str),("_law_sign_fits" : Str),("_law_stretches_fit" : Str),("law" : Str),("length_hint" : Str)]
noncomputable def datsN : List Str := [("_MAX_STRING_SIZE" : Str),("_MOVE_COST" : Str),("_CASE_COST" : Str),("NT_OFFSET" : Str),("ENDMARKER" : Str),("COMPILER_FLAG_NAMES" : Str)]
noncomputable def bd0 : List CStm := [.ite (.cmp .Eq (.var 0) (.var 1)) [.ret (.const (.int (0)))] [],.ite (.cmp .Eq (.meth "lower" (.var 0) []) (.meth "lower" (.var 1) [])) [.ret (.dat 2)] [],.ret (.dat 1)]
noncomputable def bd1 : List CStm := [.ite (.cmp .Eq (.var 0) (.var 1)) [.ret (.const (.int (0)))] [],.set 3 (.const (.int (0))),.loop (.every .And [(.val (.slice (.var 0) (.var 3) (.const .nil))),(.val (.slice (.var 1) (.var 3) (.const .nil))),(.cmp .Eq (.subs (.var 0) (.var 3)) (.subs (.var 1) (.var 3)))]) [.aug 3 .Add (.const (.int (1)))] [],.set 0 (.slice (.var 0) (.var 3) (.const .nil)),.set 1 (.slice (.var 1) (.var 3) (.const .nil)),.set 4 (.const (.int (0))),.loop (.every .And [(.val (.slice (.var 0) (.const .nil) (.boolv .Or [(.var 4),(.const .nil)]))),(.val (.slice (.var 1) (.const .nil) (.boolv .Or [(.var 4),(.const .nil)]))),(.cmp .Eq (.subs (.var 0) (.bin .Sub (.var 4) (.const (.int (1))))) (.subs (.var 1) (.bin .Sub (.var 4) (.const (.int (1))))))]) [.aug 4 .Sub (.const (.int (1)))] [],.set 0 (.slice (.var 0) (.const .nil) (.boolv .Or [(.var 4),(.const .nil)])),.set 1 (.slice (.var 1) (.const .nil) (.boolv .Or [(.var 4),(.const .nil)])),.ite (.every .Or [(.neg (.val (.var 0))),(.neg (.val (.var 1)))]) [.ret (.bin .Mult (.dat 1) (.bin .Add (.blt "len" [(.var 0)]) (.blt "len" [(.var 1)])))] [],.ite (.every .Or [(.cmp .Gt (.blt "len" [(.var 0)]) (.dat 0)),(.cmp .Gt (.blt "len" [(.var 1)]) (.dat 0))]) [.ret (.bin .Add (.var 2) (.const (.int (1))))] [],.ite (.cmp .Lt (.blt "len" [(.var 1)]) (.blt "len" [(.var 0)])) [.swap 0 1 (.var 1) (.var 0)] [],.ite (.cmp .Gt (.bin .Mult (.bin .Sub (.blt "len" [(.var 1)]) (.blt "len" [(.var 0)])) (.dat 1)) (.var 2)) [.ret (.bin .Add (.var 2) (.const (.int (1))))] [],.own 5 (.listRange [(.dat 1),(.bin .Mult (.dat 1) (.bin .Add (.blt "len" [(.var 0)]) (.const (.int (1))))),(.dat 1)]),.set 6 (.const (.int (0))),.forR 7 [(.blt "len" [(.var 1)])] [.set 8 (.subs (.var 1) (.var 7)),.set2 9 6 (.bin .Mult (.var 7) (.dat 1)),.set 10 (.const (.int (9223372036854775807))),.forR 11 [(.blt "len" [(.var 0)])] [.set 12 (.bin .Add (.var 9) (.call 0 [(.var 8),(.subs (.var 0) (.var 11))])),.set 9 (.subs (.var 5) (.var 11)),.set 13 (.bin .Add (.blt "min" [(.var 6),(.var 9)]) (.dat 1)),.set 6 (.blt "min" [(.var 13),(.var 12)]),.item 5 (.var 11) (.var 6),.ite (.cmp .Lt (.var 6) (.var 10)) [.set 10 (.var 6)] []] [],.ite (.cmp .Gt (.var 10) (.var 2)) [.ret (.bin .Add (.var 2) (.const (.int (1))))] []] [],.ret (.var 6)]
noncomputable def bd2 : List CStm := [.own 1 (.list []),.forR 2 [(.const (.int (32)))] [.set 3 (.bin .LShift (.const (.int (1))) (.var 2)),.ite (.val (.bin .BitAnd (.var 0) (.var 3))) [.app 1 none (.meth "get" (.dat 5) [(.var 3),(.blt "hex" [(.var 3)])]),.aug 0 .BitXor (.var 3),.ite (.neg (.val (.var 0))) [.brk] []] []] [.app 1 none (.blt "hex" [(.var 0)])],.ret (.meth "join" (.const (.str [44,32])) [(.var 1)])]
noncomputable def bd4 : List CStm := [.ret (.cmp .Eq (.var 0) (.var 1))]
noncomputable def bd5 : List CStm := [.ret (.bin .LShift (.var 0) (.var 1))]
noncomputable def bd6 : List CStm := [.ret (.bin .BitOr (.var 0) (.var 1))]
noncomputable def bd7 : List CStm := [.ite (.neg (.val (.hasGet (.var 0)))) [.fail,.fail] [],.ret (.bin .Add (.var 0) (.var 1))]
noncomputable def bd9 : List CStm := [.ret (.subs (.var 0) (.var 1))]
noncomputable def bd11 : List CStm := [.ret (.cmp .Lt (.var 0) (.dat 3))]
noncomputable def bd12 : List CStm := [.ret (.cmp .GtE (.var 0) (.dat 3))]
noncomputable def bd13 : List CStm := [.ret (.cmp .Eq (.var 0) (.dat 4))]
noncomputable def bd14 : List CStm := [.ite (.cmp .Gt (.var 0) (.const (.int (64)))) [.ret (.blt "chr" [(.var 0)])] [],.ret (.subs (.list [(.const (.str [40])),(.const (.str [41])),(.const (.str [91])),(.const (.str [93])),(.const (.str [58])),(.const (.str [44])),(.const (.str [59])),(.const (.str [43])),(.const (.str [45])),(.const (.str [42])),(.const (.str [47])),(.const (.str [124])),(.const (.str [38])),(.const (.str [60])),(.const (.str [62])),(.const (.str [61])),(.const (.str [46])),(.const (.str [37])),(.const (.str [123])),(.const (.str [125])),(.const (.str [61,61])),(.const (.str [33,61])),(.const (.str [60,61])),(.const (.str [62,61])),(.const (.str [126])),(.const (.str [94])),(.const (.str [60,60])),(.const (.str [62,62])),(.const (.str [42,42])),(.const (.str [43,61])),(.const (.str [45,61])),(.const (.str [42,61])),(.const (.str [47,61])),(.const (.str [37,61])),(.const (.str [38,61])),(.const (.str [124,61])),(.const (.str [94,61])),(.const (.str [60,60,61])),(.const (.str [62,62,61])),(.const (.str [42,42,61])),(.const (.str [47,47])),(.const (.str [47,47,61])),(.const (.str [64])),(.const (.str [64,61])),(.const (.str [45,62])),(.const (.str [46,46,46])),(.const (.str [58,61])),(.const (.str [33]))]) (.bin .Sub (.var 0) (.const (.int (7)))))]
noncomputable def bd15 : List CStm := [.ite (.cmp .Lt (.bin .Mod (.var 0) (.const (.int (8)))) (.const (.int (4)))) [.ret (.subs (.list [(.const (.int (97))),(.const (.int (65))),(.const (.int (98))),(.const (.int (66)))]) (.bin .Mod (.var 0) (.const (.int (8)))))] [],.ret (.bin .Add (.const (.int (7))) (.bin .Mod (.bin .FloorDiv (.var 0) (.const (.int (8)))) (.const (.int (48)))))]
noncomputable def bd16 : List CStm := [.own 1 (.list [(.list [(.call 15 [(.subs (.var 0) (.const (.int (0))))]),(.call 15 [(.bin .FloorDiv (.subs (.var 0) (.const (.int (0)))) (.const (.int (384))))])])]),.own 2 (.list [(.bin .Add (.blt "len" [(.call 14 [(.subs (.subs (.var 1) (.const (.int (0)))) (.const (.int (0))))])]) (.blt "len" [(.call 14 [(.subs (.subs (.var 1) (.const (.int (0)))) (.const (.int (1))))])]))]),.forR 3 [(.const (.int (1))),(.const (.int (5)))] [.ite (.cmp .Eq (.bin .Mod (.bin .FloorDiv (.subs (.var 0) (.var 3)) (.const (.int (2)))) (.const (.int (3)))) (.const (.int (0)))) [.set 4 (.bin .Add (.const (.int (256))) (.bin .Mod (.bin .FloorDiv (.subs (.var 0) (.var 3)) (.const (.int (6)))) (.var 3))),.set 5 (.bin .Add (.subs (.var 2) (.bin .Sub (.var 3) (.const (.int (1))))) (.subs (.var 2) (.bin .Sub (.var 4) (.const (.int (256))))))] [.set 4 (.call 15 [(.bin .FloorDiv (.subs (.var 0) (.var 3)) (.const (.int (6))))]),.set 5 (.bin .Add (.subs (.var 2) (.bin .Sub (.var 3) (.const (.int (1))))) (.blt "len" [(.call 14 [(.var 4)])]))],.ite (.cmp .Gt (.var 5) (.const (.int (9)))) [.app 1 none (.list [(.bin .Add (.const (.int (255))) (.var 3))]),.app 2 none (.subs (.var 2) (.bin .Sub (.var 3) (.const (.int (1)))))] [.ite (.cmp .Eq (.bin .Mod (.subs (.var 0) (.var 3)) (.const (.int (2)))) (.const (.int (1)))) [.app 1 none (.list [(.var 4),(.bin .Add (.const (.int (255))) (.var 3))]),.app 2 (some 5) (.var 5)] [.app 1 none (.list [(.bin .Add (.const (.int (255))) (.var 3)),(.var 4)]),.app 2 (some 5) (.var 5)]]] [],.ret (.var 1)]
noncomputable def bd17 : List CStm := [.ite (.cmp .Eq (.var 0) (.var 1)) [.ret (.const (.int (0)))] [],.ret (.ite (.inTexts (.bin .Add (.var 0) (.var 1)) [[97,65],[65,97],[98,66],[66,98]]) (.const (.int (1))) (.const (.int (2))))]
noncomputable def bd18 : List CStm := [.ite (.cmp .Eq (.var 1) (.const (.str []))) [.ret (.const (.int (2)))] [],.ret (.bin .Add (.bin .Sub (.bin .Mult (.const (.int (2))) (.blt "len" [(.var 1)])) (.const (.int (2)))) (.blt "min" [(.comp [0] 2 (.call 17 [(.var 0),(.var 2)]) (.expr 2 (.var 1) []) [])]))]
noncomputable def bd19 : List CStm := [.set 2 (.comp [0] 2 (.ite (.cmp .Eq (.var 0) (.var 2)) (.const (.int (1))) (.const (.int (0)))) (.expr 2 (.var 1) []) []),.ret (.list [(.const (.int (1))),(.var 2),(.comp [0,1] 2 (.comp [3,0,1] 2 (.call 18 [(.var 1),(.slice (.var 2) (.var 0) (.var 4))]) (.range 4 [(.const (.int (4)))] []) []) (.range 3 [(.const (.int (4)))] []) [])])]
noncomputable def bd20 : List CStm := [.set 2 (.comp [0,1] 2 (.bin .Add (.subs (.subs (.var 0) (.const (.int (1)))) (.var 3)) (.bin .Mult (.subs (.subs (.var 1) (.const (.int (1)))) (.var 3)) (.bin .Pow (.const (.int (2))) (.subs (.var 0) (.const (.int (0))))))) (.range 3 [(.const (.int (3)))] []) []),.own 3 (.list []),.forR 4 [(.const (.int (4)))] [.own 5 (.bin .Mult (.list [(.const (.int (99)))]) (.const (.int (4)))),.forR 6 [(.var 4),(.const (.int (4)))] [.item 5 (.var 6) (.blt "min" [(.comp [4,6,0,1] 2 (.bin .Add (.subs (.subs (.subs (.var 2) (.const (.int (2)))) (.var 0)) (.var 5)) (.subs (.subs (.subs (.var 3) (.const (.int (2)))) (.var 5)) (.var 1))) (.range 5 [(.var 4),(.bin .Add (.var 6) (.const (.int (1))))] []) [])])] [],.app 3 (some 5) (.var 5)] [],.ret (.list [(.bin .Add (.subs (.var 0) (.const (.int (0)))) (.subs (.var 1) (.const (.int (0))))),(.var 2),(.var 3)])]
noncomputable def bd21 : List CStm := [.own 3 (.list []),.forE 4 (.var 0) [.ite (.cmp .Gt (.var 4) (.const (.int (255)))) [.app 3 none (.subs (.var 2) (.bin .Sub (.var 4) (.const (.int (256)))))] [.ext 3 none (.comp [1] 2 (.call 19 [(.var 2),(.var 0)]) (.expr 2 (.call 14 [(.var 4)]) []) [])]] [],.set 5 (.subs (.var 3) (.const (.int (0)))),.forE 6 (.slice (.var 3) (.const (.int (1))) (.const .nil)) [.set 5 (.call 20 [(.var 5),(.var 6)])] [],.ret (.var 5)]
noncomputable def bd22 : List CStm := [.own 3 (.list [(.bin .Mod (.var 0) (.const (.int (64))))]),.set 0 (.bin .FloorDiv (.var 0) (.const (.int (64)))),.loop (.cmp .Gt (.var 0) (.const (.int (0)))) [.set 3 (.bin .Add (.list [(.bin .Add (.const (.int (64))) (.bin .Mod (.var 0) (.const (.int (64)))))]) (.var 3)),.set 0 (.bin .FloorDiv (.var 0) (.const (.int (64))))] [],.set 3 (.bin .Add (.bin .Mult (.list [(.const (.int (64)))]) (.var 1)) (.var 3)),.ret (.bin .Add (.list [(.bin .Add (.subs (.var 3) (.const (.int (0)))) (.var 2))]) (.slice (.var 3) (.const (.int (1))) (.const .nil)))]
noncomputable def bd24 : List CStm := [.ret (.boolv .And [(.cmp .Is (.call 11 [(.var 0)]) (.cmp .Lt (.var 0) (.const (.int (256))))),(.cmp .Is (.call 12 [(.var 0)]) (.cmp .Gt (.var 0) (.const (.int (255))))),(.cmp .Is (.call 13 [(.var 0)]) (.cmp .Eq (.var 0) (.const (.int (0)))))])]
noncomputable def bd25 : List CStm := [.fail,.own 2 (.list []),.set 3 (.const .nil),.forE 4 (.var 0) [.ite (.cmp .Is (.var 3) (.const .nil)) [.set 3 (.const (.str []))] [.ite (.val (.call 13 [(.var 4)])) [.app 2 (some 3) (.var 3),.set 3 (.const .nil)] [.ite (.val (.call 12 [(.var 4)])) [.set 3 (.call 7 [(.var 3),(.subs (.var 2) (.bin .Sub (.var 4) (.const (.int (256)))))])] [.ite (.cmp .In (.var 4) (.var 1)) [.set 3 (.call 7 [(.var 3),(.subs (.var 1) (.var 4))])] [.set 3 (.call 7 [(.var 3),(.blt "chr" [(.var 4)])])]]]]] [],.ret (.var 2)]
noncomputable def bd26 : List CStm := [.own 1 (.list [(.const (.str [79,80,84,73,77,73,90,69,68])),(.const (.str [78,69,87,76,79,67,65,76,83])),(.const (.str [86,65,82,65,82,71,83])),(.const (.str [86,65,82,75,69,89,87,79,82,68,83])),(.const (.str [78,69,83,84,69,68])),(.const (.str [71,69,78,69,82,65,84,79,82])),(.const (.str [78,79,70,82,69,69])),(.const (.str [67,79,82,79,85,84,73,78,69])),(.const (.str [73,84,69,82,65,66,76,69,95,67,79,82,79,85,84,73,78,69])),(.const (.str [65,83,89,78,67,95,71,69,78,69,82,65,84,79,82]))]),.set 2 (.comp [1] 2 (.ite (.cmp .Lt (.var 2) (.const (.int (10)))) (.subs (.var 0) (.var 2)) (.bin .Add (.bin .Add (.const (.str [48,120])) (.subs (.const (.str [49,50,52,56])) (.bin .Mod (.var 2) (.const (.int (4)))))) (.bin .Mult (.const (.str [48])) (.bin .FloorDiv (.var 2) (.const (.int (4))))))) (.expr 2 (.var 0) []) []),.ret (.ite (.cmp .NotEq (.var 2) (.list [])) (.meth "join" (.const (.str [44,32])) [(.var 2)]) (.const (.str [48,120,48])))]
noncomputable def bd27 : List CStm := [.set 5 (.comp [2] 2 (.var 2) (.range 2 [(.const (.int (9)))] [(.cmp .Eq (.bin .Mod (.bin .FloorDiv (.var 0) (.bin .Pow (.const (.int (2))) (.var 2))) (.const (.int (2)))) (.const (.int (1))))]) []),.set 6 (.const (.int (0))),.forR 4 [(.blt "len" [(.var 0)])] [.ite (.val (.call 4 [(.call 9 [(.var 0),(.var 4)]),(.var 1)])) [.set 6 (.call 6 [(.var 6),(.call 5 [(.const (.int (1))),(.bin .Add (.var 4) (.var 3))])])] []] [],.ite (.every .Or [(.cmp .NotEq (.call 2 [(.var 6)]) (.call 26 [(.comp [3] 2 (.bin .Add (.var 2) (.var 0)) (.expr 2 (.var 5) []) [])])),(.cmp .NotEq (.call 8 [(.var 0),(.var 1)]) (.blt "len" [(.var 5)]))]) [.ret (.const (.bool false))] [],.attempt [.set 7 (.call 10 [(.var 0),(.var 1)])],.ret (.cmp .Eq (.slice (.var 5) (.const .nil) (.const (.int (1)))) (.list [(.var 7)]))]
noncomputable def bd28 : List CStm := [.forR 3 [(.const (.int (4)))] [.forR 4 [(.var 3),(.const (.int (4)))] [.set 5 (.subs (.subs (.var 2) (.var 3)) (.var 4)),.ite (.cmp .NotEq (.call 1 [(.var 0),(.slice (.var 1) (.var 3) (.var 4)),(.var 5)]) (.var 5)) [.ret (.const (.bool false))] [],.ite (.cmp .NotEq (.call 1 [(.slice (.var 1) (.var 3) (.var 4)),(.var 0),(.bin .Sub (.var 5) (.const (.int (1))))]) (.var 5)) [.ret (.const (.bool false))] []] []] [],.ret (.const (.bool true))]
noncomputable def bd29 : List CStm := [.set 1 (.comp [] 2 (.bin .Mod (.var 1) (.const (.int (1000000)))) (.expr 1 (.slice (.var 0) (.const .nil) (.const (.int (8)))) []) []),.set 1 (.bin .Add (.var 1) (.slice (.list [(.const (.int (87552))),(.const (.int (8))),(.const (.int (1))),(.const (.int (1035))),(.const (.int (0))),(.const (.int (1))),(.const (.int (3))),(.const (.int (13)))]) (.blt "len" [(.var 1)]) (.const .nil))),.set 2 (.call 16 [(.var 1)]),.set 3 (.bin .Add (.const (.str [97,65])) (.meth "join" (.const (.str [])) [(.comp [] 3 (.call 14 [(.var 2)]) (.expr 1 (.var 2) []) [(.expr 2 (.var 1) [(.cmp .Lt (.var 2) (.const (.int (256))))])])])),.set 4 (.meth "join" (.const (.str [])) [(.comp [3] 2 (.subs (.var 0) (.bin .Mod (.var 2) (.blt "len" [(.var 0)]))) (.expr 2 (.slice (.var 1) (.const (.int (5))) (.const .nil)) []) [])]),.own 5 (.list []),.own 6 (.list []),.forR 7 [(.const (.int (5)))] [.app 5 none (.call 21 [(.subs (.var 2) (.var 7)),(.var 4),(.var 5)]),.ext 6 none (.bin .Add (.bin .Add (.list [(.bin .Add (.const (.int (256))) (.var 7))]) (.subs (.var 2) (.var 7))) (.list [(.const (.int (0)))]))] [],.own 8 (.list []),.forR 7 [(.blt "len" [(.var 6)])] [.ext 8 none (.call 22 [(.subs (.var 6) (.var 7)),(.bin .Mod (.var 7) (.const (.int (2)))),(.bin .Mult (.const (.int (128))) (.bin .FloorDiv (.bin .Mod (.var 7) (.const (.int (3)))) (.const (.int (2)))))])] [],.set 9 (.call 23 [(.var 8)]),.ite (.every .Or [(.cmp .NotEq (.var 9) (.var 6)),(.cmp .NotEq (.comp [] 2 (.var 1) (.expr 1 (.var 9) [(.neg (.val (.call 24 [(.var 1)])))]) []) (.list []))]) [.ret (.const (.bool false))] [],.set 10 (.call 25 [(.var 9)]),.ite (.cmp .NotEq (.comp [] 2 (.call 30 [(.var 1)]) (.expr 1 (.var 10) []) []) (.comp [] 2 (.subs (.var 1) (.const (.int (0)))) (.expr 1 (.var 5) []) [])) [.ret (.const (.bool false))] [],.forR 7 [(.const (.int (4)))] [.ite (.cmp .NotEq (.call 1 [(.subs (.var 10) (.var 7)),(.var 4),(.subs (.subs (.subs (.subs (.var 5) (.var 7)) (.const (.int (2)))) (.const (.int (0)))) (.const (.int (3))))]) (.subs (.subs (.subs (.subs (.var 5) (.var 7)) (.const (.int (2)))) (.const (.int (0)))) (.const (.int (3))))) [.ret (.const (.bool false))] []] [],.set 11 (.bin .Mod (.blt "sum" [(.var 1)]) (.const (.int (24)))),.forR 7 [(.const (.int (3)))] [.ite (.neg (.val (.call 27 [(.subs (.var 10) (.const (.int (4)))),(.subs (.var 4) (.var 7)),(.subs (.subs (.subs (.var 5) (.const (.int (4)))) (.const (.int (1)))) (.var 7)),(.var 11)]))) [.ret (.const (.bool false))] []] [],.ret (.call 28 [(.subs (.var 10) (.const (.int (4)))),(.var 4),(.subs (.subs (.var 5) (.const (.int (4)))) (.const (.int (2))))])]
noncomputable def bdLH : List CStm := [.ite (.neg (.val (.isInt (.var 1)))) [.fail,.fail] [],.attempt [.ret (.blt "len" [(.var 0)])],.attempt [.fail],.attempt [.fail],.fail,.ite (.neg (.val (.isInt (.var 4)))) [.fail,.fail] [],.ite (.cmp .Lt (.var 4) (.const (.int (0)))) [.set 2 (.const (.str [95,95,108,101,110,103,116,104,95,104,105,110,116,95,95,40,41,32,115,104,111,117,108,100,32,114,101,116,117,114,110,32,62,61,32,48])),.fail] [],.ret (.var 4)]
noncomputable def noF : List D → Option D := fun _ => none
noncomputable def datsD : List D := [.int 40,.int 2,.int 1,.int 256,.int 0,.dict flagTab]
noncomputable def cLH : GC := ⟨List.replicate 31 noF,datsD⟩
noncomputable def fLH : List D → Option D := fun as => match as with | [d] => runC cLH 3 bdLH [d,.int 0] | _ => none
noncomputable def mkC (l : List (List D → Option D)) : GC := ⟨l ++ List.replicate (30 - l.length) noF ++ [fLH],datsD⟩
noncomputable def runU (C : GC) (btail : List CStm) (es : List (Int × List Nat)) (as : List D) : Option D := match as with
 | [d] => (xsC C btail [some d,some (.dict es),none,none,none]).bind fun r => match r with
  | (.ret d,_) => some d
  | (.next,_) => some .nil
  | _ => none
 | _ => none
noncomputable def bd25t : List CStm := bd25.tail
noncomputable def l0 : List (List D → Option D) := []
noncomputable def f0 : List D → Option D := fun as => if 2 = as.length then runC (mkC l0) 0 bd0 as else none
noncomputable def l1 : List (List D → Option D) := [f0]
noncomputable def f1 : List D → Option D := fun as => if 3 = as.length then runC (mkC l1) 11 bd1 as else none
noncomputable def l2 : List (List D → Option D) := [f0,f1]
noncomputable def f2 : List D → Option D := fun as => if 1 = as.length then runC (mkC l2) 3 bd2 as else none
noncomputable def l3 : List (List D → Option D) := [f0,f1,f2]
noncomputable def f3 : List D → Option D := noF
noncomputable def l4 : List (List D → Option D) := [f0,f1,f2,f3]
noncomputable def f4 : List D → Option D := fun as => if 2 = as.length then runC (mkC l4) 0 bd4 as else none
noncomputable def l5 : List (List D → Option D) := [f0,f1,f2,f3,f4]
noncomputable def f5 : List D → Option D := fun as => if 2 = as.length then runC (mkC l5) 0 bd5 as else none
noncomputable def l6 : List (List D → Option D) := [f0,f1,f2,f3,f4,f5]
noncomputable def f6 : List D → Option D := fun as => if 2 = as.length then runC (mkC l6) 0 bd6 as else none
noncomputable def l7 : List (List D → Option D) := [f0,f1,f2,f3,f4,f5,f6]
noncomputable def f7 : List D → Option D := fun as => if 2 = as.length then runC (mkC l7) 1 bd7 as else none
noncomputable def l8 : List (List D → Option D) := [f0,f1,f2,f3,f4,f5,f6,f7]
noncomputable def f8 : List D → Option D := noF
noncomputable def l9 : List (List D → Option D) := [f0,f1,f2,f3,f4,f5,f6,f7,f8]
noncomputable def f9 : List D → Option D := fun as => if 2 = as.length then runC (mkC l9) 0 bd9 as else none
noncomputable def l10 : List (List D → Option D) := [f0,f1,f2,f3,f4,f5,f6,f7,f8,f9]
noncomputable def f10 : List D → Option D := noF
noncomputable def l11 : List (List D → Option D) := [f0,f1,f2,f3,f4,f5,f6,f7,f8,f9,f10]
noncomputable def f11 : List D → Option D := fun as => if 1 = as.length then runC (mkC l11) 0 bd11 as else none
noncomputable def l12 : List (List D → Option D) := [f0,f1,f2,f3,f4,f5,f6,f7,f8,f9,f10,f11]
noncomputable def f12 : List D → Option D := fun as => if 1 = as.length then runC (mkC l12) 0 bd12 as else none
noncomputable def l13 : List (List D → Option D) := [f0,f1,f2,f3,f4,f5,f6,f7,f8,f9,f10,f11,f12]
noncomputable def f13 : List D → Option D := fun as => if 1 = as.length then runC (mkC l13) 0 bd13 as else none
noncomputable def l14 : List (List D → Option D) := [f0,f1,f2,f3,f4,f5,f6,f7,f8,f9,f10,f11,f12,f13]
noncomputable def f14 : List D → Option D := fun as => if 1 = as.length then runC (mkC l14) 0 bd14 as else none
noncomputable def l15 : List (List D → Option D) := [f0,f1,f2,f3,f4,f5,f6,f7,f8,f9,f10,f11,f12,f13,f14]
noncomputable def f15 : List D → Option D := fun as => if 1 = as.length then runC (mkC l15) 0 bd15 as else none
noncomputable def l16 : List (List D → Option D) := [f0,f1,f2,f3,f4,f5,f6,f7,f8,f9,f10,f11,f12,f13,f14,f15]
noncomputable def f16 : List D → Option D := fun as => if 1 = as.length then runC (mkC l16) 5 bd16 as else none
noncomputable def l17 : List (List D → Option D) := [f0,f1,f2,f3,f4,f5,f6,f7,f8,f9,f10,f11,f12,f13,f14,f15,f16]
noncomputable def f17 : List D → Option D := fun as => if 2 = as.length then runC (mkC l17) 0 bd17 as else none
noncomputable def l18 : List (List D → Option D) := [f0,f1,f2,f3,f4,f5,f6,f7,f8,f9,f10,f11,f12,f13,f14,f15,f16,f17]
noncomputable def f18 : List D → Option D := fun as => if 2 = as.length then runC (mkC l18) 0 bd18 as else none
noncomputable def l19 : List (List D → Option D) := [f0,f1,f2,f3,f4,f5,f6,f7,f8,f9,f10,f11,f12,f13,f14,f15,f16,f17,f18]
noncomputable def f19 : List D → Option D := fun as => if 2 = as.length then runC (mkC l19) 1 bd19 as else none
noncomputable def l20 : List (List D → Option D) := [f0,f1,f2,f3,f4,f5,f6,f7,f8,f9,f10,f11,f12,f13,f14,f15,f16,f17,f18,f19]
noncomputable def f20 : List D → Option D := fun as => if 2 = as.length then runC (mkC l20) 5 bd20 as else none
noncomputable def l21 : List (List D → Option D) := [f0,f1,f2,f3,f4,f5,f6,f7,f8,f9,f10,f11,f12,f13,f14,f15,f16,f17,f18,f19,f20]
noncomputable def f21 : List D → Option D := fun as => if 3 = as.length then runC (mkC l21) 4 bd21 as else none
noncomputable def l22 : List (List D → Option D) := [f0,f1,f2,f3,f4,f5,f6,f7,f8,f9,f10,f11,f12,f13,f14,f15,f16,f17,f18,f19,f20,f21]
noncomputable def f22 : List D → Option D := fun as => if 3 = as.length then runC (mkC l22) 1 bd22 as else none
noncomputable def l23 : List (List D → Option D) := [f0,f1,f2,f3,f4,f5,f6,f7,f8,f9,f10,f11,f12,f13,f14,f15,f16,f17,f18,f19,f20,f21,f22]
noncomputable def f23 : List D → Option D := noF
noncomputable def l24 : List (List D → Option D) := [f0,f1,f2,f3,f4,f5,f6,f7,f8,f9,f10,f11,f12,f13,f14,f15,f16,f17,f18,f19,f20,f21,f22,f23]
noncomputable def f24 : List D → Option D := fun as => if 1 = as.length then runC (mkC l24) 0 bd24 as else none
noncomputable def l25 : List (List D → Option D) := [f0,f1,f2,f3,f4,f5,f6,f7,f8,f9,f10,f11,f12,f13,f14,f15,f16,f17,f18,f19,f20,f21,f22,f23,f24]
noncomputable def f25 : List D → Option D := runU (mkC l25) bd25t exactTab
noncomputable def l26 : List (List D → Option D) := [f0,f1,f2,f3,f4,f5,f6,f7,f8,f9,f10,f11,f12,f13,f14,f15,f16,f17,f18,f19,f20,f21,f22,f23,f24,f25]
noncomputable def f26 : List D → Option D := fun as => if 1 = as.length then runC (mkC l26) 2 bd26 as else none
noncomputable def l27 : List (List D → Option D) := [f0,f1,f2,f3,f4,f5,f6,f7,f8,f9,f10,f11,f12,f13,f14,f15,f16,f17,f18,f19,f20,f21,f22,f23,f24,f25,f26]
noncomputable def f27 : List D → Option D := noF
noncomputable def l28 : List (List D → Option D) := [f0,f1,f2,f3,f4,f5,f6,f7,f8,f9,f10,f11,f12,f13,f14,f15,f16,f17,f18,f19,f20,f21,f22,f23,f24,f25,f26,f27]
noncomputable def f28 : List D → Option D := fun as => if 3 = as.length then runC (mkC l28) 3 bd28 as else none
noncomputable def l29 : List (List D → Option D) := [f0,f1,f2,f3,f4,f5,f6,f7,f8,f9,f10,f11,f12,f13,f14,f15,f16,f17,f18,f19,f20,f21,f22,f23,f24,f25,f26,f27,f28]
set_option maxRecDepth 100000
section
variable {prog : Program} {w : World} {lv : Nat} {h₀ hb : Heap} {B : Addr → Prop} {A : Around} {s s' : Shared} {env : Env} {sc : Scope} {σ σ' : St} {G : GE} {Is : Addr → Prop} {ow ow' : Ow} {N : Names} {C : GC} {ρ ρ' : Rho} {fns dats : List Str}
noncomputable abbrev Nun (fns dats : List Str) : Names := ⟨[("told" : Str)] ++ [("signs" : Str),("texts" : Str),("text" : Str),("number" : Str)],fns,dats⟩
inductive UnDef (n : Nat) (h₀ : Heap) (fns dats : List Str) (btail : List CStm) (a : Addr) : Prop
 | mk (fd : FuncData) (r1 r2 r3 r4 : Stmt) (px a1 a2 a3 a4 a5 a6 cpos pos : Pos) (cs scope : Scope)
  (_ : DefAt h₀ a fd [.Assign [.Name "signs" px] (.DictComp (.Subscript (.Name "EXACT_TOKEN_TYPES" a1) (.Name "sign" a2) a3) (.Name "sign" a4) [⟨.Name "sign" a5,.Name "EXACT_TOKEN_TYPES" a6,[],0⟩] cs cpos) pos,r1,r2,r3,r4] scope)
  (_ : scope.names.all (fun p => p.2 != .cell) = true)
  (_ : scope.names.lookup ("signs" : Str) = some .local)
  (_ : isGlob scope "EXACT_TOKEN_TYPES" = true)
  (_ : cs.kind = .function)
  (_ : cs.names.lookup ("sign" : Str) = some .local)
  (_ : cs.names.lookup ("EXACT_TOKEN_TYPES" : Str) = some .globalImplicit)
  (_ : cs.names.all (fun z => z.2 != .cell && z.2 != .free && (z.2 != .local || cs.names.lookup z.1 == some .local)) = true)
  (_ : (px.line == cpos.line) = true)
  (_ : (cs.names.any fun (n,k) => n == ("signs" : Str) && (k == .local || k == .cell)) = false)
  (_ : cSs n (Nun fns dats) scope [r1,r2,r3,r4] = some btail)
  (_ : defOk [("told" : Str)] scope = true)
  (_ : ∀ vs : List Value,vs.length = 1 → ∀ s,BindsTo s fd ⟨vs,[]⟩ ([("told" : Str)].zip vs)) : UnDef n h₀ fns dats btail a
theorem un_con {n : Nat} {f : Addr} {btail : List CStm} {es : List (Int × List Nat)} (X : Cx prog w lv h₀ G (Nun fns dats) C) (T : TabAt prog w h₀ es) (Z : UnDef n h₀ fns dats btail f) : Con prog w (lv + 1) h₀ f (runU C btail es) := fun A s B vs ds d o xs e => fun Q E hQ => by
 obtain ⟨fd,r1,r2,r3,r4,px,a1,a2,a3,a4,a5,a6,cpos,pos,cs,scope,hat,hnc,hs1,hg,k1,k2,k3,k4,hline,hany,c1,hd,hbind⟩ := Z
 unfold runU at e
 split at e
 ·rename_i d0
  obtain ⟨⟨out,ρ'⟩,hx,e⟩ := b2 e
  have hlen : vs.length = 1 := by rw [xs.length]; rfl
  have kk := List.all_eq_true.mp k4
  have hcell : ∀ x,scope.names.lookup x ≠ some .cell := fun x h => by
   have := List.all_eq_true.mp hnc _ (mem_of_lookup h)
   simp at this
  refine def_call (ps := [("told" : Str)]) hat X.g.nolimit hd (hbind vs hlen s) o xs fun A' env s₁ hA eo hle fs _ hsame _ => ?_
  refine wpAny_execs_cons (signs_stmt T eo fs hcell hs1 hg k1 k2 k3 (fun z hz h => ?_) (fun z hz h => ?_) (fun z hz h => ?_) hline hany fun hb' s₂ fs₂ t₂ => ?_)
  ·have := kk z hz; rw [h] at this; simp at this
  ·have := kk z hz
   rw [h] at this
   simp at this
   exact this
  ·have := kk z hz; rw [h] at this; simp at this
  ·have i1 : idx ("signs" : Str) (Nun fns dats).ns = some 1 := by show idx _ [("told" : Str),("signs" : Str),("texts" : Str),("text" : Str),("number" : Str)] = _; decide +kernel
   have r0 : Rel (Nun fns dats) scope ([("told" : Str)].zip [d0]) [some d0,none,none,none,none] := zip_rel (ps := [("told" : Str)]) (rest := [("signs" : Str),("texts" : Str),("text" : Str),("number" : Str)]) (as := [d0]) rfl (by decide +kernel)
   refine seg_end (out := out) X eo c1 hx ⟨_,r0.put i1,fs₂⟩ fun fl s₃ ow₃ f₃ t₃ o₃ => ?_
   have kp := leave_kp hsame hle fs (Tn.to fs₂ t₂ t₃)
   cases out with
   | ret d' =>
    obtain ⟨v,rfl,xv⟩ := o₃
    cases e
    exact hQ v s₃ kp (Den.of_el (out_el xv))
   | next => cases o₃; cases e; exact hQ .none s₃ kp rfl
   | brk => first | exact no e | exact nof e | cases e
   | cont => first | exact no e | exact nof e | cases e
 ·cases e
end
section
variable {prog : Program} {w : World} {lv : Nat} {h₀ hb : Heap} {B : Addr → Prop} {A : Around} {s s' : Shared} {env : Env} {sc : Scope} {σ σ' : St} {G : GE} {Is : Addr → Prop} {ow ow' : Ow} {N : Names} {C : GC} {ρ ρ' : Rho} {fns dats : List Str}
structure LawFr (A : Around) (env : Env) (h₀ : Heap) : Prop where
 frames : A.frames = some [env]
 frame : env.frame = some env.locals
 cells : ∀ x c,env.cells.lookup x = some c → c ≠ env.locals
 off : h₀.get? env.locals = none
theorem FS.touchL {h' : Heap} {tk : Nat} (y : FS prog w lv h₀ hb B env sc A Is ow σ s) (hcl : ∀ x c,env.cells.lookup x = some c → c ≠ env.locals) (hk : ∀ b o,b ≠ env.locals → s.heap.get? b = some o → h'.get? b = some o) (hu : s.heap.UpToSlots h') :
  FS prog w lv h₀ hb B env sc A Is ow σ { s with heap := h',toks := tk } ∧ Tn env sc ow s ow { s with heap := h',toks := tk } :=
 ⟨y.touch (Ls := [env.locals]) List.mem_cons_self (fun b hb' => by rw [List.mem_singleton] at hb'; rw [hb']; exact y.new _ (.inl (.inl rfl))) (fun b hb' hne _ => hne (List.mem_singleton.mp hb'))
  (fun b o hn e => hk b o (fun h => hn (by rw [h]; exact List.mem_cons_self)) e) hu (fun x c hc h => hcl x c hc (List.mem_singleton.mp h)) (fun x a ha h => y.owPl x a ha (.inl (List.mem_singleton.mp h))) (fun b hb' h => y.isPl b hb' (.inl (List.mem_singleton.mp h))),
  ⟨h',tk,rfl,fun b o hn e => hk b o (fun h => hn (.inl (.inl h))) e⟩,fun x a h => .inl ⟨x,h⟩⟩
theorem told_stmt {n : Nat} {p1 p2 p3 p4 p5 : Pos} {k : Nat} {ns out : List Int} {ko kt : Nat} {Q : Flow → Shared → Prop} {E : Value → Shared → Prop}
  (X : Cx prog w lv h₀ G (Npv fns dats) C) (X' : Cx prog w (lv + 1) h₀ G (Nrd fns dats) C) (P : PvAt n h₀ fns dats) (Z : FnAt h₀ "_law_read" (RdDef n h₀ fns dats)) (L : LawFr A env h₀)
  (eo : EnvOK env sc) (fr : FR prog w (lv + 2) h₀ hb B env sc A Is ow N ρ s) (h1 : isHeld (sc.names.lookup ("told" : Str)) = true) (h2 : isHeld (sc.names.lookup ("octets" : Str)) = true) (i1 : idx ("told" : Str) N.ns = some kt) (i2 : idx ("octets" : Str) N.ns = some ko)
  (hg : isGlob sc "_law_read" = true) (hρ : ρ[ko]?.join = some (.own (ns.map D.int))) (hr : readL k ns = some out) (hf : fits out.length = true)
  (hQ : ∀ s' ow',FR prog w (lv + 2) h₀ hb B env sc A Is ow' N (ρ.set kt (some (.list (out.map D.int)))) s' → Tn env sc ow s ow' s' → Q .next s') :
  wpAny (model prog w) A (exec (.Assign [.Name "told" p1] (.Call (.Name "_law_read" p2) [.Name "octets" p3] [] p4) p5) env) Q E s := by
 obtain ⟨mg,f,ob,fd,hmg,hf0,ho,hdat,Z⟩ := Z.ex
 obtain ⟨σ,r,fs,hlo⟩ := fr.lookup (isBound_held h2) i2 hρ
 obtain ⟨l,hl⟩ := fs.val _ _ hlo
 obtain ⟨ds',vs,hl',hva,hpl,hvs⟩ := fs.own _ l hl
 rw [hlo] at hl'; cases hl'
 refine wpAny_Assign_Name (wpAny_Call_Name_kw (glob_val eo fs.ok hg hmg hf0 (by decide +kernel) ?_))
 refine Calls.callWith_function (o := ob) (fd := fd) ?_
 have hs : starEach [.Name "octets" p3] env = [(false,eval (.Name "octets" p3) env)] := rfl
 rw [hs]
 refine Calls.evalArgs_plain (Calls.spliced_cons (loadVar eo.kind hva (by decide +kernel) (by decide +kernel) (Calls.spliced_nil ⟨⟨fs.ok.le _ _ ho,hdat⟩,?_⟩)))
 obtain ⟨m,hm⟩ := fs.frm.ns
 refine rd_call X X' P Z fs.ok L.frames L.frame (by rw [eo.kind]; decide) hm L.off hpl (ints_els hvs) hr hf fun a vs' h' tk ha hpa hvs' hk hu => ?_
 obtain ⟨f',t'⟩ := fs.touchL (tk := tk) L.cells hk hu
 refine FR.assign (px := p1) (i := kt) (d := .list (out.map D.int)) ⟨σ,r,f'⟩ eo h1 i1 (fun _ h => by cases h) (.inr ⟨a,vs',rfl,fun h => ?_,hpa,ints_els hvs'⟩) fun s₂ f₂ t₂ => ?_
 ·obtain ⟨o,ho⟩ := fs.ok.alive a h
  rw [ha] at ho; cases ho
 ·exact hQ s₂ _ f₂ (Tn.to f' t' t₂)
noncomputable def SfFits (C : GC) (bpre : List CStm) (t1 : CT) (blast : CStm) (l : List Nat) (c : Nat) (mk sh : Int) : Prop := ∀ t,∃ (ρ₁ : Rho) (ps : List Int),
 xsC C bpre [some (.str l),some (.sig [c] t),some (.int mk),some (.int sh),none,none,none,none] = some (.next,ρ₁) ∧ ρ₁[0]?.join = some (.str l) ∧ ρ₁[1]?.join = some (.sig [c] t) ∧ ρ₁[5]?.join = some (.list (ps.map D.int)) ∧
  tsC C (viewC ρ₁) t1 = some false ∧ l.count c = ps.length ∧ fits ps.length = true ∧
  (∀ k : Nat,l[k]? = some c → (∀ j,j < k → l[j]? ≠ some c) → ∃ ρ₂,exC C blast (ρ₁.set 7 (some (.int k))) = some (.ret (.bool true),ρ₂)) ∧ ((∀ j : Nat,l[j]? ≠ some c) → ps = [])
theorem subs_lit {ev : EV} {v : Expr} {q pos : Pos} {kk : Nat} {a d : D} {k : Int} (H : EvS prog w lv h₀ ev) (o : Ok lv h₀ B A s) (eo : EnvOK env sc) (sees : Sees prog w B env σ s.heap) (ea : ev sc σ v a) (e : subs a (.int k) = some d) {Q : Value → Shared → Prop} {E : Value → Shared → Prop}
  (hQ : ∀ v s',Kp s s' → Den prog w B s'.heap d v → 1 ≤ s'.toks → Q v s') : wpAny (model prog w) A (eval (.Subscript v (.Constant (.int k) kk q) pos) env) Q E s := by
 rw [eval_Subscript]
 refine wpAny_bind ((H _ _ _ _ ea A s B env o eo sees).then fun vo s₁ k₁ xo => ?_)
 refine wpAny_bind (wpAny_holding ?_)
 rw [eval_Constant]
 refine wpAny_mkInt ?_
 have k₂ : Kp s₁ { s₁ with toks := s₁.toks + 1 } := Kp.tok _ _
 refine wpAny_bind (wpAny_standAt ?_)
 have xo' := xo.le k₂.le
 obtain ⟨T,id,hT,hl⟩ := subs_type e xo'
 refine wpAny_bind ?_
 rw [getitemInPython_of_ne hT.not_modules]
 refine wpAny_bind (wpAny_specialOf hT hl ?_)
 refine wpAny_pure ?_
 have hs : subscripted (.Constant (.int k) kk q) false vo (.int k s₁.toks) = operate [vo,.int k s₁.toks] (getItem vo (.int k s₁.toks)) := rfl
 rw [hs]
 refine wpAny_bind (wpAny_operating (wpAny_with_toks (n := 1) (Nat.le_add_left 1 _) ((subs_sound e xo' (show Den prog w B _ (.int k) (.int k s₁.toks) from ⟨_,rfl⟩)).then fun r s₃ k₃ xr => ?_)))
 intro ht
 exact wpAny_bind (wpAny_letTemporaryGo (wpAny_pure (hQ _ _ ((k₁.trans k₂).trans k₃) xr ht)))
end
section
variable {prog : Program} {w : World} {lv : Nat} {h₀ hb : Heap} {B : Addr → Prop} {A : Around} {s s' : Shared} {env : Env} {sc : Scope} {σ σ' : St} {G : GE} {Is : Addr → Prop} {ow ow' : Ow} {N : Names} {C : GC} {ρ ρ' : Rho} {fns dats : List Str}
theorem FS.intAt {x : Str} {i : Int} (y : FS prog w lv h₀ hb B env sc A Is ow σ s) (h : σ.lookup x = some (.int i)) : ∃ t,VarAt env s.heap x (.int i t) := by
 obtain ⟨v,hv,hd⟩ := y.sees x _ h (fun _ e => by cases e)
 have : ∃ t,v = .int i t := hd.elim (fun h => h) fun h => h
 obtain ⟨t,rfl⟩ := this
 exact ⟨t,hv⟩
theorem set_ne_join {ρ : Rho} {i j : Nat} {d : Option D} (h : i ≠ j) : (ρ.set i d)[j]?.join = ρ[j]?.join := by rw [List.getElem?_set,if_neg h]
theorem var_ev {x : Str} {p : Pos} {i : Nat} {d : D} (g : GRel N G C) (r : Rel N sc σ ρ) (ho : okName x = true) (hb : isBound (sc.names.lookup x) = true) (hi : idx x N.ns = some i) (hd : ρ[i]?.join = some d) : evR G C 1 sc (view σ) (.Name x p) d.seen :=
 ⟨N,_,.var i,g,r.view,by show cName N sc x = _; unfold cName; rw [if_pos ho,if_pos hb,hi]; rfl,(join_map D.seen ρ i).trans (by rw [hd]; rfl)⟩
theorem sign_turn {n : Nat} {q1 q2 q3 q4 q5 q6 q7 q8 q9 q10 q11 q12 q13 : Pos} {kk : Nat} {e3 e4 ef : Expr} {ce3 : CE} {bpre : List CStm} {t1 : CT} {blast : CStm} {tx : List D} {l wd : List Nat} {sh mk : Int} {c : Nat} {k : Nat} {Q : Flow → Shared → Prop} {E : Value → Shared → Prop}
  (X : Cx prog w lv h₀ G (Nco fns dats) C) (X' : Cx prog w (lv + 1) h₀ G (Nsf fns dats) C) (X2 : Cx prog w (lv + 2) h₀ G N C) (P : FnAt h₀ "countOf" (CoDef n h₀ fns dats)) (P' : FnAt h₀ "indexOf" (IxDef h₀)) (Z : FnAt h₀ "_law_sign_fits" (SfDef n h₀ fns dats bpre t1 blast)) (L : LawFr A env h₀) (hnb : NoneBooked h₀)
  (eo : EnvOK env sc) (r : Rel N sc σ ρ) (fs : FS prog w (lv + 2) h₀ hb B env sc A Is ow σ s) (bnd : ∀ x ∈ [("texts" : Str),("word" : Str),("k" : Str),("shift" : Str)],isBound (sc.names.lookup x) = true)
  (i1 : idx ("texts" : Str) N.ns = some 10) (i2 : idx ("word" : Str) N.ns = some 4) (i3 : idx ("k" : Str) N.ns = some 7) (i4 : idx ("shift" : Str) N.ns = some 11) (hg : isGlob sc "_law_sign_fits" = true)
  (h1 : ρ[10]?.join = some (.list tx)) (h2 : ρ[4]?.join = some (.str wd)) (h3 : ρ[7]?.join = some (.int k)) (h4 : ρ[11]?.join = some (.int sh)) (ht : tx[4]? = some (.str l)) (hk : k < wd.length) (hw : wd.length ≤ 1000) (hc : wd[k]? = some c)
  (c3 : cE n N sc (.Subscript e3 e4 q8) = some ce3) (v3 : evC C (viewC ρ) ce3 = some (.int mk)) (fit : SfFits C bpre t1 blast l c mk sh)
  (hQ : ∀ s',FS prog w (lv + 2) h₀ hb B env sc A Is ow σ s' → Tn env sc ow s ow s' → Q .next s') :
  wpAny (model prog w) A (execs [.If (.UnaryOp .Not (.Call (.Name "_law_sign_fits" q1) [.Subscript (.Name "texts" q2) (.Constant (.int 4) kk q3) q4,.Subscript (.Name "word" q5) (.Name "k" q6) q7,.Subscript e3 e4 q8,.Name "shift" q9] [] q10) q11) [.Return (some ef) q12] [] q13] env) Q E s := by
 obtain ⟨mg,f,ob,fd,hmg,hf0,ho,hdat,Z⟩ := Z.ex
 have H := (ev_ts_sound (C := C) X2.g X2.hG 1).1
 have okn : okName ("texts" : Str) = true ∧ okName ("word" : Str) = true ∧ okName ("k" : Str) = true ∧ okName ("shift" : Str) = true := by decide +kernel
 have lsh : σ.lookup ("shift" : Str) = some (.int sh) := by rw [r.at _ _ (bnd _ (by simp)) i4,h4]
 refine wpAny_execs_cons (wpAny_If (wpAny_isTrue_Not (wpAny_isTrue_value ?_ rfl)))
 refine wpAny_Call_Name_kw (glob_val eo fs.ok hg hmg hf0 (by decide +kernel) ?_)
 refine Calls.callWith_function (o := ob) (fd := fd) ?_
 have hs : starEach [.Subscript (.Name "texts" q2) (.Constant (.int 4) kk q3) q4,.Subscript (.Name "word" q5) (.Name "k" q6) q7,.Subscript e3 e4 q8,.Name "shift" q9] env =
  [(false,eval (.Subscript (.Name "texts" q2) (.Constant (.int 4) kk q3) q4) env),(false,eval (.Subscript (.Name "word" q5) (.Name "k" q6) q7) env),(false,eval (.Subscript e3 e4 q8) env),(false,eval (.Name "shift" q9) env)] := rfl
 rw [hs]
 refine Calls.evalArgs_plain (Calls.spliced_cons (subs_lit H fs.ok eo fs.sees' (var_ev (p := q2) X2.gr r okn.1 (bnd _ (by simp)) i1 h1) (k := 4) (d := .str l) ht fun v₁ s₁ k₁ x₁ ht₁ => ?_))
 obtain ⟨ta,rfl⟩ := den_str x₁
 have fs₁ := fs.keeps k₁
 refine Calls.spliced_cons (textItem (k := (k : Int)) (c := c) H fs₁.ok eo fs₁.sees' (fun _ _ _ h => by cases h) ht₁ (var_ev (p := q5) X2.gr r okn.2.1 (bnd _ (by simp)) i2 h2) (var_ev (p := q6) X2.gr r okn.2.2.1 (bnd _ (by simp)) i3 h3) (by unfold small; exact decide_eq_true (by lia)) (by
  rw [show seqIndex? (k : Int) wd.length = some k by unfold seqIndex?; simp; lia]; exact hc) fun t s₂ k₂ htne htlt => ?_)
 have fs₂ := fs₁.keeps k₂
 refine Calls.spliced_cons (wpAny_with_toks (n := t + 1) htlt ((expr_ok X2 eo c3 v3 ⟨σ,r,fs₂⟩).then fun v₃ s₃ k₃ x₃ => ?_))
 intro htlt₃
 obtain ⟨tm,rfl⟩ := den_int x₃
 have fs₃ := fs₂.keeps k₃
 obtain ⟨tsh,hsh⟩ := fs₃.intAt lsh
 refine Calls.spliced_cons (loadVar eo.kind hsh (okName_both okn.2.2.2).1 (okName_both okn.2.2.2).2 (Calls.spliced_nil ⟨⟨fs₃.ok.le _ _ ho,hdat⟩,?_⟩))
 obtain ⟨m,hm⟩ := fs₃.frm.ns
 obtain ⟨ρ₁,ps,w1,w2,w3,w4,w5,w6,w7,w8,w9⟩ := fit t
 refine sf_call X X' P P' Z fs₃.ok L.frames L.frame (by rw [eo.kind]; decide) hm L.off htne htlt₃ hnb w1 w2 w3 w4 w5 w6 w7 w8 w9 fun h' tk hk hu => ?_
 obtain ⟨f',t'⟩ := fs₃.touchL (tk := tk) L.cells hk hu
 refine wpAny_truthy_bool ?_
 simp only [Bool.not_true,Bool.false_eq_true,if_false]
 refine wpAny_execs_nil (wpAny_execs_nil (hQ _ f' (t'.kpL ((k₁.trans k₂).trans k₃))))
end
section
variable {prog : Program} {w : World} {lv : Nat} {h₀ hb : Heap} {B : Addr → Prop} {A : Around} {s s' : Shared} {env : Env} {sc : Scope} {σ σ' : St} {G : GE} {Is : Addr → Prop} {ow ow' : Ow} {N : Names} {C : GC} {ρ ρ' : Rho} {fns dats : List Str}
theorem signs_loop {n : Nat} {p0 p1 p2 p3 p4 q1 q2 q3 q4 q5 q6 q7 q8 q9 q10 q11 q12 q13 : Pos} {kq kk : Nat} {e3 e4 ef : Expr} {ce3 : CE} {bpre : List CStm} {t1 : CT} {blast : CStm} {tx : List D} {l wd : List Nat} {sh : Int} {mk : Nat → Int} {c : Nat → Nat} {Q : Flow → Shared → Prop} {E : Value → Shared → Prop}
  (X : Cx prog w lv h₀ G (Nco fns dats) C) (X' : Cx prog w (lv + 1) h₀ G (Nsf fns dats) C) (X2 : Cx prog w (lv + 2) h₀ G N C) (P : FnAt h₀ "countOf" (CoDef n h₀ fns dats)) (P' : FnAt h₀ "indexOf" (IxDef h₀)) (Z : FnAt h₀ "_law_sign_fits" (SfDef n h₀ fns dats bpre t1 blast)) (L : LawFr A env h₀) (hnb : NoneBooked h₀)
  (eo : EnvOK env sc) (fr : FR prog w (lv + 2) h₀ hb B env sc A Is ow N ρ s) (bnd : ∀ x ∈ [("texts" : Str),("word" : Str),("k" : Str),("shift" : Str)],isBound (sc.names.lookup x) = true) (hkh : isHeld (sc.names.lookup ("k" : Str)) = true)
  (i1 : idx ("texts" : Str) N.ns = some 10) (i2 : idx ("word" : Str) N.ns = some 4) (i3 : idx ("k" : Str) N.ns = some 7) (i4 : idx ("shift" : Str) N.ns = some 11) (hg : isGlob sc "_law_sign_fits" = true) (hrg : N.built sc "range" = true)
  (h1 : ρ[10]?.join = some (.list tx)) (h2 : ρ[4]?.join = some (.str wd)) (h4 : ρ[11]?.join = some (.int sh)) (ht : tx[4]? = some (.str l)) (hw : wd.length = 3) (hc : ∀ k,k < 3 → wd[k]? = some (c k))
  (c3 : cE n N sc (.Subscript e3 e4 q8) = some ce3) (v3 : ∀ k : Nat,k < 3 → evC C (viewC (ρ.set 7 (some (.int k)))) ce3 = some (.int (mk k))) (fit : ∀ k,k < 3 → SfFits C bpre t1 blast l (c k) (mk k) sh)
  (hQ : ∀ s' ow',FR prog w (lv + 2) h₀ hb B env sc A Is ow' N (ρ.set 7 (some (.int 2))) s' → Tn env sc ow s ow' s' → Q .next s') :
  wpAny (model prog w) A (exec (.For (.Name "k" p0) (.Call (.Name "range" p1) [.Constant (.int 3) kq p2] [] p3) [.If (.UnaryOp .Not (.Call (.Name "_law_sign_fits" q1) [.Subscript (.Name "texts" q2) (.Constant (.int 4) kk q3) q4,.Subscript (.Name "word" q5) (.Name "k" q6) q7,.Subscript e3 e4 q8,.Name "shift" q9] [] q10) q11) [.Return (some ef) q12] [] q13] [] p4) env) Q E s := by
 obtain ⟨σ,r,fs⟩ := fr
 have H := (ev_ts_sound (C := C) X2.g X2.hG 1).1
 have len7 : 7 < ρ.length := by rw [r.len]; exact idx_lt i3
 have hi : iterE true (evR G C 1) sc (view σ) (.Call (.Name "range" p1) [.Constant (.int 3) kq p2] [] p3) [.int ((0 : Nat) : Int),.int ((1 : Nat) : Int),.int ((2 : Nat) : Int)] :=
  ⟨rfl,.inl ⟨_,_,_,[.int 3],rfl,built_glob hrg,⟨rfl,.int 3,[],⟨N,_,.const (.int 3),X2.gr,r.view,rfl,rfl⟩,rfl,rfl⟩,rfl⟩⟩
 let xs' : XS := fun sc σ l out σ' => out = .next ∧ σ' = σ ∧ (l = [] ∨ ∃ k : Nat,k < 3 ∧ Rel N sc σ (ρ.set 7 (some (.int k))))
 have r0 : Rel N sc (put ("k" : Str) (.int (0 : Nat)) σ) (ρ.set 7 (some (.int (0 : Nat)))) := r.put i3
 have r1 : Rel N sc (put ("k" : Str) (.int (1 : Nat)) (put ("k" : Str) (.int (0 : Nat)) σ)) (ρ.set 7 (some (.int (1 : Nat)))) := by have := r0.put (d := .int (1 : Nat)) i3; rwa [List.set_set] at this
 have r2 : Rel N sc (put ("k" : Str) (.int (2 : Nat)) (put ("k" : Str) (.int (1 : Nat)) (put ("k" : Str) (.int (0 : Nat)) σ))) (ρ.set 7 (some (.int (2 : Nat)))) := by have := r1.put (d := .int (2 : Nat)) i3; rwa [List.set_set] at this
 refine for_core (xs := xs') (out := .next) (σ' := put ("k" : Str) (.int (2 : Nat)) (put ("k" : Str) (.int (1 : Nat)) (put ("k" : Str) (.int (0 : Nat)) σ))) H X2.g hkh hi
  ⟨_,_,⟨rfl,rfl,.inr ⟨0,by decide,r0⟩⟩,_,_,⟨rfl,rfl,.inr ⟨1,by decide,r1⟩⟩,_,_,⟨rfl,rfl,.inr ⟨2,by decide,r2⟩⟩,rfl,rfl,.inl rfl⟩ A s B hb env ow Is eo fs (fun l₁ σ₁ out₁ σ₂ hl hx s₁ ow₁ Is₁ fs₁ Q₁ E₁ hQ₁ => ?_) Q E fun fl s' ow' f' t' o' => ?_
 ·obtain ⟨rfl,rfl,hx⟩ := hx
  rcases hl with rfl | rfl
  ·obtain ⟨k,hk,rk⟩ := hx.resolve_left (fun h => by cases h)
   have j : ∀ i,i ≠ 7 → (ρ.set 7 (some (.int k)))[i]?.join = ρ[i]?.join := fun i hi => set_ne_join (Ne.symm hi)
   exact sign_turn X X' X2 P P' Z L hnb eo (ρ := ρ.set 7 (some (.int k))) (k := k) rk fs₁ bnd i1 i2 i3 i4 hg (by rw [j 10 (by decide)]; exact h1) (by rw [j 4 (by decide)]; exact h2) (by rw [List.getElem?_set_self len7]; rfl) (by rw [j 11 (by decide)]; exact h4) ht (by lia) (by lia) (hc k hk) c3 (v3 k hk) (fit k hk)
    fun s₂ f₂ t₂ => hQ₁ _ _ _ f₂ t₂ rfl
  ·exact wpAny_execs_nil (hQ₁ _ _ _ fs₁ Tn.rfl' rfl)
 ·cases o'
  exact hQ s' ow' ⟨_,r2,f'⟩ t'
end
noncomputable def IntTab : List DictEntry → List (Int × List Nat) → Prop
 | [],[] => True
 | e :: es,p :: ps => (∃ t,e.key = .int p.1 t) ∧ e.hash = hashInt p.1 ∧ (∃ t,e.val = .str ⟨p.2.toArray⟩ t) ∧ IntTab es ps
 | _,_ => False
noncomputable def StrTab (w : World) : List DictEntry → List (Int × List Nat) → Prop
 | [],[] => True
 | e :: es,p :: ps => (∃ t,e.key = .str ⟨p.2.toArray⟩ t) ∧ e.hash = hashStr w ⟨p.2.toArray⟩ ∧ (∃ t,e.val = .int p.1 t) ∧ StrTab w es ps
 | _,_ => False
section
variable {prog : Program} {w : World}
theorem IntTab.pairs : ∀ {es : List DictEntry} {ps : List (Int × List Nat)},IntTab es ps → ∃ kvs,Pairs (intKind prog w) es kvs ∧ TabVals ps kvs ∧ (∀ e ∈ es,∃ k,(intKind prog w).is k e.key = true ∧ e.hash = (intKind prog w).hash k) ∧ kvs.map (·.1) = ps.map (·.1)
 | [],[],_ => ⟨[],.nil,rfl,(fun _ h => by cases h),rfl⟩
 | e :: es,p :: ps,⟨⟨t,hk⟩,hh,⟨u,hv⟩,hr⟩ => by
  obtain ⟨kvs,h1,h2,h3,h4⟩ := IntTab.pairs hr
  refine ⟨(p.1,.str ⟨p.2.toArray⟩ u) :: kvs,.cons (by rw [hk]; exact intKind_is _ _) hv h1,⟨u,kvs,rfl,h2⟩,fun e' he' => ?_,by simp [h4]⟩
  rcases List.mem_cons.mp he' with rfl | he'
  ·exact ⟨p.1,by rw [hk]; exact intKind_is _ _,hh⟩
  ·exact h3 e' he'
 | [],_ :: _,h => h.elim
 | _ :: _,[],h => h.elim
theorem StrTab.pairs : ∀ {es : List DictEntry} {ps : List (Int × List Nat)},StrTab w es ps → ∃ kvs,Pairs (strKind prog w) es kvs ∧ TabS ps kvs ∧ (∀ e ∈ es,∃ k,(strKind prog w).is k e.key = true ∧ e.hash = (strKind prog w).hash k) ∧ kvs.map (·.1) = ps.map (fun p => (⟨p.2.toArray⟩ : Str))
 | [],[],_ => ⟨[],.nil,rfl,(fun _ h => by cases h),rfl⟩
 | e :: es,p :: ps,⟨⟨t,hk⟩,hh,⟨u,hv⟩,hr⟩ => by
  obtain ⟨kvs,h1,h2,h3,h4⟩ := StrTab.pairs hr
  have hi : (strKind prog w).is ⟨p.2.toArray⟩ e.key = true := by rw [hk]; simp [PySem.strKind,Value.isStrOf]
  refine ⟨(⟨p.2.toArray⟩,.int p.1 u) :: kvs,.cons hi hv h1,⟨u,kvs,rfl,h2⟩,fun e' he' => ?_,by simp [h4]⟩
  rcases List.mem_cons.mp he' with rfl | he'
  ·exact ⟨_,hi,hh⟩
  ·exact h3 e' he'
 | [],_ :: _,h => h.elim
 | _ :: _,[],h => h.elim
theorem intDict {h : Heap} {a : Addr} {es : Array DictEntry} {n : Nat} {ps : List (Int × List Nat)} (ho : h.get? a = some { cls := .type "dict",dict := none,data := .dict es n,slots := #[] }) (x : IntTab es.toList ps) (hn : (ps.map (·.1)).Nodup) :
  ∃ kvs,h.DictOf (intKind prog w) a kvs ∧ TabVals ps kvs := by
 obtain ⟨kvs,h1,h2,h3,h4⟩ := x.pairs (prog := prog) (w := w)
 exact ⟨kvs,⟨_,es,n,ho,⟨rfl,rfl,rfl⟩,rfl,fun e he => h3 e (Array.mem_def.mp he),h1,by rw [h4]; exact hn⟩,h2⟩
theorem strDict {h : Heap} {a : Addr} {es : Array DictEntry} {n : Nat} {ps : List (Int × List Nat)} (ho : h.get? a = some { cls := .type "dict",dict := none,data := .dict es n,slots := #[] }) (x : StrTab w es.toList ps) (hn : (ps.map (·.2)).Nodup) :
  ∃ kvs,h.DictAt (strKind prog w) a kvs n ∧ TabS ps kvs := by
 obtain ⟨kvs,h1,h2,h3,h4⟩ := x.pairs (prog := prog)
 refine ⟨kvs,⟨_,es,ho,⟨rfl,rfl,rfl⟩,rfl,fun e he => h3 e (Array.mem_def.mp he),h1,?_⟩,h2⟩
 rw [h4]
 have : ps.map (fun p => (⟨p.2.toArray⟩ : Str)) = (ps.map (·.2)).map (fun l => (⟨l.toArray⟩ : Str)) := by simp
 rw [this]
 refine List.Pairwise.map _ (fun a b hab h => hab ?_) hn
 have := congrArg (fun s : Str => s.cps.toList) h
 simpa using this
end
noncomputable def recs : List DefRec := recsOf PySem.Challenge.pw_ta0062_01
theorem recs_eq : recsOf qv = recs := by kernel_rfl
section
variable {w : World} {h : Heap} {mean : ExcName → Option Value} {mg mb : Str → Option Value} {loose : List Str}
theorem flag_dict (X : (KM w.params).In h) : ∃ kvs,h.DictOf (intKind PySem.Challenge.rw_ta0062_01.row.prog w) 29 kvs ∧ TabVals flagTab kvs := by
 have ho : (KM w.params).lookup 29 = some _ := rfl
 refine intDict (X _ _ ho) ?_ (by decide +kernel)
 repeat (first | exact trivial | refine ⟨⟨_,rfl⟩,rfl,⟨_,rfl⟩,?_⟩)
theorem exact_dict (X : (KM w.params).In h) : ∃ kvs n,h.DictAt (strKind PySem.Challenge.rw_ta0062_01.row.prog w) 101 kvs n ∧ TabS exactTab kvs := by
 have ho : (KM w.params).lookup 101 = some _ := rfl
 obtain ⟨kvs,h1,h2⟩ := strDict (prog := PySem.Challenge.rw_ta0062_01.row.prog) (w := w) (ps := exactTab) (X _ _ ho) (by repeat (first | exact trivial | refine ⟨⟨_,rfl⟩,rfl,⟨_,rfl⟩,?_⟩)) (by decide +kernel)
 exact ⟨kvs,_,h1,h2⟩
theorem none_booked (X : (KM w.params).In h) (hl : h.NoLimit) : NoneBooked h := let ⟨mc,hn,_⟩ := hl; ⟨mc,hn,ns_none_of X hn (by rfl)⟩
theorem mg_flag (X : (KM w.params).In h) (G : h.Ns mainGlobals mg) : mg ("COMPILER_FLAG_NAMES" : Str) = some (.ref 29) := mg_of X G (by rfl)
theorem mg_exact (X : (KM w.params).In h) (G : h.Ns mainGlobals mg) : mg ("EXACT_TOKEN_TYPES" : Str) = some (.ref 101) := mg_of X G (by rfl)
theorem mg_hint (X : (KM w.params).In h) (G : h.Ns mainGlobals mg) : mg ("length_hint" : Str) = some (.ref 100) := mg_of X G (by rfl)
end
noncomputable abbrev loose3 : List Str := looseW qv [Str.ofString "COMPILER_FLAG_NAMES",Str.ofString "length_hint",Str.ofString "EXACT_TOKEN_TYPES"]
noncomputable def blk : List Str := startupNames ++ (loose3 ++ ((recsOf qv).map (·.name) ++ ((litsOf qv).map (·.1) ++ (clssOf qv loose3).map (·.name))))
set_option maxHeartbeats 8000000 in
theorem blk1 : ((fnNames ++ tyNames).all fun n => (Str.ofString "__name__" :: blk).all fun x => !(x == Str.ofString n)) = true := by
 unfold blk loose3
 rewrite [PySem.W.Fast.te821141287760084731,PySem.W.Fast.te3399658132070893891,PySem.W.Fast.te7409074990110511671,PySem.W.Fast.te13664370479719496447,PySem.W.Fast.te12749700546528644094,R.allR_eq,R.mapR_eq]
 kernel_rfl
theorem blt1 : ∀ n ∈ fnNames,bootBuiltins (Str.ofString n) = some (.builtin n) := by decide +kernel
theorem blt2 : ∀ n ∈ tyNames,bootBuiltins (Str.ofString n) = some (.type n) := by decide +kernel
theorem blk_no {n : String} (hn : n ∈ fnNames ++ tyNames) : (Str.ofString n ∉ startupNames ∧ Str.ofString n ∉ loose3 ∧ Str.ofString n ∉ (recsOf qv).map (·.name) ∧ Str.ofString n ∉ (litsOf qv).map (·.1) ∧ Str.ofString n ∉ (clssOf qv loose3).map (·.name)) ∧ Str.ofString n ≠ "__name__" := by
 have h : Str.ofString n ∉ Str.ofString "__name__" :: blk := fun k => by simpa using List.all_eq_true.mp (List.all_eq_true.mp blk1 n hn) _ k
 simp only [blk,List.mem_cons,List.mem_append,not_or] at h
 exact ⟨h.2,h.1⟩
section
variable {w : World} {h : Heap} {mean : ExcName → Option Value} {mg mb : Str → Option Value}
theorem base_fn (T : Top qv loose3 mean mg mb h) : (∀ n ∈ fnNames,mg (Str.ofString n) = none ∧ mb (Str.ofString n) = some (.builtin n)) ∧ (∀ n ∈ tyNames,mg (Str.ofString n) = none ∧ mb (Str.ofString n) = some (.type n)) := by
 constructor
 ·intro n hn
  obtain ⟨⟨a,b,c,d,e⟩,f⟩ := blk_no (List.mem_append_left _ hn)
  exact ⟨T.free _ a b c d e,(T.builtins _ f).trans (blt1 n hn)⟩
 ·intro n hn
  obtain ⟨⟨a,b,c,d,e⟩,f⟩ := blk_no (List.mem_append_right _ hn)
  exact ⟨T.free _ a b c d e,(T.builtins _ f).trans (blt2 n hn)⟩
theorem const_int (T : Top qv loose3 mean mg mb h) {x : Str} {n : Int} (e : valOf qv x = some (.int n)) : ∃ t,mg x = some (.int n t) := by
 obtain ⟨v,hv,hr⟩ := T.const x _ e
 have := hr h
 cases this
 exact ⟨_,hv⟩
theorem consts (T : Top qv loose3 mean mg mb h) : (∃ t,mg ("_MAX_STRING_SIZE" : Str) = some (.int 40 t)) ∧ (∃ t,mg ("_MOVE_COST" : Str) = some (.int 2 t)) ∧ (∃ t,mg ("_CASE_COST" : Str) = some (.int 1 t)) ∧ (∃ t,mg ("NT_OFFSET" : Str) = some (.int 256 t)) ∧ (∃ t,mg ("ENDMARKER" : Str) = some (.int 0 t)) :=
 ⟨const_int T (by kernel_rfl),const_int T (by kernel_rfl),const_int T (by kernel_rfl),const_int T (by kernel_rfl),const_int T (by kernel_rfl)⟩
theorem sys_alive (T : Top qv loose3 mean mg mb h) : ∃ o,h.get? sysModules = some o := by
 obtain ⟨mm,⟨o,es,ep,ho,_⟩,_⟩ := (T.seer (by kernel_rfl)).mods
 exact ⟨o,ho⟩
end
theorem zip_lookup {α : Type} {x : Str} : ∀ {l : List Str} {v : List α},l.length = v.length → (l.zip v).lookup x = (idx x l).bind (v[·]?) ∧ (idx x l).isNone = ((l.zip v).lookup x).isNone
 | [],[],_ => ⟨rfl,rfl⟩
 | y :: l,a :: v,h => by
  have ih := zip_lookup (x := x) (l := l) (v := v) (by simpa using h)
  rw [List.zip_cons_cons,List.lookup_cons]
  unfold idx
  rw [List.findIdx?_cons]
  by_cases hx : x = y
  ·subst hx; simp
  ·have h1 : (y == x) = false := by simpa using fun h => hx h.symm
   have h2 : (x == y) = false := by simpa using hx
   rw [h1,h2]
   simp only [Bool.false_eq_true,if_false]
   refine ⟨?_,?_⟩
   ·rw [ih.1]; unfold idx
    cases l.findIdx? (fun z => z == x) <;> simp
   ·rw [← ih.2]; unfold idx
    cases l.findIdx? (fun z => z == x) <;> simp
 | [],_ :: _,h => by simp at h
 | _ :: _,[],h => by simp at h
noncomputable def mkG (l : List (List D → Option D)) : GE := ⟨fnsN.zip (mkC l).fn,datsN.zip datsD⟩
theorem mkC_len {l : List (List D → Option D)} (h : l.length ≤ 30) : (mkC l).fn.length = 31 := by
 show (l ++ List.replicate (30 - l.length) noF ++ [fLH]).length = 31
 simp; lia
theorem grel {l : List (List D → Option D)} (h : l.length ≤ 30) (ns : List Str) : GRel ⟨ns,fnsN,datsN⟩ (mkG l) (mkC l) := by
 have h1 : fnsN.length = (mkC l).fn.length := by rw [mkC_len h]; rfl
 have h2 : datsN.length = datsD.length := rfl
 exact ⟨fun x => (zip_lookup h1).1,fun x => (zip_lookup h1).2,fun x => (zip_lookup h2).1,fun x => (zip_lookup h2).2⟩
section
variable {prog : Program} {w : World} {h : Heap} {mg mb : Str → Option Value}
structure Bse (prog : Program) (w : World) (h : Heap) (mg mb : Str → Option Value) : Prop where
 g : h.Ns mainGlobals mg
 b : h.Ns builtinsNs mb
 nolimit : h.NoLimit
 fns : ∀ n ∈ fnNames,mg (Str.ofString n) = none ∧ mb (Str.ofString n) = some (.builtin n)
 tys : ∀ n ∈ tyNames,mg (Str.ofString n) = none ∧ mb (Str.ofString n) = some (.type n)
 dat : ∀ (i : Nat) (x : Str) (d : D),datsN[i]? = some x → datsD[i]? = some d → ∃ v,mg x = some v ∧ Den prog w (fun _ => False) h d v
 fn : ∀ (i : Nat) (x : Str),fnsN[i]? = some x → ∃ a o fd,mg x = some (.ref a) ∧ h.get? a = some o ∧ o.data = .func fd
noncomputable def Known (prog : Program) (w : World) (h : Heap) (mg : Str → Option Value) (lv : Nat) (l : List (List D → Option D)) : Prop :=
 ∀ (i : Nat) (F : List D → Option D) (x : Str) (a : Addr),l[i]? = some F → fnsN[i]? = some x → mg x = some (.ref a) → Con prog w lv h a F
theorem Known.up {lv lv' : Nat} {l : List (List D → Option D)} (K : Known prog w h mg lv l) (hl : lv ≤ lv') : Known prog w h mg lv' l := fun i F x a h1 h2 h3 => (K i F x a h1 h2 h3).up hl
theorem Known.snoc {lv : Nat} {l : List (List D → Option D)} {f : List D → Option D} {x : Str} (K : Known prog w h mg lv l) (hx : fnsN[l.length]? = some x) (c : ∀ a,mg x = some (.ref a) → Con prog w (lv + 1) h a f) : Known prog w h mg (lv + 1) (l ++ [f]) := fun i F y a h1 h2 h3 => by
 rcases Nat.lt_trichotomy i l.length with hi | hi | hi
 ·rw [List.getElem?_append_left hi] at h1
  exact (K i F y a h1 h2 h3).up (Nat.le_succ _)
 ·subst hi
  rw [List.getElem?_append_right (Nat.le_refl _)] at h1
  simp at h1
  rw [hx] at h2
  cases h2
  rw [← h1]
  exact c a h3
 ·rw [List.getElem?_eq_none (by rw [List.length_append]; simp; lia)] at h1; cases h1
theorem con_none {lv : Nat} {a : Addr} : Con prog w lv h a noF := fun A s B vs ds d o xs e => by cases e
theorem gd_of {lv : Nat} {l : List (List D → Option D)} (Z : Bse prog w h mg mb) (hl : l.length ≤ 30) (K : Known prog w h mg lv l) (lh : ∀ a,mg ("length_hint" : Str) = some (.ref a) → Con prog w lv h a fLH) : Gd prog w lv (mkG l) h := by
 refine ⟨⟨mg,mb,Z.g,Z.b,fun x F hF => ?_,fun x d hd => ?_,Z.fns,Z.tys⟩,Z.nolimit⟩
 ·have hlen : fnsN.length = (mkC l).fn.length := by rw [mkC_len hl]; rfl
  have hF' : (fnsN.zip (mkC l).fn).lookup x = some F := hF
  rw [(zip_lookup hlen).1] at hF'
  obtain ⟨i,hi,hFi⟩ := Option.bind_eq_some_iff.mp hF'
  have hx := idx_get hi
  obtain ⟨a,o,fd,h1,h2,h3⟩ := Z.fn i x hx
  refine ⟨a,o,fd,h1,h2,h3,?_⟩
  have hFi' : (l ++ List.replicate (30 - l.length) noF ++ [fLH])[i]? = some F := hFi
  rcases Nat.lt_or_ge i l.length with hlt | hge
  ·rw [List.append_assoc,List.getElem?_append_left hlt] at hFi'
   exact K i F x a hFi' hx h1
  ·rw [List.append_assoc,List.getElem?_append_right hge] at hFi'
   rcases Nat.lt_or_ge (i - l.length) (30 - l.length) with h4 | h4
   ·rw [List.getElem?_append_left (by simpa using h4)] at hFi'
    have : F = noF := by
     rw [List.getElem?_replicate] at hFi'
     rw [if_pos h4] at hFi'
     exact (Option.some.inj hFi').symm
    rw [this]; exact con_none
   ·have hi30 : i = 30 := by
     have := (List.getElem?_eq_some_iff.mp hx).1
     have h31 : fnsN.length = 31 := rfl
     lia
    rw [List.getElem?_append_right (by simpa using h4)] at hFi'
    subst hi30
    have : F = fLH := by
     have h0 : 30 - l.length - (List.replicate (30 - l.length) noF).length = 0 := by simp
     rw [h0] at hFi'
     exact (Option.some.inj hFi').symm
    rw [this]
    have hx30 : x = ("length_hint" : Str) := by
     have : fnsN[30]? = some ("length_hint" : Str) := rfl
     rw [this] at hx; exact (Option.some.inj hx).symm
    rw [hx30] at h1
    exact lh a h1
 ·have hd' : (datsN.zip datsD).lookup x = some d := hd
  rw [(zip_lookup (show datsN.length = datsD.length from rfl)).1] at hd'
  obtain ⟨i,hi,hdi⟩ := Option.bind_eq_some_iff.mp hd'
  exact Z.dat i x d (idx_get hi) hdi
theorem cx_of {lv : Nat} {l : List (List D → Option D)} (Z : Bse prog w h mg mb) (hl : l.length ≤ 30) (K : Known prog w h mg lv l) (lh : ∀ a,mg ("length_hint" : Str) = some (.ref a) → Con prog w lv h a fLH) (ns : List Str) : Cx prog w lv h (mkG l) ⟨ns,fnsN,datsN⟩ (mkC l) where
 g := gd_of Z hl K lh
 hG := fun x F hF => by
  have hlen : fnsN.length = (mkC l).fn.length := by rw [mkC_len hl]; rfl
  have hF' : (fnsN.zip (mkC l).fn).lookup x = some F := hF
  have := (List.of_mem_zip (mem_of_lookup hF')).1
  have hall : ∀ x ∈ fnsN,(x == ("__debug__" : Str)) = false := by decide +kernel
  exact hall x this
 hL := by
  have hlen : fnsN.length = (mkC l).fn.length := by rw [mkC_len hl]; rfl
  have := (zip_lookup (x := ("list" : Str)) hlen).1
  have h0 : idx ("list" : Str) fnsN = none := by decide +kernel
  rw [h0] at this
  exact this
 gr := grel hl ns
end
noncomputable def plainP : Arguments → List Str → Bool
 | ⟨[],as,none,[],[],none,[]⟩,ps => as.map (·.arg) == ps && decide (as.length ≤ 4)
 | _,_ => false
noncomputable def BindOk (ps : List Str) : Prop := ∀ (as : List Arg) (n : Str) (b : List Stmt) (sc : Scope) (pm code doc : Value) (vs : List Value),as.map (·.arg) = ps → vs.length = ps.length → bindArgs (PySem.Calls.docDef n ⟨[],as,none,[],[],none,[]⟩ b sc pm code doc) ⟨vs,[]⟩ = pure (ps.zip vs)
theorem bind_plain {n : Str} {p : Arguments} {b : List Stmt} {sc : Scope} {pm code doc : Value} {ps : List Str} {vs : List Value} (hb : BindOk ps) (hp : plainP p ps = true) (hv : vs.length = ps.length) : bindArgs (PySem.Calls.docDef n p b sc pm code doc) ⟨vs,[]⟩ = pure (ps.zip vs) := by
 unfold plainP at hp
 split at hp
 ·rename_i ps' as
  rw [Bool.and_eq_true] at hp
  exact hb as n b sc pm code doc vs (eq_of_beq hp.1) hv
 ·cases hp
theorem map_cons {x : Str} {r : List Str} {as : List Arg} (h : as.map (·.arg) = x :: r) : ∃ an q as',as = ⟨x,an,q⟩ :: as' ∧ as'.map (·.arg) = r := by
 cases as with
 | nil => cases h
 | cons y as' =>
  obtain ⟨x',an,q⟩ := y
  simp only [List.map_cons,List.cons.injEq] at h
  obtain ⟨rfl,h2⟩ := h
  exact ⟨an,q,as',rfl,h2⟩
theorem map_nil {as : List Arg} (h : as.map (·.arg) = []) : as = [] := by simpa using h
theorem len_cons {vs : List Value} {n : Nat} (h : vs.length = n + 1) : ∃ v r,vs = v :: r ∧ r.length = n := by
 cases vs with
 | nil => cases h
 | cons v r => exact ⟨v,r,rfl,by simpa using h⟩
theorem len_nil {vs : List Value} (h : vs.length = 0) : vs = [] := by simpa using h
theorem bpa_b : BindOk [("a" : Str),("b" : Str)] := fun as n b sc pm code doc vs h1 h2 => by
 obtain ⟨an0,q0,as0,rfl,h11⟩ := map_cons h1
 obtain ⟨v0,vs0,rfl,h21⟩ := len_cons h2
 obtain ⟨an1,q1,as1,rfl,h12⟩ := map_cons h11
 obtain ⟨v1,vs1,rfl,h22⟩ := len_cons h21
 obtain rfl := map_nil h12
 obtain rfl := len_nil h22
 rfl
theorem bpa_b_max_cost : BindOk [("a" : Str),("b" : Str),("max_cost" : Str)] := fun as n b sc pm code doc vs h1 h2 => by
 obtain ⟨an0,q0,as0,rfl,h11⟩ := map_cons h1
 obtain ⟨v0,vs0,rfl,h21⟩ := len_cons h2
 obtain ⟨an1,q1,as1,rfl,h12⟩ := map_cons h11
 obtain ⟨v1,vs1,rfl,h22⟩ := len_cons h21
 obtain ⟨an2,q2,as2,rfl,h13⟩ := map_cons h12
 obtain ⟨v2,vs2,rfl,h23⟩ := len_cons h22
 obtain rfl := map_nil h13
 obtain rfl := len_nil h23
 rfl
theorem bpch_a_ch_b : BindOk [("ch_a" : Str),("ch_b" : Str)] := fun as n b sc pm code doc vs h1 h2 => by
 obtain ⟨an0,q0,as0,rfl,h11⟩ := map_cons h1
 obtain ⟨v0,vs0,rfl,h21⟩ := len_cons h2
 obtain ⟨an1,q1,as1,rfl,h12⟩ := map_cons h11
 obtain ⟨v1,vs1,rfl,h22⟩ := len_cons h21
 obtain rfl := map_nil h12
 obtain rfl := len_nil h22
 rfl
theorem bpflags : BindOk [("flags" : Str)] := fun as n b sc pm code doc vs h1 h2 => by
 obtain ⟨an0,q0,as0,rfl,h11⟩ := map_cons h1
 obtain ⟨v0,vs0,rfl,h21⟩ := len_cons h2
 obtain rfl := map_nil h11
 obtain rfl := len_nil h21
 rfl
theorem bpiterator : BindOk [("iterator" : Str)] := fun as n b sc pm code doc vs h1 h2 => by
 obtain ⟨an0,q0,as0,rfl,h11⟩ := map_cons h1
 obtain ⟨v0,vs0,rfl,h21⟩ := len_cons h2
 obtain rfl := map_nil h11
 obtain rfl := len_nil h21
 rfl
theorem bpleft_right : BindOk [("left" : Str),("right" : Str)] := fun as n b sc pm code doc vs h1 h2 => by
 obtain ⟨an0,q0,as0,rfl,h11⟩ := map_cons h1
 obtain ⟨v0,vs0,rfl,h21⟩ := len_cons h2
 obtain ⟨an1,q1,as1,rfl,h12⟩ := map_cons h11
 obtain ⟨v1,vs1,rfl,h22⟩ := len_cons h21
 obtain rfl := map_nil h12
 obtain rfl := len_nil h22
 rfl
theorem bpnumber : BindOk [("number" : Str)] := fun as n b sc pm code doc vs h1 h2 => by
 obtain ⟨an0,q0,as0,rfl,h11⟩ := map_cons h1
 obtain ⟨v0,vs0,rfl,h21⟩ := len_cons h2
 obtain rfl := map_nil h11
 obtain rfl := len_nil h21
 rfl
theorem bpnumber_ahead_mark : BindOk [("number" : Str),("ahead" : Str),("mark" : Str)] := fun as n b sc pm code doc vs h1 h2 => by
 obtain ⟨an0,q0,as0,rfl,h11⟩ := map_cons h1
 obtain ⟨v0,vs0,rfl,h21⟩ := len_cons h2
 obtain ⟨an1,q1,as1,rfl,h12⟩ := map_cons h11
 obtain ⟨v1,vs1,rfl,h22⟩ := len_cons h21
 obtain ⟨an2,q2,as2,rfl,h13⟩ := map_cons h12
 obtain ⟨v2,vs2,rfl,h23⟩ := len_cons h22
 obtain rfl := map_nil h13
 obtain rfl := len_nil h23
 rfl
theorem bpnumbers : BindOk [("numbers" : Str)] := fun as n b sc pm code doc vs h1 h2 => by
 obtain ⟨an0,q0,as0,rfl,h11⟩ := map_cons h1
 obtain ⟨v0,vs0,rfl,h21⟩ := len_cons h2
 obtain rfl := map_nil h11
 obtain rfl := len_nil h21
 rfl
theorem bpoctets : BindOk [("octets" : Str)] := fun as n b sc pm code doc vs h1 h2 => by
 obtain ⟨an0,q0,as0,rfl,h11⟩ := map_cons h1
 obtain ⟨v0,vs0,rfl,h21⟩ := len_cons h2
 obtain rfl := map_nil h11
 obtain rfl := len_nil h21
 rfl
theorem bpplaces : BindOk [("places" : Str)] := fun as n b sc pm code doc vs h1 h2 => by
 obtain ⟨an0,q0,as0,rfl,h11⟩ := map_cons h1
 obtain ⟨v0,vs0,rfl,h21⟩ := len_cons h2
 obtain rfl := map_nil h11
 obtain rfl := len_nil h21
 rfl
theorem bprule_word_records : BindOk [("rule" : Str),("word" : Str),("records" : Str)] := fun as n b sc pm code doc vs h1 h2 => by
 obtain ⟨an0,q0,as0,rfl,h11⟩ := map_cons h1
 obtain ⟨v0,vs0,rfl,h21⟩ := len_cons h2
 obtain ⟨an1,q1,as1,rfl,h12⟩ := map_cons h11
 obtain ⟨v1,vs1,rfl,h22⟩ := len_cons h21
 obtain ⟨an2,q2,as2,rfl,h13⟩ := map_cons h12
 obtain ⟨v2,vs2,rfl,h23⟩ := len_cons h22
 obtain rfl := map_nil h13
 obtain rfl := len_nil h23
 rfl
theorem bpsign_other : BindOk [("sign" : Str),("other" : Str)] := fun as n b sc pm code doc vs h1 h2 => by
 obtain ⟨an0,q0,as0,rfl,h11⟩ := map_cons h1
 obtain ⟨v0,vs0,rfl,h21⟩ := len_cons h2
 obtain ⟨an1,q1,as1,rfl,h12⟩ := map_cons h11
 obtain ⟨v1,vs1,rfl,h22⟩ := len_cons h21
 obtain rfl := map_nil h12
 obtain rfl := len_nil h22
 rfl
theorem bpsign_part : BindOk [("sign" : Str),("part" : Str)] := fun as n b sc pm code doc vs h1 h2 => by
 obtain ⟨an0,q0,as0,rfl,h11⟩ := map_cons h1
 obtain ⟨v0,vs0,rfl,h21⟩ := len_cons h2
 obtain ⟨an1,q1,as1,rfl,h12⟩ := map_cons h11
 obtain ⟨v1,vs1,rfl,h22⟩ := len_cons h21
 obtain rfl := map_nil h12
 obtain rfl := len_nil h22
 rfl
theorem bpsign_word : BindOk [("sign" : Str),("word" : Str)] := fun as n b sc pm code doc vs h1 h2 => by
 obtain ⟨an0,q0,as0,rfl,h11⟩ := map_cons h1
 obtain ⟨v0,vs0,rfl,h21⟩ := len_cons h2
 obtain ⟨an1,q1,as1,rfl,h12⟩ := map_cons h11
 obtain ⟨v1,vs1,rfl,h22⟩ := len_cons h21
 obtain rfl := map_nil h12
 obtain rfl := len_nil h22
 rfl
theorem bpsymbol : BindOk [("symbol" : Str)] := fun as n b sc pm code doc vs h1 h2 => by
 obtain ⟨an0,q0,as0,rfl,h11⟩ := map_cons h1
 obtain ⟨v0,vs0,rfl,h21⟩ := len_cons h2
 obtain rfl := map_nil h11
 obtain rfl := len_nil h21
 rfl
theorem bptext_sign_marks_shift : BindOk [("text" : Str),("sign" : Str),("marks" : Str),("shift" : Str)] := fun as n b sc pm code doc vs h1 h2 => by
 obtain ⟨an0,q0,as0,rfl,h11⟩ := map_cons h1
 obtain ⟨v0,vs0,rfl,h21⟩ := len_cons h2
 obtain ⟨an1,q1,as1,rfl,h12⟩ := map_cons h11
 obtain ⟨v1,vs1,rfl,h22⟩ := len_cons h21
 obtain ⟨an2,q2,as2,rfl,h13⟩ := map_cons h12
 obtain ⟨v2,vs2,rfl,h23⟩ := len_cons h22
 obtain ⟨an3,q3,as3,rfl,h14⟩ := map_cons h13
 obtain ⟨v3,vs3,rfl,h24⟩ := len_cons h23
 obtain rfl := map_nil h14
 obtain rfl := len_nil h24
 rfl
theorem bptext_word_table : BindOk [("text" : Str),("word" : Str),("table" : Str)] := fun as n b sc pm code doc vs h1 h2 => by
 obtain ⟨an0,q0,as0,rfl,h11⟩ := map_cons h1
 obtain ⟨v0,vs0,rfl,h21⟩ := len_cons h2
 obtain ⟨an1,q1,as1,rfl,h12⟩ := map_cons h11
 obtain ⟨v1,vs1,rfl,h22⟩ := len_cons h21
 obtain ⟨an2,q2,as2,rfl,h13⟩ := map_cons h12
 obtain ⟨v2,vs2,rfl,h23⟩ := len_cons h22
 obtain rfl := map_nil h13
 obtain rfl := len_nil h23
 rfl
theorem bptold : BindOk [("told" : Str)] := fun as n b sc pm code doc vs h1 h2 => by
 obtain ⟨an0,q0,as0,rfl,h11⟩ := map_cons h1
 obtain ⟨v0,vs0,rfl,h21⟩ := len_cons h2
 obtain rfl := map_nil h11
 obtain rfl := len_nil h21
 rfl
theorem bpx : BindOk [("x" : Str)] := fun as n b sc pm code doc vs h1 h2 => by
 obtain ⟨an0,q0,as0,rfl,h11⟩ := map_cons h1
 obtain ⟨v0,vs0,rfl,h21⟩ := len_cons h2
 obtain rfl := map_nil h11
 obtain rfl := len_nil h21
 rfl
section
variable {prog : Program} {w : World} {h : Heap} {mg mb : Str → Option Value} {mean : ExcName → Option Value} {lv : Nat}
theorem def_of (T : Top qv loose3 mean mg mb h) {i : Nat} {d : DefRec} (hd' : recs[i]? = some d) {a : Addr} (ha : mg d.name = some (.ref a)) : ∃ fd,DefAt h a fd d.body d.scope ∧ ∃ pm code doc,fd = PySem.Calls.docDef d.name d.params d.body d.scope pm code doc := by
 obtain ⟨a',o,pm,code,doc,h1,h2,h3,h4⟩ := T.fn d (by rw [recs_eq]; exact List.mem_of_getElem? hd')
 rw [ha] at h1
 cases h1
 exact ⟨_,⟨⟨o,h2,h3⟩,h4,rfl,rfl,rfl,rfl,rfl⟩,pm,code,doc,rfl⟩
theorem con_gen (T : Top qv loose3 mean mg mb h) {i : Nat} {x : Str} {ps rest : List Str} {b : List CStm} {l : List (List D → Option D)} (X : Cx prog w lv h (mkG l) ⟨ps ++ rest,fnsN,datsN⟩ (mkC l))
  (hall : (recs[i]?).map (fun d => (d.name,cSs 60 ⟨ps ++ rest,fnsN,datsN⟩ d.scope d.body,defOk ps d.scope,plainP d.params ps)) = some (x,some b,true,true)) (hr : ∀ y ∈ rest,y ∉ ps) (hb : BindOk ps) :
  ∀ a,mg x = some (.ref a) → Con prog w (lv + 1) h a (fun as => if ps.length = as.length then runC (mkC l) rest.length b as else none) := fun a ha => by
 obtain ⟨d,hd',he⟩ := Option.map_eq_some_iff.mp hall
 simp only [Prod.mk.injEq] at he
 obtain ⟨rfl,e2,e3,e4⟩ := he
 obtain ⟨fd,hat,pm,code,doc,rfl⟩ := def_of T hd' ha
 exact con_runC X e2 hr hat e3 fun vs hv s => BindsTo.of_eq (bind_plain hb e4 hv)
theorem con0 (T : Top qv loose3 mean mg mb h) (X : Cx prog w lv h (mkG l0) ⟨[("ch_a" : Str),("ch_b" : Str)] ++ [],fnsN,datsN⟩ (mkC l0)) : ∀ a,mg ("_substitution_cost" : Str) = some (.ref a) → Con prog w (lv + 1) h a f0 :=
 con_gen T (i := 0) X (by kernel_rfl) (by decide +kernel) bpch_a_ch_b
theorem con1 (T : Top qv loose3 mean mg mb h) (X : Cx prog w lv h (mkG l1) ⟨[("a" : Str),("b" : Str),("max_cost" : Str)] ++ [("pre" : Str),("post" : Str),("row" : Str),("result" : Str),("bindex" : Str),("bchar" : Str),("distance" : Str),("minimum" : Str),("index" : Str),("substitute" : Str),("insert_delete" : Str)],fnsN,datsN⟩ (mkC l1)) : ∀ a,mg ("_levenshtein_distance" : Str) = some (.ref a) → Con prog w (lv + 1) h a f1 :=
 con_gen T (i := 1) X (by kernel_rfl) (by decide +kernel) bpa_b_max_cost
theorem con2 (T : Top qv loose3 mean mg mb h) (X : Cx prog w lv h (mkG l2) ⟨[("flags" : Str)] ++ [("names" : Str),("i" : Str),("flag" : Str)],fnsN,datsN⟩ (mkC l2)) : ∀ a,mg ("pretty_flags" : Str) = some (.ref a) → Con prog w (lv + 1) h a f2 :=
 con_gen T (i := 2) X (by kernel_rfl) (by decide +kernel) bpflags
theorem con4 (T : Top qv loose3 mean mg mb h) (X : Cx prog w lv h (mkG l4) ⟨[("a" : Str),("b" : Str)] ++ [],fnsN,datsN⟩ (mkC l4)) : ∀ a,mg ("eq" : Str) = some (.ref a) → Con prog w (lv + 1) h a f4 :=
 con_gen T (i := 4) X (by kernel_rfl) (by decide +kernel) bpa_b
theorem con5 (T : Top qv loose3 mean mg mb h) (X : Cx prog w lv h (mkG l5) ⟨[("a" : Str),("b" : Str)] ++ [],fnsN,datsN⟩ (mkC l5)) : ∀ a,mg ("lshift" : Str) = some (.ref a) → Con prog w (lv + 1) h a f5 :=
 con_gen T (i := 5) X (by kernel_rfl) (by decide +kernel) bpa_b
theorem con6 (T : Top qv loose3 mean mg mb h) (X : Cx prog w lv h (mkG l6) ⟨[("a" : Str),("b" : Str)] ++ [],fnsN,datsN⟩ (mkC l6)) : ∀ a,mg ("or_" : Str) = some (.ref a) → Con prog w (lv + 1) h a f6 :=
 con_gen T (i := 6) X (by kernel_rfl) (by decide +kernel) bpa_b
theorem con7 (T : Top qv loose3 mean mg mb h) (X : Cx prog w lv h (mkG l7) ⟨[("a" : Str),("b" : Str)] ++ [("msg" : Str)],fnsN,datsN⟩ (mkC l7)) : ∀ a,mg ("concat" : Str) = some (.ref a) → Con prog w (lv + 1) h a f7 :=
 con_gen T (i := 7) X (by kernel_rfl) (by decide +kernel) bpa_b
theorem con9 (T : Top qv loose3 mean mg mb h) (X : Cx prog w lv h (mkG l9) ⟨[("a" : Str),("b" : Str)] ++ [],fnsN,datsN⟩ (mkC l9)) : ∀ a,mg ("getitem" : Str) = some (.ref a) → Con prog w (lv + 1) h a f9 :=
 con_gen T (i := 9) X (by kernel_rfl) (by decide +kernel) bpa_b
theorem con11 (T : Top qv loose3 mean mg mb h) (X : Cx prog w lv h (mkG l11) ⟨[("x" : Str)] ++ [],fnsN,datsN⟩ (mkC l11)) : ∀ a,mg ("ISTERMINAL" : Str) = some (.ref a) → Con prog w (lv + 1) h a f11 :=
 con_gen T (i := 11) X (by kernel_rfl) (by decide +kernel) bpx
theorem con12 (T : Top qv loose3 mean mg mb h) (X : Cx prog w lv h (mkG l12) ⟨[("x" : Str)] ++ [],fnsN,datsN⟩ (mkC l12)) : ∀ a,mg ("ISNONTERMINAL" : Str) = some (.ref a) → Con prog w (lv + 1) h a f12 :=
 con_gen T (i := 12) X (by kernel_rfl) (by decide +kernel) bpx
theorem con13 (T : Top qv loose3 mean mg mb h) (X : Cx prog w lv h (mkG l13) ⟨[("x" : Str)] ++ [],fnsN,datsN⟩ (mkC l13)) : ∀ a,mg ("ISEOF" : Str) = some (.ref a) → Con prog w (lv + 1) h a f13 :=
 con_gen T (i := 13) X (by kernel_rfl) (by decide +kernel) bpx
theorem con14 (T : Top qv loose3 mean mg mb h) (X : Cx prog w lv h (mkG l14) ⟨[("symbol" : Str)] ++ [],fnsN,datsN⟩ (mkC l14)) : ∀ a,mg ("_law_spelled" : Str) = some (.ref a) → Con prog w (lv + 1) h a f14 :=
 con_gen T (i := 14) X (by kernel_rfl) (by decide +kernel) bpsymbol
theorem con15 (T : Top qv loose3 mean mg mb h) (X : Cx prog w lv h (mkG l15) ⟨[("number" : Str)] ++ [],fnsN,datsN⟩ (mkC l15)) : ∀ a,mg ("_law_terminal" : Str) = some (.ref a) → Con prog w (lv + 1) h a f15 :=
 con_gen T (i := 15) X (by kernel_rfl) (by decide +kernel) bpnumber
theorem con16 (T : Top qv loose3 mean mg mb h) (X : Cx prog w lv h (mkG l16) ⟨[("numbers" : Str)] ++ [("rules" : Str),("sizes" : Str),("k" : Str),("other" : Str),("size" : Str)],fnsN,datsN⟩ (mkC l16)) : ∀ a,mg ("_law_rules" : Str) = some (.ref a) → Con prog w (lv + 1) h a f16 :=
 con_gen T (i := 16) X (by kernel_rfl) (by decide +kernel) bpnumbers
theorem con17 (T : Top qv loose3 mean mg mb h) (X : Cx prog w lv h (mkG l17) ⟨[("sign" : Str),("other" : Str)] ++ [],fnsN,datsN⟩ (mkC l17)) : ∀ a,mg ("_law_cost" : Str) = some (.ref a) → Con prog w (lv + 1) h a f17 :=
 con_gen T (i := 17) X (by kernel_rfl) (by decide +kernel) bpsign_other
theorem con18 (T : Top qv loose3 mean mg mb h) (X : Cx prog w lv h (mkG l18) ⟨[("sign" : Str),("part" : Str)] ++ [],fnsN,datsN⟩ (mkC l18)) : ∀ a,mg ("_law_stretch" : Str) = some (.ref a) → Con prog w (lv + 1) h a f18 :=
 con_gen T (i := 18) X (by kernel_rfl) (by decide +kernel) bpsign_part
theorem con19 (T : Top qv loose3 mean mg mb h) (X : Cx prog w lv h (mkG l19) ⟨[("sign" : Str),("word" : Str)] ++ [("marks" : Str)],fnsN,datsN⟩ (mkC l19)) : ∀ a,mg ("_law_leaf" : Str) = some (.ref a) → Con prog w (lv + 1) h a f19 :=
 con_gen T (i := 19) X (by kernel_rfl) (by decide +kernel) bpsign_word
theorem con20 (T : Top qv loose3 mean mg mb h) (X : Cx prog w lv h (mkG l20) ⟨[("left" : Str),("right" : Str)] ++ [("marks" : Str),("table" : Str),("i" : Str),("costs" : Str),("j" : Str)],fnsN,datsN⟩ (mkC l20)) : ∀ a,mg ("_law_join" : Str) = some (.ref a) → Con prog w (lv + 1) h a f20 :=
 con_gen T (i := 20) X (by kernel_rfl) (by decide +kernel) bpleft_right
theorem con21 (T : Top qv loose3 mean mg mb h) (X : Cx prog w lv h (mkG l21) ⟨[("rule" : Str),("word" : Str),("records" : Str)] ++ [("parts" : Str),("symbol" : Str),("whole" : Str),("part" : Str)],fnsN,datsN⟩ (mkC l21)) : ∀ a,mg ("_law_record" : Str) = some (.ref a) → Con prog w (lv + 1) h a f21 :=
 con_gen T (i := 21) X (by kernel_rfl) (by decide +kernel) bprule_word_records
theorem con22 (T : Top qv loose3 mean mg mb h) (X : Cx prog w lv h (mkG l22) ⟨[("number" : Str),("ahead" : Str),("mark" : Str)] ++ [("octets" : Str)],fnsN,datsN⟩ (mkC l22)) : ∀ a,mg ("_law_octets" : Str) = some (.ref a) → Con prog w (lv + 1) h a f22 :=
 con_gen T (i := 22) X (by kernel_rfl) (by decide +kernel) bpnumber_ahead_mark
theorem con24 (T : Top qv loose3 mean mg mb h) (X : Cx prog w lv h (mkG l24) ⟨[("number" : Str)] ++ [],fnsN,datsN⟩ (mkC l24)) : ∀ a,mg ("_law_kind_fits" : Str) = some (.ref a) → Con prog w (lv + 1) h a f24 :=
 con_gen T (i := 24) X (by kernel_rfl) (by decide +kernel) bpnumber
theorem con26 (T : Top qv loose3 mean mg mb h) (X : Cx prog w lv h (mkG l26) ⟨[("places" : Str)] ++ [("named" : Str),("words" : Str)],fnsN,datsN⟩ (mkC l26)) : ∀ a,mg ("_law_words" : Str) = some (.ref a) → Con prog w (lv + 1) h a f26 :=
 con_gen T (i := 26) X (by kernel_rfl) (by decide +kernel) bpplaces
theorem con28 (T : Top qv loose3 mean mg mb h) (X : Cx prog w lv h (mkG l28) ⟨[("text" : Str),("word" : Str),("table" : Str)] ++ [("i" : Str),("j" : Str),("due" : Str)],fnsN,datsN⟩ (mkC l28)) : ∀ a,mg ("_law_stretches_fit" : Str) = some (.ref a) → Con prog w (lv + 1) h a f28 :=
 con_gen T (i := 28) X (by kernel_rfl) (by decide +kernel) bptext_word_table
end
noncomputable def sig4 (d : DefRec) : Str × Arguments × List Stmt × Scope := (d.name,d.params,d.body,d.scope)
section
variable {prog : Program} {w : World} {h : Heap} {mg mb : Str → Option Value} {mean : ExcName → Option Value} {lv : Nat}
theorem def_sig (T : Top qv loose3 mean mg mb h) {i : Nat} {x : Str} {p : Arguments} {body : List Stmt} {sc : Scope} (hs : (recs[i]?).map sig4 = some (x,p,body,sc)) {a : Addr} (ha : mg x = some (.ref a)) {ps : List Str} (hp : plainP p ps = true) (hb : BindOk ps) :
  ∃ fd,DefAt h a fd body sc ∧ ∀ vs : List Value,vs.length = ps.length → ∀ s,BindsTo s fd ⟨vs,[]⟩ (ps.zip vs) := by
 obtain ⟨d,hd',he⟩ := Option.map_eq_some_iff.mp hs
 simp only [sig4,Prod.mk.injEq] at he
 obtain ⟨rfl,rfl,rfl,rfl⟩ := he
 obtain ⟨fd,hat,pm,code,doc,rfl⟩ := def_of T hd' ha
 exact ⟨_,hat,fun vs hv s => BindsTo.of_eq (bind_plain hb hp hv)⟩
theorem pv_def (T : Top qv loose3 mean mg mb h) {a : Addr} (ha : mg ("_parse_varint" : Str) = some (.ref a)) : PvDef 60 h fnsN datsN a := by
 obtain ⟨fd,hat,hb⟩ := def_sig (i := 3) (x := ("_parse_varint" : Str)) (body := [.Assign [.Name "b" _] (.Call (.Name "next" _) [.Name "iterator" _] [] _) _,_,.While _ [_,.Assign [.Name "b" _] (.Call (.Name "next" _) [.Name "iterator" _] [] _) _,_] [] _,.Return (some _) _]) T rfl ha (by decide +kernel) bpiterator
 exact ⟨fd,_,_,_,_,_,_,_,_,_,_,_,_,_,_,_,_,_,_,hat,⟨rfl,by decide +kernel,by decide +kernel,by decide +kernel,by kernel_rfl,by kernel_rfl,by kernel_rfl,by kernel_rfl,by kernel_rfl⟩,by decide +kernel,by decide +kernel,hb⟩
theorem co_def (T : Top qv loose3 mean mg mb h) {a : Addr} (ha : mg ("countOf" : Str) = some (.ref a)) : CoDef 60 h fnsN datsN a := by
 obtain ⟨fd,hat,hb⟩ := def_sig (i := 8) (x := ("countOf" : Str)) (body := [_,.For (.Name "i" _) _ [.If (.BoolOp .Or [.Compare (.Name "i" _) [.Is] [.Name "b" _] _,.Compare (.Name "i" _) [.Eq] [.Name "b" _] _] _) [_] [] _] [] _,.Return (some _) _]) T rfl ha (by decide +kernel) bpa_b
 exact ⟨fd,_,_,_,_,_,_,_,_,_,_,_,_,_,_,_,_,hat,by decide +kernel,by decide +kernel,by decide +kernel,by decide +kernel,by rfl,by kernel_rfl,by kernel_rfl,by kernel_rfl,by kernel_rfl,by decide +kernel,hb⟩
theorem ix_def (T : Top qv loose3 mean mg mb h) {a : Addr} (ha : mg ("indexOf" : Str) = some (.ref a)) : IxDef h a := by
 obtain ⟨fd,hat,hb⟩ := def_sig (i := 10) (x := ("indexOf" : Str)) (body := [.For (.Tuple [.Name "i" _,.Name "j" _] _ _) (.Call (.Name "enumerate" _) [.Name "a" _] [] _)
   [.If (.BoolOp .Or [.Compare (.Name "j" _) [.Is] [.Name "b" _] _,.Compare (.Name "j" _) [.Eq] [.Name "b" _] _] _) [.Return (some (.Name "i" _)) _] [] _]
   [.Raise (some (.Call (.Name "ValueError" _) [.Constant (.str _) _ _] [] _)) none _] _]) T rfl ha (by decide +kernel) bpa_b
 exact ⟨fd,_,_,_,_,_,_,_,_,_,_,_,_,_,_,_,_,_,_,_,_,_,_,_,_,_,hat,by decide +kernel,by decide +kernel,by decide +kernel,by decide +kernel,by decide +kernel,by decide +kernel,by decide +kernel,hb⟩
theorem rd_def (T : Top qv loose3 mean mg mb h) {a : Addr} (ha : mg ("_law_read" : Str) = some (.ref a)) : RdDef 60 h fnsN datsN a := by
 obtain ⟨fd,hat,hb⟩ := def_sig (i := 23) (x := ("_law_read" : Str)) (body := [.Assign [.Name "source" _] (.Call (.Name "iter" _) [.Name "octets" _] [] _) _,_,
   .While _ [.Try [.Expr (.Call (.Attribute (.Name "told" _) "append" _) [.Call (.Name "_parse_varint" _) [.Name "source" _] [] _] [] _) _] [.ExceptHandler (some (.Name "StopIteration" _)) none [.Return (some (.Name "told" _)) _] _] [] [] _] [] _]) T rfl ha (by decide +kernel) bpoctets
 exact ⟨fd,_,_,_,_,_,_,_,_,_,_,_,_,_,_,_,_,_,_,_,_,_,hat,by decide +kernel,⟨rfl,by decide +kernel,by decide +kernel,by decide +kernel,by decide +kernel,by decide +kernel,by decide +kernel,by kernel_rfl,by kernel_rfl⟩,by decide +kernel,by decide +kernel,hb⟩
theorem un_def (T : Top qv loose3 mean mg mb h) {a : Addr} (ha : mg ("_law_unpacked" : Str) = some (.ref a)) : UnDef 60 h fnsN datsN bd25t a := by
 obtain ⟨fd,hat,hb⟩ := def_sig (i := 25) (x := ("_law_unpacked" : Str)) (body := [.Assign [.Name "signs" _] (.DictComp (.Subscript (.Name "EXACT_TOKEN_TYPES" _) (.Name "sign" _) _) (.Name "sign" _) [⟨.Name "sign" _,.Name "EXACT_TOKEN_TYPES" _,[],0⟩] _ _) _,_,_,_,_]) T rfl ha (by decide +kernel) bptold
 exact ⟨fd,_,_,_,_,_,_,_,_,_,_,_,_,_,_,_,hat,by decide +kernel,by decide +kernel,by decide +kernel,by rfl,by decide +kernel,by decide +kernel,by decide +kernel,by decide +kernel,by decide +kernel,by kernel_rfl,by decide +kernel,hb⟩
noncomputable def bsfPre : List CStm := bd27.take 3
noncomputable def sfT1 : CT := .cmp .NotEq (.call 2 [(.var 6)]) (.call 26 [(.comp [3] 2 (.bin .Add (.var 2) (.var 0)) (.expr 2 (.var 5) []) [])])
noncomputable def sfLast : CStm := .ret (.cmp .Eq (.slice (.var 5) (.const .nil) (.const (.int (1)))) (.list [(.var 7)]))
theorem sf_def (T : Top qv loose3 mean mg mb h) {a : Addr} (ha : mg ("_law_sign_fits" : Str) = some (.ref a)) : SfDef 60 h fnsN datsN bsfPre sfT1 sfLast a := by
 obtain ⟨fd,hat,hb⟩ := def_sig (i := 27) (x := ("_law_sign_fits" : Str)) (body := [_,_,_,.If (.BoolOp .Or [.Compare _ [.NotEq] [_] _,.Compare (.Call (.Name "countOf" _) [.Name "text" _,.Name "sign" _] [] _) [.NotEq] [_] _] _) [.Return (some _) _] [] _,
   .Try [.Assign [.Name "first" _] (.Call (.Name "indexOf" _) [.Name "text" _,.Name "sign" _] [] _) _] [.ExceptHandler (some (.Name "ValueError" _)) none [.Return (some (.Compare (.Name "places" _) [.Eq] [.List [] _] _)) _] _] [] [] _,_]) T rfl ha (by decide +kernel) bptext_sign_marks_shift
 exact ⟨fd,_,_,_,_,_,_,_,_,_,_,_,_,_,_,_,_,_,_,_,_,_,_,_,_,_,_,_,_,_,_,_,hat,by decide +kernel,by decide +kernel,by decide +kernel,by decide +kernel,by decide +kernel,by decide +kernel,by decide +kernel,by rfl,by kernel_rfl,by kernel_rfl,by kernel_rfl,by kernel_rfl,by decide +kernel,hb⟩
end
section
variable {prog : Program} {w : World} {h : Heap} {mg mb : Str → Option Value} {mean : ExcName → Option Value} {lv : Nat}
theorem hint_def (X : (KM w.params).In h) : ∃ fd body scope t,DefAt h 100 fd body scope ∧ cSs 60 ⟨[("obj" : Str),("default" : Str)] ++ [("msg" : Str),("hint" : Str),("val" : Str)],fnsN,datsN⟩ scope body = some bdLH ∧ defOk [("obj" : Str),("default" : Str)] scope = true ∧
  ∀ v s,Le h s.heap → BindsTo s fd ⟨[v],[]⟩ ([("obj" : Str),("default" : Str)].zip [v,.int 0 t]) := by
 refine ⟨_,_,_,_,⟨⟨_,X 100 _ rfl,rfl⟩,⟨_,_,_,_,rfl,X _ _ rfl,rfl,rfl⟩,rfl,rfl,rfl,rfl,rfl⟩,by kernel_rfl,by kernel_rfl,fun v s hle => BindsTo.of_defaults rfl (hle _ _ (X _ _ rfl)) rfl rfl rfl⟩
theorem hint_con (X : (KM w.params).In h) (G : h.Ns mainGlobals mg) {G0 : GE} (Z : Cx prog w lv h G0 ⟨[("obj" : Str),("default" : Str)] ++ [("msg" : Str),("hint" : Str),("val" : Str)],fnsN,datsN⟩ cLH) : ∀ a,mg ("length_hint" : Str) = some (.ref a) → Con prog w (lv + 1) h a fLH := fun a ha => by
 rw [mg_hint X G] at ha
 cases ha
 obtain ⟨fd,body,scope,t,hat,hc,hok,hb⟩ := hint_def (h := h) X
 intro A s B vs ds d o xs e Q E hQ
 unfold fLH at e
 split at e
 ·rename_i d0
  obtain ⟨v,r,rfl,hv,rfl⟩ := xs
  refine def_call (ps := [("obj" : Str),("default" : Str)]) (vs := [v,.int 0 t]) (ds := [d0,.int 0]) hat Z.g.nolimit hok (hb v s o.le) o ⟨v,_,rfl,hv,_,_,rfl,⟨t,rfl⟩,rfl⟩ fun A' env s₁ hA eo hle fs _ hs1 _ => ?_
  exact run_body (as := [d0,.int 0]) Z hc (zip_rel rfl (by decide +kernel)) e eo fs fun fl s' ow' σ' fs' t xv => hQ _ s' (leave_kp hs1 hle fs t) (Den.of_el (out_el xv))
 ·cases e
theorem cx_lh (Z : Bse prog w h mg mb) (ns : List Str) : Cx prog w lv h ⟨fnsN.zip cLH.fn,datsN.zip datsD⟩ ⟨ns,fnsN,datsN⟩ cLH := by
 have hlen : fnsN.length = cLH.fn.length := rfl
 have h2 : datsN.length = datsD.length := rfl
 refine ⟨⟨⟨mg,mb,Z.g,Z.b,fun x F hF => ?_,fun x d hd => ?_,Z.fns,Z.tys⟩,Z.nolimit⟩,fun x F hF => ?_,?_,⟨fun x => (zip_lookup hlen).1,fun x => (zip_lookup hlen).2,fun x => (zip_lookup h2).1,fun x => (zip_lookup h2).2⟩⟩
 ·have hF' : (fnsN.zip cLH.fn).lookup x = some F := hF
  rw [(zip_lookup hlen).1] at hF'
  obtain ⟨i,hi,hFi⟩ := Option.bind_eq_some_iff.mp hF'
  obtain ⟨a,o,fd,h1,h2,h3⟩ := Z.fn i x (idx_get hi)
  refine ⟨a,o,fd,h1,h2,h3,?_⟩
  have hFi' : (List.replicate 31 noF)[i]? = some F := hFi
  rw [List.getElem?_replicate] at hFi'
  split at hFi'
  ·cases hFi'; exact con_none
  ·cases hFi'
 ·have hd' : (datsN.zip datsD).lookup x = some d := hd
  rw [(zip_lookup (show datsN.length = datsD.length from rfl)).1] at hd'
  obtain ⟨i,hi,hdi⟩ := Option.bind_eq_some_iff.mp hd'
  exact Z.dat i x d (idx_get hi) hdi
 ·have hF' : (fnsN.zip cLH.fn).lookup x = some F := hF
  have := (List.of_mem_zip (mem_of_lookup hF')).1
  have hall : ∀ x ∈ fnsN,(x == ("__debug__" : Str)) = false := by decide +kernel
  exact hall x this
 ·have := (zip_lookup (x := ("list" : Str)) hlen).1
  have h0 : idx ("list" : Str) fnsN = none := by decide +kernel
  rw [h0] at this
  exact this
theorem bse (T : Top qv loose3 mean mg mb h) (X : (KM w.params).In h) : Bse PySem.Challenge.rw_ta0062_01.row.prog w h mg mb := by
 obtain ⟨f1,f2⟩ := base_fn T
 obtain ⟨⟨t0,c0⟩,⟨t1,c1⟩,⟨t2,c2⟩,⟨t3,c3⟩,⟨t4,c4⟩⟩ := consts T
 obtain ⟨kvs,hd5,htv⟩ := flag_dict (w := w) (h := h) X
 refine ⟨T.g,T.b,T.nolimit,f1,f2,fun i x d hx hd' => ?_,fun i x hx => ?_⟩
 ·match i,hx,hd' with
  | 0,hx,hd' => cases hx; cases hd'; exact ⟨_,c0,t0,rfl⟩
  | 1,hx,hd' => cases hx; cases hd'; exact ⟨_,c1,t1,rfl⟩
  | 2,hx,hd' => cases hx; cases hd'; exact ⟨_,c2,t2,rfl⟩
  | 3,hx,hd' => cases hx; cases hd'; exact ⟨_,c3,t3,rfl⟩
  | 4,hx,hd' => cases hx; cases hd'; exact ⟨_,c4,t4,rfl⟩
  | 5,hx,hd' => cases hx; cases hd'; exact ⟨_,mg_flag X T.g,29,kvs,rfl,fun hf => hf,by decide,hd5,htv⟩
  | n + 6,hx,hd' => cases hx
 ·rcases Nat.lt_or_ge i 30 with hi | hi
  ·have hall : ∀ i : Fin 30,(recs[i.val]?).map (·.name) = fnsN[i.val]? := by decide +kernel
   have := hall ⟨i,hi⟩
   rw [hx] at this
   obtain ⟨d,hd1,hd2⟩ := Option.map_eq_some_iff.mp this
   obtain ⟨a,o,pm,code,doc,h1,h2,h3,h4⟩ := T.fn d (by rw [recs_eq]; exact List.mem_of_getElem? hd1)
   exact ⟨a,o,_,by rw [← hd2]; exact h1,h2,h3⟩
  ·have hi30 : i = 30 := by
    have := (List.getElem?_eq_some_iff.mp hx).1
    have h31 : fnsN.length = 31 := rfl
    lia
   subst hi30
   cases hx
   obtain ⟨fd,body,scope,t,hat,_⟩ := hint_def (h := h) X
   obtain ⟨o,ho,hdat⟩ := hat.ob
   exact ⟨100,o,fd,mg_hint X T.g,ho,hdat⟩
end
section
variable {w : World} {h : Heap} {mg mb : Str → Option Value} {mean : ExcName → Option Value}
theorem tab_at (T : Top qv loose3 mean mg mb h) (X : (KM w.params).In h) : TabAt PySem.Challenge.rw_ta0062_01.row.prog w h exactTab := by
 obtain ⟨kvs,n,h1,h2⟩ := exact_dict (w := w) (h := h) X
 exact ⟨by decide +kernel,by decide +kernel,⟨mg,101,n,kvs,T.g,mg_exact X T.g,by decide,h1,h2⟩,by decide +kernel,sys_alive T⟩
theorem lh_con (T : Top qv loose3 mean mg mb h) (X : (KM w.params).In h) (lv : Nat) : ∀ a,mg ("length_hint" : Str) = some (.ref a) → Con PySem.Challenge.rw_ta0062_01.row.prog w (lv + 1) h a fLH := hint_con X T.g (cx_lh (bse T X) _)
theorem k0 : Known PySem.Challenge.rw_ta0062_01.row.prog w h mg 1 l0 := fun i F x a h1 _ _ => by cases i <;> cases h1
theorem k1 (T : Top qv loose3 mean mg mb h) (X : (KM w.params).In h) : Known PySem.Challenge.rw_ta0062_01.row.prog w h mg 2 l1 :=
 Known.snoc (l := l0) k0 (x := "_substitution_cost") rfl (con0 T (cx_of (bse T X) (by decide) k0 (lh_con T X 0) _))
theorem k2 (T : Top qv loose3 mean mg mb h) (X : (KM w.params).In h) : Known PySem.Challenge.rw_ta0062_01.row.prog w h mg 3 l2 :=
 Known.snoc (l := l1) (k1 T X) (x := "_levenshtein_distance") rfl (con1 T (cx_of (bse T X) (by decide) (k1 T X) (lh_con T X 1) _))
theorem k3 (T : Top qv loose3 mean mg mb h) (X : (KM w.params).In h) : Known PySem.Challenge.rw_ta0062_01.row.prog w h mg 4 l3 :=
 Known.snoc (l := l2) (k2 T X) (x := "pretty_flags") rfl (con2 T (cx_of (bse T X) (by decide) (k2 T X) (lh_con T X 2) _))
theorem k4 (T : Top qv loose3 mean mg mb h) (X : (KM w.params).In h) : Known PySem.Challenge.rw_ta0062_01.row.prog w h mg 5 l4 :=
 Known.snoc (l := l3) (k3 T X) (x := "_parse_varint") rfl (fun a _ => con_none)
theorem k5 (T : Top qv loose3 mean mg mb h) (X : (KM w.params).In h) : Known PySem.Challenge.rw_ta0062_01.row.prog w h mg 6 l5 :=
 Known.snoc (l := l4) (k4 T X) (x := "eq") rfl (con4 T (cx_of (bse T X) (by decide) (k4 T X) (lh_con T X 4) _))
theorem k6 (T : Top qv loose3 mean mg mb h) (X : (KM w.params).In h) : Known PySem.Challenge.rw_ta0062_01.row.prog w h mg 7 l6 :=
 Known.snoc (l := l5) (k5 T X) (x := "lshift") rfl (con5 T (cx_of (bse T X) (by decide) (k5 T X) (lh_con T X 5) _))
theorem k7 (T : Top qv loose3 mean mg mb h) (X : (KM w.params).In h) : Known PySem.Challenge.rw_ta0062_01.row.prog w h mg 8 l7 :=
 Known.snoc (l := l6) (k6 T X) (x := "or_") rfl (con6 T (cx_of (bse T X) (by decide) (k6 T X) (lh_con T X 6) _))
theorem k8 (T : Top qv loose3 mean mg mb h) (X : (KM w.params).In h) : Known PySem.Challenge.rw_ta0062_01.row.prog w h mg 9 l8 :=
 Known.snoc (l := l7) (k7 T X) (x := "concat") rfl (con7 T (cx_of (bse T X) (by decide) (k7 T X) (lh_con T X 7) _))
theorem k9 (T : Top qv loose3 mean mg mb h) (X : (KM w.params).In h) : Known PySem.Challenge.rw_ta0062_01.row.prog w h mg 10 l9 :=
 Known.snoc (l := l8) (k8 T X) (x := "countOf") rfl (fun a _ => con_none)
theorem k10 (T : Top qv loose3 mean mg mb h) (X : (KM w.params).In h) : Known PySem.Challenge.rw_ta0062_01.row.prog w h mg 11 l10 :=
 Known.snoc (l := l9) (k9 T X) (x := "getitem") rfl (con9 T (cx_of (bse T X) (by decide) (k9 T X) (lh_con T X 9) _))
theorem k11 (T : Top qv loose3 mean mg mb h) (X : (KM w.params).In h) : Known PySem.Challenge.rw_ta0062_01.row.prog w h mg 12 l11 :=
 Known.snoc (l := l10) (k10 T X) (x := "indexOf") rfl (fun a _ => con_none)
theorem k12 (T : Top qv loose3 mean mg mb h) (X : (KM w.params).In h) : Known PySem.Challenge.rw_ta0062_01.row.prog w h mg 13 l12 :=
 Known.snoc (l := l11) (k11 T X) (x := "ISTERMINAL") rfl (con11 T (cx_of (bse T X) (by decide) (k11 T X) (lh_con T X 11) _))
theorem k13 (T : Top qv loose3 mean mg mb h) (X : (KM w.params).In h) : Known PySem.Challenge.rw_ta0062_01.row.prog w h mg 14 l13 :=
 Known.snoc (l := l12) (k12 T X) (x := "ISNONTERMINAL") rfl (con12 T (cx_of (bse T X) (by decide) (k12 T X) (lh_con T X 12) _))
theorem k14 (T : Top qv loose3 mean mg mb h) (X : (KM w.params).In h) : Known PySem.Challenge.rw_ta0062_01.row.prog w h mg 15 l14 :=
 Known.snoc (l := l13) (k13 T X) (x := "ISEOF") rfl (con13 T (cx_of (bse T X) (by decide) (k13 T X) (lh_con T X 13) _))
theorem k15 (T : Top qv loose3 mean mg mb h) (X : (KM w.params).In h) : Known PySem.Challenge.rw_ta0062_01.row.prog w h mg 16 l15 :=
 Known.snoc (l := l14) (k14 T X) (x := "_law_spelled") rfl (con14 T (cx_of (bse T X) (by decide) (k14 T X) (lh_con T X 14) _))
theorem k16 (T : Top qv loose3 mean mg mb h) (X : (KM w.params).In h) : Known PySem.Challenge.rw_ta0062_01.row.prog w h mg 17 l16 :=
 Known.snoc (l := l15) (k15 T X) (x := "_law_terminal") rfl (con15 T (cx_of (bse T X) (by decide) (k15 T X) (lh_con T X 15) _))
theorem k17 (T : Top qv loose3 mean mg mb h) (X : (KM w.params).In h) : Known PySem.Challenge.rw_ta0062_01.row.prog w h mg 18 l17 :=
 Known.snoc (l := l16) (k16 T X) (x := "_law_rules") rfl (con16 T (cx_of (bse T X) (by decide) (k16 T X) (lh_con T X 16) _))
theorem k18 (T : Top qv loose3 mean mg mb h) (X : (KM w.params).In h) : Known PySem.Challenge.rw_ta0062_01.row.prog w h mg 19 l18 :=
 Known.snoc (l := l17) (k17 T X) (x := "_law_cost") rfl (con17 T (cx_of (bse T X) (by decide) (k17 T X) (lh_con T X 17) _))
theorem k19 (T : Top qv loose3 mean mg mb h) (X : (KM w.params).In h) : Known PySem.Challenge.rw_ta0062_01.row.prog w h mg 20 l19 :=
 Known.snoc (l := l18) (k18 T X) (x := "_law_stretch") rfl (con18 T (cx_of (bse T X) (by decide) (k18 T X) (lh_con T X 18) _))
theorem k20 (T : Top qv loose3 mean mg mb h) (X : (KM w.params).In h) : Known PySem.Challenge.rw_ta0062_01.row.prog w h mg 21 l20 :=
 Known.snoc (l := l19) (k19 T X) (x := "_law_leaf") rfl (con19 T (cx_of (bse T X) (by decide) (k19 T X) (lh_con T X 19) _))
theorem k21 (T : Top qv loose3 mean mg mb h) (X : (KM w.params).In h) : Known PySem.Challenge.rw_ta0062_01.row.prog w h mg 22 l21 :=
 Known.snoc (l := l20) (k20 T X) (x := "_law_join") rfl (con20 T (cx_of (bse T X) (by decide) (k20 T X) (lh_con T X 20) _))
theorem k22 (T : Top qv loose3 mean mg mb h) (X : (KM w.params).In h) : Known PySem.Challenge.rw_ta0062_01.row.prog w h mg 23 l22 :=
 Known.snoc (l := l21) (k21 T X) (x := "_law_record") rfl (con21 T (cx_of (bse T X) (by decide) (k21 T X) (lh_con T X 21) _))
theorem k23 (T : Top qv loose3 mean mg mb h) (X : (KM w.params).In h) : Known PySem.Challenge.rw_ta0062_01.row.prog w h mg 24 l23 :=
 Known.snoc (l := l22) (k22 T X) (x := "_law_octets") rfl (con22 T (cx_of (bse T X) (by decide) (k22 T X) (lh_con T X 22) _))
theorem k24 (T : Top qv loose3 mean mg mb h) (X : (KM w.params).In h) : Known PySem.Challenge.rw_ta0062_01.row.prog w h mg 25 l24 :=
 Known.snoc (l := l23) (k23 T X) (x := "_law_read") rfl (fun a _ => con_none)
theorem k25 (T : Top qv loose3 mean mg mb h) (X : (KM w.params).In h) : Known PySem.Challenge.rw_ta0062_01.row.prog w h mg 26 l25 :=
 Known.snoc (l := l24) (k24 T X) (x := "_law_kind_fits") rfl (con24 T (cx_of (bse T X) (by decide) (k24 T X) (lh_con T X 24) _))
theorem k26 (T : Top qv loose3 mean mg mb h) (X : (KM w.params).In h) : Known PySem.Challenge.rw_ta0062_01.row.prog w h mg 27 l26 :=
 Known.snoc (l := l25) (k25 T X) (x := "_law_unpacked") rfl (fun a ha => un_con (cx_of (bse T X) (by decide) (k25 T X) (lh_con T X 25) _) (tab_at T X) (un_def T ha))
theorem k27 (T : Top qv loose3 mean mg mb h) (X : (KM w.params).In h) : Known PySem.Challenge.rw_ta0062_01.row.prog w h mg 28 l27 :=
 Known.snoc (l := l26) (k26 T X) (x := "_law_words") rfl (con26 T (cx_of (bse T X) (by decide) (k26 T X) (lh_con T X 26) _))
theorem k28 (T : Top qv loose3 mean mg mb h) (X : (KM w.params).In h) : Known PySem.Challenge.rw_ta0062_01.row.prog w h mg 29 l28 :=
 Known.snoc (l := l27) (k27 T X) (x := "_law_sign_fits") rfl (fun a _ => con_none)
theorem k29 (T : Top qv loose3 mean mg mb h) (X : (KM w.params).In h) : Known PySem.Challenge.rw_ta0062_01.row.prog w h mg 30 l29 :=
 Known.snoc (l := l28) (k28 T X) (x := "_law_stretches_fit") rfl (con28 T (cx_of (bse T X) (by decide) (k28 T X) (lh_con T X 28) _))
end
noncomputable def bdA : List CStm := bd29.take 10
noncomputable def bdB : List CStm := (bd29.drop 11).take 5
noncomputable def bdZ : List CStm := bd29.drop 17
noncomputable def ce3 : CE := .subs (.subs (.subs (.var 5) (.const (.int (4)))) (.const (.int (1)))) (.var 7)
inductive LawOk (script : List Int) : Prop
 | mk (ρA ρB ρZ : Rho) (oct row : List Int) (k : Nat) (tx : List D) (l wd : List Nat) (sh : Int) (mk : Nat → Int) (c : Nat → Nat)
  (_ : xsC (mkC l29) bdA (some (.list (script.map D.int)) :: List.replicate 11 none) = some (.next,ρA)) (_ : ρA[8]?.join = some (.own (oct.map D.int))) (_ : readL k oct = some row) (_ : fits row.length = true)
  (_ : xsC (mkC l29) bdB (ρA.set 9 (some (.list (row.map D.int)))) = some (.next,ρB)) (_ : ρB[10]?.join = some (.list tx)) (_ : ρB[4]?.join = some (.str wd)) (_ : ρB[11]?.join = some (.int sh)) (_ : tx[4]? = some (.str l)) (_ : wd.length = 3) (_ : ∀ k,k < 3 → wd[k]? = some (c k))
  (_ : ∀ k : Nat,k < 3 → evC (mkC l29) (viewC (ρB.set 7 (some (.int k)))) ce3 = some (.int (mk k))) (_ : ∀ k,k < 3 → SfFits (mkC l29) bsfPre sfT1 sfLast l (c k) (mk k) sh)
  (_ : xsC (mkC l29) bdZ (ρB.set 7 (some (.int 2))) = some (.ret (.bool true),ρZ)) : LawOk script
noncomputable abbrev lawRest : List Str := [("numbers" : Str),("rules" : Str),("pool" : Str),("word" : Str),("records" : Str),("row" : Str),("k" : Str),("octets" : Str),("told" : Str),("texts" : Str),("shift" : Str)]
noncomputable abbrev Nlaw : Names := ⟨[("script" : Str)] ++ lawRest,fnsN,datsN⟩
inductive LawDef (scope : Scope) : List Stmt → Prop
 | mk (s0 s1 s2 s3 s4 s5 s6 s7 s8 s9 t0 t1 t2 t3 t4 last : Stmt) (e3 e4 ef : Expr) (kq kk : Nat) (p1 p2 p3 p4 p5 z0 z1 z2 z3 z4 q1 q2 q3 q4 q5 q6 q7 q8 q9 q10 q11 q12 q13 : Pos)
  (_ : cSs 60 Nlaw scope [s0,s1,s2,s3,s4,s5,s6,s7,s8,s9] = some bdA) (_ : cSs 60 Nlaw scope [t0,t1,t2,t3,t4] = some bdB) (_ : cSs 60 Nlaw scope [last] = some bdZ) (_ : cE 60 Nlaw scope (.Subscript e3 e4 q8) = some ce3)
  (_ : ∀ x ∈ [("texts" : Str),("word" : Str),("k" : Str),("shift" : Str),("told" : Str),("octets" : Str)],isHeld (scope.names.lookup x) = true) (_ : isGlob scope "_law_sign_fits" = true) (_ : isGlob scope "_law_read" = true) (_ : Nlaw.built scope "range" = true) (_ : defOk [("script" : Str)] scope = true) :
  LawDef scope [s0,s1,s2,s3,s4,s5,s6,s7,s8,s9,.Assign [.Name "told" p1] (.Call (.Name "_law_read" p2) [.Name "octets" p3] [] p4) p5,t0,t1,t2,t3,t4,
   .For (.Name "k" z0) (.Call (.Name "range" z1) [.Constant (.int 3) kq z2] [] z3) [.If (.UnaryOp .Not (.Call (.Name "_law_sign_fits" q1) [.Subscript (.Name "texts" q2) (.Constant (.int 4) kk q3) q4,.Subscript (.Name "word" q5) (.Name "k" q6) q7,.Subscript e3 e4 q8,.Name "shift" q9] [] q10) q11) [.Return (some ef) q12] [] q13] [] z4,last]
theorem shape29 {x : Str} {p : Arguments} {body : List Stmt} {scope : Scope} (hs : (recs[29]?).map sig4 = some (x,p,body,scope)) : LawDef scope body := by
 have hs' : some (("law" : Str),_,[_,_,_,_,_,_,_,_,_,_,.Assign [.Name "told" _] (.Call (.Name "_law_read" _) [.Name "octets" _] [] _) _,_,_,_,_,_,
   .For (.Name "k" _) (.Call (.Name "range" _) [.Constant (.int 3) _ _] [] _) [.If (.UnaryOp .Not (.Call (.Name "_law_sign_fits" _) [.Subscript (.Name "texts" _) (.Constant (.int 4) _ _) _,.Subscript (.Name "word" _) (.Name "k" _) _,.Subscript _ _ _,.Name "shift" _] [] _) _) [.Return (some _) _] [] _] [] _,_],_) = some (x,p,body,scope) := hs
 cases hs'
 exact ⟨_,_,_,_,_,_,_,_,_,_,_,_,_,_,_,_,_,_,_,_,_,_,_,_,_,_,_,_,_,_,_,_,_,_,_,_,_,_,_,_,_,_,_,_,by kernel_rfl,by kernel_rfl,by kernel_rfl,by kernel_rfl,by decide +kernel,by decide +kernel,by decide +kernel,by decide +kernel,by decide +kernel⟩
theorem law_walk {w : World} {h : Heap} {mg mb : Str → Option Value} {mean : ExcName → Option Value} (T : Top qv loose3 mean mg mb h) (X : (KM w.params).In h) {x : Str} {p : Arguments} {body : List Stmt} {scope : Scope} (hs : (recs[29]?).map sig4 = some (x,p,body,scope))
  {script : List Int} (ok : LawOk script) {A : Around} {env : Env} {hb : Heap} {B : Addr → Prop} {s : Shared} (L : LawFr A env h) (eo : EnvOK env scope)
  (fs : FS PySem.Challenge.rw_ta0062_01.row.prog w 32 h hb B env scope A (fun _ => False) (fun _ => none) ([("script" : Str)].zip [.list (script.map D.int)]) s) {Q : Flow → Shared → Prop} {E : Value → Shared → Prop}
  (hQ : ∀ h' tk,Le hb h' → Q (.ret (.bool true)) { s with heap := h',toks := tk }) : wpAny (model PySem.Challenge.rw_ta0062_01.row.prog w) A (execs body env) Q E s := by
 obtain ⟨s0,s1,s2,s3,s4,s5,s6,s7,s8,s9,t0,t1,t2,t3,t4,last,e3,e4,ef,kq,kk,p1,p2,p3,p4,p5,z0,z1,z2,z3,z4,q1,q2,q3,q4,q5,q6,q7,q8,q9,q10,q11,q12,q13,cA,cB,cZ,c3,hheld,g1,g2,g3,hok⟩ := shape29 hs
 obtain ⟨ρA,ρB,ρZ,oct,row,k,tx,l,wd,sh,mk,c,x1,x2,x3,x4,x5,x6,x7,x8,x9,x10,x11,x12,x13,x14⟩ := ok
 have K : Known PySem.Challenge.rw_ta0062_01.row.prog w h mg 30 l29 := k29 T X
 have cx : ∀ lv ns,30 ≤ lv → Cx PySem.Challenge.rw_ta0062_01.row.prog w lv h (mkG l29) ⟨ns,fnsN,datsN⟩ (mkC l29) := fun lv ns hl => by
  obtain ⟨m,rfl⟩ : ∃ m,lv = m + 1 := ⟨lv - 1,by lia⟩
  exact cx_of (bse T X) (by decide) (K.up hl) (lh_con T X m) ns
 have Z := bse T X (w := w)
 have at_ : ∀ (i : Nat) (x : Str) (P : Addr → Prop),fnsN[i]? = some x → (∀ a,mg x = some (.ref a) → P a) → FnAt h x P := fun i x P hx hP => by
  obtain ⟨a,o,fd,h1,h2,h3⟩ := Z.fn i x hx
  exact ⟨mg,a,o,fd,T.g,h1,h2,h3,hP a h1⟩
 have PA : PvAt 60 h fnsN datsN := by
  obtain ⟨a,o,fd,h1,h2,h3⟩ := Z.fn 3 ("_parse_varint" : Str) rfl
  obtain ⟨y1,y2⟩ := Z.tys "StopIteration" (by decide)
  exact ⟨mg,mb,a,o,fd,T.g,T.b,h1,h2,h3,pv_def T h1,y1,y2⟩
 have ix : idx ("texts" : Str) Nlaw.ns = some 10 ∧ idx ("word" : Str) Nlaw.ns = some 4 ∧ idx ("k" : Str) Nlaw.ns = some 7 ∧ idx ("shift" : Str) Nlaw.ns = some 11 ∧ idx ("told" : Str) Nlaw.ns = some 9 ∧ idx ("octets" : Str) Nlaw.ns = some 8 := by decide +kernel
 have bh : ∀ x ∈ [("texts" : Str),("word" : Str),("k" : Str),("shift" : Str)],isBound (scope.names.lookup x) = true := fun x hx => isBound_held (hheld x (by
  simp only [List.mem_cons,List.not_mem_nil,or_false] at hx ⊢
  rcases hx with h | h | h | h <;> simp [h]))
 have r0 : Rel Nlaw scope ([("script" : Str)].zip [.list (script.map D.int)]) (some (.list (script.map D.int)) :: List.replicate 11 none) := zip_rel (ps := [("script" : Str)]) (rest := lawRest) (as := [.list (script.map D.int)]) rfl (by decide +kernel)
 have X2 := cx 32 Nlaw.ns (by decide)
 refine seg_then (l := [s0,s1,s2,s3,s4,s5,s6,s7,s8,s9]) X2 eo cA x1 ⟨_,r0,fs⟩ fun s₁ ow₁ f₁ t₁ => ?_
 refine wpAny_execs_cons (told_stmt (cx 30 _ (by decide)) (cx 31 _ (by decide)) PA (at_ 23 _ _ rfl fun a ha => rd_def T ha) L eo f₁ (hheld _ (by simp)) (hheld _ (by simp)) ix.2.2.2.2.1 ix.2.2.2.2.2 g2 x2 x3 x4 fun s₂ ow₂ f₂ t₂ => ?_)
 have t₁₂ := (let ⟨_,_,ff⟩ := f₁; Tn.to ff t₁ t₂)
 refine seg_then (l := [t0,t1,t2,t3,t4]) X2 eo cB x5 f₂ fun s₃ ow₃ f₃ t₃ => ?_
 have t₁₃ := (let ⟨_,_,ff⟩ := f₂; Tn.to ff t₁₂ t₃)
 refine wpAny_execs_cons (signs_loop (n := 60) (cx 30 _ (by decide)) (cx 31 _ (by decide)) X2 (at_ 8 _ _ rfl fun a ha => co_def T ha) (at_ 10 _ _ rfl fun a ha => ix_def T ha) (at_ 27 _ _ rfl fun a ha => sf_def T ha) L (none_booked (w := w) X T.nolimit) eo f₃ bh (hheld _ (by simp)) ix.1 ix.2.1 ix.2.2.1 ix.2.2.2.1 g1 g3
  x6 x7 x8 x9 x10 x11 c3 x12 x13 fun s₄ ow₄ f₄ t₄ => ?_)
 have t₁₄ := (let ⟨_,_,ff⟩ := f₃; Tn.to ff t₁₃ t₄)
 refine seg_end (out := .ret (.bool true)) X2 eo cZ x14 f₄ fun fl s₅ ow₅ f₅ t₅ o₅ => ?_
 have t₁₅ := (let ⟨_,_,ff⟩ := f₄; Tn.to ff t₁₄ t₅)
 obtain ⟨v,rfl,xv⟩ := o₅
 cases (show v = .bool true from xv)
 obtain ⟨h',tk,rfl,kk'⟩ := t₁₅.1
 exact hQ h' tk fun b o e => kk' b o (fun hl => by
  rcases hl with hl | ⟨z,hl⟩
  ·exact fs.baseOff e (.inl hl)
  ·cases hl) (fs.le b o e)
theorem well_ints {P : Params} {h : Heap} {B : Addr → Prop} : ∀ {script : List Int} {vs : List Value},WellAll P h vs (ofPys (script.map PyData.int)) → Els B h (script.map D.int) vs
 | [],vs,x => by
  cases x
  rfl
 | n :: r,vs,x => by
  cases x with
  | cons hv hr =>
   cases hv with
   | int i t => exact ⟨_,_,rfl,⟨t,rfl⟩,well_ints hr⟩
theorem well_list {P : Params} {h : Heap} {B : Addr → Prop} {a : Addr} {script : List Int} (x : Well P h (.ref a) (ofPy (.list (script.map PyData.int)))) : ∃ vs,h.PlainList a (List.toArray vs) ∧ Els B h (script.map D.int) vs := by
 have hx : Well P h (.ref a) (.list (ofPys (script.map PyData.int))) := x
 cases hx with
 | list ho hr => exact ⟨_,⟨_,ho⟩,well_ints hr⟩
theorem law_join {w : World} {s₁ : Shared} {mg mb : Str → Option Value} {mean : ExcName → Option Value} (T : Top qv loose3 mean mg mb s₁.heap) (X : (KM w.params).In s₁.heap) {p : Arguments} {body : List Stmt} {scope : Scope} (hs : (recs[29]?).map sig4 = some (("law" : Str),p,body,scope))
  {script : List Int} (ok : LawOk script) {a f : Addr} {cd : Value} {h₁ : Heap} {tk : Nat} {cells : List (Addr × Obj)} {Pm : Params} (hw : Well Pm s₁.heap (.ref a) (ofPy (.list (script.map PyData.int))))
  (F : Fr s₁.heap s₁.heap.objs.size h₁ (bindL (envOfC "law" scope s₁.heap.objs.size f cd).kindOf [(("script" : Str),.ref a)] fun _ => none)) (N : News s₁.heap s₁.heap.objs.size h₁ cells)
  (XC : CellsAre (bindC (envOfC "law" scope s₁.heap.objs.size f cd).kindOf [(("script" : Str),.ref a)] fun _ => none) (cellsFrom (s₁.heap.objs.size + 1) scope.names []) cells) {E : Value → Shared → Prop} :
  wpAny (model PySem.Challenge.rw_ta0062_01.row.prog w) (callerA.deeper (envOfC "law" scope s₁.heap.objs.size f cd)) (execs body (envOfC "law" scope s₁.heap.objs.size f cd)) (fun fl s' => fl = .ret (.bool true) ∧ ∃ h' tk',s' = { s₁ with heap := h',toks := tk' } ∧ Le s₁.heap h') E { s₁ with heap := h₁,toks := tk } := by
 obtain ⟨vs,hpl,hels⟩ := well_list (B := fun _ => False) hw
 have hok : defOk [("script" : Str)] scope = true := by
  cases shape29 hs; assumption
 have hamb : Amb 33 callerA := ⟨rfl,by decide,by decide⟩
 have o : Ok 32 s₁.heap (fun _ => False) callerA s₁ := ⟨⟨rfl,by decide,by decide⟩,(fun _ _ e => e),fun _ h => h.elim,fun _ h => h.elim⟩
 have cok := cellsFrom_ok scope.names (s₁.heap.push { cls := .type "cell",data := .cell none }) (s₁.heap.objs.size + 1) [] ⟨fun _ _ hm => (nomatch hm),List.Pairwise.nil⟩ (by rw [Heap.size_push]; exact Nat.le_refl _)
 rw [Heap.size_push] at cok
 have hab : ∀ n c,(n,c) ∈ cellsFrom (s₁.heap.objs.size + 1) scope.names [] → s₁.heap.objs.size < c := fun n c hm => (cok.empty n c hm).2
 have cl := Cl.of_news (own := []) N XC cok.apart hab
 have XI : InCallC s₁ (envOfC "law" scope s₁.heap.objs.size f cd).locals (bindL (envOfC "law" scope s₁.heap.objs.size f cd).kindOf ([("script" : Str)].zip [.ref a]) fun _ => none) (envOfC "law" scope s₁.heap.objs.size f cd).cells (bindC (envOfC "law" scope s₁.heap.objs.size f cd).kindOf ([("script" : Str)].zip [.ref a]) fun _ => none) { s₁ with heap := h₁,toks := tk } :=
  ⟨⟨⟨h₁,tk,rfl⟩,F.ns,F.keep,Nat.le_refl _⟩,cl.cell,cl.apart,cl.above⟩
 obtain ⟨eo,fs⟩ := FS.begin (prog := PySem.Challenge.rw_ta0062_01.row.prog) (w := w) (ds := [.list (script.map D.int)]) (vs := [.ref a]) (A' := callerA.deeper (envOfC "law" scope s₁.heap.objs.size f cd)) hok o ⟨_,_,rfl,⟨a,vs,rfl,fun h => h,hpl,hels⟩,rfl⟩ rfl rfl rfl rfl rfl XI ⟨rfl,(by show callerA.depth + 1 + 32 < recursionLimit; decide),(by show callerA.units + 3 + 8 * 32 + 100 < cLine; decide)⟩
 refine law_walk T X hs ok ⟨rfl,rfl,fun x c hc => Nat.ne_of_gt (hab x c (mem_of_lookup hc)),Heap.get?_none_of_le (Nat.le_refl _)⟩ eo fs fun h' tk' hle => ⟨rfl,h',tk',rfl,hle⟩
set_option maxRecDepth 512
noncomputable def low (c : Nat) : Nat := if 65 ≤ c ∧ c ≤ 90 then c + 32 else c
noncomputable def cost (c d : Nat) : Nat := if c = d then 0 else if low c = low d then 1 else 2
theorem cost_le (c d : Nat) : cost c d ≤ 2 := by unfold cost; split <;> (try split) <;> lia
theorem cost_self (c : Nat) : cost c c = 0 := by simp [cost]
theorem cost_symm (c d : Nat) : cost c d = cost d c := by
 unfold cost
 by_cases h : c = d
 ·subst h; rfl
 ·have h' : ¬ d = c := fun e => h e.symm
  rw [if_neg h,if_neg h']
  by_cases h2 : low c = low d
  ·rw [if_pos h2,if_pos h2.symm]
  ·rw [if_neg h2,if_neg fun e => h2 e.symm]
noncomputable def edR (c : Nat) (f : List Nat → Nat) (n : Nat) : List Nat → Nat
 | [] => n
 | d :: b => min (min (f (d :: b) + 2) (edR c f n b + 2)) (f b + cost c d)
noncomputable def ed : List Nat → List Nat → Nat
 | [],b => 2 * b.length
 | c :: a,b => edR c (ed a) (2 * (a.length + 1)) b
theorem ed_nil (b : List Nat) : ed [] b = 2 * b.length := rfl
theorem ed_nil' (a : List Nat) : ed a [] = 2 * a.length := by cases a <;> rfl
theorem ed_cons (c d : Nat) (a b : List Nat) : ed (c :: a) (d :: b) = min (min (ed a (d :: b) + 2) (ed (c :: a) b + 2)) (ed a b + cost c d) := rfl
inductive Al : List Nat → List Nat → Nat → Prop
 | nil : Al [] [] 0
 | del {a b n} (c) : Al a b n → Al (c :: a) b (n + 2)
 | ins {a b n} (d) : Al a b n → Al a (d :: b) (n + 2)
 | sub {a b n} (c d) : Al a b n → Al (c :: a) (d :: b) (n + cost c d)
theorem Al.allIns : ∀ b : List Nat,Al [] b (2 * b.length)
 | [] => .nil
 | d :: b => by
  have := (Al.allIns b).ins d
  rw [List.length_cons,show 2 * (b.length + 1) = 2 * b.length + 2 by lia]; exact this
theorem Al.allDel : ∀ a : List Nat,Al a [] (2 * a.length)
 | [] => .nil
 | c :: a => by
  have := (Al.allDel a).del c
  rw [List.length_cons,show 2 * (a.length + 1) = 2 * a.length + 2 by lia]; exact this
theorem al_ed : ∀ a b : List Nat,Al a b (ed a b) := by
 intro a
 induction a with
 | nil => exact Al.allIns
 | cons c a iha =>
  intro b
  induction b with
  | nil => exact Al.allDel _
  | cons d b ihb =>
   have h1 := (iha (d :: b)).del c
   have h2 := ihb.ins d
   have h3 := (iha b).sub c d
   rw [ed_cons]
   rcases Nat.le_total (min (ed a (d :: b) + 2) (ed (c :: a) b + 2)) (ed a b + cost c d) with h | h
   ·rw [Nat.min_eq_left h]
    rcases Nat.le_total (ed a (d :: b) + 2) (ed (c :: a) b + 2) with h' | h'
    ·rw [Nat.min_eq_left h']; exact h1
    ·rw [Nat.min_eq_right h']; exact h2
   ·rw [Nat.min_eq_right h]; exact h3
theorem ed_del (c : Nat) (a b : List Nat) : ed (c :: a) b ≤ ed a b + 2 := by
 cases b with
 | nil => rw [ed_nil',ed_nil',List.length_cons]; lia
 | cons d b => exact Nat.le_trans (Nat.min_le_left _ _) (Nat.min_le_left _ _)
theorem ed_ins (d : Nat) (a b : List Nat) : ed a (d :: b) ≤ ed a b + 2 := by
 cases a with
 | nil => rw [ed_nil,ed_nil,List.length_cons]; lia
 | cons c a => exact Nat.le_trans (Nat.min_le_left _ _) (Nat.min_le_right _ _)
theorem ed_sub (c d : Nat) (a b : List Nat) : ed (c :: a) (d :: b) ≤ ed a b + cost c d := Nat.min_le_right _ _
theorem ed_le {a b : List Nat} {n : Nat} (h : Al a b n) : ed a b ≤ n := by
 induction h with
 | nil => exact Nat.le_refl _
 | @del a b n c _ ih => have := ed_del c a b; lia
 | @ins a b n d _ ih => have := ed_ins d a b; lia
 | @sub a b n c d _ ih => have := ed_sub c d a b; lia
theorem Al.append {a b n a' b' n'} (h : Al a b n) (h' : Al a' b' n') : Al (a ++ a') (b ++ b') (n + n') := by
 induction h with
 | nil => simpa using h'
 | @del a b n c _ ih => have := ih.del c; rw [show n + 2 + n' = n + n' + 2 by lia]; exact this
 | @ins a b n d _ ih => have := ih.ins d; rw [show n + 2 + n' = n + n' + 2 by lia]; exact this
 | @sub a b n c d _ ih => have := ih.sub c d; rw [show n + cost c d + n' = n + n' + cost c d by lia]; exact this
theorem Al.symm {a b n} (h : Al a b n) : Al b a n := by
 induction h with
 | nil => exact .nil
 | del c _ ih => exact ih.ins c
 | ins d _ ih => exact ih.del d
 | sub c d _ ih => rw [cost_symm]; exact ih.sub d c
theorem Al.reverse {a b n} (h : Al a b n) : Al a.reverse b.reverse n := by
 induction h with
 | nil => exact .nil
 | del c _ ih => rw [List.reverse_cons]; simpa using ih.append (Al.del c .nil)
 | ins d _ ih => rw [List.reverse_cons]; simpa using ih.append (Al.ins d .nil)
 | sub c d _ ih => rw [List.reverse_cons,List.reverse_cons]; simpa using ih.append (Al.sub c d .nil)
theorem Al.split {a b : List Nat} {n : Nat} (h : Al a b n) : ∀ u v,a = u ++ v → ∃ b1 b2 n1 n2,b = b1 ++ b2 ∧ Al u b1 n1 ∧ Al v b2 n2 ∧ n = n1 + n2 := by
 induction h with
 | nil => intro u v e; obtain ⟨rfl,rfl⟩ := List.append_eq_nil_iff.mp e.symm; exact ⟨[],[],0,0,rfl,.nil,.nil,rfl⟩
 | @del a b n c h ih =>
  intro u v e
  cases u with
  | nil => simp at e; subst e; exact ⟨[],b,0,n + 2,rfl,.nil,h.del c,by lia⟩
  | cons x u =>
   simp at e
   obtain ⟨rfl,e⟩ := e
   obtain ⟨b1,b2,n1,n2,h1,h2,h3,h4⟩ := ih u v e
   exact ⟨b1,b2,n1 + 2,n2,h1,h2.del c,h3,by lia⟩
 | @ins a b n d h ih =>
  intro u v e
  obtain ⟨b1,b2,n1,n2,h1,h2,h3,h4⟩ := ih u v e
  exact ⟨d :: b1,b2,n1 + 2,n2,by rw [h1]; rfl,h2.ins d,h3,by lia⟩
 | @sub a b n c d h ih =>
  intro u v e
  cases u with
  | nil => simp at e; subst e; exact ⟨[],d :: b,0,n + cost c d,rfl,.nil,h.sub c d,by lia⟩
  | cons x u =>
   simp at e
   obtain ⟨rfl,e⟩ := e
   obtain ⟨b1,b2,n1,n2,h1,h2,h3,h4⟩ := ih u v e
   exact ⟨d :: b1,b2,n1 + cost c d,n2,by rw [h1]; rfl,h2.sub c d,h3,by lia⟩
theorem ed_symm (a b : List Nat) : ed a b = ed b a := Nat.le_antisymm (ed_le (al_ed b a).symm) (ed_le (al_ed a b).symm)
theorem ed_rev (a b : List Nat) : ed a.reverse b.reverse = ed a b := by
 refine Nat.le_antisymm (ed_le (al_ed a b).reverse) ?_
 have := ed_le (al_ed a.reverse b.reverse).reverse
 simpa using this
theorem ed_append (a b a' b' : List Nat) : ed (a ++ a') (b ++ b') ≤ ed a b + ed a' b' := ed_le ((al_ed a b).append (al_ed a' b'))
theorem ed_split (u v b : List Nat) : ∃ i,i ≤ b.length ∧ ed (u ++ v) b = ed u (b.take i) + ed v (b.drop i) := by
 obtain ⟨b1,b2,n1,n2,h1,h2,h3,h4⟩ := (al_ed (u ++ v) b).split u v rfl
 refine ⟨b1.length,by rw [h1]; simp,?_⟩
 have e1 : b.take b1.length = b1 := by rw [h1]; simp
 have e2 : b.drop b1.length = b2 := by rw [h1]; simp
 rw [e1,e2]
 have := ed_le h2
 have := ed_le h3
 have := ed_append u b1 v b2
 rw [← h1] at this
 lia
theorem ed_len (a b : List Nat) : 2 * b.length ≤ ed a b + 2 * a.length ∧ 2 * a.length ≤ ed a b + 2 * b.length := by
 have h : ∀ {a b n},Al a b n → 2 * b.length ≤ n + 2 * a.length ∧ 2 * a.length ≤ n + 2 * b.length := by
  intro a b n h
  induction h with
  | nil => simp
  | del c _ ih => simp; lia
  | ins d _ ih => simp; lia
  | sub c d _ ih => simp; lia
 exact h (al_ed a b)
theorem ed_head {c : Nat} {a b : List Nat} : ed a b ≤ ed a (c :: b) + 2 := by
 have h : ∀ {a b' n},Al a b' n → ∀ b,b' = c :: b → ed a b ≤ n + 2 := by
  intro a b' n h
  induction h with
  | nil => intro b e; cases e
  | @del a b' n x h ih => intro b e; have := ih b e; have := ed_del x a b; lia
  | @ins a b' n x h ih => intro b e; cases e; have := ed_le h; lia
  | @sub a b' n x y h ih => intro b e; cases e; have := ed_le h; have := ed_del x a b'; lia
 exact h (al_ed a (c :: b)) b rfl
theorem ed_same (c : Nat) (a b : List Nat) : ed (c :: a) (c :: b) = ed a b := by
 have h1 := ed_sub c c a b
 rw [cost_self] at h1
 have h2 : ed a b ≤ ed (c :: a) (c :: b) := by
  rw [ed_cons,cost_self]
  have h3 : ed a b ≤ ed a (c :: b) + 2 := ed_head
  have h4 : ed a b ≤ ed (c :: a) b + 2 := by rw [ed_symm a b,ed_symm (c :: a) b]; exact ed_head
  lia
 lia
theorem ed_self : ∀ a : List Nat,ed a a = 0
 | [] => rfl
 | c :: a => by rw [ed_same]; exact ed_self a
theorem ed_pre (p a b : List Nat) : ed (p ++ a) (p ++ b) = ed a b := by
 induction p with
 | nil => rfl
 | cons c p ih => rw [List.cons_append,List.cons_append,ed_same,ih]
theorem ed_post (p a b : List Nat) : ed (a ++ p) (b ++ p) = ed a b := by
 rw [← ed_rev,List.reverse_append,List.reverse_append,ed_pre,ed_rev]
theorem ed_snoc (c d : Nat) (a b : List Nat) : ed (a ++ [c]) (b ++ [d]) = min (min (ed a (b ++ [d]) + 2) (ed (a ++ [c]) b + 2)) (ed a b + cost c d) := by
 rw [← ed_rev (a ++ [c]),← ed_rev a (b ++ [d]),← ed_rev (a ++ [c]) b,← ed_rev a b]
 simp only [List.reverse_append,List.reverse_cons,List.reverse_nil,List.nil_append,List.singleton_append]
 rw [ed_cons]
theorem ed_one (c : Nat) (b : List Nat) (h : b ≠ []) : ed [c] b ≤ 2 * b.length := by
 cases b with
 | nil => exact absurd rfl h
 | cons d b => have := ed_sub c d [] b; have := cost_le c d; rw [ed_nil] at *; simp; lia
set_option maxRecDepth 10000
section
variable {C : GC} {s : CStm} {r : List CStm} {ρ ρ' : Rho}
theorem xs_next (h : exC C s ρ = some (.next,ρ')) : xsC C (s :: r) ρ = xsC C r ρ' := by show (exC C s ρ).bind _ = _; rw [h]; rfl
theorem xs_ret {d : D} (h : exC C s ρ = some (.ret d,ρ')) : xsC C (s :: r) ρ = some (.ret d,ρ') := by show (exC C s ρ).bind _ = _; rw [h]; rfl
theorem xs_nil : xsC C [] ρ = some (.next,ρ) := rfl
theorem xs_one {o : Out} (h : exC C s ρ = some (o,ρ')) : xsC C [s] ρ = some (o,ρ') := by
 show (exC C s ρ).bind _ = _
 rw [h]; cases o <;> rfl
theorem ex_ite {t : CT} {a b : List CStm} {c : Bool} (h : tsC C (viewC ρ) t = some c) : exC C (.ite t a b) ρ = xsC C (if c then a else b) ρ := by
 show (tsC C (viewC ρ) t).bind _ = _
 rw [h]; cases c <;> rfl
theorem xs_ite {t : CT} {a b : List CStm} {c : Bool} {o : Out} (h : tsC C (viewC ρ) t = some c) (hx : xsC C (if c then a else b) ρ = some (o,ρ')) : xsC C [.ite t a b] ρ = some (o,ρ') := xs_one ((ex_ite h).trans hx)
theorem ex_set {x : Nat} {e : CE} {d : D} (h : evC C (viewC ρ) e = some d) (hd : d.isEl = true) : exC C (.set x e) ρ = some (.next,ρ.set x (some d)) := by
 show (evC C (viewC ρ) e).bind _ = _
 rw [h]; exact if_pos hd
theorem ex_set2 {x y : Nat} {e : CE} {d : D} (h : evC C (viewC ρ) e = some d) (hd : d.isScalar = true) : exC C (.set2 x y e) ρ = some (.next,(ρ.set x (some d)).set y (some d)) := by
 show (evC C (viewC ρ) e).bind _ = _
 rw [h]; exact if_pos hd
theorem ex_own {x : Nat} {e : CE} {ds : List D} (h : evC C (viewC ρ) e = some (.list ds)) : exC C (.own x e) ρ = some (.next,ρ.set x (some (.own ds))) := by
 show (evC C (viewC ρ) e).bind _ = _
 rw [h]; rfl
theorem ex_ret {e : CE} {d : D} (h : evC C (frozenC ρ) e = some d) (hd : d.isEl = true) : exC C (.ret e) ρ = some (.ret d,ρ) := by
 show (evC C (frozenC ρ) e).bind _ = _
 rw [h]; exact if_pos hd
theorem ex_item {x : Nat} {i v : CE} {k : Nat} {d : D} {ds : List D} (hv : evC C (viewC ρ) v = some d) (hi : evC C (viewC ρ) i = some (.int k)) (hx : ρ[x]?.join = some (.own ds)) (hd : d.isScalar = true) (hk : k < ds.length) (hf : fits ds.length = true) : exC C (.item x i v) ρ = some (.next,ρ.set x (some (.own (ds.set k d)))) := by
 show (evC C (viewC ρ) v).bind _ = _
 rw [hv]
 show (evC C (viewC ρ) i).bind _ = _
 rw [hi]
 show (match ρ[x]?.join,D.int k with | some (.own ds),.int k => _ | _,_ => none) = _
 rw [hx]
 exact if_pos (by rw [hd,hf,show decide ((k : Int).toNat < ds.length) = true from decide_eq_true hk]; rfl)
theorem ex_aug {x : Nat} {op : Operator} {v : CE} {a b d : D} (hx : ρ[x]?.join = some a) (he : evC C (viewC ρ) v = some b) (hs : (a.isScalar && b.isScalar && augOk op) = true) (hb : binop op a b = some d) (hd : d.isEl = true) : exC C (.aug x op v) ρ = some (.next,ρ.set x (some d)) := by
 show (ρ[x]?.join).bind _ = _
 rw [hx]
 show (evC C (viewC ρ) v).bind _ = _
 rw [he]
 refine (if_pos hs).trans ?_
 rw [hb]; exact if_pos hd
theorem ex_app {x : Nat} {g : Option Nat} {e : CE} {d : D} {ds : List D} (hx : ρ[x]?.join = some (.own ds)) (he : evC C (viewC (giveC g ρ)) e = some d) (hd : d.isEl = true) (hf : fits ds.length = true) : exC C (.app x g e) ρ = some (.next,(giveC g ρ).set x (some (.own (ds ++ [d])))) := by
 show (match ρ[x]?.join with | some (.own ds) => _ | _ => none) = _
 rw [hx]
 show (evC C (viewC (giveC g ρ)) e).bind _ = _
 rw [he]
 exact if_pos (by rw [hd,hf]; rfl)
theorem ex_ext {x : Nat} {g : Option Nat} {e : CE} {d : D} {ds es : List D} (hx : ρ[x]?.join = some (.own ds)) (he : evC C (viewC (giveC g ρ)) e = some d) (hd : seqOf d = some es) (hf : fits (ds.length + es.length) = true) : exC C (.ext x g e) ρ = some (.next,(giveC g ρ).set x (some (.own (ds ++ es)))) := by
 show (match ρ[x]?.join with | some (.own ds) => _ | _ => none) = _
 rw [hx]
 show (evC C (viewC (giveC g ρ)) e).bind _ = _
 rw [he]
 show (seqOf d).bind _ = _
 rw [hd]
 exact if_pos hf
theorem ex_forR {x : Nat} {es : List CE} {a b : List CStm} {as ds : List D} (h : evsC C (viewC ρ) es = some as) (hr : ranged as = some ds) (hf : fits ds.length = true) : exC C (.forR x es a b) ρ = forGoC (fun ρ => xsC C a ρ) (fun ρ => xsC C b ρ) x ds ρ := by
 show (evsC C (viewC ρ) es).bind _ = _
 rw [h]
 show (ranged as).bind _ = _
 rw [hr]
 exact if_pos hf
theorem ex_forE {x : Nat} {e : CE} {a b : List CStm} {d : D} {ds : List D} (h : evC C (viewC ρ) e = some d) (hr : itemsS true d = some ds) (hf : fits ds.length = true) : exC C (.forE x e a b) ρ = forGoC (fun ρ => xsC C a ρ) (fun ρ => xsC C b ρ) x ds ρ := by
 show (evC C (viewC ρ) e).bind _ = _
 rw [h]
 show (itemsS true d).bind _ = _
 rw [hr]
 exact if_pos hf
theorem ev_bin {op : Operator} {a b : CE} {x y : D} (ha : evC C ρ a = some x) (hb : evC C ρ b = some y) : evC C ρ (.bin op a b) = binop op x y := by
 show (evC C ρ a).bind _ = _
 rw [ha]
 show (evC C ρ b).bind _ = _
 rw [hb]; rfl
theorem ev_subs {a i : CE} {x y : D} (ha : evC C ρ a = some x) (hb : evC C ρ i = some y) : evC C ρ (.subs a i) = subs x y := by
 show (evC C ρ a).bind _ = _
 rw [ha]
 show (evC C ρ i).bind _ = _
 rw [hb]; rfl
theorem ev_slice {a l h : CE} {x y z : D} (ha : evC C ρ a = some x) (hl : evC C ρ l = some y) (hh : evC C ρ h = some z) : evC C ρ (.slice a l h) = slice x y z := by
 show (evC C ρ a).bind _ = _
 rw [ha]
 show (evC C ρ l).bind _ = _
 rw [hl]
 show (evC C ρ h).bind _ = _
 rw [hh]; rfl
theorem evs_one {a : CE} {x : D} (ha : evC C ρ a = some x) : evsC C ρ [a] = some [x] := by
 show (evC C ρ a).bind _ = _
 rw [ha]; rfl
theorem evs_cons {a : CE} {x : D} {es : List CE} {ds : List D} (ha : evC C ρ a = some x) (h : evsC C ρ es = some ds) : evsC C ρ (a :: es) = some (x :: ds) := by
 show (evC C ρ a).bind _ = _
 rw [ha]
 show (evsC C ρ es).bind _ = _
 rw [h]; rfl
theorem ev_call {f : Nat} {es : List CE} {ds : List D} {F : List D → Option D} {d : D} (h : evsC C ρ es = some ds) (hf : C.fn[f]? = some F) (hF : F ds = some d) (hd : d.isEl = true) : evC C ρ (.call f es) = some d := by
 show (evsC C ρ es).bind _ = _
 rw [h]
 show (C.fn[f]?).bind _ = _
 rw [hf]
 show (F ds).bind _ = _
 rw [hF]; exact if_pos hd
theorem ev_blt {f : Str} {es : List CE} {ds : List D} (h : evsC C ρ es = some ds) : evC C ρ (.blt f es) = bcall f ds := by
 show (evsC C ρ es).bind _ = _
 rw [h]; rfl
theorem ev_meth {m : Str} {a : CE} {es : List CE} {o : D} {ds : List D} (ha : evC C ρ a = some o) (h : evsC C ρ es = some ds) : evC C ρ (.meth m a es) = meth o m ds := by
 show (evC C ρ a).bind _ = _
 rw [ha]
 show (evsC C ρ es).bind _ = _
 rw [h]; rfl
theorem ts_cmp {op : CmpOp} {a b : CE} {x y : D} (ha : evC C ρ a = some x) (hb : evC C ρ b = some y) (hy : y.isTexts = false) : tsC C ρ (.cmp op a b) = cmpop op x y := by
 show (evC C ρ a).bind _ = _
 rw [ha]
 show (evC C ρ b).bind _ = _
 rw [hb]; exact if_neg (by rw [hy]; decide)
theorem ev_cmp {op : CmpOp} {a b : CE} {x y : D} {c : Bool} (ha : evC C ρ a = some x) (hb : evC C ρ b = some y) (hy : y.isTexts = false) (hc : cmpop op x y = some c) : evC C ρ (.cmp op a b) = some (.bool c) := by
 show (evC C ρ a).bind _ = _
 rw [ha]
 show (evC C ρ b).bind _ = _
 rw [hb]
 exact (if_neg (by rw [hy]; decide)).trans (by rw [hc]; rfl)
theorem ts_val {e : CE} {d : D} (h : evC C ρ e = some d) : tsC C ρ (.val e) = truth d := by
 show (evC C ρ e).bind _ = _
 rw [h]; rfl
theorem ts_neg {t : CT} {c : Bool} (h : tsC C ρ t = some c) : tsC C ρ (.neg t) = some (!c) := by
 show (tsC C ρ t).map _ = _
 rw [h]; rfl
theorem ev_ite {t : CT} {a b : CE} {c : Bool} (h : tsC C ρ t = some c) : evC C ρ (.ite t a b) = evC C ρ (if c then a else b) := by
 show (tsC C ρ t).bind _ = _
 rw [h]; cases c <;> rfl
theorem ev_list {es : List CE} {ds : List D} (h : evsC C ρ es = some ds) (hd : ds.all D.isEl = true) (hf : fits ds.length = true) : evC C ρ (.list es) = some (.list ds) := by
 show (evsC C ρ es).bind _ = _
 rw [h]; exact if_pos (by rw [hd,hf]; rfl)
theorem ev_listRange {es : List CE} {ds xs : List D} (h : evsC C ρ es = some ds) (hr : ranged3 ds = some xs) : evC C ρ (.listRange es) = some (.list xs) := by
 show (evsC C ρ es).bind _ = _
 rw [h]
 show (ranged3 ds).map _ = _
 rw [hr]; rfl
theorem ev_and {a b : CE} {r : List CE} (h : evC C ρ a = some (.bool true)) : evC C ρ (.boolv .And (a :: b :: r)) = evC C ρ (.boolv .And (b :: r)) := by
 show (evC C ρ a).bind _ = _
 rw [h]; rfl
theorem ev_and1 {op : BoolOp} {a : CE} {d : D} (h : evC C ρ a = some d) : evC C ρ (.boolv op [a]) = some d := by
 show (evC C ρ a).bind _ = _
 rw [h]; rfl
theorem ev_or {a b : CE} {d : D} (h : evC C ρ a = some d) (t : truth d = some true) : evC C ρ (.boolv .Or [a,b]) = some d := by
 show (evC C ρ a).bind _ = _
 rw [h]
 show (truth d).bind _ = _
 rw [t]; rfl
section
variable {t : Rho → Option Bool} {k els : Rho → Option (Out × Rho)} {n x : Nat} {d : D} {ds : List D}
theorem while_next (h1 : t ρ = some true) (h2 : k ρ = some (.next,ρ')) : whileGoC t k els (n + 1) ρ = whileGoC t k els n ρ' := by
 show (t ρ).bind _ = _
 rw [h1]
 show (k ρ).bind _ = _
 rw [h2]; rfl
theorem while_end (h1 : t ρ = some false) : whileGoC t k els (n + 1) ρ = els ρ := by
 show (t ρ).bind _ = _
 rw [h1]; rfl
theorem for_next (h : k (ρ.set x (some d)) = some (.next,ρ')) : forGoC k els x (d :: ds) ρ = forGoC k els x ds ρ' := by
 show (k (ρ.set x (some d))).bind _ = _
 rw [h]; rfl
theorem for_ret {v : D} (h : k (ρ.set x (some d)) = some (.ret v,ρ')) : forGoC k els x (d :: ds) ρ = some (.ret v,ρ') := by
 show (k (ρ.set x (some d))).bind _ = _
 rw [h]; rfl
theorem for_brk (h : k (ρ.set x (some d)) = some (.brk,ρ')) : forGoC k els x (d :: ds) ρ = some (.next,ρ') := by
 show (k (ρ.set x (some d))).bind _ = _
 rw [h]; rfl
end
theorem ex_attempt {a : List CStm} {d : D} (h : xsC C a ρ = some (.ret d,ρ')) : exC C (.attempt a) ρ = some (.ret d,ρ') := by
 show (xsC C a ρ).bind _ = _
 rw [h]; rfl
theorem run_ret {n : Nat} {b : List CStm} {as : List D} {d : D} (h : xsC C b (as.map some ++ List.replicate n none) = some (.ret d,ρ')) : runC C n b as = some d := by
 unfold runC; rw [h]; rfl
theorem fn_ret {m n : Nat} {b : List CStm} {as : List D} {d : D} (hm : m = as.length) (h : xsC C b (as.map some ++ List.replicate n none) = some (.ret d,ρ')) : (if m = as.length then runC C n b as else none) = some d := by
 rw [if_pos hm]; unfold runC; rw [h]; rfl
end
theorem fits_of {n : Nat} (h : n ≤ 1000000) : fits n = true := decide_eq_true h
theorem small_of {n : Int} (h : n.natAbs < 2 ^ 62) : small n = true := decide_eq_true h
theorem small_nat {n : Nat} (h : n ≤ 1000000) : small (n : Int) = true := small_of (by lia)
theorem small_neg {n : Nat} (h : n ≤ 1000000) : small (-(n : Int)) = true := small_of (by lia)
theorem beq_one {c d : Nat} (h : c ≠ d) : (([c] : List Nat) == [d]) = false := beq_eq_false_iff_ne.mpr fun e => h (List.cons.inj e).1
theorem lower_one {x : Nat} (hx : x < 128) : meth (.str [x]) "lower" [] = some (.str [low x]) := by
 unfold meth
 rw [if_pos rfl]
 exact if_pos (by show (true && ((decide (x < 128) && true) && true)) = true; rw [decide_eq_true hx]; rfl)
theorem f0_spec {c d : Nat} (hc : c < 128) (hd : d < 128) : f0 [.str [c],.str [d]] = some (.int (cost c d)) := by
 refine fn_ret (C := mkC l0) rfl (ρ' := [some (.str [c]),some (.str [d])]) ?_
 by_cases h : c = d
 ·subst h; rw [cost_self]
  exact xs_ret (Eq.trans (ex_ite (c := true) (congrArg some (beq_self_eq_true _))) (xs_ret (ex_ret rfl rfl)))
 ·refine Eq.trans (xs_next (Eq.trans (ex_ite (c := false) (congrArg some (beq_one h))) rfl)) ?_
  have e : tsC (mkC l0) (viewC [some (.str [c]),some (.str [d])]) (.cmp .Eq (.meth "lower" (.var 0) []) (.meth "lower" (.var 1) [])) = some ([low c] == [low d]) := by
   show ((meth (.str [c]) "lower" []).bind fun x => (meth (.str [d]) "lower" []).bind fun y => _) = _
   rw [lower_one hc,lower_one hd]; rfl
  unfold cost
  rw [if_neg h]
  by_cases h2 : low c = low d
  ·rw [if_pos h2]
   exact xs_ret (Eq.trans (ex_ite (c := true) (e.trans (congrArg some (by rw [h2]; exact beq_self_eq_true _)))) (xs_ret (ex_ret rfl rfl)))
  ·rw [if_neg h2]
   exact Eq.trans (xs_next (Eq.trans (ex_ite (c := false) (e.trans (congrArg some (beq_one h2)))) rfl)) (xs_ret (ex_ret rfl rfl))
theorem cut_from {α : Type} {l : List α} {p : Nat} (h : p ≤ l.length) : cut l (some (p : Int)) none = l.drop p := by
 unfold cut
 simp only [Option.elim,clipAt_nat,Nat.min_eq_left h]
 rw [List.take_of_length_le (by rw [List.length_drop]; exact Nat.le_refl _)]
theorem cut_all {α : Type} {l : List α} : cut l none none = l := by simp [cut]
theorem cut_to {α : Type} {l : List α} {q : Nat} : cut l none (some (q : Int)) = l.take q := by
 unfold cut
 simp only [Option.elim,clipAt_nat,List.drop_zero,Nat.sub_zero]
 rw [List.take_eq_take_iff]; lia
theorem cut_neg {α : Type} {l : List α} {q : Nat} (h : 1 ≤ q) : cut l none (some (-(q : Int))) = l.take (l.length - q) := by
 unfold cut
 simp only [Option.elim,clipAt_neg _ _ h,List.drop_zero,Nat.sub_zero]
theorem cut_both {α : Type} {l : List α} {p q : Nat} : cut l (some (p : Int)) (some (q : Int)) = (l.drop p).take (q - p) := by
 unfold cut
 simp only [Option.elim,clipAt_nat]
 rcases Nat.le_total p l.length with h | h
 ·rw [Nat.min_eq_left h,List.take_eq_take_iff,List.length_drop]; lia
 ·rw [Nat.min_eq_right h,List.drop_length,List.drop_eq_nil_of_le h]; simp
theorem seqIdx {k n : Nat} (h : k < n) : seqIndex? (k : Int) n = some k := by unfold seqIndex?; simp; lia
theorem seqIdx_neg {k n : Nat} (h1 : 1 ≤ k) (h2 : k ≤ n) : seqIndex? (-(k : Int)) n = some (n - k) := by
 unfold seqIndex?
 have hneg : -(k : Int) < 0 := by lia
 simp only [hneg,if_true]
 have h3 : (0 : Int) ≤ -(k : Int) + n := by lia
 have h4 : -(k : Int) + n < n := by lia
 simp only [h3,h4,decide_true,Bool.and_self,if_true,Option.some.injEq]
 lia
noncomputable def e1_9 : CStm := .ite (.every .Or [(.neg (.val (.var 0))),(.neg (.val (.var 1)))]) [.ret (.bin .Mult (.dat 1) (.bin .Add (.blt "len" [(.var 0)]) (.blt "len" [(.var 1)])))] []
noncomputable def e1_10 : CStm := .ite (.every .Or [(.cmp .Gt (.blt "len" [(.var 0)]) (.dat 0)),(.cmp .Gt (.blt "len" [(.var 1)]) (.dat 0))]) [.ret (.bin .Add (.var 2) (.const (.int (1))))] []
noncomputable def e1_11 : CStm := .ite (.cmp .Lt (.blt "len" [(.var 1)]) (.blt "len" [(.var 0)])) [.swap 0 1 (.var 1) (.var 0)] []
noncomputable def e1_12 : CStm := .ite (.cmp .Gt (.bin .Mult (.bin .Sub (.blt "len" [(.var 1)]) (.blt "len" [(.var 0)])) (.dat 1)) (.var 2)) [.ret (.bin .Add (.var 2) (.const (.int (1))))] []
noncomputable def e1_13 : CStm := .own 5 (.listRange [(.dat 1),(.bin .Mult (.dat 1) (.bin .Add (.blt "len" [(.var 0)]) (.const (.int (1))))),(.dat 1)])
noncomputable def e1_14 : CStm := .set 6 (.const (.int (0)))
noncomputable def e1_15 : CStm := .forR 7 [(.blt "len" [(.var 1)])] [.set 8 (.subs (.var 1) (.var 7)),.set2 9 6 (.bin .Mult (.var 7) (.dat 1)),.set 10 (.const (.int (9223372036854775807))),.forR 11 [(.blt "len" [(.var 0)])] [.set 12 (.bin .Add (.var 9) (.call 0 [(.var 8),(.subs (.var 0) (.var 11))])),.set 9 (.subs (.var 5) (.var 11)),.set 13 (.bin .Add (.blt "min" [(.var 6),(.var 9)]) (.dat 1)),.set 6 (.blt "min" [(.var 13),(.var 12)]),.item 5 (.var 11) (.var 6),.ite (.cmp .Lt (.var 6) (.var 10)) [.set 10 (.var 6)] []] [],.ite (.cmp .Gt (.var 10) (.var 2)) [.ret (.bin .Add (.var 2) (.const (.int (1))))] []] []
noncomputable def e1_16 : CStm := .ret (.var 6)
noncomputable def t1_2 : CT := .every .And [(.val (.slice (.var 0) (.var 3) (.const .nil))),(.val (.slice (.var 1) (.var 3) (.const .nil))),(.cmp .Eq (.subs (.var 0) (.var 3)) (.subs (.var 1) (.var 3)))]
noncomputable def t1_6 : CT := .every .And [(.val (.slice (.var 0) (.const .nil) (.boolv .Or [(.var 4),(.const .nil)]))),(.val (.slice (.var 1) (.const .nil) (.boolv .Or [(.var 4),(.const .nil)]))),(.cmp .Eq (.subs (.var 0) (.bin .Sub (.var 4) (.const (.int (1))))) (.subs (.var 1) (.bin .Sub (.var 4) (.const (.int (1))))))]
section
variable {C : GC} {a b : List Nat} {M : Option D} {T : Rho}
theorem slice_from {l : List Nat} {p : Nat} (h : p ≤ l.length) (hl : l.length ≤ 1000) : slice (.str l) (.int p) .nil = some (.str (l.drop p)) := by
 have h1 : optInt (.int p) = some (some (p : Int)) := if_pos (small_nat (show p ≤ 1000000 by lia))
 unfold slice
 rw [h1,← cut_from h]
 exact if_pos (fits_of (Nat.le_trans hl (by decide)))
theorem truth_str {l : List Nat} (hl : l.length ≤ 1000) : truth (.str l) = some (!l.isEmpty) := if_pos (fits_of (Nat.le_trans hl (by decide)))
theorem subs_at {l : List Nat} {p : Nat} (h : p < l.length) (hl : l.length ≤ 1000) : subs (.str l) (.int p) = some (.str [l[p]]) := by
 show (if small p then ((seqIndex? p l.length).bind (l[·]?)).map fun c => D.str [c] else none) = _
 rw [if_pos (small_nat (show p ≤ 1000000 by lia)),seqIdx h]
 exact congrArg (Option.map _) (List.getElem?_eq_getElem h)
theorem emp {l : List Nat} : l.isEmpty = decide (l = []) := by cases l <;> rfl
theorem drop_full {l : List Nat} {p : Nat} : (!(l.drop p).isEmpty) = decide (p < l.length) := by
 rw [emp,← decide_not]
 exact decide_eq_decide.mpr (by rw [List.drop_eq_nil_iff]; exact Nat.not_le)
theorem take_full {l : List Nat} {q : Nat} : (!(l.take (l.length - q)).isEmpty) = decide (q < l.length) := by
 rw [emp,← decide_not]
 refine decide_eq_decide.mpr ⟨fun h => Nat.lt_of_not_le fun h' => h (by rw [Nat.sub_eq_zero_of_le h']; rfl),fun h e => ?_⟩
 have := congrArg List.length e
 rw [List.length_take,Nat.min_eq_left (Nat.sub_le _ _)] at this
 exact Nat.sub_ne_zero_of_lt h this
theorem beq_sgl {x y : Nat} : (([x] : List Nat) == [y]) = decide (x = y) := by
 by_cases e : x = y
 ·rw [decide_eq_true e,e]; exact beq_self_eq_true _
 ·rw [decide_eq_false e]; exact beq_one e
theorem three {ρ : Rho} {t u v : CT} {P Q : Prop} [Decidable P] [Decidable Q] {R : P → Q → Prop} [∀ p q,Decidable (R p q)] [Decidable (∃ p q,R p q)] (ht : tsC C ρ t = some (decide P)) (hu : tsC C ρ u = some (decide Q)) (hv : ∀ p q,tsC C ρ v = some (decide (R p q))) :
  tsC C ρ (.every .And [t,u,v]) = some (decide (∃ p q,R p q)) := by
 show (tsC C ρ t).bind _ = _
 rw [ht]
 by_cases p : P
 ·rw [decide_eq_true p]
  show (tsC C ρ u).bind _ = _
  rw [hu]
  by_cases q : Q
  ·rw [decide_eq_true q]
   show (tsC C ρ v).bind _ = _
   rw [hv p q]
   by_cases r : R p q
   ·rw [decide_eq_true r,decide_eq_true ⟨p,q,r⟩]; rfl
   ·rw [decide_eq_false r,decide_eq_false fun ⟨_,_,h⟩ => r h]; rfl
  ·rw [decide_eq_false q,decide_eq_false fun ⟨_,q',_⟩ => q q']; rfl
 ·rw [decide_eq_false p,decide_eq_false fun ⟨p',_,_⟩ => p p']; rfl
theorem test1 {p : Nat} (h1 : p ≤ a.length) (h2 : p ≤ b.length) (ha : a.length ≤ 1000) (hb : b.length ≤ 1000) :
  tsC C (viewC (some (.str a) :: some (.str b) :: M :: some (.int p) :: T)) t1_2 = some (decide (∃ (ha : p < a.length) (hb : p < b.length),a[p] = b[p])) := by
 have val : ∀ {l : List Nat},p ≤ l.length → l.length ≤ 1000 → (slice (.str l) (.int p) .nil).bind truth = some (decide (p < l.length)) := fun h hl => by
  rw [slice_from h hl,← drop_full]
  exact truth_str (Nat.le_trans (List.length_drop ▸ Nat.sub_le _ _) hl)
 refine three (val h1 ha) (val h2 hb) fun e1 e2 => ?_
 show ((subs (.str a) (.int p)).bind fun x => (subs (.str b) (.int p)).bind fun y => _) = _
 rw [subs_at e1 ha,subs_at e2 hb]
 exact congrArg some beq_sgl
theorem body1 {p : Nat} : xsC C [.aug 3 .Add (.const (.int (1)))] (some (.str a) :: some (.str b) :: M :: some (.int p) :: T) = some (.next,some (.str a) :: some (.str b) :: M :: some (.int ((p + 1 : Nat) : Int)) :: T) := rfl
theorem while1 (ha : a.length ≤ 1000) (hb : b.length ≤ 1000) : ∀ (n p : Nat),p ≤ a.length → p ≤ b.length → a.length - p < n → a.take p = b.take p →
  ∃ q,q ≤ a.length ∧ q ≤ b.length ∧ a.take q = b.take q ∧ whileGoC (fun ρ => tsC C (viewC ρ) t1_2) (fun ρ => xsC C [.aug 3 .Add (.const (.int (1)))] ρ) (fun ρ => xsC C [] ρ) n (some (.str a) :: some (.str b) :: M :: some (.int p) :: T) =
   some (.next,some (.str a) :: some (.str b) :: M :: some (.int q) :: T)
 | 0,p,h1,h2,hn,ht => by lia
 | n + 1,p,h1,h2,hn,ht => by
  have ht1 := test1 (C := C) (M := M) (T := T) h1 h2 ha hb
  by_cases e : ∃ (ha : p < a.length) (hb : p < b.length),a[p] = b[p]
  ·rw [decide_eq_true e] at ht1
   obtain ⟨e1,e2,e3⟩ := e
   rw [while_next ht1 body1]
   refine while1 ha hb n (p + 1) e1 e2 (by lia) ?_
   rw [List.take_succ_eq_append_getElem e1,List.take_succ_eq_append_getElem e2,ht,e3]
  ·rw [decide_eq_false e] at ht1
   exact ⟨p,h1,h2,ht,while_end ht1⟩
theorem slice_to {l : List Nat} {q : Nat} (h : q ≤ l.length) (hl : l.length ≤ 1000) : slice (.str l) .nil (if q = 0 then D.nil else .int (-(q : Int))) = some (.str (l.take (l.length - q))) := by
 have hf : fits l.length = true := fits_of (Nat.le_trans hl (by decide))
 by_cases hq : q = 0
 ·subst hq
  rw [if_pos rfl,Nat.sub_zero,List.take_length]
  exact (if_pos hf).trans (by rw [cut_all])
 ·have h1 : optInt (.int (-(q : Int))) = some (some (-(q : Int))) := if_pos (small_neg (show q ≤ 1000000 by lia))
  rw [if_neg hq,← cut_neg (Nat.one_le_iff_ne_zero.mpr hq)]
  unfold slice
  rw [h1]
  exact if_pos hf
theorem orNil {q : Nat} {X Y Z W : Option D} : evC C (X :: Y :: Z :: W :: some (.int (-(q : Int))) :: T) (.boolv .Or [(.var 4),(.const .nil)]) = some (if q = 0 then D.nil else .int (-(q : Int))) := by
 by_cases hq : q = 0
 ·subst hq; rfl
 ·have h1 : (-(q : Int) != 0) = true := bne_iff_ne.mpr (by lia)
  rw [if_neg hq]
  exact ev_or rfl (congrArg some h1)
theorem subs_back {l : List Nat} {q : Nat} (h : q < l.length) (hl : l.length ≤ 1000) : subs (.str l) (.int (-(q : Int) - 1)) = some (.str [l[l.length - (q + 1)]]) := by
 rw [show -(q : Int) - 1 = -((q + 1 : Nat) : Int) by lia]
 show (if small (-((q + 1 : Nat) : Int)) then ((seqIndex? (-((q + 1 : Nat) : Int)) l.length).bind (l[·]?)).map fun c => D.str [c] else none) = _
 rw [if_pos (small_neg (show q + 1 ≤ 1000000 by lia)),seqIdx_neg (Nat.succ_pos q) h]
 exact congrArg (Option.map _) (List.getElem?_eq_getElem _)
theorem test2 {q : Nat} {P : Option D} (h1 : q ≤ a.length) (h2 : q ≤ b.length) (ha : a.length ≤ 1000) (hb : b.length ≤ 1000) :
  tsC C (viewC (some (.str a) :: some (.str b) :: M :: P :: some (.int (-(q : Int))) :: T)) t1_6 = some (decide (∃ (ha : q < a.length) (hb : q < b.length),a[a.length - (q + 1)] = b[b.length - (q + 1)])) := by
 have val : ∀ {l : List Nat},q ≤ l.length → l.length ≤ 1000 → ((evC C (viewC (some (.str a) :: some (.str b) :: M :: P :: some (.int (-(q : Int))) :: T)) (.boolv .Or [(.var 4),(.const .nil)])).bind fun h => slice (.str l) .nil h).bind truth = some (decide (q < l.length)) := fun {l} h hl => by
  have e := orNil (C := C) (q := q) (X := some (.str a)) (Y := some (.str b)) (Z := M.map D.seen) (W := P.map D.seen) (T := viewC T)
  rw [show evC C (viewC (some (.str a) :: some (.str b) :: M :: P :: some (.int (-(q : Int))) :: T)) (.boolv .Or [(.var 4),(.const .nil)]) = _ from e,Option.bind_some,slice_to h hl,← take_full]
  exact truth_str (Nat.le_trans (List.length_take ▸ Nat.min_le_right _ _) hl)
 refine three (val h1 ha) (val h2 hb) fun e1 e2 => ?_
 show ((subs (.str a) (.int (-(q : Int) - 1))).bind fun x => (subs (.str b) (.int (-(q : Int) - 1))).bind fun y => _) = _
 rw [subs_back e1 ha,subs_back e2 hb]
 exact congrArg some beq_sgl
theorem body2 {q : Nat} {P : Option D} : xsC C [.aug 4 .Sub (.const (.int (1)))] (some (.str a) :: some (.str b) :: M :: P :: some (.int (-(q : Int))) :: T) = some (.next,some (.str a) :: some (.str b) :: M :: P :: some (.int (-((q + 1 : Nat) : Int))) :: T) := by
 rw [← show -(q : Int) - 1 = -((q + 1 : Nat) : Int) by lia]; rfl
theorem while2 {P : Option D} (ha : a.length ≤ 1000) (hb : b.length ≤ 1000) : ∀ (n q : Nat),q ≤ a.length → q ≤ b.length → a.length - q < n → a.drop (a.length - q) = b.drop (b.length - q) →
  ∃ r,r ≤ a.length ∧ r ≤ b.length ∧ a.drop (a.length - r) = b.drop (b.length - r) ∧ whileGoC (fun ρ => tsC C (viewC ρ) t1_6) (fun ρ => xsC C [.aug 4 .Sub (.const (.int (1)))] ρ) (fun ρ => xsC C [] ρ) n (some (.str a) :: some (.str b) :: M :: P :: some (.int (-(q : Int))) :: T) =
   some (.next,some (.str a) :: some (.str b) :: M :: P :: some (.int (-(r : Int))) :: T)
 | 0,q,h1,h2,hn,ht => by lia
 | n + 1,q,h1,h2,hn,ht => by
  have ht2 := test2 (C := C) (M := M) (T := T) (P := P) h1 h2 ha hb
  by_cases e : ∃ (ha : q < a.length) (hb : q < b.length),a[a.length - (q + 1)] = b[b.length - (q + 1)]
  ·rw [decide_eq_true e] at ht2
   obtain ⟨e1,e2,e3⟩ := e
   rw [while_next ht2 body2]
   refine while2 ha hb n (q + 1) e1 e2 (by lia) ?_
   rw [List.drop_eq_getElem_cons (show a.length - (q + 1) < a.length by lia),List.drop_eq_getElem_cons (show b.length - (q + 1) < b.length by lia),e3]
   rw [show a.length - (q + 1) + 1 = a.length - q by lia,show b.length - (q + 1) + 1 = b.length - q by lia,ht]
  ·rw [decide_eq_false e] at ht2
   exact ⟨q,h1,h2,ht,while_end ht2⟩
end
noncomputable def bdI : List CStm := [.set 12 (.bin .Add (.var 9) (.call 0 [(.var 8),(.subs (.var 0) (.var 11))])),.set 9 (.subs (.var 5) (.var 11)),.set 13 (.bin .Add (.blt "min" [(.var 6),(.var 9)]) (.dat 1)),.set 6 (.blt "min" [(.var 13),(.var 12)]),.item 5 (.var 11) (.var 6),.ite (.cmp .Lt (.var 6) (.var 10)) [.set 10 (.var 6)] []]
noncomputable def bdO : List CStm := [.set 8 (.subs (.var 1) (.var 7)),.set2 9 6 (.bin .Mult (.var 7) (.dat 1)),.set 10 (.const (.int (9223372036854775807))),.forR 11 [(.blt "len" [(.var 0)])] bdI [],.ite (.cmp .Gt (.var 10) (.var 2)) [.ret (.bin .Add (.var 2) (.const (.int (1))))] []]
noncomputable def stD (a b : List Nat) (m : Int) (X3 X4 : Option D) (row : List Int) (res : Int) (bi bc : Option D) (dist mn : Option D) (idx sub ind : Option D) : Rho :=
 [some (.str a),some (.str b),some (.int m),X3,X4,some (.own (row.map D.int)),some (.int res),bi,bc,dist,mn,idx,sub,ind]
theorem bmin (a b : Int) : bcall "min" [.int a,.int b] = some (.int (min a b)) :=
 congrArg (fun x => some (D.int x)) (show (if b < a then b else a) = min a b by lia)
theorem blen_str {l : List Nat} (h : l.length ≤ 1000) : bcall "len" [.str l] = some (.int l.length) := if_pos (fits_of (Nat.le_trans h (by decide)))
theorem subs_own {row : List Int} {i : Nat} (h : i < row.length) (hi : i ≤ 1000) : subs (.bor (row.map D.int)) (.int i) = some (.int row[i]) := by
 show (if decide (0 ≤ (i : Int)) && small i then (row.map D.int)[(i : Int).toNat]? else none) = _
 rw [if_pos (by rw [small_nat (Nat.le_trans hi (by decide)),decide_eq_true (Int.natCast_nonneg i)]; rfl),Int.toNat_natCast,List.getElem?_map,List.getElem?_eq_getElem h]; rfl
theorem inner_step {a b : List Nat} {m : Int} {X3 X4 : Option D} {row : List Int} {res dist mn : Int} {bi : Option D} {sub ind : Option D} {ch i : Nat} (hi : i < a.length) (hl : a.length ≤ 1000) (hr : row.length = a.length) (hch : ch < 128) (ha : a[i] < 128) :
  xsC (mkC l1) bdI (stD a b m X3 X4 row res bi (some (.str [ch])) (some (.int dist)) (some (.int mn)) (some (.int i)) sub ind) =
   some (.next,stD a b m X3 X4 (row.set i (min (min res (row[i]'(by lia)) + 2) (dist + cost ch a[i]))) (min (min res (row[i]'(by lia)) + 2) (dist + cost ch a[i])) bi (some (.str [ch])) (some (.int (row[i]'(by lia)))) (some (.int (min mn (min (min res (row[i]'(by lia)) + 2) (dist + cost ch a[i]))))) (some (.int i)) (some (.int (dist + cost ch a[i]))) (some (.int (min res (row[i]'(by lia)) + 2)))) := by
 have hrow : i < row.length := by rw [hr]; exact hi
 have e3 := subs_own hrow (Nat.le_trans (Nat.le_of_lt hi) hl)
 generalize row[i] = v at *
 have c0 := f0_spec hch ha
 generalize (cost ch a[i] : Int) = s at *
 refine Eq.trans (xs_next (ex_set (d := .int (dist + s)) (Eq.trans (ev_bin rfl (ev_call (evs_cons rfl (evs_one (Eq.trans (ev_subs rfl rfl) (subs_at hi hl)))) rfl c0 rfl)) rfl) rfl)) ?_
 refine Eq.trans (xs_next (ex_set (d := .int v) (Eq.trans (ev_subs rfl rfl) e3) rfl)) ?_
 refine Eq.trans (xs_next (ex_set (d := .int (min res v + 2)) (Eq.trans (ev_bin (Eq.trans (ev_blt (evs_cons rfl (evs_one rfl))) (bmin res v)) rfl) rfl) rfl)) ?_
 refine Eq.trans (xs_next (ex_set (d := .int (min (min res v + 2) (dist + s))) (Eq.trans (ev_blt (evs_cons rfl (evs_one rfl))) (bmin _ _)) rfl)) ?_
 refine Eq.trans (xs_next (ex_item (k := i) (d := .int (min (min res v + 2) (dist + s))) (ds := row.map D.int) rfl rfl rfl rfl (by rw [List.length_map]; exact hrow) (by rw [List.length_map]; exact fits_of (by lia)))) ?_
 refine Eq.trans (xs_next (ρ' := _) (Eq.trans (ex_ite (c := decide (min (min res v + 2) (dist + s) < mn)) rfl) ?_)) rfl
 by_cases h : min (min res v + 2) (dist + s) < mn
 ·rw [decide_eq_true h,Int.min_eq_right (Int.le_of_lt h),← List.map_set]; rfl
 ·rw [decide_eq_false h,Int.min_eq_left (Int.not_lt.mp h),← List.map_set]; rfl
noncomputable def TT (a b : List Nat) (i j : Nat) : Nat := ed (a.take i) (b.take j)
theorem TT_zero (a b : List Nat) (j : Nat) (h : j ≤ b.length) : TT a b 0 j = 2 * j := by simp [TT,ed_nil,Nat.min_eq_left h]
theorem TT_zero' (a b : List Nat) (i : Nat) (h : i ≤ a.length) : TT a b i 0 = 2 * i := by simp [TT,ed_nil',Nat.min_eq_left h]
theorem TT_step {a b : List Nat} {i j : Nat} (hi : i < a.length) (hj : j < b.length) : TT a b (i + 1) (j + 1) = min (min (TT a b i (j + 1) + 2) (TT a b (i + 1) j + 2)) (TT a b i j + cost a[i] b[j]) := by
 unfold TT
 rw [List.take_succ_eq_append_getElem hi,List.take_succ_eq_append_getElem hj,ed_snoc]
noncomputable def rowD (a b : List Nat) (i j : Nat) : List Int := (List.range a.length).map fun x => if x < i then (TT a b (x + 1) (j + 1) : Int) else (TT a b (x + 1) j : Int)
theorem rowD_len (a b : List Nat) (i j : Nat) : (rowD a b i j).length = a.length := by simp [rowD]
theorem rowD_set {a b : List Nat} {i j : Nat} (hi : i < a.length) : (rowD a b i j).set i (TT a b (i + 1) (j + 1)) = rowD a b (i + 1) j := by
 apply List.ext_getElem
 ·simp [rowD]
 ·intro x h1 h2
  rw [List.getElem_set]
  simp only [rowD,List.getElem_map,List.getElem_range]
  by_cases hx : i = x
  ·subst hx; rw [if_pos rfl,if_pos (by lia)]
  ·rw [if_neg hx]
   by_cases h3 : x < i
   ·rw [if_pos h3,if_pos (by lia)]
   ·rw [if_neg h3,if_neg (by lia)]
theorem rowD_next {a b : List Nat} {j : Nat} : rowD a b a.length j = rowD a b 0 (j + 1) := by
 apply List.ext_getElem
 ·simp [rowD]
 ·intro x h1 h2
  have hx : x < a.length := by simpa [rowD] using h1
  simp only [rowD,List.getElem_map,List.getElem_range,if_pos hx]
  rw [if_neg (by lia)]
theorem rowD_at {a b : List Nat} {i j : Nat} (hi : i < a.length) : (rowD a b i j)[i]'(by rw [rowD_len]; exact hi) = (TT a b (i + 1) j : Int) := by
 simp [rowD]
noncomputable def resD (a b : List Nat) (i j : Nat) : Int := if i = 0 then 2 * (j : Int) else TT a b i (j + 1)
theorem TT_int {a b : List Nat} {i j : Nat} (hi : i < a.length) (hj : j < b.length) : (TT a b (i + 1) (j + 1) : Int) = min (min (TT a b i (j + 1) : Int) (TT a b (i + 1) j) + 2) ((TT a b i j : Int) + cost b[j] a[i]) := by
 rw [TT_step hi hj,cost_symm b[j],Nat.add_min_add_right,Lean.Omega.Int.ofNat_min,Int.natCast_add,Lean.Omega.Int.ofNat_min,Int.natCast_add]; rfl
theorem min_drop {A B C : Int} (h : C ≤ A + 2) : min (min A B + 2) C = min (B + 2) C := by
 rw [← Int.min_add_right,Int.min_comm (A + 2),Int.min_assoc,Int.min_eq_right h]
theorem resD_step {a b : List Nat} {i j : Nat} (hi : i < a.length) (hj : j < b.length) : min (min (resD a b i j) (TT a b (i + 1) j) + 2) ((TT a b i j : Int) + cost b[j] a[i]) = (TT a b (i + 1) (j + 1) : Int) := by
 rw [TT_int hi hj]
 unfold resD
 by_cases h0 : i = 0
 ·subst h0
  have hc := cost_le b[j] a[0]
  rw [if_pos rfl,TT_zero a b (j + 1) hj,TT_zero a b j (Nat.le_of_lt hj),min_drop (by lia),min_drop (by lia)]
 ·rw [if_neg h0]
theorem inner_loop {a b : List Nat} {m : Int} {X3 X4 bi : Option D} {j : Nat} (hj : j < b.length) (ha : a.length ≤ 1000) (ca : ∀ x ∈ a,x < 128) (cb : ∀ x ∈ b,x < 128) (k : Nat) :
  ∀ (i : Nat) (mn : Int) (idx sub ind : Option D),i + k = a.length → (∀ x,1 ≤ x → x ≤ i → mn ≤ TT a b x (j + 1)) →
   ∃ (mn' : Int) (idx' sub' ind' : Option D),(∀ x,1 ≤ x → x ≤ a.length → mn' ≤ TT a b x (j + 1)) ∧
    forGoC (fun ρ => xsC (mkC l1) bdI ρ) (fun ρ => xsC (mkC l1) [] ρ) 11 ((List.range' i k).map fun (x : Nat) => D.int (0 + (x : Int) * 1)) (stD a b m X3 X4 (rowD a b i j) (resD a b i j) bi (some (.str [b[j]])) (some (.int (TT a b i j))) (some (.int mn)) idx sub ind) =
     some (.next,stD a b m X3 X4 (rowD a b a.length j) (resD a b a.length j) bi (some (.str [b[j]])) (some (.int (TT a b a.length j))) (some (.int mn')) idx' sub' ind') := by
 induction k with
 | zero =>
  intro i mn idx sub ind hik hmn
  obtain rfl : i = a.length := hik
  exact ⟨mn,idx,sub,ind,hmn,rfl⟩
 | succ k ih =>
  intro i mn idx sub ind hik hmn
  have hi : i < a.length := hik ▸ Nat.lt_add_of_pos_right (Nat.succ_pos k)
  have hstep := inner_step (b := b) (m := m) (X3 := X3) (X4 := X4) (row := rowD a b i j) (res := resD a b i j) (dist := TT a b i j) (mn := mn) (bi := bi) (sub := sub) (ind := ind) hi ha (rowD_len a b i j) (cb _ (List.getElem_mem hj)) (ca _ (List.getElem_mem hi))
  rw [rowD_at hi,resD_step hi hj,rowD_set hi] at hstep
  obtain ⟨mn',idx',sub',ind',h1,h2⟩ := ih (i + 1) (min mn (TT a b (i + 1) (j + 1))) (some (.int i)) (some (.int (TT a b i j + cost b[j] a[i]))) (some (.int (min (resD a b i j) (TT a b (i + 1) j) + 2))) (by rw [← hik]; exact Nat.succ_add_eq_add_succ i k) fun x hx1 hx2 => by
   rcases Nat.lt_or_ge i x with h | h
   ·rw [Nat.le_antisymm hx2 h]; exact Int.min_le_right _ _
   ·exact Int.le_trans (Int.min_le_left _ _) (hmn x hx1 h)
  refine ⟨mn',idx',sub',ind',h1,Eq.trans (for_next (ρ' := _) (Eq.trans (congrArg (xsC (mkC l1) bdI) ?_) hstep)) h2⟩
  show stD a b m X3 X4 _ _ bi _ _ _ (some (.int (0 + (i : Int) * 1))) sub ind = _
  rw [Int.mul_one,Int.zero_add]
theorem ranged_one {n : Nat} (h : n ≤ 1000) : ranged [.int n] = some ((List.range' 0 n).map fun (x : Nat) => D.int (0 + (x : Int) * 1)) := by
 have h' : n ≤ 1000000 := Nat.le_trans h (by decide)
 rw [← List.range_eq_range']
 exact if_pos (by rw [small_nat h']; exact fits_of h')
theorem mul_small {a b : Int} (ha : small a = true) (hb : small b = true) : binop .Mult (.int a) (.int b) = some (.int (a * b)) := if_pos (by rw [ha,hb]; rfl)
theorem TT_one_le {a b : List Nat} {j : Nat} (hn : 1 ≤ a.length) (hj : j + 1 ≤ b.length) : TT a b 1 (j + 1) ≤ 2 * (j + 1) := by
 unfold TT
 cases a with
 | nil => simp at hn
 | cons c a' =>
  have hne : b.take (j + 1) ≠ [] := by
   intro h
   have h' : (b.take (j + 1)).length = 0 := by rw [h]; rfl
   rw [List.length_take] at h'
   lia
  have := ed_one c (b.take (j + 1)) hne
  rw [List.length_take] at this
  simp only [List.take_succ_cons,List.take_zero]
  lia
theorem fitsLong {i : Int} (h : -1000000 ≤ i ∧ i ≤ 1000000) : Builtin.Range.rangeFitsLong i = true := by
 unfold Builtin.Range.rangeFitsLong
 rw [Bool.and_eq_true]
 exact ⟨decide_eq_true (by lia),decide_eq_true (by lia)⟩
structure Jk where
 bi : Option D
 bc : Option D
 dist : Option D
 mn : Option D
 idx : Option D
 sub : Option D
 ind : Option D
noncomputable abbrev stK (a b : List Nat) (m : Int) (X3 X4 : Option D) (row : List Int) (res : Int) (J : Jk) : Rho := stD a b m X3 X4 row res J.bi J.bc J.dist J.mn J.idx J.sub J.ind
theorem outer_step {a b : List Nat} {m : Int} {X3 X4 : Option D} {j : Nat} {res : Int} {J : Jk} (hj : j < b.length) (hn : 1 ≤ a.length) (ha : a.length ≤ 1000) (hb : b.length ≤ 1000) (ca : ∀ x ∈ a,x < 128) (cb : ∀ x ∈ b,x < 128) (hm : (ed a b : Int) ≤ m + 1) :
  (∃ J' : Jk,xsC (mkC l1) bdO (stD a b m X3 X4 (rowD a b 0 j) res (some (.int j)) J.bc J.dist J.mn J.idx J.sub J.ind) = some (.next,stK a b m X3 X4 (rowD a b 0 (j + 1)) (TT a b a.length (j + 1)) J')) ∨
   (∃ ρ',xsC (mkC l1) bdO (stD a b m X3 X4 (rowD a b 0 j) res (some (.int j)) J.bc J.dist J.mn J.idx J.sub J.ind) = some (.ret (.int (ed a b)),ρ')) := by
 obtain ⟨mn',idx',sub',ind',h1,h2⟩ := inner_loop (m := m) (X3 := X3) (X4 := X4) (bi := some (.int j)) hj ha ca cb a.length 0 9223372036854775807 J.idx J.sub J.ind (Nat.zero_add _) (fun x hx1 hx2 => absurd hx1 (Nat.not_le.mpr (Nat.lt_succ_of_le hx2)))
 have hrn : resD a b a.length j = (TT a b a.length (j + 1) : Int) := if_neg (Nat.ne_of_gt hn)
 rw [TT_zero a b j (Nat.le_of_lt hj),hrn,rowD_next] at h2
 have run : xsC (mkC l1) bdO (stD a b m X3 X4 (rowD a b 0 j) res (some (.int j)) J.bc J.dist J.mn J.idx J.sub J.ind) = xsC (mkC l1) [.ite (.cmp .Gt (.var 10) (.var 2)) [.ret (.bin .Add (.var 2) (.const (.int (1))))] []] (stD a b m X3 X4 (rowD a b 0 (j + 1)) (TT a b a.length (j + 1)) (some (.int j)) (some (.str [b[j]])) (some (.int (TT a b a.length j))) (some (.int mn')) idx' sub' ind') := by
  refine Eq.trans (xs_next (ex_set (Eq.trans (ev_subs rfl rfl) (subs_at hj hb)) rfl)) ?_
  refine Eq.trans (xs_next (ex_set2 (d := .int ((2 * j : Nat) : Int)) (Eq.trans (ev_bin rfl rfl) (Eq.trans (mul_small (small_nat (Nat.le_trans (Nat.le_of_lt hj) (Nat.le_trans hb (by decide)))) rfl) (by rw [Int.mul_comm]; rfl))) rfl)) ?_
  refine Eq.trans (xs_next (ex_set rfl rfl)) ?_
  exact xs_next (Eq.trans (ex_forR (evs_one (Eq.trans (ev_blt (evs_one rfl)) (blen_str ha))) (ranged_one ha) (fits_of (by rw [List.length_map,List.length_range']; exact Nat.le_trans ha (by decide)))) h2)
 rw [run]
 by_cases hgt : m < mn'
 ·right
  have hed : (ed a b : Int) = m + 1 := by
   have hb' : b = b.take (j + 1) ++ b.drop (j + 1) := (List.take_append_drop _ _).symm
   obtain ⟨i,hi,hs⟩ := ed_split (b.take (j + 1)) (b.drop (j + 1)) a
   rw [← hb',ed_symm b a,ed_symm _ (a.take i)] at hs
   have hTi : m < (TT a b i (j + 1) : Int) := by
    rcases Nat.eq_zero_or_pos i with h0 | h0
    ·subst h0
     have h1' := h1 1 (Nat.le_refl 1) hn
     have h2' := TT_one_le hn hj
     rw [TT_zero a b (j + 1) hj]
     exact Int.lt_of_lt_of_le hgt (Int.le_trans h1' (Int.ofNat_le.mpr h2'))
    ·exact Int.lt_of_lt_of_le hgt (h1 i h0 hi)
   have : (TT a b i (j + 1) : Int) ≤ ed a b := Int.ofNat_le.mpr (hs ▸ Nat.le_add_right _ _)
   exact Int.le_antisymm hm (Int.lt_of_lt_of_le hTi this)
  rw [hed]
  exact ⟨_,xs_ret (Eq.trans (ex_ite (c := true) (congrArg some (decide_eq_true hgt))) (xs_ret (ex_ret rfl rfl)))⟩
 ·exact .inl ⟨⟨_,_,_,_,idx',sub',ind'⟩,Eq.trans (xs_next (Eq.trans (ex_ite (c := false) (congrArg some (decide_eq_false hgt))) rfl)) rfl⟩
theorem outer_loop {a b : List Nat} {m : Int} {X3 X4 : Option D} (hn : 1 ≤ a.length) (ha : a.length ≤ 1000) (hb : b.length ≤ 1000) (ca : ∀ x ∈ a,x < 128) (cb : ∀ x ∈ b,x < 128) (hm : (ed a b : Int) ≤ m + 1) (k : Nat) :
  ∀ (j : Nat) (res : Int) (J : Jk),j + k = b.length → (k = 0 → res = TT a b a.length b.length) →
   (∃ J' : Jk,forGoC (fun ρ => xsC (mkC l1) bdO ρ) (fun ρ => xsC (mkC l1) [] ρ) 7 ((List.range' j k).map fun (x : Nat) => D.int (0 + (x : Int) * 1)) (stK a b m X3 X4 (rowD a b 0 j) res J) =
    some (.next,stK a b m X3 X4 (rowD a b 0 b.length) (TT a b a.length b.length) J')) ∨
   (∃ ρ',forGoC (fun ρ => xsC (mkC l1) bdO ρ) (fun ρ => xsC (mkC l1) [] ρ) 7 ((List.range' j k).map fun (x : Nat) => D.int (0 + (x : Int) * 1)) (stK a b m X3 X4 (rowD a b 0 j) res J) = some (.ret (.int (ed a b)),ρ')) := by
 induction k with
 | zero =>
  intro j res J hjk hres
  obtain rfl : j = b.length := hjk
  rw [hres rfl]
  exact .inl ⟨J,rfl⟩
 | succ k ih =>
  intro j res J hjk hres
  have e0 : (stK a b m X3 X4 (rowD a b 0 j) res J).set 7 (some (.int (0 + (j : Int) * 1))) = stD a b m X3 X4 (rowD a b 0 j) res (some (.int j)) J.bc J.dist J.mn J.idx J.sub J.ind := by
   show stD a b m X3 X4 _ res (some (.int (0 + (j : Int) * 1))) J.bc J.dist J.mn J.idx J.sub J.ind = _
   rw [Int.mul_one,Int.zero_add]
  rcases outer_step (X3 := X3) (X4 := X4) (res := res) (J := J) (hjk ▸ Nat.lt_add_of_pos_right (Nat.succ_pos k)) hn ha hb ca cb hm with ⟨J',h⟩ | ⟨ρ',h⟩
  ·have h0 := for_next (ds := (List.range' (j + 1) k).map fun (x : Nat) => D.int (0 + (x : Int) * 1)) (els := fun ρ => xsC (mkC l1) [] ρ) (k := fun ρ => xsC (mkC l1) bdO ρ) (Eq.trans (congrArg (xsC (mkC l1) bdO) e0) h)
   rcases ih (j + 1) (TT a b a.length (j + 1)) J' (by rw [← hjk]; exact Nat.succ_add_eq_add_succ j k) (fun hk => by rw [← hjk,hk]) with ⟨J2,h'⟩ | ⟨ρ'',h'⟩
   ·exact .inl ⟨J2,Eq.trans h0 h'⟩
   ·exact .inr ⟨ρ'',Eq.trans h0 h'⟩
  ·exact .inr ⟨ρ',for_ret (Eq.trans (congrArg (xsC (mkC l1) bdO) e0) h)⟩
theorem x1 {n : Nat} (h1 : 1 ≤ n) (h : n ≤ 1000) : Builtin.Range.rangeSize 2 (2 * ((n : Int) + 1)) 2 = n := by
  unfold Builtin.Range.rangeSize
  rw [if_pos (by decide),if_pos (by lia)]
  lia
theorem x2 {n : Nat} (h1 : 1 ≤ n) (h : n ≤ 1000) : Builtin.Range.small 2 (2 * ((n : Int) + 1)) 2 = true := by
  unfold Builtin.Range.small
  rw [x1 h1 h,fitsLong (by lia),fitsLong (by lia),fitsLong (by lia),fitsLong (by lia),if_pos (by lia)]
  rw [Bool.or_true]; rfl
theorem x3 : small 2 = true := by decide
theorem x4 {n : Nat} : intsOf [.int 2,.int (2 * ((n : Int) + 1)),.int 2] = some [2,2 * ((n : Int) + 1),2] := rfl
theorem row_start {n : Nat} (h1 : 1 ≤ n) (h : n ≤ 1000) : ranged3 [.int 2,.int (2 * ((n : Int) + 1)),.int 2] = some ((List.range n).map fun (i : Nat) => D.int (2 + (i : Int) * 2)) := by
 have h3 : (decide ((0 : Int) ≤ n)) = true := decide_eq_true (by lia)
 have h4 : (decide ((0 : Int) < 2)) = true := rfl
 have hc : (Builtin.Range.small 2 (2 * ((n : Int) + 1)) 2 && decide ((0 : Int) < 2) && small 2 && decide ((0 : Int) ≤ Builtin.Range.rangeSize 2 (2 * ((n : Int) + 1)) 2) && fits (Builtin.Range.rangeSize 2 (2 * ((n : Int) + 1)) 2).toNat) = true := by
  rw [x1 h1 h,x2 h1 h,x3,h3,h4,Int.toNat_natCast,fits_of (show n ≤ 1000000 by lia)]; rfl
 unfold ranged3
 rw [x4,Option.bind_some,show trip [2,2 * ((n : Int) + 1),2] = some (2,2 * ((n : Int) + 1),2) from rfl,Option.bind_some]
 dsimp only
 rw [if_pos hc,x1 h1 h,Int.toNat_natCast]
noncomputable abbrev st0 (a b : List Nat) (m : Int) (X3 X4 : Option D) : Rho := [some (.str a),some (.str b),some (.int m),X3,X4,none,none,none,none,none,none,none,none,none]
theorem ev_len {C : GC} {ρ : Rho} {i : Nat} {l : List Nat} (h : ρ[i]?.join = some (.str l)) (hl : l.length ≤ 1000) : evC C ρ (.blt "len" [(.var i)]) = some (.int l.length) := Eq.trans (ev_blt (evs_one h)) (blen_str hl)
theorem ex12 {a b : List Nat} {m : Int} {X3 X4 : Option D} (ha : a.length ≤ 1000) (hb : b.length ≤ 1000) : exC (mkC l1) e1_12 (st0 a b m X3 X4) = if m < ((b.length : Int) - (a.length : Int)) * 2 then some (.ret (.int (m + 1)),st0 a b m X3 X4) else some (.next,st0 a b m X3 X4) := by
 refine Eq.trans (ex_ite (c := decide (m < ((b.length : Int) - (a.length : Int)) * 2)) (Eq.trans (ts_cmp (Eq.trans (ev_bin (Eq.trans (ev_bin (ev_len rfl hb) (ev_len rfl ha)) rfl) rfl) (mul_small (small_of (by lia)) rfl)) rfl rfl) rfl)) ?_
 by_cases h : m < ((b.length : Int) - (a.length : Int)) * 2
 ·rw [if_pos h,decide_eq_true h]
  exact xs_ret rfl
 ·rw [if_neg h,decide_eq_false h]
  exact xs_nil
theorem row_eq {a b : List Nat} : (List.range a.length).map (fun (i : Nat) => D.int (2 + (i : Int) * 2)) = (rowD a b 0 0).map D.int := by
 unfold rowD
 rw [List.map_map]
 refine List.map_congr_left fun x hx => congrArg D.int ?_
 show 2 + (x : Int) * 2 = (TT a b (x + 1) 0 : Int)
 rw [TT_zero' a b (x + 1) (List.mem_range.mp hx),Nat.mul_comm,Nat.succ_mul,Nat.add_comm]; rfl
theorem ex13 {a b : List Nat} {m : Int} {X3 X4 : Option D} (hn : 1 ≤ a.length) (ha : a.length ≤ 1000) : exC (mkC l1) e1_13 (st0 a b m X3 X4) = some (.next,(st0 a b m X3 X4).set 5 (some (.own ((rowD a b 0 0).map D.int)))) := by
 refine ex_own (ev_listRange (evs_cons rfl (evs_cons (Eq.trans (ev_bin rfl (Eq.trans (ev_bin (ev_len rfl ha) rfl) rfl)) (mul_small (a := 2) (b := (a.length : Int) + 1) rfl (small_of (by lia)))) (evs_one rfl))) ?_)
 rw [← row_eq]; exact row_start hn ha
theorem ex14 {a b : List Nat} {m : Int} {X3 X4 : Option D} {row : List Int} : exC (mkC l1) e1_14 ((st0 a b m X3 X4).set 5 (some (.own (row.map D.int)))) = some (.next,stD a b m X3 X4 row 0 none none none none none none none) := rfl
theorem dp_part {a b : List Nat} {m : Int} {X3 X4 : Option D} (hn : 1 ≤ a.length) (hab : a.length ≤ b.length) (hb : b.length ≤ 1000) (ca : ∀ x ∈ a,x < 128) (cb : ∀ x ∈ b,x < 128) (hm : (ed a b : Int) ≤ m + 1) :
  ∃ ρ',xsC (mkC l1) [e1_12,e1_13,e1_14,e1_15,e1_16] (st0 a b m X3 X4) = some (.ret (.int (ed a b)),ρ') := by
 have ha : a.length ≤ 1000 := by lia
 have hl := (ed_len a b).1
 by_cases hgt : m < ((b.length : Int) - (a.length : Int)) * 2
 ·have hed : (ed a b : Int) = m + 1 := by lia
  have h := ex12 (m := m) (X3 := X3) (X4 := X4) ha hb
  rw [if_pos hgt,← hed] at h
  exact ⟨_,xs_ret h⟩
 ·have h := ex12 (m := m) (X3 := X3) (X4 := X4) ha hb
  rw [if_neg hgt] at h
  rw [xs_next h,xs_next (ex13 hn ha),xs_next ex14]
  have loop : exC (mkC l1) e1_15 (stD a b m X3 X4 (rowD a b 0 0) 0 none none none none none none none) = _ := ex_forR (a := bdO) (b := []) (evs_one (ev_len rfl hb)) (ranged_one hb) (fits_of (by rw [List.length_map,List.length_range']; exact Nat.le_trans hb (by decide)))
  rcases outer_loop (X3 := X3) (X4 := X4) hn ha hb ca cb hm b.length 0 0 ⟨none,none,none,none,none,none,none⟩ (Nat.zero_add _) (fun h0 => absurd (Nat.le_trans hn hab) (by rw [h0]; decide)) with ⟨J,h⟩ | ⟨ρ',h⟩
  ·rw [xs_next (Eq.trans loop h),show TT a b a.length b.length = ed a b by unfold TT; rw [List.take_length,List.take_length]]
   exact ⟨_,xs_ret rfl⟩
  ·exact ⟨ρ',xs_ret (Eq.trans loop h)⟩
theorem back_slice {C : GC} {a b : List Nat} {M P : Option D} {T : Rho} {r i : Nat} {l : List Nat} (hi : (viewC (some (.str a) :: some (.str b) :: M :: P :: some (.int (-(r : Int))) :: T))[i]?.join = some (.str l)) (h1 : r ≤ l.length) (ha : l.length ≤ 1000) :
  evC C (viewC (some (.str a) :: some (.str b) :: M :: P :: some (.int (-(r : Int))) :: T)) (.slice (.var i) (.const .nil) (.boolv .Or [(.var 4),(.const .nil)])) = some (.str (l.take (l.length - r))) :=
 Eq.trans (ev_slice hi rfl (orNil (X := some (.str a)) (Y := some (.str b)) (Z := M.map D.seen) (W := P.map D.seen) (T := viewC T))) (slice_to h1 ha)
theorem ex9 {a b : List Nat} {m : Int} {X3 X4 : Option D} (ha : a.length ≤ 1000) (hb : b.length ≤ 1000) :
  exC (mkC l1) e1_9 (st0 a b m X3 X4) = if a = [] ∨ b = [] then some (.ret (.int (2 * ((a.length : Int) + b.length))),st0 a b m X3 X4) else some (.next,st0 a b m X3 X4) := by
 have neg : ∀ {i : Nat} {l : List Nat},(viewC (st0 a b m X3 X4))[i]?.join = some (.str l) → l.length ≤ 1000 → tsC (mkC l1) (viewC (st0 a b m X3 X4)) (.neg (.val (.var i))) = some l.isEmpty := fun {i l} h hl => by
  rw [ts_neg (Eq.trans (ts_val (e := .var i) h) (truth_str hl)),Bool.not_not]
 have ht : tsC (mkC l1) (viewC (st0 a b m X3 X4)) (.every .Or [(.neg (.val (.var 0))),(.neg (.val (.var 1)))]) = some (decide (a = [] ∨ b = [])) := by
  show (tsC _ _ _).bind _ = _
  rw [neg rfl ha]
  cases a with
  | nil => rfl
  | cons x a =>
   show (tsC _ _ _).bind _ = _
   rw [neg rfl hb]
   cases b <;> rfl
 refine Eq.trans (ex_ite ht) ?_
 by_cases h : a = [] ∨ b = []
 ·rw [if_pos h,decide_eq_true h]
  exact xs_ret (ex_ret (Eq.trans (ev_bin rfl (Eq.trans (ev_bin (ev_len rfl ha) (ev_len rfl hb)) rfl)) (mul_small rfl (small_of (by lia)))) rfl)
 ·rw [if_neg h,decide_eq_false h]; rfl
theorem ex10 {a b : List Nat} {m : Int} {X3 X4 : Option D} (ha : a.length ≤ 40) (hb : b.length ≤ 40) : exC (mkC l1) e1_10 (st0 a b m X3 X4) = some (.next,st0 a b m X3 X4) := by
 have h : ∀ {i : Nat} {l : List Nat},(viewC (st0 a b m X3 X4))[i]?.join = some (.str l) → l.length ≤ 40 → tsC (mkC l1) (viewC (st0 a b m X3 X4)) (.cmp .Gt (.blt "len" [(.var i)]) (.dat 0)) = some false := fun {i l} h hl =>
  Eq.trans (ts_cmp (y := .int 40) (ev_len h (Nat.le_trans hl (by decide))) rfl rfl) (congrArg some (decide_eq_false (Int.not_lt.mpr (Int.ofNat_le.mpr hl))))
 refine Eq.trans (ex_ite (c := false) ?_) rfl
 show (tsC _ _ _).bind _ = _
 rw [h rfl ha]
 show (tsC _ _ _).bind _ = _
 rw [h rfl hb]; rfl
theorem ex11 {a b : List Nat} {m : Int} {X3 X4 : Option D} (ha : a.length ≤ 1000) (hb : b.length ≤ 1000) : exC (mkC l1) e1_11 (st0 a b m X3 X4) = if b.length < a.length then some (.next,st0 b a m X3 X4) else some (.next,st0 a b m X3 X4) := by
 refine Eq.trans (ex_ite (c := decide ((b.length : Int) < a.length)) (Eq.trans (ts_cmp (ev_len rfl hb) (ev_len rfl ha) rfl) rfl)) ?_
 by_cases h : b.length < a.length
 ·rw [if_pos h,decide_eq_true (Int.ofNat_lt.mpr h)]; rfl
 ·rw [if_neg h,decide_eq_false fun h' => h (Int.ofNat_lt.mp h')]; rfl
theorem f1_end {U V : List Nat} {m : Int} {X3 X4 : Option D} (lU : U.length ≤ 40) (lV : V.length ≤ 40) (cU : ∀ x ∈ U,x < 128) (cV : ∀ x ∈ V,x < 128) (hm : (ed U V : Int) ≤ m + 1) :
  ∃ ρ',xsC (mkC l1) [e1_9,e1_10,e1_11,e1_12,e1_13,e1_14,e1_15,e1_16] (st0 U V m X3 X4) = some (.ret (.int (ed U V)),ρ') := by
 have up : ∀ {l : List Nat},l.length ≤ 40 → l.length ≤ 1000 := fun h => Nat.le_trans h (by decide)
 have h9 := ex9 (m := m) (X3 := X3) (X4 := X4) (up lU) (up lV)
 by_cases hemp : U = [] ∨ V = []
 ·rw [if_pos hemp] at h9
  have : (ed U V : Int) = 2 * ((U.length : Int) + V.length) := by
   rcases hemp with rfl | rfl
   ·rw [ed_nil]; exact congrArg ((2 : Int) * ·) (Int.zero_add (V.length : Int)).symm
   ·rw [ed_nil']; exact congrArg ((2 : Int) * ·) (Int.add_zero (U.length : Int)).symm
  rw [this]
  exact ⟨_,xs_ret h9⟩
 ·rw [if_neg hemp] at h9
  have h11 := ex11 (m := m) (X3 := X3) (X4 := X4) (up lU) (up lV)
  rw [xs_next h9,xs_next (ex10 lU lV)]
  by_cases hlen : V.length < U.length
  ·rw [if_pos hlen] at h11
   rw [xs_next h11,ed_symm U V]
   rw [ed_symm U V] at hm
   exact dp_part (List.length_pos_iff.mpr fun h => hemp (.inr h)) (Nat.le_of_lt hlen) (up lU) cV cU hm
  ·rw [if_neg hlen] at h11
   rw [xs_next h11]
   exact dp_part (List.length_pos_iff.mpr fun h => hemp (.inl h)) (Nat.not_lt.mp hlen) (up lV) cU cV hm
theorem f1_spec {a b : List Nat} {m : Int} (ha : a.length ≤ 40) (hb : b.length ≤ 40) (ca : ∀ x ∈ a,x < 128) (cb : ∀ x ∈ b,x < 128) (hm : (ed a b : Int) ≤ m + 1) : f1 [.str a,.str b,.int m] = some (.int (ed a b)) := by
 suffices h : ∃ ρ',xsC (mkC l1) bd1 (some (.str a) :: some (.str b) :: some (.int m) :: List.replicate 11 none) = some (.ret (.int (ed a b)),ρ') from let ⟨ρ',h⟩ := h; fn_ret (C := mkC l1) rfl h
 by_cases hab : a = b
 ·subst hab
  rw [ed_self]
  exact ⟨_,xs_ret (Eq.trans (ex_ite (c := true) (congrArg some (beq_self_eq_true a))) (xs_ret (ex_ret rfl rfl)))⟩
 ·have la : a.length ≤ 1000 := Nat.le_trans ha (by decide)
  have lb : b.length ≤ 1000 := Nat.le_trans hb (by decide)
  obtain ⟨q,q1,q2,q3,h2⟩ := while1 (C := mkC l1) (M := some (.int m)) (T := List.replicate 10 none) la lb 200 0 (Nat.zero_le _) (Nat.zero_le _) (by lia) rfl
  have lA : (a.drop q).length ≤ 40 := Nat.le_trans (List.length_drop ▸ Nat.sub_le _ _) ha
  have lB : (b.drop q).length ≤ 40 := Nat.le_trans (List.length_drop ▸ Nat.sub_le _ _) hb
  have hed1 : ed a b = ed (a.drop q) (b.drop q) := by
   conv => lhs; rw [← List.take_append_drop q a,← List.take_append_drop q b,q3]
   exact ed_pre _ _ _
  have cA : ∀ x ∈ a.drop q,x < 128 := fun x hx => ca x (List.mem_of_mem_drop hx)
  have cB : ∀ x ∈ b.drop q,x < 128 := fun x hx => cb x (List.mem_of_mem_drop hx)
  have s1 := slice_from q1 la
  have s2 := slice_from q2 lb
  generalize a.drop q = A at *
  generalize b.drop q = B at *
  obtain ⟨r,r1,r2,r3,h6⟩ := while2 (C := mkC l1) (M := some (.int m)) (P := some (.int (q : Int))) (T := List.replicate 9 none) (Nat.le_trans lA (by decide)) (Nat.le_trans lB (by decide)) 200 0 (Nat.zero_le _) (Nat.zero_le _) (by lia) (by rw [Nat.sub_zero,Nat.sub_zero,List.drop_length,List.drop_length])
  have hed2 : ed A B = ed (A.take (A.length - r)) (B.take (B.length - r)) := by
   conv => lhs; rw [← List.take_append_drop (A.length - r) A,← List.take_append_drop (B.length - r) B,r3]
   exact ed_post _ _ _
  rw [hed1.trans hed2] at hm ⊢
  obtain ⟨ρ',h⟩ := f1_end (m := m) (X3 := some (.int (q : Int))) (X4 := some (.int (-(r : Int)))) (Nat.le_trans (List.length_take ▸ Nat.min_le_right _ _) lA) (Nat.le_trans (List.length_take ▸ Nat.min_le_right _ _) lB) (fun x hx => cA x (List.mem_of_mem_take hx)) (fun x hx => cB x (List.mem_of_mem_take hx)) hm
  refine ⟨ρ',Eq.trans (xs_next (Eq.trans (ex_ite (c := false) (congrArg some (beq_eq_false_iff_ne.mpr hab))) rfl)) ?_⟩
  refine Eq.trans (xs_next (ex_set rfl rfl)) ?_
  refine Eq.trans (xs_next h2) ?_
  refine Eq.trans (xs_next (ex_set (Eq.trans (ev_slice rfl rfl rfl) s1) rfl)) ?_
  refine Eq.trans (xs_next (ex_set (Eq.trans (ev_slice rfl rfl rfl) s2) rfl)) ?_
  refine Eq.trans (xs_next (ex_set rfl rfl)) ?_
  refine Eq.trans (xs_next h6) ?_
  refine Eq.trans (xs_next (ex_set (back_slice rfl r1 (Nat.le_trans lA (by decide))) rfl)) ?_
  refine Eq.trans (xs_next (ex_set (back_slice rfl r2 (Nat.le_trans lB (by decide))) rfl)) ?_
  exact h
theorem turns_map {α : Type} {C : GC} {elt : CE} {i : Nat} {ρ : Rho} {f g : α → D} {ys : List α} (h : ∀ y ∈ ys,evC C (ρ.set i (some (f y))) elt = some (g y) ∧ (g y).isEl = true) (hl : ys.length ≤ 1000000) :
  turnsC (fun ρ => testsC C ρ []) i (fun ρ' => gensC C (fun ρ' => (evC C ρ' elt).bind fun d => if d.isEl then some [d] else none) [] ρ') ρ (ys.map f) = some (ys.map g) := by
 induction ys with
 | nil => rfl
 | cons y ys ih =>
  obtain ⟨h1,h2⟩ := h y List.mem_cons_self
  have e : (evC C (ρ.set i (some (f y))) elt).bind (fun d => if d.isEl then some [d] else none) = some [g y] := by rw [h1]; exact if_pos h2
  show Option.bind ((evC C (ρ.set i (some (f y))) elt).bind (fun d => if d.isEl then some [d] else none)) _ = _
  rw [e]
  show Option.bind (turnsC _ _ _ _ (ys.map f)) _ = _
  rw [ih (fun z hz => h z (List.mem_cons_of_mem _ hz)) (Nat.le_of_succ_le hl)]
  exact if_pos (fits_of (by rw [List.length_map]; exact Nat.le_trans (Nat.le_of_eq (Nat.add_comm _ _)) hl))
section
variable {α : Type} {C : GC} {ρ : Rho} {fr : List Nat} {n i : Nat} {elt e : CE} {d : D} {es : List CE} {as : List D} {ys : List α} {f g : α → D}
theorem comp_expr (he : evC C ρ e = some d) (hi : items d = some (ys.map f)) (hl : ys.length ≤ 1000000)
  (h : ∀ y ∈ ys,evC C ((fr.map (fun i => ρ[i]?.join) ++ List.replicate n none).set i (some (f y))) elt = some (g y) ∧ (g y).isEl = true) : evC C ρ (.comp fr n elt (.expr i e []) []) = some (.list (ys.map g)) := by
 show ((evC C ρ e).bind _).map _ = _
 rw [he]
 show ((items d).bind _).map _ = _
 rw [hi]
 show (ite (fits (ys.map f).length = true) (turnsC _ _ _ _ (ys.map f)) none).map _ = _
 rw [turns_map h hl,if_pos (fits_of (by rw [List.length_map]; exact hl))]; rfl
theorem comp_range (he : evsC C ρ es = some as) (hi : ranged as = some (ys.map f)) (hl : ys.length ≤ 1000000)
  (h : ∀ y ∈ ys,evC C ((fr.map (fun i => ρ[i]?.join) ++ List.replicate n none).set i (some (f y))) elt = some (g y) ∧ (g y).isEl = true) : evC C ρ (.comp fr n elt (.range i es []) []) = some (.list (ys.map g)) := by
 show ((evsC C ρ es).bind _).map _ = _
 rw [he]
 show ((ranged as).bind _).map _ = _
 rw [hi]
 show (ite (fits (ys.map f).length = true) (turnsC _ _ _ _ (ys.map f)) none).map _ = _
 rw [turns_map h hl,if_pos (fits_of (by rw [List.length_map]; exact hl))]; rfl
end
noncomputable def signs : List Nat := [97,65,98,66,33,37,38,40,41,42,43,44,45,46,47,58,59,60,61,62,64,91,93,94,123,124,125,126]
noncomputable def ops : List (List Nat) := [[40],[41],[91],[93],[58],[44],[59],[43],[45],[42],[47],[124],[38],[60],[62],[61],[46],[37],[123],[125],[61,61],[33,61],[60,61],[62,61],[126],[94],[60,60],[62,62],[42,42],[43,61],[45,61],[42,61],[47,61],[37,61],[38,61],[124,61],[94,61],[60,60,61],[62,62,61],[42,42,61],[47,47],[47,47,61],[64],[64,61],[45,62],[46,46,46],[58,61],[33]]
noncomputable def isTerm (n : Nat) : Prop := n = 97 ∨ n = 65 ∨ n = 98 ∨ n = 66 ∨ (7 ≤ n ∧ n ≤ 54)
noncomputable def spell (n : Nat) : List Nat := if n > 64 then [n] else ops.getD (n - 7) []
theorem signs_lt : ∀ c ∈ signs,c < 128 := by decide
theorem ops_signs : ∀ o ∈ ops,(∀ c ∈ o,c ∈ signs) ∧ 1 ≤ o.length ∧ o.length ≤ 3 := by decide
theorem spell_ok {n : Nat} (h : isTerm n) : (∀ c ∈ spell n,c ∈ signs) ∧ 1 ≤ (spell n).length ∧ (spell n).length ≤ 3 := by
 unfold spell
 rcases h with rfl | rfl | rfl | rfl | ⟨h1,h2⟩
 ·decide
 ·decide
 ·decide
 ·decide
 ·rw [if_neg (show ¬ n > 64 by lia)]
  have hlt : n - 7 < ops.length := Nat.lt_of_lt_of_le (show n - 7 < 48 by lia) (Nat.le_of_eq rfl)
  rw [List.getD_eq_getElem?_getD,List.getElem?_eq_getElem hlt,Option.getD_some]
  exact ops_signs _ (List.getElem_mem hlt)
theorem bchr {n : Nat} (h : n ≤ 1000) : bcall "chr" [.int n] = some (.str [n]) := by
 show (if decide ((0 : Int) ≤ n) && decide ((n : Int) ≤ 0x10FFFF) then some (D.str [(n : Int).toNat]) else none) = _
 exact if_pos (by rw [decide_eq_true (Int.natCast_nonneg n),decide_eq_true (show (n : Int) ≤ 0x10FFFF from Int.ofNat_le.mpr (Nat.le_trans h (by decide)))]; rfl)
theorem subs_list {ds : List D} {k : Nat} (hk : k ≤ 1000000) : subs (.list ds) (.int k) = ds[k]? :=
 if_pos (by rw [small_nat hk,decide_eq_true (Int.natCast_nonneg k)]; rfl)
theorem subs_bor {ds : List D} {k : Nat} (hk : k ≤ 1000000) : subs (.bor ds) (.int k) = ds[k]? :=
 if_pos (by rw [small_nat hk,decide_eq_true (Int.natCast_nonneg k)]; rfl)
theorem f14_spec {n : Nat} (h : isTerm n) : f14 [.int n] = some (.str (spell n)) := by
 have hb : n ≤ 98 := by unfold isTerm at h; lia
 unfold spell
 by_cases hgt : n > 64
 ·rw [if_pos hgt]
  exact fn_ret (C := mkC l14) (ρ' := [some (.int n)]) rfl (xs_ret (Eq.trans (ex_ite (c := true) (congrArg some (decide_eq_true (Int.ofNat_lt.mpr hgt)))) (xs_ret (ex_ret (Eq.trans (ev_blt (evs_one rfl)) (bchr (Nat.le_trans hb (by decide)))) rfl))))
 ·have h7 : 7 ≤ n ∧ n ≤ 54 := by unfold isTerm at h; lia
  have hlt : n - 7 < ops.length := Nat.lt_of_lt_of_le (show n - 7 < 48 by lia) (Nat.le_of_eq rfl)
  rw [if_neg hgt,List.getD_eq_getElem?_getD,List.getElem?_eq_getElem hlt,Option.getD_some]
  have hbd : bd14 = [.ite (.cmp .Gt (.var 0) (.const (.int (64)))) [.ret (.blt "chr" [(.var 0)])] [],.ret (.subs (.list (ops.map fun o => .const (.str o))) (.bin .Sub (.var 0) (.const (.int (7)))))] := rfl
  refine fn_ret (C := mkC l14) (ρ' := [some (.int n)]) rfl ?_
  rw [hbd]
  refine Eq.trans (xs_next (Eq.trans (ex_ite (c := false) (congrArg some (decide_eq_false fun h => hgt (Int.ofNat_lt.mp h)))) rfl)) (xs_ret (ex_ret (Eq.trans (ev_subs (x := .list (ops.map .str)) (y := .int (n - 7 : Nat)) rfl (by rw [Int.ofNat_sub h7.1]; rfl)) ?_) rfl))
  rw [subs_list (by lia),List.getElem?_map,List.getElem?_eq_getElem hlt]; rfl
theorem f17_spec {c d : Nat} (hc : c ∈ signs) (hd : d ∈ signs) : f17 [.str [c],.str [d]] = some (.int (cost c d)) := by
 have key : ∀ c ∈ signs,∀ d ∈ signs,cost c d = if c = d then 0 else if ([[97,65],[65,97],[98,66],[66,98]] : List (List Nat)).contains [c,d] then 1 else 2 := by decide +kernel
 have hk := key c hc d hd
 refine fn_ret (C := mkC l17) (ρ' := [some (.str [c]),some (.str [d])]) rfl ?_
 by_cases h : c = d
 ·subst h
  rw [cost_self]
  exact xs_ret (Eq.trans (ex_ite (c := true) (congrArg some (beq_self_eq_true _))) (xs_ret (ex_ret rfl rfl)))
 ·rw [if_neg h] at hk
  rw [hk]
  refine Eq.trans (xs_next (Eq.trans (ex_ite (c := false) (congrArg some (beq_one h))) rfl)) (xs_ret (ex_ret (Eq.trans (ev_ite (c := ([[97,65],[65,97],[98,66],[66,98]] : List (List Nat)).contains [c,d]) rfl) ?_) rfl))
  by_cases h2 : ([[97,65],[65,97],[98,66],[66,98]] : List (List Nat)).contains [c,d] = true
  ·rw [h2]; rfl
  ·rw [eq_false_of_ne_true h2]; rfl
noncomputable def mc (c : Nat) : List Nat → Nat
 | [] => 2
 | d :: p => min (cost c d) (mc c p)
theorem mc_le (c : Nat) : ∀ p,mc c p ≤ 2
 | [] => Nat.le_refl _
 | d :: p => by have := mc_le c p; simp only [mc]; lia
theorem ed_mc (c : Nat) : ∀ p : List Nat,p ≠ [] → ed [c] p + 2 = 2 * p.length + mc c p
 | [],h => absurd rfl h
 | [d],_ => by
  have := cost_le c d
  rw [ed_cons,ed_nil,ed_nil',ed_nil]; simp only [mc,List.length_cons,List.length_nil]; lia
 | d :: e :: p,_ => by
  have ih := ed_mc c (e :: p) (by simp)
  have h1 := mc_le c (e :: p)
  have h2 := cost_le c d
  rw [ed_cons,ed_nil,ed_nil]
  simp only [List.length_cons] at ih ⊢
  rw [show mc c (d :: e :: p) = min (cost c d) (mc c (e :: p)) from rfl]
  lia
theorem fold_min : ∀ (l : List Int) (m : Int),l.foldl (fun m x => if x < m then x else m) m ≤ m ∧ (∀ x ∈ l,l.foldl (fun m x => if x < m then x else m) m ≤ x) ∧ (l.foldl (fun m x => if x < m then x else m) m = m ∨ l.foldl (fun m x => if x < m then x else m) m ∈ l)
 | [],m => ⟨Int.le_refl _,(fun x h => by cases h),.inl rfl⟩
 | a :: l,m => by
  obtain ⟨h1,h2,h3⟩ := fold_min l (if a < m then a else m)
  simp only [List.foldl_cons]
  refine ⟨?_,fun x hx => ?_,?_⟩
  ·split at h1 <;> rename_i h <;> (try rw [if_pos h]) <;> (try rw [if_neg h]) <;> lia
  ·rcases List.mem_cons.mp hx with rfl | hx
   ·split at h1 <;> rename_i h <;> (try rw [if_pos h]) <;> (try rw [if_neg h]) <;> lia
   ·exact h2 x hx
  ·rcases h3 with h3 | h3
   ·rw [h3]
    split
    ·exact .inr List.mem_cons_self
    ·exact .inl rfl
   ·exact .inr (List.mem_cons_of_mem _ h3)
theorem minOf_eq {l : List Int} {m : Int} (hm : m ∈ l) (hle : ∀ x ∈ l,m ≤ x) : minOf l = some m := by
 cases l with
 | nil => cases hm
 | cons a r =>
  obtain ⟨h1,h2,h3⟩ := fold_min r a
  simp only [minOf,Option.some.injEq]
  have ha := hle a List.mem_cons_self
  have hres : m ≤ r.foldl (fun m x => if x < m then x else m) a := by
   rcases h3 with h3 | h3
   ·rw [h3]; exact ha
   ·exact hle _ (List.mem_cons_of_mem _ h3)
  have : r.foldl (fun m x => if x < m then x else m) a ≤ m := by
   rcases List.mem_cons.mp hm with rfl | hm
   ·exact h1
   ·exact h2 m hm
  lia
theorem mc_mem (c : Nat) : ∀ p : List Nat,p ≠ [] → mc c p ∈ p.map (cost c)
 | [],h => absurd rfl h
 | [d],_ => by have := cost_le c d; simp only [mc,List.map_cons,List.map_nil,List.mem_singleton]; lia
 | d :: e :: p,_ => by
  have ih := mc_mem c (e :: p) (by simp)
  rw [show mc c (d :: e :: p) = min (cost c d) (mc c (e :: p)) from rfl,List.map_cons]
  rcases Nat.le_total (cost c d) (mc c (e :: p)) with h | h
  ·rw [Nat.min_eq_left h]; exact List.mem_cons_self
  ·rw [Nat.min_eq_right h]; exact List.mem_cons_of_mem _ ih
theorem mc_least (c : Nat) : ∀ (p : List Nat) (d : Nat),d ∈ p → mc c p ≤ cost c d
 | e :: p,d,h => by
  rw [show mc c (e :: p) = min (cost c e) (mc c p) from rfl]
  rcases List.mem_cons.mp h with rfl | h
  ·exact Nat.min_le_left _ _
  ·exact Nat.le_trans (Nat.min_le_right _ _) (mc_least c p d h)
theorem bmin_list {ds : List D} {ns : List Int} {m : Int} (h : intsOf ds = some ns) (hl : ns.length ≤ 1000000) (hm : m ∈ ns) (hle : ∀ x ∈ ns,m ≤ x) : bcall "min" [.list ds] = some (.int m) := by
 show ((intsOf ds).bind fun ns => if fits ns.length then (minOf ns).map D.int else none) = _
 rw [h]
 exact (if_pos (fits_of hl)).trans (by rw [minOf_eq hm hle]; rfl)
theorem ints_map {α : Type} (f : α → Int) (l : List α) : intsOf (l.map fun x => D.int (f x)) = some (l.map f) := by
 induction l with
 | nil => rfl
 | cons a l ih =>
  show (intsOf (l.map fun x => D.int (f x))).bind _ = _
  rw [ih]; rfl
theorem f18_spec {c : Nat} {p : List Nat} (hc : c ∈ signs) (hp : ∀ x ∈ p,x ∈ signs) (hl : p.length ≤ 3) : f18 [.str [c],.str p] = some (.int (ed [c] p)) := by
 refine fn_ret (C := mkC l18) (ρ' := [some (.str [c]),some (.str p)]) rfl ?_
 by_cases h0 : p = []
 ·subst h0
  rw [ed_nil']
  exact xs_ret (Eq.trans (ex_ite (c := true) rfl) (xs_ret (ex_ret rfl rfl)))
 ·have hl' : p.length ≤ 1000 := Nat.le_trans hl (by decide)
  have hed : 2 * (p.length : Int) - 2 + mc c p = (ed [c] p : Int) := by have := ed_mc c p h0; lia
  rw [← hed]
  refine Eq.trans (xs_next (Eq.trans (ex_ite (c := false) (congrArg some (beq_eq_false_iff_ne.mpr h0))) rfl)) (xs_ret (ex_ret (Eq.trans (ev_bin (Eq.trans (ev_bin (Eq.trans (ev_bin rfl (ev_len rfl hl')) (mul_small rfl (small_nat (Nat.le_trans hl' (by decide))))) rfl) rfl) (Eq.trans (ev_blt (evs_one
   (comp_expr (ys := p) (f := fun x => .str [x]) (g := fun x => .int (cost c x)) rfl rfl (Nat.le_trans hl (by decide)) fun o ho => ⟨ev_call (evs_cons rfl (evs_one rfl)) rfl (f17_spec hc (hp o ho)) rfl,rfl⟩)))
   (bmin_list (ints_map (fun x => (cost c x : Int)) p) (by rw [List.length_map]; exact Nat.le_trans hl (by decide)) ?_ fun x hx => ?_))) rfl) rfl))
  ·obtain ⟨d,h1,h2⟩ := List.mem_map.mp (mc_mem c p h0)
   exact List.mem_map.mpr ⟨d,h1,by rw [h2]⟩
  ·obtain ⟨d,h1,rfl⟩ := List.mem_map.mp hx
   exact Int.ofNat_le.mpr (mc_least c p d h1)
noncomputable def mk (x : Nat) : List Nat → Int
 | [] => 0
 | c :: t => (if c = x then 1 else 0) + 2 * mk x t
noncomputable def tab (t w : List Nat) (i j : Nat) : Int := if i ≤ j then (ed t ((w.drop i).take (j - i)) : Int) else if t.length = 1 then 2 else 99
noncomputable def rec_ (t w : List Nat) : D := .list [.int t.length,.list (w.map fun x => .int (mk x t)),.list ((List.range 4).map fun i => .list ((List.range 4).map fun j => .int (tab t w i j)))]
theorem ranged4 : ranged [.int 4] = some ((List.range 4).map fun (i : Nat) => D.int i) := rfl
theorem ranged3' : ranged [.int 3] = some ((List.range 3).map fun (i : Nat) => D.int i) := rfl
theorem slice_both {l : List Nat} {i j : Nat} (hi : i ≤ 1000000) (hj : j ≤ 1000000) (hl : l.length ≤ 1000000) : slice (.str l) (.int i) (.int j) = some (.str ((l.drop i).take (j - i))) := by
 have h1 : optInt (.int i) = some (some (i : Int)) := if_pos (small_nat hi)
 have h2 : optInt (.int j) = some (some (j : Int)) := if_pos (small_nat hj)
 unfold slice
 rw [h1,h2,← cut_both]
 exact if_pos (fits_of hl)
theorem f19_spec {c : Nat} {w : List Nat} (hc : c ∈ signs) (hw : ∀ x ∈ w,x ∈ signs) (hl : w.length = 3) : f19 [.str [c],.str w] = some (rec_ [c] w) := by
 refine fn_ret (C := mkC l19) (ρ' := [some (.str [c]),some (.str w),some (.list (w.map fun x => D.int (mk x [c])))]) rfl ?_
 refine Eq.trans (xs_next (ex_set (comp_expr (ys := w) (f := fun x => .str [x]) (g := fun x => .int (mk x [c])) rfl rfl (by rw [hl]; decide) fun o ho => ⟨Eq.trans (ev_ite (c := ([c] : List Nat) == [o]) rfl) ?_,rfl⟩) rfl)) (xs_ret (ex_ret (ev_list (evs_cons rfl (evs_cons rfl (evs_one
  (comp_range (ys := List.range 4) (f := fun i => .int i) (g := fun i => .list ((List.range 4).map fun j => .int (tab [c] w i j))) rfl ranged4 (by decide) fun i hi =>
   ⟨comp_range (ys := List.range 4) (f := fun j => .int j) (g := fun j => .int (tab [c] w i j)) rfl ranged4 (by decide) fun j hj => ⟨?_,rfl⟩,rfl⟩)))) rfl rfl) rfl))
 ·show _ = some (D.int ((if c = o then 1 else 0) + 2 * 0))
  by_cases h : c = o
  ·rw [h,beq_self_eq_true,if_pos (Eq.refl o)]; rfl
  ·rw [beq_one h,if_neg h]; rfl
 ·have up : ∀ {i : Nat},i ∈ List.range 4 → i ≤ 1000000 := fun h => Nat.le_trans (Nat.le_of_lt (List.mem_range.mp h)) (by decide)
  refine ev_call (evs_cons rfl (evs_one (Eq.trans (ev_slice rfl rfl rfl) (slice_both (up hi) (up hj) (by rw [hl]; decide))))) rfl
   (Eq.trans (f18_spec hc (fun x hx => hw x (List.mem_of_mem_drop (List.mem_of_mem_take hx))) (Nat.le_trans (List.length_take_le' ..) (Nat.le_trans (List.length_drop ▸ Nat.sub_le _ _) (Nat.le_of_eq hl)))) (congrArg (fun x => some (D.int x)) ?_)) rfl
  unfold tab
  by_cases hij : i ≤ j
  ·rw [if_pos hij]
  ·rw [if_neg hij,Nat.sub_eq_zero_of_le (Nat.le_of_not_le hij),List.take_zero,ed_nil']; rfl
theorem mk_bound (x : Nat) : ∀ t : List Nat,0 ≤ mk x t ∧ mk x t < 2 ^ t.length
 | [] => by simp [mk]
 | c :: t => by
  obtain ⟨h1,h2⟩ := mk_bound x t
  have e : (2 : Int) ^ (t.length + 1) = 2 * 2 ^ t.length := by rw [Int.pow_succ]; lia
  rw [List.length_cons,e]
  simp only [mk]
  generalize (2 : Int) ^ t.length = P at *
  constructor <;> split <;> lia
theorem mk_append (x : Nat) (t' : List Nat) : ∀ t : List Nat,mk x (t ++ t') = mk x t + mk x t' * 2 ^ t.length
 | [] => by simp [mk]
 | c :: t => by
  have ih := mk_append x t' t
  rw [List.cons_append]
  simp only [mk]
  rw [ih,List.length_cons,Int.pow_succ]
  generalize (2 : Int) ^ t.length = P
  have : mk x t' * (P * 2) = 2 * (mk x t' * P) := by rw [← Int.mul_assoc,Int.mul_comm (mk x t' * P) 2]
  rw [this]; lia
theorem pow_bound {n : Nat} (h : n ≤ 9) : (2 : Int) ^ n ≤ 512 ∧ 0 < (2 : Int) ^ n := by
 have : ∀ n : Fin 10,(2 : Int) ^ n.val ≤ 512 ∧ 0 < (2 : Int) ^ n.val := by decide
 exact this ⟨n,by lia⟩
theorem subs_range {n i : Nat} {g : Nat → D} (h : i < n) (hn : n ≤ 1000) : subs (.list ((List.range n).map g)) (.int i) = some (g i) := by
 rw [subs_list (Nat.le_trans (Nat.le_of_lt h) (Nat.le_trans hn (by decide))),List.getElem?_map,List.getElem?_range h]; rfl
theorem subs_map {α : Type} {l : List α} {i : Nat} {g : α → D} (h : i < l.length) (hn : l.length ≤ 1000) : subs (.list (l.map g)) (.int i) = some (g l[i]) := by
 rw [subs_list (Nat.le_trans (Nat.le_of_lt h) (Nat.le_trans hn (by decide))),List.getElem?_map,List.getElem?_eq_getElem h]; rfl
theorem rec0 (t w : List Nat) : subs (rec_ t w) (.int 0) = some (.int t.length) := rfl
theorem rec1 (t w : List Nat) : subs (rec_ t w) (.int 1) = some (.list (w.map fun x => .int (mk x t))) := rfl
theorem rec2 (t w : List Nat) : subs (rec_ t w) (.int 2) = some (.list ((List.range 4).map fun i => .list ((List.range 4).map fun j => .int (tab t w i j)))) := rfl
noncomputable def ceM : CE := .comp [0,1] 2 (.bin .Add (.subs (.subs (.var 0) (.const (.int (1)))) (.var 3)) (.bin .Mult (.subs (.subs (.var 1) (.const (.int (1)))) (.var 3)) (.bin .Pow (.const (.int (2))) (.subs (.var 0) (.const (.int (0))))))) (.range 3 [(.const (.int (3)))] []) []
noncomputable def ceK : CE := .comp [4,6,0,1] 2 (.bin .Add (.subs (.subs (.subs (.var 2) (.const (.int (2)))) (.var 0)) (.var 5)) (.subs (.subs (.subs (.var 3) (.const (.int (2)))) (.var 5)) (.var 1))) (.range 5 [(.var 4),(.bin .Add (.var 6) (.const (.int (1))))] []) []
noncomputable def bdJ : List CStm := [.own 5 (.bin .Mult (.list [(.const (.int (99)))]) (.const (.int (4)))),.forR 6 [(.var 4),(.const (.int (4)))] [.item 5 (.var 6) (.blt "min" [ceK])] [],.app 3 (some 5) (.var 5)]
theorem bd20_eq : bd20 = [.set 2 ceM,.own 3 (.list []),.forR 4 [(.const (.int (4)))] bdJ [],.ret (.list [(.bin .Add (.subs (.var 0) (.const (.int (0)))) (.subs (.var 1) (.const (.int (0))))),(.var 2),(.var 3)])] := rfl
section
variable {C : GC} {t t' w : List Nat}
theorem marks_join (h1 : t.length + t'.length ≤ 9) (hw : w.length = 3) {T : Rho} : evC C (some (rec_ t w) :: some (rec_ t' w) :: T) ceM = some (.list (w.map fun x => .int (mk x (t ++ t')))) := by
 have hp := pow_bound (Nat.le_trans (Nat.le_add_right _ _) h1)
 have hp' := pow_bound (Nat.le_trans (Nat.le_add_left _ _) h1)
 have hpow : binop .Pow (.int 2) (.int t.length) = some (.int (2 ^ t.length)) :=
  if_pos (by rw [decide_eq_true (Int.natCast_nonneg t.length),decide_eq_true (show (t.length : Int) ≤ 1000 from Int.ofNat_le.mpr (by lia))]; rfl)
 have := comp_range (C := C) (ρ := some (rec_ t w) :: some (rec_ t' w) :: T) (fr := [0,1]) (n := 2) (i := 3) (elt := .bin .Add (.subs (.subs (.var 0) (.const (.int (1)))) (.var 3)) (.bin .Mult (.subs (.subs (.var 1) (.const (.int (1)))) (.var 3)) (.bin .Pow (.const (.int (2))) (.subs (.var 0) (.const (.int (0)))))))
  (es := [(.const (.int (3)))]) (ys := List.range 3) (f := fun k => .int k) (g := fun k => .int (mk (w.getD k 0) (t ++ t'))) rfl ranged3' (by decide) fun k hk => ⟨by
   have hkw : k < w.length := hw ▸ List.mem_range.mp hk
   have hb := mk_bound w[k] t'
   have h3 : w.length ≤ 1000 := hw ▸ by decide
   refine Eq.trans (ev_bin (Eq.trans (ev_subs (Eq.trans (ev_subs rfl rfl) (rec1 t w)) rfl) (subs_map hkw h3)) (Eq.trans (ev_bin (Eq.trans (ev_subs (Eq.trans (ev_subs rfl rfl) (rec1 t' w)) rfl) (subs_map hkw h3)) (Eq.trans (ev_bin rfl (Eq.trans (ev_subs rfl rfl) (rec0 t w))) hpow)) (mul_small (small_of (by lia)) (small_of (by lia))))) ?_
   rw [List.getD_eq_getElem?_getD,List.getElem?_eq_getElem hkw,Option.getD_some,mk_append]; rfl,rfl⟩
 refine Eq.trans this ?_
 match w,hw with
 | [_,_,_],_ => rfl
theorem part_take {i x j : Nat} (h : i + x ≤ j) : (w.drop i).take (i + x - i) = ((w.drop i).take (j - i)).take x := by
 rw [List.take_take]; congr 1; lia
theorem part_drop {i x j : Nat} (h : i + x ≤ j) : (w.drop (i + x)).take (j - (i + x)) = ((w.drop i).take (j - i)).drop x := by
 rw [List.drop_take,List.drop_drop]; congr 1; lia
theorem ranged_two {i j : Nat} (h1 : i ≤ 1000) (h2 : j ≤ 1000) : ranged [.int i,.int j] = some ((List.range (j - i)).map fun (x : Nat) => D.int ((i + x : Nat) : Int)) := by
 have e1 : ((j : Int) - (i : Int)).toNat = j - i := by lia
 show (if small (i : Int) && small (j : Int) && fits ((j : Int) - (i : Int)).toNat then some ((List.range ((j : Int) - (i : Int)).toNat).map fun (x : Nat) => D.int ((i : Int) + (x : Int) * 1)) else none) = _
 rw [e1,if_pos (by rw [small_nat (Nat.le_trans h1 (by decide)),small_nat (Nat.le_trans h2 (by decide)),fits_of (Nat.le_trans (Nat.sub_le _ _) (Nat.le_trans h2 (by decide)))]; rfl)]
 exact congrArg some (List.map_congr_left fun x _ => congrArg D.int (by rw [Int.mul_one]; rfl))
theorem cell_join (hw : w.length = 3) {X2 X3 X5 : Option D} {i j : Nat} (hij : i ≤ j) (hj : j ≤ 3) :
  evC C [some (rec_ t w),some (rec_ t' w),X2,X3,some (.int i),X5,some (.int j)] (.blt "min" [ceK]) = some (.int (tab (t ++ t') w i j)) := by
 have k4 : (4 : Nat) ≤ 1000 := by decide
 have hcomp := comp_range (C := C) (ρ := [some (rec_ t w),some (rec_ t' w),X2,X3,some (.int i),X5,some (.int j)]) (fr := [4,6,0,1]) (n := 2) (i := 5) (elt := .bin .Add (.subs (.subs (.subs (.var 2) (.const (.int (2)))) (.var 0)) (.var 5)) (.subs (.subs (.subs (.var 3) (.const (.int (2)))) (.var 5)) (.var 1)))
  (es := [(.var 4),(.bin .Add (.var 6) (.const (.int (1))))]) (as := [.int i,.int ((j + 1 : Nat) : Int)]) (ys := List.range (j + 1 - i)) (f := fun x => .int ((i + x : Nat) : Int)) (g := fun x => .int (tab t w i (i + x) + tab t' w (i + x) j)) rfl (ranged_two (by lia) (by lia)) (by rw [List.length_range]; lia) fun k hk => ⟨by
   have hk4 : i + k < 4 := by have := List.mem_range.mp hk; lia
   refine Eq.trans (ev_bin (Eq.trans (ev_subs (Eq.trans (ev_subs (Eq.trans (ev_subs rfl rfl) (rec2 t w)) rfl) (subs_range (show i < 4 by lia) k4)) rfl) (subs_range hk4 k4)) (Eq.trans (ev_subs (Eq.trans (ev_subs (Eq.trans (ev_subs rfl rfl) (rec2 t' w)) rfl) (subs_range hk4 k4)) rfl) (subs_range (Nat.lt_succ_of_le hj) k4))) rfl,rfl⟩
 have hpl : ((w.drop i).take (j - i)).length = j - i := by rw [List.length_take,List.length_drop,hw]; lia
 have hval : ∀ x,x ≤ j - i → tab t w i (i + x) + tab t' w (i + x) j = ((ed t (((w.drop i).take (j - i)).take x) + ed t' (((w.drop i).take (j - i)).drop x) : Nat) : Int) := fun x hx => by
  have hx' : i + x ≤ j := by lia
  unfold tab
  rw [if_pos (Nat.le_add_right i x),if_pos hx',part_take hx',part_drop hx']; rfl
 have htab : tab (t ++ t') w i j = (ed (t ++ t') ((w.drop i).take (j - i)) : Int) := if_pos hij
 refine Eq.trans (ev_blt (evs_one hcomp)) (bmin_list (ints_map (fun x => tab t w i (i + x) + tab t' w (i + x) j) (List.range (j + 1 - i))) (by rw [List.length_map,List.length_range]; lia) ?_ fun x hx => ?_)
 ·obtain ⟨x,hx,hs⟩ := ed_split t t' ((w.drop i).take (j - i))
  rw [hpl] at hx
  exact List.mem_map.mpr ⟨x,List.mem_range.mpr (by lia),by rw [hval x hx,htab,hs]⟩
 ·obtain ⟨k,hk,rfl⟩ := List.mem_map.mp hx
  rw [List.mem_range] at hk
  have h2 := ed_append t (((w.drop i).take (j - i)).take k) t' (((w.drop i).take (j - i)).drop k)
  rw [List.take_append_drop] at h2
  rw [hval k (by lia),htab]
  exact Int.ofNat_le.mpr h2
end
section
variable {C : GC} {t t' w : List Nat}
noncomputable def costsS (u w : List Nat) (i j : Nat) : List D := (List.range 4).map fun x => .int (if i ≤ x ∧ x < j then tab u w i x else 99)
noncomputable def rowS (u w : List Nat) (i : Nat) : D := .list ((List.range 4).map fun j => .int (tab u w i j))
noncomputable def stJ (t t' w : List Nat) (M : D) (tb : List D) (I : Option D) (X5 X6 : Option D) : Rho := [some (rec_ t w),some (rec_ t' w),some M,some (.own tb),I,X5,X6]
theorem costs_set {u : List Nat} {i j : Nat} (hij : i ≤ j) : (costsS u w i j).set j (.int (tab u w i j)) = costsS u w i (j + 1) := by
 refine List.ext_getElem (by rw [List.length_set]; rfl) fun x h1 h2 => ?_
 rw [List.getElem_set]
 simp only [costsS,List.getElem_map,List.getElem_range]
 by_cases hx : j = x
 ·rw [if_pos hx,← hx,if_pos ⟨hij,Nat.lt_succ_self _⟩]
 ·rw [if_neg hx]
  by_cases h3 : i ≤ x ∧ x < j
  ·rw [if_pos h3,if_pos ⟨h3.1,Nat.lt_succ_of_lt h3.2⟩]
  ·rw [if_neg h3,if_neg fun h => h3 ⟨h.1,Nat.lt_of_le_of_ne (Nat.le_of_lt_succ h.2) (Ne.symm hx)⟩]
theorem inner_join (hw : w.length = 3) {M : D} {tb : List D} {i : Nat} (k : Nat) : ∀ (j : Nat) (X6 : Option D),i ≤ j → j + k = 4 →
  ∃ X6',forGoC (fun ρ => xsC C [.item 5 (.var 6) (.blt "min" [ceK])] ρ) (fun ρ => xsC C [] ρ) 6 ((List.range' j k).map fun (x : Nat) => D.int (x : Int)) (stJ t t' w M tb (some (.int i)) (some (.own (costsS (t ++ t') w i j))) X6) =
   some (.next,stJ t t' w M tb (some (.int i)) (some (.own (costsS (t ++ t') w i 4))) X6') := by
 induction k with
 | zero =>
  intro j X6 hij hjk
  obtain rfl : j = 4 := hjk
  exact ⟨X6,rfl⟩
 | succ k ih =>
  intro j X6 hij hjk
  have hj : j < 4 := hjk ▸ Nat.lt_add_of_pos_right (Nat.succ_pos k)
  obtain ⟨X6',h⟩ := ih (j + 1) (some (.int j)) (Nat.le_succ_of_le hij) (by rw [← hjk]; exact Nat.succ_add_eq_add_succ j k)
  refine ⟨X6',Eq.trans (for_next (xs_next (ex_item (k := j) (cell_join hw (X2 := some M.seen) (X3 := some (.bor tb)) (X5 := some (.bor (costsS (t ++ t') w i j))) hij (Nat.le_of_lt_succ hj)) rfl rfl rfl hj rfl))) ?_⟩
  rw [costs_set hij]
  exact h
theorem costs_end {u : List Nat} {i : Nat} (hu : 2 ≤ u.length) : D.list (costsS u w i 4) = rowS u w i := by
 refine congrArg D.list (List.map_congr_left fun x hx => congrArg D.int ?_)
 by_cases h : i ≤ x
 ·rw [if_pos ⟨h,List.mem_range.mp hx⟩]
 ·rw [if_neg fun h' => h h'.1]
  unfold tab
  rw [if_neg h,if_neg (Nat.ne_of_gt hu)]
theorem costs_start {u : List Nat} {i : Nat} : costsS u w i i = [.int 99,.int 99,.int 99,.int 99] := by
 refine Eq.trans (List.map_congr_left (g := fun _ => D.int 99) fun x _ => ?_) rfl
 rw [if_neg fun h => Nat.not_lt.mpr h.1 h.2]
structure J3 where
 a : Option D
 b : Option D
 c : Option D
theorem outer_join (hw : w.length = 3) (hlen : 2 ≤ (t ++ t').length) {M : D} (k : Nat) : ∀ (i : Nat) (J : J3),i + k = 4 →
  ∃ J' : J3,forGoC (fun ρ => xsC C bdJ ρ) (fun ρ => xsC C [] ρ) 4 ((List.range' i k).map fun (x : Nat) => D.int (x : Int)) (stJ t t' w M ((List.range i).map (rowS (t ++ t') w)) J.a J.b J.c) =
   some (.next,stJ t t' w M ((List.range 4).map (rowS (t ++ t') w)) J'.a J'.b J'.c) := by
 induction k with
 | zero =>
  intro i J h
  obtain rfl : i = 4 := h
  exact ⟨J,rfl⟩
 | succ k ih =>
  intro i J h
  have hi : i < 4 := h ▸ Nat.lt_add_of_pos_right (Nat.succ_pos k)
  have hi' : i ≤ 1000 := Nat.le_trans (Nat.le_of_lt hi) (by decide)
  obtain ⟨X6',hin⟩ := inner_join (C := C) (t := t) (t' := t') hw (M := M) (tb := (List.range i).map (rowS (t ++ t') w)) (i := i) (4 - i) i J.c (Nat.le_refl _) (Nat.add_sub_of_le (Nat.le_of_lt hi))
  have hr : (List.range (4 - i)).map (fun (x : Nat) => D.int ((i + x : Nat) : Int)) = (List.range' i (4 - i)).map fun (x : Nat) => D.int (x : Int) := by
   rw [List.range'_eq_map_range,List.map_map]; rfl
  rw [← hr,costs_start] at hin
  obtain ⟨J',hrec⟩ := ih (i + 1) ⟨some (.int i),some (.list (costsS (t ++ t') w i 4)),X6'⟩ (by rw [← h]; exact Nat.succ_add_eq_add_succ i k)
  refine ⟨J',Eq.trans (for_next (Eq.trans (xs_next (ex_own rfl)) (Eq.trans (xs_next (Eq.trans (ex_forR (as := [.int i,.int ((4 : Nat) : Int)]) rfl (ranged_two hi' (by decide)) (fits_of (by rw [List.length_map,List.length_range]; exact Nat.le_trans (Nat.sub_le _ _) (by decide)))) hin)) (xs_next (ρ' := _) (ex_app (d := .list (costsS (t ++ t') w i 4)) rfl rfl rfl (by rw [List.length_map,List.length_range]; exact fits_of (Nat.le_trans hi' (by decide)))))))) ?_⟩
  have hsnoc : (List.range i).map (rowS (t ++ t') w) ++ [D.list (costsS (t ++ t') w i 4)] = (List.range (i + 1)).map (rowS (t ++ t') w) := by
   rw [costs_end hlen,List.range_succ,List.map_append]; rfl
  rw [hsnoc]
  exact hrec
theorem f20_spec (hw : w.length = 3) (ht : 1 ≤ t.length) (ht' : 1 ≤ t'.length) (h9 : t.length + t'.length ≤ 9) : f20 [rec_ t w,rec_ t' w] = some (rec_ (t ++ t') w) := by
 obtain ⟨J,hout⟩ := outer_join (C := mkC l20) (t := t) (t' := t') hw (by rw [List.length_append]; exact Nat.add_le_add ht ht') (M := .list (w.map fun x => .int (mk x (t ++ t')))) 4 0 ⟨none,none,none⟩ rfl
 refine fn_ret (C := mkC l20) (ρ' := stJ t t' w (.list (w.map fun x => .int (mk x (t ++ t')))) ((List.range 4).map (rowS (t ++ t') w)) J.a J.b J.c) rfl ?_
 rw [bd20_eq]
 refine Eq.trans (xs_next (ex_set (marks_join (C := mkC l20) (t := t) (t' := t') h9 hw (T := [none,none,none,none,none])) rfl)) ?_
 refine Eq.trans (xs_next (ex_own rfl)) ?_
 refine Eq.trans (xs_next (Eq.trans (ex_forR rfl ranged4 rfl) hout)) ?_
 refine xs_ret (ex_ret ?_ rfl)
 unfold rec_
 rw [List.length_append]; rfl
end
noncomputable def units (texts : List (List Nat)) (s : Nat) : List (List Nat) := if s > 255 then [texts.getD (s - 256) []] else (spell s).map fun c => [c]
noncomputable def symText (texts : List (List Nat)) (s : Nat) : List Nat := if s > 255 then texts.getD (s - 256) [] else spell s
noncomputable def symOk (texts : List (List Nat)) (s : Nat) : Prop := isTerm s ∨ (256 ≤ s ∧ s < 256 + texts.length)
noncomputable def ruleText (texts : List (List Nat)) (rule : List Nat) : List Nat := (rule.map (symText texts)).flatten
theorem units_flat (texts : List (List Nat)) (s : Nat) : (units texts s).flatten = symText texts s := by
 unfold units symText
 by_cases h : s > 255
 ·rw [if_pos h,if_pos h]; exact List.append_nil _
 ·rw [if_neg h,if_neg h]
  induction spell s with
  | nil => rfl
  | cons c l ih => exact congrArg (c :: ·) ih
theorem term_lt {s : Nat} (h : isTerm s) : s ≤ 98 := by
 rcases h with rfl | rfl | rfl | rfl | ⟨_,h⟩
 ·decide
 ·decide
 ·decide
 ·decide
 ·exact Nat.le_trans h (by decide)
theorem term_pos {s : Nat} (h : isTerm s) : 0 < s := by
 rcases h with rfl | rfl | rfl | rfl | ⟨h,_⟩
 ·decide
 ·decide
 ·decide
 ·decide
 ·exact Nat.lt_of_lt_of_le (by decide) h
theorem sym_cases {texts : List (List Nat)} {s : Nat} (hs : symOk texts s) : (∃ h : s - 256 < texts.length,255 < s ∧ units texts s = [texts[s - 256]]) ∨ (¬ 255 < s ∧ isTerm s ∧ units texts s = (spell s).map fun c => [c]) := by
 unfold units
 rcases hs with hs | ⟨h1,h2⟩
 ·have h : ¬ 255 < s := fun h => absurd (Nat.lt_of_lt_of_le h (term_lt hs)) (by decide)
  exact .inr ⟨h,hs,if_neg h⟩
 ·have hlt : s - 256 < texts.length := Nat.sub_lt_left_of_lt_add h1 h2
  exact .inl ⟨hlt,h1,(if_pos h1).trans (by rw [List.getD_eq_getElem?_getD,List.getElem?_eq_getElem hlt]; rfl)⟩
noncomputable def bdR : List CStm := [.ite (.cmp .Gt (.var 4) (.const (.int (255)))) [.app 3 none (.subs (.var 2) (.bin .Sub (.var 4) (.const (.int (256)))))] [.ext 3 none (.comp [1] 2 (.call 19 [(.var 2),(.var 0)]) (.expr 2 (.call 14 [(.var 4)]) []) [])]]
theorem bd21_eq : bd21 = [.own 3 (.list []),.forE 4 (.var 0) bdR [],.set 5 (.subs (.var 3) (.const (.int (0)))),.forE 6 (.slice (.var 3) (.const (.int (1))) (.const .nil)) [.set 5 (.call 20 [(.var 5),(.var 6)])] [],.ret (.var 5)] := rfl
section
variable {w : List Nat} {texts : List (List Nat)}
noncomputable def stR (rule : List Nat) (w : List Nat) (texts : List (List Nat)) (us : List (List Nat)) (S W P : Option D) : Rho :=
 [some (.list (rule.map fun (s : Nat) => .int s)),some (.str w),some (.bor (texts.map fun t => rec_ t w)),some (.own (us.map fun t => rec_ t w)),S,W,P]
theorem sym_step (hw : ∀ x ∈ w,x ∈ signs) (hl : w.length = 3) {rule : List Nat} {us : List (List Nat)} {W P : Option D} {s : Nat} (hs : symOk texts s) (ht : texts.length ≤ 1000) (hus : us.length ≤ 1000) :
  xsC (mkC l21) bdR (stR rule w texts us (some (.int s)) W P) = some (.next,stR rule w texts (us ++ units texts s) (some (.int s)) W P) := by
 have hf : us.length ≤ 999000 := Nat.le_trans hus (by decide)
 rcases sym_cases hs with ⟨hlt,h,hu⟩ | ⟨h,hterm,hu⟩
 ·refine xs_one (Eq.trans (ex_ite (c := true) (congrArg some (decide_eq_true (Int.ofNat_lt.mpr h)))) (Eq.trans (xs_one (ex_app (d := rec_ texts[s - 256] w) rfl (Eq.trans (ev_subs (y := .int (s - 256 : Nat)) rfl (by rw [Int.ofNat_sub h]; rfl))
   (Eq.trans (subs_bor (Nat.le_trans (Nat.le_of_lt hlt) (Nat.le_trans ht (by decide)))) (by rw [List.getElem?_map,List.getElem?_eq_getElem hlt]; rfl))) rfl (by rw [List.length_map]; exact fits_of (Nat.le_trans hf (by decide))))) ?_))
  rw [hu]; unfold stR; rw [List.map_append]; rfl
 ·obtain ⟨o1,o2,o3⟩ := spell_ok hterm
  refine xs_one (Eq.trans (ex_ite (c := false) (congrArg some (decide_eq_false fun h' => h (Int.ofNat_lt.mp h')))) (Eq.trans (xs_one (ex_ext rfl (comp_expr (ys := spell s) (f := fun c => .str [c]) (g := fun c => rec_ [c] w) (ev_call (evs_one rfl) rfl (f14_spec hterm) rfl) rfl (Nat.le_trans o3 (by decide)) fun c hc => ⟨ev_call (evs_cons rfl (evs_one rfl)) rfl (f19_spec (o1 c hc) hw hl) rfl,rfl⟩) rfl
   (by rw [List.length_map,List.length_map]; exact fits_of (Nat.le_trans (Nat.add_le_add hf o3) (by decide))))) ?_))
  rw [hu]; unfold stR; rw [List.map_append,List.map_map]; rfl
theorem units_len {s : Nat} (hs : symOk texts s) : (units texts s).length ≤ 3 := by
 rcases sym_cases hs with ⟨_,_,hu⟩ | ⟨_,hterm,hu⟩
 ·rw [hu]; exact (by decide : 1 ≤ 3)
 ·rw [hu,List.length_map]; exact (spell_ok hterm).2.2
theorem sym_loop (hw : ∀ x ∈ w,x ∈ signs) (hl : w.length = 3) (ht : texts.length ≤ 1000) {rule : List Nat} {W P : Option D} (l : List Nat) : ∀ (us : List (List Nat)) (S : Option D),(∀ s ∈ l,symOk texts s) → us.length + 3 * l.length ≤ 1000 →
  ∃ S',forGoC (fun ρ => xsC (mkC l21) bdR ρ) (fun ρ => xsC (mkC l21) [] ρ) 4 (l.map fun (s : Nat) => D.int s) (stR rule w texts us S W P) = some (.next,stR rule w texts (us ++ l.flatMap (units texts)) S' W P) := by
 induction l with
 | nil => exact fun us S _ _ => ⟨S,by rw [List.flatMap_nil,List.append_nil]; rfl⟩
 | cons s l ih =>
  intro us S h hn
  have hs := h s List.mem_cons_self
  have hul := units_len hs
  rw [List.length_cons] at hn
  obtain ⟨S',h'⟩ := ih (us ++ units texts s) (some (.int s)) (fun x hx => h x (List.mem_cons_of_mem _ hx)) (by rw [List.length_append]; lia)
  refine ⟨S',Eq.trans (for_next (sym_step (W := W) (P := P) hw hl hs ht (Nat.le_trans (Nat.le_add_right _ _) hn))) ?_⟩
  rw [List.flatMap_cons,← List.append_assoc]
  exact h'
theorem join_loop (hl : w.length = 3) {rule : List Nat} {us : List (List Nat)} {S : Option D} (l : List (List Nat)) : ∀ (u : List Nat) (P : Option D),1 ≤ u.length → (∀ x ∈ l,1 ≤ x.length) → u.length + l.flatten.length ≤ 9 →
  ∃ P',forGoC (fun ρ => xsC (mkC l21) [.set 5 (.call 20 [(.var 5),(.var 6)])] ρ) (fun ρ => xsC (mkC l21) [] ρ) 6 (l.map fun t => rec_ t w) (stR rule w texts us S (some (rec_ u w)) P) = some (.next,stR rule w texts us S (some (rec_ (u ++ l.flatten) w)) P') := by
 induction l with
 | nil => exact fun u P _ _ _ => ⟨P,by rw [List.flatten_nil,List.append_nil]; rfl⟩
 | cons x l ih =>
  intro u P hu h hn
  rw [List.flatten_cons,List.length_append,← Nat.add_assoc] at hn
  obtain ⟨P',h'⟩ := ih (u ++ x) (some (rec_ x w)) (by rw [List.length_append]; exact Nat.le_trans hu (Nat.le_add_right _ _)) (fun y hy => h y (List.mem_cons_of_mem _ hy)) (by rw [List.length_append]; exact hn)
  refine ⟨P',Eq.trans (for_next (xs_one (ex_set (ev_call (evs_cons rfl (evs_one rfl)) rfl (f20_spec hl hu (h x List.mem_cons_self) (Nat.le_trans (Nat.le_add_right _ _) hn)) rfl) rfl))) ?_⟩
  rw [List.flatten_cons,← List.append_assoc]
  exact h'
theorem flatMap_flat (texts : List (List Nat)) (l : List Nat) : (l.flatMap (units texts)).flatten = ruleText texts l := by
 induction l with
 | nil => rfl
 | cons s l ih => rw [List.flatMap_cons,List.flatten_append,ih,units_flat]; rfl
theorem units_ok {s : Nat} (hs : symOk texts s) (hne : ∀ t ∈ texts,1 ≤ t.length) : (∀ x ∈ units texts s,1 ≤ x.length) ∧ units texts s ≠ [] := by
 rcases sym_cases hs with ⟨hlt,_,hu⟩ | ⟨_,hterm,hu⟩
 ·rw [hu]
  exact ⟨fun x hx => by rw [List.mem_singleton.mp hx]; exact hne _ (List.getElem_mem hlt),List.cons_ne_nil _ _⟩
 ·rw [hu]
  refine ⟨fun x hx => ?_,fun he => ?_⟩
  ·obtain ⟨c,_,rfl⟩ := List.mem_map.mp hx; exact Nat.le_refl 1
  ·have := (spell_ok hterm).2.1
   rw [List.map_eq_nil_iff.mp he] at this
   exact absurd this (by decide)
theorem flat_ge (l : List (List Nat)) (h : ∀ x ∈ l,1 ≤ x.length) : l.length ≤ l.flatten.length := by
 induction l with
 | nil => exact Nat.le_refl _
 | cons a l ih =>
  rw [List.flatten_cons,List.length_append,List.length_cons,Nat.add_comm]
  exact Nat.add_le_add (h a List.mem_cons_self) (ih fun x hx => h x (List.mem_cons_of_mem _ hx))
theorem f21_spec (hw : ∀ x ∈ w,x ∈ signs) (hl : w.length = 3) {rule : List Nat} (ht : texts.length ≤ 100) (hne : ∀ t ∈ texts,1 ≤ t.length) (hr : ∀ s ∈ rule,symOk texts s) (h1 : rule ≠ []) (h2 : rule.length ≤ 100) (h9 : (ruleText texts rule).length ≤ 9) :
  f21 [.list (rule.map fun (s : Nat) => .int s),.str w,.bor (texts.map fun t => rec_ t w)] = some (rec_ (ruleText texts rule) w) := by
 obtain ⟨S',hs⟩ := sym_loop hw hl (Nat.le_trans ht (by decide)) (rule := rule) (W := none) (P := none) rule [] none hr (by rw [List.length_nil,Nat.zero_add]; exact Nat.le_trans (Nat.mul_le_mul_left 3 h2) (by decide))
 rw [List.nil_append] at hs
 have hall : ∀ x ∈ rule.flatMap (units texts),1 ≤ x.length := fun x hx => by
  obtain ⟨s,h3,h4⟩ := List.mem_flatMap.mp hx
  exact (units_ok (hr s h3) hne).1 x h4
 have hflat := flatMap_flat texts rule
 obtain ⟨u,us,hu⟩ : ∃ u us,rule.flatMap (units texts) = u :: us := by
  cases rule with
  | nil => exact absurd rfl h1
  | cons s r =>
   cases hq : units texts s with
   | nil => exact absurd hq (units_ok (hr s List.mem_cons_self) hne).2
   | cons u us => exact ⟨u,us ++ r.flatMap (units texts),by rw [List.flatMap_cons,hq]; rfl⟩
 rw [hu] at hs hall hflat
 rw [← hflat,List.flatten_cons] at h9 ⊢
 rw [List.length_append] at h9
 have hul : us.length ≤ 9 := Nat.le_trans (flat_ge us fun x hx => hall x (List.mem_cons_of_mem _ hx)) (Nat.le_trans (Nat.le_add_left _ _) h9)
 obtain ⟨P',hj⟩ := join_loop (texts := texts) hl (rule := rule) (us := u :: us) (S := S') us u none (hall u List.mem_cons_self) (fun x hx => hall x (List.mem_cons_of_mem _ hx)) h9
 have f9 : ∀ {n : Nat},n ≤ 9 → fits (n + 1) = true := fun h => fits_of (Nat.le_trans (Nat.succ_le_succ h) (by decide))
 refine fn_ret (C := mkC l21) (ρ' := stR rule w texts (u :: us) S' (some (rec_ (u ++ us.flatten) w)) P') rfl ?_
 rw [bd21_eq]
 refine Eq.trans (xs_next (ex_own rfl)) ?_
 refine Eq.trans (xs_next (Eq.trans (ex_forE rfl rfl (by rw [List.length_map]; exact fits_of (Nat.le_trans h2 (by decide)))) hs)) ?_
 refine Eq.trans (xs_next (ex_set (d := rec_ u w) rfl rfl)) ?_
 refine Eq.trans (xs_next (Eq.trans (ex_forE (d := .list (us.map fun t => rec_ t w)) (Eq.trans (ev_slice (x := .bor ((u :: us).map fun t => rec_ t w)) rfl rfl rfl) ?_) rfl (by rw [List.length_map]; exact fits_of (Nat.le_trans hul (by decide)))) hj)) ?_
 ·refine (if_pos (by rw [List.length_map]; exact f9 hul)).trans (congrArg (fun x => some (D.list x)) (cut_from (p := 1) (by rw [List.length_map]; exact Nat.succ_le_succ (Nat.zero_le _))))
 ·exact xs_ret rfl
end
theorem f4_spec (a b : List Nat) : f4 [.str a,.str b] = some (.bool (a == b)) := rfl
theorem nat_dec {n : Nat} : decide ((0 : Int) ≤ n) = true := decide_eq_true (Int.natCast_nonneg n)
theorem shl_one {k : Nat} (h : k ≤ 1000) : binop .LShift (.int 1) (.int k) = some (.int (2 ^ k : Nat)) :=
 Eq.trans (if_pos (by rw [nat_dec,decide_eq_true (show (k : Int) ≤ 1000 from Int.ofNat_le.mpr h)]; rfl)) (by rw [Int.one_mul,Int.natCast_pow]; rfl)
theorem f5_spec {k : Nat} (h : k ≤ 1000) : f5 [.int 1,.int k] = some (.int (2 ^ k : Nat)) :=
 fn_ret (C := mkC l5) (ρ' := [some (.int 1),some (.int k)]) rfl (xs_ret (ex_ret (Eq.trans (ev_bin rfl rfl) (shl_one h)) rfl))
theorem f6_spec (a b : Nat) : f6 [.int a,.int b] = some (.int (a ||| b : Nat)) := by
 have h : Builtin.bitOr a b = ((a ||| b : Nat) : Int) := by
  rw [bitOr_and,bitAnd_pp (Int.natCast_nonneg _) (Int.natCast_nonneg _)]
  have := nat_or_add_and a b
  simp only [Int.toNat_natCast]
  lia
 show some (D.int (Builtin.bitOr a b)) = _
 rw [h]
theorem add_str {a b : List Nat} (h : a.length + b.length ≤ 1000000) : binop .Add (.str a) (.str b) = some (.str (a ++ b)) := if_pos (fits_of h)
theorem f7_spec {a b : List Nat} (h : a.length + b.length ≤ 1000000) : f7 [.str a,.str b] = some (.str (a ++ b)) :=
 fn_ret (C := mkC l7) (ρ' := [some (.str a),some (.str b),none]) rfl (Eq.trans (xs_next (ρ' := [some (.str a),some (.str b),none]) rfl) (xs_ret (ex_ret (Eq.trans (ev_bin rfl rfl) (add_str h)) rfl)))
theorem subs_str {t : List Nat} {k : Nat} (h : k < t.length) (hl : t.length ≤ 1000000) : subs (.str t) (.int k) = some (.str [t[k]]) := by
 show (if small k then ((seqIndex? k t.length).bind (t[·]?)).map fun c => D.str [c] else none) = _
 rw [if_pos (small_nat (Nat.le_trans (Nat.le_of_lt h) hl)),seqIdx h]
 exact congrArg (Option.map _) (List.getElem?_eq_getElem h)
theorem f9_spec {t : List Nat} {k : Nat} (h : k < t.length) (hl : t.length ≤ 1000000) : f9 [.str t,.int k] = some (.str [t[k]]) :=
 fn_ret (C := mkC l9) (ρ' := [some (.str t),some (.int k)]) rfl (xs_ret (ex_ret (Eq.trans (ev_subs rfl rfl) (subs_str h hl)) rfl))
theorem f12_spec (n : Int) : f12 [.int n] = some (.bool (decide (256 ≤ n))) := rfl
theorem f13_spec (n : Int) : f13 [.int n] = some (.bool (n == 0)) := rfl
theorem f24_spec (n : Int) : f24 [.int n] = some (.bool true) := by
 have self : ∀ b : Bool,some (D.bool (b == b)) = some (.bool true) := fun b => by rw [beq_self_eq_true]
 exact fn_ret (C := mkC l24) (ρ' := [some (.int n)]) rfl (xs_ret (ex_ret (Eq.trans (ev_and (self (decide (n < 256)))) (Eq.trans (ev_and (self (decide (256 ≤ n)))) (ev_and1 (self (n == 0))))) rfl))
theorem fLH_spec {t : List Nat} (h : t.length ≤ 1000000) : fLH [.str t] = some (.int t.length) :=
 run_ret (as := [.str t,.int 0]) (ρ' := [some (.str t),some (.int 0),none,none,none]) (Eq.trans (xs_next (ρ' := [some (.str t),some (.int 0),none,none,none]) rfl) (xs_ret (ex_attempt (xs_ret (ex_ret (Eq.trans (ev_blt (evs_one rfl)) (if_pos (fits_of h))) rfl)))))
noncomputable def term (n : Nat) : Nat := if n % 8 < 4 then [97,65,98,66].getD (n % 8) 0 else 7 + n / 8 % 48
theorem lt4 : ∀ k,k < 4 → k = 0 ∨ k = 1 ∨ k = 2 ∨ k = 3 := by decide
theorem term_ok (n : Nat) : isTerm (term n) := by
 unfold term isTerm
 by_cases h : n % 8 < 4
 ·rw [if_pos h]
  rcases lt4 _ h with h | h | h | h
  ·rw [h]; exact .inl rfl
  ·rw [h]; exact .inr (.inl rfl)
  ·rw [h]; exact .inr (.inr (.inl rfl))
  ·rw [h]; exact .inr (.inr (.inr (.inl rfl)))
 ·rw [if_neg h]
  exact .inr (.inr (.inr (.inr ⟨Nat.le_add_right _ _,Nat.add_le_add_left (Nat.le_of_lt_succ (Nat.mod_lt _ (by decide))) 7⟩)))
theorem nmod (n k : Nat) : Int.fmod (n : Int) k = ((n % k : Nat) : Int) := Int.fmod_eq_emod_of_nonneg _ (Int.natCast_nonneg k)
theorem ndiv (n k : Nat) : Int.fdiv (n : Int) k = ((n / k : Nat) : Int) := Int.fdiv_eq_ediv_of_nonneg _ (Int.natCast_nonneg k)
theorem f15_spec {n : Nat} (h : n ≤ 1000000) : f15 [.int n] = some (.int (term n)) := by
 refine fn_ret (C := mkC l15) (ρ' := [some (.int n)]) rfl ?_
 have ht : tsC (mkC l15) (viewC [some (.int n)]) (.cmp .Lt (.bin .Mod (.var 0) (.const (.int (8)))) (.const (.int (4)))) = some (decide (((n % 8 : Nat) : Int) < (4 : Nat))) := congrArg (fun x => some (decide (x < 4))) (nmod n 8)
 unfold term
 by_cases h4 : n % 8 < 4
 ·rw [decide_eq_true (Int.ofNat_lt.mpr h4)] at ht
  rw [if_pos h4]
  refine xs_ret (Eq.trans (ex_ite ht) (xs_ret (ex_ret (Eq.trans (ev_subs (x := .list [.int 97,.int 65,.int 98,.int 66]) (y := .int (n % 8 : Nat)) rfl (congrArg (fun x => some (D.int x)) (nmod n 8))) (Eq.trans (subs_list (Nat.le_trans (Nat.le_of_lt h4) (by decide))) ?_)) rfl)))
  rcases lt4 _ h4 with h | h | h | h <;> (rw [h]; rfl)
 ·rw [decide_eq_false fun h => h4 (Int.ofNat_lt.mp h)] at ht
  rw [if_neg h4]
  refine Eq.trans (xs_next (Eq.trans (ex_ite ht) rfl)) (xs_ret (ex_ret ?_ rfl))
  show some (D.int (7 + Int.fmod (Int.fdiv (n : Int) (8 : Nat)) (48 : Nat))) = _
  rw [ndiv,nmod]; rfl
theorem for_from {C : GC} {k : Rho → Option (Out × Rho)} {x : Nat} {a : Int} {n : Nat} (I : Nat → Rho → Prop) (step : ∀ i,i < n → ∀ ρ,I i ρ → ∃ ρ',k (ρ.set x (some (.int (a + (i : Int) * 1)))) = some (.next,ρ') ∧ I (i + 1) ρ') (m : Nat) :
  ∀ (i : Nat) (ρ : Rho),i + m = n → I i ρ → ∃ ρ',forGoC k (fun ρ => xsC C [] ρ) x ((List.range' i m).map fun (i : Nat) => D.int (a + (i : Int) * 1)) ρ = some (.next,ρ') ∧ I n ρ' := by
 induction m with
 | zero => exact fun i ρ h h0 => ⟨ρ,rfl,by rw [← h]; exact h0⟩
 | succ m ih =>
  intro i ρ h h0
  obtain ⟨ρ₁,h1,h2⟩ := step i (h ▸ Nat.lt_add_of_pos_right (Nat.succ_pos m)) ρ h0
  obtain ⟨ρ',h3,h4⟩ := ih (i + 1) ρ₁ (by rw [← h]; exact Nat.succ_add_eq_add_succ i m) h2
  exact ⟨ρ',Eq.trans (for_next h1) h3,h4⟩
theorem for_range {C : GC} {x : Nat} {es : List CE} {as : List D} {b : List CStm} {ρ : Rho} {a : Int} {n : Nat} (he : evsC C (viewC ρ) es = some as) (hr : ranged as = some ((List.range n).map fun (i : Nat) => D.int (a + (i : Int) * 1))) (hn : n ≤ 1000000)
  (I : Nat → Rho → Prop) (h0 : I 0 ρ) (step : ∀ i,i < n → ∀ ρ,I i ρ → ∃ ρ',xsC C b (ρ.set x (some (.int (a + (i : Int) * 1)))) = some (.next,ρ') ∧ I (i + 1) ρ') :
  ∃ ρ',exC C (.forR x es b []) ρ = some (.next,ρ') ∧ I n ρ' := by
 obtain ⟨ρ',h1,h2⟩ := for_from (C := C) (k := fun ρ => xsC C b ρ) I step n 0 ρ (Nat.zero_add n) h0
 rw [← List.range_eq_range'] at h1
 exact ⟨ρ',Eq.trans (ex_forR he hr (by rw [List.length_map,List.length_range]; exact fits_of hn)) h1,h2⟩
theorem ranged_n {n : Nat} (h : n ≤ 1000000) : ranged [.int n] = some ((List.range n).map fun (i : Nat) => D.int ((0 : Int) + (i : Int) * 1)) := if_pos (by rw [small_nat h]; exact fits_of h)
theorem ranged_ab {a b : Nat} (ha : a ≤ 1000000) (hb : b ≤ 1000000) : ranged [.int a,.int b] = some ((List.range (b - a)).map fun (i : Nat) => D.int ((a : Int) + (i : Int) * 1)) := by
 show (if small (a : Int) && small (b : Int) && fits ((b : Int) - (a : Int)).toNat then some ((List.range ((b : Int) - (a : Int)).toNat).map fun (x : Nat) => D.int ((a : Int) + (x : Int) * 1)) else none) = _
 rw [show ((b : Int) - a).toNat = b - a by lia]
 exact if_pos (by rw [small_nat ha,small_nat hb]; exact fits_of (Nat.le_trans (Nat.sub_le _ _) hb))
theorem intsOf_eq {ds : List D} : ∀ {l : List Int},intsOf ds = some l → ds = l.map D.int := by
 induction ds with
 | nil => intro l h; cases h; rfl
 | cons d ds ih =>
  intro l h
  obtain ⟨n,h1,h⟩ := b2 h
  obtain ⟨r,h2,h⟩ := b2 h
  cases h
  rw [ih h2]
  cases d with
  | int m => cases h1; rfl
  | _ => first | exact no h1 | exact nof h1 | cases h1
noncomputable def listD : D → Option (List D)
 | .list ds => some ds
 | _ => none
theorem listD_eq {d : D} {ds : List D} (h : listD d = some ds) : d = .list ds := by
 cases d with
 | list es => cases h; rfl
 | _ => first | exact no h | exact nof h | cases h
noncomputable def chk22 (n a m : Nat) : Option Bool := (f22 [.int n,.int a,.int (128 * m : Nat)]).bind fun d => (listD d).bind fun ds => (intsOf ds).bind fun l => (parseV l).map fun q => q.1 == (n : Int) && (q.2.isEmpty && decide (l.length ≤ 3))
theorem chk22_a : ∀ n,n < 50 → ∀ a,a < 2 → ∀ m,m < 2 → chk22 n a m = some true := by decide +kernel
theorem chk22_b : ∀ n,n < 49 → ∀ a,a < 2 → ∀ m,m < 2 → chk22 (50 + n) a m = some true := by decide +kernel
theorem chk22_c : ∀ n,n < 5 → ∀ a,a < 2 → ∀ m,m < 2 → chk22 (256 + n) a m = some true := by decide +kernel
noncomputable def inRow (n : Nat) : Prop := n < 99 ∨ (256 ≤ n ∧ n < 261)
theorem chk22_all (n : Nat) (hn : inRow n) (a : Nat) (ha : a < 2) (m : Nat) (hm : m < 2) : chk22 n a m = some true := by
 rcases hn with h | ⟨h1,h2⟩
 ·rcases Nat.lt_or_ge n 50 with h1 | h1
  ·exact chk22_a n h1 a ha m hm
  ·obtain ⟨k,rfl⟩ := Nat.exists_eq_add_of_le h1
   exact chk22_b k (Nat.lt_of_add_lt_add_left (n := 50) h) a ha m hm
 ·obtain ⟨k,rfl⟩ := Nat.exists_eq_add_of_le h1
  exact chk22_c k (Nat.lt_of_add_lt_add_left (n := 256) h2) a ha m hm
theorem f22_spec {n a m : Nat} (hn : inRow n) (ha : a < 2) (hm : m < 2) : ∃ l : List Int,f22 [.int n,.int a,.int (128 * m : Nat)] = some (.list (l.map D.int)) ∧ parseV l = some ((n : Int),[]) ∧ l.length ≤ 3 := by
 obtain ⟨d,h1,h⟩ := b2 (chk22_all n hn a ha m hm)
 obtain ⟨ds,h2,h⟩ := b2 h
 obtain ⟨l,h3,h⟩ := b2 h
 obtain ⟨q,h4,h⟩ := m2 h
 rw [Bool.and_eq_true,Bool.and_eq_true] at h
 obtain ⟨e1,e2,e3⟩ := h
 refine ⟨l,?_,?_,of_decide_eq_true e3⟩
 ·rw [h1,listD_eq h2,intsOf_eq h3]
 ·rw [h4,← eq_of_beq e1,← nil_of_empty e2]
theorem goV_app {r : List Int} {l : List Int} : ∀ {v b x : Int},goV l v b = some (x,[]) → goV (l ++ r) v b = some (x,r) := by
 induction l with
 | nil =>
  intro v b x h
  by_cases h0 : Builtin.bitAnd b 64 = 0
  ·have h := (if_pos h0).symm.trans h
   cases h
   cases r <;> exact if_pos h0
  ·have h := (if_neg h0).symm.trans h
   cases h
 | cons c l ih =>
  intro v b x h
  by_cases h0 : Builtin.bitAnd b 64 = 0
  ·have h := (if_pos h0).symm.trans h
   cases h
  ·have h := (if_neg h0).symm.trans h
   obtain ⟨h1,h⟩ := ite_some h
   exact (if_neg h0).trans ((if_pos h1).trans (ih h))
theorem parseV_app {l r : List Int} {x : Int} (h : parseV l = some (x,[])) : parseV (l ++ r) = some (x,r) := by
 cases l with
 | nil => cases h
 | cons b l => exact goV_app h
theorem readL_flat (ps : List (List Int × Int)) (h : ∀ p ∈ ps,parseV p.1 = some (p.2,[])) : readL ps.length (ps.flatMap Prod.fst) = some (ps.map Prod.snd) := by
 induction ps with
 | nil => rfl
 | cons p ps ih =>
  have hp := h p List.mem_cons_self
  obtain ⟨l,x⟩ := p
  cases l with
  | nil => cases hp
  | cons b l =>
   rw [List.flatMap_cons,List.length_cons]
   show (parseV ((b :: l) ++ ps.flatMap Prod.fst)).bind _ = _
   rw [parseV_app hp]
   show (readL ps.length (ps.flatMap Prod.fst)).map _ = _
   rw [ih fun q hq => h q (List.mem_cons_of_mem _ hq)]; rfl
noncomputable def tabD (t w : List Nat) : D := .list ((List.range 4).map fun i => .list ((List.range 4).map fun j => .int (tab t w i j)))
noncomputable def bdS : List CStm := [.set 5 (.subs (.subs (.var 2) (.var 3)) (.var 4)),.ite (.cmp .NotEq (.call 1 [(.var 0),(.slice (.var 1) (.var 3) (.var 4)),(.var 5)]) (.var 5)) [.ret (.const (.bool false))] [],.ite (.cmp .NotEq (.call 1 [(.slice (.var 1) (.var 3) (.var 4)),(.var 0),(.bin .Sub (.var 5) (.const (.int (1))))]) (.var 5)) [.ret (.const (.bool false))] []]
theorem bd28_eq : bd28 = [.forR 3 [(.const (.int (4)))] [.forR 4 [(.var 3),(.const (.int (4)))] bdS []] [],.ret (.const (.bool true))] := rfl
section
variable {t w : List Nat}
noncomputable def stS (t w : List Nat) (a b c : Option D) : Rho := [some (.str t),some (.str w),some (tabD t w),a,b,c]
theorem part_signs {i j : Nat} (hw : ∀ x ∈ w,x ∈ signs) : ∀ x ∈ (w.drop i).take (j - i),x < 128 := fun x hx => signs_lt x (hw x (List.mem_of_mem_drop (List.mem_of_mem_take hx)))
theorem bdS_ok (ht : ∀ x ∈ t,x ∈ signs) (hl : t.length ≤ 9) (hw : ∀ x ∈ w,x ∈ signs) (h3 : w.length = 3) {i j : Nat} (hij : i ≤ j) (hj : j < 4) (c : Option D) :
  xsC (mkC l28) bdS (stS t w (some (.int i)) (some (.int j)) c) = some (.next,stS t w (some (.int i)) (some (.int j)) (some (.int (tab t w i j)))) := by
 have k4 : (4 : Nat) ≤ 1000 := by decide
 have hd : tab t w i j = (ed t ((w.drop i).take (j - i)) : Int) := if_pos hij
 have hlen : ((w.drop i).take (j - i)).length ≤ 40 := Nat.le_trans (List.length_take_le' ..) (Nat.le_trans (List.length_drop ▸ Nat.sub_le _ _) (by rw [h3]; decide))
 have ht9 : t.length ≤ 40 := Nat.le_trans hl (by decide)
 have hsl := slice_both (l := w) (Nat.le_trans (Nat.le_trans hij (Nat.le_of_lt hj)) (by decide)) (Nat.le_trans (Nat.le_of_lt hj) (by decide)) (by rw [h3]; decide)
 have ct : ∀ x ∈ t,x < 128 := fun x hx => signs_lt x (ht x hx)
 have c1 : f1 [.str t,.str ((w.drop i).take (j - i)),.int (tab t w i j)] = some (.int (tab t w i j)) := by
  rw [hd]; exact f1_spec ht9 hlen ct (part_signs hw) (Int.le_add_of_nonneg_right (by decide))
 have c2 : f1 [.str ((w.drop i).take (j - i)),.str t,.int (tab t w i j - 1)] = some (.int (tab t w i j)) := by
  rw [hd,ed_symm]; exact f1_spec hlen ht9 (part_signs hw) ct (by rw [Int.sub_add_cancel]; exact Int.le_refl _)
 refine Eq.trans (xs_next (ex_set (d := .int (tab t w i j)) (Eq.trans (ev_subs (Eq.trans (ev_subs (x := tabD t w) rfl rfl) (subs_range (Nat.lt_of_le_of_lt hij hj) k4)) rfl) (subs_range hj k4)) rfl)) ?_
 refine Eq.trans (xs_next (Eq.trans (ex_ite (c := false) (Eq.trans (ts_cmp (ev_call (evs_cons rfl (evs_cons (Eq.trans (ev_slice rfl rfl rfl) hsl) (evs_one rfl))) rfl c1 rfl) rfl rfl) (congrArg some (bne_self_eq_false _)))) rfl)) ?_
 exact xs_one (Eq.trans (ex_ite (c := false) (Eq.trans (ts_cmp (ev_call (evs_cons (Eq.trans (ev_slice rfl rfl rfl) hsl) (evs_cons rfl (evs_one rfl))) rfl c2 rfl) rfl rfl) (congrArg some (bne_self_eq_false _)))) rfl)
theorem f28_spec (ht : ∀ x ∈ t,x ∈ signs) (hl : t.length ≤ 9) (hw : ∀ x ∈ w,x ∈ signs) (h3 : w.length = 3) : f28 [.str t,.str w,tabD t w] = some (.bool true) := by
 obtain ⟨ρ',e,_⟩ := for_range (C := mkC l28) (x := 3) (es := [(.const (.int (4)))]) (as := [.int (4 : Nat)]) (b := [.forR 4 [(.var 3),(.const (.int (4)))] bdS []]) (ρ := stS t w none none none) (n := 4) rfl (ranged_n (by decide)) (by decide)
  (fun _ ρ => ∃ J : J3,ρ = stS t w J.a J.b J.c) ⟨⟨_,_,_⟩,rfl⟩ (fun i hi ρ ⟨J,hρ⟩ => by
   subst hρ
   rw [Int.mul_one,Int.zero_add]
   obtain ⟨ρ₁,e2,J',h2⟩ := for_range (C := mkC l28) (x := 4) (es := [(.var 3),(.const (.int (4)))]) (as := [.int i,.int (4 : Nat)]) (b := bdS) (ρ := stS t w (some (.int i)) J.b J.c) (n := 4 - i) rfl (ranged_ab (Nat.le_trans (Nat.le_of_lt hi) (by decide)) (by decide)) (Nat.le_trans (Nat.sub_le _ _) (by decide))
    (fun _ ρ => ∃ J' : J3,ρ = stS t w (some (.int i)) J'.b J'.c) ⟨J,rfl⟩ (fun j hj ρ ⟨J',hρ⟩ => by
     subst hρ
     rw [Int.mul_one]
     exact ⟨_,bdS_ok ht hl hw h3 (Nat.le_add_right i j) (Nat.add_lt_of_lt_sub' hj) J'.c,⟨none,_,_⟩,rfl⟩)
   exact ⟨ρ₁,xs_one e2,⟨_,J'.b,J'.c⟩,h2⟩)
 exact fn_ret (C := mkC l28) (ρ' := ρ') rfl (by rw [bd28_eq]; exact Eq.trans (xs_next e) (xs_ret rfl))
end
inductive Built : List (List Nat) → List (List Nat) → Prop
 | nil : Built [] []
 | snoc {rs ts : List (List Nat)} {r : List Nat} : Built rs ts → (∀ s ∈ r,symOk ts s) → 1 ≤ r.length → r.length ≤ 2 → (ruleText ts r).length ≤ 9 → Built (rs ++ [r]) (ts ++ [ruleText ts r])
theorem symText_term {ts : List (List Nat)} {s : Nat} (h : isTerm s) : symText ts s = spell s := if_neg (Nat.not_lt.mpr (Nat.le_trans (term_lt h) (by decide)))
theorem symText_rule {ts : List (List Nat)} {j : Nat} (h : j < ts.length) : symText ts (256 + j) = ts[j] := by
 unfold symText
 rw [if_pos (Nat.lt_of_lt_of_le (by decide) (Nat.le_add_right 256 j)),List.getD_eq_getElem?_getD,Nat.add_sub_cancel_left,List.getElem?_eq_getElem h]; rfl
theorem ruleText1 {ts : List (List Nat)} {a : Nat} : ruleText ts [a] = symText ts a := List.append_nil _
theorem ruleText2 {ts : List (List Nat)} {a b : Nat} : ruleText ts [a,b] = symText ts a ++ symText ts b := congrArg (symText ts a ++ ·) (List.append_nil _)
theorem Built.len {rs ts : List (List Nat)} (h : Built rs ts) : rs.length = ts.length := by
 induction h with
 | nil => rfl
 | snoc _ _ _ _ _ ih => rw [List.length_append,List.length_append,ih]; rfl
theorem symText_ok {ts : List (List Nat)} {s : Nat} (hs : symOk ts s) (ht : ∀ t ∈ ts,(∀ c ∈ t,c ∈ signs) ∧ 1 ≤ t.length) : (∀ c ∈ symText ts s,c ∈ signs) ∧ 1 ≤ (symText ts s).length := by
 rcases hs with hs | ⟨h1,h2⟩
 ·rw [symText_term hs]
  obtain ⟨o1,o2,_⟩ := spell_ok hs
  exact ⟨o1,o2⟩
 ·obtain ⟨j,rfl⟩ := Nat.exists_eq_add_of_le h1
  have hlt := Nat.lt_of_add_lt_add_left h2
  rw [symText_rule hlt]
  exact ht _ (List.getElem_mem hlt)
theorem Built.ok {rs ts : List (List Nat)} (h : Built rs ts) : ∀ t ∈ ts,((∀ c ∈ t,c ∈ signs) ∧ 1 ≤ t.length) ∧ t.length ≤ 9 := by
 induction h with
 | nil => intro t ht; cases ht
 | @snoc rs ts r hb h1 h2 h3 h4 ih =>
  intro t ht
  rcases List.mem_append.mp ht with ht | ht
  ·exact ih t ht
  ·rw [List.mem_singleton.mp ht]
   refine ⟨⟨fun c hc => ?_,?_⟩,h4⟩
   ·obtain ⟨l,hl,hc⟩ := List.mem_flatten.mp hc
    obtain ⟨s,hs,rfl⟩ := List.mem_map.mp hl
    exact (symText_ok (h1 s hs) fun t ht => (ih t ht).1).1 c hc
   ·cases r with
    | nil => exact absurd h2 (by decide)
    | cons s r =>
     unfold ruleText
     rw [List.map_cons,List.flatten_cons,List.length_append]
     exact Nat.le_trans (symText_ok (h1 s List.mem_cons_self) fun t ht => (ih t ht).1).2 (Nat.le_add_right _ _)
theorem Built.at {rs ts : List (List Nat)} (h : Built rs ts) : ∀ (k : Nat) (hk : k < rs.length) (hk' : k < ts.length),(∀ s ∈ rs[k],symOk (ts.take k) s) ∧ 1 ≤ rs[k].length ∧ rs[k].length ≤ 2 ∧ ts[k] = ruleText (ts.take k) rs[k] := by
 induction h with
 | nil => intro k hk; cases hk
 | @snoc rs ts r hb h1 h2 h3 h4 ih =>
  intro k hk hk'
  have hl := hb.len
  by_cases h : k < rs.length
  ·have h' : k < ts.length := hl ▸ h
   rw [List.getElem_append_left h,List.getElem_append_left h',List.take_append_of_le_length (Nat.le_of_lt h')]
   exact ih k h h'
  ·rw [List.length_append] at hk
   obtain rfl : k = rs.length := Nat.le_antisymm (Nat.le_of_lt_succ hk) (Nat.not_lt.mp h)
   have hle : ts.length ≤ rs.length := Nat.le_of_eq hl.symm
   rw [List.getElem_append_right (Nat.le_refl _),List.getElem_append_right hle,List.take_append_of_le_length (Nat.le_of_eq hl),List.take_of_length_le hle]
   simp only [Nat.sub_self,hl,List.getElem_cons_zero]
   exact ⟨h1,h2,h3,trivial⟩
noncomputable def ruleD (r : List Nat) : D := .list (r.map fun (s : Nat) => .int s)
noncomputable def stP (ns : List Nat) (rs : List (List Nat)) (ls : List (List Nat)) (a b c : Option D) : Rho := [some (.list (ns.map fun (n : Nat) => .int n)),some (.own (rs.map ruleD)),some (.own (ls.map fun t => .int t.length)),a,b,c]
noncomputable def stPv (ns : List Nat) (rs : List (List Nat)) (ls : List (List Nat)) (a b c : Option D) : Rho := [some (.list (ns.map fun (n : Nat) => .int n)),some (.bor (rs.map ruleD)),some (.bor (ls.map fun t => .int t.length)),a,b,c]
theorem b_mod {n m : Nat} (h : 0 < m) : binop .Mod (.int n) (.int m) = some (.int ((n % m : Nat) : Int)) :=
 (if_neg fun e => absurd (Int.natCast_eq_zero.mp (eq_of_beq e)) (Nat.ne_of_gt h)).trans (congrArg (fun x => some (D.int x)) (nmod n m))
theorem b_div {n m : Nat} (h : 0 < m) (hm : m ≤ 1000000) : binop .FloorDiv (.int n) (.int m) = some (.int ((n / m : Nat) : Int)) :=
 (if_pos (by rw [small_nat hm,bne_iff_ne.mpr fun e => absurd (Int.natCast_eq_zero.mp e) (Nat.ne_of_gt h)]; rfl)).trans (congrArg (fun x => some (D.int x)) (ndiv n m))
theorem b_add (n m : Nat) : binop .Add (.int n) (.int m) = some (.int ((n + m : Nat) : Int)) := rfl
theorem b_sub {n m : Nat} (h : m ≤ n) : binop .Sub (.int n) (.int m) = some (.int ((n - m : Nat) : Int)) := congrArg (fun x => some (D.int x)) (Int.ofNat_sub h).symm
theorem subs_bmap {α : Type} {l : List α} {i : Nat} {g : α → D} (h : i < l.length) (hn : l.length ≤ 1000) : subs (.bor (l.map g)) (.int i) = some (g l[i]) := by
 rw [subs_bor (Nat.le_trans (Nat.le_of_lt h) (Nat.le_trans hn (by decide))),List.getElem?_map,List.getElem?_eq_getElem h]; rfl
noncomputable def ceOther : CE := .bin .Add (.const (.int (256))) (.bin .Mod (.bin .FloorDiv (.subs (.var 0) (.var 3)) (.const (.int (6)))) (.var 3))
noncomputable def ceLong1 : CE := .bin .Add (.subs (.var 2) (.bin .Sub (.var 3) (.const (.int (1))))) (.subs (.var 2) (.bin .Sub (.var 4) (.const (.int (256)))))
noncomputable def ceTerm : CE := .call 15 [(.bin .FloorDiv (.subs (.var 0) (.var 3)) (.const (.int (6))))]
noncomputable def ceLong2 : CE := .bin .Add (.subs (.var 2) (.bin .Sub (.var 3) (.const (.int (1))))) (.blt "len" [(.call 14 [(.var 4)])])
noncomputable def ctKind : CT := .cmp .Eq (.bin .Mod (.bin .FloorDiv (.subs (.var 0) (.var 3)) (.const (.int (2)))) (.const (.int (3)))) (.const (.int (0)))
noncomputable def ctOdd : CT := .cmp .Eq (.bin .Mod (.subs (.var 0) (.var 3)) (.const (.int (2)))) (.const (.int (1)))
noncomputable def bdP1 : CStm := .ite ctKind [.set 4 ceOther,.set 5 ceLong1] [.set 4 ceTerm,.set 5 ceLong2]
noncomputable def bdP2 : CStm := .ite (.cmp .Gt (.var 5) (.const (.int (9)))) [.app 1 none (.list [(.bin .Add (.const (.int (255))) (.var 3))]),.app 2 none (.subs (.var 2) (.bin .Sub (.var 3) (.const (.int (1)))))] [.ite ctOdd [.app 1 none (.list [(.var 4),(.bin .Add (.const (.int (255))) (.var 3))]),.app 2 (some 5) (.var 5)] [.app 1 none (.list [(.bin .Add (.const (.int (255))) (.var 3)),(.var 4)]),.app 2 (some 5) (.var 5)]]
noncomputable def bdP0a : CStm := .own 1 (.list [(.list [(.call 15 [(.subs (.var 0) (.const (.int (0))))]),(.call 15 [(.bin .FloorDiv (.subs (.var 0) (.const (.int (0)))) (.const (.int (384))))])])])
noncomputable def bdP0b : CStm := .own 2 (.list [(.bin .Add (.blt "len" [(.call 14 [(.subs (.subs (.var 1) (.const (.int (0)))) (.const (.int (0))))])]) (.blt "len" [(.call 14 [(.subs (.subs (.var 1) (.const (.int (0)))) (.const (.int (1))))])]))])
theorem bd16_eq : bd16 = [bdP0a,bdP0b,.forR 3 [(.const (.int (1))),(.const (.int (5)))] [bdP1,bdP2] [],.ret (.var 1)] := rfl
section
variable {ns : List Nat}
theorem len_call {ρ : Rho} {e : CE} {s : Nat} (h : evC (mkC l16) ρ e = some (.int s)) (hs : isTerm s) : evC (mkC l16) ρ (.blt "len" [(.call 14 [e])]) = some (.int (spell s).length) :=
 Eq.trans (ev_blt (evs_one (ev_call (evs_one h) rfl (f14_spec hs) rfl))) (blen_str (Nat.le_trans (spell_ok hs).2.2 (by decide)))
theorem bdP1_ok {rs ts : List (List Nat)} {k : Nat} (hn : ns.length = 8) (hsm : ∀ n ∈ ns,n ≤ 1000000) (hk : ts.length = k) (h1 : 1 ≤ k) (h5 : k < 5) (b c : Option D) :
  ∃ s : Nat,symOk ts s ∧ exC (mkC l16) bdP1 (stP ns rs ts (some (.int k)) b c) = some (.next,stP ns rs ts (some (.int k)) (some (.int s)) (some (.int ((ts.getD (k - 1) []).length + (symText ts s).length : Nat)))) := by
 have hkn : k < ns.length := by rw [hn]; exact Nat.lt_trans h5 (by decide)
 have hl8 : ns.length ≤ 1000 := by rw [hn]; decide
 have hlt : ts.length ≤ 1000 := by rw [hk]; exact Nat.le_trans (Nat.le_of_lt h5) (by decide)
 have hk1 : k - 1 < ts.length := by rw [hk]; exact Nat.sub_lt h1 (by decide)
 have e0 : ∀ b c,evC (mkC l16) (viewC (stP ns rs ts (some (.int k)) b c)) (.subs (.var 0) (.var 3)) = some (.int ns[k]) := fun b c => Eq.trans (ev_subs rfl rfl) (subs_map hkn hl8)
 have e6 : evC (mkC l16) (viewC (stP ns rs ts (some (.int k)) b c)) (.bin .FloorDiv (.subs (.var 0) (.var 3)) (.const (.int (6)))) = some (.int ((ns[k] / 6 : Nat) : Int)) := Eq.trans (ev_bin (e0 b c) rfl) (b_div (m := 6) (by decide) (by decide))
 have eT : tsC (mkC l16) (viewC (stP ns rs ts (some (.int k)) b c)) ctKind = some (((ns[k] / 2 % 3 : Nat) : Int) == 0) :=
  Eq.trans (ts_cmp (Eq.trans (ev_bin (Eq.trans (ev_bin (e0 b c) rfl) (b_div (m := 2) (by decide) (by decide))) rfl) (b_mod (m := 3) (by decide))) rfl rfl) rfl
 have eL : ∀ b c,evC (mkC l16) (viewC (stP ns rs ts (some (.int k)) b c)) (.subs (.var 2) (.bin .Sub (.var 3) (.const (.int (1))))) = some (.int (ts.getD (k - 1) []).length) := fun b c =>
  Eq.trans (ev_subs rfl (Eq.trans (ev_bin rfl rfl) (b_sub (m := 1) h1))) (Eq.trans (subs_bmap hk1 hlt) (by rw [List.getD_eq_getElem?_getD,List.getElem?_eq_getElem hk1]; rfl))
 by_cases hkind : ns[k] / 2 % 3 = 0
 ·have hj : ns[k] / 6 % k < ts.length := by rw [hk]; exact Nat.mod_lt _ h1
  refine ⟨256 + ns[k] / 6 % k,.inr ⟨Nat.le_add_right _ _,Nat.add_lt_add_left hj _⟩,Eq.trans (ex_ite (c := true) (eT.trans (by rw [hkind]; rfl))) (Eq.trans (xs_next (ex_set (d := .int (256 + ns[k] / 6 % k : Nat)) (Eq.trans (ev_bin rfl (Eq.trans (ev_bin e6 rfl) (b_mod h1))) (b_add 256 _)) rfl))
   (xs_one (ex_set (Eq.trans (ev_bin (eL (some (.int (256 + ns[k] / 6 % k : Nat))) c) (Eq.trans (ev_subs rfl (Eq.trans (ev_bin rfl rfl) (b_sub (m := 256) (Nat.le_add_right _ _)))) ?_)) (b_add _ _)) rfl)))⟩
  rw [Nat.add_sub_cancel_left,symText_rule hj]
  exact subs_bmap hj hlt
 ·have hterm := term_ok (ns[k] / 6)
  have hmem : ns[k] / 6 ≤ 1000000 := Nat.le_trans (Nat.div_le_self _ _) (hsm ns[k] (List.getElem_mem hkn))
  refine ⟨term (ns[k] / 6),.inl hterm,Eq.trans (ex_ite (c := false) (eT.trans (congrArg some (beq_eq_false_iff_ne.mpr fun h => hkind (Int.natCast_eq_zero.mp h))))) (Eq.trans (xs_next (ex_set (d := .int (term (ns[k] / 6))) (ev_call (evs_one e6) rfl (f15_spec hmem) rfl) rfl))
   (xs_one (ex_set (Eq.trans (ev_bin (eL (some (.int (term (ns[k] / 6)))) c) (len_call rfl hterm)) ?_) rfl)))⟩
  rw [symText_term hterm]; rfl
theorem app1 {rs ts : List (List Nat)} {k : Nat} {b c : Option D} {r : List Nat} {e : CE} (he : evC (mkC l16) (stPv ns rs ts (some (.int k)) (b.map D.seen) (c.map D.seen)) e = some (ruleD r)) (hl : rs.length ≤ 1000) :
  exC (mkC l16) (.app 1 none e) (stP ns rs ts (some (.int k)) b c) = some (.next,stP ns (rs ++ [r]) ts (some (.int k)) b c) := by
 refine Eq.trans (ex_app rfl he rfl (by rw [List.length_map]; exact fits_of (Nat.le_trans hl (by decide)))) ?_
 unfold stP; rw [List.map_append]; rfl
theorem app2 {rs ts : List (List Nat)} {k s L : Nat} {t : List Nat} {g : Option Nat} {e : CE} (hg : g = none ∨ g = some 5) (he : evC (mkC l16) (stPv ns rs ts (some (.int k)) (some (.int s)) (some (.int L))) e = some (.int t.length)) (hl : ts.length ≤ 1000) :
  exC (mkC l16) (.app 2 g e) (stP ns rs ts (some (.int k)) (some (.int s)) (some (.int L))) = some (.next,stP ns rs (ts ++ [t]) (some (.int k)) (some (.int s)) (some (.int L))) := by
 have hv : viewC (giveC g (stP ns rs ts (some (.int k)) (some (.int s)) (some (.int L)))) = stPv ns rs ts (some (.int k)) (some (.int s)) (some (.int L)) := by rcases hg with rfl | rfl <;> rfl
 refine Eq.trans (ex_app rfl (hv ▸ he) rfl (by rw [List.length_map]; exact fits_of (Nat.le_trans hl (by decide)))) ?_
 unfold stP; rw [List.map_append]
 rcases hg with rfl | rfl <;> rfl
theorem bdP2_ok {rs ts : List (List Nat)} {k s : Nat} (hB : Built rs ts) (hn : ns.length = 8) (hk : ts.length = k) (h1 : 1 ≤ k) (h5 : k < 5) (hs : symOk ts s) :
  ∃ r,Built (rs ++ [r]) (ts ++ [ruleText ts r]) ∧ exC (mkC l16) bdP2 (stP ns rs ts (some (.int k)) (some (.int s)) (some (.int ((ts.getD (k - 1) []).length + (symText ts s).length : Nat)))) =
   some (.next,stP ns (rs ++ [r]) (ts ++ [ruleText ts r]) (some (.int k)) (some (.int s)) (some (.int ((ts.getD (k - 1) []).length + (symText ts s).length : Nat)))) := by
 have hlt : ts.length ≤ 1000 := by rw [hk]; exact Nat.le_trans (Nat.le_of_lt h5) (by decide)
 have hrl : rs.length ≤ 1000 := hB.len ▸ hlt
 have hkn : k < ns.length := by rw [hn]; exact Nat.lt_trans h5 (by decide)
 have hk1 : k - 1 < ts.length := by rw [hk]; exact Nat.sub_lt h1 (by decide)
 have hgD : ts.getD (k - 1) [] = ts[k - 1] := by rw [List.getD_eq_getElem?_getD,List.getElem?_eq_getElem hk1]; rfl
 have h255 : 255 + k = 256 + (k - 1) := by lia
 have hprev : symText ts (255 + k) = ts[k - 1] := by rw [h255]; exact symText_rule hk1
 have hsp : symOk ts (255 + k) := .inr (by rw [h255]; exact ⟨Nat.le_add_right _ _,Nat.add_lt_add_left hk1 _⟩)
 have ht9 := (hB.ok ts[k - 1] (List.getElem_mem hk1)).2
 generalize hL : (ts.getD (k - 1) []).length + (symText ts s).length = L
 rw [hgD] at hL
 have both : ∀ {r : List Nat} {g : Option Nat} {e1 e2 : CE},(g = none ∨ g = some 5) → evC (mkC l16) (stPv ns rs ts (some (.int k)) (some (.int s)) (some (.int L))) e1 = some (ruleD r) → evC (mkC l16) (stPv ns (rs ++ [r]) ts (some (.int k)) (some (.int s)) (some (.int L))) e2 = some (.int (ruleText ts r).length) →
   xsC (mkC l16) [.app 1 none e1,.app 2 g e2] (stP ns rs ts (some (.int k)) (some (.int s)) (some (.int L))) = some (.next,stP ns (rs ++ [r]) (ts ++ [ruleText ts r]) (some (.int k)) (some (.int s)) (some (.int L))) := fun hg h h' =>
  Eq.trans (xs_next (app1 (b := some (.int s)) (c := some (.int L)) h hrl)) (xs_one (app2 hg h' hlt))
 by_cases h9 : 9 < L
 ·refine ⟨[255 + k],.snoc hB (fun x hx => List.mem_singleton.mp hx ▸ hsp) (Nat.le_refl 1) (by decide : 1 ≤ 2) (by rw [ruleText1,hprev]; exact ht9),Eq.trans (ex_ite (c := true) (congrArg some (decide_eq_true (Int.ofNat_lt.mpr h9)))) (both (.inl rfl) (ev_list (evs_one (Eq.trans (ev_bin rfl rfl) (b_add 255 k))) rfl rfl)
   (Eq.trans (ev_subs rfl (Eq.trans (ev_bin rfl rfl) (b_sub (m := 1) h1))) (by rw [ruleText1,hprev]; exact subs_bmap hk1 hlt)))⟩
 ·have hL9 : L ≤ 9 := Nat.not_lt.mp h9
  have hodd : tsC (mkC l16) (viewC (stP ns rs ts (some (.int k)) (some (.int s)) (some (.int L)))) ctOdd = some (((ns[k] % 2 : Nat) : Int) == (1 : Nat)) :=
   Eq.trans (ts_cmp (Eq.trans (ev_bin (Eq.trans (ev_subs rfl rfl) (subs_map hkn (by rw [hn]; decide))) rfl) (b_mod (m := 2) (by decide))) rfl rfl) rfl
  have two : ∀ {a b : Nat},symOk ts a → symOk ts b → ∀ x ∈ [a,b],symOk ts x := fun ha hb x hx => by
   rcases List.mem_cons.mp hx with rfl | hx
   ·exact ha
   ·exact List.mem_singleton.mp hx ▸ hb
  by_cases ho : ns[k] % 2 = 1
  ·have hlen : (ruleText ts [s,255 + k]).length = L := by rw [ruleText2,List.length_append,hprev,Nat.add_comm]; exact hL
   rw [ho] at hodd
   exact ⟨[s,255 + k],.snoc hB (two hs hsp) (by decide : 1 ≤ 2) (Nat.le_refl 2) (hlen ▸ hL9),Eq.trans (ex_ite (c := false) (congrArg some (decide_eq_false fun h => h9 (Int.ofNat_lt.mp h)))) (xs_one (Eq.trans (ex_ite hodd) (both (.inr rfl) (ev_list (evs_cons rfl (evs_one (Eq.trans (ev_bin rfl rfl) (b_add 255 k)))) rfl rfl) (by rw [hlen]; rfl))))⟩
  ·have hlen : (ruleText ts [255 + k,s]).length = L := by rw [ruleText2,List.length_append,hprev]; exact hL
   rw [show (((ns[k] % 2 : Nat) : Int) == (1 : Nat)) = false from beq_eq_false_iff_ne.mpr fun h => ho (Int.ofNat.inj h)] at hodd
   exact ⟨[255 + k,s],.snoc hB (two hsp hs) (by decide : 1 ≤ 2) (Nat.le_refl 2) (hlen ▸ hL9),Eq.trans (ex_ite (c := false) (congrArg some (decide_eq_false fun h => h9 (Int.ofNat_lt.mp h)))) (xs_one (Eq.trans (ex_ite hodd) (both (.inr rfl) (ev_list (evs_cons (Eq.trans (ev_bin rfl rfl) (b_add 255 k)) (evs_one rfl)) rfl rfl) (by rw [hlen]; rfl))))⟩
theorem f16_spec (hn : ns.length = 8) (hsm : ∀ n ∈ ns,n ≤ 1000000) : ∃ rs ts,Built rs ts ∧ rs.length = 5 ∧ f16 [.list (ns.map fun (n : Nat) => .int n)] = some (.list (rs.map ruleD)) := by
 have h0 : 0 < ns.length := by rw [hn]; decide
 have hl8 : ns.length ≤ 1000 := by rw [hn]; decide
 have hm0 := hsm ns[0] (List.getElem_mem h0)
 have t1 := term_ok ns[0]
 have t2 := term_ok (ns[0] / 384)
 have hrt : ruleText [] [term ns[0],term (ns[0] / 384)] = spell (term ns[0]) ++ spell (term (ns[0] / 384)) := by rw [ruleText2,symText_term t1,symText_term t2]
 have hB0 : Built ([] ++ [[term ns[0],term (ns[0] / 384)]]) ([] ++ [ruleText [] [term ns[0],term (ns[0] / 384)]]) := .snoc .nil (fun s hs => by
  rcases List.mem_cons.mp hs with rfl | hs
  ·exact .inl t1
  ·exact .inl (List.mem_singleton.mp hs ▸ t2)) (by decide : 1 ≤ 2) (Nat.le_refl 2) (by rw [hrt,List.length_append]; exact Nat.le_trans (Nat.add_le_add (spell_ok t1).2.2 (spell_ok t2).2.2) (by decide))
 obtain ⟨ρ',e,hI⟩ := for_range (C := mkC l16) (x := 3) (es := [(.const (.int (1))),(.const (.int (5)))]) (as := [.int (1 : Nat),.int (5 : Nat)]) (b := [bdP1,bdP2]) (ρ := stP ns [[term ns[0],term (ns[0] / 384)]] [ruleText [] [term ns[0],term (ns[0] / 384)]] none none none) (n := 5 - 1) rfl (ranged_ab (by decide) (by decide)) (by decide)
  (fun i ρ => ∃ rs ts,∃ J : J3,Built rs ts ∧ ts.length = i + 1 ∧ ρ = stP ns rs ts J.a J.b J.c) ⟨_,_,⟨_,_,_⟩,hB0,rfl,rfl⟩ (fun i hi ρ ⟨rs,ts,J,hB,hl,hρ⟩ => by
   subst hρ
   have e0 : ((1 : Nat) : Int) + (i : Int) * 1 = ((i + 1 : Nat) : Int) := by rw [Int.mul_one,Int.add_comm]; rfl
   rw [e0]
   have h5 : i + 1 < 5 := Nat.succ_lt_succ hi
   obtain ⟨s,hs,x1⟩ := bdP1_ok (ns := ns) (rs := rs) (ts := ts) (k := i + 1) hn hsm hl (Nat.succ_pos i) h5 J.b J.c
   obtain ⟨r,hB',x2⟩ := bdP2_ok (ns := ns) (k := i + 1) hB hn hl (Nat.succ_pos i) h5 hs
   exact ⟨_,Eq.trans (xs_next x1) (xs_one x2),_,_,⟨_,_,_⟩,hB',by rw [List.length_append,hl]; rfl,rfl⟩)
 obtain ⟨rs,ts,J,hB,hl,rfl⟩ := hI
 refine ⟨rs,ts,hB,hB.len.trans hl,fn_ret (C := mkC l16) (ρ' := stP ns rs ts J.a J.b J.c) rfl ?_⟩
 rw [bd16_eq]
 refine Eq.trans (xs_next (ex_own (ds := [ruleD [term ns[0],term (ns[0] / 384)]]) (ev_list (evs_one (ev_list (evs_cons (ev_call (evs_one (Eq.trans (ev_subs rfl rfl) (subs_map h0 hl8))) rfl (f15_spec hm0) rfl) (evs_one (ev_call (evs_one (Eq.trans (ev_bin (Eq.trans (ev_subs rfl rfl) (subs_map h0 hl8)) rfl) (b_div (m := 384) (by decide) (by decide)))) rfl (f15_spec (Nat.le_trans (Nat.div_le_self _ _) hm0)) rfl))) rfl rfl)) rfl rfl))) ?_
 refine Eq.trans (xs_next (ex_own (ds := [.int (ruleText [] [term ns[0],term (ns[0] / 384)]).length]) (ev_list (evs_one (Eq.trans (ev_bin (len_call rfl t1) (len_call rfl t2)) (by rw [hrt,List.length_append]; rfl))) rfl rfl))) ?_
 exact Eq.trans (xs_next e) (xs_ret rfl)
end
noncomputable def rowFrom : Nat → List (List Nat) → List Nat
 | _,[] => []
 | k,r :: rs => (256 + k) :: (r ++ 0 :: rowFrom (k + 1) rs)
theorem rowFrom_snoc (r : List Nat) (rs : List (List Nat)) : ∀ k : Nat,rowFrom k (rs ++ [r]) = rowFrom k rs ++ ((256 + (k + rs.length)) :: (r ++ [0])) := by
 induction rs with
 | nil => exact fun k => rfl
 | cons a rs ih =>
  intro k
  rw [List.length_cons,← Nat.succ_add_eq_add_succ]
  show (256 + k) :: (a ++ 0 :: rowFrom (k + 1) (rs ++ [r])) = (256 + k) :: ((a ++ 0 :: rowFrom (k + 1) rs) ++ _)
  rw [ih,List.append_assoc]; rfl
noncomputable def Steps (k : Rho → Option (Out × Rho)) (els : Rho → Option (Out × Rho)) (x : Nat) (l : List D) (ρ ρ' : Rho) : Prop := ∀ l',forGoC k els x (l ++ l') ρ = forGoC k els x l' ρ'
section
variable {k els : Rho → Option (Out × Rho)} {x : Nat} {d : D} {a b : List D} {ρ ρ' ρ₁ ρ₂ : Rho}
theorem Steps.one (h : k (ρ.set x (some d)) = some (.next,ρ')) : Steps k els x [d] ρ ρ' := fun _ => for_next h
theorem Steps.nil : Steps k els x [] ρ ρ := fun l' => rfl
theorem Steps.app (h : Steps k els x a ρ ρ₁) (h' : Steps k els x b ρ₁ ρ₂) : Steps k els x (a ++ b) ρ ρ₂ := fun l' => by
 rw [List.append_assoc,h,h']
theorem Steps.done (h : Steps k els x a ρ ρ') : forGoC k els x a ρ = els ρ' := by
 have := h []
 rw [List.append_nil] at this
 exact this
end
noncomputable def ceU1 : CE := .call 7 [(.var 3),(.subs (.var 2) (.bin .Sub (.var 4) (.const (.int (256)))))]
noncomputable def ceU2 : CE := .call 7 [(.var 3),(.subs (.var 1) (.var 4))]
noncomputable def ceU3 : CE := .call 7 [(.var 3),(.blt "chr" [(.var 4)])]
noncomputable def bdU : List CStm := [.ite (.cmp .Is (.var 3) (.const .nil)) [.set 3 (.const (.str []))] [.ite (.val (.call 13 [(.var 4)])) [.app 2 (some 3) (.var 3),.set 3 (.const .nil)] [.ite (.val (.call 12 [(.var 4)])) [.set 3 ceU1] [.ite (.cmp .In (.var 4) (.var 1)) [.set 3 ceU2] [.set 3 ceU3]]]]]
theorem bd25t_eq : bd25t = [.own 2 (.list []),.set 3 (.const .nil),.forE 4 (.var 0) bdU [],.ret (.var 2)] := rfl
noncomputable def stU (row : List Nat) (ts : List (List Nat)) (a b : Option D) : Rho := [some (.list (row.map fun (s : Nat) => .int s)),some (.dict exactTab),some (.own (ts.map .str)),a,b]
theorem exact_op : ∀ s,s < 55 → 7 ≤ s → exactTab.lookup ((s : Nat) : Int) = some (ops.getD (s - 7) []) := by decide +kernel
theorem exact_none : exactTab.lookup 97 = none ∧ exactTab.lookup 65 = none ∧ exactTab.lookup 98 = none ∧ exactTab.lookup 66 = none := by decide +kernel
section
variable {row : List Nat} {ts : List (List Nat)}
theorem u_zero {u : List Nat} (hl : ts.length ≤ 1000) : xsC (mkC l25) bdU (stU row ts (some (.str u)) (some (.int (0 : Nat)))) = some (.next,stU row (ts ++ [u]) (some .nil) (some (.int (0 : Nat)))) := by
 refine xs_ite (c := false) rfl (xs_ite (c := true) rfl (Eq.trans (xs_next (ex_app (d := .str u) rfl rfl rfl (by rw [List.length_map]; exact fits_of (Nat.le_trans hl (by decide))))) ?_))
 unfold stU; rw [List.map_append]; rfl
theorem u_head {n : Nat} : xsC (mkC l25) bdU (stU row ts (some .nil) (some (.int n))) = some (.next,stU row ts (some (.str [])) (some (.int n))) := xs_ite (c := true) rfl rfl
theorem symText_len (h9 : ∀ t ∈ ts,t.length ≤ 9) {s : Nat} (hs : symOk ts s) : (symText ts s).length ≤ 9 := by
 rcases hs with hs | ⟨h1,h2⟩
 ·rw [symText_term hs]; exact Nat.le_trans (spell_ok hs).2.2 (by decide)
 ·obtain ⟨j,rfl⟩ := Nat.exists_eq_add_of_le h1
  rw [symText_rule (Nat.lt_of_add_lt_add_left h2)]; exact h9 _ (List.getElem_mem _)
theorem sym_part {s : Nat} {C : CE → List Nat → Prop} (hs : isTerm s) (h1 : exactTab.lookup (s : Int) = none → spell s = [s] → C (.blt "chr" [(.var 4)]) [s]) (h2 : ∀ t,exactTab.lookup (s : Int) = some t → spell s = t → C (.subs (.var 1) (.var 4)) t) :
  C (if (exactTab.lookup (s : Int)).isSome then .subs (.var 1) (.var 4) else .blt "chr" [(.var 4)]) (spell s) := by
 obtain ⟨e1,e2,e3,e4⟩ := exact_none
 have one : exactTab.lookup (s : Int) = none → s > 64 → C (if (exactTab.lookup (s : Int)).isSome then .subs (.var 1) (.var 4) else .blt "chr" [(.var 4)]) (spell s) := fun h h64 => by
  have hsp : spell s = [s] := if_pos h64
  have := h1 h hsp
  rw [h,hsp]; exact this
 rcases hs with rfl | rfl | rfl | rfl | ⟨h7,h54⟩
 ·exact one e1 (by decide)
 ·exact one e2 (by decide)
 ·exact one e3 (by decide)
 ·exact one e4 (by decide)
 ·have hl := exact_op s (Nat.lt_succ_of_le h54) h7
  have hsp : spell s = ops.getD (s - 7) [] := if_neg (Nat.not_lt.mpr (Nat.le_trans h54 (by decide)))
  have := h2 _ hl hsp
  rw [hl,hsp]; exact this
theorem u_sym {u : List Nat} {s : Nat} (hs : symOk ts s) (hl : ts.length ≤ 1000) (h9 : ∀ t ∈ ts,t.length ≤ 9) (hu : u.length ≤ 1000) : xsC (mkC l25) bdU (stU row ts (some (.str u)) (some (.int s))) = some (.next,stU row ts (some (.str (u ++ symText ts s))) (some (.int s))) := by
 have cat : ∀ (e : CE) (t : List Nat),evC (mkC l25) (viewC (stU row ts (some (.str u)) (some (.int s)))) e = some (.str t) → t.length ≤ 9 → xsC (mkC l25) [.set 3 (.call 7 [(.var 3),e])] (stU row ts (some (.str u)) (some (.int s))) = some (.next,stU row ts (some (.str (u ++ t))) (some (.int s))) := fun e t he ht =>
  xs_one (ex_set (ev_call (evs_cons rfl (evs_one he)) rfl (f7_spec (Nat.le_trans (Nat.add_le_add hu ht) (by decide))) rfl) rfl)
 have hpos : (s : Int) ≠ 0 := fun h => by
  obtain rfl := Int.natCast_eq_zero.mp h
  rcases hs with h | h
  ·exact absurd (term_pos h) (by decide)
  ·exact absurd h.1 (by decide)
 refine xs_ite (c := false) rfl (xs_ite (c := false) (Eq.trans (ts_val (ev_call (evs_one rfl) rfl (f13_spec s) rfl)) (congrArg some (beq_eq_false_iff_ne.mpr hpos))) ?_)
 have t3 : ∀ {b : Bool},decide ((256 : Int) ≤ s) = b → tsC (mkC l25) (viewC (stU row ts (some (.str u)) (some (.int s)))) (.val (.call 12 [(.var 4)])) = some b := fun h => Eq.trans (ts_val (ev_call (evs_one rfl) rfl (f12_spec s) rfl)) (congrArg some h)
 have hlen := symText_len h9 hs
 rcases hs with hs | ⟨h1,h2⟩
 ·rw [symText_term hs] at hlen ⊢
  refine xs_ite (t3 (decide_eq_false fun h => absurd (Nat.le_trans (Int.ofNat_le.mp h) (term_lt hs)) (by decide))) ?_
  have := sym_part (C := fun e t => xsC (mkC l25) [.ite (.cmp .In (.var 4) (.var 1)) [.set 3 ceU2] [.set 3 ceU3]] (stU row ts (some (.str u)) (some (.int s))) = some (.next,stU row ts (some (.str (u ++ t))) (some (.int s)))) hs
   (fun h h' => xs_ite (c := false) (congrArg (fun x => some (Option.isSome x)) h) (cat _ _ (Eq.trans (ev_blt (evs_one rfl)) (bchr (Nat.le_trans (term_lt hs) (by decide)))) (by decide : 1 ≤ 9)))
   (fun t h h' => xs_ite (c := true) (congrArg (fun x => some (Option.isSome x)) h) (cat _ _ (Eq.trans (ev_subs rfl rfl) (congrArg (Option.map D.str) h)) (h' ▸ hlen)))
  exact this
 ·obtain ⟨j,rfl⟩ := Nat.exists_eq_add_of_le h1
  have hlt := Nat.lt_of_add_lt_add_left h2
  rw [symText_rule hlt] at hlen ⊢
  refine xs_ite (t3 (decide_eq_true (Int.ofNat_le.mpr h1))) (cat _ _ (Eq.trans (ev_subs rfl (Eq.trans (ev_bin rfl rfl) (b_sub (m := 256) h1))) ?_) hlen)
  rw [Nat.add_sub_cancel_left]; exact subs_bmap hlt hl
noncomputable abbrev KU : Rho → Option (Out × Rho) := fun ρ => xsC (mkC l25) bdU ρ
noncomputable abbrev NU : Rho → Option (Out × Rho) := fun ρ => xsC (mkC l25) [] ρ
theorem u_syms (hl : ts.length ≤ 1000) (h9 : ∀ t ∈ ts,t.length ≤ 9) (r : List Nat) : ∀ (u : List Nat) (b : Option D),(∀ s ∈ r,symOk ts s) → u.length + 9 * r.length ≤ 1000 → ∃ b',Steps KU NU 4 (r.map fun (s : Nat) => D.int s) (stU row ts (some (.str u)) b) (stU row ts (some (.str (u ++ ruleText ts r))) b') := by
 induction r with
 | nil => exact fun u b _ _ => ⟨b,by rw [show ruleText ts [] = [] from rfl,List.append_nil]; exact Steps.nil⟩
 | cons s r ih =>
  intro u b h hu
  have hs := h s List.mem_cons_self
  have hsl := symText_len h9 hs
  rw [List.length_cons] at hu
  obtain ⟨b',h'⟩ := ih (u ++ symText ts s) (some (.int s)) (fun x hx => h x (List.mem_cons_of_mem _ hx)) (by rw [List.length_append]; lia)
  rw [List.append_assoc] at h'
  exact ⟨b',(Steps.one (u_sym hs hl h9 (Nat.le_trans (Nat.le_add_right _ _) hu))).app h'⟩
theorem u_rows {rs : List (List Nat)} (hB : Built rs ts) (hl : ts.length ≤ 1000) : ∃ b,Steps KU NU 4 ((rowFrom 0 rs).map fun (s : Nat) => D.int s) (stU row [] (some .nil) none) (stU row ts (some .nil) b) := by
 induction hB with
 | nil => exact ⟨none,Steps.nil⟩
 | @snoc rs ts r hB h1 h2 h3 h4 ih =>
  rw [List.length_append] at hl
  have hl' : ts.length ≤ 1000 := Nat.le_trans (Nat.le_add_right _ _) hl
  obtain ⟨b,hb⟩ := ih hl'
  obtain ⟨b',s2⟩ := u_syms (row := row) hl' (fun t ht => (hB.ok t ht).2) r [] (some (.int ((256 + (0 + rs.length) : Nat) : Int))) h1 (by rw [List.length_nil,Nat.zero_add]; exact Nat.le_trans (Nat.mul_le_mul_left 9 h3) (by decide))
  rw [List.nil_append] at s2
  have := hb.app ((Steps.one u_head).app (s2.app (Steps.one (u_zero hl'))))
  refine ⟨some (.int ((0 : Nat) : Int)),?_⟩
  rw [rowFrom_snoc,List.map_append,List.map_cons,List.map_append]
  exact this
end
theorem f25_spec {rs ts : List (List Nat)} (hB : Built rs ts) (hl : ts.length ≤ 1000) (hr : (rowFrom 0 rs).length ≤ 1000000) : f25 [.list ((rowFrom 0 rs).map fun (s : Nat) => .int s)] = some (.list (ts.map .str)) := by
 obtain ⟨b,hb⟩ := u_rows (row := rowFrom 0 rs) hB hl
 have h : xsC (mkC l25) bd25t [some (.list ((rowFrom 0 rs).map fun (s : Nat) => .int s)),some (.dict exactTab),none,none,none] = some (.ret (.list (ts.map .str)),stU (rowFrom 0 rs) ts (some .nil) b) := by
  rw [bd25t_eq]
  refine Eq.trans (xs_next (ex_own rfl)) ?_
  refine Eq.trans (xs_next (ex_set rfl rfl)) ?_
  exact Eq.trans (xs_next (Eq.trans (ex_forE rfl rfl (by rw [List.length_map]; exact fits_of hr)) hb.done)) (xs_ret rfl)
 show (xsC (mkC l25) bd25t [some (.list ((rowFrom 0 rs).map fun (s : Nat) => .int s)),some (.dict exactTab),none,none,none]).bind _ = _
 rw [h]; rfl
noncomputable def flagNames : List (List Nat) := [[79,80,84,73,77,73,90,69,68],[78,69,87,76,79,67,65,76,83],[86,65,82,65,82,71,83],[86,65,82,75,69,89,87,79,82,68,83],[78,69,83,84,69,68],[71,69,78,69,82,65,84,79,82],[78,79,70,82,69,69],[67,79,82,79,85,84,73,78,69],[73,84,69,82,65,66,76,69,95,67,79,82,79,85,84,73,78,69],[65,83,89,78,67,95,71,69,78,69,82,65,84,79,82]]
noncomputable def fword (p : Nat) : List Nat := if p < 10 then flagNames.getD p [] else [48,120] ++ [[49,50,52,56].getD (p % 4) 0] ++ List.replicate (p / 4) 48
theorem hex_small : ∀ p,p < 32 → (hexOf ((2 ^ p : Nat) : Int)).length ≤ 20 ∧ (flagTab.lookup ((2 ^ p : Nat) : Int)).getD (hexOf ((2 ^ p : Nat) : Int)) = fword p := by decide +kernel
theorem hex_zero : hexOf 0 = [48,120,48] := by decide +kernel
theorem fword_len : ∀ p,p < 32 → (fword p).length ≤ 20 := by decide +kernel
theorem strs_map (l : List (List Nat)) : strsOf (l.map D.str) = some l := by
 induction l with
 | nil => rfl
 | cons a l ih =>
  show (strsOf (l.map D.str)).bind _ = _
  rw [ih]; rfl
theorem sum_len {l : List (List Nat)} (h : ∀ x ∈ l,x.length ≤ 20) : (l.map (·.length)).sum ≤ 20 * l.length := by
 induction l with
 | nil => exact Nat.le_refl 0
 | cons a l ih =>
  rw [List.map_cons,List.sum_cons,List.length_cons,Nat.mul_succ,Nat.add_comm]
  exact Nat.add_le_add (ih fun x hx => h x (List.mem_cons_of_mem _ hx)) (h a List.mem_cons_self)
theorem join_meth {sep : List Nat} {l : List (List Nat)} {d : D} (hd : seqOf d = some (l.map D.str)) (h : ∀ x ∈ l,x.length ≤ 20) (hl : l.length ≤ 1000) (hs : sep.length ≤ 5) : meth (.str sep) "join" [d] = some (.str (joinOf sep l)) := by
 show (seqOf d).bind (fun ds => (strsOf ds).bind fun ss => if fits ((ss.map (·.length)).sum + ss.length * sep.length) then some (D.str (joinOf sep ss)) else none) = _
 rw [hd]
 show (strsOf (l.map D.str)).bind _ = _
 rw [strs_map]
 exact if_pos (fits_of (Nat.le_trans (Nat.add_le_add (Nat.le_trans (sum_len h) (Nat.mul_le_mul_left 20 hl)) (Nat.mul_le_mul hl hs)) (by decide)))
noncomputable def bitsOf (F : Nat) : List Nat := (List.range 32).filter fun p => F / 2 ^ p % 2 == 1
noncomputable def zeroText : List Nat := [48,120,48]
noncomputable def fjoin (ps : List Nat) : List Nat := if ps = [] then zeroText else joinOf [44,32] (ps.map fword)
theorem filt_more {p : Nat → Bool} {a : Nat} (h : ∀ x,a ≤ x → p x = false) (m : Nat) : (List.range (a + m)).filter p = (List.range a).filter p := by
 induction m with
 | zero => rfl
 | succ m ih =>
  rw [← Nat.add_assoc,List.range_succ,List.filter_append,ih,List.filter_cons_of_neg (by rw [h _ (Nat.le_add_right a m)]; decide)]
  exact List.append_nil _
theorem bits_none {F : Nat} (hF : F < 2 ^ 32) (h : bitsOf F = []) : F = 0 := by
 have hb : ∀ p,p < 32 → F / 2 ^ p % 2 = 0 := fun p hp => by
  have := List.filter_eq_nil_iff.mp h p (List.mem_range.mpr hp)
  rw [beq_iff_eq] at this
  exact (Nat.mod_two_eq_zero_or_one _).resolve_right this
 have : ∀ i,i ≤ 32 → F % 2 ^ i = 0 := by
  intro i
  induction i with
  | zero => exact fun _ => Nat.mod_one F
  | succ i ih =>
   intro hi
   rw [Nat.mod_pow_succ,ih (Nat.le_of_succ_le hi),hb i hi]; rfl
 have h32 := this 32 (Nat.le_refl _)
 rwa [Nat.mod_eq_of_lt hF] at h32
theorem bits_zero : bitsOf 0 = [] := by decide +kernel
noncomputable def bdF1 : CStm := .set 3 (.bin .LShift (.const (.int (1))) (.var 2))
noncomputable def bdF2 : List CStm := [.app 1 none (.meth "get" (.dat 5) [(.var 3),(.blt "hex" [(.var 3)])]),.aug 0 .BitXor (.var 3),.ite (.neg (.val (.var 0))) [.brk] []]
noncomputable def bdF : List CStm := [bdF1,.ite (.val (.bin .BitAnd (.var 0) (.var 3))) bdF2 []]
noncomputable def elsF : List CStm := [.app 1 none (.blt "hex" [(.var 0)])]
theorem bd2_eq : bd2 = [.own 1 (.list []),.forR 2 [(.const (.int (32)))] bdF elsF,.ret (.meth "join" (.const (.str [44,32])) [(.var 1)])] := rfl
noncomputable def stF (F : Nat) (L : List (List Nat)) (a b : Option D) : Rho := [some (.int F),some (.own (L.map .str)),a,b]
theorem hex_blt {n : Nat} (h : (hexOf (n : Int)).length ≤ 20) : bcall "hex" [.int n] = some (.str (hexOf n)) := by
 show (if fits (hexOf n).length then some (D.str (hexOf n)) else none) = _
 exact if_pos (fits_of (Nat.le_trans h (by decide)))
theorem stF_app {F : Nat} {L : List (List Nat)} {a b : Option D} {w : List Nat} : (stF F L a b).set 1 (some (.own (L.map .str ++ [.str w]))) = stF F (L ++ [w]) a b := by
 unfold stF; rw [List.map_append]; rfl
theorem half_zero {q P : Nat} (h : q % 2 = 0) : q / 2 * (2 * P) = q * P := by
 rw [← Nat.mul_assoc,Nat.div_mul_cancel (Nat.dvd_of_mod_eq_zero h)]
theorem half_one {q P : Nat} (h : q % 2 = 1) : q / 2 * (2 * P) + P = q * P := by
 have e : q / 2 * 2 + 1 = q := by have := Nat.div_add_mod q 2; rw [h,Nat.mul_comm] at this; exact this
 rw [← Nat.mul_assoc,← Nat.succ_mul,Nat.succ_eq_add_one,e]
theorem f_step {F i : Nat} (hi : i < 32) {L : List (List Nat)} (hL : L.length ≤ 1000) (a b : Option D) :
  xsC (mkC l2) bdF (stF (F / 2 ^ i * 2 ^ i) L (some (.int i)) b) =
   some (if F / 2 ^ i % 2 = 1 ∧ F / 2 ^ (i + 1) * 2 ^ (i + 1) = 0 then .brk else .next,stF (F / 2 ^ (i + 1) * 2 ^ (i + 1)) (L ++ if F / 2 ^ i % 2 = 1 then [fword i] else []) (some (.int i)) (some (.int (2 ^ i : Nat)))) := by
 have hP : 0 < 2 ^ i := Nat.pow_pos (by decide)
 have hand : F / 2 ^ i * 2 ^ i &&& 2 ^ i = (F / 2 ^ i % 2) * 2 ^ i := by rw [kbt_nat,Nat.mul_div_cancel _ hP]
 have hsh := shl_one (Nat.le_trans (Nat.le_of_lt hi) (by decide : 32 ≤ 1000))
 rw [show F / 2 ^ (i + 1) = F / 2 ^ i / 2 by rw [Nat.pow_succ,Nat.div_div_eq_div_mul],show (2 : Nat) ^ (i + 1) = 2 * 2 ^ i by rw [Nat.pow_succ,Nat.mul_comm]]
 obtain ⟨hh1,hh2⟩ := hex_small i hi
 generalize (2 : Nat) ^ i = P at *
 generalize F / P = q at *
 have band : Builtin.bitAnd ((q * P : Nat) : Int) (P : Int) = ((q % 2 * P : Nat) : Int) := by
  rw [bitAnd_pp (Int.natCast_nonneg _) (Int.natCast_nonneg _)]; exact congrArg Nat.cast hand
 refine Eq.trans (xs_next (ex_set (Eq.trans (ev_bin rfl rfl) hsh) rfl)) ?_
 rcases Nat.mod_two_eq_zero_or_one q with h2 | h2
 ·rw [h2,Nat.zero_mul] at band
  have hne : ¬ (0 : Nat) = 1 := by decide
  rw [h2,if_neg fun h => hne h.1,if_neg hne,List.append_nil,half_zero h2]
  exact xs_ite (c := false) (congrArg (fun x : Int => some (x != 0)) band) rfl
 ·rw [h2,Nat.one_mul] at band
  have hxor : Builtin.bitXor ((q * P : Nat) : Int) (P : Int) = ((q / 2 * (2 * P) : Nat) : Int) := by
   rw [bitXor_and,band,← half_one h2]
   lia
  rw [h2,if_pos rfl]
  refine xs_ite (c := true) (Eq.trans (congrArg (fun x : Int => some (x != 0)) band) (congrArg some (bne_iff_ne.mpr fun e => absurd (Int.natCast_eq_zero.mp e) (Nat.ne_of_gt hP)))) ?_
  refine Eq.trans (xs_next (Eq.trans (ex_app (d := .str (fword i)) rfl (Eq.trans (ev_meth rfl (evs_cons rfl (evs_one (Eq.trans (ev_blt (evs_one rfl)) (hex_blt hh1))))) (congrArg (fun x => some (D.str x)) hh2)) rfl (by rw [List.length_map]; exact fits_of (Nat.le_trans hL (by decide)))) (congrArg (fun x => some (Out.next,x)) stF_app))) ?_
  refine Eq.trans (xs_next (ex_aug (d := .int (q / 2 * (2 * P) : Nat)) rfl rfl rfl (congrArg (fun x => some (D.int x)) hxor) rfl)) ?_
  by_cases hz : q / 2 * (2 * P) = 0
  ·rw [if_pos ⟨rfl,hz⟩]
   exact xs_ite (c := true) (congrArg (fun x : Nat => some (!((x : Int) != 0))) hz) rfl
  ·rw [if_neg fun h => hz h.2]
   exact xs_ite (c := false) (congrArg (fun x => some (!x)) (bne_iff_ne.mpr fun e => hz (Int.natCast_eq_zero.mp e))) rfl
noncomputable def fwords (F : Nat) : List (List Nat) := if F = 0 then [zeroText] else (bitsOf F).map fword
noncomputable def lowBits (F i : Nat) : List (List Nat) := ((List.range i).filter fun p => F / 2 ^ p % 2 == 1).map fword
theorem lowBits_succ (F i : Nat) : lowBits F (i + 1) = lowBits F i ++ if F / 2 ^ i % 2 = 1 then [fword i] else [] := by
 unfold lowBits
 rw [List.range_succ,List.filter_append,List.map_append]
 by_cases h : F / 2 ^ i % 2 = 1
 ·rw [if_pos h,List.filter_cons_of_pos (p := fun p => F / 2 ^ p % 2 == 1) (a := i) (beq_iff_eq.mpr h)]; rfl
 ·rw [if_neg h,List.filter_cons_of_neg (p := fun p => F / 2 ^ p % 2 == 1) (a := i) fun e => h (beq_iff_eq.mp e)]; rfl
theorem lowBits_all {F i : Nat} (hi : i ≤ 32) (h : F / 2 ^ i = 0) : lowBits F i = (bitsOf F).map fword := by
 unfold lowBits bitsOf
 have hm := filt_more (p := fun p => F / 2 ^ p % 2 == 1) (a := i) (fun x hx => by
  obtain ⟨k,rfl⟩ := Nat.exists_eq_add_of_le hx
  show (F / 2 ^ (i + k) % 2 == 1) = false
  rw [Nat.pow_add,← Nat.div_div_eq_div_mul,h,Nat.zero_div]; rfl) (32 - i)
 rw [Nat.add_sub_of_le hi] at hm
 rw [hm]
theorem lowBits_len (F i : Nat) : (lowBits F i).length ≤ i := by
 unfold lowBits
 rw [List.length_map]
 exact Nat.le_trans (List.length_filter_le _ _) (Nat.le_of_eq List.length_range)
theorem mul_pow_zero {x i : Nat} (h : x * 2 ^ i = 0) : x = 0 := (Nat.mul_eq_zero.mp h).resolve_right (Nat.ne_of_gt (Nat.pow_pos (by decide)))
theorem f_loop {F : Nat} (hF : F < 2 ^ 32) (m : Nat) : ∀ (i : Nat) (a b : Option D),i + m = 32 → (F = 0 ∨ F / 2 ^ i * 2 ^ i ≠ 0) →
  ∃ ρ',forGoC (fun ρ => xsC (mkC l2) bdF ρ) (fun ρ => xsC (mkC l2) elsF ρ) 2 ((List.range' i m).map fun (i : Nat) => D.int ((0 : Int) + (i : Int) * 1)) (stF (F / 2 ^ i * 2 ^ i) (lowBits F i) a b) = some (.next,ρ') ∧ ρ'[1]?.join = some (.own ((fwords F).map .str)) := by
 induction m with
 | zero =>
  intro i a b h h0
  obtain rfl : i = 32 := h
  have hz : F / 2 ^ 32 = 0 := Nat.div_eq_of_lt hF
  obtain rfl : F = 0 := h0.resolve_right fun h0 => h0 (by rw [hz,Nat.zero_mul])
  rw [hz,Nat.zero_mul,show lowBits 0 32 = [] by decide +kernel]
  exact ⟨stF 0 [zeroText] a b,xs_one (ex_app (ds := []) (d := .str zeroText) rfl (Eq.trans (ev_blt (evs_one rfl)) (Eq.trans (hex_blt (n := 0) (by decide +kernel)) (congrArg (fun x => some (D.str x)) hex_zero))) rfl rfl),rfl⟩
 | succ m ih =>
  intro i a b h h0
  have hi : i < 32 := h ▸ Nat.lt_add_of_pos_right (Nat.succ_pos m)
  have hst := f_step (F := F) hi (L := lowBits F i) (Nat.le_trans (lowBits_len F i) (Nat.le_trans (Nat.le_of_lt hi) (by decide))) a b
  rw [← lowBits_succ] at hst
  have hset : (stF (F / 2 ^ i * 2 ^ i) (lowBits F i) a b).set 2 (some (.int ((0 : Int) + (i : Int) * 1))) = stF (F / 2 ^ i * 2 ^ i) (lowBits F i) (some (.int i)) b := by
   rw [Int.mul_one,Int.zero_add]; rfl
  have hst' := Eq.trans (congrArg (xsC (mkC l2) bdF) hset) hst
  by_cases hb : F / 2 ^ i % 2 = 1 ∧ F / 2 ^ (i + 1) * 2 ^ (i + 1) = 0
  ·rw [if_pos hb] at hst'
   refine ⟨_,for_brk hst',?_⟩
   have hF0 : F ≠ 0 := fun hz => by rw [hz,Nat.zero_div] at hb; exact absurd hb.1 (by decide)
   rw [show fwords F = lowBits F (i + 1) from (if_neg hF0).trans (lowBits_all hi (mul_pow_zero hb.2)).symm]; rfl
  ·rw [if_neg hb] at hst'
   obtain ⟨ρ',h1,h2⟩ := ih (i + 1) (some (.int i)) (some (.int (2 ^ i : Nat))) (by rw [← h]; exact Nat.succ_add_eq_add_succ i m) (h0.imp_right fun h0 hz => h0 (by
    have hq : F / 2 ^ (i + 1) = F / 2 ^ i / 2 := by rw [Nat.pow_succ,Nat.div_div_eq_div_mul]
    have h4 := mul_pow_zero hz
    rw [hq] at h4
    rcases Nat.mod_two_eq_zero_or_one (F / 2 ^ i) with h5 | h5
    ·rw [← half_zero h5,h4,Nat.zero_mul]
    ·exact absurd ⟨h5,hz⟩ hb))
   exact ⟨ρ',Eq.trans (for_next hst') h1,h2⟩
theorem fwords_len (F : Nat) : (∀ x ∈ fwords F,x.length ≤ 20) ∧ (fwords F).length ≤ 1000 := by
 unfold fwords
 by_cases h : F = 0
 ·rw [if_pos h]
  exact ⟨fun x hx => by rw [List.mem_singleton.mp hx]; decide,(by decide : 1 ≤ 1000)⟩
 ·rw [if_neg h]
  refine ⟨fun x hx => ?_,?_⟩
  ·obtain ⟨p,hp,rfl⟩ := List.mem_map.mp hx
   exact fword_len p (List.mem_range.mp (List.mem_filter.mp hp).1)
  ·rw [List.length_map]
   exact Nat.le_trans (List.length_filter_le _ _) (Nat.le_trans (Nat.le_of_eq List.length_range) (by decide))
theorem fwords_join {F : Nat} (hF : F < 2 ^ 32) : joinOf [44,32] (fwords F) = fjoin (bitsOf F) := by
 unfold fwords fjoin
 by_cases h : F = 0
 ·subst h; rw [if_pos rfl,bits_zero,if_pos rfl]; rfl
 ·rw [if_neg h,if_neg (fun hb => h (bits_none hF hb))]
theorem f2_spec {F : Nat} (hF : F < 2 ^ 32) : f2 [.int F] = some (.str (fjoin (bitsOf F))) := by
 have e0 : F / 2 ^ 0 * 2 ^ 0 = F := by rw [Nat.pow_zero,Nat.div_one,Nat.mul_one]
 obtain ⟨ρ',hl,h1⟩ := f_loop hF 32 0 none none rfl (by rw [e0]; exact Decidable.em _)
 rw [e0,← List.range_eq_range'] at hl
 refine fn_ret (C := mkC l2) (ρ' := ρ') rfl ?_
 rw [bd2_eq]
 refine Eq.trans (xs_next (ex_own rfl)) (Eq.trans (xs_next (Eq.trans (ex_forR (as := [.int (32 : Nat)]) rfl (ranged_n (by decide)) rfl) hl)) (xs_ret (ex_ret (Eq.trans (ev_meth rfl (evs_one ((join_map D.froze ρ' 1).trans (congrArg (Option.map D.froze) h1)))) (Eq.trans (join_meth (sep := [44,32]) rfl (fwords_len F).1 (fwords_len F).2 (by decide)) (congrArg (fun x => some (D.str x)) (fwords_join hF)))) rfl)))
noncomputable def ceW : CE := .ite (.cmp .Lt (.var 2) (.const (.int (10)))) (.subs (.var 0) (.var 2)) (.bin .Add (.bin .Add (.const (.str [48,120])) (.subs (.const (.str [49,50,52,56])) (.bin .Mod (.var 2) (.const (.int (4)))))) (.bin .Mult (.const (.str [48])) (.bin .FloorDiv (.var 2) (.const (.int (4))))))
theorem bd26_eq : bd26 = [.own 1 (.list (flagNames.map fun s => .const (.str s))),.set 2 (.comp [1] 2 ceW (.expr 2 (.var 0) []) []),.ret (.ite (.cmp .NotEq (.var 2) (.list [])) (.meth "join" (.const (.str [44,32])) [(.var 2)]) (.const (.str [48,120,48])))] := rfl
theorem beq_str {d : Option D} {l : List Nat} (h : (d.bind strOf == some l) = true) : d = some (.str l) := by
 obtain ⟨x,h1,h2⟩ := b2 (eq_of_beq h)
 cases x with
 | str y => cases h2; exact h1
 | _ => first | exact no h2 | exact nof h2 | cases h2
theorem ceW_all : ∀ q,q < 32 → ((evC (mkC l26) [some (.bor (flagNames.map .str)),none,some (.int (q : Nat))] ceW).bind strOf == some (fword q)) = true := by decide +kernel
theorem ne_nil {ws : List (List Nat)} (h : ws.length ≤ 1000) : cmpop .NotEq (.list (ws.map .str)) (.list []) = some (!ws.isEmpty) := by
 have hf : (fits (ws.map D.str).length && fits ([] : List D).length) = true := by rw [List.length_map,fits_of (Nat.le_trans h (by decide))]; rfl
 show (ite ((fits (ws.map D.str).length && fits ([] : List D).length) = true) _ none).map _ = _
 rw [if_pos hf]
 cases ws <;> rfl
theorem f26_spec {qs : List Nat} (h : ∀ q ∈ qs,q < 32) (hl : qs.length ≤ 1000) : f26 [.list (qs.map fun (q : Nat) => .int q)] = some (.str (fjoin qs)) := by
 refine fn_ret (C := mkC l26) (ρ' := [some (.list (qs.map fun (q : Nat) => .int q)),some (.own (flagNames.map .str)),some (.list (qs.map fun q => .str (fword q)))]) rfl ?_
 rw [bd26_eq]
 refine Eq.trans (xs_next (ex_own rfl)) (Eq.trans (xs_next (ex_set (comp_expr (ys := qs) (f := fun q => .int q) (g := fun q => .str (fword q)) rfl rfl (Nat.le_trans hl (by decide)) fun q hq => ⟨beq_str (ceW_all q (h q hq)),rfl⟩) rfl)) (xs_ret (ex_ret ?_ rfl)))
 have hm : qs.map (fun q => D.str (fword q)) = (qs.map fword).map .str := by rw [List.map_map]; rfl
 rw [hm]
 have hl' : (qs.map fword).length ≤ 1000 := by rw [List.length_map]; exact hl
 refine Eq.trans (ev_ite (Eq.trans (ts_cmp (y := .list []) rfl rfl rfl) (ne_nil hl'))) ?_
 cases qs with
 | nil => rfl
 | cons q r =>
  refine Eq.trans (ev_meth rfl (evs_one rfl)) (join_meth (sep := [44,32]) rfl (fun x hx => ?_) hl' (by decide))
  obtain ⟨p,hp,rfl⟩ := List.mem_map.mp hx
  exact fword_len p (h p hp)
theorem turns_filter {α : Type} {C : GC} {elt : CE} {ifs : List CT} {i : Nat} {ρ : Rho} {f g : α → D} {p : α → Bool} {ys : List α} (h : ∀ y ∈ ys,testsC C (ρ.set i (some (f y))) ifs = some (p y) ∧ (p y = true → evC C (ρ.set i (some (f y))) elt = some (g y) ∧ (g y).isEl = true)) (hl : ys.length ≤ 1000000) :
  turnsC (fun ρ => testsC C ρ ifs) i (fun ρ' => gensC C (fun ρ' => (evC C ρ' elt).bind fun d => if d.isEl then some [d] else none) [] ρ') ρ (ys.map f) = some ((ys.filter p).map g) := by
 induction ys with
 | nil => rfl
 | cons y ys ih =>
  obtain ⟨h0,h1⟩ := h y List.mem_cons_self
  have hlen : ((ys.filter p).map g).length ≤ ys.length := by rw [List.length_map]; exact List.length_filter_le _ _
  show (testsC C (ρ.set i (some (f y))) ifs).bind _ = _
  rw [h0]
  cases hp : p y with
  | true =>
   obtain ⟨h1,h2⟩ := h1 hp
   have e : (evC C (ρ.set i (some (f y))) elt).bind (fun d => if d.isEl then some [d] else none) = some [g y] := by rw [h1]; exact if_pos h2
   show Option.bind ((evC C (ρ.set i (some (f y))) elt).bind (fun d => if d.isEl then some [d] else none)) _ = _
   rw [e]
   show Option.bind (turnsC _ _ _ _ (ys.map f)) _ = _
   rw [ih (fun z hz => h z (List.mem_cons_of_mem _ hz)) (Nat.le_of_succ_le hl),List.filter_cons_of_pos hp]
   exact if_pos (fits_of (Nat.le_trans (Nat.add_le_add_left hlen 1) (Nat.le_trans (Nat.le_of_eq (Nat.add_comm _ _)) hl)))
  | false =>
   show Option.bind (turnsC _ _ _ _ (ys.map f)) _ = _
   rw [ih (fun z hz => h z (List.mem_cons_of_mem _ hz)) (Nat.le_of_succ_le hl),List.filter_cons_of_neg (by rw [hp]; exact Bool.false_ne_true)]
   exact if_pos (fits_of (Nat.le_trans (Nat.le_of_eq (Nat.zero_add _)) (Nat.le_trans hlen (Nat.le_of_succ_le hl))))
theorem tests_one {C : GC} {ρ : Rho} {t : CT} {c : Bool} (h : tsC C ρ t = some c) : testsC C ρ [t] = some c := by
 show (tsC C ρ t).bind _ = _
 rw [h]; cases c <;> rfl
theorem comp_range_if {α : Type} {C : GC} {ρ : Rho} {fr : List Nat} {n i : Nat} {elt : CE} {ifs : List CT} {es : List CE} {as : List D} {ys : List α} {f g : α → D} {p : α → Bool} (he : evsC C ρ es = some as) (hi : ranged as = some (ys.map f)) (hl : ys.length ≤ 1000000)
  (h : ∀ y ∈ ys,testsC C ((fr.map (fun i => ρ[i]?.join) ++ List.replicate n none).set i (some (f y))) ifs = some (p y) ∧ evC C ((fr.map (fun i => ρ[i]?.join) ++ List.replicate n none).set i (some (f y))) elt = some (g y) ∧ (g y).isEl = true) : evC C ρ (.comp fr n elt (.range i es ifs) []) = some (.list ((ys.filter p).map g)) := by
 show ((evsC C ρ es).bind _).map _ = _
 rw [he]
 show ((ranged as).bind _).map _ = _
 rw [hi]
 show (ite (fits (ys.map f).length = true) (turnsC _ _ _ _ (ys.map f)) none).map _ = _
 rw [turns_filter (fun y hy => ⟨(h y hy).1,fun _ => (h y hy).2⟩) hl,if_pos (fits_of (by rw [List.length_map]; exact hl))]; rfl
theorem comp_expr_if {α : Type} {C : GC} {ρ : Rho} {fr : List Nat} {n i : Nat} {elt e : CE} {ifs : List CT} {d : D} {ys : List α} {f g : α → D} {p : α → Bool} (he : evC C ρ e = some d) (hi : items d = some (ys.map f)) (hl : ys.length ≤ 1000000)
  (h : ∀ y ∈ ys,testsC C ((fr.map (fun i => ρ[i]?.join) ++ List.replicate n none).set i (some (f y))) ifs = some (p y) ∧ (p y = true → evC C ((fr.map (fun i => ρ[i]?.join) ++ List.replicate n none).set i (some (f y))) elt = some (g y) ∧ (g y).isEl = true)) : evC C ρ (.comp fr n elt (.expr i e ifs) []) = some (.list ((ys.filter p).map g)) := by
 show ((evC C ρ e).bind _).map _ = _
 rw [he]
 show ((items d).bind _).map _ = _
 rw [hi]
 show (ite (fits (ys.map f).length = true) (turnsC _ _ _ _ (ys.map f)) none).map _ = _
 rw [turns_filter h hl,if_pos (fits_of (by rw [List.length_map]; exact hl))]; rfl
noncomputable def mkN (x : Nat) : List Nat → Nat
 | [] => 0
 | c :: t => (if c = x then 1 else 0) + 2 * mkN x t
theorem mk_N (x : Nat) : ∀ t,mk x t = (mkN x t : Int)
 | [] => rfl
 | c :: t => by
  have ih := mk_N x t
  simp only [mk,mkN,ih]
  split <;> lia
theorem mkN_lt (x : Nat) : ∀ t : List Nat,mkN x t < 2 ^ t.length
 | [] => by simp [mkN]
 | c :: t => by
  have ih := mkN_lt x t
  simp only [mkN,List.length_cons,Nat.pow_succ]
  split <;> lia
theorem mkN_snoc (x c : Nat) : ∀ t : List Nat,mkN x (t ++ [c]) = mkN x t + if c = x then 2 ^ t.length else 0
 | [] => by simp [mkN]
 | a :: t => by
  have ih := mkN_snoc x c t
  rw [List.cons_append]
  simp only [mkN,ih,List.length_cons,Nat.pow_succ]
  split <;> split <;> lia
theorem mkN_bit (x : Nat) : ∀ (t : List Nat) (p : Nat),(mkN x t / 2 ^ p % 2 == 1) = decide (t[p]? = some x)
 | [],p => by simp [mkN]
 | c :: t,0 => by
  simp only [mkN,Nat.pow_zero,Nat.div_one,List.getElem?_cons_zero,Option.some.injEq]
  by_cases h : c = x
  ·rw [if_pos h,decide_eq_true h,beq_iff_eq]; lia
  ·rw [if_neg h,decide_eq_false h,beq_eq_false_iff_ne]; lia
 | c :: t,p + 1 => by
  have ih := mkN_bit x t p
  rw [List.getElem?_cons_succ,← ih]
  have : mkN x (c :: t) / 2 ^ (p + 1) = mkN x t / 2 ^ p := by
   rw [Nat.pow_succ,Nat.mul_comm,← Nat.div_div_eq_div_mul]
   congr 1
   simp only [mkN]
   split <;> lia
  rw [this]
noncomputable def places (x : Nat) (t : List Nat) : List Nat := (List.range 9).filter fun p => decide (t[p]? = some x)
theorem bits_places {x sh : Nat} {t : List Nat} (hl : t.length ≤ 9) (hs : sh ≤ 23) : bitsOf (mkN x t * 2 ^ sh) = (places x t).map fun p => p + sh := by
 have hlow : ∀ p,p < sh → (mkN x t * 2 ^ sh / 2 ^ p % 2 == 1) = false := fun p hp => by
  obtain ⟨k,rfl⟩ : ∃ k,sh = p + (k + 1) := ⟨sh - p - 1,by lia⟩
  rw [Nat.pow_add,← Nat.mul_assoc,Nat.mul_right_comm,Nat.mul_div_cancel _ (Nat.pos_of_ne_zero (by simp)),Nat.pow_succ,← Nat.mul_assoc,Nat.mul_mod_left]; rfl
 have hhigh : ∀ p,(mkN x t * 2 ^ sh / 2 ^ (sh + p) % 2 == 1) = decide (t[p]? = some x) := fun p => by
  rw [Nat.pow_add,← Nat.div_div_eq_div_mul,Nat.mul_div_cancel _ (Nat.pos_of_ne_zero (by simp)),mkN_bit]
 unfold bitsOf places
 have h0 : (List.range sh).filter (fun p => mkN x t * 2 ^ sh / 2 ^ p % 2 == 1) = [] := by
  rw [List.filter_eq_nil_iff]
  intro p hp
  rw [hlow p (List.mem_range.mp hp)]; simp
 have h1 : List.range 32 = List.range sh ++ (List.range (32 - sh)).map (sh + ·) := by rw [← List.range_add]; congr 1; lia
 have h2 : (List.range (32 - sh)).filter (fun p => decide (t[p]? = some x)) = (List.range 9).filter (fun p => decide (t[p]? = some x)) := by
  have := filt_more (p := fun p => decide (t[p]? = some x)) (a := 9) (fun p hp => by
   rw [List.getElem?_eq_none (by lia)]; simp) (32 - sh - 9)
  rw [← this]; congr 2; lia
 rw [h1,List.filter_append,h0,List.nil_append,List.filter_map,← h2]
 have h3 : ((fun p => mkN x t * 2 ^ sh / 2 ^ p % 2 == 1) ∘ fun x => sh + x) = fun p => decide (t[p]? = some x) := by
  funext p
  exact hhigh p
 rw [h3]
 apply List.map_congr_left
 intro p _
 exact Nat.add_comm _ _
theorem filt_count (x : Nat) : ∀ (t : List Nat) (n : Nat),t.length ≤ n → ((List.range n).filter fun p => decide (t[p]? = some x)).length = t.count x
 | [],n,_ => by
  rw [List.count_nil,List.length_eq_zero_iff,List.filter_eq_nil_iff]
  intro p _; simp
 | c :: t,0,h => by simp at h
 | c :: t,n + 1,h => by
  have ih := filt_count x t n (by simpa using h)
  rw [List.range_succ_eq_map,List.filter_cons,List.filter_map,List.count_cons]
  have h3 : ((fun p => decide ((c :: t)[p]? = some x)) ∘ Nat.succ) = fun p => decide (t[p]? = some x) := by
   funext p
   simp only [Function.comp,Nat.succ_eq_add_one,List.getElem?_cons_succ]
  rw [h3]
  by_cases hc : c = x
  ·subst hc
   simp only [List.getElem?_cons_zero,decide_true,if_true,List.length_cons,List.length_map,ih,beq_self_eq_true]
  ·have h1 : decide ((c :: t)[0]? = some x) = false := by simp [hc]
   have h2 : (c == x) = false := by simpa using hc
   rw [h1,h2]
   simp only [Bool.false_eq_true,if_false,List.length_map,ih,Nat.add_zero]
theorem filt_first {p : Nat → Bool} {k : Nat} (h1 : p k = true) (h2 : ∀ j,j < k → p j = false) {n : Nat} (hk : k < n) : ((List.range n).filter p).take 1 = [k] := by
 obtain ⟨m,rfl⟩ : ∃ m,n = k + (m + 1) := ⟨n - k - 1,by lia⟩
 have h0 : (List.range k).filter p = [] := by
  rw [List.filter_eq_nil_iff]
  intro j hj
  rw [h2 j (List.mem_range.mp hj)]; simp
 rw [List.range_add,List.filter_append,h0,List.nil_append,List.range_succ_eq_map,List.map_cons,List.filter_cons_of_pos (by simpa using h1)]
 rfl
section
variable {l : List Nat} {c sh : Nat}
noncomputable def stG (l : List Nat) (c t : Nat) (sh : Nat) (V4 V5 V6 V7 : Option D) : Rho := [some (.str l),some (.sig [c] t),some (.int (mk c l)),some (.int sh),V4,V5,V6,V7]
noncomputable def ceG1 : CE := .comp [2] 2 (.var 2) (.range 2 [(.const (.int (9)))] [(.cmp .Eq (.bin .Mod (.bin .FloorDiv (.var 0) (.bin .Pow (.const (.int (2))) (.var 2))) (.const (.int (2)))) (.const (.int (1))))]) []
noncomputable def bdG : List CStm := [.ite (.val (.call 4 [(.call 9 [(.var 0),(.var 4)]),(.var 1)])) [.set 6 (.call 6 [(.var 6),(.call 5 [(.const (.int (1))),(.bin .Add (.var 4) (.var 3))])])] []]
theorem bsf_eq : bsfPre = [.set 5 ceG1,.set 6 (.const (.int (0))),.forR 4 [(.blt "len" [(.var 0)])] bdG []] := rfl
noncomputable def psD (c : Nat) (l : List Nat) : D := .list ((places c l).map fun (p : Nat) => .int p)
theorem pow_two {k : Nat} (h : k ≤ 1000) : binop .Pow (.int 2) (.int k) = some (.int (2 ^ k : Nat)) :=
 Eq.trans (if_pos (by rw [nat_dec,decide_eq_true (show (k : Int) ≤ 1000 from Int.ofNat_le.mpr h)]; rfl)) (by rw [Int.natCast_pow]; rfl)
theorem ceG1_ok {M : Nat} {ρ : Rho} (h : ρ[2]?.join = some (.int M)) : evC (mkC l29) ρ ceG1 = some (.list (((List.range 9).filter fun p => M / 2 ^ p % 2 == 1).map fun (p : Nat) => D.int p)) :=
 comp_range_if (C := mkC l29) (ρ := ρ) (fr := [2]) (n := 2) (i := 2) (as := [.int (9 : Nat)]) (ys := List.range 9) (f := fun p => .int p) (g := fun p => .int p) (p := fun p => M / 2 ^ p % 2 == 1) rfl rfl (by decide) fun p hp => by
  have hp9 := Nat.le_of_lt (List.mem_range.mp hp)
  have hfr : (([2] : List Nat).map (fun i => ρ[i]?.join) ++ List.replicate 2 none).set 2 (some (.int (p : Int))) = [some (.int M),none,some (.int p)] := by
   rw [List.map_cons,h]; rfl
  rw [hfr]
  have e : tsC (mkC l29) [some (.int M),none,some (.int p)] (.cmp .Eq (.bin .Mod (.bin .FloorDiv (.var 0) (.bin .Pow (.const (.int (2))) (.var 2))) (.const (.int (2)))) (.const (.int (1)))) = some (((M / 2 ^ p % 2 : Nat) : Int) == (1 : Nat)) :=
   Eq.trans (ts_cmp (Eq.trans (ev_bin (Eq.trans (ev_bin rfl (Eq.trans (ev_bin rfl rfl) (pow_two (Nat.le_trans hp9 (by decide))))) (b_div (Nat.pow_pos (by decide)) (Nat.le_trans (Nat.pow_le_pow_right (by decide) hp9) (by decide)))) rfl) (b_mod (m := 2) (by decide))) rfl rfl) rfl
  refine ⟨tests_one (e.trans ?_),rfl,rfl⟩
  rcases Nat.mod_two_eq_zero_or_one (M / 2 ^ p) with h | h <;> (rw [h]; rfl)
theorem g_step (hl : l.length ≤ 9) (hs : sh ≤ 23) {i t : Nat} (hi : i < l.length) (V5 V7 : Option D) :
  xsC (mkC l29) bdG (stG l c t sh (some (.int i)) V5 (some (.int (mkN c (l.take i) * 2 ^ sh : Nat))) V7) = some (.next,stG l c t sh (some (.int i)) V5 (some (.int (mkN c (l.take (i + 1)) * 2 ^ sh : Nat))) V7) := by
 have hil : (l.take i).length = i := by rw [List.length_take,Nat.min_eq_left (Nat.le_of_lt hi)]
 have hi9 := Nat.le_trans (Nat.le_of_lt hi) hl
 have hlt := mkN_lt c (l.take i)
 rw [hil] at hlt
 rw [List.take_add_one,List.getElem?_eq_getElem hi,Option.toList_some,mkN_snoc,hil]
 generalize mkN c (l.take i) = B at *
 have ht : tsC (mkC l29) (viewC (stG l c t sh (some (.int i)) V5 (some (.int (B * 2 ^ sh : Nat))) V7)) (.val (.call 4 [(.call 9 [(.var 0),(.var 4)]),(.var 1)])) = some (([l[i]] : List Nat) == [c]) :=
  Eq.trans (ts_val (ev_call (evs_cons (ev_call (evs_cons rfl (evs_one rfl)) rfl (f9_spec hi (Nat.le_trans hl (by decide))) rfl) (evs_one rfl)) rfl (f4_spec _ _) rfl)) rfl
 by_cases hc : l[i] = c
 ·have hlt' : B * 2 ^ sh < 2 ^ (i + sh) := by rw [Nat.pow_add]; exact Nat.mul_lt_mul_of_pos_right hlt (Nat.pow_pos (by decide))
  have hor : (B * 2 ^ sh ||| 2 ^ (i + sh)) = (B + 2 ^ i) * 2 ^ sh := by
   have h1 := nat_or_add_and (B * 2 ^ sh) (2 ^ (i + sh))
   rw [show B * 2 ^ sh &&& 2 ^ (i + sh) = 0 by rw [kbt_nat,Nat.div_eq_of_lt hlt']; exact Nat.zero_mul _,Nat.add_zero] at h1
   rw [h1,Nat.pow_add,Nat.add_mul]
  rw [if_pos hc,← hor]
  refine xs_ite (c := true) (ht.trans (congrArg some (by rw [hc]; exact beq_self_eq_true _))) (xs_one (ex_set (ev_call (evs_cons rfl (evs_one (ev_call (evs_cons rfl (evs_one (Eq.trans (ev_bin rfl rfl) (b_add i sh)))) rfl (f5_spec (Nat.le_trans (Nat.add_le_add hi9 hs) (by decide))) rfl))) rfl (f6_spec _ _) rfl) rfl))
 ·rw [if_neg hc,Nat.add_zero]
  exact xs_ite (c := false) (ht.trans (congrArg some (beq_one hc))) rfl
theorem places_len : (places c l).length ≤ 9 := Nat.le_trans (List.length_filter_le _ _) (Nat.le_of_eq List.length_range)
theorem sf_told (hl : l.length ≤ 9) (hs : sh ≤ 23) {t : Nat} {V4 : Option D} : tsC (mkC l29) (viewC (stG l c t sh V4 (some (psD c l)) (some (.int (mkN c l * 2 ^ sh : Nat))) none)) sfT1 = some false := by
 have hM : mkN c l < 2 ^ 9 := Nat.lt_of_lt_of_le (mkN_lt c l) (Nat.pow_le_pow_right (by decide) hl)
 have hF32 : mkN c l * 2 ^ sh < 2 ^ 32 := by
  have := Nat.mul_lt_mul_of_lt_of_le hM (Nat.pow_le_pow_right (by decide : 0 < 2) hs) (Nat.pow_pos (by decide))
  exact this
 refine Eq.trans (ts_cmp (y := .str (fjoin (bitsOf (mkN c l * 2 ^ sh)))) (ev_call (evs_one rfl) rfl (f2_spec hF32) rfl) (ev_call (evs_one (comp_expr (ys := places c l) (f := fun p => .int p) (g := fun p => .int ((p + sh : Nat) : Int)) rfl rfl (Nat.le_trans places_len (by decide)) fun p hp => ⟨rfl,rfl⟩)) rfl ?_ rfl) rfl) (congrArg some (bne_self_eq_false (fjoin (bitsOf (mkN c l * 2 ^ sh)))))
 rw [bits_places hl hs,← f26_spec (qs := (places c l).map fun p => p + sh) (fun q hq => by
  obtain ⟨p,hp,rfl⟩ := List.mem_map.mp hq
  exact Nat.lt_of_lt_of_le (Nat.add_lt_add_of_lt_of_le (List.mem_range.mp (List.mem_filter.mp hp).1) hs) (by decide)) (by rw [List.length_map]; exact Nat.le_trans places_len (by decide)),List.map_map]
 rfl
theorem sf_spec (hl : l.length ≤ 9) (hs : sh ≤ 23) : SfFits (mkC l29) bsfPre sfT1 sfLast l c (mk c l) sh := by
 intro t
 have hpl : ((List.range 9).filter fun p => mkN c l / 2 ^ p % 2 == 1) = places c l := congrArg (fun f => (List.range 9).filter f) (funext fun p => mkN_bit c l p)
 have hl' : l.length ≤ 1000 := Nat.le_trans hl (by decide)
 obtain ⟨ρ₁,x3,V4,rfl⟩ := for_range (C := mkC l29) (x := 4) (b := bdG) (ρ := stG l c t sh none (some (psD c l)) (some (.int (mkN c (l.take 0) * 2 ^ sh : Nat))) none) (evs_one (ev_len (i := 0) rfl hl')) (ranged_n (Nat.le_trans hl' (by decide))) (Nat.le_trans hl' (by decide))
  (fun i ρ => ∃ V4,ρ = stG l c t sh V4 (some (psD c l)) (some (.int (mkN c (l.take i) * 2 ^ sh : Nat))) none) ⟨_,rfl⟩ (fun i hi ρ ⟨V4,hρ⟩ => by
   subst hρ
   rw [Int.mul_one,Int.zero_add]
   exact ⟨_,g_step hl hs hi _ _,_,rfl⟩)
 rw [List.take_length] at x3
 refine ⟨stG l c t sh V4 (some (psD c l)) (some (.int (mkN c l * 2 ^ sh : Nat))) none,(places c l).map fun (p : Nat) => (p : Int),?_,rfl,rfl,?_,sf_told hl hs,?_,?_,?_,?_⟩
 ·rw [bsf_eq]
  refine Eq.trans (xs_next (ex_set (d := psD c l) (Eq.trans (ceG1_ok (M := mkN c l) (by rw [mk_N]; rfl)) (by rw [hpl]; rfl)) rfl)) (Eq.trans (xs_next (ex_set rfl rfl)) (Eq.trans (congrArg (xsC (mkC l29) _) ?_) (xs_one x3)))
  show stG l c t sh none (some (psD c l)) (some (.int ((0 : Nat) : Int))) none = stG l c t sh none (some (psD c l)) (some (.int (0 * 2 ^ sh : Nat))) none
  rw [Nat.zero_mul]
 ·rw [List.map_map]; rfl
 ·rw [List.length_map]
  exact (filt_count c l 9 hl).symm
 ·rw [List.length_map]
  exact fits_of (Nat.le_trans places_len (by decide))
 ·intro k h1 h2
  have hk : k < 9 := Nat.lt_of_lt_of_le (List.getElem?_eq_some_iff.mp h1).1 hl
  have hf := filt_first (p := fun p => decide (l[p]? = some c)) (k := k) (decide_eq_true h1) (fun j hj => decide_eq_false (h2 j hj)) hk
  refine ⟨(stG l c t sh V4 (some (psD c l)) (some (.int (mkN c l * 2 ^ sh : Nat))) none).set 7 (some (.int k)),ex_ret (ev_cmp (x := .list [.int k]) (y := .list [.int k]) (Eq.trans (ev_slice (x := psD c l) rfl rfl rfl) ?_) rfl rfl (congrArg some (beq_self_eq_true ([(k : Int)] : List Int)))) rfl⟩
  refine (if_pos (by rw [List.length_map]; exact fits_of (Nat.le_trans places_len (by decide)))).trans (congrArg (fun x => some (D.list x)) ?_)
  show cut _ none (some ((1 : Nat) : Int)) = _
  rw [cut_to,← List.map_take]
  exact congrArg (List.map _) hf
 ·intro h
  rw [List.map_eq_nil_iff]
  exact List.filter_eq_nil_iff.mpr fun p _ hp => h p (of_decide_eq_true hp)
end
theorem turns_flat {α : Type} {C : GC} {i : Nat} {ρ : Rho} {k : Rho → Option (List D)} {f : α → D} {g : α → List D} {ys : List α} (h : ∀ y ∈ ys,k (ρ.set i (some (f y))) = some (g y) ∧ (g y).length ≤ 1000) (hl : ys.length ≤ 100) :
  turnsC (fun ρ => testsC C ρ []) i k ρ (ys.map f) = some (ys.flatMap g) ∧ (ys.flatMap g).length ≤ 1000 * ys.length := by
 induction ys with
 | nil => exact ⟨rfl,Nat.le_refl 0⟩
 | cons y ys ih =>
  obtain ⟨ih,ih'⟩ := ih (fun z hz => h z (List.mem_cons_of_mem _ hz)) (Nat.le_of_succ_le hl)
  obtain ⟨h1,h2⟩ := h y List.mem_cons_self
  have hb : (g y).length + (ys.flatMap g).length ≤ 1000 * (ys.length + 1) := by rw [Nat.mul_succ,Nat.add_comm]; exact Nat.add_le_add ih' h2
  refine ⟨?_,by rw [List.flatMap_cons,List.length_append,List.length_cons]; exact hb⟩
  show (k (ρ.set i (some (f y)))).bind _ = _
  rw [h1]
  show (turnsC _ _ _ _ (ys.map f)).bind _ = _
  rw [ih]
  exact if_pos (fits_of (Nat.le_trans hb (Nat.le_trans (Nat.mul_le_mul_left 1000 hl) (by decide))))
theorem join_nil (l : List (List Nat)) : joinOf [] l = l.flatten := by
 induction l with
 | nil => rfl
 | cons x l ih =>
  cases l with
  | nil => exact (List.append_nil x).symm
  | cons y r =>
   show x ++ [] ++ joinOf [] (y :: r) = _
   rw [List.append_nil,ih]; rfl
theorem add_lists {a b : D} {x y : List D} (ha : a = .list x ∨ a = .bor x) (hb : b = .list y ∨ b = .bor y) (h : x.length + y.length ≤ 1000000) : binop .Add a b = some (.list (x ++ y)) := by
 rcases ha with rfl | rfl <;> rcases hb with rfl | rfl <;> exact if_pos (fits_of h)
theorem blen_list {d : D} {x : List D} (h : d = .list x ∨ d = .bor x) (hl : x.length ≤ 1000000) : bcall "len" [d] = some (.int x.length) := by
 rcases h with rfl | rfl <;> exact if_pos (fits_of hl)
theorem slice_seq {d lo hi : D} {ds : List D} {l h : Option Int} (hd : d = .list ds ∨ d = .bor ds) (hlo : optInt lo = some l) (hhi : optInt hi = some h) (hl : ds.length ≤ 1000000) : slice d lo hi = some (.list (cut ds l h)) := by
 unfold slice
 rw [hlo,hhi]
 rcases hd with rfl | rfl <;> exact if_pos (fits_of hl)
theorem opt_nat {n : Nat} (h : n ≤ 1000000) : optInt (.int n) = some (some (n : Int)) := if_pos (small_nat h)
noncomputable abbrev SL (a b c d e f g h i j k l : Option D) : Rho := [a,b,c,d,e,f,g,h,i,j,k,l]
noncomputable def vS (script : List Int) : D := .list (script.map D.int)
noncomputable def vN (ns : List Nat) : D := .list (ns.map fun (n : Nat) => .int n)
noncomputable def vR (rs : List (List Nat)) : D := .list (rs.map ruleD)
theorem vN_add {a b : List Nat} (h : a.length + b.length ≤ 1000000) : binop .Add (vN a) (vN b) = some (vN (a ++ b)) := by
 unfold vN
 rw [List.map_append]
 exact add_lists (.inl rfl) (.inl rfl) (by rw [List.length_map,List.length_map]; exact h)
noncomputable def filler : List Nat := [87552,8,1,1035,0,1,3,13]
noncomputable def first (script : List Int) : List Nat := (script.take 8).map fun x => (x.fmod 1000000).toNat
noncomputable def numbers (script : List Int) : List Nat := first script ++ filler.drop (first script).length
theorem fmod_small (x : Int) : 0 ≤ x.fmod 1000000 ∧ x.fmod 1000000 < 1000000 := ⟨Int.fmod_nonneg_of_pos x (by decide),Int.fmod_lt_of_pos x (by decide)⟩
theorem first_len (script : List Int) : (first script).length ≤ 8 := by
 unfold first; rw [List.length_map,List.length_take]; exact Nat.min_le_left _ _
theorem numbers_len (script : List Int) : (numbers script).length = 8 := by
 unfold numbers
 rw [List.length_append,List.length_drop]
 exact Nat.add_sub_of_le (first_len script)
theorem numbers_small (script : List Int) : ∀ n ∈ numbers script,n ≤ 1000000 := by
 intro n hn
 rcases List.mem_append.mp hn with hn | hn
 ·obtain ⟨x,_,rfl⟩ := List.mem_map.mp hn
  exact Int.ofNat_le.mp (Int.le_trans (Int.le_of_eq (Int.toNat_of_nonneg (fmod_small x).1)) (Int.le_of_lt (fmod_small x).2))
 ·have : ∀ n ∈ filler,n ≤ 1000000 := by decide
  exact this n (List.mem_of_mem_drop hn)
section
variable {script : List Int}
noncomputable def ceA1 : CE := .comp [] 2 (.bin .Mod (.var 1) (.const (.int (1000000)))) (.expr 1 (.slice (.var 0) (.const .nil) (.const (.int (8)))) []) []
noncomputable def ceA2 : CE := .bin .Add (.var 1) (.slice (.list [(.const (.int (87552))),(.const (.int (8))),(.const (.int (1))),(.const (.int (1035))),(.const (.int (0))),(.const (.int (1))),(.const (.int (3))),(.const (.int (13)))]) (.blt "len" [(.var 1)]) (.const .nil))
noncomputable def ceA4 : CE := .bin .Add (.const (.str [97,65])) (.meth "join" (.const (.str [])) [(.comp [] 3 (.call 14 [(.var 2)]) (.expr 1 (.var 2) []) [(.expr 2 (.var 1) [(.cmp .Lt (.var 2) (.const (.int (256))))])])])
noncomputable def ceA5 : CE := .meth "join" (.const (.str [])) [(.comp [3] 2 (.subs (.var 0) (.bin .Mod (.var 2) (.blt "len" [(.var 0)]))) (.expr 2 (.slice (.var 1) (.const (.int (5))) (.const .nil)) []) [])]
noncomputable def bdA8 : List CStm := [.app 5 none (.call 21 [(.subs (.var 2) (.var 7)),(.var 4),(.var 5)]),.ext 6 none (.bin .Add (.bin .Add (.list [(.bin .Add (.const (.int (256))) (.var 7))]) (.subs (.var 2) (.var 7))) (.list [(.const (.int (0)))]))]
noncomputable def bdA10 : List CStm := [.ext 8 none (.call 22 [(.subs (.var 6) (.var 7)),(.bin .Mod (.var 7) (.const (.int (2)))),(.bin .Mult (.const (.int (128))) (.bin .FloorDiv (.bin .Mod (.var 7) (.const (.int (3)))) (.const (.int (2)))))])]
theorem bdA_eq : bdA = [.set 1 ceA1,.set 1 ceA2,.set 2 (.call 16 [(.var 1)]),.set 3 ceA4,.set 4 ceA5,.own 5 (.list []),.own 6 (.list []),.forR 7 [(.const (.int (5)))] bdA8 [],.own 8 (.list []),.forR 7 [(.blt "len" [(.var 6)])] bdA10 []] := rfl
theorem a1 (h : script.length ≤ 63) : exC (mkC l29) (.set 1 ceA1) (SL (some (vS script)) none none none none none none none none none none none) = some (.next,SL (some (vS script)) (some (vN (first script))) none none none none none none none none none none) := by
 have hv : (script.take 8).map (fun x => D.int (x.fmod 1000000)) = (first script).map fun (n : Nat) => D.int n := by
  unfold first; rw [List.map_map]
  exact List.map_congr_left fun x _ => congrArg D.int (Int.toNat_of_nonneg (fmod_small x).1).symm
 unfold vN
 rw [← hv]
 refine ex_set (comp_expr (ys := script.take 8) (f := D.int) (g := fun x => .int (x.fmod 1000000)) (Eq.trans (ev_slice (x := vS script) rfl rfl rfl) (slice_seq (.inl rfl) rfl (opt_nat (n := 8) (by decide)) (by rw [List.length_map]; exact Nat.le_trans h (by decide)))) ?_ (by rw [List.length_take]; exact Nat.le_trans (Nat.min_le_left _ _) (by decide)) fun _ _ => ⟨rfl,rfl⟩) rfl
 rw [cut_to,← List.map_take]; rfl
theorem a2 : exC (mkC l29) (.set 1 ceA2) (SL (some (vS script)) (some (vN (first script))) none none none none none none none none none none) = some (.next,SL (some (vS script)) (some (vN (numbers script))) none none none none none none none none none none) := by
 have hfl := first_len script
 have hf6 : (first script).length ≤ 1000000 := Nat.le_trans hfl (by decide)
 refine ex_set (d := vN (numbers script)) (Eq.trans (ev_bin rfl (Eq.trans (ev_slice (x := vN filler) rfl (Eq.trans (ev_blt (evs_one rfl)) (blen_list (.inl rfl) (by rw [List.length_map]; exact hf6))) rfl) (Eq.trans (slice_seq (.inl rfl) (opt_nat (by rw [List.length_map]; exact hf6)) rfl (by decide)) ?_))) (vN_add (b := filler.drop (first script).length) ?_)) rfl
 ·unfold vN
  rw [List.length_map,cut_from (by exact hfl),List.map_drop]
 ·rw [List.length_drop]; exact Nat.le_trans (Nat.le_of_eq (Nat.add_sub_of_le hfl)) (by decide)
theorem a3 {ns : List Nat} (hn : ns.length = 8) (hsm : ∀ n ∈ ns,n ≤ 1000000) : ∃ rs ts,Built rs ts ∧ rs.length = 5 ∧ exC (mkC l29) (.set 2 (.call 16 [(.var 1)])) (SL (some (vS script)) (some (vN ns)) none none none none none none none none none none) = some (.next,SL (some (vS script)) (some (vN ns)) (some (vR rs)) none none none none none none none none none) := by
 obtain ⟨rs,ts,hB,h5,hf⟩ := f16_spec hn hsm
 exact ⟨rs,ts,hB,h5,ex_set (ev_call (evs_one rfl) rfl hf rfl) rfl⟩
noncomputable def poolOf (rs : List (List Nat)) : List (List Nat) := rs.flatMap fun r => (r.filter fun s => decide (s < 256)).map spell
noncomputable def pool (rs : List (List Nat)) : List Nat := [97,65] ++ (poolOf rs).flatten
theorem symOk_app {ts us : List (List Nat)} {s : Nat} (h : symOk ts s) : symOk (ts ++ us) s := h.imp_right fun h => ⟨h.1,Nat.lt_of_lt_of_le h.2 (Nat.add_le_add_left (by rw [List.length_append]; exact Nat.le_add_right _ _) 256)⟩
theorem built_small {rs ts : List (List Nat)} (hB : Built rs ts) : ∀ r ∈ rs,r.length ≤ 2 ∧ 1 ≤ r.length ∧ ∀ s ∈ r,symOk ts s := by
 induction hB with
 | nil => intro r h; cases h
 | @snoc rs ts r hB h1 h2 h3 h4 ih =>
  intro x hx
  rcases List.mem_append.mp hx with hx | hx
  ·obtain ⟨a,b,c⟩ := ih x hx
   exact ⟨a,b,fun s hs => symOk_app (c s hs)⟩
  ·rw [List.mem_singleton.mp hx]
   exact ⟨h3,h2,fun s hs => symOk_app (h1 s hs)⟩
theorem term_of {ts : List (List Nat)} {s : Nat} (h : symOk ts s) (hs : s < 256) : isTerm s := h.resolve_right fun h => Nat.not_lt.mpr h.1 hs
theorem poolOf_ok {rs ts : List (List Nat)} (hB : Built rs ts) : (∀ t ∈ poolOf rs,(∀ c ∈ t,c ∈ signs) ∧ t.length ≤ 3) ∧ (poolOf rs).length ≤ 2 * rs.length := by
 have hsm := built_small hB
 constructor
 ·intro t ht
  obtain ⟨r,hr,ht⟩ := List.mem_flatMap.mp ht
  obtain ⟨s,hs,rfl⟩ := List.mem_map.mp ht
  obtain ⟨h1,h2⟩ := List.mem_filter.mp hs
  obtain ⟨o1,_,o3⟩ := spell_ok (term_of ((hsm r hr).2.2 s h1) (of_decide_eq_true h2))
  exact ⟨o1,o3⟩
 ·have hle : ∀ r ∈ rs,r.length ≤ 2 := fun r hr => (hsm r hr).1
  clear hsm hB
  induction rs with
  | nil => exact Nat.le_refl 0
  | cons r rs ih =>
   have h1 := ih fun x hx => hle x (List.mem_cons_of_mem _ hx)
   unfold poolOf at h1 ⊢
   rw [List.flatMap_cons,List.length_append,List.length_map,List.length_cons,Nat.mul_succ,Nat.add_comm]
   exact Nat.add_le_add h1 (Nat.le_trans (List.length_filter_le _ _) (hle r List.mem_cons_self))
theorem flat_len {l : List (List Nat)} {m : Nat} (h : ∀ x ∈ l,x.length ≤ m) : l.flatten.length ≤ m * l.length := by
 induction l with
 | nil => exact Nat.zero_le _
 | cons a l ih =>
  rw [List.flatten_cons,List.length_append,List.length_cons,Nat.mul_succ,Nat.add_comm]
  exact Nat.add_le_add (ih fun x hx => h x (List.mem_cons_of_mem _ hx)) (h a List.mem_cons_self)
theorem pool_flat {rs ts : List (List Nat)} (hB : Built rs ts) (h5 : rs.length = 5) : (poolOf rs).flatten.length ≤ 30 := by
 obtain ⟨h1,h2⟩ := poolOf_ok hB
 rw [h5] at h2
 exact Nat.le_trans (flat_len fun x hx => (h1 x hx).2) (Nat.mul_le_mul_left 3 h2)
theorem pool_ok {rs ts : List (List Nat)} (hB : Built rs ts) (h5 : rs.length = 5) : (∀ c ∈ pool rs,c ∈ signs) ∧ 2 ≤ (pool rs).length ∧ (pool rs).length ≤ 100 := by
 have h3 := pool_flat hB h5
 unfold pool
 rw [List.length_append]
 refine ⟨fun c hc => ?_,Nat.le_add_right 2 _,Nat.le_trans (Nat.add_le_add_left h3 2) (by decide)⟩
 rcases List.mem_append.mp hc with hc | hc
 ·have : ∀ c ∈ ([97,65] : List Nat),c ∈ signs := by decide
  exact this c hc
 ·obtain ⟨t,ht,hc⟩ := List.mem_flatten.mp hc
  exact ((poolOf_ok hB).1 t ht).1 c hc
theorem a4 {ns : List Nat} {rs ts : List (List Nat)} (hB : Built rs ts) (h5 : rs.length = 5) : exC (mkC l29) (.set 3 ceA4) (SL (some (vS script)) (some (vN ns)) (some (vR rs)) none none none none none none none none none) = some (.next,SL (some (vS script)) (some (vN ns)) (some (vR rs)) (some (.str (pool rs))) none none none none none none none none) := by
 obtain ⟨hp1,hp2⟩ := poolOf_ok hB
 rw [h5] at hp2
 have hsm := built_small hB
 have hinner : ∀ r ∈ rs,gensC (mkC l29) (fun ρ' => (evC (mkC l29) ρ' (.call 14 [(.var 2)])).bind fun d => if d.isEl then some [d] else none) [(.expr 2 (.var 1) [(.cmp .Lt (.var 2) (.const (.int (256))))])] [none,some (ruleD r),none] = some (((r.filter fun s => decide (s < 256)).map spell).map .str) := fun r hr => by
  refine (if_pos rfl).trans ?_
  show ite (fits (r.map fun (s : Nat) => D.int s).length = true) (turnsC _ _ _ _ (r.map fun (s : Nat) => D.int s)) none = _
  have hr6 : r.length ≤ 1000000 := Nat.le_trans (hsm r hr).1 (by decide)
  rw [if_pos (by rw [List.length_map]; exact fits_of hr6),List.map_map]
  have ht : ∀ s : Nat,tsC (mkC l29) (([none,some (ruleD r),none] : Rho).set 2 (some (.int s))) (.cmp .Lt (.var 2) (.const (.int (256)))) = some (decide (s < 256)) := fun s => congrArg some (decide_eq_decide.mpr (Int.ofNat_lt (m := 256)))
  exact turns_filter (C := mkC l29) (ys := r) (f := fun (s : Nat) => .int s) (g := fun s => .str (spell s)) (p := fun s => decide (s < 256)) (fun s hs => ⟨tests_one (ht s),fun hlt => ⟨ev_call (evs_one rfl) rfl (f14_spec (term_of ((hsm r hr).2.2 s hs) (of_decide_eq_true hlt))) rfl,rfl⟩⟩) hr6
 have hc : evC (mkC l29) (viewC (SL (some (vS script)) (some (vN ns)) (some (vR rs)) none none none none none none none none none)) (.comp [] 3 (.call 14 [(.var 2)]) (.expr 1 (.var 2) []) [(.expr 2 (.var 1) [(.cmp .Lt (.var 2) (.const (.int (256))))])]) = some (.list ((poolOf rs).map .str)) := by
  have hout := (turns_flat (C := mkC l29) (i := 1) (ρ := [none,none,none]) (f := ruleD) (g := fun r => ((r.filter fun s => decide (s < 256)).map spell).map D.str) (ys := rs) (fun r hr => ⟨hinner r hr,by
   rw [List.length_map,List.length_map]
   exact Nat.le_trans (List.length_filter_le _ _) (Nat.le_trans (hsm r hr).1 (by decide))⟩) (by rw [h5]; decide)).1
  show (ite (fits (rs.map ruleD).length = true) (turnsC _ 1 _ [none,none,none] (rs.map ruleD)) none).map _ = _
  unfold poolOf
  rw [if_pos (by rw [List.length_map,h5]; rfl),hout,List.map_flatMap]; rfl
 exact ex_set (Eq.trans (ev_bin rfl (Eq.trans (ev_meth rfl (evs_one hc)) (Eq.trans (join_meth (sep := []) rfl (fun x hx => Nat.le_trans (hp1 x hx).2 (by decide)) (Nat.le_trans hp2 (by decide)) (by decide)) (congrArg (fun x => some (D.str x)) (join_nil _))))) (add_str (Nat.le_trans (Nat.add_le_add_left (pool_flat hB h5) 2) (by decide)))) rfl
noncomputable def wordOf (pl : List Nat) (ns : List Nat) : List Nat := (ns.drop 5).map fun n => pl.getD (n % pl.length) 0
theorem word_at {pl : List Nat} (h2 : 2 ≤ pl.length) (n : Nat) : ∃ h : n % pl.length < pl.length,pl.getD (n % pl.length) 0 = pl[n % pl.length] :=
 have h := Nat.mod_lt n (Nat.lt_of_lt_of_le (by decide) h2)
 ⟨h,by rw [List.getD_eq_getElem?_getD,List.getElem?_eq_getElem h]; rfl⟩
theorem wordOf_ok {pl ns : List Nat} (hn : ns.length = 8) (h2 : 2 ≤ pl.length) (h : ∀ c ∈ pl,c ∈ signs) : (wordOf pl ns).length = 3 ∧ ∀ c ∈ wordOf pl ns,c ∈ signs := by
 refine ⟨by unfold wordOf; rw [List.length_map,List.length_drop,hn],fun c hc => ?_⟩
 obtain ⟨n,_,rfl⟩ := List.mem_map.mp hc
 obtain ⟨hlt,e⟩ := word_at h2 n
 rw [e]
 exact h _ (List.getElem_mem hlt)
theorem flat_one (l : List Nat) : (l.map fun c => [c]).flatten = l := by
 induction l with
 | nil => rfl
 | cons a l ih => exact congrArg (a :: ·) ih
theorem a5 {ns pl : List Nat} {R : Option D} (hn : ns.length = 8) (h2 : 2 ≤ pl.length) (h1 : pl.length ≤ 100) : exC (mkC l29) (.set 4 ceA5) (SL (some (vS script)) (some (vN ns)) R (some (.str pl)) none none none none none none none none) = some (.next,SL (some (vS script)) (some (vN ns)) R (some (.str pl)) (some (.str (wordOf pl ns))) none none none none none none none) := by
 have h3 : (ns.drop 5).length = 3 := by rw [List.length_drop,hn]
 have hm : (ns.drop 5).map (fun n => D.str [pl.getD (n % pl.length) 0]) = ((wordOf pl ns).map fun c => [c]).map .str := by unfold wordOf; rw [List.map_map,List.map_map]; rfl
 have hc := comp_expr (C := mkC l29) (ρ := viewC (SL (some (vS script)) (some (vN ns)) R (some (.str pl)) none none none none none none none none)) (fr := [3]) (n := 2) (i := 2) (elt := .subs (.var 0) (.bin .Mod (.var 2) (.blt "len" [(.var 0)]))) (e := .slice (.var 1) (.const (.int (5))) (.const .nil)) (ys := ns.drop 5) (f := fun n => .int n) (g := fun n => .str [pl.getD (n % pl.length) 0])
  (Eq.trans (ev_slice rfl rfl rfl) (slice_seq (.inl rfl) (opt_nat (n := 5) (by decide)) rfl (by rw [List.length_map,hn]; decide))) (by rw [cut_from (by rw [List.length_map,hn]; decide),← List.map_drop]; rfl) (by rw [h3]; decide) fun n _ => ⟨by
   obtain ⟨hlt,e⟩ := word_at h2 n
   rw [e]
   exact Eq.trans (ev_subs rfl (Eq.trans (ev_bin rfl (ev_len rfl (Nat.le_trans h1 (by decide)))) (b_mod (Nat.lt_of_lt_of_le (by decide) h2)))) (subs_str hlt (Nat.le_trans h1 (by decide))),rfl⟩
 rw [hm] at hc
 exact ex_set (Eq.trans (ev_meth rfl (evs_one hc)) (Eq.trans (join_meth (sep := []) rfl (fun x hx => by
  obtain ⟨c,_,rfl⟩ := List.mem_map.mp hx
  exact (by decide : 1 ≤ 20)) (by unfold wordOf; rw [List.length_map,List.length_map,h3]; decide) (by decide)) (congrArg (fun x => some (D.str x)) ((join_nil _).trans (flat_one _))))) rfl
end
noncomputable def vI (l : List Nat) : List D := l.map fun (s : Nat) => .int s
theorem b_mul {n m : Nat} (hn : n ≤ 1000000) (hm : m ≤ 1000000) : binop .Mult (.int n) (.int m) = some (.int ((n * m : Nat) : Int)) := mul_small (small_nat hn) (small_nat hm)
theorem row_len (l : List (List Nat)) : ∀ k : Nat,(∀ r ∈ l,r.length ≤ 2) → (rowFrom k l).length ≤ 4 * l.length := by
 induction l with
 | nil => exact fun _ _ => Nat.le_refl 0
 | cons r l ih =>
  intro k h
  show ((256 + k) :: (r ++ 0 :: rowFrom (k + 1) l)).length ≤ _
  have h1 := ih (k + 1) fun x hx => h x (List.mem_cons_of_mem _ hx)
  have h2 := h r List.mem_cons_self
  rw [List.length_cons,List.length_append,List.length_cons,List.length_cons]; lia
theorem row_in {rs ts : List (List Nat)} (hB : Built rs ts) (h5 : ts.length ≤ 5) : ∀ s ∈ rowFrom 0 rs,inRow s := by
 induction hB with
 | nil => exact fun s h => by cases h
 | @snoc rs ts r hB h1 h2 h3 h4 ih =>
  have hl := hB.len
  rw [List.length_append,List.length_singleton] at h5
  rw [rowFrom_snoc]
  intro s hs
  rw [List.mem_append,List.mem_cons,List.mem_append,List.mem_singleton] at hs
  rcases hs with hs | rfl | hs | rfl
  ·exact ih (Nat.le_of_succ_le h5) s hs
  ·exact .inr ⟨Nat.le_add_right _ _,(show 256 + (0 + rs.length) < 256 + 5 from Nat.add_lt_add_left (by rw [Nat.zero_add,hl]; exact h5) 256)⟩
  ·rcases h1 s hs with h | h
   ·exact .inl (Nat.lt_succ_of_le (term_lt h))
   ·exact .inr ⟨h.1,Nat.lt_of_lt_of_le h.2 (Nat.add_le_add_left (Nat.le_of_succ_le h5) 256)⟩
  ·exact .inl (by decide)
section
variable {S N P : Option D} {w : List Nat} {rs ts : List (List Nat)}
noncomputable def recD (w : List Nat) (ts : List (List Nat)) : List D := ts.map fun t => rec_ t w
noncomputable def st8 (S N P : Option D) (rs : List (List Nat)) (w : List Nat) (ts : List (List Nat)) (row : List Nat) (V7 : Option D) : Rho := SL S N (some (vR rs)) P (some (.str w)) (some (.own (recD w ts))) (some (.own (vI row))) V7 none none none none
theorem a8_step (hB : Built rs ts) (h5 : rs.length = 5) (hw : ∀ x ∈ w,x ∈ signs) (hl : w.length = 3) {i : Nat} (hi : i < 5) :
  xsC (mkC l29) bdA8 (st8 S N P rs w (ts.take i) (rowFrom 0 (rs.take i)) (some (.int i))) = some (.next,st8 S N P rs w (ts.take (i + 1)) (rowFrom 0 (rs.take (i + 1))) (some (.int i))) := by
 have hlen := hB.len
 have hir : i < rs.length := h5 ▸ hi
 have hit : i < ts.length := hlen ▸ hir
 obtain ⟨q1,q2,q3,q4⟩ := hB.at i hir hit
 have hrs : rs.length ≤ 1000 := by rw [h5]; decide
 have s3 := (hB.ok ts[i] (List.getElem_mem hit)).2
 have htl : (ts.take i).length ≤ 5 := Nat.le_trans (List.length_take_le ..) (Nat.le_of_lt hi)
 have hrec := f21_spec (w := w) (texts := ts.take i) hw hl (rule := rs[i]) (Nat.le_trans htl (by decide)) (fun t ht => (hB.ok t (List.mem_of_mem_take ht)).1.2) q1 (fun h => by rw [h] at q2; exact absurd q2 (by decide)) (Nat.le_trans q3 (by decide)) (by rw [← q4]; exact s3)
 rw [← q4] at hrec
 have hrd : recD w (ts.take (i + 1)) = recD w (ts.take i) ++ [rec_ ts[i] w] := by
  unfold recD
  rw [List.take_add_one,List.getElem?_eq_getElem hit,Option.toList_some,List.map_append]; rfl
 have hrw : vI (rowFrom 0 (rs.take (i + 1))) = vI (rowFrom 0 (rs.take i)) ++ (vI [256 + i] ++ vI rs[i] ++ vI [0]) := by
  rw [List.take_add_one,List.getElem?_eq_getElem hir,Option.toList_some,rowFrom_snoc,List.length_take,Nat.min_eq_left (Nat.le_of_lt hir),Nat.zero_add]
  unfold vI
  rw [List.map_append,List.map_cons,List.map_append]; rfl
 have hrl : (rowFrom 0 (rs.take i)).length ≤ 20 := Nat.le_trans (row_len _ 0 fun r hr => (built_small hB r (List.mem_of_mem_take hr)).1) (Nat.mul_le_mul_left 4 (Nat.le_trans (List.length_take_le ..) (Nat.le_of_lt hi)))
 have hvi : ∀ l : List Nat,(vI l).length = l.length := fun l => List.length_map ..
 have l1 : (vI [256 + i]).length + (vI rs[i]).length ≤ 3 := by rw [hvi,hvi]; exact Nat.add_le_add_left q3 1
 have l2 : (vI [256 + i] ++ vI rs[i]).length + (vI [0]).length ≤ 4 := by rw [List.length_append]; exact Nat.succ_le_succ l1
 unfold st8
 rw [hrd,hrw]
 refine Eq.trans (xs_next (ex_app (d := rec_ ts[i] w) rfl (ev_call (evs_cons (Eq.trans (ev_subs rfl rfl) (subs_map hir hrs)) (evs_cons rfl (evs_one rfl))) rfl hrec rfl) rfl (by unfold recD; rw [List.length_map]; exact fits_of (Nat.le_trans htl (by decide))))) ?_
 exact xs_one (ex_ext rfl (Eq.trans (ev_bin (Eq.trans (ev_bin (ev_list (ds := vI [256 + i]) (evs_one (Eq.trans (ev_bin rfl rfl) (b_add 256 i))) rfl rfl) (Eq.trans (ev_subs rfl rfl) (subs_map hir hrs))) (add_lists (.inl rfl) (.inl rfl) (Nat.le_trans l1 (by decide)))) rfl) (add_lists (y := vI [0]) (.inl rfl) (.inl rfl) (Nat.le_trans l2 (by decide)))) rfl
  (by rw [hvi,List.length_append]; exact fits_of (Nat.le_trans (Nat.add_le_add hrl l2) (by decide))))
theorem a8 (hB : Built rs ts) (h5 : rs.length = 5) (hw : ∀ x ∈ w,x ∈ signs) (hl : w.length = 3) : ∃ V7,exC (mkC l29) (.forR 7 [(.const (.int (5)))] bdA8 []) (st8 S N P rs w [] [] none) = some (.next,st8 S N P rs w ts (rowFrom 0 rs) V7) := by
 obtain ⟨ρ',e,V7,hI⟩ := for_range (C := mkC l29) (x := 7) (es := [(.const (.int (5)))]) (as := [.int (5 : Nat)]) (b := bdA8) (ρ := st8 S N P rs w [] [] none) (n := 5) rfl (ranged_n (by decide)) (by decide)
  (fun i ρ => ∃ V7,ρ = st8 S N P rs w (ts.take i) (rowFrom 0 (rs.take i)) V7) ⟨none,by rw [List.take_zero,List.take_zero]; rfl⟩ (fun i hi ρ ⟨V7,hρ⟩ => by
   subst hρ
   rw [Int.mul_one,Int.zero_add]
   exact ⟨_,a8_step hB h5 hw hl hi,_,rfl⟩)
 rw [List.take_of_length_le (Nat.le_of_eq (hB.len ▸ h5)),List.take_of_length_le (Nat.le_of_eq h5)] at hI
 exact ⟨V7,by rw [e,hI]⟩
noncomputable def st9 (S N P R : Option D) (w : List Nat) (rc : List D) (row : List Nat) (V7 : Option D) (oct : List Int) : Rho := SL S N R P (some (.str w)) (some (.own rc)) (some (.own (vI row))) V7 (some (.own (oct.map D.int))) none none none
theorem a10 {R : Option D} {rc : List D} {row : List Nat} {V7 : Option D} (hr : ∀ s ∈ row,inRow s) (hl : row.length ≤ 100) :
  ∃ V7' oct k,exC (mkC l29) (.forR 7 [(.blt "len" [(.var 6)])] bdA10 []) (st9 S N P R w rc row V7 []) = some (.next,st9 S N P R w rc row V7' oct) ∧ readL k oct = some (row.map fun (s : Nat) => (s : Int)) := by
 have hvi : (vI row).length = row.length := List.length_map ..
 have hl6 : row.length ≤ 1000000 := Nat.le_trans hl (by decide)
 obtain ⟨ρ',e,V7',ps,h2,h3,_,hρ⟩ := for_range (C := mkC l29) (x := 7) (es := [(.blt "len" [(.var 6)])]) (b := bdA10) (ρ := st9 S N P R w rc row V7 []) (evs_one (Eq.trans (ev_blt (evs_one rfl)) (blen_list (x := vI row) (.inr rfl) (by rw [hvi]; exact hl6)))) (ranged_n (by rw [hvi]; exact hl6)) (by rw [hvi]; exact hl6)
  (fun i ρ => ∃ V7,∃ ps : List (List Int × Int),(∀ p ∈ ps,parseV p.1 = some (p.2,[])) ∧ ps.map Prod.snd = (row.take i).map (fun (s : Nat) => (s : Int)) ∧ (ps.flatMap Prod.fst).length ≤ 3 * i ∧ ρ = st9 S N P R w rc row V7 (ps.flatMap Prod.fst)) ⟨_,[],(fun p h => by cases h),(by rw [List.take_zero]; rfl),Nat.le_refl 0,rfl⟩
  (fun i hi ρ ⟨V7,ps,h2,h3,h4,hρ⟩ => by
   subst hρ
   rw [hvi] at hi
   rw [Int.mul_one,Int.zero_add]
   have hi2 : i % 3 / 2 < 2 := Nat.div_lt_of_lt_mul (Nat.lt_trans (Nat.mod_lt i (by decide)) (by decide))
   obtain ⟨l,hf,hp,hl3⟩ := f22_spec (n := row[i]) (a := i % 2) (m := i % 3 / 2) (hr _ (List.getElem_mem hi)) (Nat.mod_lt i (by decide)) hi2
   have hfm : (ps ++ [(l,(row[i] : Int))]).flatMap Prod.fst = ps.flatMap Prod.fst ++ l := by rw [List.flatMap_append]; exact congrArg (ps.flatMap Prod.fst ++ ·) (List.append_nil l)
   have h4' : (ps.flatMap Prod.fst).length + l.length ≤ 3 * (i + 1) := Nat.add_le_add h4 hl3
   refine ⟨_,xs_one (ex_ext rfl (ev_call (evs_cons (Eq.trans (ev_subs rfl rfl) (subs_bmap (l := row) hi (Nat.le_trans hl (by decide)))) (evs_cons (Eq.trans (ev_bin rfl rfl) (b_mod (m := 2) (by decide))) (evs_one (Eq.trans (ev_bin rfl (Eq.trans (ev_bin (Eq.trans (ev_bin rfl rfl) (b_mod (m := 3) (by decide))) rfl) (b_div (m := 2) (by decide) (by decide)))) (b_mul (n := 128) (by decide) (Nat.le_trans (Nat.le_of_lt hi2) (by decide))))))) rfl hf rfl) rfl
    (by rw [List.length_map,List.length_map]; exact fits_of (Nat.le_trans h4' (Nat.le_trans (Nat.mul_le_mul_left 3 (Nat.le_trans hi hl)) (by decide))))),some (.int i),ps ++ [(l,(row[i] : Int))],fun p hp' => ?_,?_,by rw [hfm,List.length_append]; exact h4',?_⟩
   ·rcases List.mem_append.mp hp' with hp' | hp'
    ·exact h2 p hp'
    ·rw [List.mem_singleton.mp hp']; exact hp
   ·rw [List.map_append,h3,List.take_add_one,List.getElem?_eq_getElem hi,Option.toList_some,List.map_append]; rfl
   ·rw [hfm]
    unfold st9
    rw [List.map_append]; rfl)
 have hr' := readL_flat ps h2
 rw [h3,hvi,List.take_length] at hr'
 exact ⟨V7',ps.flatMap Prod.fst,ps.length,by rw [e,hρ],hr'⟩
end
theorem bdA_run {script : List Int} (h : script.length ≤ 63) : ∃ (rs ts : List (List Nat)) (w : List Nat) (V7 : Option D) (oct : List Int) (k : Nat),Built rs ts ∧ rs.length = 5 ∧ w.length = 3 ∧ (∀ x ∈ w,x ∈ signs) ∧
  xsC (mkC l29) bdA (some (.list (script.map D.int)) :: List.replicate 11 none) = some (.next,st9 (some (vS script)) (some (vN (numbers script))) (some (.str (pool rs))) (some (vR rs)) w (recD w ts) (rowFrom 0 rs) V7 oct) ∧ readL k oct = some ((rowFrom 0 rs).map fun (s : Nat) => (s : Int)) := by
 obtain ⟨rs,ts,hB,h5,x3⟩ := a3 (script := script) (ns := numbers script) (numbers_len script) (numbers_small script)
 obtain ⟨p1,p2,p3⟩ := pool_ok hB h5
 obtain ⟨w1,w2⟩ := wordOf_ok (ns := numbers script) (numbers_len script) p2 p1
 have x4 := a4 (script := script) (ns := numbers script) hB h5
 have x5 := a5 (script := script) (ns := numbers script) (pl := pool rs) (R := some (vR rs)) (numbers_len script) p2 p3
 generalize hw : wordOf (pool rs) (numbers script) = w at w1 w2 x5
 obtain ⟨V7,x8⟩ := a8 (S := some (vS script)) (N := some (vN (numbers script))) (P := some (.str (pool rs))) hB h5 w2 w1
 have r1 := row_in hB (Nat.le_of_eq (hB.len ▸ h5))
 have r2 := row_len rs 0 fun r hr => (built_small hB r hr).1
 rw [h5] at r2
 obtain ⟨V7',oct,k,x10,hr⟩ := a10 (S := some (vS script)) (N := some (vN (numbers script))) (P := some (.str (pool rs))) (R := some (vR rs)) (w := w) (rc := recD w ts) (V7 := V7) r1 (Nat.le_trans r2 (by decide))
 refine ⟨rs,ts,w,V7',oct,k,hB,h5,w1,w2,?_,hr⟩
 rw [bdA_eq]
 exact Eq.trans (xs_next (a1 h)) (Eq.trans (xs_next a2) (Eq.trans (xs_next x3) (Eq.trans (xs_next x4) (Eq.trans (xs_next x5) (Eq.trans (xs_next (ex_own rfl)) (Eq.trans (xs_next (ex_own rfl)) (Eq.trans (xs_next x8) (Eq.trans (xs_next (ex_own rfl)) (xs_one x10)))))))))
theorem ne_ints {α : Type} {a b : D} {l : List α} {f : α → Int} (ha : a = .list (l.map fun x => D.int (f x)) ∨ a = .bor (l.map fun x => D.int (f x))) (hb : b = .list (l.map fun x => D.int (f x)) ∨ b = .bor (l.map fun x => D.int (f x))) (hl : l.length ≤ 1000000) : cmpop .NotEq a b = some false := by
 have h : (if fits (l.map fun x => D.int (f x)).length && fits (l.map fun x => D.int (f x)).length then (match intsOf (l.map fun x => D.int (f x)),intsOf (l.map fun x => D.int (f x)) with
   | some xs,some ys => some (xs == ys)
   | _,_ => if (l.map fun x => D.int (f x)).isEmpty then some (l.map fun x => D.int (f x)).isEmpty else none)
  else none) = some true := by
  rw [if_pos (by rw [fits_of (by rw [List.length_map]; exact hl)]; rfl),ints_map]
  exact congrArg some (beq_self_eq_true (l.map f))
 rcases ha with rfl | rfl <;> rcases hb with rfl | rfl <;> exact congrArg (Option.map (!·)) h
theorem or_false {C : GC} {ρ : Rho} {t u : CT} (h1 : tsC C ρ t = some false) (h2 : tsC C ρ u = some false) : tsC C ρ (.every .Or [t,u]) = some false := by
 show (tsC C ρ t).bind _ = _
 rw [h1]
 show (tsC C ρ u).bind _ = _
 rw [h2]; rfl
noncomputable def ctB1 : CT := .every .Or [(.cmp .NotEq (.var 9) (.var 6)),(.cmp .NotEq (.comp [] 2 (.var 1) (.expr 1 (.var 9) [(.neg (.val (.call 24 [(.var 1)])))]) []) (.list []))]
noncomputable def ctB3 : CT := .cmp .NotEq (.comp [] 2 (.call 30 [(.var 1)]) (.expr 1 (.var 10) []) []) (.comp [] 2 (.subs (.var 1) (.const (.int (0)))) (.expr 1 (.var 5) []) [])
noncomputable def ceDue : CE := .subs (.subs (.subs (.subs (.var 5) (.var 7)) (.const (.int (2)))) (.const (.int (0)))) (.const (.int (3)))
noncomputable def bdB4 : List CStm := [.ite (.cmp .NotEq (.call 1 [(.subs (.var 10) (.var 7)),(.var 4),ceDue]) ceDue) [.ret (.const (.bool false))] []]
theorem bdB_eq : bdB = [.ite ctB1 [.ret (.const (.bool false))] [],.set 10 (.call 25 [(.var 9)]),.ite ctB3 [.ret (.const (.bool false))] [],.forR 7 [(.const (.int (4)))] bdB4 [],.set 11 (.bin .Mod (.blt "sum" [(.var 1)]) (.const (.int (24))))] := rfl
theorem bdZ_eq : bdZ = [.ret (.call 28 [(.subs (.var 10) (.const (.int (4)))),(.var 4),(.subs (.subs (.var 5) (.const (.int (4)))) (.const (.int (2))))])] := rfl
noncomputable def stB (script : List Int) (ns pl : List Nat) (rs ts : List (List Nat)) (w : List Nat) (V7 : Option D) (oct : List Int) (T10 T11 : Option D) : Rho :=
 SL (some (vS script)) (some (vN ns)) (some (vR rs)) (some (.str pl)) (some (.str w)) (some (.own (recD w ts))) (some (.own (vI (rowFrom 0 rs)))) V7 (some (.own (oct.map D.int))) (some (.list (vI (rowFrom 0 rs)))) T10 T11
noncomputable def vT (ts : List (List Nat)) : D := .list (ts.map .str)
section
variable {script : List Int} {ns pl : List Nat} {rs ts : List (List Nat)} {w : List Nat} {V7 : Option D} {oct : List Int}
theorem b1 (hr : (rowFrom 0 rs).length ≤ 1000) : exC (mkC l29) (.ite ctB1 [.ret (.const (.bool false))] []) (stB script ns pl rs ts w V7 oct none none) = some (.next,stB script ns pl rs ts w V7 oct none none) := by
 have hr6 : (rowFrom 0 rs).length ≤ 1000000 := Nat.le_trans hr (by decide)
 refine Eq.trans (ex_ite (c := false) (or_false (Eq.trans (ts_cmp (x := .list (vI (rowFrom 0 rs))) (y := .bor (vI (rowFrom 0 rs))) rfl rfl rfl) (ne_ints (l := rowFrom 0 rs) (f := fun s => (s : Int)) (.inl rfl) (.inr rfl) hr6)) (Eq.trans (ts_cmp (x := .list []) (y := .list []) ?_ rfl rfl) rfl))) rfl
 have := comp_expr_if (C := mkC l29) (ρ := viewC (stB script ns pl rs ts w V7 oct none none)) (fr := []) (n := 2) (i := 1) (elt := .var 1) (e := .var 9) (ifs := [(.neg (.val (.call 24 [(.var 1)])))]) (d := .list (vI (rowFrom 0 rs))) (ys := rowFrom 0 rs) (f := fun (s : Nat) => .int s) (g := fun s => .int s) (p := fun _ => false) rfl rfl hr6
  fun s _ => ⟨tests_one (ts_neg (c := true) (Eq.trans (ts_val (ev_call (evs_one rfl) rfl (f24_spec s) rfl)) rfl)),fun h => by cases h⟩
 rw [List.filter_eq_nil_iff.mpr fun _ _ => Bool.false_ne_true] at this
 exact this
theorem b2_ (hB : Built rs ts) (hl : ts.length ≤ 1000) (hr : (rowFrom 0 rs).length ≤ 1000) : exC (mkC l29) (.set 10 (.call 25 [(.var 9)])) (stB script ns pl rs ts w V7 oct none none) = some (.next,stB script ns pl rs ts w V7 oct (some (vT ts)) none) :=
 ex_set (ev_call (evs_one rfl) rfl (f25_spec hB hl (Nat.le_trans hr (by decide))) rfl) rfl
theorem b3 (hl : ts.length ≤ 1000) (h9 : ∀ t ∈ ts,t.length ≤ 9) : exC (mkC l29) (.ite ctB3 [.ret (.const (.bool false))] []) (stB script ns pl rs ts w V7 oct (some (vT ts)) none) = some (.next,stB script ns pl rs ts w V7 oct (some (vT ts)) none) := by
 have hl6 : ts.length ≤ 1000000 := Nat.le_trans hl (by decide)
 exact Eq.trans (ex_ite (c := false) (Eq.trans (ts_cmp (comp_expr (ys := ts) (f := D.str) (g := fun t => .int t.length) rfl rfl hl6 fun t ht => ⟨ev_call (evs_one rfl) rfl (fLH_spec (Nat.le_trans (h9 t ht) (by decide))) rfl,rfl⟩)
  (comp_expr (ys := ts) (f := fun t => rec_ t w) (g := fun t => .int t.length) rfl rfl hl6 fun t ht => ⟨rfl,rfl⟩) rfl) (ne_ints (l := ts) (f := fun t => (t.length : Int)) (.inl rfl) (.inl rfl) hl6))) rfl
theorem due_ok {i : Nat} (hi : i < ts.length) (hl : ts.length ≤ 1000) : evC (mkC l29) (viewC (stB script ns pl rs ts w (some (.int i)) oct (some (vT ts)) none)) ceDue = some (.int (tab ts[i] w 0 3)) :=
 Eq.trans (ev_subs (Eq.trans (ev_subs (Eq.trans (ev_subs (Eq.trans (ev_subs rfl rfl) (subs_bmap (l := ts) (g := fun t => rec_ t w) hi hl)) rfl) (rec2 _ w)) rfl) (subs_range (i := 0) (n := 4) (g := fun i' => .list ((List.range 4).map fun j => .int (tab ts[i] w i' j))) (by decide) (by decide))) rfl) (subs_range (i := 3) (n := 4) (g := fun j => .int (tab ts[i] w 0 j)) (by decide) (by decide))
theorem b4_step (hw : ∀ x ∈ w,x ∈ signs) (h3 : w.length = 3) (hok : ∀ t ∈ ts,((∀ c ∈ t,c ∈ signs) ∧ 1 ≤ t.length) ∧ t.length ≤ 9) (hl : ts.length ≤ 1000) {i : Nat} (hi : i < ts.length) :
  xsC (mkC l29) bdB4 (stB script ns pl rs ts w (some (.int i)) oct (some (vT ts)) none) = some (.next,stB script ns pl rs ts w (some (.int i)) oct (some (vT ts)) none) := by
 obtain ⟨⟨q1,q2⟩,q3⟩ := hok ts[i] (List.getElem_mem hi)
 have hd : tab ts[i] w 0 3 = (ed ts[i] w : Int) := by
  unfold tab
  rw [if_pos (by decide),List.drop_zero,List.take_of_length_le (Nat.le_of_eq h3)]
 have hdue := due_ok (script := script) (ns := ns) (pl := pl) (rs := rs) (w := w) (oct := oct) hi hl
 have hf : f1 [.str ts[i],.str w,.int (tab ts[i] w 0 3)] = some (.int (tab ts[i] w 0 3)) := by
  rw [hd]; exact f1_spec (Nat.le_trans q3 (by decide)) (by rw [h3]; decide) (fun x hx => signs_lt x (q1 x hx)) (fun x hx => signs_lt x (hw x hx)) (Int.le_add_of_nonneg_right (by decide))
 exact xs_ite (c := false) (Eq.trans (ts_cmp (ev_call (evs_cons (Eq.trans (ev_subs rfl rfl) (subs_map (l := ts) (g := D.str) hi hl)) (evs_cons rfl (evs_one hdue))) rfl hf rfl) hdue rfl) (congrArg some (bne_self_eq_false _))) rfl
theorem b4 (hw : ∀ x ∈ w,x ∈ signs) (h3 : w.length = 3) (hok : ∀ t ∈ ts,((∀ c ∈ t,c ∈ signs) ∧ 1 ≤ t.length) ∧ t.length ≤ 9) (hl : ts.length ≤ 1000) (h5 : 4 ≤ ts.length) :
  ∃ V7',exC (mkC l29) (.forR 7 [(.const (.int (4)))] bdB4 []) (stB script ns pl rs ts w V7 oct (some (vT ts)) none) = some (.next,stB script ns pl rs ts w V7' oct (some (vT ts)) none) := by
 obtain ⟨ρ',e,V7',hI⟩ := for_range (C := mkC l29) (x := 7) (es := [(.const (.int (4)))]) (as := [.int (4 : Nat)]) (b := bdB4) (ρ := stB script ns pl rs ts w V7 oct (some (vT ts)) none) (n := 4) rfl (ranged_n (by decide)) (by decide)
  (fun _ ρ => ∃ V7,ρ = stB script ns pl rs ts w V7 oct (some (vT ts)) none) ⟨_,rfl⟩ (fun i hi ρ ⟨V7,hρ⟩ => by
   subst hρ
   rw [Int.mul_one,Int.zero_add]
   exact ⟨_,b4_step hw h3 hok hl (Nat.lt_of_lt_of_le hi h5),_,rfl⟩)
 exact ⟨V7',by rw [e,hI]⟩
theorem sum_cast (l : List Nat) : (l.map fun (n : Nat) => (n : Int)).sum = ((l.sum : Nat) : Int) := by
 induction l with
 | nil => rfl
 | cons a l ih => rw [List.map_cons,List.sum_cons,List.sum_cons,ih]; rfl
theorem b5 (hn : ns.length = 8) (hsm : ∀ n ∈ ns,n ≤ 1000000) : exC (mkC l29) (.set 11 (.bin .Mod (.blt "sum" [(.var 1)]) (.const (.int (24))))) (stB script ns pl rs ts w V7 oct (some (vT ts)) none) = some (.next,stB script ns pl rs ts w V7 oct (some (vT ts)) (some (.int (ns.sum % 24 : Nat)))) := by
 have hs : bcall "sum" [vN ns] = some (.int (ns.sum : Nat)) := by
  have hall : (ns.map fun (n : Nat) => (n : Int)).all (fun n => decide (n.natAbs < 2 ^ 30)) = true := by
   rw [List.all_eq_true]
   intro x hx
   obtain ⟨n,hn,rfl⟩ := List.mem_map.mp hx
   exact decide_eq_true (Nat.lt_of_le_of_lt (hsm n hn) (by decide))
  show (intsOf (ns.map fun (n : Nat) => D.int n)).bind (fun ns => if fits ns.length && ns.all (fun n => decide (n.natAbs < 2 ^ 30)) then some (D.int ns.sum) else none) = _
  rw [ints_map (fun n : Nat => (n : Int)) ns]
  refine (if_pos (by rw [hall,List.length_map,hn]; rfl)).trans (congrArg (fun x => some (D.int x)) (sum_cast ns))
 exact ex_set (Eq.trans (ev_bin (Eq.trans (ev_blt (evs_one rfl)) hs) rfl) (b_mod (m := 24) (by decide))) rfl
theorem z1 (hw : ∀ x ∈ w,x ∈ signs) (h3 : w.length = 3) (hok : ∀ t ∈ ts,((∀ c ∈ t,c ∈ signs) ∧ 1 ≤ t.length) ∧ t.length ≤ 9) (h5 : ts.length = 5) {sh : Int} :
  xsC (mkC l29) bdZ (stB script ns pl rs ts w (some (.int 2)) oct (some (vT ts)) (some (.int sh))) = some (.ret (.bool true),stB script ns pl rs ts w (some (.int 2)) oct (some (vT ts)) (some (.int sh))) := by
 have hi : 4 < ts.length := by rw [h5]; decide
 have hl : ts.length ≤ 1000 := by rw [h5]; decide
 obtain ⟨⟨q1,q2⟩,q3⟩ := hok ts[4] (List.getElem_mem hi)
 rw [bdZ_eq]
 exact xs_ret (ex_ret (ev_call (evs_cons (Eq.trans (ev_subs rfl rfl) (subs_map (l := ts) (i := 4) (g := D.str) hi hl)) (evs_cons rfl (evs_one (Eq.trans (ev_subs (Eq.trans (ev_subs rfl rfl) (subs_map (l := ts) (i := 4) (g := fun t => rec_ t w) hi hl)) rfl) (rec2 _ w))))) rfl (f28_spec q1 q3 hw h3) rfl) rfl)
theorem ce3_ok (h5 : ts.length = 5) (h3 : w.length = 3) {sh : Int} {k : Nat} (hk : k < w.length) (hi : 4 < ts.length) : evC (mkC l29) (viewC (stB script ns pl rs ts w (some (.int k)) oct (some (vT ts)) (some (.int sh)))) ce3 = some (.int (mk w[k] ts[4])) :=
 Eq.trans (ev_subs (Eq.trans (ev_subs (Eq.trans (ev_subs rfl rfl) (subs_bmap (l := ts) (i := 4) (g := fun t => rec_ t w) hi (by rw [h5]; decide))) rfl) (rec1 _ w)) rfl) (subs_map hk (by rw [h3]; decide))
end
theorem law_ok (script : List Int) (hs : script.length ≤ 63) : LawOk script := by
 obtain ⟨rs,ts,w,V7,oct,k,hB,h5,w1,w2,xA,hr⟩ := bdA_run hs
 have hts : ts.length = 5 := hB.len ▸ h5
 have hok := hB.ok
 have hrow := row_len rs 0 fun r hr => (built_small hB r hr).1
 rw [h5] at hrow
 have hrow' : (rowFrom 0 rs).length ≤ 1000 := Nat.le_trans hrow (by decide)
 have ht1 : ts.length ≤ 1000 := by rw [hts]; decide
 obtain ⟨V7',x4⟩ := b4 (script := script) (ns := numbers script) (pl := pool rs) (rs := rs) (V7 := V7) (oct := oct) w2 w1 hok ht1 (by rw [hts]; decide)
 have hx5 := b5 (script := script) (ns := numbers script) (pl := pool rs) (rs := rs) (ts := ts) (w := w) (V7 := V7') (oct := oct) (numbers_len script) (numbers_small script)
 have hsh : (numbers script).sum % 24 ≤ 23 := Nat.le_of_lt_succ (Nat.mod_lt _ (by decide))
 generalize (numbers script).sum % 24 = sh at hx5 hsh
 have hi : 4 < ts.length := by rw [hts]; decide
 have hwk : ∀ k,k < 3 → ∃ h : k < w.length,w.getD k 0 = w[k] := fun k hk => ⟨w1 ▸ hk,by rw [List.getD_eq_getElem?_getD,List.getElem?_eq_getElem (w1 ▸ hk)]; rfl⟩
 refine ⟨_,stB script (numbers script) (pool rs) rs ts w V7' oct (some (vT ts)) (some (.int (sh : Nat))),_,oct,(rowFrom 0 rs).map (fun (s : Nat) => (s : Int)),k,ts.map D.str,ts[4],w,(sh : Nat),fun k => mk (w.getD k 0) ts[4],fun k => w.getD k 0,xA,rfl,hr,fits_of (by rw [List.length_map]; exact Nat.le_trans hrow' (by decide)),?_,rfl,rfl,rfl,?_,w1,fun k hk => ?_,fun k hk => ?_,fun k hk => sf_spec (hok ts[4] (List.getElem_mem hi)).2 hsh,z1 w2 w1 hok hts⟩
 ·have hset : (st9 (some (vS script)) (some (vN (numbers script))) (some (.str (pool rs))) (some (vR rs)) w (recD w ts) (rowFrom 0 rs) V7 oct).set 9 (some (.list (((rowFrom 0 rs).map (fun (s : Nat) => (s : Int))).map D.int))) = stB script (numbers script) (pool rs) rs ts w V7 oct none none := by
   rw [List.map_map]; rfl
  rw [hset,bdB_eq]
  exact Eq.trans (xs_next (b1 hrow')) (Eq.trans (xs_next (b2_ hB ht1 hrow')) (Eq.trans (xs_next (b3 ht1 fun t ht => (hok t ht).2)) (Eq.trans (xs_next x4) (xs_one hx5))))
 ·rw [List.getElem?_map,List.getElem?_eq_getElem hi]; rfl
 ·obtain ⟨hkw,e⟩ := hwk k hk
  exact (List.getElem?_eq_getElem hkw).trans (congrArg some e.symm)
 ·obtain ⟨hkw,e⟩ := hwk k hk
  exact (ce3_ok hts w1 hkw hi).trans (congrArg (fun x => some (D.int (mk x ts[4]))) e.symm)
set_option maxRecDepth 100000
set_option maxHeartbeats 8000000 in
theorem law_holds (law_ok : ∀ script : List Int,script.length ≤ 63 → LawOk script) : PySem.Challenge.rw_ta0062_01.Holds := by
 refine holds_law hd_said fun said => ?_
 refine holds_open (q := qv) (loose := looseM) (Xt := xtM) (XP := XL qv []) (Yf := Hook.obs HkM) (Ya := Hook.val HkM) (YP := Hook.says HkM) (N := 5262) hd_left (Hook.of HkM) (Hook.keeps HkM) (fun s e => xl_of s (Bool.and_eq_true_iff.mp e).1) XL.keeps (by rfl) (by rfl) (by rfl) (fun s e => recFacts_of (Bool.and_eq_true_iff.mp e).2) (by rfl) said (by decide +kernel) ⟨rfl,rfl,rfl,rfl,rfl,by decide +kernel⟩ ⟨[.list []],by decide +kernel,by decide +kernel⟩ ?hc
 k_fill
 intro w s₀ s₁ mg mb G Y fa o pm cd doc dV kV ho hd hcd hD hmg hg args vals as hpre hlay hrd hwl hlo
 have KX := kIn_of Y
 refine Ground.open G ?_
 intro T B D TE TW
 try (refine guard_noD D (by decide +kernel) ?_; clear D)
 obtain ⟨_,_,M⟩ := bmod_of_top T
 have TA := at_of_top T
 try (obtain ⟨_,_,he,B0⟩ := based_of_top T rfl hmg ho hd; have he' : cd = _ := he; subst he'; clear he)
 clear hmg
 wrow_args hpre hlay hrd hwl hlo
 first | refine callC_kw (enter_call ?_) | refine enter_call ?_ | refine callC_kw (enter_callW ?_) | refine enter_callW ?_ | w_how
 w_top on
 try refine codeAny_mono ?_ (fun _ _ g => GoodW.toG g)
 have K0 := below_caller (Top.heap T)
 w_call any ho hd hcd hD T F
 clear hd TA
 refine wpAny_mono (law_join ‹_› ‹_› (scope := _) (p := _) (by rfl) (law_ok _ ?hl) ‹_› ‹_› ‹_› ‹_›) (fun fl s' h => ?hq) (fun _ _ h => h)
 case hl => omega
 obtain ⟨rfl,h',tk',rfl,hle⟩ := h
 exact ⟨.inl ⟨.bool true,.bool true,[],rfl,fun _ => rfl,by constructor,by wrow_post,fun _ => ⟨List.nodup_nil,fun _ h => (by cases h)⟩⟩,hle,rfl,‹_›⟩
end Mine
theorem PySem.Challenge.cw_ta0062_01_holds : PySem.Challenge.rw_ta0062_01.Holds :=
 Mine.law_holds Mine.law_ok
