import PyProof.Rows.All
import Wide.All
import OpenK.AllK
import Wide.FinOn
import KE.KEqDict
import Lean
import PySem.Challenge.RW_in0274_01
set_option Elab.async false
set_option compiler.extract_closed false
set_option linter.all false
namespace Mine
open PySem PySem.W PySem.Calls PyProof.Rows
set_option maxRecDepth 100000
set_option maxHeartbeats 0
/-- the ways ahead, by goal: the ways of a name are tried in their order -/
def ways : List (String × String) := [
("mem", "as | = List.Mem.head - | = mm1 | = mm2 | = mm3 | memt >mem"),
("memt", "A mm4 | A List.Mem.tail"),
("upt", "A Up.at4 | A Up.there"),
("upmt", "A Upm.at3 | A Upm.there"),
("memmt", "A Inm.at4 | A Inm.there"),
("rmt", "A Rm.at4 | A Rm.there"),
("up", "= Up.here | = Up.at1 | = Up.at2 | = Up.at3 | upt >up"),
("upm", "e Upm.here | e Upm.at1 | e Upm.at2 | upmt >upm"),
("memm", "e Inm.here | e Inm.at1 | e Inm.at2 | e Inm.at3 | memmt >memm"),
("rm", "= Rm.here | = Rm.at1 | = Rm.at2 | = Rm.at3 | rmt >rm"),
("pt", "= Pt.refl | = Pt.nil | R' Pt.cons pr:rm _ >pt | A Pt.skip >pt"),
("hd", "= Rms.nil | R' Rms.cons q1:rm q2:hd"),
("lnk", "r' lnk_cell hc:rfl hm:mem _ | r' lnk_local hL:fe hm:mem hx:memm _ | r' lnk_free hc:rfl hn:ff hm:mem _ | r' lnk_glob T:as hg:rfl hx:rfl _ | r' lnk_buil T:as hg:rfl hb:rfl hx:rfl hu:rfl _"),
("ln", "R' ln_kind hk:rfl kd:rfl _ >lnk"),
("sn", "R' sn_kind hk:rfl kd:rfl _ >snk"),
("snk", "r' snk_cell hc:rfl u:up _ | r' snk_local hL:fe u:up hm:upm _"),
("ev", "r ev_append hb:rfl hf:rfl hl:rfl hs:rfl _ | r ev_int _ | r ev_str _ | r ev_none _ | r ev_bool _ | r' ev_n hd:ff hk:rfl kd:rfl _ >lnk | r ev_binop _ | r ev_compare _ hm:rfl | r ev_unary _ | r ev_ifexp _ | r ev_and2 _ | r ev_or2 _ | r ev_list _ | r ev_tuple _ | r ev_range_rev _ | r ev_sub' hs:tv _ | r ev_call _ hs:rfl | r ev_append_of hb:rfl _"),
("ts", "r ts_compare _ hm:rfl | r ts_not _ | r ts_and2 _ | r ts_or2 _ | r ts_value _ he:rfl"),
("op", "r op_add _ | r op_iadd _ | r op_sub _ | r op_neg _ | r op_lt _ | r op_gt _ | r op_le _ | r op_ge _ | r op_eq_int _ | r op_ne_int _ | r op_is_none _ | r op_isnot_str_ref _ | r op_isnot_ref_same _ | r op_is_ref_same _ | r op_eq_txs _ | r op_ne_txs _ | r op_eq_chs _ | r op_ne_chs _ | r op_in_chs _ | r op_eq_str _ | r op_ne_str _ | r op_notin_chr _ | r op_in_str _ | r op_notin_str _ | r tr_bool _"),
("kp1", "= kp_bi | = kp_ty | R' kp_f T:as e:rfl | R' kp_bapp m:mem"),
("st", "r exs_nil _ | r exs_cons _"),
("se", "r ex_return _ | r ex_if _ | r' ex_assign_sw2 hs:rfl hw:rfl _ | r ex_assign_tuple _ hs:rfl hw:rfl | r ex_assign_name _ hs:rfl | r ex_expr _ hi:rfl hs:rfl | r ex_aug_name _ | r ex_break _ | r ex_assert _"),
("neg", "r op_neg _"),
("xas", "r as_nil _ | r as_cons _ he:rfl"),
("asg", "r asg_name _ | r asg_tuple _ he:rfl"),
("tss", "r tss_nil _ | r tss_one _"),
("sz", "as | = Nat.le_of_ble_eq_true rfl | = Nat.le_trans by ble | om | szo | szs"),
("cl", "r' cl_len_chs hm:mem hz:om _ | r' cl_len_tx hz:om _ | r' cl_len_list hm:mem hz:sz _ | r' cl_len_str hz:sz _ | r' cl_range1 h0:sz h1:sz _ >in | r' cl_range2 h0:sz h1:sz h2:sz h3:sz _ >in | r' cl_append u:up hz:sz _ | r' cl_bapp hm:mem u:up hz:sz _"),
("lc", "r' ev_lc_pure rfl hclos:rfl rfl hnames:dk hnd:dk hs:f1 hlay:rfl hcells:f2 hx:f1 hkind:f1 _"),
("ui", "r' ui_tup rfl hm:mem hn:rfl _ | r' ui_list rfl hm:mem hn:rfl _"),
("if", "R iteT rfl _ | R iteF nof _ | R iteT de _ | R iteF de _"),
("sls", "r ev_slice_str ht:f2 _"),
("sll", "r ev_slice_list ht:f2 _"),
("om", "ra | de | e Int.natCast_nonneg - | e Nat.le_of_lt by | e Nat.le_refl - | r Nat.le_trans by _ >de | r Nat.lt_of_le_of_lt by _ >de | r lt62 by _ >de | ar | lia | omega"),
("wq", "r wpAny_pure _ | r wpAny_bind _ | r wpAny_holding _ | r wpAny_of_eq by _ | r wpAny_typeOf by _ | r wpAny_specialOf by by _ | r wpAny_isInstance by by _ | r wpAny_call _ | r' wpAny_ite_false h:rfl _ | r' wpAny_ite_true h:rfl _"),
("fe", "feq >done | feq >rfl"),
("feq", "s dsimp fenv newEnv compE"),
("ff", "= Eq.refl false"),
("tv", "= trivial"),
("szs", "s simp sizeLine_eq sts tx_len rngL_len List.length_map List.length_append List.length_cons List.length_nil")]
def dsTac : String := "s dsimp ab List.cons_append List.nil_append Int.toNat_natCast SNO ASO EVO List.reverse List.reverseAux List.length_cons List.length_nil List.map_cons List.map_nil"
/-- the step of the walk -/
def wayX : String := "g EV 7 ev | g LN 7 ln | g OP2 8 op | g OP1 7 neg | r tr_bool _ | g AS 7 xas | g SN 8 sn | g EXS 7 st | g EX 7 se | g TS 7 ts | g CL 7 cl | g ASG 8 asg | g TSS 7 tss | g UI 7 ui | R' kc2 kp:kp1 _ | r kls sz:sz fun | r ktp sz:sz fun | r ksz sz:sz fun | r kno _ | lm"
abbrev Syn := Lean.Syntax
def tok (s : String) : Syn := .atom .none s
def nod (k : Lean.Name) (l : List Syn) : Syn := .node .none k l.toArray
def tac (k : String) (l : List Syn) : Syn := nod (`Lean.Parser.Tactic ++ k.toName) l
def trm (k : String) (l : List Syn) : Syn := nod (`Lean.Parser.Term ++ k.toName) l
def nul (l : List Syn) : Syn := nod `null l
def idn (w : String) : Syn := .ident .none w.toRawSubstring w.toName []
def seq (l : List Syn) : Syn := tac "tacticSeq" [tac "tacticSeq1Indented" [nul (l.intersperse (tok ";"))]]
def par (l : List Syn) : Syn := tac "paren" [tok "(", seq l, tok ")"]
def opt : Syn := tac "optConfig" [nul []]
def call' (w : String) : Syn :=
  if w == "rfl" then tac "tacticRfl" [tok w]
  else if w == "as" then tac "assumption" [tok "assumption"]
  else if w == "done" then tac w [tok w]
  else if w == "ra" then tac "withReducible" [tok "with_reducible", seq [tac "assumption" [tok "assumption"]]]
  else if w == "de" then tac "decide" [tok "decide", opt]
  else if w == "lia" || w == "omega" then tac w [tok w, opt]
  else nod ``PyProof.Rows.tacticWalk_at_ [tok "walk_at", nod `str [tok w.quote]]
def hole : Syn := trm "hole" [tok "_"]
def goal (x : Syn) : Syn := trm "syntheticHole" [tok "?", x]
def byT (t : Syn) : Syn := trm "byTactic" [tok "by", seq [t]]
def lamT (t : Syn) : Syn := trm "fun" [tok "fun", trm "basicFun" [nul [hole], nul [], tok "=>", t]]
def appT (f : Syn) (l : List Syn) : Syn := if l.isEmpty then f else trm "app" [f, nul l]
/-- a word behind a rule's name -/
def argOf (w : String) : Syn :=
  if w == "_" then goal hole
  else if w == "-" then hole
  else if w == "by" then byT (call' "as")
  else if w == "de" then byT (call' "de")
  else if w == "fun" then lamT (goal hole)
  else if w == "ble" then trm "paren" [tok "(", appT (idn "Nat.le_of_ble_eq_true") [idn "rfl"], tok ")"]
  else match w.splitOn ":" with
    | [_] => idn w
    | l => goal (idn (l.headD "" ++ "_way"))
def simpOf (k : String) (ws : List String) : Syn :=
  tac k [tok k, opt, nul [], nul [tok "only"], nul [tok "[", nul ((ws.map fun w => tac "simpLemma" [nul [], nul [], idn w]).intersperse (tok ",")), tok "]"], nul []]
/-- one way: how, the rule, its arguments (h:t is settled by t), then >t goes on by t -/
def wayOf (call : String → Syn) (r : String) : Syn :=
  match r.splitOn " " with
  | m :: n :: ws =>
    if n.startsWith ">" then par [call m, call ((n.splitOn ">").getLastD "")]
    else if m == "s" then simpOf n ws
    else if m == "g" then
      par [tac "guardTarget" [tok "guard_target", nod `Lean.Parser.equal [nod `Lean.Parser.equalR [tok "="]], appT (idn n) (List.replicate (ws.headD "").toNat! hole)], call (ws.getLastD "")]
    else
      let t := appT (idn n) ((ws.filter fun w => !w.startsWith ">").map argOf)
      let h := if m == "=" || m == "e" then tac "exact" [tok "exact", t] else if m == "A" then tac "apply" [tok "apply", t] else if m == "R" || m == "r" then tac "refine" [tok "refine", t] else tac "refine'" [tok "refine'", t]
      let h := if m == "e" || m == "r" || m == "r'" then tac "withReducible" [tok "with_reducible", seq [h]] else h
      par (h :: ws.flatMap fun w =>
        if w.startsWith ">" then [call ((w.splitOn ">").getLastD "")]
        else match w.splitOn ":" with
          | [h, c] => [par [tac "case" [tok "case", nul [tac "caseArg" [nod `Lean.binderIdent [idn (h ++ "_way")], nul []]], tok "=>", seq [call c]]]]
          | _ => [])
  | _ => call r
def waysOf (call : String → Syn) (l : String × String) : Syn := tac "first" [tok "first", nul ((l.2.splitOn " | ").map fun r => nod `group [tok "|", seq [wayOf call r]])]
/-- a name that is put in whole, not by name -/
def callIn (w : String) : Syn :=
  match ways.find? (·.1 == w) with
  | some l => if w.endsWith "m" || w == "pt" then call' w else waysOf call' l
  | none => call' w
theorem nof : ¬(false = true) := fun h => Bool.noConfusion h
theorem ksz {n : Nat} {P : Prop} (h : n ≤ sizeLine) (k : P) : n ≤ sizeLine ∧ P := ⟨h, k⟩
theorem lt62 {n m : Nat} (h : n ≤ m) (h' : Nat.ble m 1000000000 = true) : (n : Int) < 2 ^ 62 := by have := Nat.le_of_ble_eq_true h'; omega
set_option tactic.hygienic false
local macro_rules
  | `(tactic| walk_at $s:str) => match ways.find? (·.1 == s.getString) with
    | some l => pure (waysOf call' l)
    | none => match s.getString with
      | "w" => let d : Lean.TSyntax `tactic := ⟨wayOf call' dsTac⟩; let x : Lean.TSyntax `tactic := ⟨waysOf callIn ("", wayX)⟩; `(tactic| ((try $d:tactic); repeat ($x:tactic; try $d:tactic)))
      | "in" => `(tactic| intro)
      | "szo" => `(tactic| (walk_at "szs" <;> walk_at "om"))
      | "f1" => `(tactic| exact fun _ => rfl)
      | "f2" => `(tactic| exact fun _ _ => rfl)
      | "m4" => `(tactic| ((case hb => rfl); (case hf => rfl); (case hl => rfl); (case hs => rfl)))
      | "dk" => `(tactic| decide +kernel)
      | "ar" => `(tactic| (simp +arith only; done))
      | "lm" => `(tactic| refine ⟨_, _, rfl, (by walk_at "mem"), ?_⟩)
      | _ => Lean.Macro.throwUnsupported
section K3Text
noncomputable def stOf (n : Nat) : Stmt := PySem.Challenge.pw_in0274_01.main.body.getD n (.Pass default)
noncomputable def fdk (n : Nat) (cd pm : Value) : FuncData := match stOf n with
  | .FunctionDef name args body _ _ _ scope _ _ _ => fnOf name name args body scope .none .none .none pm none cd .none
  | _ => default
noncomputable def fdm (j : Nat) (cd pm : Value) : FuncData := match stOf 2 with
  | .ClassDef _ _ _ cbody _ _ _ _ _ _ _ => (match cbody.getD j (.Pass default) with
    | .FunctionDef name args body _ _ _ scope _ _ _ => fnOf name (PySem.Str.ofString "Entry." ++ name) args body scope .none .none .none pm none cd .none
    | _ => default)
  | _ => default
noncomputable abbrev q_ (s : String) : PySem.Str := PySem.Str.ofString s
/-- the code objects of the defs, and their modules' names -/
noncomputable def cdT : Nat → Value
  | 5 => .ref 84 | 7 => .ref 91 | 8 => .ref 98 | 11 => .ref 110 | 12 => .ref 117 | 13 => .ref 124 | 15 => .ref 131 | 17 => .ref 136 | 18 => .ref 141 | 19 => .ref 148 | 20 => .ref 153 | 21 => .ref 160 | 22 => .ref 167 | 23 => .ref 174 | 24 => .ref 181 | 25 => .ref 186 | _ => .none
noncomputable def pmT : Nat → Value
  | 5 => .str (PySem.Str.ofString "re") 346 | 7 => .str (PySem.Str.ofString "cpy313.urllib.robotparser") 501 | 8 => .str (PySem.Str.ofString "cpy313.urllib.robotparser") 501 | 11 => .str (PySem.Str.ofString "cpy313.fnmatch") 521 | 12 => .str (PySem.Str.ofString "cpy313.fnmatch") 521 | 13 => .str (PySem.Str.ofString "cpy313.fnmatch") 521 | 15 => .str (PySem.Str.ofString "cpy313.unittest.util") 602 | 17 => .str (PySem.Str.ofString "law_in0274_01") 618 | 18 => .str (PySem.Str.ofString "law_in0274_01") 618 | 19 => .str (PySem.Str.ofString "law_in0274_01") 618 | 20 => .str (PySem.Str.ofString "law_in0274_01") 618 | 21 => .str (PySem.Str.ofString "law_in0274_01") 618 | 22 => .str (PySem.Str.ofString "law_in0274_01") 618 | 23 => .str (PySem.Str.ofString "law_in0274_01") 618 | 24 => .str (PySem.Str.ofString "law_in0274_01") 618 | 25 => .str (PySem.Str.ofString "law_in0274_01") 618 | _ => .none
noncomputable abbrev lawProg : Program := PySem.Challenge.pw_in0274_01
noncomputable def kvK (P : Params) (n : String) (t : Tok) (v : Value) : DictEntry := ⟨PyData.keyHash P (q_ n), .str (q_ n) t, v⟩
noncomputable def kiK (k : Int) (t : Tok) (s : String) (u : Tok) : DictEntry := ⟨k, .int k t, .str (q_ s) u⟩
noncomputable def codeK (n q : String) (t : Tok) (line na : Int) (r : Addr) (two : Bool) (u : Nat) : Obj :=
  { cls := .type "code", data := .fields #[.str (q_ n) t, .str (q_ q) (t + 1), .str (q_ "/claim/cut.py") (t + 2), .int line 0, .int na 0, .int 0 0, .int 0 0, .int 3 0, .ref r, .bool true, .int 276 0, .ref (r + 1), .none,
    if two then .ref (r + 2) else .none, if two then .ref (r + 3) else .none, if two then .ref (r + 4) else .ref (r + 2), .int u 0, .int line 0, .str (q_ "/claim/cut.py") (u + 1)] }
noncomputable def fnK (fd : FuncData) : Obj := { cls := .type "function", data := .func fd }
noncomputable def pmEnt : Value := .str (q_ "cpy313.urllib.robotparser") 282
/-- what the top leaves of the law's own -/
noncomputable def heapK (P : Params) : Frag :=
  [(3, { cls := .type "dict", data := .dict #[kvK P "__name__" 165 (.str (q_ "law_in0274_01") 618), kvK P "__doc__" 166 (.none), kvK P "__package__" 167 (.none), kvK P "__loader__" 168 (.builtin "__main__.__loader__#opaque"), kvK P "__spec__" 169 (.none), kvK P "__annotations__" 170 (.ref 6), kvK P "__builtins__" 171 (.ref 4), kvK P "__file__" 173 (.str (q_ "/claim/cut.py") 172), kvK P "__cached__" 174 (.none), kvK P "_sre" 275 (.ref 12), kvK P "Entry" 345 (.ref 69), kvK P "_special_chars_map" 493 (.ref 75), kvK P "escape" 500 (.ref 85), kvK P "translate_pattern" 511 (.ref 92), kvK P "merge_entries" 520 (.ref 99), kvK P "_twin_re_1" 560 (.ref 104), kvK P "translate" 569 (.ref 111), kvK P "_translate" 588 (.ref 118), kvK P "_join_translated_parts" 601 (.ref 125), kvK P "sorted_list_difference" 617 (.ref 132), kvK P "_law_items" 625 (.ref 137), kvK P "_law_tried" 631 (.ref 142), kvK P "_law_parts" 642 (.ref 149), kvK P "_law_stands" 648 (.ref 154), kvK P "_law_place" 658 (.ref 161), kvK P "_law_goes" 671 (.ref 168), kvK P "_law_rule" 681 (.ref 175), kvK P "_law_record" 690 (.ref 182), kvK P "_law_due" 696 (.ref 187), kvK P "law" 702 (.ref 192)] 30 }),
   (4, { cls := .type "module", dict := some 0 }),
   (68, { cls := .type "dict", data := .dict #[kvK P "__module__" 291 (.str (q_ "cpy313.urllib.robotparser") 282), kvK P "__firstlineno__" 295 (.int 3 294), kvK P "__init__" 302 (.ref 45), kvK P "__str__" 312 (.ref 52), kvK P "applies_to" 321 (.ref 59), kvK P "allowance" 333 (.ref 66), kvK P "__static_attributes__" 338 (.ref 67), kvK P "__dict__" 340 (.ref 70), kvK P "__weakref__" 342 (.ref 71), kvK P "__doc__" 343 (.none)] 4 }),
   (69, { cls := .type "type", data := .cls { name := q_ "Entry", bases := [.type "object"], mro := [.ref 69, .type "object"], ns := 68, qualname := q_ "Entry" }, slots := #[none, none, some (.str (q_ "Entry") 284), some (.str (q_ "Entry") 292), some (.builtin "object.__new__"), some (.bool true)] }),
   (75, { cls := .type "dict", data := .dict #[kiK 40 349 "\\(" 353, kiK 41 355 "\\)" 359, kiK 91 361 "\\[" 365, kiK 93 367 "\\]" 371, kiK 123 373 "\\{" 377, kiK 125 379 "\\}" 383, kiK 63 385 "\\?" 389, kiK 42 391 "\\*" 395, kiK 43 397 "\\+" 401, kiK 45 403 "\\-" 407, kiK 124 409 "\\|" 413, kiK 94 415 "\\^" 419, kiK 36 421 "\\$" 425, kiK 92 427 "\\\\" 431, kiK 46 433 "\\." 437, kiK 38 439 "\\&" 443, kiK 126 445 "\\~" 449, kiK 35 451 "\\#" 455, kiK 32 457 "\\ " 461, kiK 9 463 "\\\t" 467, kiK 10 469 "\\\n" 473, kiK 13 475 "\\\x0d" 479, kiK 11 481 "\\\x0b" 485, kiK 12 487 "\\\x0c" 491] 24 }),
   (103, { cls := .type "tuple", data := .seq #[.int 14 0, .int 14 0, .int 4 0, .int 1 0, .int 1 0, .int 9 0, .int 0 0, .int 64 0, .int 0 0, .int 1342177280 0, .int 0 0, .int 0 0, .int 0 0, .int 0 0, .int 0 0, .int 17 0, .int 0 0, .int 13 0, .int 11 0, .int 9 0, .int 0 0, .int 64 0, .int 0 0, .int 1342177280 0, .int 0 0, .int 0 0, .int 0 0, .int 0 0, .int 0 0, .int 17 0, .int 1 0, .int 1 0] }),
   (104, { cls := .type "re.Pattern", data := .fields #[.str (q_ "([&~|])") 524, .int 32 559, .int 1 0, .none, .none, .ref 103, .int 0 0] }),
   (84, codeK "escape" "escape" 494 53 1 79 true 498),
   (91, codeK "translate_pattern" "translate_pattern" 503 60 1 86 true 509),
   (98, codeK "merge_entries" "merge_entries" 512 66 2 93 true 518),
   (110, codeK "translate" "translate" 561 75 1 105 true 567),
   (117, codeK "_translate" "_translate" 570 79 3 112 true 586),
   (124, codeK "_join_translated_parts" "_join_translated_parts" 589 141 2 119 true 599),
   (131, codeK "sorted_list_difference" "sorted_list_difference" 604 169 2 126 true 615),
   (136, codeK "_law_items" "_law_items" 620 202 1 133 false 623),
   (141, codeK "_law_tried" "_law_tried" 626 205 2 138 false 629),
   (148, codeK "_law_parts" "_law_parts" 632 213 1 143 true 640),
   (153, codeK "_law_stands" "_law_stands" 643 231 3 150 false 646),
   (160, codeK "_law_place" "_law_place" 649 233 3 155 true 656),
   (167, codeK "_law_goes" "_law_goes" 659 238 2 162 true 669),
   (174, codeK "_law_rule" "_law_rule" 672 247 2 169 true 679),
   (181, codeK "_law_record" "_law_record" 682 252 2 176 true 688),
   (186, codeK "_law_due" "_law_due" 691 257 3 183 false 694),
   (191, codeK "law" "law" 697 260 1 188 false 700),
   (44, codeK "__init__" "Entry.__init__" 296 5 1 39 true 300),
   (65, codeK "allowance" "Entry.allowance" 322 39 2 60 true 331),
   (113, tabObj #[]),
   (170, tabObj #[]),
   (85, fnK (fdk 5 (cdT 5) (pmT 5))),
   (92, fnK (fdk 7 (cdT 7) (pmT 7))),
   (99, fnK (fdk 8 (cdT 8) (pmT 8))),
   (111, fnK (fdk 11 (cdT 11) (pmT 11))),
   (118, fnK (fdk 12 (cdT 12) (pmT 12))),
   (125, fnK (fdk 13 (cdT 13) (pmT 13))),
   (132, fnK (fdk 15 (cdT 15) (pmT 15))),
   (137, fnK (fdk 17 (cdT 17) (pmT 17))),
   (142, fnK (fdk 18 (cdT 18) (pmT 18))),
   (149, fnK (fdk 19 (cdT 19) (pmT 19))),
   (154, fnK (fdk 20 (cdT 20) (pmT 20))),
   (161, fnK (fdk 21 (cdT 21) (pmT 21))),
   (168, fnK (fdk 22 (cdT 22) (pmT 22))),
   (175, fnK (fdk 23 (cdT 23) (pmT 23))),
   (182, fnK (fdk 24 (cdT 24) (pmT 24))),
   (187, fnK (fdk 25 (cdT 25) (pmT 25))),
   (192, fnK (fdk 26 (.ref 191) (pmT 17))),
   (45, fnK (fdm 0 (.ref 44) pmEnt)),
   (66, fnK (fdm 3 (.ref 65) pmEnt))]
noncomputable def lawAs : List Addr := [3, 4, 68, 69, 75, 103, 104, 84, 91, 98, 110, 117, 124, 131, 136, 141, 148, 153, 160, 167, 174, 181, 186, 191, 44, 65, 113, 170, 85, 92, 99, 111, 118, 125, 132, 137, 142, 149, 154, 161, 168, 175, 182, 187, 192, 45, 66]
noncomputable def lawView : Program := view lawProg [26]
noncomputable def lawLoose : List PySem.Str := [q_ "_sre", q_ "Entry", q_ "_special_chars_map", q_ "escape", q_ "translate_pattern", q_ "merge_entries", q_ "_twin_re_1", q_ "translate", q_ "_translate", q_ "_join_translated_parts", q_ "sorted_list_difference", q_ "_law_items", q_ "_law_tried", q_ "_law_parts", q_ "_law_stands", q_ "_law_place", q_ "_law_goes", q_ "_law_rule", q_ "_law_record", q_ "_law_due"]
noncomputable def lawHook : Hook where
  α := List (Option Obj) × Option Value
  obs := fun s => (lawAs.map s.heap.get?, (s.heap.get? builtinsNs).map (·.cls))
  val := fun w => ((heapK w.params).map fun p => some p.2, some (.type "dict"))
  says := fun w h => (heapK w.params).In h ∧ ∃ o, h.get? builtinsNs = some o ∧ o.cls ≠ .none
  of := fun w s e => by
    have e1 := congrArg Prod.fst e
    have e2 := congrArg Prod.snd e
    refine ⟨Frag.in_of (as := lawAs) rfl e1, ?_⟩
    cases q : s.heap.get? builtinsNs with
    | none => rw [q] at e2; cases e2
    | some o =>
      rw [q] at e2
      have e3 : o.cls = .type "dict" := Option.some.inj e2
      exact ⟨o, rfl, by rw [e3]; nofun⟩
  keeps := fun w h h' ⟨x, o, e, hc⟩ hk => ⟨x.keeps hk, o, hk _ _ e, hc⟩
noncomputable def lawXt (s : Shared) : Bool := xlAt lawView [] s && recOk (RowW.records (OpenRow.toRowW (OpenLaw.row PySem.Challenge.rw_in0274_01))) s
noncomputable abbrev lawP (w : World) : Prop := (openEnds treeTable lawProg w 4608).map (fun s => (openSeen lawView lawLoose (importedModules lawProg.main.body) lawXt true s, lawHook.obs s)) = some (openGood lawView lawLoose, lawHook.val w)
end K3Text
section K4Text
theorem left_ff (w : World) : lawP ((w.withFollow "special-get-raises" false).withFollow "comprehension-iter-twice" false) := by kernel_rfl
theorem left_ft (w : World) : lawP ((w.withFollow "special-get-raises" false).withFollow "comprehension-iter-twice" true) := by kernel_rfl
theorem left_tf (w : World) : lawP ((w.withFollow "special-get-raises" true).withFollow "comprehension-iter-twice" false) := by kernel_rfl
theorem left_tt (w : World) : lawP ((w.withFollow "special-get-raises" true).withFollow "comprehension-iter-twice" true) := by kernel_rfl
theorem lawLeft : LeftO lawProg lawView lawLoose lawXt lawHook.obs lawHook.val 4608 :=
  byRow2 (P := lawP) "comprehension-iter-twice"
    (byRow2 (P := fun w => lawP (w.withFollow "comprehension-iter-twice" false)) "special-get-raises" left_ff left_tf)
    (byRow2 (P := fun w => lawP (w.withFollow "comprehension-iter-twice" true)) "special-get-raises" left_ft left_tt)
end K4Text
section A0Text
/-- values, tokens forgotten -/
inductive AV where
  | none | bool (b : Bool) | int (i : Int) | str (s : PySem.Str) | ty (n : String) | bi (id : String) | ref (a : Addr) | other
  deriving DecidableEq
noncomputable def ab : Value → AV
  | .none => .none
  | .bool b => .bool b
  | .int i _ => .int i
  | .str s _ => .str s
  | .type n => .ty n
  | .builtin n => .bi n
  | .ref a => .ref a
  | _ => .other
noncomputable def Ba (v : Value) : AV → Prop
  | .none => v = .none
  | .bool b => v = .bool b
  | .int i => ∃ t, v = .int i t
  | .str x => ∃ t, v = .str x t
  | .ty n => v = .type n
  | .bi n => v = .builtin n
  | .ref a => v = .ref a
  | .other => True
theorem ba (v : Value) : Ba v (ab v) := by cases v <;> first | exact rfl | exact ⟨_, rfl⟩ | exact trivial
theorem ba_of {v : Value} {a : AV} (h : ab v = a) : Ba v a := h ▸ ba v
theorem ab_none {v : Value} (h : ab v = .none) : v = .none := ba_of h
theorem ab_bool {v : Value} {b : Bool} (h : ab v = .bool b) : v = .bool b := ba_of h
theorem ab_int {v : Value} {i : Int} (h : ab v = .int i) : ∃ t, v = .int i t := ba_of h
theorem ab_str {v : Value} {x : PySem.Str} (h : ab v = .str x) : ∃ t, v = .str x t := ba_of h
theorem ab_ty {v : Value} {n : String} (h : ab v = .ty n) : v = .type n := ba_of h
theorem ab_bi {v : Value} {n : String} (h : ab v = .bi n) : v = .builtin n := ba_of h
theorem ab_ref {v : Value} {a : Addr} (h : ab v = .ref a) : v = .ref a := ba_of h
/-- objects -/
inductive AO where
  | list (vs : List AV)
  | tup (vs : List AV)
  | ns (m : List (PySem.Str × Option AV))
  | cell (v : Option AV)
  | dict (es : List (PySem.Str × AV))
  | rng (a c : Int) (n : Nat)
  | raw (o : Obj)
  | any (P : Obj → Prop)
structure Gd where
  prog : Program
  w : World
  h₀ : Heap
  os : OsState
  anc : ∃ o, h₀.get? (h₀.objs.size - 1) = some o
noncomputable def OR (G : Gd) (o : Obj) : AO → Prop
  | .list vs => ∃ xs n, o = { cls := .type "list", dict := none, data := .seq xs n, slots := #[] } ∧ xs.toList.map ab = vs
  | .tup vs => ∃ xs n, o = { cls := .type "tuple", dict := none, data := .seq xs n, slots := #[] } ∧ xs.toList.map ab = vs
  | .ns m => (m.map (·.1)).Nodup ∧ ∃ es ep, o.data = .dict es ep ∧ StrKeys es ∧ ∀ p ∈ m, (nsFind es p.1).map ab = p.2
  | .cell v => ∃ v', o.data = .cell v' ∧ v'.map ab = v
  | .dict es => o.ExactDict ∧ ∃ ds ep, o.data = .dict ds ep ∧ KeysOf (PySem.strKind G.prog G.w) ds ∧ ∃ kvs : List (PySem.Str × Value), Pairs (PySem.strKind G.prog G.w) ds.toList kvs ∧ (kvs.map (·.1)).Nodup ∧ kvs.map (fun p => (p.1, ab p.2)) = es
  | .rng a c n => ∃ b t u v, o = { cls := .type "range", dict := none, data := .fields #[.int a t, .int b u, .int c v], slots := #[] } ∧ Builtin.Range.small a b c = true ∧ Builtin.Range.rangeSize a b c = n
  | .raw o' => o = o'
  | .any P => P o
noncomputable abbrev Sto := List (Addr × AO)
noncomputable abbrev Frm := List (Addr × Obj)
structure St (G : Gd) (ρ : Frm) (σ : Sto) (s : Shared) : Prop where
  old : OldK G.h₀ s.heap
  gens : s.gens = #[]
  os : s.os = G.os
  fr : ∀ p ∈ ρ, s.heap.get? p.1 = some p.2
  ob : ∀ p ∈ σ, ∃ o, s.heap.get? p.1 = some o ∧ OR G o p.2
  own : ∀ a ∈ ρ.map (·.1) ++ σ.map (·.1), G.h₀.get? a = none
  nd : (ρ.map (·.1) ++ σ.map (·.1)).Nodup
theorem St.sz {G : Gd} {ρ : Frm} {σ : Sto} {s : Shared} (h : St G ρ σ s) : G.h₀.objs.size ≤ s.heap.objs.size := by
  obtain ⟨o, e⟩ := G.anc
  obtain ⟨o', e'⟩ := h.old.there _ _ e
  exact Nat.le_of_pred_lt (Heap.lt_size e')
/-- the exception under handling, and the frames around, where they are known -/
structure Hx where
  h : Option Value
  l : List Env
noncomputable def hdv : Option Hx → Option Value
  | none => none
  | some x => x.h
noncomputable def hdp (e : Env) : Option Hx → Option Hx
  | none => none
  | some x => some ⟨x.h, e :: x.l⟩
structure Kx where
  n : Nat
  hd : Option Hx
structure Room (κ : Kx) (A : Around) : Prop where
  hd : A.handled = hdv κ.hd
  depth : A.depth + κ.n < recursionLimit
  units : A.units + 50 * κ.n < cLine
  fr : ∀ x, κ.hd = some x → A.frames = some x.l
theorem un_le {u n c : Nat} (k : Nat) (h : u + 50 * (n + 1) < c) (hk : k ≤ 50) : u + k + 50 * n < c :=
  Nat.lt_of_le_of_lt (by rw [Nat.add_assoc, Nat.add_comm k]; exact Nat.add_le_add_left (Nat.add_le_add_left hk _) u) h
theorem Room.in1 {n : Nat} {hd : Option Hx} {A : Around} (h : Room ⟨n + 1, hd⟩ A) : Room ⟨n, hd⟩ A.in1 :=
  ⟨h.hd, Nat.lt_of_succ_lt h.depth, un_le 1 h.units (by decide), h.fr⟩
theorem Room.deeper {n : Nat} {hd : Option Hx} {A : Around} (e : Env) (h : Room ⟨n + 1, hd⟩ A) : Room ⟨n, hdp e hd⟩ (A.deeper e) :=
  ⟨(show A.handled = _ from h.hd).trans (by cases hd <;> rfl), (by rw [Nat.add_right_comm]; exact h.depth : A.depth + 1 + n < recursionLimit), un_le 3 h.units (by decide), fun x hx => by
    cases hd with
    | none => cases hx
    | some y =>
      cases hx
      show A.frames.map (e :: ·) = _
      rw [h.fr y rfl]; rfl⟩
noncomputable abbrev XP := AV → Sto → Prop
noncomputable def NoX : XP := fun _a _b => False
/-- an outcome as it is seen, and the state it leaves -/
inductive Po (G : Gd) (ρ : Frm) {α β : Type} (f : α → β) (Q : β → Sto → Prop) (a : α) (s : Shared) : Prop
  | mk (σ : Sto) (q : Q (f a) σ) (z : St G ρ σ s)
theorem pe {G : Gd} {ρ : Frm} {α β : Type} {f : α → β} {Q : β → Sto → Prop} {a : α} {s : Shared} {R : Prop} (h : ∀ σ, Q (f a) σ → St G ρ σ s → R) : Po G ρ f Q a s → R
  | .mk σ q z => h σ q z
theorem wp_neg {M : Model} {A : Around} {E : Value → Shared → Prop} {s : Shared} {α : Type} {c : Prop} [Decidable c] {a b : Sem α} {Q : α → Shared → Prop} (h : ¬ c) (k : wpAny M A b Q E s) : wpAny M A (if c then a else b) Q E s := by rw [if_neg h]; exact k
theorem wp_pos {M : Model} {A : Around} {E : Value → Shared → Prop} {s : Shared} {α : Type} {c : Prop} [Decidable c] {a b : Sem α} {Q : α → Shared → Prop} (h : c) (k : wpAny M A a Q E s) : wpAny M A (if c then a else b) Q E s := by rw [if_pos h]; exact k
/-- the judgement -/
noncomputable def W (G : Gd) (κ : Kx) {α β : Type} (f : α → β) (t : Sem α) (σ : Sto) (Q : β → Sto → Prop) (X : XP) : Prop :=
  ∀ A ρ s, Room κ A → St G ρ σ s →
    wpAny (model G.prog G.w) A t (Po G ρ f Q) (Po G ρ ab X) s
/-- a code run -/
noncomputable def CW (G : Gd) (κ : Kx) {β : Type} (f : Flow → β) (c : Code) (σ : Sto) (Q : β → Sto → Prop) (X : XP) : Prop :=
  ∀ A ρ s, Room κ A → St G ρ σ s →
    codeAny (model G.prog G.w) A c (fun r s' => match r with
      | .ok fl => Po G ρ f Q fl s'
      | .error e => Po G ρ ab X e s') s
section
variable {G : Gd} {κ : Kx} {α β γ : Type} {f : α → β} {σ : Sto} {Q Q' : β → Sto → Prop} {X X' : XP}
theorem W.mono {t : Sem α} (h : W G κ f t σ Q X) (hQ : ∀ a σ', Q a σ' → Q' a σ') (hX : ∀ a σ', X a σ' → X' a σ') : W G κ f t σ Q' X' :=
  fun A ρ s hA hs => wpAny_mono (h A ρ s hA hs) (fun _a _b => pe fun σ' q z => ⟨σ', hQ _ _ q, z⟩) fun _a _b => pe fun σ' q z => ⟨σ', hX _ _ q, z⟩
theorem W.post {t : Sem α} (h : W G κ f t σ Q X) (hQ : ∀ a σ', Q a σ' → Q' a σ') : W G κ f t σ Q' X := h.mono hQ fun _a _b x => x
theorem W.pure {a : α} (h : Q (f a) σ) : W G κ f (Sem.pure a) σ Q X := fun _a _b _c _d hs => wpAny_pure ⟨σ, h, hs⟩
theorem W.pure' {a : α} (h : Q (f a) σ) : W G κ f (Pure.pure a) σ Q X := W.pure h
theorem St.sub {σ' : Sto} {ρ : Frm} {s : Shared} (h : St G ρ σ s) (hs : σ'.Sublist σ) : St G ρ σ' s where
  old := h.old
  gens := h.gens
  os := h.os
  fr := h.fr
  ob := fun q hq => h.ob q (hs.subset hq)
  own := fun a ha => h.own a (by
    rcases List.mem_append.mp ha with x | x
    · exact List.mem_append_left _ x
    · exact List.mem_append_right _ ((hs.map (·.1)).subset x))
  nd := (List.Sublist.append_left (hs.map (·.1)) _).nodup h.nd
theorem St.perm {σ' : Sto} {ρ : Frm} {s : Shared} (h : St G ρ σ s) (hp : σ.Perm σ') : St G ρ σ' s where
  old := h.old
  gens := h.gens
  os := h.os
  fr := h.fr
  ob := fun q hq => h.ob q (hp.symm.subset hq)
  own := fun a ha => h.own a (by
    rcases List.mem_append.mp ha with x | x
    · exact List.mem_append_left _ x
    · exact List.mem_append_right _ ((hp.map (·.1)).symm.subset x))
  nd := (List.Perm.append_left _ (hp.map (·.1))).nodup_iff.mp h.nd
theorem St.toks {ρ : Frm} {s : Shared} (h : St G ρ σ s) (t : Nat) : St G ρ σ { s with toks := t } := ⟨h.old, h.gens, h.os, h.fr, h.ob, h.own, h.nd⟩
/-- the same state at the same heap -/
theorem St.at {ρ : Frm} {s : Shared} (h : St G ρ σ s) {a : Addr} {o : AO} (hm : (a, o) ∈ σ) : ∃ ob, s.heap.get? a = some ob ∧ OR G ob o := h.ob _ hm
inductive Up (a : Addr) (o o' : AO) : Sto → Sto → Prop
  | here {r : Sto} : Up a o o' ((a, o) :: r) ((a, o') :: r)
  | there {p : Addr × AO} {r r' : Sto} : Up a o o' r r' → Up a o o' (p :: r) (p :: r')
theorem Up.split {a : Addr} {o o' : AO} : ∀ {l l' : Sto}, Up a o o' l l' → ∃ pre post, l = pre ++ (a, o) :: post ∧ l' = pre ++ (a, o') :: post := by
  intro l l' h
  induction h with
  | here => exact ⟨[], _, rfl, rfl⟩
  | @there p _ _ _ ih =>
    obtain ⟨pre, post, e, e'⟩ := ih
    exact ⟨p :: pre, post, congrArg (p :: ·) e, congrArg (p :: ·) e'⟩
theorem Up.mem {a : Addr} {o o' : AO} {l l' : Sto} (h : Up a o o' l l') : (a, o) ∈ l := by
  obtain ⟨pre, post, rfl, _⟩ := h.split; simp
theorem Up.map {a : Addr} {o o' : AO} : ∀ {l l' : Sto}, Up a o o' l l' → l'.map (·.1) = l.map (·.1) := by
  intro l l' h
  induction h with
  | here => rfl
  | @there p _ _ _ ih => exact congrArg (p.1 :: ·) ih
theorem St.push {ρ : Frm} {s : Shared} (h : St G ρ σ s) (o : Obj) (ao : AO) (hf : o.isFreed = false) (ho : OR G o ao) : St G ρ ((s.heap.objs.size, ao) :: σ) { s with heap := s.heap.push o } where
  old := h.old.step_keeps fun _a _b e => Heap.get?_push_of_some _ e
  gens := h.gens
  os := h.os
  fr := fun p hp => Heap.get?_push_of_some _ (h.fr p hp)
  ob := fun p hp => by
    rcases List.mem_cons.mp hp with rfl | hp
    · exact ⟨o, Heap.get?_push_size _ hf, ho⟩
    · obtain ⟨o', e, r⟩ := h.ob p hp
      exact ⟨o', Heap.get?_push_of_some _ e, r⟩
  own := fun a ha => by
    simp only [List.map_cons, List.mem_append, List.mem_cons] at ha
    rcases ha with x | x | x
    · exact h.own a (List.mem_append_left _ x)
    · rw [x]; exact Heap.get?_none_of_le h.sz
    · exact h.own a (List.mem_append_right _ x)
  nd := by
    have lt : ∀ a ∈ ρ.map (·.1) ++ σ.map (·.1), a < s.heap.objs.size := fun a ha => by
      rcases List.mem_append.mp ha with x | x
      · obtain ⟨p, hp, rfl⟩ := List.mem_map.mp x
        exact Heap.lt_size (h.fr p hp)
      · obtain ⟨p, hp, rfl⟩ := List.mem_map.mp x
        obtain ⟨o', e, _⟩ := h.ob p hp
        exact Heap.lt_size e
    rw [List.map_cons]
    refine (List.perm_middle (l₁ := ρ.map (·.1)) (a := s.heap.objs.size) (l₂ := σ.map (·.1))).nodup_iff.mpr ?_
    exact List.nodup_cons.mpr ⟨fun hm => Nat.lt_irrefl _ (lt _ hm), h.nd⟩
theorem St.list {ρ : Frm} {s : Shared} (h : St G ρ σ s) {a : Addr} {vs : List AV} (hm : (a, .list vs) ∈ σ) : ∃ xs n, IsL s.heap a xs n ∧ xs.toList.map ab = vs := by
  obtain ⟨ob, e, xs, n, rfl, hv⟩ := h.at hm
  exact ⟨xs, n, e, hv⟩
theorem St.tup {ρ : Frm} {s : Shared} (h : St G ρ σ s) {a : Addr} {vs : List AV} (hm : (a, .tup vs) ∈ σ) : ∃ xs n, s.heap.get? a = some { cls := .type "tuple", dict := none, data := .seq xs n, slots := #[] } ∧ xs.toList.map ab = vs := by
  obtain ⟨ob, e, xs, n, rfl, hv⟩ := h.at hm
  exact ⟨xs, n, e, hv⟩
theorem size_of {xs : Array Value} {vs : List AV} (h : xs.toList.map ab = vs) : xs.size = vs.length := by rw [← h]; simp
theorem old_but {h₀ h h' : Heap} (K : OldK h₀ h) {S : Addr → Prop} (ha : ∀ a, S a → h₀.get? a = none) (he : ∀ x o, ¬ S x → h.get? x = some o → h'.get? x = some o) : OldK h₀ h' := by
  have ne : ∀ b o, h₀.get? b = some o → ¬ S b := fun b o e q => by rw [ha b q] at e; cases e
  refine ⟨fun b o e => ?_, fun b o e => let ⟨o', ho'⟩ := K.there b o e; ⟨o', he b o' (ne b o e) ho'⟩⟩
  rcases K.old b o e with x | ⟨t, hc, vs, more, hv, x⟩ | ⟨rfl, hc, ⟨o', es, n, ho', r⟩, z⟩
  · exact .inl (he _ _ (ne b o e) x)
  · exact .inr (.inl ⟨t, hc, vs, more, hv, he _ _ (ne b o e) x⟩)
  · exact .inr (.inr ⟨rfl, hc, ⟨o', es, n, he _ _ (ne _ o e) ho', r⟩, fun key => by rw [OldK.staticOf_congr ((he _ _ (ne _ o e) ho').trans ho'.symm) key]; exact z key⟩)
theorem old_ext {h₀ h h' : Heap} (K : OldK h₀ h) {a : Addr} (ha : h₀.get? a = none) (he : Heap.ExtBut a h h') : OldK h₀ h' :=
  old_but (S := (· = a)) K (fun _a e => e ▸ ha) he
theorem step_same' {h₀ h h' : Heap} (K : OldK h₀ h) {a : Addr} (ha : h₀.get? a = none) (hs : Heap.SameBut a h h') : OldK h₀ h' := old_ext K ha hs.extBut
/-- one known object turned -/
theorem St.turn {σ' : Sto} {ρ : Frm} {s : Shared} {a : Addr} {o o' : AO} {h' : Heap} {ob : Obj} (h : St G ρ σ s) (u : Up a o o' σ σ') (hs : Heap.SameBut a s.heap h') (he : h'.get? a = some ob) (hr : OR G ob o') :
    St G ρ σ' { s with heap := h' } where
  old := step_same' h.old (h.own a (List.mem_append_right _ (List.mem_map.mpr ⟨_, u.mem, rfl⟩))) hs
  gens := h.gens
  os := h.os
  fr := fun p hp => by
    have hne : p.1 ≠ a := fun e => by
      have hd := (List.nodup_append.mp h.nd).2.2
      exact hd p.1 (List.mem_map.mpr ⟨p, hp, rfl⟩) a (List.mem_map.mpr ⟨_, u.mem, rfl⟩) e
    exact (hs.2 _ hne).trans (h.fr p hp)
  ob := fun p hp => by
    obtain ⟨pre, post, e1, e2⟩ := u.split
    have nd := (List.nodup_append.mp h.nd).2.1
    rw [e1, List.map_append, List.map_cons] at nd
    have nd' := (List.perm_middle (l₁ := pre.map (·.1)) (a := a) (l₂ := post.map (·.1))).nodup_iff.mp nd
    have hn := (List.nodup_cons.mp nd').1
    rw [e2] at hp
    have other : p ∈ pre ∨ p ∈ post → ∃ ob, h'.get? p.1 = some ob ∧ OR G ob p.2 := fun hm => by
      have hne : p.1 ≠ a := fun e => hn (by
        rw [← e]
        rcases hm with x | x
        · exact List.mem_append_left _ (List.mem_map.mpr ⟨p, x, rfl⟩)
        · exact List.mem_append_right _ (List.mem_map.mpr ⟨p, x, rfl⟩))
      obtain ⟨ob', e, r⟩ := h.ob p (by rw [e1]; rcases hm with x | x <;> simp [x])
      exact ⟨ob', (hs.2 _ hne).trans e, r⟩
    rcases List.mem_append.mp hp with x | x
    · exact other (.inl x)
    · rcases List.mem_cons.mp x with rfl | x
      · exact ⟨ob, he, hr⟩
      · exact other (.inr x)
  own := fun x hx => h.own x (by rw [u.map] at hx; exact hx)
  nd := by rw [u.map]; exact h.nd
theorem ne_of {α : Type} {l : List (Addr × α)} {p : Addr × α} {a : Addr} (hn : a ∉ l.map (·.1)) (hp : p ∈ l) : p.1 ≠ a := fun e => hn (e ▸ List.mem_map.mpr ⟨p, hp, rfl⟩)
/-- a framed object forgotten, whatever it became -/
theorem St.dropF {ρ : Frm} {s : Shared} {p : Addr × Obj} (h : St G (p :: ρ) σ s) : St G ρ σ s :=
  ⟨h.old, h.gens, h.os, fun q hq => h.fr q (.tail _ hq), h.ob, fun a ha => h.own a (.tail _ ha), (List.nodup_cons.mp h.nd).2⟩
theorem St.loseF {ρ : Frm} {s : Shared} {a : Addr} {o : Obj} {h' : Heap} (h : St G ((a, o) :: ρ) σ s) (he : Heap.ExtBut a s.heap h') :
    St G ρ σ { s with heap := h' } := by
  have nd := List.nodup_cons.mp h.nd
  have n1 : a ∉ ρ.map (·.1) := fun x => nd.1 (List.mem_append_left _ x)
  have n2 : a ∉ σ.map (·.1) := fun x => nd.1 (List.mem_append_right _ x)
  exact ⟨old_ext h.old (h.own a (.head _)) he, h.gens, h.os, fun p hp => he _ _ (ne_of n1 hp) (h.fr p (.tail _ hp)), fun p hp => let ⟨o', e, r⟩ := h.ob p hp; ⟨o', he _ _ (ne_of n2 hp) e, r⟩, fun x hx => h.own x (.tail _ hx), nd.2⟩
/-- a framed object turned -/
theorem St.turnF {ρ : Frm} {s : Shared} {a : Addr} {o ob : Obj} {h' : Heap} (h : St G ((a, o) :: ρ) σ s) (he : Heap.ExtBut a s.heap h') (hg : h'.get? a = some ob) :
    St G ((a, ob) :: ρ) σ { s with heap := h' } := by
  have z := h.loseF he
  refine ⟨z.old, z.gens, z.os, fun p hp => ?_, z.ob, h.own, h.nd⟩
  rcases List.mem_cons.mp hp with rfl | hp
  · exact hg
  · exact z.fr p hp
/-- an entry into the frame, exactly as it is -/
theorem St.toF {ρ : Frm} {s : Shared} {a : Addr} {o : Obj} (h : St G ρ ((a, .raw o) :: σ) s) : St G ((a, o) :: ρ) σ s := by
  have pm := List.perm_middle (l₁ := ρ.map (·.1)) (a := a) (l₂ := σ.map (·.1))
  refine ⟨h.old, h.gens, h.os, fun p hp => ?_, fun p hp => h.ob p (.tail _ hp), fun x hx => h.own x (pm.symm.subset hx), pm.nodup_iff.mp h.nd⟩
  rcases List.mem_cons.mp hp with rfl | hp
  · obtain ⟨o', e, r⟩ := h.ob _ (.head _)
    have : o' = o := r
    rw [this] at e; exact e
  · exact h.fr p hp
theorem St.pushF {ρ : Frm} {s : Shared} (h : St G ρ σ s) (o : Obj) (hf : o.isFreed = false) : St G ((s.heap.objs.size, o) :: ρ) σ { s with heap := s.heap.push o } :=
  (h.push o (.raw o) hf rfl).toF
/-- nothing of ours turned: the heap has grown -/
theorem St.grown {ρ : Frm} {s : Shared} {h' : Heap} (h : St G ρ σ s) (hk : ∀ b o, s.heap.get? b = some o → h'.get? b = some o) : St G ρ σ { s with heap := h' } where
  old := h.old.step_keeps hk
  gens := h.gens
  os := h.os
  fr := fun p hp => hk _ _ (h.fr p hp)
  ob := fun p hp => let ⟨o, e, r⟩ := h.ob p hp; ⟨o, hk _ _ e, r⟩
  own := h.own
  nd := h.nd
end
end A0Text
section A1Text
inductive AF where
  | next | brk | cont | ret (v : AV)
noncomputable def abF : Flow → AF
  | .next => .next | .brk => .brk | .cont => .cont | .ret v => .ret (ab v)
noncomputable abbrev EV (G : Gd) (κ : Kx) (env : Env) (e : PySem.Expr) (σ : Sto) (Q : AV → Sto → Prop) (X : XP) : Prop := W G κ ab (eval e env) σ Q X
noncomputable abbrev TS (G : Gd) (κ : Kx) (env : Env) (e : PySem.Expr) (σ : Sto) (Q : Bool → Sto → Prop) (X : XP) : Prop := W G κ id (isTrue e env (eval e env)) σ Q X
noncomputable abbrev EX (G : Gd) (κ : Kx) (env : Env) (st : Stmt) (σ : Sto) (Q : AF → Sto → Prop) (X : XP) : Prop := W G κ abF (exec st env) σ Q X
noncomputable abbrev EXS (G : Gd) (κ : Kx) (env : Env) (st : List Stmt) (σ : Sto) (Q : AF → Sto → Prop) (X : XP) : Prop := W G κ abF (execs st env) σ Q X
noncomputable abbrev AS (G : Gd) (κ : Kx) (env : Env) (es : List PySem.Expr) (σ : Sto) (Q : List AV → Sto → Prop) (X : XP) : Prop :=
  ∀ pos, W G κ (List.map ab) (spliced (backTo pos (starEach es env))) σ Q X
/-- what holds of any concrete values of these -/
noncomputable def OP2 (G : Gd) (κ : Kx) (t : Value → Value → Sem Value) (a b : AV) (σ : Sto) (Q : AV → Sto → Prop) (X : XP) : Prop :=
  ∀ x y, ab x = a → ab y = b → W G κ ab (t x y) σ Q X
noncomputable def OP1 (G : Gd) (κ : Kx) (t : Value → Sem Value) (a : AV) (σ : Sto) (Q : AV → Sto → Prop) (X : XP) : Prop :=
  ∀ x, ab x = a → W G κ ab (t x) σ Q X
noncomputable def TR (G : Gd) (κ : Kx) (a : AV) (σ : Sto) (Q : Bool → Sto → Prop) (X : XP) : Prop :=
  ∀ x, ab x = a → W G κ id (truthy x) σ Q X
noncomputable def SN (G : Gd) (κ : Kx) (env : Env) (n : PySem.Str) (a : AV) (σ : Sto) (Q : Sto → Prop) (X : XP) : Prop :=
  ∀ x, ab x = a → W G κ id (storeName env n x) σ (fun _a σ' => Q σ') X
noncomputable def LN (G : Gd) (κ : Kx) (env : Env) (n : PySem.Str) (σ : Sto) (Q : AV → Sto → Prop) (X : XP) : Prop :=
  W G κ ab (loadName env n) σ Q X
noncomputable def ASG (G : Gd) (κ : Kx) (env : Env) (t : PySem.Expr) (a : AV) (σ : Sto) (Q : Sto → Prop) (X : XP) : Prop :=
  ∀ x, ab x = a → W G κ id (assign t env x) σ (fun _a σ' => Q σ') X
noncomputable def CL (G : Gd) (κ : Kx) (f : AV) (args : List AV) (σ : Sto) (Q : AV → Sto → Prop) (X : XP) : Prop :=
  ∀ g vs, ab g = f → vs.map ab = args → W G κ ab (call g vs) σ Q X
/-- whose call it is: asked ahead of a call -/
noncomputable def KP (G : Gd) (κ : Kx) (f : AV) (σ : Sto) : Prop := ∀ g, ab g = f → ∀ X, W G κ id (keeperOf g) σ (fun _a σ' => σ' = σ) X
-- what is to come, by name
noncomputable abbrev KTr (G : Gd) (κ : Kx) (Q : Bool → Sto → Prop) (X : XP) : AV → Sto → Prop := fun c σ => TR G κ c σ Q X
noncomputable abbrev KB2 (G : Gd) (κ : Kx) (t : Value → Value → Sem Value) (a : AV) (Q : AV → Sto → Prop) (X : XP) : AV → Sto → Prop := fun b σ => OP2 G κ t a b σ Q X
noncomputable abbrev KB1 (G : Gd) (κ : Kx) (env : Env) (r : PySem.Expr) (t : Value → Value → Sem Value) (Q : AV → Sto → Prop) (X : XP) : AV → Sto → Prop := fun a σ => EV G κ env r σ (KB2 G κ t a Q X) X
noncomputable abbrev KU (G : Gd) (κ : Kx) (t : Value → Sem Value) (Q : AV → Sto → Prop) (X : XP) : AV → Sto → Prop := fun a σ => OP1 G κ t a σ Q X
noncomputable abbrev KIfE (G : Gd) (κ : Kx) (env : Env) (b o : PySem.Expr) (Q : AV → Sto → Prop) (X : XP) : Bool → Sto → Prop := fun c σ => if c then EV G κ env b σ Q X else EV G κ env o σ Q X
noncomputable abbrev KTa (G : Gd) (κ : Kx) (env : Env) (y : PySem.Expr) (Q : Bool → Sto → Prop) (X : XP) : Bool → Sto → Prop := fun b σ => if b then TS G κ env y σ Q X else Q false σ
noncomputable abbrev KTo (G : Gd) (κ : Kx) (env : Env) (y : PySem.Expr) (Q : Bool → Sto → Prop) (X : XP) : Bool → Sto → Prop := fun b σ => if b then Q true σ else TS G κ env y σ Q X
noncomputable abbrev KAc (Q : List AV → Sto → Prop) (v : AV) : List AV → Sto → Prop := fun vs σ => Q (v :: vs) σ
noncomputable abbrev KAs (G : Gd) (κ : Kx) (env : Env) (rest : List PySem.Expr) (Q : List AV → Sto → Prop) (X : XP) : AV → Sto → Prop := fun v σ => AS G κ env rest σ (KAc Q v) X
noncomputable abbrev KLs (Q : AV → Sto → Prop) : List AV → Sto → Prop := fun vs σ => vs.length ≤ sizeLine ∧ ∀ a, Q (.ref a) ((a, .list vs) :: σ)
noncomputable abbrev KTp (Q : AV → Sto → Prop) : List AV → Sto → Prop := fun vs σ => vs.length ≤ sizeLine ∧ ∀ a, Q (.ref a) ((a, .tup vs) :: σ)
section
variable {G : Gd} {κ : Kx} {env : Env} {σ : Sto} {X : XP}
theorem kno {P : Prop} (k : P) : AV.none = AV.none ∧ P := ⟨rfl, k⟩
-- expressions
theorem ev_int {i : Int} {k : Nat} {pos : Pos} {Q : AV → Sto → Prop} (h : Q (.int i) σ) : EV G κ env (.Constant (.int i) k pos) σ Q X :=
  fun _a _b _c _d hs => wpAny_Constant_int (env := env) ⟨σ, h, hs.toks _⟩
theorem ev_str {x : PySem.Str} {k : Nat} {pos : Pos} {Q : AV → Sto → Prop} (h : Q (.str x) σ) : EV G κ env (.Constant (.str x) k pos) σ Q X :=
  fun _a _b _c _d hs => wpAny_Constant_str (env := env) ⟨σ, h, hs.toks _⟩
theorem ev_none {k : Nat} {pos : Pos} {Q : AV → Sto → Prop} (h : Q .none σ) : EV G κ env (.Constant .none k pos) σ Q X :=
  fun _a _b _c _d hs => wpAny_Constant_none (env := env) ⟨σ, h, hs⟩
theorem ev_bool {b : Bool} {k : Nat} {pos : Pos} {Q : AV → Sto → Prop} (h : Q (.bool b) σ) : EV G κ env (.Constant (.bool b) k pos) σ Q X :=
  fun _a _b _c _d hs => wpAny_Constant_bool (env := env) ⟨σ, h, hs⟩
theorem ev_name {x : PySem.Str} {pos : Pos} {Q : AV → Sto → Prop} (h : LN G κ env x σ Q X) (hd : (x == ("__debug__" : PySem.Str)) = false) : EV G κ env (.Name x pos) σ Q X :=
  fun A ρ s hA hs => wpAny_Name (h A ρ s hA hs) hd
theorem ev_binop {l r : PySem.Expr} {op : Operator} {pos : Pos} {Q : AV → Sto → Prop} (h : EV G κ env l σ (KB1 G κ env r (binaryOp op) Q X) X) :
    EV G κ env (.BinOp l op r pos) σ Q X := fun A ρ s hA hs =>
  wpAny_BinOp (wpAny_mono (h A ρ s hA hs) (fun a _a => pe fun _a q z => wpAny_mono (q A ρ _ hA z) (fun b _a => pe fun _a q z => q a b rfl rfl A ρ _ hA z) fun _a _b x => x) fun _a _b x => x)
theorem ev_compare {l r : PySem.Expr} {op : CmpOp} {pos : Pos} {Q : AV → Sto → Prop} (h : EV G κ env l σ (KB1 G κ env r (compareOp op) Q X) X)
    (hm : behindInMarks op r = false) : EV G κ env (.Compare l [op] [r] pos) σ Q X := fun A ρ s hA hs =>
  wpAny_Compare1 (wpAny_mono (h A ρ s hA hs) (fun a _a => pe fun _a q z => wpAny_mono (q A ρ _ hA z) (fun b _a => pe fun _a q z => q a b rfl rfl A ρ _ hA z) fun _a _b x => x) fun _a _b x => x) hm
theorem ts_compare {l r : PySem.Expr} {op : CmpOp} {pos : Pos} {Q : Bool → Sto → Prop} (h : EV G κ env l σ (KB1 G κ env r (compareOp op) (KTr G κ Q X) X) X)
    (hm : behindInMarks op r = false) : TS G κ env (.Compare l [op] [r] pos) σ Q X := fun A ρ s hA hs =>
  wpAny_isTrue_Compare1 (wpAny_mono (h A ρ s hA hs) (fun a _a => pe fun _a q z => wpAny_mono (q A ρ _ hA z) (fun b _a => pe fun _a q z => wpAny_mono (q a b rfl rfl A ρ _ hA z) (fun c _a => pe fun _a q z => q c rfl A ρ _ hA z) fun _a _b x => x) fun _a _b x => x) fun _a _b x => x) hm
theorem ev_unary {x : PySem.Expr} {op : UnaryOp} {pos : Pos} {Q : AV → Sto → Prop} (h : EV G κ env x σ (KU G κ (unaryOp op) Q X) X) : EV G κ env (.UnaryOp op x pos) σ Q X := fun A ρ s hA hs =>
  wpAny_UnaryOp (wpAny_mono (h A ρ s hA hs) (fun a _a => pe fun _a q z => q a rfl A ρ _ hA z) fun _a _b x => x)
theorem ev_ifexp {t b o : PySem.Expr} {pos : Pos} {Q : AV → Sto → Prop} (h : TS G κ env t σ (KIfE G κ env b o Q X) X) : EV G κ env (.IfExp t b o pos) σ Q X := fun A ρ s hA hs =>
  wpAny_IfExp (wpAny_mono (h A ρ s hA hs) (fun c _a => pe fun _a q z => by cases c <;> exact q A ρ _ hA z) fun _a _b x => x)
theorem ts_not {x : PySem.Expr} {pos : Pos} {Q : Bool → Sto → Prop} (h : TS G κ env x σ (fun b σ₁ => Q (!b) σ₁) X) : TS G κ env (.UnaryOp .Not x pos) σ Q X := fun A ρ s hA hs =>
  wpAny_isTrue_Not (wpAny_mono (h A ρ s hA hs) (fun b _a => pe fun σ₁ q z => ⟨σ₁, q, z⟩) fun _a _b x => x)
theorem ts_value {e : PySem.Expr} {Q : Bool → Sto → Prop} (h : EV G κ env e σ (KTr G κ Q X) X)
    (he : isTrue e env (eval e env) = (do let v ← eval e env; standAt e.pos; holding [v] (truthy v))) : TS G κ env e σ Q X := fun A ρ s hA hs =>
  wpAny_isTrue_value (wpAny_mono (h A ρ s hA hs) (fun a _a => pe fun _a q z => q a rfl A ρ _ hA z) fun _a _b x => x) he
theorem ts_and2 {x y : PySem.Expr} {pos : Pos} {Q : Bool → Sto → Prop} (h : TS G κ env x σ (KTa G κ env y Q X) X) : TS G κ env (.BoolOp .And [x, y] pos) σ Q X := fun A ρ s hA hs =>
  wpAny_isTrue_BoolOp (wpAny_allTrue_And_cons (wpAny_mono (h A ρ s hA hs) (fun b _a => pe fun σ₁ q z => by
    cases b
    · exact ⟨σ₁, q, z⟩
    · exact wpAny_allTrue_And_cons (wpAny_mono (q A ρ _ hA z) (fun b _a => pe fun σ₂ q z => by
        cases b
        · exact ⟨σ₂, q, z⟩
        · exact wpAny_allTrue_And_nil ⟨σ₂, q, z⟩) fun _a _b x => x)) fun _a _b x => x))
theorem ts_or2 {x y : PySem.Expr} {pos : Pos} {Q : Bool → Sto → Prop} (h : TS G κ env x σ (KTo G κ env y Q X) X) : TS G κ env (.BoolOp .Or [x, y] pos) σ Q X := fun A ρ s hA hs =>
  wpAny_isTrue_BoolOp (wpAny_allTrue_Or_cons (wpAny_mono (h A ρ s hA hs) (fun b _a => pe fun σ₁ q z => by
    cases b
    · exact wpAny_allTrue_Or_cons (wpAny_mono (q A ρ _ hA z) (fun b _a => pe fun σ₂ q z => by
        cases b
        · exact wpAny_allTrue_Or_nil ⟨σ₂, q, z⟩
        · exact ⟨σ₂, q, z⟩) fun _a _b x => x)
    · exact ⟨σ₁, q, z⟩) fun _a _b x => x))
theorem ev_and2 {x y : PySem.Expr} {pos : Pos} {Q : AV → Sto → Prop} (h : EV G κ env x σ (fun a σ₁ => TR G κ a σ₁ (fun b σ₂ => if b then EV G κ env y σ₂ Q X else Q a σ₂) X) X) : EV G κ env (.BoolOp .And [x, y] pos) σ Q X := fun A ρ s hA hs =>
  wpAny_And2 (wpAny_mono (h A ρ s hA hs) (fun a _a => pe fun _a q z => wpAny_mono (q a rfl A ρ _ hA z) (fun b _a => pe fun σ₂ q z => by
    cases b
    · exact ⟨σ₂, q, z⟩
    · exact q A ρ _ hA z) fun _a _b x => x) fun _a _b x => x)
theorem ev_or2 {x y : PySem.Expr} {pos : Pos} {Q : AV → Sto → Prop} (h : EV G κ env x σ (fun a σ₁ => TR G κ a σ₁ (fun b σ₂ => if b then Q a σ₂ else EV G κ env y σ₂ Q X) X) X) : EV G κ env (.BoolOp .Or [x, y] pos) σ Q X := fun A ρ s hA hs =>
  wpAny_Or2 (wpAny_mono (h A ρ s hA hs) (fun a _a => pe fun _a q z => wpAny_mono (q a rfl A ρ _ hA z) (fun b _a => pe fun σ₂ q z => by
    cases b
    · exact q A ρ _ hA z
    · exact ⟨σ₂, q, z⟩) fun _a _b x => x) fun _a _b x => x)
-- arguments
theorem as_nil {Q : List AV → Sto → Prop} (h : Q [] σ) : AS G κ env [] σ Q X := fun _a _b _c _d _e hs => wpAny_items_nil ⟨σ, h, hs⟩
theorem as_cons {e : PySem.Expr} {rest : List PySem.Expr} {Q : List AV → Sto → Prop} (h : EV G κ env e σ (KAs G κ env rest Q X) X)
    (he : starEach (e :: rest) env = (false, eval e env) :: starEach rest env) : AS G κ env (e :: rest) σ Q X := fun pos A ρ s hA hs =>
  wpAny_items_cons (wpAny_mono (h A ρ s hA hs) (fun v _a => pe fun _a q z => wpAny_mono (q pos A ρ _ hA z) (fun vs _a => pe fun σ₂ q z => ⟨σ₂, by simpa using q, z⟩) fun _a _b x => x) fun _a _b x => x) he
/-- the addresses of a state, from what a push gives -/
theorem ev_list {es : List PySem.Expr} {pos : Pos} {Q : AV → Sto → Prop} (h : AS G κ env es σ (KLs Q) X) : EV G κ env (.List es pos) σ Q X := fun A ρ s hA hs =>
  wpAny_List (wpAny_mono (h pos A ρ s hA hs) (fun vs s₁ ⟨σ₁, ⟨hl, q⟩, z⟩ => ⟨by simpa using hl, _, q _, z.push _ (.list (vs.map ab)) rfl ⟨_, _, rfl, by simp⟩⟩) fun _a _b x => x)
theorem ev_tuple {es : List PySem.Expr} {k : Nat} {pos : Pos} {Q : AV → Sto → Prop} (h : AS G κ env es σ (KTp Q) X) : EV G κ env (.Tuple es k pos) σ Q X := fun A ρ s hA hs =>
  wpAny_Tuple (wpAny_mono (h pos A ρ s hA hs) (fun vs s₁ ⟨σ₁, ⟨hl, q⟩, z⟩ => ⟨by simpa using hl, _, q _, z.push _ (.tup (vs.map ab)) rfl ⟨_, _, rfl, by simp⟩⟩) fun _a _b x => x)
theorem wp_if {α : Type} {M : Model} {A : Around} {E : Value → Shared → Prop} {s : Shared} {c : Prop} {d : Decidable c} {a b : Sem α} {Q : α → Shared → Prop} (x : wpAny M A a Q E s) (y : wpAny M A b Q E s) : wpAny M A (@ite (Sem α) c d a b) Q E s := by
  by_cases h : c
  · rw [if_pos h]; exact x
  · rw [if_neg h]; exact y
theorem w_callWith {f : Value} {fv : AV} {es : List PySem.Expr} {first : List Value} {firstA : List AV} {pos p₂ : Pos} {Q : AV → Sto → Prop} (hf : ab f = fv) (hfirst : first.map ab = firstA)
    (h : AS G κ env es σ (fun vs σ₁ => KP G κ fv σ₁ ∧ CL G κ fv (firstA ++ vs) σ₁ Q X) X) (hstar : (backTo p₂ (starEach es env)).any (·.1) = false)
    : W G κ ab (callWith pos f first (backTo p₂ (starEach es env)) []) σ Q X := fun A ρ s hA hs => by
  unfold callWith
  refine wpAny_bind (wpAny_holding ?_)
  have ha : wpAny (model G.prog G.w) A (evalArgs f true (backTo p₂ (starEach es env)) []) (fun a s' => ∃ vs σ₁, a = ⟨vs, []⟩ ∧ (KP G κ fv σ₁ ∧ CL G κ fv (firstA ++ vs.map ab) σ₁ Q X) ∧ St G ρ σ₁ s') (Po G ρ ab X) s := by
    have key := h p₂ A ρ s hA hs
    generalize backTo p₂ (starEach es env) = l at hstar key
    cases l with
    | nil =>
      unfold evalArgs
      show wpAny _ _ (spliced [] >>= _) _ _ s
      refine wpAny_bind (wpAny_mono key (fun vs s₁ => pe fun σ₁ q z => ?_) fun _a _b x => x)
      refine wpAny_bind (wpAny_pure (wpAny_holding ?_))
      exact wpAny_bind (wpAny_pure (wpAny_bind (wpAny_pure (wpAny_pure ⟨vs, σ₁, rfl, q, z⟩))))
    | cons p l =>
      obtain ⟨b, x⟩ := p
      obtain rfl : b = false := by simp at hstar; exact hstar.1
      exact evalArgs_plain (wpAny_mono key (fun vs s₁ => pe fun σ₁ q z => ⟨vs, σ₁, rfl, q, z⟩) fun _a _b x => x)
  refine wpAny_mono ha (fun a s₁ ⟨vs, σ₁, e, ⟨hk, hc⟩, z⟩ => ?_) fun _a _b x => x
  subst e
  refine wpAny_bind (wpAny_standAt ?_)
  have hcall : wpAny (model G.prog G.w) A (call f (first ++ vs) []) (Po G ρ ab Q) (Po G ρ ab X) s₁ :=
    hc f (first ++ vs) hf (by rw [List.map_append, hfirst]) A ρ s₁ hA z
  dsimp only
  refine wpAny_bind (wpAny_mono (hk f hf X A ρ s₁ hA z) (fun k s₂ => pe fun σ₂ q z₂ => ?_) fun _a _b x => x)
  subst q
  have hcall : ∀ {s₁}, St G ρ σ₂ s₁ → wpAny (model G.prog G.w) A (call f (first ++ vs) []) (Po G ρ ab Q) (Po G ρ ab X) s₁ :=
    fun z => hc f (first ++ vs) hf (by rw [List.map_append, hfirst]) A ρ _ hA z
  have fin : ∀ {t : Sem Value}, wpAny (model G.prog G.w) A t (Po G ρ ab Q) (Po G ρ ab X) s₂ →
      wpAny (model G.prog G.w) A (t >>= fun r => holding [r] point >>= fun _a => pure r) (Po G ρ ab Q) (Po G ρ ab X) s₂ := fun ht =>
    wpAny_bind (wpAny_mono ht (fun r s' x => wpAny_bind (wpAny_holding (wpAny_point (wpAny_pure x)))) fun _a _b x => x)
  rw [hstar]
  cases k with
  | frame => exact wp_if (fin (hcall z₂)) (fin (wpAny_keep (hcall z₂)))
  | boundFrame => exact wp_if (fin (hcall z₂)) (fin (wpAny_keep (hcall z₂)))
  | machine => exact fin (hcall z₂)
  | caller => exact fin (wpAny_operating (hcall z₂))
end
end A1Text
set_option genInjectivity false
set_option genSizeOf false
section A2Text
/-- what stands at the top, and stays -/
structure Tp (G : Gd) where
  mg : PySem.Str → Option Value
  mb : PySem.Str → Option Value
  g : G.h₀.Ns mainGlobals mg
  b : G.h₀.Ns builtinsNs mb
  gcls : ∃ o, G.h₀.get? mainGlobals = some o ∧ o.cls ≠ .none
  bcls : ∃ o, G.h₀.get? builtinsNs = some o ∧ o.cls ≠ .none
  nolimit : ∀ h, OldK G.h₀ h → h.NoLimit
  sysm : sysModules < G.h₀.objs.size
theorem ns_old {h₀ h : Heap} (K : OldK h₀ h) {a : Addr} {m : PySem.Str → Option Value} (x : h₀.Ns a m) (hc : ∃ o, h₀.get? a = some o ∧ o.cls ≠ .none) : h.Ns a m := by
  obtain ⟨o, es, ep, e, r⟩ := x
  obtain ⟨o', e', hc⟩ := hc
  rw [e] at e'
  cases e'
  exact ⟨o, es, ep, K.get_of_cls e hc, r⟩
section
variable {G : Gd} {κ : Kx} {env : Env} {σ σ' : Sto} {X : XP}
-- names
theorem ln_local {x : PySem.Str} {m : List (PySem.Str × Option AV)} {v : AV} {Q : AV → Sto → Prop} (hk : env.scope.kind = .function) (hl : env.kindOf x = some .local)
    (hm : (env.locals, .ns m) ∈ σ) (hx : (x, some v) ∈ m) (h : Q v σ) : LN G κ env x σ Q X := fun A ρ s hA hs => by
  obtain ⟨ob, e, nd, es, ep, hd, hsk, hv⟩ := hs.at hm
  have hvx := hv _ hx
  cases hf : nsFind es x with
  | none => rw [hf] at hvx; cases hvx
  | some u =>
    rw [hf] at hvx
    refine wpAny_loadName_local (m := nsFind es) hk hl ⟨ob, es, ep, e, hd, hsk, fun _a => rfl⟩ hf ?_
    cases hvx
    exact ⟨σ, h, hs⟩
theorem ln_cell {x : PySem.Str} {c : Addr} {v : AV} {Q : AV → Sto → Prop} (hk : env.scope.kind = .function) (hl : env.kindOf x = some .cell) (hc : env.cells.lookup x = some c)
    (hm : (c, .cell (some v)) ∈ σ) (h : Q v σ) : LN G κ env x σ Q X := fun A ρ s hA hs => by
  obtain ⟨ob, e, v', hd, hv⟩ := hs.at hm
  cases v' with
  | none => cases hv
  | some u =>
    refine wpAny_loadName_cell hk hl hc ⟨ob, e, hd⟩ ?_
    cases hv
    exact ⟨σ, h, hs⟩
theorem ln_free {x : PySem.Str} {c : Addr} {v : AV} {Q : AV → Sto → Prop} (hk : env.scope.kind = .function) (hl : env.kindOf x = some .free) (hc : env.cells.lookup x = some c)
    (hm : (c, .cell (some v)) ∈ σ) (h : Q v σ) (hn : (x == ("__classdict__" : PySem.Str)) = false) : LN G κ env x σ Q X := fun A ρ s hA hs => by
  obtain ⟨ob, e, v', hd, hv⟩ := hs.at hm
  cases v' with
  | none => cases hv
  | some u =>
    refine wpAny_loadName_free hk hl hc ⟨ob, e, hd⟩ ?_ hn
    cases hv
    exact ⟨σ, h, hs⟩
theorem loadName_glob {M : Model} {A : Around} {E : Value → Shared → Prop} {s : Shared} {x : PySem.Str} {Q : Value → Shared → Prop} (hk : env.scope.kind = .function) (hl : env.kindOf x = some .globalImplicit)
    (h : wpAny M A (loadGlobal env x) Q E s) : wpAny M A (loadName env x) Q E s := by
  rw [PyProof.Rows.loadName_read hk hl]
  exact h
theorem ln_global (T : Tp G) {x : PySem.Str} {u : Value} {v : AV} {Q : AV → Sto → Prop} (hk : env.scope.kind = .function) (hl : env.kindOf x = some .globalImplicit) (hg : env.globals = mainGlobals)
    (hx : T.mg x = some u) (hu : ab u = v) (h : Q v σ) : LN G κ env x σ Q X := fun A ρ s hA hs => by
  refine loadName_glob hk hl (loadGlobal_global (by rw [hg]; exact ns_old hs.old T.g T.gcls) hx ?_)
  exact ⟨σ, hu ▸ h, hs⟩
theorem ln_builtin (T : Tp G) {x : PySem.Str} {u : Value} {v : AV} {Q : AV → Sto → Prop} (hk : env.scope.kind = .function) (hl : env.kindOf x = some .globalImplicit) (hg : env.globals = mainGlobals) (hb : env.builtins = builtinsNs)
    (hx : T.mg x = none) (hu : T.mb x = some u) (hv : ab u = v) (h : Q v σ) : LN G κ env x σ Q X := fun A ρ s hA hs => by
  refine loadName_glob hk hl (loadGlobal_builtin (by rw [hg]; exact ns_old hs.old T.g T.gcls) hx (by rw [hb]; exact ns_old hs.old T.b T.bcls) hu ?_)
  exact ⟨σ, hv ▸ h, hs⟩
-- stores
inductive Upm (x : PySem.Str) (v : AV) : List (PySem.Str × Option AV) → List (PySem.Str × Option AV) → Prop
  | here {o : Option AV} {r : List (PySem.Str × Option AV)} : Upm x v ((x, o) :: r) ((x, some v) :: r)
  | there {p : PySem.Str × Option AV} {r r' : List (PySem.Str × Option AV)} : Upm x v r r' → Upm x v (p :: r) (p :: r')
theorem Upm.keys {x : PySem.Str} {v : AV} : ∀ {m m' : List (PySem.Str × Option AV)}, Upm x v m m' → m'.map (·.1) = m.map (·.1) := by
  intro m m' h
  induction h with
  | here => rfl
  | @there p _ _ _ ih => exact congrArg (p.1 :: ·) ih
theorem Upm.old {x : PySem.Str} {v : AV} : ∀ {m m' : List (PySem.Str × Option AV)}, Upm x v m m' → x ∈ m.map (·.1) := by
  intro m m' h
  induction h with
  | here => exact .head _
  | there _ ih => exact .tail _ ih
theorem Upm.mem {x : PySem.Str} {v : AV} : ∀ {m m' : List (PySem.Str × Option AV)}, Upm x v m m' → (m.map (·.1)).Nodup → ∀ p ∈ m', p = (x, some v) ∨ (p ∈ m ∧ p.1 ≠ x) := by
  intro m m' h
  induction h with
  | here =>
    intro hn p hp
    rcases List.mem_cons.mp hp with e | hp
    · exact .inl e
    · exact .inr ⟨.tail _ hp, fun e => (List.nodup_cons.mp hn).1 (e ▸ List.mem_map.mpr ⟨p, hp, rfl⟩)⟩
  | @there q r r' h ih =>
    intro hn p hp
    have hn := List.nodup_cons.mp hn
    rcases List.mem_cons.mp hp with e | hp
    · exact .inr ⟨e ▸ .head _, fun e' => hn.1 (show q.1 ∈ r.map (·.1) from ((congrArg (·.1) e).symm.trans e') ▸ h.old)⟩
    · rcases ih hn.2 p hp with x | ⟨x, y⟩
      · exact .inl x
      · exact .inr ⟨.tail _ x, y⟩
theorem sn_local {x : PySem.Str} {m m' : List (PySem.Str × Option AV)} {v : AV} {Q : Sto → Prop} (hk : env.scope.kind = .function) (hl : env.kindOf x = some .local)
    (hm : Upm x v m m') (u : Up env.locals (.ns m) (.ns m') σ σ') (h : Q σ') : SN G κ env x v σ Q X := fun y hy A ρ s hA hs => by
  obtain ⟨ob, e, nd, es, ep, hd, hsk, hv⟩ := hs.at u.mem
  refine wpAny_storeName_local (m := nsFind es) hl ⟨ob, es, ep, e, hd, hsk, fun _a => rfl⟩ (fun h' hn hsb => ?_) (by rw [hk]; rfl)
  obtain ⟨ob', es', ep', e', hd', hsk', hf'⟩ := hn
  refine ⟨σ', h, (hs.turn u hsb e' ⟨by rw [hm.keys]; exact nd, es', ep', hd', hsk', fun p hp => ?_⟩).toks _⟩
  rw [hf']
  dsimp only
  rcases hm.mem nd p hp with rfl | ⟨hp, hne⟩
  · rw [if_pos rfl, ← hy]; rfl
  · rw [if_neg hne]; exact hv p hp
theorem sn_cell {x : PySem.Str} {c : Addr} {o : Option AV} {v : AV} {Q : Sto → Prop} (hk : env.scope.kind = .function) (hl : env.kindOf x = some .cell) (hc : env.cells.lookup x = some c)
    (u : Up c (.cell o) (.cell (some v)) σ σ') (h : Q σ') : SN G κ env x v σ Q X := fun y hy A ρ s hA hs => by
  obtain ⟨ob, e, v', hd, hv⟩ := hs.at u.mem
  refine wpAny_storeName_cell hk hl hc ⟨ob, e, hd⟩ (fun h' hn hsb => ?_)
  obtain ⟨ob', e', hd'⟩ := hn
  exact ⟨σ', h, hs.turn u hsb e' ⟨_, hd', by rw [← hy]; rfl⟩⟩
theorem asg_name {x : PySem.Str} {pos : Pos} {a : AV} {Q : Sto → Prop} (h : SN G κ env x a σ Q X) : ASG G κ env (.Name x pos) a σ Q X := fun y hy A ρ s hA hs =>
  PyProof.Rows.assign_Name (h y hy A ρ s hA hs)
-- statements
noncomputable abbrev KNx (Q : AF → Sto → Prop) : Sto → Prop := fun σ => Q .next σ
noncomputable abbrev KSn (G : Gd) (κ : Kx) (env : Env) (x : PySem.Str) (Q : Sto → Prop) (X : XP) : AV → Sto → Prop := fun a σ => SN G κ env x a σ Q X
noncomputable abbrev KAg (G : Gd) (κ : Kx) (env : Env) (t : PySem.Expr) (Q : Sto → Prop) (X : XP) : AV → Sto → Prop := fun a σ => ASG G κ env t a σ Q X
noncomputable abbrev KIfS (G : Gd) (κ : Kx) (env : Env) (b o : List Stmt) (Q : AF → Sto → Prop) (X : XP) : Bool → Sto → Prop := fun c σ => if c then EXS G κ env b σ Q X else EXS G κ env o σ Q X
noncomputable abbrev KRet (Q : AF → Sto → Prop) : AV → Sto → Prop := fun a σ => Q (.ret a) σ
noncomputable abbrev SeqK (G : Gd) (κ : Kx) (env : Env) (rest : List Stmt) (Q : AF → Sto → Prop) (X : XP) : AF → Sto → Prop := fun f σ => match f with | .next => EXS G κ env rest σ Q X | f => Q f σ
noncomputable abbrev LoopK (N : Sto → Prop) (Q : AF → Sto → Prop) : AF → Sto → Prop := fun f σ => match f with
  | .next => N σ
  | .cont => N σ
  | .brk => Q .next σ
  | .ret v => Q (.ret v) σ
theorem exs_nil {Q : AF → Sto → Prop} (h : Q .next σ) : EXS G κ env [] σ Q X := fun _a _b _c _d hs => wpAny_execs_nil ⟨σ, h, hs⟩
theorem exs_cons {st : Stmt} {rest : List Stmt} {Q : AF → Sto → Prop} (h : EX G κ env st σ (SeqK G κ env rest Q X) X) : EXS G κ env (st :: rest) σ Q X := fun A ρ s hA hs =>
  wpAny_execs_cons (wpAny_mono (h A ρ s hA hs) (fun f _a => pe fun σ₁ q z => by
    cases f with
    | next => exact q A ρ _ hA z
    | brk => exact ⟨σ₁, q, z⟩
    | cont => exact ⟨σ₁, q, z⟩
    | ret v => exact ⟨σ₁, q, z⟩) fun _a _b x => x)
theorem ex_expr {e : PySem.Expr} {pos : Pos} {Q : AF → Sto → Prop} (h : EV G κ env e σ (fun a σ₁ => a = .none ∧ Q .next σ₁) X) (hi : interactive env = false) (hs : swapsWith e none pos.line env = pure false) : EX G κ env (.Expr e pos) σ Q X := fun A ρ s hA z =>
  wpAny_Expr (wpAny_mono (h A ρ s hA z) (fun v _a => pe fun σ₁ hh z => by obtain ⟨e, q⟩ := hh; rw [ab_none e]; exact ⟨σ₁, q, z⟩) fun _a _b x => x) hi hs
theorem ex_assign_name {x : PySem.Str} {p pos : Pos} {value : PySem.Expr} {Q : AF → Sto → Prop} (h : EV G κ env value σ (KSn G κ env x (KNx Q) X) X)
    (hs : swapsWith value (some (.Name x p)) pos.line env = pure false) : EX G κ env (.Assign [.Name x p] value pos) σ Q X := fun A ρ s hA z =>
  wpAny_Assign_Name (wpAny_mono (h A ρ s hA z) (fun v _a => pe fun _a q z => wpAny_mono (q v rfl A ρ _ hA z) (fun _a _b => pe fun σ₂ q z => ⟨σ₂, q, z⟩) fun _a _b x => x) fun _a _b x => x) hs
theorem ex_assign_tuple {es : List PySem.Expr} {k : Nat} {p pos : Pos} {value : PySem.Expr} {Q : AF → Sto → Prop} (h : EV G κ env value σ (KAg G κ env (.Tuple es k p) (KNx Q) X) X)
    (hs : swapsWithSole [.Tuple es k p] value pos.line env = pure false) (hw : swappedStores [.Tuple es k p] value env = pure none) : EX G κ env (.Assign [.Tuple es k p] value pos) σ Q X := fun A ρ s hA z =>
  Assign_Tuple (wpAny_mono (h A ρ s hA z) (fun v _a => pe fun _a q z => wpAny_mono (q v rfl A ρ _ hA z) (fun _a _b => pe fun σ₂ q z => ⟨σ₂, q, z⟩) fun _a _b x => x) fun _a _b x => x) hs hw
theorem ex_assign_sub {o i value : PySem.Expr} {p pos : Pos} {Q : AF → Sto → Prop} (h : EV G κ env value σ (fun a σ₁ => EV G κ env o σ₁ (fun b σ₂ => EV G κ env i σ₂ (fun c σ₃ =>
      ∀ x y z, ab x = b → ab y = c → ab z = a → W G κ id (setItem x y z) σ₃ (fun _a σ₄ => Q .next σ₄) X) X) X) X) (hs : swapsWith value (some (.Subscript o i p)) pos.line env = pure false) : EX G κ env (.Assign [.Subscript o i p] value pos) σ Q X := fun A ρ s hA z =>
  wpAny_Assign_Subscript (wpAny_mono (h A ρ s hA z) (fun v _a => pe fun _a q z => wpAny_mono (q A ρ _ hA z) (fun ov _a => pe fun _a q z => wpAny_mono (q A ρ _ hA z) (fun iv _a => pe fun _a q z =>
    wpAny_mono (q ov iv v rfl rfl rfl A ρ _ hA z) (fun _a _b => pe fun σ₄ q z => ⟨σ₄, q, z⟩) fun _a _b x => x) fun _a _b x => x) fun _a _b x => x) fun _a _b x => x) hs
theorem ex_aug_name {x : PySem.Str} {p pos : Pos} {op : Operator} {value : PySem.Expr} {Q : AF → Sto → Prop} (h : LN G κ env x σ (fun a σ₁ => EV G κ env value σ₁ (KB2 G κ (inplaceOp op) a (KSn G κ env x (KNx Q) X) X) X) X) :
    EX G κ env (.AugAssign (.Name x p) op value pos) σ Q X := fun A ρ s hA z =>
  wpAny_AugAssign_Name (wpAny_mono (h A ρ s hA z) (fun a _a => pe fun _a q z => wpAny_mono (q A ρ _ hA z) (fun b _a => pe fun _a q z => wpAny_mono (q a b rfl rfl A ρ _ hA z) (fun c _a => pe fun _a q z =>
    wpAny_mono (q c rfl A ρ _ hA z) (fun _a _b => pe fun σ₄ q z => ⟨σ₄, q, z⟩) fun _a _b x => x) fun _a _b x => x) fun _a _b x => x) fun _a _b x => x)
theorem ex_if {t : PySem.Expr} {b o : List Stmt} {pos : Pos} {Q : AF → Sto → Prop} (h : TS G κ env t σ (KIfS G κ env b o Q X) X) : EX G κ env (.If t b o pos) σ Q X := fun A ρ s hA z =>
  wpAny_If (wpAny_mono (h A ρ s hA z) (fun c _a => pe fun _a q z => by cases c <;> exact q A ρ _ hA z) fun _a _b x => x)
theorem ex_return {e : PySem.Expr} {pos : Pos} {Q : AF → Sto → Prop} (h : EV G κ env e σ (KRet Q) X) : EX G κ env (.Return (some e) pos) σ Q X := fun A ρ s hA z =>
  wpAny_Return_some (wpAny_mono (h A ρ s hA z) (fun v _a => pe fun σ₁ q z => ⟨σ₁, q, z⟩) fun _a _b x => x)
theorem ex_break {pos : Pos} {Q : AF → Sto → Prop} (h : Q .brk σ) : EX G κ env (.Break pos) σ Q X := fun _a _b _c _d z => wpAny_Break (env := env) ⟨σ, h, z⟩
theorem ex_assert {t : PySem.Expr} {msg : Option PySem.Expr} {pos : Pos} {Q : AF → Sto → Prop} (h : TS G κ env t σ (fun c σ₁ => c = true ∧ Q .next σ₁) X) : EX G κ env (.Assert t msg pos) σ Q X := fun A ρ s hA z => by
  refine wpAny_Assert_holds (wpAny_mono (h A ρ s hA z) (fun c _ ⟨σ₁, ⟨e, q⟩, z⟩ => ⟨e, σ₁, q, z⟩) fun _a _b x => x)
/-- exceptions pass a code's border as they are -/
structure XOk (G : Gd) (κ : Kx) (env : Env) (X : XP) : Prop where
  note : ∀ A ρ s σ e, Room κ A → X (ab e) σ → St G ρ σ s → wpAny (model G.prog G.w) A (noteFrame e env) (fun _a s' => Po G ρ ab X e s') (Po G ρ ab X) s
  back : ∀ A ρ s σ e, Room κ A → X (ab e) σ → St G ρ σ s → cameBackBy (model G.prog G.w) A env (Po G ρ ab X) e s
theorem XOk.no : XOk G κ env NoX := ⟨fun _a _b _c _d _e _f h => h.elim, fun _a _b _c _d _e _f h => h.elim⟩
-- while
noncomputable def WH (G : Gd) (κ : Kx) (env : Env) (test : PySem.Expr) (body orelse : List Stmt) (σ : Sto) (Q : AF → Sto → Prop) (X : XP) : Prop := CW G κ abF (.whileLoop test body orelse env) σ Q X
theorem ex_while {test : PySem.Expr} {body orelse : List Stmt} {pos : Pos} {Q : AF → Sto → Prop} (ok : XOk G κ env X) (h : WH G κ env test body orelse σ Q X) : EX G κ env (.While test body orelse pos) σ Q X := fun A ρ s hA z =>
  wpAny_While (codeAny_mono (h A ρ s hA z) fun r s' hr => by
    cases r with
    | ok f => exact hr
    | error e => obtain ⟨σ₁, q, z⟩ := hr; exact ok.back A ρ _ σ₁ e hA q z)
theorem under_while {A : Around} {test : PySem.Expr} {body orelse : List Stmt} {env : Env} : A.under (.whileLoop test body orelse env) = A := Around.under_of_weight rfl
theorem wh_turn {test : PySem.Expr} {body orelse : List Stmt} {Q : AF → Sto → Prop} (ok : XOk G κ env X)
    (h : TS G κ env test σ (fun b σ₁ => if b then EXS G κ env body σ₁ (fun f σ₂ => match f with
        | .next => WH G κ env test body orelse σ₂ Q X
        | .cont => WH G κ env test body orelse σ₂ Q X
        | .brk => Q .next σ₂
        | .ret v => Q (.ret v) σ₂) X
      else EXS G κ env orelse σ₁ Q X) X) : WH G κ env test body orelse σ Q X := fun A ρ s hA z => by
  refine codeAny_of_tree ?_
  rw [under_while]
  show wpAny _ A ((whileTurn test body orelse env).onRaise (fun x => do noteFrame x env; theTreesLotGoes x)) _ _ s
  refine wpAny_noted ?_
  have nt : ∀ e s', (Po G ρ ab X e s') → notedBy (model G.prog G.w) A env (Po G ρ ab X) e s' := fun e s' => pe fun σ' q z => ok.note A ρ s' σ' e hA q z
  simp only [whileTurn]
  refine wpAny_bind (wpAny_mono (h A ρ s hA z) (fun b s₂ h₂ => ?_) nt)
  obtain ⟨σ₁, q, z₁⟩ := h₂
  cases b with
  | false =>
    simp only [id, Bool.false_eq_true, if_false] at q ⊢
    exact wpAny_bind (wpAny_mono (q A ρ _ hA z₁) (fun f s₃ h₃ => wpAny_pure h₃) nt)
  | true =>
    simp only [id, if_true] at q ⊢
    refine wpAny_bind (wpAny_mono (q A ρ _ hA z₁) (fun f s₃ h₃ => ?_) nt)
    obtain ⟨σ₂, q, z₂⟩ := h₃
    cases f with
    | next => exact wpAny_pure ⟨rfl, q A ρ _ hA z₂⟩
    | cont => exact wpAny_pure ⟨rfl, q A ρ _ hA z₂⟩
    | brk => exact wpAny_pure ⟨σ₂, q, z₂⟩
    | ret v => exact wpAny_pure ⟨σ₂, q, z₂⟩
-- what a loop goes over
inductive Sr where
  | lst (l : Addr)
  | rng (a c : Int)
noncomputable def rngL (a c : Int) (n : Nat) : List AV := (List.range n).map fun (i : Nat) => .int (a + (i : Int) * c)
noncomputable def SrOk : Sr → List AV → Sto → Prop
  | .lst l, xs, σ => (l, .list xs) ∈ σ
  | .rng a c, xs, _ => xs = rngL a c xs.length
noncomputable def IsSr (v : AV) : Sr → List AV → Sto → Prop
  | .lst l, xs, σ => v = .ref l ∧ (l, .list xs) ∈ σ
  | .rng a c, xs, σ => ∃ r n, v = .ref r ∧ (r, .rng a c n) ∈ σ ∧ xs = rngL a c n
noncomputable def ItO (I : Addr) (h : Heap) : Sr → Nat → Nat → Prop
  | .lst l, _, i => h.IsListIter I l i
  | .rng a c, n, i => PySem.IsRangeIter h I (a + (i : Int) * c) ((n : Int) - (i : Int)) c
theorem ItO.obj {I : Addr} {h : Heap} : ∀ {sr : Sr} {n i : Nat}, ItO I h sr n i → ∃ o, h.get? I = some o
  | .lst _, _, _, ⟨o, e, _⟩ => ⟨o, e⟩
  | .rng _ _, _, _, e => ⟨_, e⟩
theorem ItO.keeps {I : Addr} {h h' : Heap} (e : h'.get? I = h.get? I) : ∀ {sr : Sr} {n i : Nat}, ItO I h sr n i → ItO I h' sr n i
  | .lst _, _, _, ⟨o, x, r⟩ => ⟨o, e.trans x, r⟩
  | .rng _ _, _, _, x => e.trans x
theorem letOwned_wp {M : Model} {target : PySem.Expr} {v : Value} {I : Addr} {sr : Sr} {n i : Nat} {A : Around} {s : Shared} {Q : Unit → Shared → Prop} {E : Value → Shared → Prop} (hi : ItO I s.heap sr n i) (h : Q () s) :
    wpAny M A (letOwnedTupleGo target (.ref I) v) Q E s := by
  have hc : ∃ o, s.heap.get? I = some o ∧ (o.cls = .type "list_iterator" ∨ o.cls = .type "range_iterator") := by
    cases sr with
    | lst l => obtain ⟨o, e, c, _⟩ := hi; exact ⟨o, e, .inl c⟩
    | rng a c => exact ⟨_, hi, .inr rfl⟩
  obtain ⟨o, e, hc⟩ := hc
  have key : ∀ a, wpAny M A (do
      let o ← load I
      match o.cls, o.data with
      | .type n, .fields vs =>
        if ["enumerate", "zip", "dict_itemiterator", "dict_reverseitemiterator", "odict_iterator", "itertools.zip_longest", "itertools.pairwise"].contains n && vs[0]? == some (rawInt a) then
          rule "for.unpacks-the-owned-tuple"
          updateField I 0 .none
      | _, _ => pure ()) Q E s := fun a => by
    refine wpAny_bind (wpAny_load e ?_)
    rcases hc with hc | hc <;> rw [hc] <;> cases o.data <;> first | exact wpAny_pure h | (dsimp only; rw [if_neg (by rw [show (["enumerate", "zip", "dict_itemiterator", "dict_reverseitemiterator", "odict_iterator", "itertools.zip_longest", "itertools.pairwise"].contains "list_iterator") = false from by decide]; simp)]; exact wpAny_pure h) | (dsimp only; rw [if_neg (by rw [show (["enumerate", "zip", "dict_itemiterator", "dict_reverseitemiterator", "odict_iterator", "itertools.zip_longest", "itertools.pairwise"].contains "range_iterator") = false from by decide]; simp)]; exact wpAny_pure h)
  unfold letOwnedTupleGo
  cases target <;> first | exact wpAny_pure h | (cases v <;> first | exact wpAny_pure h | exact key _)
theorem rngL_get {a c : Int} {n i : Nat} (h : i < n) : (rngL a c n)[i]? = some (.int (a + (i : Int) * c)) := by
  unfold rngL; simp [h]
theorem rngL_len {a c : Int} {n : Nat} : (rngL a c n).length = n := by unfold rngL; simp
/-- the next item -/
theorem next_item {sr : Sr} {xs : List AV} {i : Nat} {x : AV} {I : Addr} {o : Obj} {A : Around} {ρ : Frm} {s : Shared} {Q : Option Value → Shared → Prop} {E : Value → Shared → Prop}
    (z : St G ((I, o) :: ρ) σ s) (hi : ItO I s.heap sr xs.length i) (hs : SrOk sr xs σ) (hx : xs[i]? = some x)
    (h : ∀ v o' s', ab v = x → ItO I s'.heap sr xs.length (i + 1) → St G ((I, o') :: ρ) σ s' → Q (some v) s') : wpAny (model G.prog G.w) A (pyNext (.ref I)) Q E s := by
  have hlt : i < xs.length := by
    rcases Nat.lt_or_ge i xs.length with h | h
    · exact h
    · rw [List.getElem?_eq_none h] at hx; cases hx
  cases sr with
  | lst l =>
    obtain ⟨ys, n, e, hm⟩ := z.list hs
    have hx' : (ys.toList.map ab)[i]? = some x := by rw [hm]; exact hx
    rw [List.getElem?_map] at hx'
    cases hy : ys.toList[i]? with
    | none => rw [hy] at hx'; cases hx'
    | some y =>
      rw [hy] at hx'
      refine wpAny_pyNext_list_item hi e.isList (x := y) (by simpa using hy) fun h' hit' hs' => ?_
      obtain ⟨o', e'⟩ := ItO.obj (sr := .lst l) (n := xs.length) hit'
      exact h y o' _ (by simpa using hx') hit' (z.turnF hs'.extBut e')
  | rng a c =>
    have hs : xs = rngL a c xs.length := hs
    have hi : PySem.IsRangeIter s.heap I (a + (i : Int) * c) ((xs.length : Int) - (i : Int)) c := hi
    refine wpAny_pyNext_range_item hi (Int.sub_pos_of_lt (Int.ofNat_lt.mpr hlt)) fun h' hit' hs' => ?_
    rw [hs, rngL_get hlt] at hx
    have hx : AV.int (a + (i : Int) * c) = x := by simpa using hx
    have e1 : a + ((i + 1 : Nat) : Int) * c = a + (i : Int) * c + c := by push_cast; rw [Int.add_mul, Int.one_mul, Int.add_assoc]
    have e2 : (xs.length : Int) - ((i + 1 : Nat) : Int) = (xs.length : Int) - (i : Int) - 1 := (Int.sub_sub (xs.length : Int) (i : Int) 1).symm
    refine h _ _ _ hx ?_ ((z.turnF hs'.extBut hit').toks _)
    show PySem.IsRangeIter h' I _ _ _
    rw [e1, e2]; exact hit'
theorem next_end {sr : Sr} {xs : List AV} {I : Addr} {o : Obj} {A : Around} {ρ : Frm} {s : Shared} {Q : Option Value → Shared → Prop} {E : Value → Shared → Prop} (hh : A.handled = none)
    (z : St G ((I, o) :: ρ) σ s) (hi : ItO I s.heap sr xs.length xs.length) (hs : SrOk sr xs σ)
    (h : ∀ s', St G ρ σ s' → Q none s') : wpAny (model G.prog G.w) A (pyNext (.ref I)) Q E s := by
  cases sr with
  | lst l =>
    obtain ⟨ys, n, e, hm⟩ := z.list hs
    have hl : ys.size = xs.length := by rw [← hm]; simp
    refine wpAny_pyNext_list_end hh hi e.isList (by simp [hl]) fun h' he' => h _ (z.loseF he')
  | rng a c =>
    have hi : PySem.IsRangeIter s.heap I (a + (xs.length : Int) * c) ((xs.length : Int) - (xs.length : Int)) c := hi
    exact wpAny_pyNext_range_end hh hi (by walk_at "om") fun h' he' => h _ (z.loseF he')
theorem iter_of {sr : Sr} {xs : List AV} {v : Value} {A : Around} {ρ : Frm} {s : Shared} {Q : Value → Shared → Prop} {E : Value → Shared → Prop} (z : St G ρ σ s) (hs : IsSr (ab v) sr xs σ)
    (h : ∀ I o s', ItO I s'.heap sr xs.length 0 → SrOk sr xs σ → St G ((I, o) :: ρ) σ s' → Q (.ref I) s') : wpAny (model G.prog G.w) A (pyIter v) Q E s := by
  cases sr with
  | lst l =>
    obtain ⟨hv, hm⟩ := hs
    rw [ab_ref hv]
    obtain ⟨ys, n, e, _⟩ := z.list hm
    exact wpAny_pyIter_list e.isList (h _ _ _ ⟨_, Heap.get?_push_size _ rfl, rfl, rfl⟩ hm (z.pushF _ rfl))
  | rng a c =>
    obtain ⟨r, n, hv, hm, hx⟩ := hs
    rw [ab_ref hv]
    obtain ⟨ob, e, b, t, u, w, ho, hsm, hn⟩ := z.at hm
    subst ho
    refine wpAny_pyIter_range e hsm (h _ _ _ ?_ (by show xs = _; rw [hx, rngL_len]) (z.pushF _ rfl))
    show PySem.IsRangeIter _ _ _ _ _
    rw [hx, rngL_len]
    have : Builtin.Range.rangeSize a b c = (n : Int) - ((0 : Nat) : Int) := by rw [hn]; simp
    rw [← this]
    have h0 : a + ((0 : Nat) : Int) * c = a := by simp
    rw [h0]
    exact Heap.get?_push_size _ rfl
/-- a for over the items -/
noncomputable def FR (G : Gd) (κ : Kx) (env : Env) (target : PySem.Expr) (body : List Stmt) (sr : Sr) (xs : List AV) (Q : AF → Sto → Prop) (X : XP) : List AV → Sto → Prop
  | [], σ => SrOk sr xs σ ∧ Q .next σ
  | y :: ys, σ => SrOk sr xs σ ∧ ASG G κ env target y σ (fun σ₁ => EXS G κ env body σ₁ (LoopK (fun σ₂ => FR G κ env target body sr xs Q X ys σ₂) Q) X) X
theorem fr_code {target : PySem.Expr} {body : List Stmt} {sr : Sr} {xs : List AV} {Q : AF → Sto → Prop} (ok : XOk G κ env X) (hκ : hdv κ.hd = none) {I : Addr} :
    ∀ (ys : List AV) (σ : Sto), (∃ pre, xs = pre ++ ys) → FR G κ env target body sr xs Q X ys σ → ∀ A ρ s o, Room κ A → ItO I s.heap sr xs.length (xs.length - ys.length) → St G ((I, o) :: ρ) σ s →
      codeAny (model G.prog G.w) A (.forLoop target (.ref I) body [] env) (fun r s' => match r with
        | .ok fl => Po G ρ abF Q fl s'
        | .error e => Po G ρ ab X e s') s := by
    intro ys
    induction ys with
    | nil =>
      intro σ hp hF A ρ s o hA hi z
      have hh : A.handled = none := hA.hd.trans hκ
      have nt : ∀ {ρ'} , (∀ σ' s', St G ρ' σ' s' → St G ρ σ' s') → ∀ e s', (Po G ρ' ab X e s') → notedBy (model G.prog G.w) A env (Po G ρ ab X) e s' := fun hd e s' => pe fun σ' q z => ok.note A ρ s' σ' e hA q (hd _ _ z)
      refine codeAny_of_tree ?_
      rw [show A.under (.forLoop target (.ref I) body [] env) = A from Around.under_of_weight rfl]
      show wpAny _ _ ((forTurn target (.ref I) body [] env).onRaise (fun x => do noteFrame x env; theTreesLotGoes x)) _ _ s
      refine wpAny_noted ?_
      simp only [forTurn]
      refine wpAny_bind (wpAny_standAt (wpAny_bind (wpAny_onRaise ?_)))
      obtain ⟨hs, hQ⟩ := hF
      refine next_end hh z (by simpa using hi) hs fun s' z' => ?_
      refine wpAny_pure ⟨rfl, codeAny_block (wpAny_execs_nil ?_)⟩
      exact ⟨σ, hQ, z'⟩
    | cons y ys ih =>
      intro σ hp hF A ρ s o hA hi z
      have hh : A.handled = none := hA.hd.trans hκ
      have nt : ∀ {ρ'} , (∀ σ' s', St G ρ' σ' s' → St G ρ σ' s') → ∀ e s', (Po G ρ' ab X e s') → notedBy (model G.prog G.w) A env (Po G ρ ab X) e s' := fun hd e s' => pe fun σ' q z => ok.note A ρ s' σ' e hA q (hd _ _ z)
      refine codeAny_of_tree ?_
      rw [show A.under (.forLoop target (.ref I) body [] env) = A from Around.under_of_weight rfl]
      show wpAny _ _ ((forTurn target (.ref I) body [] env).onRaise (fun x => do noteFrame x env; theTreesLotGoes x)) _ _ s
      refine wpAny_noted ?_
      simp only [forTurn]
      refine wpAny_bind (wpAny_standAt (wpAny_bind (wpAny_onRaise ?_)))
      obtain ⟨hs, hF⟩ := hF
      obtain ⟨pre, hp⟩ := hp
      have hlen : xs.length - (y :: ys).length = pre.length := by rw [hp]; simp
      have hx : xs[xs.length - (y :: ys).length]? = some y := by rw [hlen, hp]; simp
      refine next_item z hi hs hx fun v o' s₁ hv hi₁ z₁ => ?_
      refine wpAny_bind (letOwned_wp hi₁ ?_)
      refine wpAny_bind (wpAny_mono (hF v hv A _ s₁ hA z₁) (fun _a s₂ => pe fun σ₂ q z₂ => ?_) (nt fun _a _b x => x.dropF))
      have hi₂ : ItO I s₂.heap sr xs.length (xs.length - ys.length) := by
        have e1 := z₁.fr _ (.head _)
        have e2 := z₂.fr _ (.head _)
        have := ItO.keeps (e2.trans e1.symm) hi₁
        have hn : xs.length - (y :: ys).length + 1 = xs.length - ys.length := by rw [hp, List.length_append, Nat.add_sub_cancel, List.length_cons, Nat.add_comm ys.length 1, ← Nat.add_assoc, Nat.add_sub_cancel]
        rwa [hn] at this
      refine wpAny_bind (wpAny_mono (q A _ s₂ hA z₂) (fun f s₃ => pe fun σ₃ q z₃ => ?_) (nt fun _a _b x => x.dropF))
      have hi₃ : ItO I s₃.heap sr xs.length (xs.length - ys.length) := ItO.keeps ((z₃.fr _ (.head _)).trans (z₂.fr _ (.head _)).symm) hi₂
      cases f with
      | next => exact wpAny_pure ⟨rfl, ih σ₃ ⟨pre ++ [y], by rw [hp]; simp⟩ q A ρ s₃ o' hA hi₃ z₃⟩
      | cont => exact wpAny_pure ⟨rfl, ih σ₃ ⟨pre ++ [y], by rw [hp]; simp⟩ q A ρ s₃ o' hA hi₃ z₃⟩
      | brk => exact wpAny_pure ⟨σ₃, q, z₃.dropF⟩
      | ret v => exact wpAny_pure ⟨σ₃, q, z₃.dropF⟩
inductive ForP (G : Gd) (κ : Kx) (env : Env) (target : PySem.Expr) (body : List Stmt) (Q : AF → Sto → Prop) (X : XP) (a : AV) (σ : Sto) : Prop
  | mk (sr : Sr) (xs : List AV) (hsr : IsSr a sr xs σ) (h : FR G κ env target body sr xs Q X xs σ)
theorem ex_for {target iter : PySem.Expr} {body : List Stmt} {pos : Pos} {Q : AF → Sto → Prop} (ok : XOk G κ env X) (hκ : hdv κ.hd = none)
    (h : EV G κ env iter σ (ForP G κ env target body Q X) X)
    (hs : ∀ x, foldedSetIterable iter env x = pure x) : EX G κ env (.For target iter body [] pos) σ Q X := fun A ρ s hA z =>
  wpAny_For (wpAny_mono (h A ρ s hA z) (fun a s₁ ⟨σ₁, ⟨sr, xs, hsr, hF⟩, z₁⟩ => iter_of z₁ hsr fun I o s' hi hsr z₂ =>
    codeAny_mono (fr_code ok hκ xs σ₁ ⟨[], rfl⟩ hF A ρ s' o hA (by simpa using hi) z₂) fun r s' hr => by
      cases r with
      | ok f => exact hr
      | error e => obtain ⟨σ₁, q, z⟩ := hr; exact ok.back A ρ _ σ₁ e hA q z) fun _a _b x => x) hs
end
end A2Text
section A3Text
inductive Rm (a : Addr) (o : AO) : Sto → Sto → Prop
  | here {r : Sto} : Rm a o ((a, o) :: r) r
  | there {p : Addr × AO} {r r' : Sto} : Rm a o r r' → Rm a o (p :: r) (p :: r')
theorem Rm.perm {a : Addr} {o : AO} : ∀ {l l' : Sto}, Rm a o l l' → l.Perm ((a, o) :: l') := by
  intro l l' h
  induction h with
  | here => exact .refl _
  | @there p _ _ _ ih => exact (ih.cons p).trans (.swap ..)
section
variable {G : Gd} {κ : Kx} {env : Env} {σ σ' : Sto} {X : XP}
theorem St.exact {ρ : Frm} {s : Shared} {a : Addr} {o : AO} (h : St G ρ ((a, o) :: σ) s) : ∃ ob, OR G ob o ∧ St G ((a, ob) :: ρ) σ s := by
  obtain ⟨ob, e, r⟩ := h.ob _ (.head _)
  refine ⟨ob, r, h.old, h.gens, h.os, fun p hp => ?_, fun p hp => h.ob p (.tail _ hp), fun x hx => h.own x ?_, ?_⟩
  · rcases List.mem_cons.mp hp with rfl | hp
    · exact e
    · exact h.fr p hp
  · simp only [List.map_cons, List.cons_append, List.mem_cons, List.mem_append] at hx ⊢
    rcases hx with x | x | x <;> simp [x]
  · have := h.nd
    rw [List.map_cons] at this
    simpa using (List.perm_middle (l₁ := ρ.map (·.1)) (a := a) (l₂ := σ.map (·.1))).nodup_iff.mp this
/-- and out of the frame again -/
theorem St.unexact {ρ : Frm} {s : Shared} {a : Addr} {o : AO} {ob : Obj} (h : St G ((a, ob) :: ρ) σ s) (hr : OR G ob o) : St G ρ ((a, o) :: σ) s := by
  refine ⟨h.old, h.gens, h.os, fun p hp => h.fr p (.tail _ hp), fun p hp => ?_, fun x hx => h.own x ?_, ?_⟩
  · rcases List.mem_cons.mp hp with rfl | hp
    · exact ⟨ob, h.fr _ (.head _), hr⟩
    · exact h.ob p hp
  · simp only [List.map_cons, List.cons_append, List.mem_cons, List.mem_append] at hx ⊢
    rcases hx with x | x | x <;> simp [x]
  · have := h.nd
    rw [List.map_cons]
    exact (List.perm_middle (l₁ := ρ.map (·.1)) (a := a) (l₂ := σ.map (·.1))).nodup_iff.mpr (by simpa using this)
theorem St.lose {ρ : Frm} {s : Shared} {a : Addr} {o : AO} {h' : Heap} (h : St G ρ σ s) (rm : Rm a o σ σ') (hs : Heap.ExtBut a s.heap h') : St G ρ σ' { s with heap := h' } := by
  obtain ⟨ob, _, z⟩ := (h.perm rm.perm).exact
  exact z.loseF hs
/-- a known part laid into the frame, and taken out -/
theorem St.frameOut {ρ : Frm} {s : Shared} : ∀ {σf : Sto}, St G ρ (σf ++ σ) s → ∃ fs : Frm, fs.map (·.1) = σf.map (·.1) ∧ (∀ ρ' σ' s', St G (fs ++ ρ') σ' s' → St G ρ' (σf ++ σ') s') ∧ St G (fs ++ ρ) σ s
  | [], h => ⟨[], rfl, fun _a _b _c z => z, h⟩
  | (a, o) :: σf, h => by
    obtain ⟨ob, hr, z⟩ := St.exact (by simpa using h)
    obtain ⟨fs, he, hb, z'⟩ := St.frameOut z
    refine ⟨(a, ob) :: fs, by simp [he], fun ρ' σ' s' y => ?_, ?_⟩
    · have y' : St G (fs ++ ((a, ob) :: ρ')) σ' s' := by
        refine ⟨y.old, y.gens, y.os, fun p hp => y.fr p ?_, y.ob, fun x hx => y.own x ?_, ?_⟩
        · simp only [List.mem_append, List.mem_cons, List.cons_append] at hp ⊢
          rcases hp with x | x | x <;> simp [x]
        · simp only [List.map_append, List.map_cons, List.mem_append, List.mem_cons, List.cons_append] at hx ⊢
          grind
        · have := y.nd
          simp only [List.cons_append, List.map_cons, List.map_append, List.append_assoc] at this ⊢
          exact (List.perm_middle (l₁ := fs.map (·.1)) (a := a) (l₂ := ρ'.map (·.1) ++ σ'.map (·.1))).nodup_iff.mpr this
      exact (hb _ _ _ y').unexact hr
    · refine ⟨z'.old, z'.gens, z'.os, fun p hp => z'.fr p ?_, z'.ob, fun x hx => z'.own x ?_, ?_⟩
      · simp only [List.mem_append, List.mem_cons, List.cons_append] at hp ⊢
        rcases hp with x | x | x <;> simp [x]
      · simp only [List.map_append, List.map_cons, List.mem_append, List.mem_cons, List.cons_append] at hx ⊢
        grind
      · have := z'.nd
        simp only [List.cons_append, List.map_cons, List.map_append, List.append_assoc] at this ⊢
        exact (List.perm_middle (l₁ := fs.map (·.1)) (a := a) (l₂ := ρ.map (·.1) ++ σ.map (·.1))).nodup_iff.mp this
/-- the frame rule -/
theorem W.frame {α β : Type} {f : α → β} {t : Sem α} {Q : β → Sto → Prop} {σf : Sto} (h : W G κ f t σ Q X) : W G κ f t (σf ++ σ) (fun b σ' => ∃ σ₁, σ' = σf ++ σ₁ ∧ Q b σ₁) (fun b σ' => ∃ σ₁, σ' = σf ++ σ₁ ∧ X b σ₁) := fun A ρ s hA z => by
  obtain ⟨fs, _, hb, z'⟩ := z.frameOut
  exact wpAny_mono (h A _ s hA z') (fun a s' => pe fun σ' q y => ⟨_, ⟨σ', rfl, q⟩, hb _ _ _ y⟩) fun a s' => pe fun σ' q y => ⟨_, ⟨σ', rfl, q⟩, hb _ _ _ y⟩
theorem W.perm {α β : Type} {f : α → β} {t : Sem α} {Q : β → Sto → Prop} (h : W G κ f t σ' Q X) (hp : σ.Perm σ') : W G κ f t σ Q X := fun A ρ s hA z => h A ρ s hA (z.perm hp)
-- environments
noncomputable def layC : Nat → List (PySem.Str × NameKind) → Sto → Sto
  | _, [], σ => σ
  | n, (_, k) :: r, σ => if k == .cell then layC (n + 1) r ((n, .cell none) :: σ) else layC n r σ
noncomputable def lay (names : List (PySem.Str × NameKind)) : List (PySem.Str × Option AV) := names.filterMap fun p => if p.2 == .local then some (p.1, none) else none
noncomputable def BN (G : Gd) (κ : Kx) (env : Env) : List (PySem.Str × AV) → Sto → (Sto → Prop) → XP → Prop
  | [], σ, Q, _ => Q σ
  | (x, a) :: r, σ, Q, X => SN G κ env x a σ (fun σ' => BN G κ env r σ' Q X) X
theorem St.cells {ρ : Frm} : ∀ (names : List (PySem.Str × NameKind)) (σ : Sto) (s : Shared), St G ρ σ s → St G ρ (layC s.heap.objs.size names σ) { s with heap := pushCells s.heap names }
  | [], _, _, z => z
  | (_, k) :: r, σ, s, z => by
    unfold layC pushCells
    split
    · have := St.cells r _ _ (z.push { cls := .type "cell", data := .cell none } (.cell none) rfl ⟨none, rfl, rfl⟩)
      rw [show ({ s with heap := s.heap.push { cls := .type "cell", data := .cell none } } : Shared).heap.objs.size = s.heap.objs.size + 1 from Heap.size_push ..] at this
      exact this
    · exact St.cells r σ s z
theorem bn_for {f : PySem.Str × Value → PUnit → Sem (ForInStep PUnit)} (hf : ∀ n v u, f (n, v) u = (do storeName env n v; pure (.yield ⟨⟩))) :
    ∀ (binds : List (PySem.Str × Value)) (σ : Sto) {Q : Sto → Prop}, BN G κ env (binds.map fun p => (p.1, ab p.2)) σ Q X → W G κ id (forIn binds ⟨⟩ f) σ (fun _a σ' => Q σ') X
  | [], σ, Q, h => fun A ρ s hA z => by rw [List.forIn_nil]; exact wpAny_pure ⟨σ, h, z⟩
  | (x, v) :: r, σ, Q, h => fun A ρ s hA z => by
    rw [List.forIn_cons, hf]
    exact wpAny_bind (wpAny_bind (wpAny_mono (h v rfl A ρ s hA z) (fun _a s' => pe fun σ' q z' => wpAny_pure (bn_for hf r σ' q A ρ s' hA z')) fun _a _b x => x))
theorem w_newEnv {scope : Scope} {globals : Addr} {closure : List (PySem.Str × Addr)} {binds : List (PySem.Str × Value)} {bs : List (PySem.Str × AV)} {qual : PySem.Str} {func : Option Addr} {code : Value} {around : Option Env} {builtins : Addr} {Q : Env → Sto → Prop}
    (hb : (binds.map fun p => (p.1, ab p.2)) = bs) (hnd : ((lay scope.names).map (·.1)).Nodup)
    (h : ∀ L, BN G κ (newEnv scope L globals (cellsFrom (L + 1) scope.names closure) qual func code around builtins) bs (layC (L + 1) scope.names ((L, .ns (lay scope.names)) :: σ))
      (fun σ' => Q (newEnv scope L globals (cellsFrom (L + 1) scope.names closure) qual func code around builtins) σ') X) :
    W G κ id (newFunctionEnv scope globals closure binds qual func code around builtins) σ Q X := fun A ρ s hA z => by
  subst hb
  have key : ∀ (cls : Value) (env : Env), env = newEnv scope s.heap.objs.size globals (cellsFrom (s.heap.objs.size + 1) scope.names closure) qual func code around builtins →
      ∀ (f : PySem.Str × NameKind → List (PySem.Str × Addr) → Sem (ForInStep (List (PySem.Str × Addr)))),
      (∀ name kind cells, f (name, kind) cells = if kind == .cell then (do let a ← alloc { cls := .type "cell", data := .cell none }; pure (.yield ((name, a) :: cells))) else pure (.yield cells)) →
      ∀ (k : List (PySem.Str × Addr) → Sem Env), (∀ s', St G ρ (layC (s.heap.objs.size + 1) scope.names ((s.heap.objs.size, .ns (lay scope.names)) :: σ)) s' → wpAny (model G.prog G.w) A (k (cellsFrom (s.heap.objs.size + 1) scope.names closure)) (Po G ρ id Q) (Po G ρ ab X) s') →
      wpAny (model G.prog G.w) A (forIn scope.names closure f >>= k) (Po G ρ id Q) (Po G ρ ab X) { s with heap := s.heap.push { cls, data := .dict #[] } } := by
    intro cls env he f hf k hk
    refine wpAny_bind (wpAny_layCells _ hf _ _ _ _ ?_)
    rw [show ({ s with heap := s.heap.push { cls, data := .dict #[] } } : Shared).heap.objs.size = s.heap.objs.size + 1 from Heap.size_push ..]
    refine hk _ ?_
    have z₁ : St G ρ ((s.heap.objs.size, .ns (lay scope.names)) :: σ) { s with heap := s.heap.push { cls, data := .dict #[] } } :=
      z.push _ _ rfl ⟨hnd, _, _, rfl, fun _a he => by simp at he, fun p hp => by
        have : p.2 = none := by
          obtain ⟨q, _, e⟩ := List.mem_filterMap.mp hp
          split at e
          · cases e; rfl
          · cases e
        rw [this]; rfl⟩
    have := z₁.cells scope.names _
    rw [show ({ s with heap := s.heap.push { cls, data := .dict #[] } } : Shared).heap.objs.size = s.heap.objs.size + 1 from Heap.size_push ..] at this
    exact this
  cases around with
  | none =>
    simp only [newFunctionEnv, Option.isSome_none, Bool.false_eq_true, if_false]
    refine wpAny_bind (wpAny_alloc ?_)
    refine key (.type "frame") _ rfl _ (fun name kind cells => by cases hkc : kind == NameKind.cell <;> simp [hkc]) _ fun s' z' => ?_
    refine wpAny_bind (wpAny_mono (bn_for (G := G) (κ := κ) (env := newEnv scope s.heap.objs.size globals (cellsFrom (s.heap.objs.size + 1) scope.names closure) qual func code none builtins) (fun _a _b _c => rfl) binds _ (h _) A ρ s' hA z') (fun _a s'' => pe fun σ'' q z'' => ?_) fun _a _b x => x)
    exact wpAny_pure ⟨σ'', q, z''⟩
  | some outer =>
    simp only [newFunctionEnv, Option.isSome_some, if_true]
    refine wpAny_bind (wpAny_alloc ?_)
    refine key (.type "dict") _ rfl _ (fun name kind cells => by cases hkc : kind == NameKind.cell <;> simp [hkc]) _ fun s' z' => ?_
    refine wpAny_bind (wpAny_mono (bn_for (G := G) (κ := κ) (env := newEnv scope s.heap.objs.size globals (cellsFrom (s.heap.objs.size + 1) scope.names closure) qual func code (some outer) builtins) (fun _a _b _c => rfl) binds _ (h _) A ρ s' hA z') (fun _a s'' => pe fun σ'' q z'' => ?_) fun _a _b x => x)
    exact wpAny_pure ⟨σ'', q, z''⟩
-- calls of the text's defs
structure FnAt (G : Gd) (a : Addr) (fd : FuncData) : Prop where
  ob : ∃ o, G.h₀.get? a = some o ∧ o.cls ≠ .none ∧ o.data = .func fd
  code : ∃ c oc vs t, fd.code = .ref c ∧ G.h₀.get? c = some oc ∧ oc.cls ≠ .none ∧ oc.data = .fields vs ∧ vs[1]? = some (.str fd.qualname t)
theorem FnAt.get {a : Addr} {fd : FuncData} (F : FnAt G a fd) {h : Heap} (K : OldK G.h₀ h) : ∃ o, h.get? a = some o ∧ o.data = .func fd := by
  obtain ⟨o, e, hc, hd⟩ := F.ob
  exact ⟨o, K.get_of_cls e hc, hd⟩
theorem FnAt.codeRec {a : Addr} {fd : FuncData} (F : FnAt G a fd) {h : Heap} (K : OldK G.h₀ h) : h.CodeRec fd.code fd.qualname := by
  obtain ⟨c, oc, vs, t, e, ho, hc, hd, hv⟩ := F.code
  exact ⟨c, oc, vs, t, e, K.get_of_cls ho hc, hd, hv⟩
theorem kp_fn {a : Addr} {fd : FuncData} (F : FnAt G a fd) : KP G κ (.ref a) σ := fun g hg X A ρ s hA z => by
  rw [ab_ref hg]
  obtain ⟨o, e, hd⟩ := F.get z.old
  unfold keeperOf
  refine wpAny_bind (wpAny_load e ?_)
  rw [hd]
  exact wpAny_pure ⟨σ, rfl, z⟩
theorem kp_bi {id : String} : KP G κ (.bi id) σ := fun g hg X A ρ s hA z => by
  rw [ab_bi hg]
  exact wpAny_pure ⟨σ, rfl, z⟩
theorem kp_ty {id : String} : KP G κ (.ty id) σ := fun g hg X A ρ s hA z => by
  rw [ab_ty hg]
  exact wpAny_pure ⟨σ, rfl, z⟩
noncomputable abbrev fenv (fd : FuncData) (L a : Addr) : Env := newEnv fd.scope L fd.globals (cellsFrom (L + 1) fd.scope.names []) (fd.qualname ++ ".<locals>.") (some a) fd.code none fd.builtins
theorem cl_fn (T : Tp G) {n : Nat} {hd : Option Hx} {a : Addr} {fd : FuncData} {body : List Stmt} {args : List AV} {names : List PySem.Str} {Q : AV → Sto → Prop} (F : FnAt G a fd) (hbody : fd.body = .stmts body) (hclo : fd.closure = [])
    (hco : fd.scope.isCoroutine = false) (hgen : fd.scope.isGenerator = false) (hnd : ((lay fd.scope.names).map (·.1)).Nodup)
    (hbind : ∀ vs, vs.map ab = args → bindArgs fd ⟨vs, []⟩ = pure (names.zip vs))
    (h : ∀ L, BN G ⟨n, hd⟩ (fenv fd L a) (names.zip args) (layC (L + 1) fd.scope.names ((L, .ns (lay fd.scope.names)) :: σ)) (fun σ' =>
      EXS G ⟨n, hdp (fenv fd L a) hd⟩ (fenv fd L a) body σ' (fun f σ'' => ∃ σ₀ : Sto, σ₀.Sublist σ'' ∧ Q (match f with | .ret v => v | _ => .none) σ₀) NoX) NoX) :
    CL G ⟨n + 1, hd⟩ (.ref a) args σ Q X := fun g vs hg hvs A ρ s hA z => by
  rw [ab_ref hg]
  refine wpAny_call ?_
  obtain ⟨o, e, hdat⟩ := F.get z.old
  refine codeAny_call_function (by have := hA.depth; simp only at this; walk_at "om") e hdat hco hgen hbody (F.codeRec z.old) ?_
  rw [hbind vs hvs, hclo]
  have hz : (names.zip vs).map (fun p => (p.1, ab p.2)) = names.zip args := by
    rw [← hvs, List.zip_map_right]
    rfl
  refine wpAny_pure (wpAny_mono (w_newEnv (G := G) (κ := ⟨n, hd⟩) (X := NoX) (Q := fun env σ' => ∃ L, env = fenv fd L a ∧
      EXS G ⟨n, hdp (fenv fd L a) hd⟩ (fenv fd L a) body σ' (fun f σ'' => ∃ σ₀ : Sto, σ₀.Sublist σ'' ∧ Q (match f with | .ret v => v | _ => .none) σ₀) NoX) hz hnd (fun L => ?_) _ ρ s hA.in1 z) (fun env s₂ ⟨σ₂, ⟨L, he, q⟩, z₂⟩ => ⟨T.nolimit _ z₂.old, ?_⟩) fun _a _b => pe fun _a q _b => q.elim)
  · have bmono : ∀ (bs : List (PySem.Str × AV)) (env : Env) (σ : Sto) (P P' : Sto → Prop), (∀ σ, P σ → P' σ) → BN G ⟨n, hd⟩ env bs σ P NoX → BN G ⟨n, hd⟩ env bs σ P' NoX := by
      intro bs
      induction bs with
      | nil => intro env σ P P' hp h; exact hp _ h
      | cons b r ih => intro env σ P P' hp h y hy; exact W.post (h y hy) fun _a σ' q => ih env σ' P P' hp q
    exact bmono _ _ _ _ _ (fun σ' q => ⟨L, rfl, q⟩) (h L)
  · subst he
    refine codeAny_func (wpAny_mono (q _ ρ s₂ (hA.deeper _) z₂) (fun f s₃ => pe fun σ₃ hh z₃ => ?_) fun _a _b => pe fun _a q _b => q.elim)
    obtain ⟨σ₀, hs, q⟩ := hh
    refine ⟨σ₀, ?_, z₃.sub hs⟩
    cases f <;> exact q
end
end A3Text
section A4Text
noncomputable def testsTree (ifs : List PySem.Expr) (env : Env) : Sem Bool := forIn ifs true fun c r => if r = true then do let ok ← isTrue c env (eval c env); pure (ForInStep.yield ok) else pure (ForInStep.yield r)
noncomputable def TSS (G : Gd) (κ : Kx) (env : Env) (ifs : List PySem.Expr) (σ : Sto) (Q : Bool → Sto → Prop) (X : XP) : Prop := W G κ id (testsTree ifs env) σ Q X
section
variable {G : Gd} {κ : Kx} {env : Env} {σ σ' : Sto} {X : XP}
theorem tss_nil {Q : Bool → Sto → Prop} (h : Q true σ) : TSS G κ env [] σ Q X := fun A ρ s hA z => wpAny_tests_nil ⟨σ, h, z⟩
theorem tss_one {c : PySem.Expr} {Q : Bool → Sto → Prop} (h : TS G κ env c σ Q X) : TSS G κ env [c] σ Q X := fun A ρ s hA z => wpAny_tests_one (h A ρ s hA z)
/-- one clause of a comprehension over the items; R: what is done where the tests hold -/
noncomputable def CR (G : Gd) (κ : Kx) (env : Env) (target : PySem.Expr) (ifs : List PySem.Expr) (R : Sto → (Sto → Prop) → Prop) (sr : Sr) (xs : List AV) (K : Sto → Prop) : List AV → Sto → Prop
  | [], σ => SrOk sr xs σ ∧ K σ
  | y :: ys, σ => SrOk sr xs σ ∧ ASG G κ env target y σ (fun σ₁ => TSS G κ env ifs σ₁ (fun b σ₂ => if b then R σ₂ (CR G κ env target ifs R sr xs K ys) else CR G κ env target ifs R sr xs K ys σ₂) NoX) NoX
/-- a turn of a comprehension's loop, at any depth -/
theorem cr_code {e : PySem.Expr} {depth : Nat} {acc : Value} {I : Addr} {p : Pos} {target : PySem.Expr} {ifs : List PySem.Expr} {rest : Sem Fin} {R : Sto → (Sto → Prop) → Prop} {sr : Sr} {xs : List AV} {K : Sto → Prop}
    (hturn : compTurn e depth (.ref I) acc env = (standAt p >>= fun _a => pyNext (.ref I) >>= fun r => match r with
      | none => pure (.done .next)
      | some v => letOwnedTupleGo target (.ref I) v >>= fun _a => assign target env v >>= fun _a => testsTree ifs env >>= fun ok =>
          if ok = true then rest else again (.compLoop e depth (.ref I) acc env)))
    (hu : ∀ A : Around, A.under (.compLoop e depth (.ref I) acc env) = A) (hf : (Code.compLoop e depth (.ref I) acc env).isFrame = false)
    (hκ : hdv κ.hd = none)
    (hR : ∀ (σ : Sto) (K : Sto → Prop), R σ K → W G κ id rest σ (fun fin σ' => fin = .again (.compLoop e depth (.ref I) acc env) ∧ K σ') NoX) :
    ∀ (ys : List AV) (σ : Sto), (∃ pre, xs = pre ++ ys) → CR G κ env target ifs R sr xs K ys σ → ∀ A ρ s o, Room κ A → ItO I s.heap sr xs.length (xs.length - ys.length) → St G ((I, o) :: ρ) σ s →
      codeAny (model G.prog G.w) A (.compLoop e depth (.ref I) acc env) (fun r s' => r = .ok .next ∧ ∃ σ', K σ' ∧ St G ρ σ' s') s := by
    intro ys
    induction ys with
    | nil =>
      intro σ hp hF A ρ s o hA hi z
      have hh : A.handled = none := hA.hd.trans hκ
      refine codeAny_of_tree ?_
      rw [hu]
      show wpAny _ _ (if (Code.compLoop e depth (.ref I) acc env).isFrame then (compTurn e depth (.ref I) acc env).onRaise (leaving env) else (compTurn e depth (.ref I) acc env).onRaise (fun x => do noteFrame x env; theTreesLotGoes x)) _ _ s
      rw [hf, if_neg (by decide), hturn]
      refine wpAny_noted ?_
      refine wpAny_bind (wpAny_standAt (wpAny_bind ?_))
      obtain ⟨hs, hK⟩ := hF
      refine next_end hh z (by simpa using hi) hs fun s' z' => ?_
      exact wpAny_pure ⟨rfl, σ, hK, z'⟩
    | cons y ys ih =>
      intro σ hp hF A ρ s o hA hi z
      have hh : A.handled = none := hA.hd.trans hκ
      refine codeAny_of_tree ?_
      rw [hu]
      show wpAny _ _ (if (Code.compLoop e depth (.ref I) acc env).isFrame then (compTurn e depth (.ref I) acc env).onRaise (leaving env) else (compTurn e depth (.ref I) acc env).onRaise (fun x => do noteFrame x env; theTreesLotGoes x)) _ _ s
      rw [hf, if_neg (by decide), hturn]
      refine wpAny_noted ?_
      refine wpAny_bind (wpAny_standAt (wpAny_bind ?_))
      obtain ⟨hs, hF⟩ := hF
      obtain ⟨pre, hp⟩ := hp
      have hlen : xs.length - (y :: ys).length = pre.length := by rw [hp]; simp
      have hx : xs[xs.length - (y :: ys).length]? = some y := by rw [hlen, hp]; simp
      refine next_item z hi hs hx fun v o' s₁ hv hi₁ z₁ => ?_
      have nt : ∀ {ρ' : Frm} (e : Value) (s' : Shared) {P : Prop}, (Po G ρ' ab NoX e s') → P := fun _a _b _c => pe fun _a q _b => q.elim
      refine wpAny_bind (letOwned_wp hi₁ ?_)
      refine wpAny_bind (wpAny_mono (hF v hv A _ s₁ hA z₁) (fun _a s₂ => pe fun σ₂ q z₂ => ?_) fun e s' x => nt e s' x)
      have hi₂ : ItO I s₂.heap sr xs.length (xs.length - ys.length) := by
        have e1 := z₁.fr _ (.head _)
        have e2 := z₂.fr _ (.head _)
        have := ItO.keeps (e2.trans e1.symm) hi₁
        have hn : xs.length - (y :: ys).length + 1 = xs.length - ys.length := by rw [hp]; simp; walk_at "om"
        rwa [hn] at this
      refine wpAny_bind (wpAny_mono (q A _ s₂ hA z₂) (fun ok s₃ => pe fun σ₃ q z₃ => ?_) fun e s' x => nt e s' x)
      have hi₃ : ItO I s₃.heap sr xs.length (xs.length - ys.length) := ItO.keeps ((z₃.fr _ (.head _)).trans (z₂.fr _ (.head _)).symm) hi₂
      cases ok with
      | false => exact wpAny_pure ⟨rfl, ih σ₃ ⟨pre ++ [y], by rw [hp]; simp⟩ q A ρ s₃ o' hA hi₃ z₃⟩
      | true =>
        simp only [if_true, id] at q ⊢
        refine wpAny_mono (hR _ _ q A _ s₃ hA z₃) (fun fin s₄ => pe fun σ₄ hh z₄ => ?_) fun e s' x => nt e s' x
        obtain ⟨hfin, q⟩ := hh
        have hfin : fin = _ := hfin
        subst hfin
        have hi₄ : ItO I s₄.heap sr xs.length (xs.length - ys.length) := ItO.keeps ((z₄.fr _ (.head _)).trans (z₃.fr _ (.head _)).symm) hi₃
        exact ⟨rfl, ih σ₄ ⟨pre ++ [y], by rw [hp]; simp⟩ q A ρ s₄ o' hA hi₄ z₄⟩
/-- from the start code -/
theorem cs_code {e : PySem.Expr} {depth : Nat} {acc : Value} {I : Addr} {sr : Sr} {n : Nat} {RR : Result → Shared → Prop} {A : Around} {s : Shared} {gs : List Comprehension} {g : Comprehension}
    (hcl : clausesOf e = gs) (hg : gs[depth]? = some g) (ha : g.is_async = 0) (hf : (Code.compStart e depth (.ref I) acc env).isFrame = false) (hu : A.under (.compStart e depth (.ref I) acc env) = A) (hi : ItO I s.heap sr n 0)
    (hq : (Code.compLoop e depth (.ref I) acc env).quiet = true)
    (h : codeAny (model G.prog G.w) A (.compLoop e depth (.ref I) acc env) RR s) : codeAny (model G.prog G.w) A (.compStart e depth (.ref I) acc env) RR s := by
  have hself : ∀ (Q : Value → Shared → Prop) (E : Value → Shared → Prop) , Q (.ref I) s → wpAny (model G.prog G.w) A (pyIter (.ref I)) Q E s := fun Q E hQ => by
    cases sr with
    | lst l => exact wpAny_pyIter_listiter hi hQ
    | rng a c => exact wpAny_pyIter_rangeiter hi hQ
  refine codeAny_of_tree ?_
  rw [hu]
  show wpAny _ _ (if (Code.compStart e depth (.ref I) acc env).isFrame then (compStart e depth (.ref I) acc env).onRaise (leaving env) else (compStart e depth (.ref I) acc env).onRaise (fun x => do noteFrame x env; standAt theWindowsPlace)) _ _ s
  rw [hf, if_neg (by decide)]
  refine wpAny_notedAt ?_
  unfold compStart
  rw [hcl, hg]
  simp only [Option.elim, ha, bne_self_eq_false, Bool.false_eq_true, if_false]
  refine wpAny_bind (wpAny_askSetting (wpAny_ite ?_))
  split
  · exact wpAny_bind (wpAny_pure (wpAny_pure (And.intro hq h)))
  · refine wpAny_bind (wpAny_rule (wpAny_bind (wpAny_standAt (wpAny_bind (hself _ _ ?_)))))
    exact wpAny_pure (And.intro hq h)
noncomputable def compE (scope : Scope) (cl : List (PySem.Str × Addr)) (C : Addr) (env : Env) : Env :=
  { scope := relabel scope env, locals := C, globals := env.globals, cells := cellsFrom (C + 1) scope.names cl, qual := env.qual, func := none, code := env.code, frame := env.frame, builtins := env.builtins }
/-- the comprehension's own names are let go -/
inductive CEnd (C : Addr) (P : Sto → Prop) (σ : Sto) : Prop
  | mk (m : List (PySem.Str × Option AV)) (σ₂ σ₃ : Sto) (rm : Rm C (.ns m) σ σ₂) (hs : List.Sublist σ₃ σ₂) (hp : P σ₃)
theorem CEnd.to {C : Addr} {P : Sto → Prop} {ρ : Frm} {s : Shared} (h : CEnd C P σ) (z : St G ρ σ s) :
    ∃ m, s.heap.Ns C m ∧ ∀ h', Heap.SameBut C s.heap h' → ∃ σ', P σ' ∧ St G ρ σ' { s with heap := h' } := by
  obtain ⟨m, σ₂, σ₃, rm, hs, hp⟩ := h
  obtain ⟨ob, e, _, es, ep, hd, hsk, _⟩ := z.at (rm.perm.symm.subset (.head _))
  exact ⟨nsFind es, ⟨ob, es, ep, e, hd, hsk, fun _a => rfl⟩, fun h' hsb => ⟨σ₃, hp, (z.lose rm hsb.extBut).sub hs⟩⟩
inductive ElP (r : Addr) (K : Sto → Prop) (v : AV) (σ : Sto) : Prop
  | mk (vs : List AV) (σ₂ : Sto) (u : Up r (.list vs) (.list (vs ++ [v])) σ σ₂) (hl : vs.length ≤ sizeLine) (hk : K σ₂)
/-- what a list comprehension does with its element -/
noncomputable def EL (G : Gd) (κ : Kx) (env : Env) (elt : PySem.Expr) (r : Addr) (σ : Sto) (K : Sto → Prop) : Prop :=
  EV G κ env elt σ (ElP r K) NoX
theorem list_append {r : Addr} {vs : List AV} {x : Value} {A : Around} {ρ : Frm} {s : Shared} {Q : Value → Shared → Prop} {E : Value → Shared → Prop} (z : St G ρ σ s) (u : Up r (.list vs) (.list (vs ++ [ab x])) σ σ')
    (hl : vs.length ≤ sizeLine) (h : ∀ s', St G ρ σ' s' → Q .none s') : wpAny (model G.prog G.w) A (call (.builtin "list.append") [.ref r, x]) Q E s := by
  obtain ⟨ys, n, e, hm⟩ := z.list u.mem
  refine wpAny_list_append_plain ⟨n, e⟩ (fun h' hl' hs' => ?_) (by rw [size_of hm]; exact hl)
  obtain ⟨n', e'⟩ := hl'
  exact h _ (z.turn u hs' e' ⟨_, _, rfl, by simp [hm]⟩)
theorem el_rest {elt : PySem.Expr} {r : Addr} {c : Code} {K : Sto → Prop} (h : EL G κ env elt r σ K) :
    W G κ id ((eval elt env >>= fun x => call (.builtin "list.append") [.ref r, x] >>= fun _a => pure ()) >>= fun _a => again c) σ (fun fin σ' => fin = .again c ∧ K σ') NoX := fun A ρ s hA z => by
  refine wpAny_bind (wpAny_bind (wpAny_mono (h A ρ s hA z) (fun v s₁ => pe fun σ₁ hh z₁ => ?_) fun _a _b x => x))
  obtain ⟨vs, σ₂, u, hl, hK⟩ := hh
  refine wpAny_bind (list_append z₁ u hl fun s' z' => ?_)
  exact wpAny_pure (wpAny_pure ⟨σ₂, ⟨rfl, hK⟩, z'⟩)
theorem under_comp {elt : PySem.Expr} {gens : List Comprehension} {scope : Scope} {pos : Pos} {d : Nat} {it acc : Value} (A : Around) : A.under (.compLoop (.ListComp elt gens scope pos) d it acc env) = A := Around.under_of_weight rfl
theorem under_compS {elt : PySem.Expr} {gens : List Comprehension} {scope : Scope} {pos : Pos} {d : Nat} {it acc : Value} (A : Around) : A.under (.compStart (.ListComp elt gens scope pos) d it acc env) = A := Around.under_of_weight rfl
/-- the whole of a list comprehension of one clause -/
noncomputable def LC (G : Gd) (κ : Kx) (env : Env) (elt target iter : PySem.Expr) (ifs : List PySem.Expr) (scope : Scope) (cl : List (PySem.Str × Addr)) (σ : Sto) (P : Addr → Addr → Sto → Prop) : Prop :=
  EV G κ env iter σ (fun a σ₁ => ∃ sr xs, IsSr a sr xs σ₁ ∧ ∀ r C,
    CR G κ (compE scope cl C env) target ifs (EL G κ (compE scope cl C env) elt r) sr xs (P r C) xs (layC (C + 1) scope.names ((C, .ns (lay scope.names)) :: (r, .list []) :: σ₁))) NoX
theorem lc_run {elt target iter : PySem.Expr} {ifs : List PySem.Expr} {scope : Scope} {pos : Pos} {cl : List (PySem.Str × Addr)} {use : Option (Value → Sem Unit)} {P : Addr → Addr → Sto → Prop} {A : Around} {ρ : Frm} {s : Shared}
    {Q : Value → Shared → Prop} {E : Value → Shared → Prop} (hκ : hdv κ.hd = none) (hA : Room κ A) (z : St G ρ σ s) (h : LC G κ env elt target iter ifs scope cl σ P)
    (hclos : closureFor scope env = pure cl) (hkind : scope.kind = .function) (hnames : ∀ x ∈ scope.names, x.2 = .local → scope.names.lookup x.1 = some .local) (hnd : ((lay scope.names).map (·.1)).Nodup)
    (hs : ∀ x, foldedSetIterable iter env x = pure x)
    (hend : ∀ r C s' σ', P r C σ' → St G ρ σ' s' → compPost (model G.prog G.w) A E use Q (.ref r) C (.ok .next) s') :
    wpAny (model G.prog G.w) A (comprehension (.ListComp elt [⟨target, iter, ifs, 0⟩] scope pos) scope env (firstIterPos [⟨target, iter, ifs, 0⟩] pos) (newList []) false (eval iter env) use) Q E s := by
  refine wpAny_comprehension_free (cl := cl) rfl hs hclos hkind hnames ?_
  refine wpAny_mono (h A ρ s hA z) (fun a s₁ => pe fun σ₁ hh z₁ => ?_) fun _a _b => pe fun _a q _b => q.elim
  obtain ⟨sr, xs, hsr, hcr⟩ := hh
  refine iter_of z₁ hsr fun I o s₂ hi hok z₂ => ?_
  refine wpAny_newObj_type ?_ (by size_fits)
  have z₃ := z₂.push { cls := .type "list", data := .seq ([] : List Value).toArray } (.list []) rfl ⟨_, _, rfl, rfl⟩
  generalize hr : s₂.heap.objs.size = r at z₃ ⊢
  have hi₃ : ItO I (s₂.heap.push { cls := .type "list", data := .seq ([] : List Value).toArray }) sr xs.length 0 := by
    refine ItO.keeps ?_ hi
    obtain ⟨o', e'⟩ := hi.obj
    rw [e']; exact Heap.get?_push_of_some _ e'
  refine wpAny_mono (w_newEnv (G := G) (κ := κ) (X := NoX) (bs := []) (binds := []) (Q := fun cenv σ' => ∃ C, cenv = newEnv scope C env.globals (cellsFrom (C + 1) scope.names cl) env.qual none .none (some env) builtinsNs ∧
    CR G κ (compE scope cl C env) target ifs (EL G κ (compE scope cl C env) elt r) sr xs (P r C) xs σ') rfl hnd (fun C => ⟨C, rfl, hcr r C⟩) A _ _ hA z₃) (fun cenv s₄ => pe fun σ₄ hh z₄ => ?_) fun _a _b => pe fun _a q _b => q.elim
  obtain ⟨C, hce, hcr⟩ := hh
  subst hce
  have hi₄ : ItO I s₄.heap sr xs.length (xs.length - xs.length) := by
    rw [Nat.sub_self]
    exact ItO.keeps ((z₄.fr _ (.head _)).trans (z₃.fr _ (.head _)).symm) hi₃
  show codeAny _ _ (.compStart (.ListComp elt [⟨target, iter, ifs, 0⟩] scope pos) 0 (.ref I) (.ref r) (compE scope cl C env)) _ s₄
  refine cs_code (env := compE scope cl C env) (g := ⟨target, iter, ifs, 0⟩) rfl rfl rfl rfl (under_compS _) (by simpa using hi₄) rfl ?_
  refine codeAny_mono (cr_code (env := compE scope cl C env) (p := iter.pos) (rest := (eval elt (compE scope cl C env) >>= fun x => call (.builtin "list.append") [.ref r, x] >>= fun _a => pure ()) >>= fun _a => again (.compLoop (.ListComp elt [⟨target, iter, ifs, 0⟩] scope pos) 0 (.ref I) (.ref r) (compE scope cl C env)))
    (by rfl) (under_comp) rfl hκ (fun σ K hR => el_rest hR) xs σ₄ ⟨[], rfl⟩ hcr A ρ s₄ o hA hi₄ z₄) fun res s₅ hres => ?_
  obtain ⟨rfl, σ₅, hP, z₅⟩ := hres
  exact hend r C s₅ σ₅ hP z₅
theorem ev_listcomp {elt target iter : PySem.Expr} {ifs : List PySem.Expr} {scope : Scope} {pos : Pos} {cl : List (PySem.Str × Addr)} {Q : AV → Sto → Prop} (hκ : hdv κ.hd = none)
    (hclos : closureFor scope env = pure cl) (hkind : scope.kind = .function) (hnames : ∀ x ∈ scope.names, x.2 = .local → scope.names.lookup x.1 = some .local) (hnd : ((lay scope.names).map (·.1)).Nodup)
    (hs : ∀ x, foldedSetIterable iter env x = pure x)
    (h : LC G κ env elt target iter ifs scope cl σ (fun r C => CEnd C (Q (.ref r)))) : EV G κ env (.ListComp elt [⟨target, iter, ifs, 0⟩] scope pos) σ Q X := fun A ρ s hA z => by
  rw [eval_ListComp]
  refine lc_run (use := none) hκ hA z h hclos hkind hnames hnd hs fun r C s' σ' hP z' => ?_
  obtain ⟨m, hn, hq⟩ := hP.to z'
  exact ⟨m, hn, fun h' hsb => let ⟨σ₃, q, z₃⟩ := hq h' hsb; ⟨σ₃, q, z₃⟩⟩
theorem evalThenUse_list (elt target iter : PySem.Expr) (ifs : List PySem.Expr) (scope : Scope) (pos : Pos) (env : Env) (use : Value → Sem Unit) : evalThenUse (.ListComp elt [⟨target, iter, ifs, 0⟩] scope pos) env use =
    (comprehension (.ListComp elt [⟨target, iter, ifs, 0⟩] scope pos) scope env (firstIterPos [⟨target, iter, ifs, 0⟩] pos) (newList []) false (eval iter env) (some use) >>= fun _a => pure ()) := rfl
theorem ex_assign_listcomp {elt target iter : PySem.Expr} {ifs : List PySem.Expr} {scope : Scope} {pos p spos : Pos} {x : PySem.Str} {cl : List (PySem.Str × Addr)} {Q : AF → Sto → Prop} (hκ : hdv κ.hd = none)
    (hclos : closureFor scope env = pure cl) (hkind : scope.kind = .function) (hnames : ∀ x ∈ scope.names, x.2 = .local → scope.names.lookup x.1 = some .local) (hnd : ((lay scope.names).map (·.1)).Nodup)
    (hs : ∀ x, foldedSetIterable iter env x = pure x)
    (hsw : swapsWithSole [.Name x p] (.ListComp elt [⟨target, iter, ifs, 0⟩] scope pos) spos.line env = pure true)
    (h : LC G κ env elt target iter ifs scope cl σ (fun r C σ' => SN G κ env x (.ref r) σ' (CEnd C (Q .next)) NoX)) : EX G κ env (.Assign [.Name x p] (.ListComp elt [⟨target, iter, ifs, 0⟩] scope pos) spos) σ Q X := fun A ρ s hA z => by
  rw [exec_Assign]
  refine wpAny_bind (wpAny_standAt ?_)
  rw [hsw]
  refine wpAny_bind (wpAny_pure ?_)
  rw [if_pos rfl]
  refine wpAny_bind ?_
  rw [evalThenUse_list]
  refine wpAny_bind (lc_run (use := some _) hκ hA z h hclos hkind hnames hnd hs fun r C s' σ' hP z' => ?_)
  show wpAny _ _ (assign (.Name x p) env (.ref r)) _ _ s'
  refine PyProof.Rows.assign_Name (wpAny_mono (hP _ rfl A ρ s' hA z') (fun _a s'' => pe fun σ'' q z'' => ?_) fun _a _b => pe fun _a q _b => q.elim)
  obtain ⟨m, hn, hq⟩ := q.to z''
  refine ⟨m, hn, fun h' hsb => ?_⟩
  obtain ⟨σ₃, q, z₃⟩ := hq h' hsb
  exact wpAny_pure (wpAny_pure ⟨σ₃, q, z₃⟩)
end
end A4Text
section A5Text
theorem one {vs : List Value} {a : AV} (h : vs.map ab = [a]) : ∃ v, vs = [v] ∧ ab v = a := by
  rcases vs with _ | ⟨v, _ | ⟨w, r⟩⟩
  · cases h
  · exact ⟨v, rfl, by simpa using h⟩
  · simp at h
theorem two {vs : List Value} {a b : AV} (h : vs.map ab = [a, b]) : ∃ v w, vs = [v, w] ∧ ab v = a ∧ ab w = b := by
  rcases vs with _ | ⟨v, vs⟩
  · cases h
  · simp only [List.map_cons, List.cons.injEq] at h
    obtain ⟨w, rfl, hw⟩ := one h.2
    exact ⟨v, w, rfl, h.1, hw⟩
theorem three {vs : List Value} {a b c : AV} (h : vs.map ab = [a, b, c]) : ∃ v w u, vs = [v, w, u] ∧ ab v = a ∧ ab w = b ∧ ab u = c := by
  rcases vs with _ | ⟨v, vs⟩
  · cases h
  · simp only [List.map_cons, List.cons.injEq] at h
    obtain ⟨w, u, rfl, hw, hu⟩ := two h.2
    exact ⟨v, w, u, rfl, h.1, hw, hu⟩
section
variable {G : Gd} {κ : Kx} {env : Env} {σ σ' : Sto} {X : XP} {Q : AV → Sto → Prop}
theorem int2 {f : Value → Value → Sem Value} {i j : Int} (h : ∀ t u, W G κ ab (f (.int i t) (.int j u)) σ Q X) : OP2 G κ f (.int i) (.int j) σ Q X := fun x y hx hy => by
  obtain ⟨t, rfl⟩ := ab_int hx; obtain ⟨u, rfl⟩ := ab_int hy
  exact h t u
-- ints
theorem op_add {i j : Int} (h : Q (.int (i + j)) σ) : OP2 G κ (binaryOp .Add) (.int i) (.int j) σ Q X := int2 fun t u A ρ s hA z => PyProof.Rows.add_int ⟨σ, h, z.toks _⟩
theorem op_iadd {i j : Int} (h : Q (.int (i + j)) σ) : OP2 G κ (inplaceOp .Add) (.int i) (.int j) σ Q X := int2 fun t u A ρ s hA z => PyProof.Rows.iadd_int ⟨σ, h, z.toks _⟩
theorem op_sub {i j : Int} (h : Q (.int (i - j)) σ) : OP2 G κ (binaryOp .Sub) (.int i) (.int j) σ Q X := int2 fun t u A ρ s hA z => PyProof.Rows.sub_int ⟨σ, h, z.toks _⟩
theorem op_mul {i j : Int} (hm : IntMulOk i j) (h : Q (.int (i * j)) σ) : OP2 G κ (binaryOp .Mult) (.int i) (.int j) σ Q X := int2 fun t u A ρ s hA z => PyProof.Rows.mul_int ⟨σ, h, z.toks _⟩ hm
theorem op_mod {i j : Int} (hj : j ≠ 0) (h : Q (.int (i.fmod j)) σ) : OP2 G κ (binaryOp .Mod) (.int i) (.int j) σ Q X := int2 fun t u A ρ s hA z => PyProof.Rows.mod_int hj ⟨σ, h, z.toks _⟩
theorem op_floordiv {i j : Int} (hj : j ≠ 0) (hs : j.natAbs < 1073741824) (h : Q (.int (i.fdiv j)) σ) : OP2 G κ (binaryOp .FloorDiv) (.int i) (.int j) σ Q X := int2 fun t u A ρ s hA z => PyProof.Rows.floordiv_int hj ⟨σ, h, z.toks _⟩ (.inl (PyProof.noPylong_small hs))
theorem op_pow {i j : Int} (h0 : 0 ≤ j) (h1 : j ≤ 1000000) (hi : i.natAbs < 2 ^ 64) (h : Q (.int (i ^ j.toNat)) σ) : OP2 G κ (binaryOp .Pow) (.int i) (.int j) σ Q X := int2 fun t u A ρ s hA z => PyProof.Rows.pow_int_small h0 h1 hi ⟨σ, h, z.toks _⟩
theorem op_neg {i : Int} (h : Q (.int (-i)) σ) : OP1 G κ (unaryOp .USub) (.int i) σ Q X := fun x hx A ρ s hA z => by
  obtain ⟨t, rfl⟩ := ab_int hx
  exact PyProof.Rows.neg_int ⟨σ, h, z.toks _⟩
theorem op_lt {i j : Int} (h : Q (.bool (decide (i < j))) σ) : OP2 G κ (compareOp .Lt) (.int i) (.int j) σ Q X := int2 fun t u A ρ s hA z => PyProof.Rows.lt_int ⟨σ, h, z⟩
theorem op_gt {i j : Int} (h : Q (.bool (decide (j < i))) σ) : OP2 G κ (compareOp .Gt) (.int i) (.int j) σ Q X := int2 fun t u A ρ s hA z => PyProof.Rows.gt_int ⟨σ, h, z⟩
theorem op_le {i j : Int} (h : Q (.bool (decide (i ≤ j))) σ) : OP2 G κ (compareOp .LtE) (.int i) (.int j) σ Q X := int2 fun t u A ρ s hA z => PyProof.Rows.le_int ⟨σ, h, z⟩
theorem op_ge {i j : Int} (h : Q (.bool (decide (j ≤ i))) σ) : OP2 G κ (compareOp .GtE) (.int i) (.int j) σ Q X := int2 fun t u A ρ s hA z => PyProof.Rows.ge_int ⟨σ, h, z⟩
theorem op_eq_int {i j : Int} (h : Q (.bool (i == j)) σ) : OP2 G κ (compareOp .Eq) (.int i) (.int j) σ Q X := int2 fun t u A ρ s hA z => PyProof.Rows.eq_int ⟨σ, h, z⟩
theorem op_ne_int {i j : Int} (h : Q (.bool (i != j)) σ) : OP2 G κ (compareOp .NotEq) (.int i) (.int j) σ Q X := int2 fun t u A ρ s hA z => PyProof.Rows.ne_int ⟨σ, h, z⟩
-- identity
theorem op_is_none {a : AV} (h : Q (.bool (decide (a = .none))) σ) : OP2 G κ (compareOp .Is) a .none σ Q X := fun x y hx hy A ρ s hA z => by
  rw [ab_none hy]
  refine PySem.is_none ⟨σ, ?_, z⟩
  have : (x == Value.none) = decide (a = .none) := by
    subst hx; cases x <;> rfl
  show Q (.bool (x == Value.none)) σ
  rw [this]; exact h
theorem op_is_ref_same {a : Addr} (h : Q (.bool true) σ) : OP2 G κ (compareOp .Is) (.ref a) (.ref a) σ Q X := fun x y hx hy A ρ s hA z => by
  rw [ab_ref hx, ab_ref hy]
  show wpAny _ A (do return Value.bool (← isSame (.ref a) (.ref a))) _ _ s
  exact wpAny_bind (wpAny_isSame_ref_self (wpAny_pure ⟨σ, h, z⟩))
theorem op_isnot_ref_same {a : Addr} (h : Q (.bool false) σ) : OP2 G κ (compareOp .IsNot) (.ref a) (.ref a) σ Q X := fun x y hx hy A ρ s hA z => by
  rw [ab_ref hx, ab_ref hy]
  show wpAny _ A (do return Value.bool (!(← isSame (.ref a) (.ref a)))) _ _ s
  exact wpAny_bind (wpAny_isSame_ref_self (wpAny_pure ⟨σ, h, z⟩))
theorem isSame_str_ref (x : PySem.Str) (t : Tok) (a : Addr) : isSame (.str x t) (.ref a) = pure false := rfl
theorem op_isnot_str_ref {x : PySem.Str} {a : Addr} (h : Q (.bool true) σ) : OP2 G κ (compareOp .IsNot) (.str x) (.ref a) σ Q X := fun u y hx hy A ρ s hA z => by
  obtain ⟨t, rfl⟩ := ab_str hx
  rw [ab_ref hy]
  show wpAny _ A (do return Value.bool (!(← isSame (.str x t) (.ref a)))) _ _ s
  rw [isSame_str_ref]
  exact wpAny_bind (wpAny_pure (wpAny_pure ⟨σ, h, z⟩))
theorem isSame_ty (a b : String) : isSame (.type a) (.type b) = pure (Value.type a == Value.type b) := rfl
theorem op_isnot_ty {a b : String} (h : Q (.bool (!decide (a = b))) σ) : OP2 G κ (compareOp .IsNot) (.ty a) (.ty b) σ Q X := fun u y hx hy A ρ s hA z => by
  rw [ab_ty hx, ab_ty hy]
  show wpAny _ A (do return Value.bool (!(← isSame (.type a) (.type b)))) _ _ s
  rw [isSame_ty]
  refine wpAny_bind (wpAny_pure (wpAny_pure ⟨σ, ?_, z⟩))
  have : (Value.type a == Value.type b) = decide (a = b) := by
    by_cases e : a = b
    · simp [e]
    · have : ¬ Value.type a = Value.type b := fun h => e (by injection h)
      rw [decide_eq_false e]; simpa using this
  show Q (.bool (!(Value.type a == Value.type b))) σ
  rw [this]; exact h
-- truth
theorem tr_bool {b : Bool} {Q : Bool → Sto → Prop} (h : Q b σ) : TR G κ (.bool b) σ Q X := fun x hx A ρ s hA z => by
  rw [ab_bool hx]
  exact wpAny_truthy_bool ⟨σ, h, z⟩
-- texts
theorem op_eq_str {u v : PySem.Str} (h : Q (.bool (u == v)) σ) : OP2 G κ (compareOp .Eq) (.str u) (.str v) σ Q X := fun x y hx hy A ρ s hA z => by
  obtain ⟨t, rfl⟩ := ab_str hx; obtain ⟨w, rfl⟩ := ab_str hy
  exact PyProof.Rows.eq_str ⟨σ, h, z⟩
theorem op_ne_str {u v : PySem.Str} (h : Q (.bool (u != v)) σ) : OP2 G κ (compareOp .NotEq) (.str u) (.str v) σ Q X := fun x y hx hy A ρ s hA z => by
  obtain ⟨t, rfl⟩ := ab_str hx; obtain ⟨w, rfl⟩ := ab_str hy
  exact PyProof.Rows.ne_str ⟨σ, h, z⟩
theorem op_add_str {u v : PySem.Str} (hz : u.length + v.length ≤ sizeLine) (h : Q (.str (u ++ v)) σ) : OP2 G κ (binaryOp .Add) (.str u) (.str v) σ Q X := fun x y hx hy A ρ s hA z => by
  obtain ⟨t, rfl⟩ := ab_str hx; obtain ⟨w, rfl⟩ := ab_str hy
  exact PyProof.Rows.add_str (fun _a _b => ⟨σ, h, z.toks _⟩) hz
theorem op_in_str {u v : PySem.Str} (h : Q (.bool !(Builtin.Str.occurrences v u 0 v.length 1).isEmpty) σ) : OP2 G κ (compareOp .In) (.str u) (.str v) σ Q X := fun x y hx hy A ρ s hA z => by
  obtain ⟨t, rfl⟩ := ab_str hx; obtain ⟨w, rfl⟩ := ab_str hy
  exact PyProof.Rows.in_str ⟨σ, h, z⟩
theorem op_notin_str {u v : PySem.Str} (h : Q (.bool (!(!(Builtin.Str.occurrences v u 0 v.length 1).isEmpty))) σ) : OP2 G κ (compareOp .NotIn) (.str u) (.str v) σ Q X := fun x y hx hy A ρ s hA z => by
  obtain ⟨t, rfl⟩ := ab_str hx; obtain ⟨w, rfl⟩ := ab_str hy
  exact PyProof.Rows.notIn_str ⟨σ, h, z⟩
theorem cl_len_str {u : PySem.Str} (hz : u.length ≤ sizeLine) (h : Q (.int u.length) σ) : CL G κ (.bi "len") [.str u] σ Q X := fun g vs hg hvs A ρ s hA z => by
  rw [ab_bi hg]
  obtain ⟨v, rfl, hv⟩ := one hvs
  obtain ⟨t, rfl⟩ := ab_str hv
  exact PyProof.Rows.len_str (by rw [sizeLine_eq] at hz; walk_at "om") ⟨σ, h, z.toks _⟩
-- lists
theorem cl_len_list {l : Addr} {xs : List AV} (hm : (l, .list xs) ∈ σ) (hz : xs.length ≤ sizeLine) (h : Q (.int xs.length) σ) : CL G κ (.bi "len") [.ref l] σ Q X := fun g vs hg hvs A ρ s hA z => by
  rw [ab_bi hg]
  obtain ⟨v, rfl, hv⟩ := one hvs
  rw [ab_ref hv]
  obtain ⟨ys, n, e, hy⟩ := z.list hm
  refine call_len_list e.isList (by rw [size_of hy]; rw [sizeLine_eq] at hz; walk_at "om") ?_
  refine ⟨σ, ?_, z.toks _⟩
  rw [size_of hy]; exact h
theorem op_add_list {l b : Addr} {xs ys : List AV} (hl : (l, .list xs) ∈ σ) (hb : (b, .list ys) ∈ σ) (hz : xs.length + ys.length ≤ sizeLine) (h : ∀ r, Q (.ref r) ((r, .list (xs ++ ys)) :: σ)) :
    OP2 G κ (binaryOp .Add) (.ref l) (.ref b) σ Q X := fun x y hx hy A ρ s hA z => by
  rw [ab_ref hx, ab_ref hy]
  obtain ⟨us, n, e, hu⟩ := z.list hl
  obtain ⟨vs, m, e', hv⟩ := z.list hb
  refine P.add_list e e' ⟨_, h _, z.push _ _ rfl ⟨_, _, rfl, by simp [hu, hv]⟩⟩ (by rw [size_of hu, size_of hv]; exact hz)
noncomputable def intsA (ns : List Int) : List AV := ns.map .int
theorem items_of_ints : ∀ {vs : List Value} {ns : List Int}, vs.map ab = intsA ns → ∃ ps : List (Int × Tok), vs = ps.map (fun p => .int p.1 p.2) ∧ ps.map (·.1) = ns
  | [], [], _ => ⟨[], rfl, rfl⟩
  | v :: vs, n :: ns, h => by
    simp only [intsA, List.map_cons, List.cons.injEq] at h
    obtain ⟨t, rfl⟩ := ab_int h.1
    obtain ⟨ps, rfl, e⟩ := items_of_ints (vs := vs) (ns := ns) h.2
    exact ⟨(n, t) :: ps, rfl, by simp [e]⟩
theorem intItems_of {xs : Array Value} {ns : List Int} (h : xs.toList.map ab = intsA ns) : ∃ ps : Array (Int × Tok), xs = intItems ps ∧ ps.toList.map (·.1) = ns := by
  obtain ⟨ps, e, hn⟩ := items_of_ints h
  refine ⟨ps.toArray, ?_, by simpa using hn⟩
  apply Array.ext'
  rw [e]; simp [intItems]
noncomputable def minI : List Int → Int
  | [] => 0
  | [x] => x
  | x :: y :: r => min x (minI (y :: r))
noncomputable def maxI : List Int → Int
  | [] => 0
  | [x] => x
  | x :: y :: r => max x (maxI (y :: r))
theorem minI_spec : ∀ (ns : List Int), ns ≠ [] → minI ns ∈ ns ∧ ∀ a ∈ ns, minI ns ≤ a
  | [], h => absurd rfl h
  | [x], _ => ⟨.head _, fun a ha => by rcases List.mem_cons.mp ha with rfl | ha; exact Int.le_refl _; cases ha⟩
  | x :: y :: r, _ => by
    obtain ⟨h1, h2⟩ := minI_spec (y :: r) (by simp)
    show min x (minI (y :: r)) ∈ _ ∧ ∀ a ∈ _, min x (minI (y :: r)) ≤ a
    refine ⟨?_, fun a ha => ?_⟩
    · rcases Int.le_total x (minI (y :: r)) with h | h
      · rw [Int.min_eq_left h]; simp
      · rw [Int.min_eq_right h]; exact .tail _ h1
    · rcases List.mem_cons.mp ha with rfl | ha
      · exact Int.min_le_left ..
      · exact Int.le_trans (Int.min_le_right ..) (h2 a ha)
theorem maxI_spec : ∀ (ns : List Int), ns ≠ [] → maxI ns ∈ ns ∧ ∀ a ∈ ns, a ≤ maxI ns
  | [], h => absurd rfl h
  | [x], _ => ⟨.head _, fun a ha => by rcases List.mem_cons.mp ha with rfl | ha; exact Int.le_refl _; cases ha⟩
  | x :: y :: r, _ => by
    obtain ⟨h1, h2⟩ := maxI_spec (y :: r) (by simp)
    show max x (maxI (y :: r)) ∈ _ ∧ ∀ a ∈ _, a ≤ max x (maxI (y :: r))
    refine ⟨?_, fun a ha => ?_⟩
    · rcases Int.le_total x (maxI (y :: r)) with h | h
      · rw [Int.max_eq_right h]; exact .tail _ h1
      · rw [Int.max_eq_left h]; simp
    · rcases List.mem_cons.mp ha with rfl | ha
      · exact Int.le_max_left ..
      · exact Int.le_trans (h2 a ha) (Int.le_max_right ..)
theorem cl_min {l : Addr} {ns : List Int} (hκ : hdv κ.hd = none) (hm : (l, .list (intsA ns)) ∈ σ) (hne : ns ≠ []) (h : Q (.int (minI ns)) σ) : CL G κ (.bi "min") [.ref l] σ Q X := fun g vs hg hvs A ρ s hA z => by
  rw [ab_bi hg]
  obtain ⟨v, rfl, hv⟩ := one hvs
  rw [ab_ref hv]
  obtain ⟨ys, n, e, hy⟩ := z.list hm
  obtain ⟨ps, rfl, hn⟩ := intItems_of hy
  have hlen : ps.size = ns.length := by rw [← hn]; simp
  have hpos : 0 < ps.size := by rw [hlen]; exact List.length_pos_iff.mpr hne
  refine min_intList (hA.hd.trans hκ) e.isList hpos fun u h' tk hu hk => ?_
  obtain ⟨t, rfl⟩ := intItems_at hu
  obtain ⟨h1, h2⟩ := argBest_lt (numAt ps) (ps.size - 1)
  refine ⟨σ, ?_, (z.grown hk).toks _⟩
  obtain ⟨m1, m2⟩ := minI_spec ns hne
  have a1 : numAt ps (argBest (fun i j => decide (numAt ps i < numAt ps j)) (ps.size - 1)) ∈ ns := by
    rw [← hn, numAt_eq]
    exact getD_mem (by rw [List.length_map, Array.length_toList]; exact Nat.lt_of_le_of_lt h1 (Nat.sub_lt hpos Nat.one_pos))
  have a2 : ∀ a ∈ ns, numAt ps (argBest (fun i j => decide (numAt ps i < numAt ps j)) (ps.size - 1)) ≤ a := fun a ha => by
    rw [← hn] at ha
    obtain ⟨j, hj, rfl⟩ := mem_getD ha
    rw [List.length_map, Array.length_toList] at hj
    rw [← numAt_eq]; exact h2 j (Nat.le_sub_one_of_lt hj)
  have : numAt ps (argBest (fun i j => decide (numAt ps i < numAt ps j)) (ps.size - 1)) = minI ns := Int.le_antisymm (a2 _ m1) (m2 _ a1)
  show Q (.int _) σ
  rw [this]; exact h
theorem cl_max {l : Addr} {ns : List Int} (hκ : hdv κ.hd = none) (hm : (l, .list (intsA ns)) ∈ σ) (hne : ns ≠ []) (h : Q (.int (maxI ns)) σ) : CL G κ (.bi "max") [.ref l] σ Q X := fun g vs hg hvs A ρ s hA z => by
  rw [ab_bi hg]
  obtain ⟨v, rfl, hv⟩ := one hvs
  rw [ab_ref hv]
  obtain ⟨ys, n, e, hy⟩ := z.list hm
  obtain ⟨ps, rfl, hn⟩ := intItems_of hy
  have hlen : ps.size = ns.length := by rw [← hn]; simp
  have hpos : 0 < ps.size := by rw [hlen]; exact List.length_pos_iff.mpr hne
  refine max_intList (hA.hd.trans hκ) e.isList hpos fun u h' tk hu hk => ?_
  obtain ⟨t, rfl⟩ := intItems_at hu
  obtain ⟨h1, h2⟩ := argBest_gt (numAt ps) (ps.size - 1)
  refine ⟨σ, ?_, (z.grown hk).toks _⟩
  obtain ⟨m1, m2⟩ := maxI_spec ns hne
  have a1 : numAt ps (argBest (fun i j => decide (numAt ps i > numAt ps j)) (ps.size - 1)) ∈ ns := by
    rw [← hn, numAt_eq]
    exact getD_mem (by rw [List.length_map, Array.length_toList]; exact Nat.lt_of_le_of_lt h1 (Nat.sub_lt hpos Nat.one_pos))
  have a2 : ∀ a ∈ ns, a ≤ numAt ps (argBest (fun i j => decide (numAt ps i > numAt ps j)) (ps.size - 1)) := fun a ha => by
    rw [← hn] at ha
    obtain ⟨j, hj, rfl⟩ := mem_getD ha
    rw [List.length_map, Array.length_toList] at hj
    rw [← numAt_eq]; exact h2 j (Nat.le_sub_one_of_lt hj)
  have : numAt ps (argBest (fun i j => decide (numAt ps i > numAt ps j)) (ps.size - 1)) = maxI ns := Int.le_antisymm (m2 _ a1) (a2 _ m1)
  show Q (.int _) σ
  rw [this]; exact h
theorem cl_sum {l : Addr} {ns : List Int} (hκ : hdv κ.hd = none) (hm : (l, .list (intsA ns)) ∈ σ) (h : Q (.int ns.sum) σ) : CL G κ (.bi "sum") [.ref l] σ Q X := fun g vs hg hvs A ρ s hA z => by
  rw [ab_bi hg]
  obtain ⟨v, rfl, hv⟩ := one hvs
  rw [ab_ref hv]
  obtain ⟨ys, n, e, hy⟩ := z.list hm
  obtain ⟨ps, rfl, hn⟩ := intItems_of hy
  refine sum_intListG (hA.hd.trans hκ) e.isList fun h' tk t' hk => ⟨σ, ?_, (z.grown hk).toks _⟩
  show Q (.int (preSum (numAt ps) ps.size)) σ
  rw [preSum_eq, List.take_of_length_le (by simp), hn]; exact h
-- ranges
theorem rs_nat {i j : Int} : (if i < j then j - i else 0) = ((j - i).toNat : Int) := by
  split
  · rename_i h; exact (Int.toNat_of_nonneg (Int.sub_nonneg_of_le (Int.le_of_lt h))).symm
  · rename_i h; rw [Int.toNat_of_nonpos (Int.sub_nonpos_of_le (Int.not_lt.mp h))]; rfl
theorem klt {k : Int} {n : Nat} (h0 : 0 ≤ k) (h : k.toNat < n) (hz : n ≤ 16777216) : k < 2 ^ 63 := Int.lt_trans (Int.lt_of_lt_of_le ((Int.toNat_lt h0).mp h) (Int.ofNat_le.mpr hz)) (by decide)
theorem lst1 {n : Nat} (h : 0 < n) : (-1 + (n : Int)).toNat = n - 1 := by
  cases n with
  | zero => cases h
  | succ n => rw [Int.add_comm]; exact congrArg Int.toNat (Int.add_sub_cancel (n : Int) 1)
theorem cl_range1 {i : Int} (h0 : -(2 ^ 62) ≤ i) (h1 : i < 2 ^ 62) (h : ∀ r, Q (.ref r) ((r, .rng 0 1 i.toNat) :: σ)) : CL G κ (.ty "range") [.int i] σ Q X := fun g vs hg hvs A ρ s hA z => by
  rw [ab_ty hg]
  obtain ⟨v, rfl, hv⟩ := one hvs
  obtain ⟨t, rfl⟩ := ab_int hv
  refine call_range_1 ⟨_, h _, (z.push _ (.rng 0 1 i.toNat) rfl ⟨i, _, _, _, rfl, small_one (by decide) (by decide) h0 h1, ?_⟩).toks _⟩
  rw [rangeSize_one, rs_nat, Int.sub_zero]
theorem cl_range2 {i j : Int} (h0 : -(2 ^ 62) ≤ i) (h1 : i < 2 ^ 62) (h2 : -(2 ^ 62) ≤ j) (h3 : j < 2 ^ 62) (h : ∀ r, Q (.ref r) ((r, .rng i 1 (j - i).toNat) :: σ)) : CL G κ (.ty "range") [.int i, .int j] σ Q X := fun g vs hg hvs A ρ s hA z => by
  rw [ab_ty hg]
  obtain ⟨v, w, rfl, hv, hw⟩ := two hvs
  obtain ⟨t, rfl⟩ := ab_int hv
  obtain ⟨u, rfl⟩ := ab_int hw
  refine call_range_2 ⟨_, h _, (z.push _ (.rng i 1 (j - i).toNat) rfl ⟨j, _, _, _, rfl, small_one h0 h1 h2 h3, ?_⟩).toks _⟩
  rw [rangeSize_one, rs_nat]
-- items
noncomputable def SUB (G : Gd) (κ : Kx) (value slice : PySem.Expr) (o i : AV) (σ : Sto) (Q : AV → Sto → Prop) (X : XP) : Prop := ∀ x y, ab x = o → ab y = i → W G κ ab (subscriptTail value slice x y) σ Q X
noncomputable abbrev KS2 (G : Gd) (κ : Kx) (value slice : PySem.Expr) (o : AV) (Q : AV → Sto → Prop) (X : XP) : AV → Sto → Prop := fun i σ => SUB G κ value slice o i σ Q X
noncomputable abbrev KS1 (G : Gd) (κ : Kx) (env : Env) (value slice : PySem.Expr) (Q : AV → Sto → Prop) (X : XP) : AV → Sto → Prop := fun o σ => EV G κ env slice σ (KS2 G κ value slice o Q X) X
theorem ev_sub {value slice : PySem.Expr} {pos : Pos} (h : EV G κ env value σ (KS1 G κ env value slice Q X) X) : EV G κ env (.Subscript value slice pos) σ Q X := fun A ρ s hA z =>
  Subscript_ (wpAny_mono (h A ρ s hA z) (fun o _a => pe fun _a q z => wpAny_mono (q A ρ _ hA z) (fun i _a => pe fun _a q z => q o i rfl rfl A ρ _ hA z) fun _a _b x => x) fun _a _b x => x)
theorem tail_any' {prog : Program} {w : World} {A : Around} {E : Value → Shared → Prop} {s : Shared} {value slice : PySem.Expr} {o i : Value} {T id : String} {ops : List Value} {Q : Value → Shared → Prop} (hT : s.TypeIs o T)
    (hl : typeLookup (.type T) "__getitem__" = pure (some (.builtin id))) (h : wpAny (model prog w) A (getItem o i) Q E s)
    (hs : subscripted slice false o i = operate ops (getItem o i)) : wpAny (model prog w) A (subscriptTail value slice o i) Q E s := by
  unfold subscriptTail
  refine wpAny_bind ?_
  rw [getitemInPython_of_ne hT.not_modules]
  refine wpAny_bind (wpAny_specialOf hT hl ?_)
  have fin : wpAny (model prog w) A (subscripted slice false o i) (fun r s₃ => wpAny (model prog w) A (letTemporaryGo value o r >>= fun _a => pure r) Q E s₃) E s := by
    rw [hs]
    exact wpAny_operating (wpAny_mono h (fun r s₃ h₃ => wpAny_bind (wpAny_letTemporaryGo (wpAny_pure h₃))) fun _a _b x => x)
  first
    | exact wpAny_pure (wpAny_bind fin)
    | exact wpAny_bind (wpAny_pure (wpAny_bind fin))
    | exact wpAny_bind fin
/-- no slice -/
noncomputable def NoSl : PySem.Expr → Prop
  | .Slice .. => False
  | _ => True
theorem subscripted_of {slice : PySem.Expr} {o i : Value} (h : NoSl slice) : subscripted slice false o i = operate [o, i] (getItem o i) := by
  cases slice <;> first | rfl | exact h.elim
theorem sub_list {value slice : PySem.Expr} {l : Addr} {xs : List AV} {k : Int} {v : AV} (hs : NoSl slice) (hm : (l, .list xs) ∈ σ) (h0 : 0 ≤ k) (hz : xs.length ≤ sizeLine) (hx : xs[k.toNat]? = some v) (h : Q v σ) :
    SUB G κ value slice (.ref l) (.int k) σ Q X := fun x y hx' hy A ρ s hA z => by
  rw [ab_ref hx']
  obtain ⟨t, rfl⟩ := ab_int hy
  obtain ⟨ys, n, e, hm'⟩ := z.list hm
  rw [← hm', List.getElem?_map] at hx
  cases hq : ys.toList[k.toNat]? with
  | none => rw [hq] at hx; cases hx
  | some u =>
    rw [hq] at hx
    have hlt : k.toNat < ys.size := by
      have := (List.getElem?_eq_some_iff.mp hq).1
      simpa using this
    rw [size_of hm'] at hlt
    rw [sizeLine_eq] at hz
    refine tail_any' (ops := [.ref l, .int k t]) e.isList.typeIs slot_list_getitem.lookup (wpAny_getItem_list e.isList h0 (klt h0 hlt hz) (x := u) (by simpa using hq) ⟨σ, ?_, z⟩) (subscripted_of hs)
    cases hx; exact h
theorem sub_list_last {value slice : PySem.Expr} {l : Addr} {xs : List AV} {v : AV} (hs : NoSl slice) (hm : (l, .list xs) ∈ σ) (hx : xs.getLast? = some v) (h : Q v σ) :
    SUB G κ value slice (.ref l) (.int (-1)) σ Q X := fun x y hx' hy A ρ s hA z => by
  rw [ab_ref hx']
  obtain ⟨t, rfl⟩ := ab_int hy
  obtain ⟨ys, n, e, hm'⟩ := z.list hm
  have hpos : 0 < ys.size := by
    rw [size_of hm']
    rcases xs with _ | ⟨a, r⟩
    · cases hx
    · simp
  rw [← hm', List.getLast?_map] at hx
  cases hq : ys.toList.getLast? with
  | none => rw [hq] at hx; cases hx
  | some u =>
    rw [hq] at hx
    refine tail_any' (ops := [.ref l, .int (-1) t]) e.isList.typeIs slot_list_getitem.lookup (wpAny_getItem_list_neg e.isList (by decide) (Int.neg_le_neg (Int.ofNat_le.mpr hpos)) (by decide) (x := u) ?_ ⟨σ, ?_, z⟩) (subscripted_of hs)
    · rw [List.getLast?_eq_getElem?] at hq
      have : ((-1 : Int) + (ys.size : Int)).toNat = ys.toList.length - 1 := by rw [Array.length_toList]; exact lst1 hpos
      rw [this, ← hq]; simp
    · cases hx; exact h
theorem sub_str {value slice : PySem.Expr} {u : PySem.Str} {k : Int} {c : Nat} (hs : NoSl slice) (h0 : 0 ≤ k) (hz : u.length ≤ sizeLine) (hx : u.cps[k.toNat]? = some c) (h : Q (.str ⟨#[c]⟩) σ) :
    SUB G κ value slice (.str u) (.int k) σ Q X := fun x y hx' hy A ρ s hA z => by
  obtain ⟨t, rfl⟩ := ab_str hx'
  obtain ⟨t', rfl⟩ := ab_int hy
  have hlt : k.toNat < u.cps.size := (Array.getElem?_eq_some_iff.mp hx).1
  have hlen : u.length = u.cps.size := rfl
  rw [sizeLine_eq] at hz
  refine tail_any' (ops := [.str u t, .int k t']) (typeIs_str s u t) slot_str_getitem.lookup (PyProof.Rows.getItem_str (c := c) ?_ ?_ ⟨σ, h, z.toks _⟩) (subscripted_of hs)
  · have a : ¬ k < -(2 ^ 63) := Int.not_lt.mpr (Int.le_trans (by decide) h0)
    have b : ¬ k ≥ 2 ^ 63 := Int.not_le.mpr (klt h0 hlt hz)
    rw [decide_eq_false a, decide_eq_false b]; rfl
  · unfold seqIndex?
    simp only [Int.not_lt.mpr h0, if_false]
    rw [if_pos (Bool.and_eq_true_iff.mpr ⟨decide_eq_true h0, decide_eq_true (show k < (u.length : Int) from (Int.toNat_lt h0).mp hlt)⟩)]
    exact hx
end
end A5Text
section B0Text
end B0Text
section B1Text
/-- a part of a state, in any order -/
inductive Pt : Sto → Sto → Prop
  | refl {σ : Sto} : Pt σ σ
  | nil {σ : Sto} : Pt [] σ
  | skip {p : Addr × AO} {τ σ : Sto} : Pt τ σ → Pt τ (p :: σ)
  | cons {p : Addr × AO} {τ σ σ' : Sto} : Rm p.1 p.2 σ σ' → Pt τ σ' → Pt (p :: τ) σ
theorem Pt.to {τ σ : Sto} (h : Pt τ σ) : ∃ p : Sto, σ.Perm p ∧ τ.Sublist p := by
  induction h with
  | refl => exact ⟨_, .refl _, .refl _⟩
  | nil => exact ⟨_, .refl _, List.nil_sublist _⟩
  | skip _ ih => obtain ⟨p, h1, h2⟩ := ih; exact ⟨_, h1.cons _, h2.cons _⟩
  | cons r _ ih => obtain ⟨p, h1, h2⟩ := ih; exact ⟨_, r.perm.trans (h1.cons _), h2.cons₂ _⟩
section
variable {G : Gd} {κ : Kx} {env : Env} {σ σ' : Sto} {X : XP}
theorem St.pt {τ : Sto} {ρ : Frm} {s : Shared} (h : St G ρ σ s) (p : Pt τ σ) : St G ρ τ s := by
  obtain ⟨q, h1, h2⟩ := p.to
  exact (h.perm h1).sub h2
theorem W.part {α β : Type} {f : α → β} {t : Sem α} {Q : β → Sto → Prop} (h : W G κ f t σ (fun b σ₁ => ∃ τ : Sto, Pt τ σ₁ ∧ Q b τ) X) : W G κ f t σ Q X := fun A ρ s hA z =>
  wpAny_mono (h A ρ s hA z) (fun _ _ ⟨_, ⟨τ, hs, q⟩, y⟩ => ⟨τ, q, y.pt hs⟩) fun _a _b x => x
theorem W.from {α β : Type} {f : α → β} {t : Sem α} {Q : β → Sto → Prop} (h : W G κ f t σ' Q X) (hp : Pt σ' σ) : W G κ f t σ Q X := fun A ρ s hA z => h A ρ s hA (z.pt hp)
/-- a call of a def, its locals forgotten -/
inductive FnK (Q : AV → Sto → Prop) (f : AF) (σ : Sto) : Prop
  | mk (σ₀ : Sto) (p : Pt σ₀ σ) (h : Q (match f with | .ret v => v | _ => .none) σ₀)
theorem cl_fnG (T : Tp G) {n : Nat} {hd : Option Hx} {a : Addr} {fd : FuncData} {body : List Stmt} {args : List AV} (names : List PySem.Str) {Q : AV → Sto → Prop} (F : FnAt G a fd) (hbody : fd.body = .stmts body) (hclo : fd.closure = [])
    (hco : fd.scope.isCoroutine = false) (hgen : fd.scope.isGenerator = false) (hnd : ((lay fd.scope.names).map (·.1)).Nodup)
    (hbind : ∀ vs, vs.map ab = args → bindArgs fd ⟨vs, []⟩ = pure (names.zip vs))
    (h : ∀ L, BN G ⟨n, hd⟩ (fenv fd L a) (names.zip args) (layC (L + 1) fd.scope.names ((L, .ns (lay fd.scope.names)) :: σ)) (fun σ' =>
      EXS G ⟨n, hdp (fenv fd L a) hd⟩ (fenv fd L a) body σ' (FnK Q) NoX) NoX) :
    CL G ⟨n + 1, hd⟩ (.ref a) args σ Q X := fun g vs hg hvs => by
  refine W.part (cl_fn (Q := fun v σ => ∃ τ : Sto, Pt τ σ ∧ Q v τ) T (names := names) F hbody hclo hco hgen hnd hbind (fun L => ?_) g vs hg hvs)
  have bmono : ∀ (bs : List (PySem.Str × AV)) (env : Env) (σ : Sto) (P P' : Sto → Prop), (∀ σ, P σ → P' σ) → BN G ⟨n, hd⟩ env bs σ P NoX → BN G ⟨n, hd⟩ env bs σ P' NoX := by
    intro bs
    induction bs with
    | nil => intro env σ P P' hp h; exact hp _ h
    | cons b r ih => intro env σ P P' hp h y hy; exact W.post (h y hy) fun _a σ' q => ih env σ' P P' hp q
  exact bmono _ _ _ _ _ (fun σ' q => W.post q fun f σ'' ⟨σ₀, p, q⟩ => ⟨σ'', .refl _, σ₀, p, q⟩) (h L)
/-- a call of a def, its locals forgotten -/
theorem cl_fn' (T : Tp G) {n : Nat} {a : Addr} {fd : FuncData} {body : List Stmt} {args : List AV} (names : List PySem.Str) {Q : AV → Sto → Prop} (F : FnAt G a fd) (hbody : fd.body = .stmts body) (hclo : fd.closure = [])
    (hco : fd.scope.isCoroutine = false) (hgen : fd.scope.isGenerator = false) (hnd : ((lay fd.scope.names).map (·.1)).Nodup)
    (hbind : ∀ vs, vs.map ab = args → bindArgs fd ⟨vs, []⟩ = pure (names.zip vs))
    (h : ∀ L, BN G ⟨n, none⟩ (fenv fd L a) (names.zip args) (layC (L + 1) fd.scope.names ((L, .ns (lay fd.scope.names)) :: σ)) (fun σ' =>
      EXS G ⟨n, none⟩ (fenv fd L a) body σ' (FnK Q) NoX) NoX) :
    CL G ⟨n + 1, none⟩ (.ref a) args σ Q X := cl_fnG (hd := none) T names F hbody hclo hco hgen hnd hbind h
/-- a list comprehension over one name, by an invariant: what is left, what is made, the state around -/
theorem cr_inv {elt : PySem.Expr} {x : PySem.Str} {p : Pos} {ifs : List PySem.Expr} {sr : Sr} {xs : List AV} {r C : Addr} {K : Sto → Prop} {m₀ : Option AV → List (PySem.Str × Option AV)}
    (I : List AV → List AV → Sto → Prop)
    (hst : ∀ y o τ (Q : Sto → Prop), Q ((C, .ns (m₀ (some y))) :: τ) → SN G κ env x y ((C, .ns (m₀ o)) :: τ) Q NoX)
    (hsr : ∀ ys done τ, I ys done τ → SrOk sr xs τ)
    (hlen : xs.length ≤ sizeLine)
    (step : ∀ y ys done τ, I (y :: ys) done τ → TSS G κ env ifs ((C, .ns (m₀ (some y))) :: (r, .list done) :: τ) (fun b σ₂ =>
      if b then EV G κ env elt σ₂ (fun v σ₃ => ∃ τ' : Sto, Pt ((C, .ns (m₀ (some y))) :: (r, .list done) :: τ') σ₃ ∧ I ys (done ++ [v]) τ') NoX
      else ∃ τ' : Sto, Pt ((C, .ns (m₀ (some y))) :: (r, .list done) :: τ') σ₂ ∧ I ys done τ') NoX)
    (fin : ∀ done τ o, I [] done τ → K ((C, .ns (m₀ o)) :: (r, .list done) :: τ)) :
    ∀ (ys done : List AV) (τ : Sto) (o : Option AV), ys.length + done.length ≤ xs.length → I ys done τ → CR G κ env (.Name x p) ifs (EL G κ env elt r) sr xs K ys ((C, .ns (m₀ o)) :: (r, .list done) :: τ) := by
  have srs : ∀ {τ : Sto} {a b : Addr × AO}, SrOk sr xs τ → SrOk sr xs (a :: b :: τ) := fun h => by
    cases sr with
    | lst l => exact List.Mem.tail _ (List.Mem.tail _ h)
    | rng => exact h
  intro ys
  induction ys with
  | nil => exact fun done τ o _a hI => ⟨srs (hsr _ _ _ hI), fin _ _ _ hI⟩
  | cons y ys ih =>
    intro done τ o hl hI
    refine ⟨srs (hsr _ _ _ hI), asg_name (hst y o _ _ ?_)⟩
    refine W.part (W.post (step y ys done τ hI) fun b σ₂ q => ?_)
    cases b with
    | false =>
      simp only [Bool.false_eq_true, if_false] at q ⊢
      obtain ⟨τ', hp, hI'⟩ := q
      refine ⟨_, hp, ih done τ' (some y) (by simp only [List.length_cons] at hl; walk_at "om") hI'⟩
    | true =>
      simp only [if_true] at q ⊢
      refine ⟨σ₂, .refl, ?_⟩
      unfold EL
      refine W.part (W.post q fun v σ₃ q => ?_)
      obtain ⟨τ', hp, hI'⟩ := q
      refine ⟨_, hp, done, _, .there .here, by simp only [List.length_cons] at hl; walk_at "om", ih (done ++ [v]) τ' (some y) (by simp only [List.length_cons, List.length_append, List.length_nil] at hl ⊢; walk_at "om") hI'⟩
/-- the locals of a comprehension over one name -/
noncomputable abbrev m1 (x : PySem.Str) (o : Option AV) : List (PySem.Str × Option AV) := [(PySem.Str.ofString ".0", none), (x, o)]
theorem up_m1 {x : PySem.Str} {C : Addr} {y : AV} {o : Option AV} {τ : Sto} (hk : env.scope.kind = .function) (hl : env.kindOf x = some .local) (hL : env.locals = C) {Q : Sto → Prop}
    (h : Q ((C, .ns (m1 x (some y))) :: τ)) : SN G κ env x y ((C, .ns (m1 x o)) :: τ) Q NoX := by
  subst hL
  exact sn_local hk hl (.there .here) .here h
/-- a list comprehension over one local name -/
theorem lc_one {elt iter : PySem.Expr} {x : PySem.Str} {p : Pos} {ifs : List PySem.Expr} {scope : Scope} {cl : List (PySem.Str × Addr)} {P : Addr → Addr → Sto → Prop}
    (hlay : lay scope.names = m1 x none) (hcells : ∀ n σ, layC n scope.names σ = σ) (hx : ∀ C, (compE scope cl C env).kindOf x = some .local)
    (hkind : ∀ C, (compE scope cl C env).scope.kind = .function)
    (h : EV G κ env iter σ (fun a σ₁ => ∃ sr xs, IsSr a sr xs σ₁ ∧ xs.length ≤ sizeLine ∧ ∃ I : List AV → List AV → Sto → Prop, I xs [] σ₁ ∧ (∀ ys done τ, I ys done τ → SrOk sr xs τ) ∧
      (∀ r C y ys done τ, I (y :: ys) done τ → TSS G κ (compE scope cl C env) ifs ((C, .ns (m1 x (some y))) :: (r, .list done) :: τ) (fun b σ₂ =>
        if b then EV G κ (compE scope cl C env) elt σ₂ (fun v σ₃ => ∃ τ' : Sto, Pt ((C, .ns (m1 x (some y))) :: (r, .list done) :: τ') σ₃ ∧ I ys (done ++ [v]) τ') NoX
        else ∃ τ' : Sto, Pt ((C, .ns (m1 x (some y))) :: (r, .list done) :: τ') σ₂ ∧ I ys done τ') NoX) ∧
      (∀ r C done τ o, I [] done τ → P r C ((C, .ns (m1 x o)) :: (r, .list done) :: τ))) NoX) : LC G κ env elt (.Name x p) iter ifs scope cl σ P := by
  unfold LC
  refine W.post h fun a σ₁ hh => ?_
  obtain ⟨sr, xs, hsr, hlen, I, hI, hI2, step, fin⟩ := hh
  refine ⟨sr, xs, hsr, fun r C => ?_⟩
  rw [hlay, hcells]
  exact cr_inv (C := C) (m₀ := m1 x) I (fun y o τ Q hQ => up_m1 (hkind C) (hx C) rfl hQ) hI2 hlen (step r C) (fin r C) xs [] σ₁ none (by simp) hI
-- equality
theorem op_eq_list_empty {l b : Addr} {xs : List AV} {Q : AV → Sto → Prop} {n : Nat} {hd : Option Hx} (hl : (l, .list xs) ∈ σ) (hb : (b, .list []) ∈ σ) (h : Q (.bool xs.isEmpty) σ) : OP2 G ⟨n, hd⟩ (compareOp .Eq) (.ref l) (.ref b) σ Q X := fun x y hx hy A ρ s hA z => by
  rw [ab_ref hx, ab_ref hy]
  obtain ⟨us, n, e, hu⟩ := z.list hl
  obtain ⟨vs, m, e', hv⟩ := z.list hb
  have hvs : vs.size = 0 := by rw [size_of hv]; rfl
  have hu' := hA.units
  cases xs with
  | nil =>
    refine SeqAt.eq_listAt (e := fun _a => true) e.isList e'.isList (by rw [hvs, size_of hu]; rfl) (by simp only at hu'; walk_at "om") (fun j h1 h2 => by walk_at "om") ?_
    refine ⟨σ, ?_, z⟩
    have : us.size = 0 := by rw [size_of hu]; rfl
    rw [this]; exact h
  | cons a r =>
    refine SeqAt.eq_list_lengthsAt e.isList e'.isList (by rw [hvs, size_of hu]; rfl) (by simp only at hu'; walk_at "om") ⟨σ, h, z⟩
end
end B1Text
section B2Text
inductive Inm (x : PySem.Str) (v : AV) : List (PySem.Str × Option AV) → Prop
  | here {r : List (PySem.Str × Option AV)} : Inm x v ((x, some v) :: r)
  | there {p : PySem.Str × Option AV} {r : List (PySem.Str × Option AV)} : Inm x v r → Inm x v (p :: r)
theorem Inm.mem {x : PySem.Str} {v : AV} : ∀ {m : List (PySem.Str × Option AV)}, Inm x v m → (x, some v) ∈ m := by
  intro m h
  induction h with
  | here => exact .head _
  | there _ ih => exact .tail _ ih
section
variable {G : Gd} {κ : Kx} {env : Env} {σ σ' : Sto} {X : XP}
/-- a name's kind found, what is left of reading it -/
noncomputable def LNK (G : Gd) (κ : Kx) (env : Env) (n : PySem.Str) (k : NameKind) (σ : Sto) (Q : AV → Sto → Prop) (X : XP) : Prop := env.scope.kind = .function → env.kindOf n = some k → LN G κ env n σ Q X
noncomputable def SNK (G : Gd) (κ : Kx) (env : Env) (n : PySem.Str) (k : NameKind) (a : AV) (σ : Sto) (Q : Sto → Prop) (X : XP) : Prop := env.scope.kind = .function → env.kindOf n = some k → SN G κ env n a σ Q X
theorem ev_n {x : PySem.Str} {pos : Pos} {k : NameKind} {Q : AV → Sto → Prop} (hd : (x == ("__debug__" : PySem.Str)) = false) (hk : env.scope.kind = .function) (hl : env.kindOf x = some k) (h : LNK G κ env x k σ Q X) : EV G κ env (.Name x pos) σ Q X := ev_name (h hk hl) hd
theorem ln_kind {x : PySem.Str} {k : NameKind} {Q : AV → Sto → Prop} (hk : env.scope.kind = .function) (hl : env.kindOf x = some k) (h : LNK G κ env x k σ Q X) : LN G κ env x σ Q X := h hk hl
theorem sn_kind {x : PySem.Str} {k : NameKind} {a : AV} {Q : Sto → Prop} (hk : env.scope.kind = .function) (hl : env.kindOf x = some k) (h : SNK G κ env x k a σ Q X) : SN G κ env x a σ Q X := h hk hl
theorem lnk_local {x : PySem.Str} {Q : AV → Sto → Prop} {L : Addr} {m : List (PySem.Str × Option AV)} {v : AV} (hL : env.locals = L)
    (hm : (L, .ns m) ∈ σ) (hx : Inm x v m) (h : Q v σ) : LNK G κ env x .local σ Q X := fun hk hl => ln_local hk hl (by rw [hL]; exact hm) hx.mem h
theorem lnk_cell {x : PySem.Str} {Q : AV → Sto → Prop} {c : Addr} {v : AV} (hc : env.cells.lookup x = some c)
    (hm : (c, .cell (some v)) ∈ σ) (h : Q v σ) : LNK G κ env x .cell σ Q X := fun hk hl => ln_cell hk hl hc hm h
theorem lnk_free {x : PySem.Str} {Q : AV → Sto → Prop} {c : Addr} {v : AV} (hc : env.cells.lookup x = some c)
    (hn : (x == ("__classdict__" : PySem.Str)) = false) (hm : (c, .cell (some v)) ∈ σ) (h : Q v σ) : LNK G κ env x .free σ Q X := fun hk hl => ln_free hk hl hc hm h hn
theorem snk_local {x : PySem.Str} {v : AV} {Q : Sto → Prop} {L : Addr} {m m' : List (PySem.Str × Option AV)} (hL : env.locals = L)
    (u : Up L (.ns m) (.ns m') σ σ') (hm : Upm x v m m') (h : Q σ') : SNK G κ env x .local v σ Q X := fun hk hl => sn_local hk hl hm (by rw [hL]; exact u) h
theorem snk_cell {x : PySem.Str} {v : AV} {Q : Sto → Prop} {c : Addr} {o : Option AV} (hc : env.cells.lookup x = some c)
    (u : Up c (.cell o) (.cell (some v)) σ σ') (h : Q σ') : SNK G κ env x .cell v σ Q X := fun hk hl => sn_cell hk hl hc u h
-- some steps at once
theorem mm1 {α : Type} {x a : α} {r : List α} : x ∈ a :: x :: r := .tail _ (.head _)
theorem mm2 {α : Type} {x a b : α} {r : List α} : x ∈ a :: b :: x :: r := .tail _ mm1
theorem mm3 {α : Type} {x a b c : α} {r : List α} : x ∈ a :: b :: c :: x :: r := .tail _ mm2
theorem mm4 {α : Type} {x a b c d : α} {r : List α} (h : x ∈ r) : x ∈ a :: b :: c :: d :: r := .tail _ (.tail _ (.tail _ (.tail _ h)))
theorem Up.at1 {a : Addr} {o o' : AO} {p : Addr × AO} {r : Sto} : Up a o o' (p :: (a, o) :: r) (p :: (a, o') :: r) := .there .here
theorem Up.at2 {a : Addr} {o o' : AO} {p q : Addr × AO} {r : Sto} : Up a o o' (p :: q :: (a, o) :: r) (p :: q :: (a, o') :: r) := .there .at1
theorem Up.at3 {a : Addr} {o o' : AO} {p q t : Addr × AO} {r : Sto} : Up a o o' (p :: q :: t :: (a, o) :: r) (p :: q :: t :: (a, o') :: r) := .there .at2
theorem Up.at4 {a : Addr} {o o' : AO} {p q t u : Addr × AO} {r r' : Sto} (h : Up a o o' r r') : Up a o o' (p :: q :: t :: u :: r) (p :: q :: t :: u :: r') := .there (.there (.there (.there h)))
theorem Rm.at1 {a : Addr} {o : AO} {p : Addr × AO} {r : Sto} : Rm a o (p :: (a, o) :: r) (p :: r) := .there .here
theorem Rm.at2 {a : Addr} {o : AO} {p q : Addr × AO} {r : Sto} : Rm a o (p :: q :: (a, o) :: r) (p :: q :: r) := .there .at1
theorem Rm.at3 {a : Addr} {o : AO} {p q t : Addr × AO} {r : Sto} : Rm a o (p :: q :: t :: (a, o) :: r) (p :: q :: t :: r) := .there .at2
theorem Rm.at4 {a : Addr} {o : AO} {p q t u : Addr × AO} {r r' : Sto} (h : Rm a o r r') : Rm a o (p :: q :: t :: u :: r) (p :: q :: t :: u :: r') := .there (.there (.there (.there h)))
theorem Inm.at1 {x : PySem.Str} {v : AV} {p : PySem.Str × Option AV} {r : List (PySem.Str × Option AV)} : Inm x v (p :: (x, some v) :: r) := .there .here
theorem Inm.at2 {x : PySem.Str} {v : AV} {p q : PySem.Str × Option AV} {r : List (PySem.Str × Option AV)} : Inm x v (p :: q :: (x, some v) :: r) := .there .at1
theorem Inm.at3 {x : PySem.Str} {v : AV} {p q t : PySem.Str × Option AV} {r : List (PySem.Str × Option AV)} : Inm x v (p :: q :: t :: (x, some v) :: r) := .there .at2
theorem Inm.at4 {x : PySem.Str} {v : AV} {p q t u : PySem.Str × Option AV} {r : List (PySem.Str × Option AV)} (h : Inm x v r) : Inm x v (p :: q :: t :: u :: r) := .there (.there (.there (.there h)))
theorem Upm.at1 {x : PySem.Str} {v : AV} {o : Option AV} {p : PySem.Str × Option AV} {r : List (PySem.Str × Option AV)} : Upm x v (p :: (x, o) :: r) (p :: (x, some v) :: r) := .there .here
theorem Upm.at2 {x : PySem.Str} {v : AV} {o : Option AV} {p q : PySem.Str × Option AV} {r : List (PySem.Str × Option AV)} : Upm x v (p :: q :: (x, o) :: r) (p :: q :: (x, some v) :: r) := .there .at1
theorem Upm.at3 {x : PySem.Str} {v : AV} {p q t : PySem.Str × Option AV} {r r' : List (PySem.Str × Option AV)} (h : Upm x v r r') : Upm x v (p :: q :: t :: r) (p :: q :: t :: r') := .there (.there (.there h))
theorem kc2 {f : AV} {Q : AV → Sto → Prop} {vs : List AV} (hk : KP G κ f σ) (h : CL G κ f vs σ Q X) : KP G κ f σ ∧ CL G κ f vs σ Q X := ⟨hk, h⟩
theorem kls {Q : AV → Sto → Prop} {vs : List AV} (hz : vs.length ≤ sizeLine) (h : ∀ a, Q (.ref a) ((a, .list vs) :: σ)) : KLs Q vs σ := ⟨hz, h⟩
theorem ktp {Q : AV → Sto → Prop} {vs : List AV} (hz : vs.length ≤ sizeLine) (h : ∀ a, Q (.ref a) ((a, .tup vs) :: σ)) : KTp Q vs σ := ⟨hz, h⟩
noncomputable abbrev KC2 (G : Gd) (κ : Kx) (f : AV) (Q : AV → Sto → Prop) (X : XP) : List AV → Sto → Prop := fun vs σ => KP G κ f σ ∧ CL G κ f vs σ Q X
noncomputable abbrev KC1 (G : Gd) (κ : Kx) (env : Env) (args : List PySem.Expr) (Q : AV → Sto → Prop) (X : XP) : AV → Sto → Prop := fun f σ => AS G κ env args σ (KC2 G κ f Q X) X
theorem ev_call {id : PySem.Str} {p pos : Pos} {args : List PySem.Expr} {Q : AV → Sto → Prop} (h : EV G κ env (.Name id p) σ (KC1 G κ env args Q X) X)
    (hstar : (backTo pos (starEach args env)).any (·.1) = false) : EV G κ env (.Call (.Name id p) args [] pos) σ Q X := fun A ρ s hA z => by
  refine wpAny_Call_NameR (wpAny_mono (h A ρ s hA z) (fun f s₁ => pe fun σ₁ q z₁ => ?_) fun _a _b x => x)
  exact w_callWith (first := []) (firstA := []) rfl rfl q hstar A ρ s₁ hA z₁
theorem ev_meth {o : PySem.Expr} {name : PySem.Str} {apos pos : Pos} {args : List PySem.Expr} {Tn id : String} {Q : AV → Sto → Prop} (pa : PlainAttrs Tn) (sl : Slot Tn name id) (ty : typeOf (.builtin id) = pure (.type "method_descriptor"))
    (hbase : attributeBase o name env (eval o env) = eval o env)
    (hfew : ((backTo pos (starEach args env)).all (fun x => !x.1) && (backToKw pos (keywordEach [] env)).all (fun x => x.1.isSome)
      && decide (args.length + ([] : List Keyword).length + (if ([] : List Keyword).isEmpty then 0 else 1) < 30)) = true)
    (hline : (apos.endLine == pos.line) = true) (hstar : (backTo pos (starEach args env)).any (·.1) = false)
    (h : EV G κ env o σ (fun ov σ₁ => (∀ ρ s x, St G ρ σ₁ s → ab x = ov → s.TypeIs x Tn ∧ ∀ a, x = .ref a → ∃ ob, s.heap.get? a = some ob ∧ ob.dict = none) ∧
      AS G κ env args σ₁ (fun vs σ₂ => CL G κ (.bi id) (ov :: vs) σ₂ Q X) X) X) : EV G κ env (.Call (.Attribute o name apos) args [] pos) σ Q X := fun A ρ s hA z => by
  refine wpAny_Call_method_lateS hbase hfew hline (wpAny_mono (h A ρ s hA z) (fun ov s₁ => pe fun σ₁ hh z₁ => ?_) fun _a _b x => x)
  obtain ⟨ht, q⟩ := hh
  obtain ⟨h1, h2⟩ := ht ρ s₁ ov z₁ rfl
  refine ⟨Tn, id, pa, sl, ty, h1, h2, ?_⟩
  exact w_callWith (first := [ov]) (firstA := [ab ov]) (fv := .bi id) rfl rfl (fun pos => W.post (q pos) fun vs σ₂ q => ⟨kp_bi, q⟩) hstar A ρ s₁ hA z₁
noncomputable abbrev KM (G : Gd) (κ : Kx) (id : String) (o : AV) (Q : AV → Sto → Prop) (X : XP) : List AV → Sto → Prop := fun vs σ => CL G κ (.bi id) (o :: vs) σ Q X
inductive MsP (G : Gd) (κ : Kx) (env : Env) (args : List PySem.Expr) (id : String) (Q : AV → Sto → Prop) (X : XP) (a : AV) (σ : Sto) : Prop
  | mk (u : PySem.Str) (e : a = .str u) (h : AS G κ env args σ (KM G κ id (.str u) Q X) X)
inductive MlP (G : Gd) (κ : Kx) (env : Env) (args : List PySem.Expr) (id : String) (Q : AV → Sto → Prop) (X : XP) (a : AV) (σ : Sto) : Prop
  | mk (l : Addr) (xs : List AV) (e : a = .ref l) (hm : (l, .list xs) ∈ σ) (h : AS G κ env args σ (KM G κ id (.ref l) Q X) X)
theorem ev_meth_str {o : PySem.Expr} {name : PySem.Str} {apos pos : Pos} {args : List PySem.Expr} {id : String} {Q : AV → Sto → Prop} (sl : Slot "str" name id) (ty : typeOf (.builtin id) = pure (.type "method_descriptor"))
    (hbase : attributeBase o name env (eval o env) = eval o env)
    (hfew : ((backTo pos (starEach args env)).all (fun x => !x.1) && (backToKw pos (keywordEach [] env)).all (fun x => x.1.isSome)
      && decide (args.length + ([] : List Keyword).length + (if ([] : List Keyword).isEmpty then 0 else 1) < 30)) = true)
    (hline : (apos.endLine == pos.line) = true) (hstar : (backTo pos (starEach args env)).any (·.1) = false)
    (h : EV G κ env o σ (MsP G κ env args id Q X) X) : EV G κ env (.Call (.Attribute o name apos) args [] pos) σ Q X :=
  ev_meth F.plainAttrs_str sl ty hbase hfew hline hstar (W.post h fun ov σ₁ q => by
    obtain ⟨u, e, q⟩ := q
    subst e
    refine ⟨fun ρ s x _a hx => ?_, q⟩
    obtain ⟨t, rfl⟩ := ab_str hx
    exact ⟨typeIs_str s u t, fun a e => nomatch e⟩)
theorem ev_meth_list {o : PySem.Expr} {name : PySem.Str} {apos pos : Pos} {args : List PySem.Expr} {id : String} {Q : AV → Sto → Prop} (sl : Slot "list" name id) (ty : typeOf (.builtin id) = pure (.type "method_descriptor"))
    (hbase : attributeBase o name env (eval o env) = eval o env)
    (hfew : ((backTo pos (starEach args env)).all (fun x => !x.1) && (backToKw pos (keywordEach [] env)).all (fun x => x.1.isSome)
      && decide (args.length + ([] : List Keyword).length + (if ([] : List Keyword).isEmpty then 0 else 1) < 30)) = true)
    (hline : (apos.endLine == pos.line) = true) (hstar : (backTo pos (starEach args env)).any (·.1) = false)
    (h : EV G κ env o σ (MlP G κ env args id Q X) X) : EV G κ env (.Call (.Attribute o name apos) args [] pos) σ Q X :=
  ev_meth F.plainAttrs_list sl ty hbase hfew hline hstar (W.post h fun ov σ₁ q => by
    obtain ⟨l, xs, e, hm, q⟩ := q
    subst e
    refine ⟨fun ρ s x z hx => ?_, q⟩
    rw [ab_ref hx]
    obtain ⟨ys, n, hl, _⟩ := z.list hm
    exact ⟨hl.isList.typeIs, fun a e => by injection e with e; subst e; exact ⟨_, hl, rfl⟩⟩)
theorem cl_append {l : Addr} {xs : List AV} {v : AV} {Q : AV → Sto → Prop} (u : Up l (.list xs) (.list (xs ++ [v])) σ σ') (hz : xs.length ≤ sizeLine) (h : Q .none σ') : CL G κ (.bi "list.append") [.ref l, v] σ Q X := fun g vs hg hvs A ρ s hA z => by
  rw [ab_bi hg]
  obtain ⟨a, b, rfl, ha, rfl⟩ := two hvs
  rw [ab_ref ha]
  exact list_append z u hz fun s' z' => ⟨σ', h, z'⟩
theorem layC_cell {n : Nat} {x : PySem.Str} {r : List (PySem.Str × NameKind)} : layC n ((x, .cell) :: r) σ = layC (n + 1) r ((n, .cell none) :: σ) := rfl
theorem layC_local {n : Nat} {x : PySem.Str} {r : List (PySem.Str × NameKind)} : layC n ((x, .local) :: r) σ = layC n r σ := rfl
theorem layC_free {n : Nat} {x : PySem.Str} {r : List (PySem.Str × NameKind)} : layC n ((x, .free) :: r) σ = layC n r σ := rfl
theorem layC_global {n : Nat} {x : PySem.Str} {r : List (PySem.Str × NameKind)} : layC n ((x, .globalImplicit) :: r) σ = layC n r σ := rfl
theorem layC_nil {n : Nat} : layC n [] σ = σ := rfl
theorem lay_nil : lay [] = [] := rfl
theorem lay_cell {x : PySem.Str} {r : List (PySem.Str × NameKind)} : lay ((x, .cell) :: r) = lay r := rfl
theorem lay_local {x : PySem.Str} {r : List (PySem.Str × NameKind)} : lay ((x, .local) :: r) = (x, none) :: lay r := rfl
theorem lay_free {x : PySem.Str} {r : List (PySem.Str × NameKind)} : lay ((x, .free) :: r) = lay r := rfl
theorem lay_global {x : PySem.Str} {r : List (PySem.Str × NameKind)} : lay ((x, .globalImplicit) :: r) = lay r := rfl
theorem bn_nil {Q : Sto → Prop} : BN G κ env [] σ Q X = Q σ := rfl
theorem bn_cons {x : PySem.Str} {a : AV} {r : List (PySem.Str × AV)} {Q : Sto → Prop} : BN G κ env ((x, a) :: r) σ Q X = SN G κ env x a σ (fun σ' => BN G κ env r σ' Q X) X := rfl
end
end B2Text
section B3Text
noncomputable def ftab : List (Nat × Addr) := [(5, 85), (7, 92), (8, 99), (11, 111), (12, 118), (13, 125), (15, 132), (17, 137), (18, 142), (19, 149), (20, 154), (21, 161), (22, 168), (23, 175), (24, 182), (25, 187)]
noncomputable def gtab : List (PySem.Str × Option Value) :=
  [(PySem.Str.ofString "len", none), (PySem.Str.ofString "range", none), (PySem.Str.ofString "min", none), (PySem.Str.ofString "max", none), (PySem.Str.ofString "sum", none), (PySem.Str.ofString "list", none), (PySem.Str.ofString "map", none), (PySem.Str.ofString "isinstance", none), (PySem.Str.ofString "str", none), (PySem.Str.ofString "type", none), (PySem.Str.ofString "bool", none), (PySem.Str.ofString "set", none), (PySem.Str.ofString "filter", none), (PySem.Str.ofString "enumerate", none), (PySem.Str.ofString "sorted", none), (PySem.Str.ofString "object", none), (PySem.Str.ofString "IndexError", none),
   (PySem.Str.ofString "Entry", some (Value.ref 69)), (PySem.Str.ofString "_special_chars_map", some (Value.ref 75)), (PySem.Str.ofString "escape", some (Value.ref 85)), (PySem.Str.ofString "translate_pattern", some (Value.ref 92)), (PySem.Str.ofString "merge_entries", some (Value.ref 99)), (PySem.Str.ofString "_twin_re_1", some (Value.ref 104)), (PySem.Str.ofString "translate", some (Value.ref 111)), (PySem.Str.ofString "_translate", some (Value.ref 118)), (PySem.Str.ofString "_join_translated_parts", some (Value.ref 125)),
   (PySem.Str.ofString "sorted_list_difference", some (Value.ref 132)), (PySem.Str.ofString "_law_items", some (Value.ref 137)), (PySem.Str.ofString "_law_tried", some (Value.ref 142)), (PySem.Str.ofString "_law_parts", some (Value.ref 149)), (PySem.Str.ofString "_law_stands", some (Value.ref 154)), (PySem.Str.ofString "_law_place", some (Value.ref 161)), (PySem.Str.ofString "_law_goes", some (Value.ref 168)), (PySem.Str.ofString "_law_rule", some (Value.ref 175)), (PySem.Str.ofString "_law_record", some (Value.ref 182)), (PySem.Str.ofString "_law_due", some (Value.ref 187))]
noncomputable def btab : List (PySem.Str × Value) :=
  [(PySem.Str.ofString "len", Value.builtin "len"), (PySem.Str.ofString "range", Value.type "range"), (PySem.Str.ofString "min", Value.builtin "min"), (PySem.Str.ofString "max", Value.builtin "max"), (PySem.Str.ofString "sum", Value.builtin "sum"), (PySem.Str.ofString "list", Value.type "list"), (PySem.Str.ofString "map", Value.type "map"), (PySem.Str.ofString "isinstance", Value.builtin "isinstance"), (PySem.Str.ofString "str", Value.type "str"), (PySem.Str.ofString "type", Value.type "type"), (PySem.Str.ofString "bool", Value.type "bool"), (PySem.Str.ofString "set", Value.type "set"), (PySem.Str.ofString "filter", Value.type "filter"),
   (PySem.Str.ofString "enumerate", Value.type "enumerate"), (PySem.Str.ofString "sorted", Value.builtin "sorted"), (PySem.Str.ofString "object", Value.type "object"), (PySem.Str.ofString "IndexError", Value.type "IndexError")]
structure Top (G : Gd) extends Tp G where
  cd : Nat → Value
  pm : Nat → Value
  gt : ∀ x o, gtab.lookup x = some o → mg x = o
  bt : ∀ x v, btab.lookup x = some v → mb x = some v
  fn : ∀ n a, ftab.lookup n = some a → FnAt G a (fdk n (cd n) (pm n))
section
variable {G : Gd} {κ : Kx} {env : Env} {σ σ' : Sto} {X : XP}
theorem lnk_glob (T : Top G) {x : PySem.Str} {Q : AV → Sto → Prop} {u : Value} (hg : env.globals = mainGlobals)
    (hx : gtab.lookup x = some (some u)) (h : Q (ab u) σ) : LNK G κ env x .globalImplicit σ Q X := fun hk hl => ln_global T.toTp hk hl hg (T.gt _ _ hx) rfl h
theorem lnk_buil (T : Top G) {x : PySem.Str} {Q : AV → Sto → Prop} {u : Value} (hg : env.globals = mainGlobals) (hb : env.builtins = builtinsNs)
    (hx : gtab.lookup x = some none) (hu : btab.lookup x = some u) (h : Q (ab u) σ) : LNK G κ env x .globalImplicit σ Q X := fun hk hl => ln_builtin T.toTp hk hl hg hb (T.gt _ _ hx) (T.bt _ _ hu) rfl h
theorem ftab_ok : ∀ p ∈ ftab, ftab.lookup p.1 = some p.2 := by decide
theorem kp_f (T : Top G) {a : Addr} (h : (ftab.any fun p => p.2 == a) = true) : KP G κ (.ref a) σ := by
  obtain ⟨p, hp, e⟩ := List.any_eq_true.mp h
  obtain rfl := eq_of_beq e
  exact kp_fn (T.fn p.1 p.2 (ftab_ok p hp))
end
end B3Text
section B4Text
section
variable {cd pm : Value}
theorem nm5 : (fdk 5 cd pm).scope.names = [(PySem.Str.ofString "pattern", NameKind.local), (PySem.Str.ofString "isinstance", NameKind.globalImplicit), (PySem.Str.ofString "str", NameKind.globalImplicit), (PySem.Str.ofString "_special_chars_map", NameKind.globalImplicit)] := rfl
noncomputable abbrev ar5 : List PySem.Str := [PySem.Str.ofString "pattern"]
theorem nd5 : ((lay (fdk 5 cd pm).scope.names).map (·.1)).Nodup := by rw [nm5]; decide +kernel
theorem nm7 : (fdk 7 cd pm).scope.names = [(PySem.Str.ofString "path", NameKind.local), (PySem.Str.ofString "parts", NameKind.local), (PySem.Str.ofString "i", NameKind.local), (PySem.Str.ofString "list", NameKind.globalImplicit), (PySem.Str.ofString "map", NameKind.globalImplicit), (PySem.Str.ofString "escape", NameKind.globalImplicit), (PySem.Str.ofString "range", NameKind.globalImplicit), (PySem.Str.ofString "len", NameKind.globalImplicit)] := rfl
noncomputable abbrev ar7 : List PySem.Str := [PySem.Str.ofString "path"]
theorem nd7 : ((lay (fdk 7 cd pm).scope.names).map (·.1)).Nodup := by rw [nm7]; decide +kernel
theorem nm8 : (fdk 8 cd pm).scope.names = [(PySem.Str.ofString "e1", NameKind.local), (PySem.Str.ofString "e2", NameKind.local), (PySem.Str.ofString "entry", NameKind.local), (PySem.Str.ofString "Entry", NameKind.globalImplicit), (PySem.Str.ofString "list", NameKind.globalImplicit), (PySem.Str.ofString "filter", NameKind.globalImplicit), (PySem.Str.ofString "set", NameKind.globalImplicit)] := rfl
noncomputable abbrev ar8 : List PySem.Str := [PySem.Str.ofString "e1", PySem.Str.ofString "e2"]
theorem nd8 : ((lay (fdk 8 cd pm).scope.names).map (·.1)).Nodup := by rw [nm8]; decide +kernel
theorem nm11 : (fdk 11 cd pm).scope.names = [(PySem.Str.ofString "pat", NameKind.local), (PySem.Str.ofString "STAR", NameKind.local), (PySem.Str.ofString "parts", NameKind.local), (PySem.Str.ofString "object", NameKind.globalImplicit), (PySem.Str.ofString "_translate", NameKind.globalImplicit), (PySem.Str.ofString "_join_translated_parts", NameKind.globalImplicit)] := rfl
noncomputable abbrev ar11 : List PySem.Str := [PySem.Str.ofString "pat"]
theorem nd11 : ((lay (fdk 11 cd pm).scope.names).map (·.1)).Nodup := by rw [nm11]; decide +kernel
theorem nm12 : (fdk 12 cd pm).scope.names = [(PySem.Str.ofString "pat", NameKind.local), (PySem.Str.ofString "STAR", NameKind.local), (PySem.Str.ofString "QUESTION_MARK", NameKind.local), (PySem.Str.ofString "res", NameKind.local), (PySem.Str.ofString "add", NameKind.local), (PySem.Str.ofString "i", NameKind.local), (PySem.Str.ofString "n", NameKind.local), (PySem.Str.ofString "c", NameKind.local), (PySem.Str.ofString "j", NameKind.local), (PySem.Str.ofString "stuff", NameKind.local), (PySem.Str.ofString "chunks", NameKind.local), (PySem.Str.ofString "k", NameKind.local), (PySem.Str.ofString "chunk", NameKind.local), (PySem.Str.ofString "len", NameKind.globalImplicit), (PySem.Str.ofString "range", NameKind.globalImplicit), (PySem.Str.ofString "_twin_re_1", NameKind.globalImplicit), (PySem.Str.ofString "escape", NameKind.globalImplicit)] := rfl
noncomputable abbrev ar12 : List PySem.Str := [PySem.Str.ofString "pat", PySem.Str.ofString "STAR", PySem.Str.ofString "QUESTION_MARK"]
theorem nd12 : ((lay (fdk 12 cd pm).scope.names).map (·.1)).Nodup := by rw [nm12]; decide +kernel
theorem nm13 : (fdk 13 cd pm).scope.names = [(PySem.Str.ofString "inp", NameKind.local), (PySem.Str.ofString "STAR", NameKind.local), (PySem.Str.ofString "res", NameKind.local), (PySem.Str.ofString "add", NameKind.local), (PySem.Str.ofString "i", NameKind.local), (PySem.Str.ofString "n", NameKind.local), (PySem.Str.ofString "fixed", NameKind.local), (PySem.Str.ofString "len", NameKind.globalImplicit)] := rfl
noncomputable abbrev ar13 : List PySem.Str := [PySem.Str.ofString "inp", PySem.Str.ofString "STAR"]
theorem nd13 : ((lay (fdk 13 cd pm).scope.names).map (·.1)).Nodup := by rw [nm13]; decide +kernel
theorem nm15 : (fdk 15 cd pm).scope.names = [(PySem.Str.ofString "expected", NameKind.local), (PySem.Str.ofString "actual", NameKind.local), (PySem.Str.ofString "i", NameKind.local), (PySem.Str.ofString "j", NameKind.local), (PySem.Str.ofString "missing", NameKind.local), (PySem.Str.ofString "unexpected", NameKind.local), (PySem.Str.ofString "e", NameKind.local), (PySem.Str.ofString "a", NameKind.local), (PySem.Str.ofString "IndexError", NameKind.globalImplicit)] := rfl
noncomputable abbrev ar15 : List PySem.Str := [PySem.Str.ofString "expected", PySem.Str.ofString "actual"]
theorem nd15 : ((lay (fdk 15 cd pm).scope.names).map (·.1)).Nodup := by rw [nm15]; decide +kernel
theorem nm17 : (fdk 17 cd pm).scope.names = [(PySem.Str.ofString "number", NameKind.cell), (PySem.Str.ofString "items", NameKind.local), (PySem.Str.ofString "range", NameKind.globalImplicit)] := rfl
noncomputable abbrev ar17 : List PySem.Str := [PySem.Str.ofString "number"]
theorem nd17 : ((lay (fdk 17 cd pm).scope.names).map (·.1)).Nodup := by rw [nm17]; decide +kernel
theorem nm18 : (fdk 18 cd pm).scope.names = [(PySem.Str.ofString "items", NameKind.local), (PySem.Str.ofString "name", NameKind.cell), (PySem.Str.ofString "places", NameKind.cell), (PySem.Str.ofString "item", NameKind.cell), (PySem.Str.ofString "range", NameKind.globalImplicit), (PySem.Str.ofString "len", NameKind.globalImplicit)] := rfl
noncomputable abbrev ar18 : List PySem.Str := [PySem.Str.ofString "items", PySem.Str.ofString "name"]
theorem nd18 : ((lay (fdk 18 cd pm).scope.names).map (·.1)).Nodup := by rw [nm18]; decide +kernel
theorem nm19 : (fdk 19 cd pm).scope.names = [(PySem.Str.ofString "text", NameKind.local), (PySem.Str.ofString "place", NameKind.local), (PySem.Str.ofString "parts", NameKind.local), (PySem.Str.ofString "end", NameKind.local), (PySem.Str.ofString "item", NameKind.local), (PySem.Str.ofString "len", NameKind.globalImplicit)] := rfl
noncomputable abbrev ar19 : List PySem.Str := [PySem.Str.ofString "text"]
theorem nd19 : ((lay (fdk 19 cd pm).scope.names).map (·.1)).Nodup := by rw [nm19]; decide +kernel
theorem nm20 : (fdk 20 cd pm).scope.names = [(PySem.Str.ofString "items", NameKind.cell), (PySem.Str.ofString "name", NameKind.cell), (PySem.Str.ofString "place", NameKind.cell), (PySem.Str.ofString "len", NameKind.globalImplicit), (PySem.Str.ofString "range", NameKind.globalImplicit)] := rfl
noncomputable abbrev ar20 : List PySem.Str := [PySem.Str.ofString "items", PySem.Str.ofString "name", PySem.Str.ofString "place"]
theorem nd20 : ((lay (fdk 20 cd pm).scope.names).map (·.1)).Nodup := by rw [nm20]; decide +kernel
theorem nm21 : (fdk 21 cd pm).scope.names = [(PySem.Str.ofString "items", NameKind.local), (PySem.Str.ofString "name", NameKind.local), (PySem.Str.ofString "places", NameKind.local), (PySem.Str.ofString "k", NameKind.local), (PySem.Str.ofString "_law_stands", NameKind.globalImplicit)] := rfl
noncomputable abbrev ar21 : List PySem.Str := [PySem.Str.ofString "items", PySem.Str.ofString "name", PySem.Str.ofString "places"]
theorem nd21 : ((lay (fdk 21 cd pm).scope.names).map (·.1)).Nodup := by rw [nm21]; decide +kernel
theorem nm22 : (fdk 22 cd pm).scope.names = [(PySem.Str.ofString "parts", NameKind.local), (PySem.Str.ofString "name", NameKind.local), (PySem.Str.ofString "place", NameKind.local), (PySem.Str.ofString "star", NameKind.local), (PySem.Str.ofString "items", NameKind.local), (PySem.Str.ofString "rest", NameKind.local), (PySem.Str.ofString "found", NameKind.local), (PySem.Str.ofString "range", NameKind.globalImplicit), (PySem.Str.ofString "len", NameKind.globalImplicit), (PySem.Str.ofString "_law_place", NameKind.globalImplicit)] := rfl
noncomputable abbrev ar22 : List PySem.Str := [PySem.Str.ofString "parts", PySem.Str.ofString "name"]
theorem nd22 : ((lay (fdk 22 cd pm).scope.names).map (·.1)).Nodup := by rw [nm22]; decide +kernel
theorem nm23 : (fdk 23 cd pm).scope.names = [(PySem.Str.ofString "answers", NameKind.cell), (PySem.Str.ofString "verdict", NameKind.local), (PySem.Str.ofString "rule", NameKind.local)] := rfl
noncomputable abbrev ar23 : List PySem.Str := [PySem.Str.ofString "answers", PySem.Str.ofString "verdict"]
theorem nd23 : ((lay (fdk 23 cd pm).scope.names).map (·.1)).Nodup := by rw [nm23]; decide +kernel
theorem nm24 : (fdk 24 cd pm).scope.names = [(PySem.Str.ofString "agents", NameKind.local), (PySem.Str.ofString "rules", NameKind.local), (PySem.Str.ofString "record", NameKind.local), (PySem.Str.ofString "Entry", NameKind.globalImplicit)] := rfl
noncomputable abbrev ar24 : List PySem.Str := [PySem.Str.ofString "agents", PySem.Str.ofString "rules"]
theorem nd24 : ((lay (fdk 24 cd pm).scope.names).map (·.1)).Nodup := by rw [nm24]; decide +kernel
theorem nm25 : (fdk 25 cd pm).scope.names = [(PySem.Str.ofString "fars", NameKind.cell), (PySem.Str.ofString "verdicts", NameKind.cell), (PySem.Str.ofString "name", NameKind.cell), (PySem.Str.ofString "best", NameKind.cell), (PySem.Str.ofString "max", NameKind.globalImplicit), (PySem.Str.ofString "range", NameKind.globalImplicit), (PySem.Str.ofString "len", NameKind.globalImplicit)] := rfl
noncomputable abbrev ar25 : List PySem.Str := [PySem.Str.ofString "fars", PySem.Str.ofString "verdicts", PySem.Str.ofString "name"]
theorem nd25 : ((lay (fdk 25 cd pm).scope.names).map (·.1)).Nodup := by rw [nm25]; decide +kernel
theorem nm26 : (fdk 26 cd pm).scope.names = [(PySem.Str.ofString "script", NameKind.cell), (PySem.Str.ofString "numbers", NameKind.local), (PySem.Str.ofString "drawn", NameKind.local), (PySem.Str.ofString "names", NameKind.cell), (PySem.Str.ofString "rows", NameKind.local), (PySem.Str.ofString "verdicts", NameKind.cell), (PySem.Str.ofString "fars", NameKind.cell), (PySem.Str.ofString "rules", NameKind.cell), (PySem.Str.ofString "items", NameKind.cell), (PySem.Str.ofString "made", NameKind.local), (PySem.Str.ofString "parts", NameKind.cell), (PySem.Str.ofString "path", NameKind.cell), (PySem.Str.ofString "due", NameKind.cell), (PySem.Str.ofString "goes", NameKind.local), (PySem.Str.ofString "agents", NameKind.cell), (PySem.Str.ofString "marks", NameKind.cell), (PySem.Str.ofString "one", NameKind.local), (PySem.Str.ofString "two", NameKind.local), (PySem.Str.ofString "both", NameKind.cell), (PySem.Str.ofString "told", NameKind.local), (PySem.Str.ofString "first", NameKind.cell), (PySem.Str.ofString "merged", NameKind.cell), (PySem.Str.ofString "enumerate", NameKind.globalImplicit), (PySem.Str.ofString "range", NameKind.globalImplicit), (PySem.Str.ofString "sum", NameKind.globalImplicit), (PySem.Str.ofString "sorted", NameKind.globalImplicit), (PySem.Str.ofString "translate", NameKind.globalImplicit), (PySem.Str.ofString "_law_parts", NameKind.globalImplicit), (PySem.Str.ofString "translate_pattern", NameKind.globalImplicit), (PySem.Str.ofString "_law_rule", NameKind.globalImplicit), (PySem.Str.ofString "len", NameKind.globalImplicit), (PySem.Str.ofString "_law_record", NameKind.globalImplicit), (PySem.Str.ofString "merge_entries", NameKind.globalImplicit), (PySem.Str.ofString "sorted_list_difference", NameKind.globalImplicit)] := rfl
noncomputable abbrev ar26 : List PySem.Str := [PySem.Str.ofString "script"]
theorem nd26 : ((lay (fdk 26 cd pm).scope.names).map (·.1)).Nodup := by rw [nm26]; decide +kernel
end
end B4Text
section B5Text
section
variable {G : Gd} {κ : Kx} {env : Env} {σ σ' : Sto} {X : XP}
theorem srok_of {v : AV} {sr : Sr} {xs : List AV} (h : IsSr v sr xs σ) : SrOk sr xs σ := by
  cases sr with
  | lst l => exact h.2
  | rng a c =>
    obtain ⟨r, n, _, _, e⟩ := h
    show xs = rngL a c xs.length
    rw [e, rngL_len]
/-- a comprehension that turns nothing: f says what becomes of an item -/
noncomputable def LP (G : Gd) (κ : Kx) (env : Env) (cenv : Addr → Env) (elt iter : PySem.Expr) (x : PySem.Str) (ifs : List PySem.Expr) (σ : Sto) (P : Addr → Addr → Sto → Prop) : Prop :=
  EV G κ env iter σ (fun a σ₁ => ∃ sr xs, IsSr a sr xs σ₁ ∧ xs.length ≤ sizeLine ∧ ∃ f : AV → Option AV,
    (∀ r C y done, y ∈ xs → TSS G κ (cenv C) ifs ((C, .ns (m1 x (some y))) :: (r, .list done) :: σ₁) (fun b σ₂ =>
      if b then EV G κ (cenv C) elt σ₂ (fun v σ₃ => Pt ((C, .ns (m1 x (some y))) :: (r, .list done) :: σ₁) σ₃ ∧ f y = some v) NoX
      else Pt ((C, .ns (m1 x (some y))) :: (r, .list done) :: σ₁) σ₂ ∧ f y = none) NoX) ∧
    ∀ r C o, P r C ((C, .ns (m1 x o)) :: (r, .list (xs.filterMap f)) :: σ₁)) NoX
theorem lc_pure {elt iter : PySem.Expr} {x : PySem.Str} {p : Pos} {ifs : List PySem.Expr} {scope : Scope} {cl : List (PySem.Str × Addr)} {P : Addr → Addr → Sto → Prop}
    (hlay : lay scope.names = m1 x none) (hcells : ∀ n σ, layC n scope.names σ = σ) (hx : ∀ C, (compE scope cl C env).kindOf x = some .local)
    (hkind : ∀ C, (compE scope cl C env).scope.kind = .function)
    (h : LP G κ env (fun C => compE scope cl C env) elt iter x ifs σ P) : LC G κ env elt (.Name x p) iter ifs scope cl σ P := by
  unfold LP at h
  refine lc_one hlay hcells hx hkind (W.post h fun a σ₁ hh => ?_)
  obtain ⟨sr, xs, hsr, hlen, f, step, fin⟩ := hh
  refine ⟨sr, xs, hsr, hlen, fun ys done τ => τ = σ₁ ∧ ∃ pre, xs = pre ++ ys ∧ done = pre.filterMap f, ⟨rfl, [], rfl, rfl⟩, ?_, ?_, ?_⟩
  · rintro ys done τ ⟨rfl, _⟩; exact srok_of hsr
  · rintro r C y ys done τ ⟨rfl, pre, hp, hd⟩
    refine W.post (step r C y done (by rw [hp]; simp)) fun b σ₂ q => ?_
    cases b with
    | false =>
      simp only [Bool.false_eq_true, if_false] at q ⊢
      exact ⟨_, q.1, rfl, pre ++ [y], by rw [hp]; simp, by rw [hd]; simp [q.2]⟩
    | true =>
      simp only [if_true] at q ⊢
      exact W.post q fun v σ₃ q => ⟨_, q.1, rfl, pre ++ [y], by rw [hp]; simp, by rw [hd]; simp [q.2]⟩
  · rintro r C done τ o ⟨rfl, pre, hp, hd⟩
    have : done = xs.filterMap f := by rw [hd, hp]; simp
    rw [this]; exact fin r C o
/-- an element of a pure comprehension -/
noncomputable abbrev LcB (G : Gd) (κ : Kx) (env : Env) (elt : PySem.Expr) (τ : Sto) (o : Option AV) : Bool → Sto → Prop := fun b σ₂ =>
  if b then EV G κ env elt σ₂ (fun v σ₃ => Pt τ σ₃ ∧ o = some v) NoX else Pt τ σ₂ ∧ o = none
inductive LcP (G : Gd) (κ : Kx) (cenv : Addr → Env) (elt : PySem.Expr) (x : PySem.Str) (ifs : List PySem.Expr) (Q : AV → Sto → Prop) (a : AV) (σ₁ : Sto) : Prop
  | mk (sr : Sr) (xs : List AV) (hsr : IsSr a sr xs σ₁) (hlen : xs.length ≤ sizeLine) (f : AV → Option AV)
    (step : ∀ r C y done, y ∈ xs → TSS G κ (cenv C) ifs ((C, .ns (m1 x (some y))) :: (r, .list done) :: σ₁) (LcB G κ (cenv C) elt ((C, .ns (m1 x (some y))) :: (r, .list done) :: σ₁) (f y)) NoX)
    (fin : ∀ r, Q (.ref r) ((r, .list (xs.filterMap f)) :: σ₁))
theorem ev_lc_pure {elt iter : PySem.Expr} {x : PySem.Str} {p : Pos} {ifs : List PySem.Expr} {scope : Scope} {pos : Pos} {cl : List (PySem.Str × Addr)} {Q : AV → Sto → Prop} (hκ : hdv κ.hd = none)
    (hclos : closureFor scope env = pure cl) (hkind : scope.kind = .function) (hnames : ∀ x ∈ scope.names, x.2 = .local → scope.names.lookup x.1 = some .local) (hnd : ((lay scope.names).map (·.1)).Nodup)
    (hs : ∀ x, foldedSetIterable iter env x = pure x)
    (hlay : lay scope.names = m1 x none) (hcells : ∀ n σ, layC n scope.names σ = σ) (hx : ∀ C, (compE scope cl C env).kindOf x = some .local)
    (hkind' : ∀ C, (compE scope cl C env).scope.kind = .function)
    (h : EV G κ env iter σ (LcP G κ (fun C => compE scope cl C env) elt x ifs Q) NoX) : EV G κ env (.ListComp elt [⟨.Name x p, iter, ifs, 0⟩] scope pos) σ Q X := by
  refine ev_listcomp hκ hclos hkind hnames hnd hs (lc_pure hlay hcells hx hkind' ?_)
  unfold LP
  refine W.post h fun a σ₁ hh => ?_
  obtain ⟨sr, xs, hsr, hlen, f, step, fin⟩ := hh
  refine ⟨sr, xs, hsr, hlen, f, step, fun r C o => ?_⟩
  exact ⟨_, _, _, .here, .refl _, fin r⟩
noncomputable def sts (l : List PySem.Str) : List AV := l.map .str
theorem rngL_filterMap {a : Int} {n : Nat} {f : AV → Option AV} : (rngL a 1 n).filterMap f = (List.range n).filterMap fun (i : Nat) => f (.int (a + (i : Int))) := by
  
  unfold rngL; rw [List.filterMap_map]
  refine congrArg (fun g => List.filterMap g (List.range n)) (funext fun i => ?_)
  simp
theorem mem_rngL {a c : Int} {n : Nat} {y : AV} (h : y ∈ rngL a c n) : ∃ i : Nat, i < n ∧ y = .int (a + (i : Int) * c) := by
  unfold rngL at h
  obtain ⟨i, hi, e⟩ := List.mem_map.mp h
  exact ⟨i, List.mem_range.mp hi, e.symm⟩
theorem mem_rng01 {n : Nat} {y : AV} (h : y ∈ rngL 0 1 n) : ∃ i : Nat, i < n ∧ y = .int (i : Int) := by
  obtain ⟨i, hi, e⟩ := mem_rngL h
  exact ⟨i, hi, by rw [e]; congr 1; walk_at "om"⟩
end
/-- texts by their signs -/
noncomputable def tx (l : List Nat) : PySem.Str := ⟨l.toArray⟩
noncomputable def chr (c : Nat) : PySem.Str := tx [c]
theorem tx_len (l : List Nat) : (tx l).length = l.length := rfl
theorem tx_eq (l m : List Nat) : (tx l == tx m) = (l == m) := by
  by_cases h : l = m
  · subst h; simp
  · have : tx l ≠ tx m := fun e => h (by injection e with e; simpa using e)
    rw [beq_eq_false_iff_ne.mpr this, beq_eq_false_iff_ne.mpr h]
theorem tx_sub (l : List Nat) (c i : Nat) (h : i + 1 ≤ l.length) : Builtin.Str.subAt (tx l) (chr c) i = (l[i]? == some c) := by
  unfold Builtin.Str.subAt tx chr tx
  rw [show (#[c] : Array Nat) = [c].toArray from rfl] 
  have : (l.toArray.extract i (i + 1)) = #[l[i]] := by
    apply Array.ext'
    rw [Array.toList_extract]
    show List.take (i + 1 - i) (List.drop i l) = [l[i]]
    rw [List.drop_eq_getElem_cons h, Nat.add_sub_cancel_left]; rfl
  show (l.toArray.extract i (i + 1) == #[c]) = _
  rw [this, List.getElem?_eq_getElem h]
  simp
open StrLaws in
theorem occ_from (l : List Nat) (c lim lo : Nat) : Builtin.Str.occurrences (tx l) (chr c) lo l.length lim = ((List.range' lo (l.length + 1 - lo)).filter (fun i => l[i]? == some c)).take lim := by
  rw [occ_eq]
  have key : ∀ (m a k : Nat) (arr : Array Nat), a + m ≤ l.length + 1 → k ≤ a → arr.size ≤ lim →
      (forIn (m := Id) (List.range' a m) (arr, k) (occBody (tx l) (chr c) l.length lim)).run.fst.toList = (arr.toList ++ (List.range' a m).filter (fun i => l[i]? == some c)).take lim := by
    intro m
    induction m with
    | zero => intro a k arr h1 h2 h3; simp [List.take_of_length_le, h3]
    | succ m ih =>
      intro a k arr h1 h2 h3
      rw [List.range'_succ, List.forIn_cons]
      unfold occBody
      by_cases hc : ((arr.size < lim ∧ k ≤ a) ∧ a + (chr c).length ≤ l.length) ∧ Builtin.Str.subAt (tx l) (chr c) a = true
      · simp only [if_pos hc]
        have hp : (l[a]? == some c) = true := by rw [← tx_sub l c a hc.1.2]; exact hc.2
        show (forIn (m := Id) (List.range' (a + 1) m) (arr.push a, a + (chr c).length) (occBody (tx l) (chr c) l.length lim)).run.fst.toList = _
        rw [ih (a + 1) (a + (chr c).length) (arr.push a) (by rw [Nat.add_right_comm]; exact h1) (Nat.le_refl _) (by rw [Array.size_push]; exact hc.1.1.1)]
        rw [List.filter_cons, if_pos hp]; simp
      · simp only [if_neg hc]
        show (forIn (m := Id) (List.range' (a + 1) m) (arr, k) (occBody (tx l) (chr c) l.length lim)).run.fst.toList = _
        rw [ih (a + 1) k arr (by rw [Nat.add_right_comm]; exact h1) (Nat.le_succ_of_le h2) h3]
        by_cases hl : arr.size < lim
        · have hp : ¬ (l[a]? == some c) = true := fun hp => by
            have ha : a < l.length := by
              rcases Nat.lt_or_ge a l.length with h | h
              · exact h
              · rw [List.getElem?_eq_none h] at hp; cases hp
            exact hc ⟨⟨⟨hl, h2⟩, ha⟩, by rw [tx_sub l c a ha]; exact hp⟩
          rw [List.filter_cons, if_neg hp]
        · have : arr.toList.length = lim := Nat.le_antisymm h3 (Nat.not_lt.mp hl)
          rw [List.take_append_of_le_length (Nat.le_of_eq this.symm), List.take_append_of_le_length (Nat.le_of_eq this.symm)]
  rcases Nat.lt_or_ge l.length lo with h | h
  · rw [Nat.sub_eq_zero_of_le h]; simp
  · exact (key (l.length + 1 - lo) lo lo #[] (Nat.le_of_eq (Nat.add_sub_cancel' (Nat.le_succ_of_le h))) (Nat.le_refl _) (by simp)).trans (by simp)
theorem occ_tx (l : List Nat) (c lim : Nat) : Builtin.Str.occurrences (tx l) (chr c) 0 l.length lim = ((List.range l.length).filter (fun i => l[i]? == some c)).take lim := by
  rw [occ_from, show l.length + 1 - 0 = l.length + 1 from rfl, List.range'_concat, List.filter_append, ← List.range_eq_range']
  simp
theorem occ1 (c d : Nat) : (Builtin.Str.occurrences (chr c) (chr d) 0 1 1).isEmpty = !(c == d) := by
  have := occ_tx [c] d 1
  rw [show Builtin.Str.occurrences (chr c) (chr d) 0 1 1 = Builtin.Str.occurrences (tx [c]) (chr d) 0 [c].length 1 from rfl, this]
  by_cases h : c = d
  · subst h; simp [List.range_succ]
  · simp [List.range_succ, h]
noncomputable def chs (l : List Nat) : List AV := l.map fun c => .str (chr c)
theorem chs_len (l : List Nat) : (chs l).length = l.length := by simp [chs]
theorem chs_get (l : List Nat) (i : Nat) (h : i < l.length) : (chs l)[i]? = some (.str (chr l[i])) := by simp [chs, h]
theorem tx_get (l : List Nat) (i : Nat) (h : i < l.length) : (tx l).cps[i]? = some l[i] := by simp [tx, h]
section
variable {G : Gd} {κ : Kx} {env : Env} {σ σ' : Sto} {X : XP} {Q : AV → Sto → Prop}
theorem sub_tx {value slice : PySem.Expr} {l : List Nat} {k : Int} (j : Nat) (hj : j < l.length) (hs : NoSl slice) (hk : k = (j : Int)) (hz : l.length ≤ 16777216) (h : Q (.str (chr l[j])) σ) :
    SUB G κ value slice (.str (tx l)) (.int k) σ Q X := by
  subst hk
  exact sub_str hs (by walk_at "om") (by rw [sizeLine_eq]; exact hz) (tx_get l j hj) h
theorem sub_chs {value slice : PySem.Expr} {a : Addr} {l : List Nat} {k : Int} (j : Nat) (hj : j < l.length) (hs : NoSl slice) (hm : (a, .list (chs l)) ∈ σ) (hk : k = (j : Int)) (hz : l.length ≤ 16777216) (h : Q (.str (chr l[j])) σ) :
    SUB G κ value slice (.ref a) (.int k) σ Q X := by
  subst hk
  exact sub_list hs hm (by walk_at "om") (by rw [chs_len, sizeLine_eq]; exact hz) (chs_get l j hj) h
theorem op_notin_chr {c d : Nat} (h : Q (.bool (!(d == c))) σ) : OP2 G κ (compareOp .NotIn) (.str (chr c)) (.str (chr d)) σ Q X := by
  refine op_notin_str ?_
  have := occ1 d c
  rw [show (chr d).length = 1 from rfl, this, Bool.not_not]; exact h
end
end B5Text
section B6Text
section
variable {G : Gd} {κ : Kx} {env : Env} {σ σ' : Sto} {X : XP}
-- unpacking
noncomputable def UI (G : Gd) (κ : Kx) (a : AV) (n : Nat) (σ : Sto) (Q : List AV → Sto → Prop) (X : XP) : Prop := ∀ v, ab v = a → W G κ (List.map ab) (unpackItems v n none) σ Q X
theorem draw_list {xs : List AV} {l I : Addr} : ∀ (n i : Nat) {ρ : Frm} {o : Obj} {A : Around} {s : Shared} {Q : List Value → Shared → Prop} {E : Value → Shared → Prop}, St G ((I, o) :: ρ) σ s → ItO I s.heap (.lst l) xs.length i → (l, .list xs) ∈ σ → i + n ≤ xs.length →
    (∀ vs o' s', vs.map ab = (xs.drop i).take n → ItO I s'.heap (.lst l) xs.length (i + n) → St G ((I, o') :: ρ) σ s' → Q vs s') → wpAny (model G.prog G.w) A (draw (.ref I) n) Q E s
  | 0, i, ρ, o, A, s, Q, E, z, hi, hm, hl, hq => by
    show wpAny _ _ (pure []) Q E s
    exact wpAny_pure (hq [] o s (by simp) hi z)
  | n + 1, i, ρ, o, A, s, Q, E, z, hi, hm, hl, hq => by
    show wpAny _ _ (pyNext (.ref I) >>= _) Q E s
    refine wpAny_bind (next_item (sr := .lst l) z hi hm (List.getElem?_eq_getElem (by walk_at "om")) fun v o' s₁ hv hi₁ z₁ => ?_)
    refine wpAny_bind (wpAny_holding (draw_list n (i + 1) z₁ hi₁ hm (by walk_at "om") fun vs o₂ s₂ hvs hi₂ z₂ => wpAny_pure ?_))
    refine hq _ o₂ s₂ ?_ (by rw [show i + (n + 1) = i + 1 + n by walk_at "om"]; exact hi₂) z₂
    rw [List.drop_eq_getElem_cons (by walk_at "om"), List.take_succ_cons, List.map_cons, hv, hvs]
theorem ui_list {l : Addr} {xs : List AV} {n : Nat} {Q : List AV → Sto → Prop} (hκ : hdv κ.hd = none) (hm : (l, .list xs) ∈ σ) (hn : xs.length = n) (h : Q xs σ) : UI G κ (.ref l) n σ Q X := fun v hv A ρ s hA z => by
  subst hn
  obtain ⟨ys, k, e, hy⟩ := z.list hm
  have hh : A.handled = none := hA.hd.trans hκ
  rw [ab_ref hv]
  unfold unpackItems
  refine wpAny_bind ?_
  unfold notIterableAtAll
  refine wpAny_bind (wpAny_specialOf e.isList.typeIs F.slot_list_iter.lookup ?_)
  refine wpAny_pure ?_
  simp only [Bool.false_eq_true, if_false]
  refine wpAny_bind (wpAny_holding (iter_of (sr := .lst l) (xs := xs) z ⟨rfl, hm⟩ fun I o s₁ hi _a z₁ => ?_))
  refine wpAny_bind (wpAny_holding (draw_list xs.length 0 z₁ hi hm (by walk_at "om") fun vs o₂ s₂ hvs hi₂ z₂ => ?_))
  have hlen : vs.length = xs.length := by
    have := congrArg List.length hvs
    simpa using this
  rw [if_neg (by walk_at "om")]
  rw [Nat.zero_add] at hi₂
  refine wpAny_bind (wpAny_holding (next_end (sr := .lst l) hh z₂ hi₂ hm fun s₃ z₃ => ?_))
  simp only [Option.isSome_none, Bool.false_eq_true, if_false]
  refine wpAny_pure ⟨σ, ?_, z₃⟩
  rw [hvs]; simpa using h
theorem ui_tup {l : Addr} {xs : List AV} {n : Nat} {Q : List AV → Sto → Prop} (hκ : hdv κ.hd = none) (hm : (l, .tup xs) ∈ σ) (hn : xs.length = n) (h : Q xs σ) : UI G κ (.ref l) n σ Q X := fun v hv A ρ s hA z => by
  obtain ⟨ys, k, e, hy⟩ := z.tup hm
  rw [ab_ref hv, ← hn, ← size_of hy]
  refine unpackItems_tuple (hA.hd.trans hκ) ⟨_, e, rfl, k, rfl⟩ fun h' he => ⟨σ, by rw [hy]; exact h, z.grown fun b o hb => he b o (Nat.ne_of_lt (Heap.lt_size hb)) hb⟩
noncomputable def ASO (G : Gd) (κ : Kx) (env : Env) : List PySem.Expr → List AV → Sto → (Sto → Prop) → XP → Prop
  | [], _, σ, Q, _ => Q σ
  | _ :: _, [], σ, Q, _ => Q σ
  | t :: ts, v :: vs, σ, Q, X => ASG G κ env t v σ (fun σ' => ASO G κ env ts vs σ' Q X) X
theorem aso_run : ∀ (ts : List PySem.Expr) (vs : List Value) (σ : Sto) {Q : Sto → Prop}, ASO G κ env ts (vs.map ab) σ Q X → W G κ id (assignInOrder (ts.map fun t => assign t env) vs) σ (fun _a σ' => Q σ') X
  | [], _, σ, Q, h => fun A ρ s hA z => wpAny_pure ⟨σ, h, z⟩
  | _ :: _, [], σ, Q, h => fun A ρ s hA z => wpAny_pure ⟨σ, h, z⟩
  | t :: ts, v :: vs, σ, Q, h => fun A ρ s hA z => by
    show wpAny _ _ (holding vs (assign t env v) >>= fun _a => assignInOrder (ts.map fun t => assign t env) vs) _ _ s
    exact wpAny_bind (wpAny_holding (wpAny_mono (h v rfl A ρ s hA z) (fun _a s' => pe fun σ' q z' => aso_run ts vs σ' q A ρ s' hA z') fun _a _b x => x))
theorem asg_tuple {es : List PySem.Expr} {k : Nat} {p : Pos} {a : AV} {Q : Sto → Prop} (h : UI G κ a es.length σ (fun vs σ' => ASO G κ env es vs σ' Q X) X)
    (he : assignEach es env = es.map fun t => (false, assign t env)) : ASG G κ env (.Tuple es k p) a σ Q X := fun v hv A ρ s hA z => by
  rw [assign_Tuple]
  refine wpAny_bind (wpAny_standAt ?_)
  unfold unpack
  rw [he]
  have hf : List.findIdx? (·.1) (es.map fun t => (false, assign t env)) = none := by
    rw [List.findIdx?_eq_none_iff]
    intro x hx
    obtain ⟨t, _, rfl⟩ := List.mem_map.mp hx
    rfl
  rw [hf, List.length_map, List.map_map]
  refine wpAny_bind (wpAny_holding (wpAny_mono (h v hv A ρ s hA z) (fun vs s' => pe fun σ' q z' => ?_) fun _a _b x => x))
  exact aso_run es vs σ' q A ρ s' hA z'
/-- stores by names, in an order -/
noncomputable def SNO (G : Gd) (κ : Kx) (env : Env) : List PySem.Str → List AV → Sto → (Sto → Prop) → XP → Prop
  | [], _, σ, Q, _ => Q σ
  | _ :: _, [], σ, Q, _ => Q σ
  | t :: ts, v :: vs, σ, Q, X => SN G κ env t v σ (fun σ' => SNO G κ env ts vs σ' Q X) X
theorem sno_run : ∀ (ts : List PySem.Str) (vs : List Value) (σ : Sto) {Q : Sto → Prop}, SNO G κ env ts (vs.map ab) σ Q X → W G κ id (assignInOrder (ts.map fun n => bindName env n) vs) σ (fun _a σ' => Q σ') X
  | [], _, σ, Q, h => fun A ρ s hA z => wpAny_pure ⟨σ, h, z⟩
  | _ :: _, [], σ, Q, h => fun A ρ s hA z => wpAny_pure ⟨σ, h, z⟩
  | t :: ts, v :: vs, σ, Q, h => fun A ρ s hA z => by
    show wpAny _ _ (holding vs (bindName env t v) >>= fun _a => assignInOrder (ts.map fun n => bindName env n) vs) _ _ s
    exact wpAny_bind (wpAny_holding (wpAny_mono (wpAny_bindName (h v rfl A ρ s hA z)) (fun _a s' => pe fun σ' q z' => sno_run ts vs σ' q A ρ s' hA z') fun _a _b x => x))
theorem ex_assign_tuple_sw {es : List PySem.Expr} {k : Nat} {p pos : Pos} {value : PySem.Expr} {names : List PySem.Str} {Q : AF → Sto → Prop}
    (hs : swapsWithSole [.Tuple es k p] value pos.line env = pure false) (hw : swappedStores [.Tuple es k p] value env = pure (some names))
    (h : EV G κ env value σ (fun a σ₁ => UI G κ a names.length σ₁ (fun vs σ₂ => SNO G κ env names.reverse vs.reverse σ₂ (fun σ₃ => Q .next σ₃) X) X) X) : EX G κ env (.Assign [.Tuple es k p] value pos) σ Q X := fun A ρ s hA z =>
  Assign_Tuple_swapped (wpAny_mono (h A ρ s hA z) (fun v s₁ => pe fun σ₁ q z₁ => wpAny_mono (q v rfl A ρ s₁ hA z₁) (fun vs s₂ => pe fun σ₂ q z₂ =>
    wpAny_mono (sno_run names.reverse vs.reverse σ₂ (by rw [List.map_reverse]; exact q) A ρ s₂ hA z₂) (fun _a _b => pe fun σ₃ q z₃ => ⟨σ₃, q, z₃⟩) fun _a _b x => x) fun _a _b x => x) fun _a _b x => x) hs hw
-- slices
noncomputable def EVO (G : Gd) (κ : Kx) (env : Env) : Option PySem.Expr → Sto → (AV → Sto → Prop) → XP → Prop
  | none, σ, Q, _ => Q .none σ
  | some e, σ, Q, X => EV G κ env e σ Q X
theorem evo_run {o : Option PySem.Expr} {Q : AV → Sto → Prop} (h : EVO G κ env o σ Q X) : W G κ ab (evalPart o env) σ Q X := by
  cases o with
  | none => exact W.pure' h
  | some e => exact h
inductive IsPt : AV → Option Int → Prop
  | none : IsPt .none none
  | int {i : Int} : IsPt (.int i) (some i)
theorem IsPt.part {v : Value} {o : Option Int} (h : IsPt (ab v) o) : IsPart v o := by
  generalize ha : ab v = a at h
  cases h with
  | none => rw [ab_none ha]; exact .none
  | int => obtain ⟨t, rfl⟩ := ab_int ha; exact .int _ t
theorem IsPt.val {v : Value} {o : Option Int} (h : IsPt (ab v) o) : ∃ l : Option (Int × Tok), v = partValue l ∧ l.map (·.1) = o := by
  generalize ha : ab v = a at h
  cases h with
  | none => exact ⟨Option.none, ab_none ha, rfl⟩
  | int => obtain ⟨t, rfl⟩ := ab_int ha; exact ⟨some (_, t), rfl, rfl⟩
noncomputable def slcL {α : Type} (l : List α) (lo hi : Option Int) : List α := (l.drop (kms_lo lo l.length)).take (kms_hi hi l.length - kms_lo lo l.length)
inductive SlS (Q : AV → Sto → Prop) (o a b : AV) (σ : Sto) : Prop
  | mk (l : List Nat) (i j : Option Int) (ho : o = .str (tx l)) (ha : IsPt a i) (hb : IsPt b j) (hz : l.length ≤ 16777216) (h : Q (.str (tx (slcL l i j))) σ)
inductive SlL (Q : AV → Sto → Prop) (o a b : AV) (σ : Sto) : Prop
  | mk (l : Addr) (xs : List AV) (i j : Option Int) (ho : o = .ref l) (hm : (l, AO.list xs) ∈ σ) (ha : IsPt a i) (hb : IsPt b j) (hz : xs.length ≤ sizeLine) (h : ∀ r, Q (.ref r) ((r, .list (slcL xs i j)) :: σ))
theorem ev_slice_list {value : PySem.Expr} {lo hi : Option PySem.Expr} {p pos : Pos} {Q : AV → Sto → Prop} (ht : ∀ o r, letTemporaryGo value o r = pure ())
    (h : EV G κ env value σ (fun o σ₁ => EVO G κ env lo σ₁ (fun a σ₂ => EVO G κ env hi σ₂ (SlL Q o a) X) X) X) :
    EV G κ env (.Subscript value (.Slice lo hi none p) pos) σ Q X := fun A ρ s hA z => by
  refine wpAny_Subscript_Slice (T := "list") F.slot_list_getitem.lookup (wpAny_mono (h A ρ s hA z) (fun o s₁ => pe fun σ₁ q z₁ => wpAny_Slice (wpAny_mono (evo_run q A ρ s₁ hA z₁) (fun a s₂ => pe fun σ₂ q z₂ => wpAny_mono (evo_run q A ρ s₂ hA z₂) (fun b s₃ => pe fun σ₃ q z₃ => ?_) fun _a _b x => x) fun _a _b x => x)) fun _a _b x => x) ht
  obtain ⟨l, xs, i, j, ho, hm, ha, hb, hz, hQ⟩ := q
  rw [evalPart_none, ab_ref ho]
  have z₄ := z₃.grown (h' := s₃.heap.push { cls := .type "slice", data := .fields #[a, b, .none] }) fun _a _b e => Heap.get?_push_of_some _ e
  obtain ⟨ys, k, e, hy⟩ := z₄.list hm
  refine wpAny_pure ⟨e.isList.typeIs, wpAny_getItem_list_slice e.isList (Heap.IsSliceOf.new ..) ha.part hb.part .none (by nofun) ?_ (by rw [size_of hy]; exact hz)⟩
  refine ⟨_, hQ _, z₄.push _ (.list (slcL xs i j)) rfl ⟨_, _, rfl, ?_⟩⟩
  rw [kms_pick_eq]
  unfold kms_pick slcL
  rw [← hy]; simp [List.map_take, List.map_drop]
set_option tactic.hygienic true in
theorem slice_tx (l : List Nat) (lo hi : Option Int) : Txt.slice (tx l) lo hi = tx (slcL l lo hi) := by
  have e : Builtin.Str.strSliceIndices lo hi 1 l.length = sliceRange (kms_lo lo l.length) (kms_hi hi l.length) 1 := by
    have := kms_bounds lo hi l.length
    have e1 : Builtin.Str.strSliceIndices lo hi 1 l.length = sliceRange (sliceBounds lo hi none l.length).1 (sliceBounds lo hi none l.length).2.1 (sliceBounds lo hi none l.length).2.2 := rfl
    rw [e1, this]
  rw [sliceRange_one] at e
  have key : ((Builtin.Str.strSliceIndices lo hi 1 l.length).filterMap ((tx l).cps[·]?)) = slcL l lo hi := by
    rw [e]
    exact pick_run (tx l).cps _ _
  have hi_le : kms_hi hi l.length ≤ l.length := by
    unfold kms_hi
    split
    · exact Nat.le_refl _
    · split
      · exact Nat.sub_le ..
      · exact Nat.min_le_right ..
  unfold Txt.slice
  have hlen : (tx l).length = l.length := rfl
  rw [hlen, key]
  split
  · rename_i hc
    simp only [beq_self_eq_true, Bool.true_and, beq_iff_eq] at hc
    rw [e, List.length_map, List.length_range] at hc
    have h3 : slcL l lo hi = l := by
      unfold slcL
      rw [hc]
      by_cases h0 : kms_lo lo l.length = 0
      · rw [h0, List.drop_zero]
        exact List.take_of_length_le (Nat.le_refl _)
      · have : l.length = 0 := Nat.le_zero.mp (Nat.not_lt.mp fun hp => absurd hc (Nat.ne_of_lt (Nat.lt_of_lt_of_le (Nat.sub_lt_self (Nat.pos_of_ne_zero h0) (Nat.le_trans (Nat.le_of_lt (Nat.lt_of_sub_pos (hc.symm ▸ hp))) (Nat.le_refl _))) hi_le)))
        rw [List.length_eq_zero_iff.mp this]; simp
    rw [h3]
  · rfl
theorem slcL_le {α : Type} (l : List α) (lo hi : Option Int) : (slcL l lo hi).length ≤ l.length := by
  unfold slcL; rw [List.length_take, List.length_drop]; exact Nat.le_trans (Nat.min_le_right _ _) (Nat.sub_le _ _)
theorem ev_slice_str {value : PySem.Expr} {lo hi : Option PySem.Expr} {p pos : Pos} {Q : AV → Sto → Prop} (ht : ∀ o r, letTemporaryGo value o r = pure ())
    (h : EV G κ env value σ (fun o σ₁ => EVO G κ env lo σ₁ (fun a σ₂ => EVO G κ env hi σ₂ (SlS Q o a) X) X) X) :
    EV G κ env (.Subscript value (.Slice lo hi none p) pos) σ Q X := fun A ρ s hA z => by
  refine wpAny_Subscript_str_slice (wpAny_mono (h A ρ s hA z) (fun o s₁ => pe fun σ₁ q z₁ => (wpAny_mono (evo_run q A ρ s₁ hA z₁) (fun a s₂ => pe fun σ₂ q z₂ => wpAny_mono (evo_run q A ρ s₂ hA z₂) (fun b s₃ => pe fun σ₃ q z₃ => ?_) fun _a _b x => x) fun _a _b x => x)) fun _a _b x => x) ht
  obtain ⟨l, i, j, ho, ha, hb, hz, hQ⟩ := q
  obtain ⟨t, rfl⟩ := ab_str ho
  obtain ⟨a', rfl, hi⟩ := ha.val
  obtain ⟨b', rfl, hj⟩ := hb.val
  have z₄ := z₃.grown (h' := s₃.heap.push { cls := .type "slice", data := .fields #[partValue a', partValue b', .none] }) fun _a _b e => Heap.get?_push_of_some _ e
  refine ⟨tx l, t, a', b', rfl, rfl, rfl, ?_⟩
  subst hi hj
  have e := slice_tx l (a'.map (·.1)) (b'.map (·.1))
  have hzz : (Txt.slice (tx l) (a'.map (·.1)) (b'.map (·.1))).length ≤ sizeLine := by
    rw [e, tx_len, sizeLine_eq]; exact Nat.le_trans (slcL_le ..) hz
  refine post_val_or_str ⟨hzz, fun t' k => ?_⟩
  refine ⟨σ₃, ?_, z₄.toks _⟩
  show Q (.str (Txt.slice (tx l) (a'.map (·.1)) (b'.map (·.1)))) σ₃
  rw [e]; exact hQ
end
end B6Text
section B7Text
theorem wp_rangeFields {M : Model} {A : Around} {E : Value → Shared → Prop} {s : Shared} {r : Addr} {a b c : Int} {t u v : Tok} {Q : Int × Int × Int → Shared → Prop}
    (hr : s.heap.get? r = some { cls := .type "range", dict := none, data := .fields #[.int a t, .int b u, .int c v], slots := #[] }) (h : Q (a, b, c) s) : wpAny M A (Builtin.Range.rangeFields (.ref r)) Q E s := by
  unfold Builtin.Range.rangeFields
  refine wpAny_bind (wpAny_field hr rfl (x := .int a t) rfl ?_)
  refine wpAny_bind (wpAny_of_eq (a := some a) rfl ?_)
  refine wpAny_bind (wpAny_field hr rfl (x := .int b u) rfl ?_)
  refine wpAny_bind (wpAny_of_eq (a := some b) rfl ?_)
  refine wpAny_bind (wpAny_field hr rfl (x := .int c v) rfl ?_)
  refine wpAny_bind (wpAny_of_eq (a := some c) rfl ?_)
  exact wpAny_pure h
theorem wp_part {M : Model} {A : Around} {E : Value → Shared → Prop} {s : Shared} {i : Int} {t : Tok} {Q : Option Int → Shared → Prop} (h : Q (some i) s) : wpAny M A (Builtin.Slice.slicePartIndex (.int i t)) Q E s := by
  unfold Builtin.Slice.slicePartIndex
  rw [if_neg (show ¬ ((Value.int i t == Value.none) = true) from Bool.false_ne_true)]
  refine wpAny_bind (wpAny_specialOf (T := "int") (typeIs_int s i t) F.slot_int_index.lookup ?_)
  simp only [Option.isNone_some, Bool.false_eq_true, if_false]
  exact wpAny_bind (wpAny_of_eq (a := i) rfl (wpAny_pure h))
theorem nab {a b : Int} {k l m : Nat} (ha : a.natAbs ≤ k) (hb : b.natAbs ≤ l) (h : Nat.ble (k + l) m = true) : (a + b).natAbs ≤ m :=
  Nat.le_trans (Int.natAbs_add_le a b) (Nat.le_trans (Nat.add_le_add ha hb) (Nat.le_of_ble_eq_true h))
theorem n1 {n : Nat} (hN : n ≤ 1000) : ((n : Int) - 1).natAbs ≤ 1001 := nab (a := (n : Int)) (b := (-1 : Int)) (l := 1) hN (by decide) rfl
theorem fits {i : Int} (h : i.natAbs ≤ 4000) : Builtin.Range.rangeFitsLong i = true := by
  unfold Builtin.Range.rangeFitsLong
  exact Bool.and_eq_true_iff.mpr ⟨decide_eq_true (by omega), decide_eq_true (by omega)⟩
theorem wp_range_rev {prog : Program} {w : World} {A : Around} {E : Value → Shared → Prop} {s : Shared} {r sl : Addr} {a b : Int} {n : Nat} {t u v k : Tok} {Q : Value → Shared → Prop}
    (hr : s.heap.get? r = some { cls := .type "range", dict := none, data := .fields #[.int a t, .int b u, .int 1 v], slots := #[] }) (hn : Builtin.Range.rangeSize a b 1 = n)
    (hs : s.heap.IsSliceOf sl .none .none (.int (-1) k)) (ha : a.natAbs ≤ 1000) (hN : n ≤ 1000)
    (h : ∀ t u v, Q (.ref s.heap.objs.size) { s with heap := s.heap.push { cls := .type "range", data := .fields #[.int (a + ((n : Int) - 1)) t, .int (a - 1) u, .int (-1) v] }, toks := s.toks + 3 }) :
    wpAny (model prog w) A (getItem (.ref r) (.ref sl)) Q E s := by
  have hT : s.TypeIs (.ref r) "range" := ⟨_, hr, rfl⟩
  obtain ⟨os, hos, hcs, hds⟩ := id hs
  have hTs : s.TypeIs (.ref sl) "slice" := ⟨os, hos, hcs⟩
  unfold getItem
  try with_reducible refine wpAny_holding ?_
  first | refine wpAny_bind (wpAny_pure ?_) | skip
  refine wpAny_bind (wpAny_sequenceKey hT (by decide) ?_)
  refine wpAny_bind (wpAny_callSpecial?_slot (name := Str.ofString "__getitem__") hT F.slot_range_getitem
    (wpAny_call_entry F.slot_range_getitem hT F.entry_range_getitem ?_ (F.args_range_getitem_2 _ _)))
  show wpAny _ _ (Builtin.Range.rangeFields (.ref r) >>= _) _ _ s
  refine wpAny_bind (wp_rangeFields hr ?_)
  dsimp only
  rw [hn]
  refine wpAny_bind (wpAny_typeOf hTs ?_)
  rw [if_pos (by decide)]
  refine wpAny_bind (m := Builtin.Slice.sliceFields (.ref sl)) ?_
  unfold Builtin.Slice.sliceFields
  refine wpAny_bind (wpAny_field hos hds (x := .none) rfl ?_)
  refine wpAny_bind (wpAny_field hos hds (x := .none) rfl ?_)
  refine wpAny_bind (wpAny_field hos hds (x := .int (-1) k) rfl ?_)
  refine wpAny_pure ?_
  dsimp only
  refine wpAny_bind (wp_part ?_)
  rw [if_neg (by decide)]
  refine wpAny_bind (wpAny_of_eq (a := none) rfl ?_)
  refine wpAny_bind (wpAny_of_eq (a := none) rfl ?_)
  have e : Builtin.Slice.sliceAdjust none none ((some (-1 : Int)).getD 1) (n : Int) = ((n : Int) - 1, -1) := by simp [Builtin.Slice.sliceAdjust]
  rw [e]
  dsimp only
  have hlog : ∀ i : Int, i.natAbs ≤ 4000 → ¬ (i.natAbs.log2 ≥ bitsLine) := fun i hi => by
    rw [bitsLine_eq]; exact Nat.not_le.mpr (Nat.lt_of_le_of_lt (Nat.le_trans (Nat.log2_le_self _) hi) (by decide))
  refine wpAny_bind ?_
  unfold Builtin.roomForPylong
  rw [show Builtin.divisionGoesByPylong ((-1 - ((n : Int) - 1)) * 1) (1 * (some (-1 : Int)).getD 1) = false from PyProof.noPylong_small (by decide)]
  refine wp_neg (fun h => nomatch h) ?_
  refine wpAny_pure ?_
  have mk : ∀ (i : Int) {s : Shared} {Q : Value → Shared → Prop}, i.natAbs ≤ 4000 → Q (.int i s.toks) { s with toks := s.toks + 1 } → wpAny (model prog w) A.in1 (mkIntGrown i) Q E s := fun i s Q hi hQ => by
    unfold mkIntGrown
    rw [if_neg (hlog i hi)]
    exact wpAny_mkInt hQ
  have e1 : a + ((n : Int) - 1) * 1 = a + ((n : Int) - 1) := congrArg (a + ·) (Int.mul_one _)
  refine wpAny_bind (mk _ (by rw [e1]; exact nab ha (n1 hN) rfl) ?_)
  refine wpAny_bind (mk _ (nab (b := -1 * 1) (l := 1) ha (Nat.le_refl 1) rfl) ?_)
  refine wpAny_bind (mk _ (by decide) ?_)
  refine wpAny_bind (wpAny_newObj_type ?_ (by size_fits))
  refine wpAny_pure ⟨_, rfl, wpAny_pure ?_⟩
  rw [e1]
  exact h _ _ _
section
variable {G : Gd} {κ : Kx} {env : Env} {σ σ' : Sto} {X : XP}
theorem cl_len_chs {l : Addr} {xs : List Nat} {Q : AV → Sto → Prop} (hm : (l, .list (chs xs)) ∈ σ) (hz : xs.length ≤ 16777216) (h : Q (.int xs.length) σ) : CL G κ (.bi "len") [.ref l] σ Q X := by
  refine cl_len_list hm (by rw [chs_len, sizeLine_eq]; exact hz) ?_
  rw [chs_len]; exact h
theorem cl_len_tx {u : List Nat} {Q : AV → Sto → Prop} (hz : u.length ≤ 16777216) (h : Q (.int u.length) σ) : CL G κ (.bi "len") [.str (tx u)] σ Q X :=
  cl_len_str (by rw [tx_len, sizeLine_eq]; exact hz) h
theorem iteT {c : Prop} [Decidable c] {a b : Prop} (h : c) (x : a) : if c then a else b := by rw [if_pos h]; exact x
theorem iteF {c : Prop} [Decidable c] {a b : Prop} (h : ¬ c) (x : b) : if c then a else b := by rw [if_neg h]; exact x
theorem isSr_tail {v : AV} {sr : Sr} {xs : List AV} {p : Addr × AO} (h : IsSr v sr xs σ) : IsSr v sr xs (p :: σ) := by
  cases sr with
  | lst l => exact ⟨h.1, .tail _ h.2⟩
  | rng a c => obtain ⟨r, n, h1, h2, h3⟩ := h; exact ⟨r, n, h1, .tail _ h2, h3⟩
theorem range_rev_size {a : Int} {n : Nat} : Builtin.Range.rangeSize (a + ((n : Int) - 1)) (a - 1) (-1) = n := by
  unfold Builtin.Range.rangeSize
  rw [if_neg (by decide), show (- -1 : Int) = 1 from rfl, Int.ediv_one]
  split <;> omega
theorem range_rev_small {a : Int} {n : Nat} (ha : a.natAbs ≤ 1000) (hN : n ≤ 1000) : Builtin.Range.small (a + ((n : Int) - 1)) (a - 1) (-1) = true := by
  have hb : (a - 1).natAbs ≤ 1001 := nab (b := -1) (l := 1) ha (Nat.le_refl 1) rfl
  unfold Builtin.Range.small
  rw [range_rev_size, if_neg (by decide), fits (i := a + ((n : Int) - 1)) (nab ha (n1 hN) rfl), fits (i := a - 1) (Nat.le_trans hb (by decide)),
    fits (i := n) (Nat.le_trans hN (by decide)), fits (i := a - 1 + (-1 + 1)) (nab hb (Nat.le_refl 0) rfl), Bool.or_true]
  rfl
theorem ev_range_rev {x : PySem.Str} {np p pos p1 p2 : Pos} {k : Nat} {Q : AV → Sto → Prop}
    (h : EV G κ env (.Name x np) σ (fun o σ₁ => ∃ (l : Addr) (a : Int) (n : Nat), o = .ref l ∧ (l, .rng a 1 n) ∈ σ₁ ∧ a.natAbs ≤ 1000 ∧ n ≤ 1000 ∧ ∀ r, Q (.ref r) ((r, .rng (a + ((n : Int) - 1)) (-1) n) :: σ₁)) X) :
    EV G κ env (.Subscript (.Name x np) (.Slice none none (some (.UnaryOp .USub (.Constant (.int 1) k p1) p2)) p) pos) σ Q X := fun A ρ s hA z => by
  refine wpAny_Subscript_Slice_step (T := "range") F.slot_range_getitem.lookup (wpAny_mono (h A ρ s hA z) (fun o s₁ => pe fun σ₁ q z₁ => wpAny_Slice ?_) fun _a _b x => x) (fun _a _b => rfl)
  obtain ⟨l, a, n, ho, hm, ha, hn, hQ⟩ := q
  rw [evalPart_none, evalPart_some]
  refine wpAny_pure (wpAny_pure ?_)
  have hneg : EV G κ env (.UnaryOp .USub (.Constant (.int 1) k p1) p2) σ₁ (fun v σ' => v = .int (-1) ∧ σ' = σ₁) X := ev_unary (ev_int (op_neg ⟨rfl, rfl⟩))
  refine wpAny_mono (hneg A ρ s₁ hA z₁) (fun v s₂ => pe fun σ₂ hh z₂ => ?_) fun _a _b x => x
  obtain ⟨hv, hs⟩ := hh
  subst hs
  obtain ⟨t, rfl⟩ := ab_int hv
  rw [ab_ref ho]
  have z₄ := z₂.grown (h' := s₂.heap.push { cls := .type "slice", data := .fields #[.none, .none, .int (-1) t] }) fun _a _b e => Heap.get?_push_of_some _ e
  obtain ⟨ob, e, b, t1, t2, t3, hob, hsm, hsz⟩ := z₄.at hm
  subst hob
  refine ⟨⟨_, e, rfl⟩, wp_range_rev e hsz (Heap.IsSliceOf.new ..) ha hn fun t u v => ?_⟩
  exact ⟨_, hQ _, (z₄.push _ (.rng (a + ((n : Int) - 1)) (-1) n) rfl ⟨a - 1, t, u, v, rfl, range_rev_small ha hn, range_rev_size⟩).toks _⟩
end
end B7Text
section B8Text
noncomputable def ivs (l : List Nat) : List AV := l.map fun (c : Nat) => .int (c : Int)
theorem ivs_len (l : List Nat) : (ivs l).length = l.length := by simp [ivs]
theorem ivs_ints (l : List Nat) : ivs l = intsA (l.map fun (c : Nat) => (c : Int)) := by simp [ivs, intsA, Function.comp_def]
theorem chr_eq (a b : Nat) : (chr a == chr b) = (a == b) := by
  unfold chr; rw [tx_eq]; simp [BEq.beq, List.beq]
noncomputable def ovs (l : List (Option Nat)) : List AV := l.map fun c => match c with | none => .none | some c => .str (chr c)
section
variable {G : Gd} {κ : Kx} {env : Env} {σ σ' : Sto} {X : XP}
/-- equality of values, at any depth of a call's own room -/
noncomputable def EQB (G : Gd) (σ : Sto) (a b : AV) (r : Bool) : Prop := ∀ A ρ s y x, A.units < cLine → St G ρ σ s → ab y = a → ab x = b → SeqAt.EqAt A s y x r
theorem eqb_int {i j : Int} : EQB G σ (.int i) (.int j) (i == j) := fun A ρ s y x _a _b hy hx => by
  obtain ⟨t, rfl⟩ := ab_int hy; obtain ⟨u, rfl⟩ := ab_int hx
  exact SeqAt.EqAt.int_int _ _ _ _
theorem eqb_str {i j : PySem.Str} : EQB G σ (.str i) (.str j) (i == j) := fun A ρ s y x _a _b hy hx => by
  obtain ⟨t, rfl⟩ := ab_str hy; obtain ⟨u, rfl⟩ := ab_str hx
  exact SeqAt.EqAt.str_str _ _ _ _
theorem eqb_bool {i j : Bool} : EQB G σ (.bool i) (.bool j) (i == j) := fun A ρ s y x _a _b hy hx => by
  rw [ab_bool hy, ab_bool hx]
  exact SeqAt.EqAt.bool_bool _ _
theorem eqb_none : EQB G σ .none .none true := fun A ρ s y x _a _b hy hx => by
  rw [ab_none hy, ab_none hx]
  exact SeqAt.EqAt.same _
theorem eqb_str_none {j : PySem.Str} : EQB G σ (.str j) .none false := fun A ρ s y x _a _b hy hx => by
  obtain ⟨u, rfl⟩ := ab_str hy; rw [ab_none hx]
  exact SeqAt.EqAt.str_none _ _
theorem anyB {e : AV → Bool} {xs : Array Value} {vs : List AV} (h : xs.toList.map ab = vs) : xs.any (fun y => e (ab y)) = vs.any e := by
  rw [← h, List.any_map, ← Array.any_toList]; rfl
theorem op_in_list {n : Nat} {hd : Option Hx} {l : Addr} {xs : List AV} {x : AV} {Q : AV → Sto → Prop} (e : AV → Bool) (hm : (l, .list xs) ∈ σ) (he : ∀ a ∈ xs, EQB G σ a x (e a)) (h : Q (.bool (xs.any e)) σ) :
    OP2 G ⟨n + 1, hd⟩ (compareOp .In) x (.ref l) σ Q X := fun u y hu hy A ρ s hA z => by
  rw [ab_ref hy]
  obtain ⟨ys, k, el, hv⟩ := z.list hm
  have hun := hA.units
  refine SeqAt.in_listAt (fun y => e (ab y)) el.isList (fun y hy => he (ab y) ?_ A.in1 ρ s y u ?_ z rfl hu) ⟨σ, ?_, z⟩
  · rw [← hv]; exact List.mem_map.mpr ⟨y, by simpa using hy, rfl⟩
  · show A.units + 1 < cLine
    simp only at hun; first | walk_at "om" | (unfold cLine at hun ⊢; walk_at "om")
  · show Q (.bool _) σ
    rw [anyB hv]; exact h
theorem op_notin_list {n : Nat} {hd : Option Hx} {l : Addr} {xs : List AV} {x : AV} {Q : AV → Sto → Prop} (e : AV → Bool) (hm : (l, .list xs) ∈ σ) (he : ∀ a ∈ xs, EQB G σ a x (e a)) (h : Q (.bool (!xs.any e)) σ) :
    OP2 G ⟨n + 1, hd⟩ (compareOp .NotIn) x (.ref l) σ Q X := fun u y hu hy A ρ s hA z => by
  rw [ab_ref hy]
  obtain ⟨ys, k, el, hv⟩ := z.list hm
  have hun := hA.units
  refine SeqAt.notIn_listAt (fun y => e (ab y)) el.isList (fun y hy => he (ab y) ?_ A.in1 ρ s y u ?_ z rfl hu) ⟨σ, ?_, z⟩
  · rw [← hv]; exact List.mem_map.mpr ⟨y, by simpa using hy, rfl⟩
  · show A.units + 1 < cLine
    simp only at hun; first | walk_at "om" | (unfold cLine at hun ⊢; walk_at "om")
  · show Q (.bool _) σ
    rw [anyB hv]; exact h
theorem cl_min' {l : Addr} {xs : List AV} {ns : List Int} {Q : AV → Sto → Prop} (hκ : hdv κ.hd = none) (hm : (l, .list xs) ∈ σ) (e : xs = intsA ns) (hne : ns ≠ []) (h : Q (.int (minI ns)) σ) : CL G κ (.bi "min") [.ref l] σ Q X := cl_min hκ (e ▸ hm) hne h
theorem cl_max' {l : Addr} {xs : List AV} {ns : List Int} {Q : AV → Sto → Prop} (hκ : hdv κ.hd = none) (hm : (l, .list xs) ∈ σ) (e : xs = intsA ns) (hne : ns ≠ []) (h : Q (.int (maxI ns)) σ) : CL G κ (.bi "max") [.ref l] σ Q X := cl_max hκ (e ▸ hm) hne h
end
end B8Text
section B9Text
section
variable {G : Gd} {κ : Kx} {env : Env} {σ σ' : Sto} {X : XP}
theorem ev_sub' {value slice : PySem.Expr} {pos : Pos} {Q : AV → Sto → Prop} (_ : NoSl slice) (h : EV G κ env value σ (KS1 G κ env value slice Q X) X) : EV G κ env (.Subscript value slice pos) σ Q X := ev_sub h
theorem ex_lc_pure {elt iter : PySem.Expr} {x k : PySem.Str} {p p' pos spos : Pos} {ifs : List PySem.Expr} {scope : Scope} {cl : List (PySem.Str × Addr)} {Q : AF → Sto → Prop} (hκ : hdv κ.hd = none)
    (hclos : closureFor scope env = pure cl) (hkind : scope.kind = .function) (hnames : ∀ x ∈ scope.names, x.2 = .local → scope.names.lookup x.1 = some .local) (hnd : ((lay scope.names).map (·.1)).Nodup)
    (hs : ∀ x, foldedSetIterable iter env x = pure x)
    (hlay : lay scope.names = m1 k none) (hcells : ∀ n σ, layC n scope.names σ = σ) (hx : ∀ C, (compE scope cl C env).kindOf k = some .local)
    (hkind' : ∀ C, (compE scope cl C env).scope.kind = .function)
    (hsw : swapsWithSole [.Name x p] (.ListComp elt [⟨.Name k p', iter, ifs, 0⟩] scope pos) spos.line env = pure true)
    (h : EV G κ env iter σ (fun a σ₁ => ∃ sr xs, IsSr a sr xs σ₁ ∧ xs.length ≤ sizeLine ∧ ∃ f : AV → Option AV,
      (∀ r C y done, y ∈ xs → TSS G κ (compE scope cl C env) ifs ((C, .ns (m1 k (some y))) :: (r, .list done) :: σ₁) (fun b σ₂ =>
        if b then EV G κ (compE scope cl C env) elt σ₂ (fun v σ₃ => Pt ((C, .ns (m1 k (some y))) :: (r, .list done) :: σ₁) σ₃ ∧ f y = some v) NoX
        else Pt ((C, .ns (m1 k (some y))) :: (r, .list done) :: σ₁) σ₂ ∧ f y = none) NoX) ∧
      ∀ r C o, SN G κ env x (.ref r) ((C, .ns (m1 k o)) :: (r, .list (xs.filterMap f)) :: σ₁) (CEnd C (Q .next)) NoX) NoX) : EX G κ env (.Assign [.Name x p] (.ListComp elt [⟨.Name k p', iter, ifs, 0⟩] scope pos) spos) σ Q X := by
  refine ex_assign_listcomp hκ hclos hkind hnames hnd hs hsw (lc_pure hlay hcells hx hkind' ?_)
  unfold LP
  exact h
theorem cend_here {C : Addr} {P : Sto → Prop} {m : List (PySem.Str × Option AV)} (h : P σ) : CEnd C P ((C, .ns m) :: σ) := ⟨_, _, _, .here, .refl _, h⟩
end
end B9Text
section B10Text
section
variable {G : Gd} {κ : Kx} {env : Env} {σ σ' : Sto} {X : XP}
/-- a method of a text, by what it gives -/
theorem cl_gives {u : PySem.Str} {name : PySem.Str} {id : String} {B : Builtin} {rest : List AV} {Q : AV → Sto → Prop} (sl : Slot "str" name id) (entry : entryFor table id = some B)
    (h : ∀ t vs, vs.map ab = rest → argsOk id ⟨.str u t :: vs, []⟩ ∧ ∃ m, Gives (B ⟨.str u t :: vs, []⟩) m ∧ ∀ ρ s, St G ρ σ s → m.post (Po G ρ ab Q) s) :
    CL G κ (.bi id) (.str u :: rest) σ Q X := fun g vs hg hvs A ρ s hA z => by
  rw [ab_bi hg]
  rcases vs with _ | ⟨v, vs⟩
  · cases hvs
  simp only [List.map_cons, List.cons.injEq] at hvs
  obtain ⟨t, rfl⟩ := ab_str hvs.1
  obtain ⟨ha, m, g, hm⟩ := h t vs hvs.2
  exact call_givesAt (P := fun _a => True) sl (typeIs_str s u t) entry ha g.at trivial (hm ρ s z)
theorem cl_isalnum {u : PySem.Str} {Q : AV → Sto → Prop} (h : Q (.bool (u.length > 0 && u.cps.all Unicode.isAlnum)) σ) : CL G κ (.bi "str.isalnum") [.str u] σ Q X :=
  cl_gives F.slot_str_isalnum F.entry_str_isalnum fun t vs hvs => by
    obtain rfl : vs = [] := by simpa using hvs
    exact ⟨F.args_str_isalnum_1 _, _, gives_str_isalnum u t, fun ρ s z => ⟨σ, h, z⟩⟩
theorem gives_str_index_from (x y : PySem.Str) (i : Int) (t u v : Tok) (k : Nat) (rest : List Nat) (h : Builtin.Str.occurrences x y (fromIndex x.length i) x.length 1 = k :: rest) :
    Gives (Builtin.«str.index» ⟨[.str x t, .str y u, .int i v], []⟩) (.int k) := by
  show Gives (match Builtin.Str.occurrences x y (fromIndex x.length i) (min x.length x.length) 1 with | i :: _ => retInt i | [] => (do rule "str.index.not-found"; raiseError "ValueError" "substring not found")) _
  rw [Nat.min_self, h]
  exact .of_eq rfl
theorem cl_index_from {x y : PySem.Str} {i : Int} {k : Nat} {rest : List Nat} {Q : AV → Sto → Prop} (ho : Builtin.Str.occurrences x y (fromIndex x.length i) x.length 1 = k :: rest) (h : Q (.int k) σ) : CL G κ (.bi "str.index") [.str x, .str y, .int i] σ Q X :=
  cl_gives F.slot_str_index F.entry_str_index fun t vs hvs => by
    obtain ⟨a, b, rfl, ha, hb⟩ := two hvs
    obtain ⟨u, rfl⟩ := ab_str ha
    obtain ⟨v, rfl⟩ := ab_int hb
    exact ⟨F.args_str_index_3 _ _ _, _, gives_str_index_from x y i t u v k rest ho, fun ρ s z => ⟨σ, h, z.toks _⟩⟩
theorem tx_cps (u : PySem.Str) : u = tx u.cps.toList := rfl
theorem op_eq_lit {l : List Nat} {u : PySem.Str} {Q : AV → Sto → Prop} (h : Q (.bool (l == u.cps.toList)) σ) : OP2 G κ (compareOp .Eq) (.str (tx l)) (.str u) σ Q X := by
  refine op_eq_str ?_
  have e := tx_eq l u.cps.toList
  rw [← tx_cps] at e
  rw [e]; exact h
theorem op_ne_lit {l : List Nat} {u : PySem.Str} {Q : AV → Sto → Prop} (h : Q (.bool (l != u.cps.toList)) σ) : OP2 G κ (compareOp .NotEq) (.str (tx l)) (.str u) σ Q X := by
  refine op_ne_str ?_
  have e := tx_eq l u.cps.toList
  rw [← tx_cps] at e
  unfold bne
  rw [e]; exact h
theorem occ_has (l : List Nat) (c : Nat) : (!(Builtin.Str.occurrences (tx l) (chr c) 0 l.length 1).isEmpty) = l.contains c := by
  rw [occ_tx, Bool.eq_iff_iff]
  simp only [Bool.not_eq_true', List.isEmpty_eq_false_iff, ne_eq, List.contains_iff_mem]
  constructor
  · intro h
    have : (List.range l.length).filter (fun i => l[i]? == some c) ≠ [] := fun e => h (by rw [e]; rfl)
    obtain ⟨i, hi⟩ := List.exists_mem_of_ne_nil _ this
    have := (List.mem_filter.mp hi).2
    exact List.mem_of_getElem? (eq_of_beq this)
  · intro h e
    obtain ⟨i, hi, he⟩ := List.getElem_of_mem h
    have hm : i ∈ (List.range l.length).filter (fun i => l[i]? == some c) := List.mem_filter.mpr ⟨List.mem_range.mpr hi, by rw [List.getElem?_eq_getElem hi, he]; simp⟩
    cases hf : (List.range l.length).filter (fun i => l[i]? == some c) with
    | nil => rw [hf] at hm; cases hm
    | cons a r => rw [hf] at e; simp at e
theorem op_in_lit {c : Nat} {u : PySem.Str} {Q : AV → Sto → Prop} (h : Q (.bool (u.cps.toList.contains c)) σ) : OP2 G κ (compareOp .In) (.str (chr c)) (.str u) σ Q X := by
  refine op_in_str ?_
  have e := occ_has u.cps.toList c
  rw [← tx_cps] at e
  rw [show u.length = u.cps.toList.length by simp [PySem.Str.length], e]; exact h
theorem op_eq_txs {l : List Nat} {s : String} {Q : AV → Sto → Prop} (h : Q (.bool (l == (PySem.Str.ofString s).cps.toList)) σ) : OP2 G κ (compareOp .Eq) (.str (tx l)) (.str (PySem.Str.ofString s)) σ Q X := op_eq_lit h
theorem op_ne_txs {l : List Nat} {s : String} {Q : AV → Sto → Prop} (h : Q (.bool (l != (PySem.Str.ofString s).cps.toList)) σ) : OP2 G κ (compareOp .NotEq) (.str (tx l)) (.str (PySem.Str.ofString s)) σ Q X := op_ne_lit h
theorem op_eq_chs {c : Nat} {s : String} {Q : AV → Sto → Prop} (h : Q (.bool ([c] == (PySem.Str.ofString s).cps.toList)) σ) : OP2 G κ (compareOp .Eq) (.str (chr c)) (.str (PySem.Str.ofString s)) σ Q X := op_eq_lit h
theorem op_ne_chs {c : Nat} {s : String} {Q : AV → Sto → Prop} (h : Q (.bool ([c] != (PySem.Str.ofString s).cps.toList)) σ) : OP2 G κ (compareOp .NotEq) (.str (chr c)) (.str (PySem.Str.ofString s)) σ Q X := op_ne_lit h
theorem op_in_chs {c : Nat} {s : String} {Q : AV → Sto → Prop} (h : Q (.bool ((PySem.Str.ofString s).cps.toList.contains c)) σ) : OP2 G κ (compareOp .In) (.str (chr c)) (.str (PySem.Str.ofString s)) σ Q X := op_in_lit h
theorem ev_append {o e : PySem.Expr} {apos pos : Pos} {Q : AV → Sto → Prop}
    (hbase : attributeBase o (PySem.Str.ofString "append") env (eval o env) = eval o env)
    (hfew : ((backTo pos (starEach [e] env)).all (fun x => !x.1) && (backToKw pos (keywordEach [] env)).all (fun x => x.1.isSome)
      && decide ([e].length + ([] : List Keyword).length + (if ([] : List Keyword).isEmpty then 0 else 1) < 30)) = true)
    (hline : (apos.endLine == pos.line) = true) (hstar : (backTo pos (starEach [e] env)).any (·.1) = false)
    (h : EV G κ env o σ (MlP G κ env [e] "list.append" Q X) X) : EV G κ env (.Call (.Attribute o (PySem.Str.ofString "append") apos) [e] [] pos) σ Q X :=
  ev_meth_list F.slot_list_append F.type_list_append hbase hfew hline hstar h
theorem ex_assign_sw2 {x y : PySem.Str} {p1 p2 : Pos} {k : Nat} {p pos : Pos} {value : PySem.Expr} {Q : AF → Sto → Prop}
    (hs : swapsWithSole [.Tuple [.Name x p1, .Name y p2] k p] value pos.line env = pure false) (hw : swappedStores [.Tuple [.Name x p1, .Name y p2] k p] value env = pure (some [x, y]))
    (h : EV G κ env value σ (fun a σ₁ => UI G κ a 2 σ₁ (fun vs σ₂ => SNO G κ env [y, x] vs.reverse σ₂ (fun σ₃ => Q .next σ₃) X) X) X) : EX G κ env (.Assign [.Tuple [.Name x p1, .Name y p2] k p] value pos) σ Q X :=
  ex_assign_tuple_sw hs hw h
/-- a slice of what is left -/
theorem slcL_mid {α : Type} (pre t : List α) (i j : Int) (k : Nat) (hi : i = pre.length) (hj : j = (pre.length : Int) + k) : slcL (pre ++ t) (some i) (some j) = t.take k := by
  subst hi hj
  unfold slcL kms_lo kms_hi
  simp only [if_neg (show ¬ ((pre.length : Int) < 0) from Int.not_lt.mpr (Int.natCast_nonneg _)), if_neg (show ¬ ((pre.length : Int) + k < 0) from Int.not_lt.mpr (Int.natCast_nonneg (pre.length + k))), Int.toNat_natCast, List.length_append]
  rw [show min pre.length (pre.length + t.length) = pre.length from Nat.min_eq_left (Nat.le_add_right _ _), List.drop_left]
  rw [show ((pre.length : Int) + (k : Int)).toNat = pre.length + k from rfl]
  rw [show min (pre.length + k) (pre.length + t.length) - pre.length = min k t.length by rw [Nat.add_min_add_left, Nat.add_sub_cancel_left]]
  exact kmk_take_min t k
theorem slcL_mid2 {α : Type} (pre t : List α) (i j : Int) (a k : Nat) (hi : i = (pre.length : Int) + a) (hj : j = (pre.length : Int) + a + k) : slcL (pre ++ t) (some i) (some j) = (t.drop a).take k := by
  subst hi hj
  unfold slcL kms_lo kms_hi
  simp only [if_neg (show ¬ ((pre.length : Int) + a < 0) from Int.not_lt.mpr (Int.natCast_nonneg (pre.length + a))), if_neg (show ¬ ((pre.length : Int) + a + k < 0) from Int.not_lt.mpr (Int.natCast_nonneg (pre.length + a + k))), List.length_append]
  rw [show ((pre.length : Int) + (a : Int)).toNat = pre.length + a from rfl, show ((pre.length : Int) + (a : Int) + (k : Int)).toNat = pre.length + a + k from rfl]
  by_cases h : a ≤ t.length
  · rw [show min (pre.length + a) (pre.length + t.length) = pre.length + a from Nat.min_eq_left (Nat.add_le_add_left h _), List.drop_append, Nat.add_sub_cancel_left, List.drop_of_length_le (Nat.le_add_right _ _), List.nil_append]
    rw [show min (pre.length + a + k) (pre.length + t.length) - (pre.length + a) = min k (t.drop a).length by rw [List.length_drop, ← Nat.sub_min_sub_right, Nat.add_sub_cancel_left, Nat.add_sub_add_left]]
    exact kmk_take_min _ k
  · rw [List.drop_of_length_le (Nat.le_of_not_le h), List.drop_of_length_le (by rw [List.length_append]; exact Nat.le_min.mpr ⟨Nat.add_le_add_left (Nat.le_of_not_le h) _, Nat.le_refl _⟩)]; simp
theorem chs_snoc (l : List Nat) (c : Nat) : chs (l ++ [c]) = chs l ++ [.str (chr c)] := by simp [chs]
theorem sub_mid {value slice : PySem.Expr} {pre t : List Nat} {k : Int} {c : Nat} {Q : AV → Sto → Prop} (j : Nat) (hc : t[j]? = some c) (hs : NoSl slice) (hk : k = (pre.length : Int) + j) (hz : (pre ++ t).length ≤ 16777216) (h : Q (.str (chr c)) σ) :
    SUB G κ value slice (.str (tx (pre ++ t))) (.int k) σ Q X := by
  obtain ⟨hj, e⟩ := List.getElem?_eq_some_iff.mp hc
  refine sub_tx (pre.length + j) (by rw [List.length_append]; walk_at "om") hs (by walk_at "om") hz ?_
  rw [List.getElem_append_right (by walk_at "om")]
  simp only [Nat.add_sub_cancel_left]
  rw [e]; exact h
theorem sub_at {value slice : PySem.Expr} {w pre t : List Nat} {k p : Int} {c : Nat} {Q : AV → Sto → Prop} (j : Nat) (hw : w = pre ++ t) (hp : p = pre.length) (hc : t[j]? = some c) (hs : NoSl slice) (hk : k = p + j) (hz : w.length ≤ 16777216) (h : Q (.str (chr c)) σ) :
    SUB G κ value slice (.str (tx w)) (.int k) σ Q X := by
  subst hw hp; exact sub_mid j hc hs hk hz h
theorem sls_at {w pre t : List Nat} {i j p : Int} {Q : AV → Sto → Prop} (n : Nat) (hw : w = pre ++ t) (hp : p = pre.length) (hi : i = p) (hj : j = p + n) (hz : w.length ≤ 16777216) (h : Q (.str (tx (t.take n))) σ) : SlS Q (.str (tx w)) (.int i) (.int j) σ := by
  subst hw hp hi hj
  exact ⟨_, _, _, rfl, .int, .int, hz, by rw [slcL_mid pre t (pre.length : Int) ((pre.length : Int) + n) n rfl rfl]; exact h⟩
theorem sls_at2 {w pre t r : List Nat} {i j p : Int} {Q : AV → Sto → Prop} (a n : Nat) (hr : (t.drop a).take n = r) (hw : w = pre ++ t) (hp : p = pre.length) (hi : i = p + a) (hj : j = p + a + n) (hz : w.length ≤ 16777216) (h : Q (.str (tx r)) σ) : SlS Q (.str (tx w)) (.int i) (.int j) σ := by
  subst hw hp hi hj hr
  exact ⟨_, _, _, rfl, .int, .int, hz, by rw [slcL_mid2 pre t ((pre.length : Int) + a) ((pre.length : Int) + a + n) a n rfl rfl]; exact h⟩
theorem at_end {w pre t : List Nat} {p : Int} (l : List Nat) (hw : w = pre ++ (l ++ t)) (hp : p = pre.length) : p + (l.length : Int) = ((pre ++ l).length : Nat) ∧ w = (pre ++ l) ++ t := by
  subst hw hp; exact ⟨by rw [List.length_append]; rfl, by rw [List.append_assoc]⟩
theorem nb {b : Bool} (h : b = false) : ¬ b = true := by rw [h]; nofun
theorem beq_head {c d : Nat} {l m : List Nat} (h : c ≠ d) : ((c :: l) == (d :: m)) = false := by
  rw [List.cons_beq_cons, beq_false_of_ne h]; rfl
end
end B10Text
section B11Text
noncomputable def dget (es : List (PySem.Str × AV)) (k : PySem.Str) : Option AV := (es.find? fun p => p.1 = k).map (·.2)
section
variable {G : Gd} {κ : Kx} {env : Env} {σ σ' : Sto} {X : XP}
theorem St.dict {ρ : Frm} {s : Shared} (h : St G ρ σ s) {a : Addr} {es : List (PySem.Str × AV)} (hm : (a, .dict es) ∈ σ) :
    ∃ kvs : List (PySem.Str × Value), s.heap.DictOf (PySem.strKind G.prog G.w) a kvs ∧ kvs.map (fun p => (p.1, ab p.2)) = es := by
  obtain ⟨ob, e, hx, ds, ep, hd, hk, kvs, hp, hn, he⟩ := h.at hm
  exact ⟨kvs, ⟨ob, ds, ep, e, hx, hd, hk, hp, hn⟩, he⟩
theorem dget_at {kvs : List (PySem.Str × Value)} {k : PySem.Str} : dget (kvs.map fun p => (p.1, ab p.2)) k = (valueAt kvs k).map ab := by
  unfold dget valueAt
  rw [List.find?_map]
  cases h : List.find? ((fun p => decide (p.fst = k)) ∘ fun p : PySem.Str × Value => (p.fst, ab p.snd)) kvs with
  | none =>
    have h2 : List.find? (fun kv : PySem.Str × Value => decide (kv.fst = k)) kvs = none := h
    rw [h2]; rfl
  | some p =>
    have h2 : List.find? (fun kv : PySem.Str × Value => decide (kv.fst = k)) kvs = some p := h
    rw [h2]; rfl
theorem sub_dict {value slice : PySem.Expr} {d : Addr} {es : List (PySem.Str × AV)} {k : PySem.Str} {v : AV} {Q : AV → Sto → Prop} (hs : NoSl slice) (hm : (d, .dict es) ∈ σ) (hv : dget es k = some v) (h : Q v σ) :
    SUB G κ value slice (.ref d) (.str k) σ Q X := fun x y hx hy A ρ s hA z => by
  rw [ab_ref hx]
  obtain ⟨t, rfl⟩ := ab_str hy
  obtain ⟨kvs, hd, he⟩ := z.dict hm
  rw [← he, dget_at] at hv
  cases hq : valueAt kvs k with
  | none => rw [hq] at hv; cases hv
  | some u =>
    rw [hq] at hv
    refine tail_any' (ops := [.ref d, .str k t]) hd.typeIs F.slot_dict_getitem.lookup (wpAny_getItem_of (knd := PySem.strKind G.prog G.w) (strKind_is _ _ k t) hd.mapOf hq ⟨σ, ?_, z.toks _⟩) (subscripted_of hs)
    cases hv; exact h
theorem ev_lc_inv {elt iter : PySem.Expr} {x : PySem.Str} {p : Pos} {ifs : List PySem.Expr} {scope : Scope} {pos : Pos} {cl : List (PySem.Str × Addr)} {Q : AV → Sto → Prop} (hκ : hdv κ.hd = none)
    (hclos : closureFor scope env = pure cl) (hkind : scope.kind = .function) (hnames : ∀ x ∈ scope.names, x.2 = .local → scope.names.lookup x.1 = some .local) (hnd : ((lay scope.names).map (·.1)).Nodup)
    (hs : ∀ x, foldedSetIterable iter env x = pure x)
    (hlay : lay scope.names = m1 x none) (hcells : ∀ n σ, layC n scope.names σ = σ) (hx : ∀ C, (compE scope cl C env).kindOf x = some .local)
    (hkind' : ∀ C, (compE scope cl C env).scope.kind = .function)
    (h : EV G κ env iter σ (fun a σ₁ => ∃ sr xs, IsSr a sr xs σ₁ ∧ xs.length ≤ sizeLine ∧ ∃ I : List AV → List AV → Sto → Prop, I xs [] σ₁ ∧ (∀ ys done τ, I ys done τ → SrOk sr xs τ) ∧
      (∀ r C y ys done τ, I (y :: ys) done τ → TSS G κ (compE scope cl C env) ifs ((C, .ns (m1 x (some y))) :: (r, .list done) :: τ) (fun b σ₂ =>
        if b then EV G κ (compE scope cl C env) elt σ₂ (fun v σ₃ => ∃ τ' : Sto, Pt ((C, .ns (m1 x (some y))) :: (r, .list done) :: τ') σ₃ ∧ I ys (done ++ [v]) τ') NoX
        else ∃ τ' : Sto, Pt ((C, .ns (m1 x (some y))) :: (r, .list done) :: τ') σ₂ ∧ I ys done τ') NoX) ∧
      (∀ r done τ, I [] done τ → Q (.ref r) ((r, .list done) :: τ))) NoX) : EV G κ env (.ListComp elt [⟨.Name x p, iter, ifs, 0⟩] scope pos) σ Q X := by
  refine ev_listcomp hκ hclos hkind hnames hnd hs (lc_one hlay hcells hx hkind' ?_)
  refine W.post h fun a σ₁ hh => ?_
  obtain ⟨sr, xs, hsr, hlen, I, h1, h2, step, fin⟩ := hh
  refine ⟨sr, xs, hsr, hlen, I, h1, h2, step, fun r C done τ o hI => ?_⟩
  exact ⟨_, _, _, .here, .refl _, fin r done τ hI⟩
end
end B11Text
section B12Text
theorem sub_key_lookup : isSubtype (.type "KeyError") (.type "LookupError") = pure true := by rw [isSubtype_type]; kernel_rfl
section
variable {prog : Program} {w : World} {A : Around} {E : Value → Shared → Prop} {s : Shared}
theorem tl_keep {d : Addr} {f : Int → Option Value} {c : Nat} {Q : Builtin.Str.Mapped → Shared → Prop} (hm : s.heap.MapOf (intKind prog w) d f) (hd : (d == sysModules) = false) (hh : A.handled = none) (hf : f (c : Int) = none)
    (hq : ∀ h' tk, (∀ b o, s.heap.get? b = some o → h'.get? b = some o) → Q .keep { s with heap := h', toks := tk }) : wpAny (model prog w) A (Builtin.Str.tableLookup (.ref d) c) Q E s := by
  unfold Builtin.Str.tableLookup
  refine wpAny_bind (wpAny_attempt (wpAny_bind (wpAny_mkInt (wpAny_getItem_missing_of (knd := intKind prog w) (k := (c : Int)) (intKind_is _ _ _ _) hd hh (s := { s with toks := s.toks + 1 }) hm hf ?_))))
  intro h' e NE
  obtain ⟨ob, t, e1, e2, _⟩ := NE.there
  refine wpAny_bind (wpAny_isInstance (T := "KeyError") (b := true) ⟨ob, e1, e2⟩ sub_key_lookup ?_)
  rw [if_pos rfl]
  exact wpAny_bind (wpAny_rule (wpAny_pure (hq h' _ NE.keeps)))
theorem tl_text {d : Addr} {f : Int → Option Value} {c : Nat} {x : PySem.Str} {t : Tok} {Q : Builtin.Str.Mapped → Shared → Prop} (hm : s.heap.MapOf (intKind prog w) d f) (hf : f (c : Int) = some (.str x t))
    (hq : ∀ tk, Q (.text x) { s with toks := tk }) : wpAny (model prog w) A (Builtin.Str.tableLookup (.ref d) c) Q E s := by
  unfold Builtin.Str.tableLookup
  refine wpAny_bind (wpAny_attempt (wpAny_bind (wpAny_mkInt (wpAny_getItem_of (knd := intKind prog w) (k := (c : Int)) (intKind_is _ _ _ _) (s := { s with toks := s.toks + 1 }) hm hf ?_))))
  dsimp only
  refine wpAny_bind (wpAny_of_eq (a := none) rfl ?_)
  dsimp only
  refine wpAny_bind (wpAny_of_eq (a := some x) rfl ?_)
  exact wpAny_pure (hq _)
noncomputable def Kp (s s' : Shared) : Prop := ∃ h' tk, s' = { s with heap := h', toks := tk } ∧ ∀ b o, s.heap.get? b = some o → h'.get? b = some o
theorem Kp.refl (s : Shared) : Kp s s := ⟨_, _, rfl, fun _a _b e => e⟩
theorem Kp.on {s s' : Shared} (h : Kp s s') {h2 : Heap} {tk : Nat} (hk : ∀ b o, s'.heap.get? b = some o → h2.get? b = some o) : Kp s { s' with heap := h2, toks := tk } := by
  obtain ⟨h', tk', rfl, hk'⟩ := h
  exact ⟨h2, tk, rfl, fun b o e => hk _ _ (hk' _ _ e)⟩
theorem wp_forIn {M : Model} {S : Type} {b : Nat → S → Sem (ForInStep S)} {s0 : Shared} {Q : S → Shared → Prop} (I : List Nat → S → Prop) (cs : List Nat)
    (step : ∀ B, B = b → ∀ done c rest st s, cs = done ++ c :: rest → I done st → Kp s0 s → ∀ Q' : ForInStep S → Shared → Prop, (∀ st' s', I (done ++ [c]) st' → Kp s0 s' → Q' (.yield st') s') → wpAny M A (B c st) Q' E s) :
    ∀ rest done st s, cs = done ++ rest → I done st → Kp s0 s → (∀ st' s', I cs st' → Kp s0 s' → Q st' s') → wpAny M A (forIn rest st b) Q E s := by
  intro rest
  induction rest with
  | nil =>
    intro done st s hc hI hk hQ
    rw [List.append_nil] at hc
    rw [List.forIn_nil]
    exact wpAny_pure (hQ _ _ (hc ▸ hI) hk)
  | cons c rest ih =>
    intro done st s hc hI hk hQ
    rw [List.forIn_cons]
    refine wpAny_bind (step b rfl done c rest st s hc hI hk _ fun st' s' hI' hk' => ?_)
    exact ih (done ++ [c]) st' s' (by rw [hc]; simp) hI' hk' hQ
/-- what a sign becomes by the table -/
noncomputable def EscOk (f : Int → Option Value) (mp : Nat → List Nat) (c : Nat) : Prop := (f (c : Int) = none ∧ mp c = [c]) ∨ ∃ t, f (c : Int) = some (.str (tx (mp c)) t) ∧ (mp c).length = 2
set_option tactic.hygienic true in
theorem lk_mem {c : Nat} {a : Option Nat} : ∀ {known : List (Nat × Option Nat)}, known.lookup c = some a → (c, a) ∈ known
  | q :: known, h => by
    rw [List.lookup_cons] at h
    split at h
    · rename_i he
      obtain rfl := eq_of_beq he
      injection h with h; subst h
      exact .head _
    · exact .tail _ (lk_mem h)
set_option tactic.hygienic true in
theorem tr_run {d : Addr} {f : Int → Option Value} {mp : Nat → List Nat} {l : List Nat} {t : Tok} {Q : PySem.Fin → Shared → Prop} (hm : s.heap.MapOf (intKind prog w) d f) (hd : (d == sysModules) = false) (hh : A.handled = none)
    (hl : ∀ c ∈ l, EscOk f mp c) (hz : l.length ≤ 1000) (hne : l ≠ [])
    (hQ : ∀ s' tk, Kp s s' → Q (.done (.ret (.str (tx (l.flatMap mp)) tk))) s') :
    wpAny (model prog w) A (Builtin.«str.translate» ⟨[.str (tx l) t, .ref d], []⟩) Q E s := by
  have hmk : ∀ s', Kp s s' → s'.heap.MapOf (intKind prog w) d f := by
    rintro s' ⟨h', tk, rfl, hk⟩
    obtain ⟨o, es, ep, e, r⟩ := hm
    exact ⟨o, es, ep, hk _ _ e, r⟩
  unfold Builtin.«str.translate»
  refine wpAny_bind (wpAny_of_eq (a := (.str (tx l) t, tx l, .ref d)) rfl ?_)
  dsimp only
  rw [if_neg (by rw [tx_len]; simpa using hne)]
  refine wpAny_bind ?_
  rw [← Array.forIn_toList]
  refine wp_forIn (s0 := s) (fun done st => st.1 = (done.map fun c => tx (mp c)).reverse ∧ st.2.1 ≤ 2 * done.length ∧ (∀ p ∈ st.2.2.2.1, p.2 = some p.1 ∧ f (p.1 : Int) = none) ∧ st.2.2.2.2 = false) l ?_ l [] _ s rfl ⟨rfl, Nat.le_refl _, nofun, rfl⟩ (.refl s) ?_
  · rintro B hB done c rest ⟨pieces, total, fast, known, drop⟩ s' hc ⟨h1, h2, h3, h4⟩ hk Q' hQ'
    dsimp only at h1 h2 h3 h4
    subst h4
    have hlen : done.length < l.length := by rw [hc]; simp
    have hlong : ¬ Builtin.Str.tooLong total = true := by unfold Builtin.Str.tooLong; rw [decide_eq_true_eq, sizeLine_eq]; walk_at "om"
    have hmem : c ∈ l := by rw [hc]; simp
    have hesc := hl c hmem
    have hmf := hmk s' hk
    have fin : ∀ (tt : Nat) (ff : Bool) (kk : List (Nat × Option Nat)) (s2 : Shared), tt ≤ total + 2 → (∀ p ∈ kk, p.2 = some p.1 ∧ f (p.1 : Int) = none) → Kp s s2 → Q' (.yield (tx (mp c) :: pieces, tt, ff, kk, false)) s2 := by
      intro tt ff kk s2 ht hkk hk2
      refine hQ' _ s2 ⟨?_, ?_, hkk, rfl⟩ hk2
      · rw [h1, List.map_append, List.reverse_append]; rfl
      · rw [List.length_append, List.length_cons, List.length_nil]
        show tt ≤ _
        walk_at "om"
    clear hQ' h1 h2 hc hmem hlen
    rcases hesc with ⟨hf, hmc⟩ | ⟨tk, hf, hmc⟩
    · have fin1 : ∀ (ff : Bool) (kk : List (Nat × Option Nat)) (s2 : Shared), (∀ p ∈ kk, p.2 = some p.1 ∧ f (p.1 : Int) = none) → Kp s s2 → Q' (.yield (tx [c] :: pieces, total + 1, ff, kk, false)) s2 := fun ff kk s2 hkk hk2 => by
        have := fin (total + 1) ff kk s2 (by walk_at "om") hkk hk2
        rwa [hmc] at this
      clear fin
      by_cases hfast : fast = true
      case neg =>
        subst hB
        refine wp_neg hlong ?_
        refine wp_neg hfast ?_
        exact wpAny_bind (tl_keep hmf hd hh hf fun h' tk hk2 => wpAny_pure (fin1 _ known _ h3 (hk.on hk2)))
      case pos =>
        cases hlk : known.lookup c with
        | some a =>
          obtain ⟨e1, e2⟩ := h3 _ (lk_mem hlk)
          obtain rfl : a = some c := e1
          subst hB
          refine wp_neg hlong ?_
          refine wp_pos hfast ?_
          rw [hlk]
          exact wpAny_bind (wpAny_pure (wpAny_pure (fin1 _ known s' h3 hk)))
        | none =>
          subst hB
          refine wp_neg hlong ?_
          refine wp_pos hfast ?_
          rw [hlk]
          refine wpAny_bind (tl_keep hmf hd hh hf fun h' tk hk2 => ?_)
          refine wpAny_bind (wpAny_pure (wpAny_pure (fin1 _ ((c, some c) :: known) _ ?_ (hk.on hk2))))
          intro p hp
          rcases List.mem_cons.mp hp with rfl | hp
          · exact ⟨rfl, hf⟩
          · exact h3 p hp
    · have fin2 : ∀ (ff : Bool) (kk : List (Nat × Option Nat)) (s2 : Shared), (∀ p ∈ kk, p.2 = some p.1 ∧ f (p.1 : Int) = none) → Kp s s2 → Q' (.yield (tx (mp c) :: pieces, total + (tx (mp c)).length, ff, kk, false)) s2 := fun ff kk s2 hkk hk2 => fin _ ff kk s2 (by rw [tx_len, hmc]; walk_at "om") hkk hk2
      clear fin
      by_cases hfast : fast = true
      case neg =>
        subst hB
        refine wp_neg hlong ?_
        refine wp_neg hfast ?_
        exact wpAny_bind (tl_text hmf hf fun tk => wpAny_pure (fin2 _ _ _ h3 (hk.on (fun _a _b e => e))))
      case pos =>
        cases hlk : known.lookup c with
        | some a =>
          exfalso
          exact nomatch hf.symm.trans (h3 _ (lk_mem hlk)).2
        | none =>
          have h1n : ((tx (mp c)).length == 1 && (tx (mp c)).cps.all fun x => decide (x < 128)) = false := by rw [tx_len, hmc]; rfl
          subst hB
          refine wp_neg hlong ?_
          refine wp_pos hfast ?_
          rw [hlk]
          refine wpAny_bind (tl_text hmf hf fun tk2 => ?_)
          dsimp only
          rw [h1n]
          simp only [Bool.false_eq_true, if_false]
          refine wpAny_bind (wpAny_pure ?_)
          refine wpAny_bind (wpAny_rule ?_)
          exact wpAny_bind (tl_text (s := { s' with toks := tk2 }) hmf hf fun tk3 => wpAny_pure (fin2 _ _ _ h3 (hk.on (fun _a _b e => e))))
  · rintro ⟨pieces, total, fast, known, drop⟩ s' ⟨h1, h2, h3, h4⟩ hk
    dsimp only at h1 h2 h3 h4 ⊢
    have hfl : ∀ (cs : List Nat) (acc : Array Nat), (cs.map fun c => tx (mp c)).foldl (fun acc p => acc ++ p.cps) acc = acc ++ (cs.flatMap mp).toArray := by
      intro cs
      induction cs with
      | nil => intro acc; simp
      | cons c cs ih => intro acc; rw [List.map_cons, List.foldl_cons, ih]; simp [tx]
    have hfin : (⟨List.foldl (fun acc p => acc ++ p.cps) #[] pieces.reverse⟩ : PySem.Str) = tx (l.flatMap mp) := by
      rw [h1, List.reverse_reverse, hfl]; simp [tx]
    have hlen : ∀ cs : List Nat, (∀ c ∈ cs, EscOk f mp c) → (cs.flatMap mp).length ≤ 2 * cs.length := by
      intro cs
      induction cs with
      | nil => intro _; simp
      | cons c cs ih =>
        intro hcs
        have := ih fun c hc => hcs c (.tail _ hc)
        rw [List.flatMap_cons, List.length_append, List.length_cons]
        have : (mp c).length ≤ 2 := by
          rcases hcs c (.head _) with ⟨_, e⟩ | ⟨_, _, e⟩
          · rw [e]; simp
          · walk_at "om"
        walk_at "om"
    rw [if_neg (by unfold Builtin.Str.tooLong; rw [decide_eq_true_eq, sizeLine_eq]; walk_at "om"), hfin]
    unfold retStr
    refine wpAny_bind (wpAny_mkStr (wpAny_pure (hQ _ _ (hk.on fun _a _b e => e))) ?_)
    have := hlen l hl
    rw [tx_len, sizeLine_eq]; walk_at "om"
end
/-- what stands at the top, the table of escapes with it -/
noncomputable def escM : Nat → List Nat
  | 46 => [92, 46] | 63 => [92, 63] | c => [c]
noncomputable def Lit5 (c : Nat) : Prop := c = 97 ∨ c = 98 ∨ c = 47 ∨ c = 46 ∨ c = 63
structure Top2 (G : Gd) extends Top G where
  esc : ∃ o es ep f, G.h₀.get? 75 = some o ∧ o.ExactDict ∧ o.data = .dict es ep ∧ KeysOf (intKind G.prog G.w) es ∧ (∀ k, findBy (intKind G.prog G.w).is es k = f k) ∧ ∀ c, Lit5 c → EscOk f escM c
section
variable {G : Gd} {κ : Kx} {env : Env} {σ σ' : Sto} {X : XP}
theorem St.kp {ρ : Frm} {s s' : Shared} (h : St G ρ σ s) (k : Kp s s') : St G ρ σ s' := by
  obtain ⟨h', tk, rfl, hk⟩ := k
  exact (h.grown hk).toks _
theorem cl_translate (T : Top2 G) {n : Nat} {l : List Nat} {Q : AV → Sto → Prop} (hl : ∀ c ∈ l, Lit5 c) (hz : l.length ≤ 1000) (h : Q (.str (tx (l.flatMap escM))) σ) : CL G ⟨n, none⟩ (.bi "str.translate") [.str (tx l), .ref 75] σ Q X := fun g vs hg hvs A ρ s hA z => by
  rw [ab_bi hg]
  obtain ⟨a, b, rfl, ha, hb⟩ := two hvs
  obtain ⟨t, rfl⟩ := ab_str ha
  rw [ab_ref hb]
  refine wpAny_call_entry F.slot_str_translate (typeIs_str s (tx l) t) F.entry_str_translate ?_ (F.args_str_translate_2 _ _)
  obtain ⟨o, es, ep, f, e, hx, hd, hk, hf, hesc⟩ := T.esc
  have hm : s.heap.MapOf (intKind G.prog G.w) 75 f := ⟨o, es, ep, z.old.get_of_cls e (by rw [hx.1]; nofun), hx, hd, hk, hf⟩
  by_cases hne : l = []
  · subst hne
    unfold Builtin.«str.translate»
    refine wpAny_bind (wpAny_of_eq (a := (.str (tx []) t, tx [], .ref 75)) rfl ?_)
    dsimp only
    rw [if_pos (show ((tx []).length == 0) = true from rfl)]
    refine wpAny_bind (wpAny_rule ?_)
    refine wpAny_bind (wpAny_of_eq (a := .str (tx []) t) rfl ?_)
    exact wpAny_pure ⟨_, rfl, σ, h, z⟩
  · exact tr_run (mp := escM) hm rfl hA.hd (fun c hc => hesc c (hl c hc)) hz hne fun s' tk hk => ⟨_, rfl, σ, h, z.kp hk⟩
end
end B12Text
section B13Text
noncomputable def bapp (l : Addr) : Obj := { cls := .type "builtin_function_or_method", data := .fields #[.builtin "list.append", .ref l] }
theorem slot_md_get : Slot "method_descriptor" "__get__" "method_descriptor.__get__" :=
  .of (owner := "method_descriptor") (n := "__get__") (by rw [typeLookup_type, builtinLookup_eq_fast]; kernel_rfl) (by decide +kernel) (by decide +kernel) (by decide +kernel)
    (by first | exact .inl (by decide +kernel) | exact .inr (by decide +kernel)) (by rw [isSubtype_type]; kernel_rfl)
theorem entry_md_get : entryFor table "method_descriptor.__get__" = some Builtin.«method_descriptor.__get__» := entryFor_of_tree (by kernel_rfl)
theorem args_md_get (a b c : Value) : argsOk "method_descriptor.__get__" ⟨[a, b, c], []⟩ := by unfold argsOk; kernel_rfl
theorem lookup_append : typeLookup (.type "list") (PySem.Str.ofString "append") = pure (some (.builtin "list.append")) := F.slot_list_append.lookup
theorem ss_list : isSubtype (.type "list") (.type "list") = pure true := by rw [isSubtype_type]; kernel_rfl
theorem get_of_md : Builtin.ObjectAttr.getOf (some (.builtin "list.append")) = pure (some (.builtin "method_descriptor.__get__")) := by
  unfold Builtin.ObjectAttr.getOf specialOf
  show (typeOf (.builtin "list.append") >>= fun t => typeLookup t (PySem.Str.ofString "__get__")) = _
  rw [F.type_list_append]
  show typeLookup (.type "method_descriptor") "__get__" = _
  exact slot_md_get.lookup
theorem takes_md : Builtin.ObjectAttr.dataDescriptor? (some (.builtin "list.append")) (some (.builtin "method_descriptor.__get__")) = pure none := by
  first | rfl | kernel_rfl
section
variable {prog : Program} {w : World} {A : Around} {E : Value → Shared → Prop} {s : Shared}
theorem md_run {l : Addr} {xs : Array Value} {k : Nat} {P : PySem.Fin → Shared → Prop} (hx : s.heap.get? l = some { cls := .type "list", dict := none, data := .seq xs k, slots := #[] })
    (h : P (.done (.ret (.ref s.heap.objs.size))) { s with heap := s.heap.push (bapp l) }) :
    wpAny (model prog w) A (Builtin.«method_descriptor.__get__» ⟨[.builtin "list.append", .ref l, .type "list"], []⟩) P E s := by
  unfold Builtin.«method_descriptor.__get__»
  refine wpAny_bind (wpAny_of_eq (a := (.builtin "list.append", some (.ref l), some (.type "list"))) (by first | rfl | kernel_rfl) ?_)
  dsimp only
  rw [if_neg (by decide +kernel)]
  refine wpAny_bind ?_
  refine wpAny_bind (wpAny_of_eq (a := (PySem.Str.ofString "append", Value.type "list")) (by first | rfl | kernel_rfl) ?_)
  dsimp only
  refine wpAny_bind (wpAny_isInstance (T := "list") (b := true) ⟨_, hx, rfl⟩ ss_list ?_)
  rw [if_neg (by decide)]
  refine wpAny_pure ?_
  exact wpAny_bind (wpAny_newObj_type (wpAny_pure h))
theorem gattr_run {l : Addr} {xs : Array Value} {k : Nat} {u : Tok} {P : PySem.Fin → Shared → Prop} (hx : s.heap.get? l = some { cls := .type "list", dict := none, data := .seq xs k, slots := #[] })
    (h : P (.done (.ret (.ref s.heap.objs.size))) { s with heap := s.heap.push (bapp l) }) :
    wpAny (model prog w) A (Builtin.«object.__getattribute__» ⟨[.ref l, .str (PySem.Str.ofString "append") u], []⟩) P E s := by
  have hT : s.TypeIs (.ref l) "list" := ⟨_, hx, rfl⟩
  unfold Builtin.«object.__getattribute__»
  refine wpAny_bind (wpAny_of_eq (a := (.ref l, [.str (PySem.Str.ofString "append") u])) (by first | rfl | kernel_rfl) ?_)
  dsimp only
  refine wpAny_bind (wpAny_of_eq (a := PySem.Str.ofString "append") (by first | rfl | kernel_rfl) ?_)
  refine wpAny_bind (wpAny_typeOf hT ?_)
  refine wpAny_bind ?_
  unfold Builtin.ObjectAttr.find
  refine wpAny_bind (wpAny_of_eq (a := some (.builtin "list.append")) lookup_append ?_)
  refine wpAny_bind (wpAny_of_eq (a := some (.builtin "method_descriptor.__get__")) get_of_md ?_)
  refine wpAny_bind (wpAny_of_eq (a := none) takes_md ?_)
  dsimp only
  unfold Builtin.ObjectAttr.ownThenClass
  obtain ⟨hp, g, d, tk, os⟩ := s
  have hb : Slot "list" "__getattribute__" "list.__getattribute__" := F.slot_list_getattribute
  refine wpAny_bind ?_
  unfold Builtin.ObjectAttr.inOwnDict
  refine wpAny_bind ?_
  unfold Builtin.ObjectAttr.ownDict
  repeat (any_goals (first | assumption | walk_at "wq" | wp_delta | wp_step))
  refine codeAny_call_builtin slot_md_get.plain entry_md_get (slot_md_get.check _ _ _ _ _ _ _ _ F.type_list_append (args_md_get _ _ _) (md_run hx ?_))
  exact wpAny_pure h
theorem getattr_append {l : Addr} {xs : Array Value} {k : Nat} {Q : Value → Shared → Prop} (hx : s.heap.get? l = some { cls := .type "list", dict := none, data := .seq xs k, slots := #[] })
    (h : Q (.ref s.heap.objs.size) { s with heap := s.heap.push (bapp l), toks := s.toks + 1 }) : wpAny (model prog w) A (getAttr (.ref l) (PySem.Str.ofString "append") true) Q E s := by
  obtain ⟨hp, g, d, tk, os⟩ := s
  have hT : ∀ tk', (⟨hp, g, d, tk', os⟩ : Shared).TypeIs (.ref l) "list" := fun _a => ⟨_, hx, rfl⟩
  have f3 := F.slot_list_getattribute.lookup
  have f4 := F.slot_list_getattribute.bind (.ref l)
  have f5 := am_list_getattr_none
  unfold getAttr getAttrBy
  repeat (any_goals (first | assumption | exact hT _ | ((with_reducible show wpAny _ _ (call (Value.builtin "list.__getattribute__") _ _) _ _ _); refine wpAny_call_entry F.slot_list_getattribute (hT _) am_entry_list_getattribute (gattr_run hx ?_) (F.args_list_getattribute_2 _ _)) | wp_step))
  exact ⟨_, rfl, wpAny_of_eq (a := .ref hp.objs.size) rfl h⟩
end
section
variable {G : Gd} {κ : Kx} {env : Env} {σ σ' : Sto} {X : XP}
inductive BaP (Q : AV → Sto → Prop) (a : AV) (σ : Sto) : Prop
  | mk (l : Addr) (xs : List AV) (e : a = .ref l) (hm : (l, .list xs) ∈ σ) (h : ∀ b, Q (.ref b) ((b, .raw (bapp l)) :: σ))
theorem ev_append_of {o : PySem.Expr} {pos : Pos} {Q : AV → Sto → Prop} (hbase : attributeBase o (PySem.Str.ofString "append") env (eval o env) = eval o env)
    (h : EV G κ env o σ (BaP Q) X) : EV G κ env (.Attribute o (PySem.Str.ofString "append") pos) σ Q X := fun A ρ s hA z => by
  rw [arm_eval_Attribute, hbase]
  refine wpAny_bind (wpAny_mono (h A ρ s hA z) (fun v s₁ => pe fun σ₁ hh z₁ => ?_) fun _a _b x => x)
  obtain ⟨l, xs, hv, hm, q⟩ := hh
  rw [ab_ref hv]
  obtain ⟨ys, n, e, hy⟩ := z₁.list hm
  refine wpAny_bind (wpAny_standAt (wpAny_bind (wpAny_holding (getattr_append e ?_))))
  refine wpAny_bind (wpAny_letTemporaryGo (wpAny_pure ⟨_, q _, ?_⟩))
  exact (z₁.push (bapp l) (.raw (bapp l)) rfl rfl).toks _
theorem kp_bapp {b l : Addr} (hm : (b, .raw (bapp l)) ∈ σ) : KP G κ (.ref b) σ := fun g hg X A ρ s hA z => by
  rw [ab_ref hg]
  obtain ⟨ob, e, hob⟩ := z.at hm
  have hob : ob = bapp l := hob
  subst hob
  unfold keeperOf
  refine wpAny_bind (wpAny_load e ?_)
  refine KFB.if_so (show (Value.type "builtin_function_or_method" != Value.type "method") = true by decide) ?_
  exact wpAny_pure ⟨σ, rfl, z⟩
theorem sig_app : ∃ sig, Manifest.signature? "list.append" = some sig ∧ ∀ (a b : Value), Bind.checkArgs "list.append" { sig with full := toString (Bind.lastOf "list") ++ toString "." ++ toString (Bind.lastOf "list.append") } ⟨[a, b], []⟩ = pure () := by
  have h : (Manifest.signature? "list.append").isSome = true := by
    rw [signature?_of (id := "list.append") (n := ['d', 'n', 'e', 'p', 'p', 'a']) (o := ['t', 's', 'i', 'l']) (by kernel_rfl) PySem.F.owner_list]; kernel_rfl
  refine ⟨(Manifest.signature? "list.append").get h, (Option.some_get h).symm, fun a b => ?_⟩
  have e := signature?_of (id := "list.append") (n := ['d', 'n', 'e', 'p', 'p', 'a']) (o := ['t', 's', 'i', 'l']) (by kernel_rfl) PySem.F.owner_list
  revert h
  rw [e]
  intro h
  kernel_rfl
theorem check_app {M : Model} {A : Around} {E : Value → Shared → Prop} {s : Shared} {l : Addr} {a : Value} {xs : Array Value} {n : Nat} {Q : Unit → Shared → Prop} (hx : s.heap.get? l = some { cls := .type "list", dict := none, data := .seq xs n, slots := #[] }) (h : Q () s) : wpAny M A (checkBoundCall "list.append" ⟨[.ref l, a], []⟩) Q E s := by
  obtain ⟨sig, e1, e2⟩ := sig_app
  have hT : s.TypeIs (.ref l) "list" := ⟨_, hx, rfl⟩
  unfold checkBoundCall
  rw [e1]
  dsimp only
  rw [show builtinKind "list.append" = some .method by decide +kernel]
  dsimp only
  rw [if_neg (by decide)]
  refine wpAny_bind (wpAny_isInstance (T := "list") (b := false) hT (by rw [isSubtype_type]; kernel_rfl) ?_)
  rw [if_neg (by decide +kernel)]
  obtain ⟨hp, g, d, tk, os⟩ := s
  refine wpAny_bind (wpAny_bind (wpAny_loadPart_at hx (wpAny_pure ?_)))
  dsimp only
  rw [if_neg (by decide)]
  refine wpAny_bind (wpAny_typeOf hT ?_)
  dsimp only
  exact wpAny_of_eq (e2 _ _) h
theorem cl_bapp {b l : Addr} {xs : List AV} {v : AV} {Q : AV → Sto → Prop} (hm : (b, .raw (bapp l)) ∈ σ) (u : Up l (.list xs) (.list (xs ++ [v])) σ σ') (hz : xs.length ≤ sizeLine) (h : Q .none σ') : CL G κ (.ref b) [v] σ Q X := fun g vs hg hvs A ρ s hA z => by
  rw [ab_ref hg]
  obtain ⟨a, rfl, ha⟩ := one hvs
  obtain ⟨ob, e, hob⟩ := z.at hm
  have hob : ob = bapp l := hob
  subst hob
  obtain ⟨ys, n, el, hy⟩ := z.list u.mem
  refine wpAny_call (codeAny_of_tree ?_)
  show wpAny _ A.in1 (callAny (.ref b) ⟨[a], []⟩) _ _ s
  unfold callAny
  refine wpAny_bind (wpAny_load e ?_)
  refine KFB.if_so (show (Value.type "builtin_function_or_method" == Value.type "method" || Value.type "builtin_function_or_method" == Value.type "builtin_function_or_method" || Value.type "builtin_function_or_method" == Value.type "method-wrapper") = true by decide) ?_
  refine KFB.if_so (show (Value.type "builtin_function_or_method" != Value.type "method") = true by decide) ?_
  refine wpAny_bind (check_app el ?_)
  refine wpAny_bind (wpAny_pure (wpAny_pure ?_))
  refine ⟨Code.quiet_builtin _ (by decide +kernel), codeAny_builtin F.entry_list_append ?_⟩
  show wpAny _ _ (updateSeq l (·.push a) >>= fun _a => ret .none) _ _ s
  refine wpAny_bind (wpAny_updateSeq el rfl (wpAny_pure ⟨σ', h, z.turn u (Heap.SameBut.update ..) ?_ ⟨ys.push a, n + 1, rfl, by simp [hy, ha]⟩⟩) (by rw [size_of hy]; exact hz) (by rw [Array.size_push, size_of hy]; walk_at "om"))
  rw [Heap.get?_update_self _ el (by rw [Obj.mapSeq_push_plain]; rfl), Obj.mapSeq_push_plain]
end
end B13Text
section B14Text
theorem tx_add (a b : List Nat) : tx a ++ tx b = tx (a ++ b) := by
  show PySem.Str.mk (a.toArray ++ b.toArray) = PySem.Str.mk (a ++ b).toArray
  congr 1; simp
section
variable {G : Gd} {κ : Kx} {env : Env} {σ σ' : Sto} {X : XP}
/-- the parts of an f-string -/
noncomputable def JP (G : Gd) (κ : Kx) (env : Env) : PySem.Str → List PySem.Expr → Sto → (AV → Sto → Prop) → XP → Prop
  | out, [], σ, Q, _ => out.length ≤ sizeLine ∧ Q (.str out) σ
  | out, e :: es, σ, Q, X => EV G κ env e σ (fun v σ' => ∃ y, v = .str y ∧ (out ++ y).length ≤ sizeLine ∧ JP G κ env (out ++ y) es σ' Q X) X
theorem jp_run : ∀ (es : List PySem.Expr) (out : PySem.Str) (σ : Sto) {Q : AV → Sto → Prop}, JP G κ env out es σ Q X → W G κ ab (joinParts out (evalEach es env)) σ Q X
  | [], out, σ, Q, h => fun A ρ s hA z => PyProof.Rows.joinParts_nil ⟨σ, h.2, z.toks _⟩ h.1
  | e :: es, out, σ, Q, h => fun A ρ s hA z => by
    show wpAny _ _ (joinParts out (eval e env :: evalEach es env)) _ _ s
    refine PyProof.Rows.joinParts_cons (wpAny_mono (h A ρ s hA z) (fun v s' => pe fun σ₁ hh z' => ?_) fun _a _b x => x)
    obtain ⟨y, hv, hz, q⟩ := hh
    obtain ⟨t, rfl⟩ := ab_str hv
    exact ⟨hz, jp_run es (out ++ y) σ₁ q A ρ s' hA z'⟩
theorem ev_joined {v₁ v₂ : PySem.Expr} {rest : List PySem.Expr} {pos : Pos} {Q : AV → Sto → Prop} (h : JP G κ env PySem.Str.empty (v₁ :: v₂ :: rest) σ Q X) : EV G κ env (.JoinedStr (v₁ :: v₂ :: rest) pos) σ Q X := fun A ρ s hA z =>
  PyProof.Rows.JoinedStr_many (jp_run (v₁ :: v₂ :: rest) PySem.Str.empty σ h A ρ s hA z)
inductive FvP (Q : AV → Sto → Prop) (a : AV) (σ : Sto) : Prop
  | mk (y : PySem.Str) (e : a = .str y) (hz : y.length ≤ sizeLine) (h : Q (.str y) σ)
theorem ev_formatted {value : PySem.Expr} {pos : Pos} {Q : AV → Sto → Prop} (h : EV G κ env value σ (FvP Q) X) : EV G κ env (.FormattedValue value (-1) none pos) σ Q X := fun A ρ s hA z =>
  PyProof.Rows.FormattedValue_plain (wpAny_mono (h A ρ s hA z) (fun v s' => pe fun σ₁ hh z' => by
    obtain ⟨y, hv, hz, q⟩ := hh
    obtain ⟨t, rfl⟩ := ab_str hv
    exact PyProof.Rows.formatField_str (fun t' tk => ⟨σ₁, q, z'.toks _⟩) hz) fun _a _b x => x)
/-- an f-string: a text, a value that is a text, and perhaps a text -/
inductive F3P (A B : List Nat) (Q : AV → Sto → Prop) (v : AV) (σ : Sto) : Prop
  | mk (V : List Nat) (e : v = .str (tx V)) (hz : V.length ≤ 1000000) (h : Q (.str (tx (A ++ V ++ B))) σ)
theorem tx_line {l : List Nat} (h : l.length ≤ 16777216) : (tx l).length ≤ sizeLine := by rw [tx_len, sizeLine_eq]; exact h
theorem ev_f3 {a b : PySem.Str} {A B : List Nat} {e : PySem.Expr} {k1 k2 : Nat} {p1 p2 p3 pos : Pos} {Q : AV → Sto → Prop} (ha : PySem.Str.empty ++ a = tx A) (hb : b = tx B) (hA : A.length ≤ 1000) (hB : B.length ≤ 1000) (h : EV G κ env e σ (F3P A B Q) X) :
    EV G κ env (.JoinedStr [.Constant (.str a) k1 p1, .FormattedValue e (-1) none p2, .Constant (.str b) k2 p3] pos) σ Q X := by
  refine ev_joined ?_
  dsimp only [JP]
  refine ev_str ⟨a, rfl, by rw [ha]; exact tx_line (by walk_at "om"), ev_formatted (W.post h fun v σ' hh => ?_)⟩
  obtain ⟨V, e, hz, h⟩ := hh
  refine ⟨_, e, tx_line (by walk_at "om"), _, rfl, ?_, ?_⟩
  · rw [ha, tx_add]; exact tx_line (by rw [List.length_append]; walk_at "om")
  · rw [ha, tx_add, hb]
    have hl : (A ++ V ++ B).length ≤ 16777216 := by rw [List.length_append, List.length_append]; walk_at "om"
    exact ev_str ⟨_, rfl, by rw [tx_add]; exact tx_line hl, by rw [tx_add]; exact tx_line hl, by rw [tx_add]; exact h⟩
noncomputable def txs (l : List (List Nat)) : List AV := l.map fun x => .str (tx x)
theorem txs_vals : ∀ {vs : List Value} {ls : List (List Nat)}, vs.map ab = txs ls → ∃ l : List (PySem.Str × Tok), vs = strValues l ∧ l.map (·.1) = ls.map tx
  | [], [], _ => ⟨[], rfl, rfl⟩
  | v :: vs, x :: ls, h => by
    simp only [txs, List.map_cons, List.cons.injEq] at h
    obtain ⟨t, rfl⟩ := ab_str h.1
    obtain ⟨l, rfl, e⟩ := txs_vals (vs := vs) (ls := ls) h.2
    exact ⟨(tx x, t) :: l, rfl, by simp [e]⟩
theorem glued_empty (ls : List (List Nat)) : Builtin.Str.glued (tx []) (ls.map tx) = tx ls.flatten := by
  unfold Builtin.Str.glued
  cases ls with
  | nil => rfl
  | cons x ls =>
    have key : ∀ (ls : List (List Nat)) (acc : Array Nat), (ls.map tx).foldl (fun acc p => acc ++ (tx []).cps ++ p.cps) acc = acc ++ ls.flatten.toArray := by
      intro ls
      induction ls with
      | nil => intro acc; simp
      | cons y ls ih => intro acc; rw [List.map_cons, List.foldl_cons, ih]; simp [tx]
    show PySem.Str.mk ((ls.map tx).foldl (fun acc p => acc ++ (tx []).cps ++ p.cps) (tx x).cps) = _
    rw [key]; simp [tx]
theorem cl_join {d : Addr} {ls : List (List Nat)} {u : PySem.Str} {Q : AV → Sto → Prop} (hu : u = tx []) (hm : (d, .list (txs ls)) ∈ σ) (hz : (ls.map List.length).sum ≤ 100000) (h : Q (.str (tx ls.flatten)) σ) : CL G κ (.bi "str.join") [.str u, .ref d] σ Q X := fun g vs hg hvs A ρ s hA z => by
  subst hu
  rw [ab_bi hg]
  obtain ⟨a, b, rfl, ha, hb⟩ := two hvs
  obtain ⟨t, rfl⟩ := ab_str ha
  rw [ab_ref hb]
  obtain ⟨ys, n, e, hy⟩ := z.list hm
  obtain ⟨l, hl, ht⟩ := txs_vals hy
  have hIs : s.heap.IsList d (strValues l).toArray := by rw [← hl]; simpa using e.isList
  refine SC.join hIs ht ?_ fun t' k => ⟨σ, ?_, z.toks _⟩
  · unfold JoinOk
    have hf : ∀ (ls : List (List Nat)) (a : Nat), (ls.map tx).foldl (fun x1 x2 => x1 + x2.length + (tx []).length) a = a + (ls.map List.length).sum := by
      intro ls
      induction ls with
      | nil => intro a; simp
      | cons y ls ih => intro a; rw [List.map_cons, List.foldl_cons, ih]; simp [tx_len]; walk_at "om"
    rw [List.foldl_toArray, hf]
    unfold Builtin.Str.tooLong
    rw [Bool.not_eq_true', decide_eq_false_iff_not, sizeLine_eq]; walk_at "om"
  · show Q (.str (Builtin.Str.glued (tx []) (ls.map tx))) σ
    rw [glued_empty]; exact h
end
end B14Text
section B15Text
open PySem.Builtin PySem.Builtin.Re
theorem plain_pat : PlainAttrs "re.Pattern" := by
  refine ⟨⟨"object.__getattribute__", ?_, ?_⟩, ?_⟩
  · rw [typeLookup_type, builtinLookup_eq_fast]; kernel_rfl
  · decide +kernel
  · rw [typeLookup_type, builtinLookup_eq_fast]; kernel_rfl
theorem slot_sub : Slot "re.Pattern" "sub" "re.Pattern.sub" :=
  .of (owner := "re.Pattern") (n := "sub") (by rw [typeLookup_type, builtinLookup_eq_fast]; kernel_rfl) (by decide +kernel) (by decide +kernel) (by decide +kernel)
    (by first | exact .inl (by decide +kernel) | exact .inr (by decide +kernel)) (by rw [isSubtype_type]; kernel_rfl)
theorem type_sub : typeOf (.builtin "re.Pattern.sub") = pure (.type "method_descriptor") := by kernel_rfl
theorem entry_sub : entryFor table "re.Pattern.sub" = some Builtin.«re.Pattern.sub» := entryFor_of_tree (by kernel_rfl)
theorem entry_subloop : entryFor table "re.Pattern.sub.loop" = some Builtin.«re.Pattern.sub.loop» := entryFor_of_tree (by kernel_rfl)
theorem args_sub (a b c : Value) : argsOk "re.Pattern.sub" ⟨[a, b, c], []⟩ := by unfold argsOk; kernel_rfl
theorem fn_called : typeLookup (.type "function") (PySem.Str.ofString "__call__") = pure (some (.builtin "function.__call__")) := by rw [typeLookup_type, builtinLookup_eq_fast]; kernel_rfl
noncomputable def twinCode : Array Nat := #[14, 14, 4, 1, 1, 9, 0, 64, 0, 1342177280, 0, 0, 0, 0, 0, 17, 0, 13, 11, 9, 0, 64, 0, 1342177280, 0, 0, 0, 0, 0, 17, 1, 1]
noncomputable def qM : Sre.M := Sre.forSearch twinCode #[63] 1 0 1 false
theorem qM_run : (qM.runFor 4).outcome = some .failed := by kernel_rfl
section
variable {prog : Program} {w : World} {A : Around} {E : Value → Shared → Prop} {s : Shared}
theorem wpAny_seen (m : Sre.M) {Q : PUnit → Shared → Prop} (h : Q ⟨⟩ s) : ∀ (l : List Nat), wpAny (model prog w) A (forIn l PUnit.unit fun i _a => (if m.seen.has i = true then (do rule (Sre.names.getD i ""); pure (ForInStep.yield PUnit.unit)) else pure (ForInStep.yield PUnit.unit))) Q E s
  | [] => by rw [List.forIn_nil]; exact wpAny_pure h
  | i :: l => by
    rw [List.forIn_cons]
    refine wpAny_bind ?_
    split
    · exact wpAny_bind (wpAny_rule (wpAny_pure (wpAny_seen m h l)))
    · exact wpAny_pure (wpAny_seen m h l)
theorem run_end {Q : Option Sre.M → Shared → Prop} (h : Q none s) : wpAny (model prog w) A (reRunToEnd qM) Q E s := by
  unfold reRunToEnd
  refine wpAny_bind ?_
  have e : reDrive (2 ^ 64) qM = pure (qM.runFor 4) := by
    show reDrive (18446744073709551615 + 1) qM = _
    unfold reDrive reTurnSteps
    dsimp only
    rw [qM_run]; rfl
  rw [e]
  refine wpAny_pure ?_
  generalize hm : qM.runFor 4 = m
  have hm : m.outcome = some .failed := by rw [← hm]; exact qM_run
  refine wpAny_bind ?_
  refine wpAny_seen m ?_ _
  rw [hm]
  exact wpAny_pure h
theorem whole_run {a : Addr} {r : Flt.PatRec} {t : Tok} {Q : ReTarget → Shared → Prop} (hP : Flt.IsPattern s.heap a r) (hr : r.code = twinCode.toList) (hk : r.kind = 0)
(hg : r.groups = 1)
    (h : Q { pattern := .ref a, string := .str (tx [63]) t, code := twinCode, text := #[63], kind := 0, groups := 1, pos := 0, lim := 1 } s) : wpAny (model prog w) A (reWholeTarget (.ref a) (.str (tx [63]) t)) Q E s := by
  obtain ⟨fs, T, ws, n, h1, h2, h3, h4, h5, h6⟩ := hP
  unfold reWholeTarget
  refine wpAny_bind (wpAny_fieldsOf h1 rfl ?_)
  refine wpAny_bind (wpAny_of_eq (a := (#[63], 0)) (by rfl) ?_)
  dsimp only
  rw [h4, hk]
  rw [if_neg (by decide)]
  refine wpAny_bind (wpAny_of_eq (a := ()) (by first | rfl | kernel_rfl) ?_)
  refine wpAny_bind ?_
  rw [h2]
  unfold reRawItems
  refine wpAny_bind (wpAny_seqItems h5 rfl (wpAny_pure ?_))
  refine wpAny_pure ?_
  have e : Array.map (fun x => x.toNat) (Array.map reRawOf ws) = twinCode := by
    apply Array.ext'
    rw [h6, hr]
  show Q { pattern := .ref a, string := .str (tx [63]) t, code := Array.map (fun x => x.toNat) (Array.map reRawOf ws), text := #[63], kind := 0, groups := reRawNat (fs.getD 2 Value.none), pos := 0, lim := 1 } s
  rw [e, h3, hg]
  exact h
theorem loop_run {a l : Addr} {r : Flt.PatRec} {t : Tok} {f : Value} {n : Nat} {P : PySem.Fin → Shared → Prop} (hP : Flt.IsPattern s.heap a r) (hr : r.code = twinCode.toList) (hk : r.kind = 0) (hg : r.groups = 1)
    (hl : s.heap.get? l = some { cls := .type "list", dict := none, data := .seq #[] n, slots := #[] })
    (h : ∀ h' tk t', (∀ b o, b ≠ l → s.heap.get? b = some o → h'.get? b = some o) → P (.done (.ret (.str (tx [63]) t'))) { s with heap := h', toks := tk }) :
    wpAny (model prog w) A (Builtin.«re.Pattern.sub.loop» ⟨[.ref a, .str (tx [63]) t, f, rawInt 1, rawInt 0, rawInt 0, rawInt 0, rawInt 0, .bool false, .ref l, .bool false], []⟩) P E s := by
  unfold Builtin.«re.Pattern.sub.loop»
  dsimp only [rawInt]
  refine wpAny_bind (whole_run hP hr hk hg ?_)
  rw [if_neg (by decide)]
  refine wpAny_bind ?_
  rw [if_neg (by decide)]
  show wpAny _ _ (reRunToEnd qM) _ _ s
  refine run_end ?_
  dsimp only
  simp only [Int.toNat_zero]
  rw [if_pos (by decide)]
  unfold reSlice
  rw [if_pos (by decide)]
  have hz0 : PySem.Str.length ⟨(#[63] : Array Nat).extract 0 1⟩ ≤ sizeLine := by decide +kernel
  have hz1 : PySem.Str.length ⟨(#[63] : Array Nat).extract 0 0⟩ ≤ sizeLine := by decide +kernel
  refine wpAny_bind (wpAny_mkStr ?_ hz0)
  have hsb : Heap.SameBut l s.heap (s.heap.update l (Obj.mapSeq (·.push (.str ⟨(#[63] : Array Nat).extract 0 1⟩ s.toks)))) := Heap.SameBut.update ..
  refine wpAny_bind (wpAny_updateSeq hl rfl ?_ (by rw [sizeLine_eq]; simp) (by rw [sizeLine_eq]; simp))
  have hl' : (s.heap.update l (Obj.mapSeq (·.push (.str ⟨(#[63] : Array Nat).extract 0 1⟩ s.toks)))).get? l = some { cls := .type "list", dict := none, data := .seq #[.str ⟨(#[63] : Array Nat).extract 0 1⟩ s.toks] (n + 1), slots := #[] } := by
    rw [Heap.get?_update_self _ hl (by rw [Obj.mapSeq_push_plain]; rfl), Obj.mapSeq_push_plain]; rfl
  generalize hH : (s.heap.update l (Obj.mapSeq (·.push (.str ⟨(#[63] : Array Nat).extract 0 1⟩ s.toks)))) = H at hsb hl' ⊢
  refine wpAny_bind (wpAny_mkStr ?_ hz1)
  refine wpAny_bind (wpAny_seqItems (s := { s with heap := H, toks := s.toks + 1 + 1 }) hl' rfl ?_)
  rw [if_neg (by simp)]
  refine wpAny_bind ?_
  have hIs : H.IsList l (strValues [(⟨(#[63] : Array Nat).extract 0 1⟩, s.toks)]).toArray := by
    have : IsL H l #[Value.str ⟨(#[63] : Array Nat).extract 0 1⟩ s.toks] (n + 1) := hl'
    exact this.isList
  refine SC.join (s := { s with heap := H, toks := s.toks + 1 + 1 }) (l := [(⟨(#[63] : Array Nat).extract 0 1⟩, s.toks)]) (texts := [⟨(#[63] : Array Nat).extract 0 1⟩]) hIs rfl (by decide +kernel) fun t' k => ?_
  rw [if_neg (by decide)]
  refine wpAny_pure (h H k t' fun b o hb e => (hsb.2 b hb).trans e)
theorem sub_run {a f : Addr} {fo : Obj} {r : Flt.PatRec} {t : Tok} {Q : Value → Shared → Prop} (hP : Flt.IsPattern s.heap a r) (hr : r.code = twinCode.toList) (hk : r.kind = 0) (hg : r.groups = 1)
    (hf : s.heap.get? f = some fo) (hc : fo.cls = .type "function")
    (h : ∀ h' tk t', (∀ b o, s.heap.get? b = some o → h'.get? b = some o) → Q (.str (tx [63]) t') { s with heap := h', toks := tk }) :
    wpAny (model prog w) A (call (.builtin "re.Pattern.sub") [.ref a, .ref f, .str (tx [63]) t]) Q E s := by
  have hT : s.TypeIs (.ref a) "re.Pattern" := by obtain ⟨fs, T, ws, n, h1, _⟩ := hP; exact ⟨_, h1, rfl⟩
  have hTf : s.TypeIs (.ref f) "function" := ⟨_, hf, hc⟩
  refine wpAny_call (codeAny_call_builtin slot_sub.plain entry_sub (slot_sub.check _ _ _ _ _ _ _ _ hT (args_sub _ _ _) ?_))
  unfold Builtin.«re.Pattern.sub» reSubstitute
  dsimp only
  refine wpAny_bind (wpAny_of_eq (a := [some (.ref f), some (.str (tx [63]) t), none]) (by first | rfl | kernel_rfl) ?_)
  dsimp only
  refine wpAny_bind (wpAny_pure ?_)
  refine wpAny_bind (wpAny_specialOf hTf fn_called ?_)
  simp only [Option.isSome_some, if_true]
  refine wpAny_bind (wpAny_pure (wpAny_bind (wpAny_pure (wpAny_bind (wpAny_holding (whole_run hP hr hk hg ?_))))))
  dsimp only
  rw [if_pos (by decide)]
  refine wpAny_bind ?_
  unfold reNotHeld
  refine wpAny_bind (wpAny_isInstance (typeIs_str _ _ _) (b := false) (by rw [isSubtype_type]; kernel_rfl) ?_)
  rw [if_neg (by decide)]
  refine wpAny_pure ?_
  refine wpAny_bind (wpAny_newList ?_)
  refine wpAny_pure ⟨Code.quiet_builtin _ (by decide +kernel), ?_⟩
  refine codeAny_builtin entry_subloop ?_
  refine loop_run (n := 0) (hP.keeps fun b o e => Heap.get?_push_of_some _ e) hr hk hg (Heap.get?_push_size _ rfl) fun h' tk t' hk' => ?_
  exact h h' tk t' fun b o e => hk' b o (Nat.ne_of_lt (Heap.lt_size e)) (Heap.get?_push_of_some _ e)
end
/-- the sign set that translate quotes -/
structure PatAt (G : Gd) (a : Addr) : Prop where
  ex : ∃ (fs : Array Value) (T : Addr) (ws : Array Value) (n : Nat), G.h₀.get? a = some { cls := .type "re.Pattern", data := .fields fs } ∧ fs.getD 5 .none = .ref T ∧ Builtin.Re.reRawNat (fs.getD 2 .none) = 1 ∧ Builtin.Re.reRawNat (fs.getD 6 .none) = 0 ∧
    G.h₀.get? T = some { cls := .type "tuple", data := .seq ws n } ∧ ((ws.map Builtin.Re.reRawOf).map (·.toNat)).toList = twinCode.toList
section
variable {G : Gd} {κ : Kx} {env : Env} {σ σ' : Sto} {X : XP}
theorem cl_sub {a f : Addr} {fo : Obj} {Q : AV → Sto → Prop} (hP : PatAt G a) (hf : (f, .raw fo) ∈ σ) (hc : fo.cls = .type "function") (h : Q (.str (tx [63])) σ) : CL G κ (.bi "re.Pattern.sub") [.ref a, .ref f, .str (tx [63])] σ Q X := fun g vs hg hvs A ρ s hA z => by
  rw [ab_bi hg]
  obtain ⟨x, y, u, rfl, hx, hy, hu⟩ := three hvs
  rw [ab_ref hx, ab_ref hy]
  obtain ⟨t, rfl⟩ := ab_str hu
  obtain ⟨fs, T, ws, n, h1, h2, h3, h4, h5, h6⟩ := hP.ex
  obtain ⟨ob, e, hob⟩ := z.at hf
  have hob : ob = fo := hob
  subst hob
  refine sub_run (r := ⟨PySem.Str.empty, twinCode.toList, 1, 0⟩) ⟨fs, T, ws, n, z.old.get_of_cls h1 (by nofun), h2, h3, h4, z.old.get_of_cls h5 (by nofun), h6⟩ rfl rfl rfl e hc fun h' tk t' hk => ⟨σ, h, (z.grown hk).toks _⟩
theorem ev_meth_pat {o : PySem.Expr} {apos pos : Pos} {args : List PySem.Expr} {a : Addr} {Q : AV → Sto → Prop} (hP : PatAt G a)
    (hbase : attributeBase o (PySem.Str.ofString "sub") env (eval o env) = eval o env)
    (hfew : ((backTo pos (starEach args env)).all (fun x => !x.1) && (backToKw pos (keywordEach [] env)).all (fun x => x.1.isSome)
      && decide (args.length + ([] : List Keyword).length + (if ([] : List Keyword).isEmpty then 0 else 1) < 30)) = true)
    (hline : (apos.endLine == pos.line) = true) (hstar : (backTo pos (starEach args env)).any (·.1) = false)
    (h : EV G κ env o σ (fun ov σ₁ => ov = .ref a ∧ AS G κ env args σ₁ (fun vs σ₂ => CL G κ (.bi "re.Pattern.sub") (.ref a :: vs) σ₂ Q X) X) X) : EV G κ env (.Call (.Attribute o (PySem.Str.ofString "sub") apos) args [] pos) σ Q X :=
  ev_meth plain_pat slot_sub type_sub hbase hfew hline hstar (W.post h fun ov σ₁ hh => by
    obtain ⟨e, q⟩ := hh
    subst e
    refine ⟨fun ρ s x z hx => ?_, q⟩
    rw [ab_ref hx]
    obtain ⟨fs, T, ws, n, h1, _⟩ := hP.ex
    have h1' := z.old.get_of_cls h1 (by nofun)
    exact ⟨⟨_, h1', rfl⟩, fun a e => by injection e with e; subst e; exact ⟨_, h1', rfl⟩⟩)
end
end B15Text
section B16Text
section
variable {G : Gd} {κ : Kx} {env : Env} {σ σ' : Sto} {X : XP}
theorem St.turnX {ρ : Frm} {s : Shared} {a : Addr} {o o' : AO} {h' : Heap} {ob : Obj} (h : St G ρ σ s) (u : Up a o o' σ σ') (hs : Heap.ExtBut a s.heap h') (he : h'.get? a = some ob) (hr : OR G ob o') :
    St G ρ σ' { s with heap := h' } where
  old := by
    have ha : G.h₀.get? a = none := h.own a (List.mem_append_right _ (List.mem_map.mpr ⟨_, u.mem, rfl⟩))
    have old := h.old
    have ne : ∀ b o, G.h₀.get? b = some o → b ≠ a := fun b o e q => by rw [q, ha] at e; cases e
    refine ⟨fun b o e => ?_, fun b o e => let ⟨o', ho'⟩ := old.there b o e; ⟨o', hs b o' (ne b o e) ho'⟩⟩
    rcases old.old b o e with x | ⟨t, hc, vs, more, hv, x⟩ | ⟨rfl, hc, ⟨o', es, n, ho', r⟩, z⟩
    · exact .inl (hs _ _ (ne b o e) x)
    · exact .inr (.inl ⟨t, hc, vs, more, hv, hs _ _ (ne b o e) x⟩)
    · exact .inr (.inr ⟨rfl, hc, ⟨o', es, n, hs _ _ (ne _ o e) ho', r⟩, fun key => by rw [OldK.staticOf_congr ((hs _ _ (ne _ o e) ho').trans ho'.symm) key]; exact z key⟩)
  gens := h.gens
  os := h.os
  fr := fun p hp => by
    have hne : p.1 ≠ a := fun e => by
      have hd := (List.nodup_append.mp h.nd).2.2
      exact hd p.1 (List.mem_map.mpr ⟨p, hp, rfl⟩) a (List.mem_map.mpr ⟨_, u.mem, rfl⟩) e
    exact hs _ _ hne (h.fr p hp)
  ob := fun p hp => by
    obtain ⟨pre, post, e1, e2⟩ := u.split
    have nd := (List.nodup_append.mp h.nd).2.1
    rw [e1, List.map_append, List.map_cons] at nd
    have nd' := (List.perm_middle (l₁ := pre.map (·.1)) (a := a) (l₂ := post.map (·.1))).nodup_iff.mp nd
    have hn := (List.nodup_cons.mp nd').1
    rw [e2] at hp
    have other : p ∈ pre ∨ p ∈ post → ∃ ob, h'.get? p.1 = some ob ∧ OR G ob p.2 := fun hm => by
      have hne : p.1 ≠ a := fun e => hn (by
        rw [← e]
        rcases hm with x | x
        · exact List.mem_append_left _ (List.mem_map.mpr ⟨p, x, rfl⟩)
        · exact List.mem_append_right _ (List.mem_map.mpr ⟨p, x, rfl⟩))
      obtain ⟨ob', e, r⟩ := h.ob p (by rw [e1]; rcases hm with x | x <;> simp [x])
      exact ⟨ob', hs _ _ hne e, r⟩
    rcases List.mem_append.mp hp with x | x
    · exact other (.inl x)
    · rcases List.mem_cons.mp x with rfl | x
      · exact ⟨ob, he, hr⟩
      · exact other (.inr x)
  own := fun x hx => h.own x (by rw [u.map] at hx; exact hx)
  nd := by rw [u.map]; exact h.nd
theorem St.lt {ρ : Frm} {s : Shared} (h : St G ρ σ s) : ∀ a ∈ ρ.map (·.1) ++ σ.map (·.1), a < s.heap.objs.size := fun a ha => by
  rcases List.mem_append.mp ha with x | x
  · obtain ⟨p, hp, rfl⟩ := List.mem_map.mp x
    exact Heap.lt_size (h.fr p hp)
  · obtain ⟨p, hp, rfl⟩ := List.mem_map.mp x
    obtain ⟨o', e, _⟩ := h.ob p hp
    exact Heap.lt_size e
/-- an object that came into being, taken notice of -/
theorem St.notice {ρ : Frm} {s : Shared} (h : St G ρ σ s) {c n : Nat} {o : Obj} {ao : AO} (he : s.heap.get? c = some o) (hr : OR G o ao) (hn : ∀ a ∈ ρ.map (·.1) ++ σ.map (·.1), a < n) (h₀ : G.h₀.objs.size ≤ n) (hc : n ≤ c) : St G ρ ((c, ao) :: σ) s where
  old := h.old
  gens := h.gens
  os := h.os
  fr := h.fr
  ob := fun p hp => by
    rcases List.mem_cons.mp hp with rfl | hp
    · exact ⟨o, he, hr⟩
    · exact h.ob p hp
  own := fun a ha => by
    simp only [List.map_cons, List.mem_append, List.mem_cons] at ha
    rcases ha with x | x | x
    · exact h.own a (List.mem_append_left _ x)
    · rw [x]; exact Heap.get?_none_of_le (Nat.le_trans h₀ hc)
    · exact h.own a (List.mem_append_right _ x)
  nd := by
    rw [List.map_cons]
    refine (List.perm_middle (l₁ := ρ.map (·.1)) (a := c) (l₂ := σ.map (·.1))).nodup_iff.mpr ?_
    exact List.nodup_cons.mpr ⟨fun hm => Nat.lt_irrefl _ (Nat.lt_of_lt_of_le (hn _ hm) hc), h.nd⟩
/-- the code c of a def of the text, whose table of nested codes lies at P -/
structure LamAt (G : Gd) (cd : Value) (P : Addr) : Prop where
  cd : ∃ c, cd = .ref c ∧ CodeHd G.h₀ c P
  gP : mainGlobals ≠ P
  bm : ∃ mg, G.h₀.Ns mainGlobals mg ∧ (∃ o, G.h₀.get? mainGlobals = some o ∧ o.cls ≠ .none) ∧ G.h₀.BuiltinsAt mg P
theorem codeHd_old {h₀ h : Heap} {c P : Addr} (x : CodeHd h₀ c P) (K : OldK h₀ h) : CodeHd h c P :=
  by obtain ⟨o, vs, file, tf, flags, tg, inF, text, tt, e, ec, r⟩ := x; exact ⟨o, vs, file, tf, flags, tg, inF, text, tt, K.get_of_cls e (by rw [ec]; nofun), ec, r⟩
/-- a code object of that name -/
noncomputable def CodeQ (q : PySem.Str) (o : Obj) : Prop := ∃ vs t, o.data = .fields vs ∧ vs[1]? = some (.str q t)
/-- a lambda's function object -/
noncomputable def lamObj (qual : PySem.Str) (params : Arguments) (body : PySem.Expr) (scope : Scope) (clos : List (PySem.Str × Addr)) (pm cv ctv : Value) (d : Option Addr) : Obj := { cls := .type "function", dict := d, data := .func (kla_fn "<lambda>" qual params body scope clos pm cv ctv) }
theorem ev_lambda {params : Arguments} {body : PySem.Expr} {scope : Scope} {pos : Pos} {P : Addr} {ps : Array Value} {clos : List (PySem.Str × Addr)} {Q : AV → Sto → Prop} (LA : LamAt G env.code P) (hg : env.globals = mainGlobals)
    (hdef : defaultsOf params env = ([], [])) (hcl : closureFor scope env = pure clos) {σ₀ : Sto} (rm : Rm P (.raw (tabObj ps)) σ σ₀) (ht : TriplesOk ps.toList)
    (miss : codeAmong pos ps.toList = none → ∀ f c' pm ctv,
      Q (.ref f) ((f, .raw (lamObj (env.qual ++ "<lambda>") params body scope clos pm (.ref c') ctv none)) :: (c', .any (CodeQ (env.qual ++ "<lambda>"))) :: (P, .raw (tabObj (ps ++ #[rawInt pos.line, rawInt pos.col, .ref c']))) :: σ₀))
    (hit : ∀ cv, codeAmong pos ps.toList = some cv → ∀ f pm ctv, Q (.ref f) ((f, .raw (lamObj (env.qual ++ "<lambda>") params body scope clos pm cv ctv none)) :: (P, .raw (tabObj ps)) :: σ₀)) :
    EV G κ env (.Lambda params body scope pos) σ Q X := fun A ρ s hA z => by
  replace z := z.perm rm.perm
  obtain ⟨c, hcd, C⟩ := LA.cd
  obtain ⟨mg, hns, hgc, bm, ob, b1, b2, b3, b4, b5, b6, b7, b8⟩ := LA.bm
  have hns' := ns_old z.old hns hgc
  have hb : s.heap.BuiltinsAt mg P := ⟨bm, ob, b1, b2, b3, b4, z.old.get_of_cls b5 (by rw [b6]; nofun), b6, b7, b8⟩
  obtain ⟨oP, heP, hoP⟩ := z.at (.head _)
  have hoP : oP = tabObj ps := hoP
  subst hoP
  refine kla_eval hdef ?_
  cases hca : codeAmong pos ps.toList with
  | some cv =>
    refine kla_makeFunctionHit hcl hg hns' hcd (codeHd_old C z.old) heP ht hca hb fun ctv h' tk hk hsz => ?_
    have z' := (z.grown hk).push (lamObj (env.qual ++ "<lambda>") params body scope clos ((mg "__name__").getD .none) cv ctv none) (.raw _) rfl rfl
    exact ⟨_, hit cv hca _ _ ctv, z'.toks _⟩
  | none =>
    refine kla_makeFunction hcl hg hns' hcd (codeHd_old C z.old) heP ht hca LA.gP hb fun c' ctv h' tk hx hge hlt hrec htb => ?_
    obtain ⟨c₂, oc, vs, t, e2, hoc, hd, hv⟩ := hrec
    cases e2
    have u : Up P (.raw (tabObj ps)) (.raw (tabObj (ps ++ #[rawInt pos.line, rawInt pos.col, .ref c']))) ((P, .raw (tabObj ps)) :: σ₀) _ := .here
    have z₁ := z.turnX u hx htb rfl
    have z₂ : St G ρ ((c', .any (CodeQ (env.qual ++ "<lambda>"))) :: _) { s with heap := h' } := z₁.notice hoc ⟨vs, t, hd, hv⟩ (by rw [u.map]; exact z.lt) z.sz hge
    have z₃ := z₂.push (lamObj (env.qual ++ "<lambda>") params body scope clos ((mg "__name__").getD .none) (.ref c') ctv none) (.raw _) rfl rfl
    exact ⟨_, miss hca _ c' _ ctv, z₃.toks _⟩
/-- a lambda, of which nothing is asked -/
theorem ev_lambda1 {params : Arguments} {body : PySem.Expr} {scope : Scope} {pos : Pos} {P : Addr} {ps : Array Value} {clos : List (PySem.Str × Addr)} {Q : AV → Sto → Prop} (LA : LamAt G env.code P) (hg : env.globals = mainGlobals)
    (hdef : defaultsOf params env = ([], [])) (hcl : closureFor scope env = pure clos) {σ₀ : Sto} (rm : Rm P (.raw (tabObj ps)) σ σ₀) (ht : TriplesOk ps.toList)
    (h : ∀ f fo ps', fo.cls = .type "function" → TriplesOk ps'.toList → Q (.ref f) ((f, .raw fo) :: (P, .raw (tabObj ps')) :: σ₀)) :
    EV G κ env (.Lambda params body scope pos) σ Q X :=
  W.part (ev_lambda LA hg hdef hcl rm ht (fun _a f c' pm ctv => ⟨_, .cons .here (.skip .refl), h f _ _ rfl (by simpa using TriplesOk_snoc _ _ _ _ ht)⟩)
    fun cv _a f pm ctv => ⟨_, .refl, h f _ ps rfl ht⟩)
end
end B16Text
section B17Text
section
variable {G : Gd} {κ : Kx} {env : Env} {σ σ' : Sto} {X : XP}
theorem tr_tx {l : List Nat} {Q : Bool → Sto → Prop} (hz : l.length ≤ 16777216) (h : Q (!l.isEmpty) σ) : TR G κ (.str (tx l)) σ Q X := fun x hx A ρ s hA z => by
  obtain ⟨t, rfl⟩ := ab_str hx
  refine P.truthy_str (by rw [tx_len]; walk_at "om") ⟨σ, ?_, (z.toks _)⟩
  have : (((tx l).length : Int) != 0) = !l.isEmpty := by
    rw [tx_len]
    cases l <;> simp
    walk_at "om"
  show Q (((tx l).length : Int) != 0) σ
  rw [this]; exact h
theorem tr_list {l : Addr} {xs : List AV} {Q : Bool → Sto → Prop} (hm : (l, .list xs) ∈ σ) (hz : xs.length ≤ sizeLine) (h : Q (!xs.isEmpty) σ) : TR G κ (.ref l) σ Q X := fun x hx A ρ s hA z => by
  rw [ab_ref hx]
  obtain ⟨ys, n, e, hy⟩ := z.list hm
  have hs := size_of hy
  refine wpAny_truthy_list e.isList (by rw [hs]; rw [sizeLine_eq] at hz; walk_at "om") ⟨σ, ?_, z.toks _⟩
  have : ys.isEmpty = xs.isEmpty := by
    unfold Array.isEmpty
    rw [hs]; cases xs <;> simp
  show Q (!ys.isEmpty) σ
  rw [this]; exact h
theorem op_in_tup {n : Nat} {hd : Option Hx} {l : Addr} {xs : List AV} {x : AV} {Q : AV → Sto → Prop} (e : AV → Bool) (hm : (l, .tup xs) ∈ σ) (he : ∀ a ∈ xs, EQB G σ a x (e a)) (h : Q (.bool (xs.any e)) σ) :
    OP2 G ⟨n + 1, hd⟩ (compareOp .In) x (.ref l) σ Q X := fun u y hu hy A ρ s hA z => by
  rw [ab_ref hy]
  obtain ⟨ys, k, el, hv⟩ := z.tup hm
  have hun := hA.units
  refine SeqAt.in_tupleAt (fun y => e (ab y)) ⟨_, el, rfl, k, rfl⟩ (fun y hy => he (ab y) ?_ A.in1 ρ s y u ?_ z rfl hu) ⟨σ, ?_, z⟩
  · rw [← hv]; exact List.mem_map.mpr ⟨y, by simpa using hy, rfl⟩
  · show A.units + 1 < cLine
    simp only at hun; first | walk_at "om" | (unfold cLine at hun ⊢; walk_at "om")
  · show Q (.bool _) σ
    rw [anyB hv]; exact h
/-- str.replace, of what does not stand there -/
theorem cl_replace_none {x y z : PySem.Str} {Q : AV → Sto → Prop} (ho : (Builtin.Str.occurrences x y 0 x.length (x.length + 1)).isEmpty = true) (h : Q (.str x) σ) : CL G κ (.bi "str.replace") [.str x, .str y, .str z] σ Q X :=
  cl_gives F.slot_str_replace F.entry_str_replace fun t vs hvs => by
    obtain ⟨a, b, rfl, ha, hb⟩ := two hvs
    obtain ⟨u, rfl⟩ := ab_str ha
    obtain ⟨v, rfl⟩ := ab_str hb
    refine ⟨F.args_str_replace_3 _ _ _, _, gives_str_replace x y z t u v (fun hf => by rw [ho] at hf; cases hf), fun ρ s zz => ?_⟩
    rw [ho]
    exact ⟨σ, h, zz⟩
end
structure Top3 (G : Gd) extends Top2 G where
  pat : PatAt G 104
  l12 : LamAt G (cd 12) 113
  l23 : LamAt G (cd 23) 170
end B17Text
section B18Text
theorem mro_object : mroOf (.type "object") = pure [.type "object"] := by rw [mroOf_type]; kernel_rfl
theorem lookup_object_new : typeLookup (.type "object") "__new__" = pure (some (.builtin "object.__new__")) := by rw [typeLookup_type, builtinLookup_eq_fast]; kernel_rfl
theorem called_object : TypeCalled "object" "object.__new__" "object.__init__" :=
  ⟨by decide +kernel, by decide +kernel, ⟨_, _, mro_object⟩, madeBy_type mro_object lookup_object_new (by decide +kernel), by decide +kernel, by rw [isSubtype_type]; kernel_rfl, F.slot_object_init⟩
theorem typeCall_object_0 : checkTypeCall "object" ⟨[], []⟩ = pure () := by kernel_rfl
theorem newCall_object_0 : checkBuiltinCall "object.__new__" ⟨[.type "object"], []⟩ = pure () := by kernel_rfl
theorem madeHere_object : Bind.madeHere "object.__new__" (.type "object") = pure () := by
  unfold Bind.madeHere
  have e : Bind.staticBase (.type "object") = pure (.type "object") := by first | rfl | kernel_rfl
  rw [e]
  simp only [pure_bind, called_object.made]
  first | rfl | kernel_rfl | (simp; rfl)
theorem meets_object_new : Meets (Builtin.«object.__new__» ⟨[.type "object"], []⟩) (fun _a R s => R (.ok (.ret (.ref s.heap.objs.size))) { s with heap := s.heap.push { cls := .type "object", data := .plain } }) :=
  .of_wp fun prog w A R s h => by
    unfold Builtin.«object.__new__»
    dsimp only
    refine wpAny_bind (wpAny_of_eq (a := true) (by first | rfl | kernel_rfl) ?_)
    rw [if_neg (by decide)]
    rw [if_neg (by decide +kernel)]
    refine wpAny_bind (wpAny_of_eq madeHere_object ?_)
    rw [if_neg (by decide)]
    rw [if_neg (by decide +kernel)]
    refine wpAny_bind (wpAny_pure ?_)
    refine wpAny_bind (wpAny_newObj_type ?_)
    rw [if_neg (by decide +kernel)]
    exact wpAny_pure ⟨_, rfl, h⟩
section
variable {G : Gd} {κ : Kx} {env : Env} {σ σ' : Sto} {X : XP}
noncomputable def obObj : Obj := { cls := .type "object", data := .plain }
theorem cl_object {Q : AV → Sto → Prop} (h : ∀ r, Q (.ref r) ((r, .raw obObj) :: σ)) : CL G κ (.ty "object") [] σ Q X := fun g vs hg hvs A ρ s hA z => by
  rw [ab_ty hg]
  obtain rfl : vs = [] := by simpa using hvs
  refine callType_meets (Q₁ := fun obj s₁ => obj = .ref s.heap.objs.size ∧ s₁ = { s with heap := s.heap.push obObj }) called_object typeCall_object_0 newCall_object_0 (entryFor_of_tree (by kernel_rfl)) F.entry_object_init meets_object_new ⟨rfl, rfl⟩ ?_
  rintro obj s₁ ⟨rfl, rfl⟩
  refine ⟨⟨_, Heap.get?_push_size _ rfl, rfl⟩, by unfold argsOk; kernel_rfl, _, Meets.of_wp fun prog w A R s hs => wpAny_pure hs, ?_⟩
  exact ⟨_, rfl, rfl, _, h _, z.push obObj (.raw obObj) rfl rfl⟩
end
end B18Text
section B19Text
section
variable {G : Gd} {κ : Kx} {env : Env} {σ σ' : Sto} {X : XP}
theorem St.permF {ρ ρ' : Frm} {s : Shared} (h : St G ρ σ s) (hp : ρ.Perm ρ') : St G ρ' σ s where
  old := h.old
  gens := h.gens
  os := h.os
  fr := fun p hp' => h.fr p (hp.symm.subset hp')
  ob := h.ob
  own := fun a ha => h.own a (by
    rcases List.mem_append.mp ha with x | x
    · exact List.mem_append_left _ ((hp.map (·.1)).symm.subset x)
    · exact List.mem_append_right _ x)
  nd := (List.Perm.append_right _ (hp.map (·.1))).nodup_iff.mp h.nd
/-- an iterator that is to be drained: what it still gives -/
structure Nx (G : Gd) (κ : Kx) (I : Addr) (Tn : String) (Fm : Nat → Frm → Prop) (vs : List AV) (σ : Sto) : Prop where
  ty : ∀ i ρI ρ s, Fm i ρI → St G (ρI ++ ρ) σ s → s.TypeIs (.ref I) Tn
  mem : ∀ i ρI, Fm i ρI → I ∈ ρI.map (·.1)
  item : ∀ i v, vs[i]? = some v → ∀ A ρ ρI s, Room κ A → Fm i ρI → St G (ρI ++ ρ) σ s → ∀ (Q : Option Value → Shared → Prop) (E : Value → Shared → Prop),
    (∀ x ρI' s', ab x = v → Fm (i + 1) ρI' → St G (ρI' ++ ρ) σ s' → Q (some x) s') → wpAny (model G.prog G.w) A (pyNext (.ref I)) Q E s
  done : ∀ A ρ ρI s, Room κ A → Fm vs.length ρI → St G (ρI ++ ρ) σ s → ∀ (Q : Option Value → Shared → Prop) (E : Value → Shared → Prop),
    (∀ s', St G ρ σ s' → Q none s') → wpAny (model G.prog G.w) A (pyNext (.ref I)) Q E s
noncomputable def lsO (acc : Array Value) (c : Nat) : Obj := { cls := .type "list", dict := none, data := .seq acc c, slots := #[] }
theorem mapSeq_ls (f : Array Value → Array Value) (acc : Array Value) (c : Nat) : ∃ c', Obj.mapSeq f (lsO acc c) = lsO (f acc) c' := ⟨_, rfl⟩
theorem ext_loop {I S : Addr} {Tn : String} {Fm : Nat → Frm → Prop} {vs : List AV} {res : Value} {R : Result → Shared → Prop} (N : Nx G κ I Tn Fm vs σ) (hz : vs.length ≤ sizeLine) :
    ∀ (k i : Nat) (A : Around) (ρ ρI : Frm) (s : Shared) (acc : Array Value) (c : Nat), vs.length - i = k → i ≤ vs.length → acc.toList.map ab = vs.take i → Room κ A.in1 → Fm i ρI → St G (ρI ++ ((S, lsO acc c) :: ρ)) σ s →
      (∀ acc' c' s', acc'.toList.map ab = vs → St G ((S, lsO acc' c') :: ρ) σ s' → R (.ok (.ret res)) s') →
      codeAny (model G.prog G.w) A (.builtin "list.extend.loop" ⟨[.ref S, .ref I, res], []⟩) R s := by
  intro k
  induction k with
  | zero =>
    intro i A ρ ρI s acc c hk hi hacc hA hF z hR
    have hin : i = vs.length := Nat.le_antisymm hi (Nat.le_of_sub_eq_zero hk)
    subst hin
    refine codeAny_builtin F.entry_extend_loop ?_
    rw [Around.under_plainId F.plain_extend_loop _]
    show wpAny _ A.in1 (pyNext (.ref I) >>= _) _ _ s
    refine wpAny_bind (N.done A.in1 _ ρI s hA hF z _ _ fun s' z' => ?_)
    exact wpAny_pure (hR acc c s' (by rw [hacc, List.take_length]) z')
  | succ k ih =>
    intro i A ρ ρI s acc c hk hi hacc hA hF z hR
    have hlt : i < vs.length := Nat.lt_of_sub_eq_succ hk
    refine codeAny_builtin F.entry_extend_loop ?_
    rw [Around.under_plainId F.plain_extend_loop _]
    show wpAny _ A.in1 (pyNext (.ref I) >>= _) _ _ s
    refine wpAny_bind (N.item i vs[i] (List.getElem?_eq_getElem hlt) A.in1 _ ρI s hA hF z _ _ fun x ρI' s' hx hF' z' => ?_)
    have hsz : acc.size = i := by rw [size_of hacc, List.length_take]; exact Nat.min_eq_left hi
    have eS : s'.heap.get? S = some (lsO acc c) := z'.fr (S, lsO acc c) (List.mem_append_right _ (.head _))
    show wpAny _ A.in1 (updateSeq S (·.push x) >>= _) _ _ _
    refine wpAny_bind (wpAny_updateSeq eS rfl (wpAny_pure ⟨plainId_quiet F.plain_extend_loop _, ?_⟩) (by rw [hsz]; exact Nat.le_trans hi hz) (by rw [Array.size_push, hsz]; exact Nat.add_le_add_right (Nat.le_trans hi hz) 1))
    have z₁ : St G ((S, lsO acc c) :: (ρI' ++ ρ)) σ s' := z'.permF List.perm_middle
    obtain ⟨c', ec⟩ := mapSeq_ls (·.push x) acc c
    have z₂ : St G ((S, lsO (acc.push x) c') :: (ρI' ++ ρ)) σ { s' with heap := s'.heap.update S (Obj.mapSeq (·.push x)) } :=
      z₁.turnF (Heap.SameBut.update ..).extBut (by rw [Heap.get?_update_self _ eS (by rw [ec]; rfl), ec])
    have z₃ := z₂.permF (List.perm_middle (l₁ := ρI') (a := (S, lsO (acc.push x) c')) (l₂ := ρ)).symm
    refine ih (i + 1) A ρ ρI' _ (acc.push x) c' (by rw [Nat.sub_add_eq, hk]; rfl) hlt ?_ hA hF' z₃ hR
    rw [Array.toList_push, List.map_append, hacc, List.take_add_one, List.getElem?_eq_getElem hlt, ← hx]; rfl
theorem ext_with {I S : Addr} {Tn : String} {Fm : Nat → Frm → Prop} {vs : List AV} {res : Value} {R : Result → Shared → Prop} (N : Nx G κ I Tn Fm vs σ) (hz : vs.length ≤ sizeLine)
    (hself : ∀ A s (Q : Value → Shared → Prop) (E : Value → Shared → Prop), s.TypeIs (.ref I) Tn → Q (.ref I) s → wpAny (model G.prog G.w) A (pyIter (.ref I)) Q E s)
    (hl1 : typeLookup (.type Tn) "__len__" = pure none) (hl2 : typeLookup (.type Tn) "__length_hint__" = pure none) (hn1 : (Value.type Tn == Value.type "list") = false) (hn2 : (Value.type Tn == Value.type "tuple") = false)
    {A : Around} {ρ ρI : Frm} {s : Shared} {c : Nat} (hA : Room κ A.in1) (hF : Fm 0 ρI) (z : St G (ρI ++ ((S, lsO #[] c) :: ρ)) σ s) (hIS : S ≠ I)
    (hR : ∀ acc' c' s', acc'.toList.map ab = vs → St G ((S, lsO acc' c') :: ρ) σ s' → R (.ok (.ret res)) s') :
    wpAny (model G.prog G.w) A.in1 (Builtin.List.listExtendWith (.ref S) (.ref I) res)
      (fun fin s' => match fin with | .done f => R (.ok f) s' | .again c' => c'.quiet = true ∧ codeAny (model G.prog G.w) A c' R s') (fun e s' => R (.error e) s') s := by
  have hT := N.ty 0 ρI _ s hF z
  unfold Builtin.List.listExtendWith
  refine wpAny_bind (wpAny_typeOf hT ?_)
  have h1 : Builtin.List.listSameRef (.ref S) (.ref I) = false := by simp [Builtin.List.listSameRef, hIS]
  simp only [h1, hn1, hn2, Bool.or_false, Bool.false_eq_true, if_false]
  refine wpAny_bind (hself _ _ _ _ hT ?_)
  refine wpAny_bind (wpAny_holding ?_)
  unfold Builtin.List.listLengthHint
  refine wpAny_bind (wpAny_specialOf hT hl1 ?_)
  show wpAny _ A.in1 (specialOf (Value.ref I) (PySem.Str.ofString "__length_hint__") >>= _) _ _ _
  refine wpAny_bind (wpAny_specialOf hT hl2 ?_)
  refine wpAny_pure ?_
  show wpAny _ A.in1 (rule "list.extend.makes-room" >>= fun _a => Builtin.List.listTouch (.ref S) >>= fun _a =>
    again (.builtin "list.extend.loop" ⟨[.ref S, .ref I, res], []⟩)) _ _ _
  refine wpAny_bind (wpAny_rule ?_)
  refine wpAny_bind ?_
  show wpAny _ A.in1 (updateSeq S (·.push .none) >>= fun _a => updateSeq S (·.pop)) _ _ _
  have hS : s.heap.get? S = some (lsO #[] c) := z.fr (S, lsO #[] c) (List.mem_append_right _ (.head _))
  refine wpAny_bind (wpAny_updateSeq hS rfl ?_)
  have hS₂ := Heap.get?_update_self (Obj.mapSeq (·.push Value.none)) hS rfl
  refine wpAny_updateSeq (hz := by seq_fits) hS₂ rfl ?_
  have hS₃ := Heap.get?_update_self (Obj.mapSeq (·.pop)) hS₂ rfl
  have z₁ : St G ((S, lsO #[] c) :: (ρI ++ ρ)) σ s := z.permF List.perm_middle
  have z₂ := z₁.turnF (Heap.SameBut.update ..).extBut hS₂
  have z₃ := z₂.turnF (Heap.SameBut.update ..).extBut hS₃
  obtain ⟨c1, ec1⟩ := mapSeq_ls (·.push Value.none) #[] c
  obtain ⟨c2, ec2⟩ := mapSeq_ls (·.pop) (#[].push Value.none) c1
  have ec3 : lsO ((#[] : Array Value).push Value.none).pop c2 = lsO #[] c2 := by rw [Array.pop_push]
  rw [ec1, ec2, ec3] at z₃
  have z₄ : St G (ρI ++ ((S, lsO #[] c2) :: ρ)) σ _ := z₃.permF (List.perm_middle (l₁ := ρI) (a := (S, lsO #[] c2)) (l₂ := ρ)).symm
  exact wpAny_pure ⟨plainId_quiet F.plain_extend_loop _, ext_loop N hz vs.length 0 A ρ ρI _ #[] _ (by walk_at "om") (Nat.zero_le _) rfl hA hF z₄ hR⟩
theorem list_init {I S : Addr} {Tn : String} {Fm : Nat → Frm → Prop} {vs : List AV} {R : Result → Shared → Prop} (N : Nx G κ I Tn Fm vs σ) (hz : vs.length ≤ sizeLine)
    (hself : ∀ A s (Q : Value → Shared → Prop) (E : Value → Shared → Prop), s.TypeIs (.ref I) Tn → Q (.ref I) s → wpAny (model G.prog G.w) A (pyIter (.ref I)) Q E s)
    (hl1 : typeLookup (.type Tn) "__len__" = pure none) (hl2 : typeLookup (.type Tn) "__length_hint__" = pure none) (hn1 : (Value.type Tn == Value.type "list") = false) (hn2 : (Value.type Tn == Value.type "tuple") = false)
    {A : Around} {ρ ρI : Frm} {s : Shared} {c : Nat} (hA : Room κ A.in1) (hF : Fm 0 ρI) (z : St G (ρI ++ ((S, lsO #[] c) :: ρ)) σ s) (hIS : S ≠ I)
    (hR : ∀ acc' c' s', acc'.toList.map ab = vs → St G ((S, lsO acc' c') :: ρ) σ s' → R (.ok (.ret .none)) s') :
    wpAny (model G.prog G.w) A.in1 (Builtin.«list.__init__» ⟨[.ref S, .ref I], []⟩)
      (fun fin s' => match fin with | .done f => R (.ok f) s' | .again c' => c'.quiet = true ∧ codeAny (model G.prog G.w) A c' R s') (fun e s' => R (.error e) s') s := by
  have hS : s.heap.get? S = some (lsO #[] c) := z.fr (S, lsO #[] c) (List.mem_append_right _ (.head _))
  show wpAny _ A.in1 (do let old ← Builtin.List.listItems (.ref S); Builtin.List.listUpdate (.ref S) (fun _a => #[]); letGo old.toList.reverse; Builtin.List.listExtendWith (.ref S) (.ref I) .none) _ _ s
  refine wpAny_bind ?_
  unfold Builtin.List.listItems
  refine wpAny_bind (wpAny_seqItems hS rfl (wpAny_pure ?_))
  show wpAny _ A.in1 (updateSeq S (fun _a => #[]) >>= fun _a => letGo (#[] : Array Value).toList.reverse >>= fun _a => Builtin.List.listExtendWith (.ref S) (.ref I) .none) _ _ s
  refine wpAny_bind (wpAny_updateSeq hS rfl ?_)
  have hS₂ := Heap.get?_update_self (Obj.mapSeq (fun _a => (#[] : Array Value))) hS rfl
  have z₁ : St G ((S, lsO #[] c) :: (ρI ++ ρ)) σ s := z.permF List.perm_middle
  obtain ⟨c1, ec1⟩ := mapSeq_ls (fun _a => #[]) #[] c
  rw [ec1] at hS₂
  have z₂ : St G ((S, lsO #[] c1) :: (ρI ++ ρ)) σ _ := z₁.turnF (Heap.SameBut.update ..).extBut hS₂
  refine wpAny_bind (wpAny_letGo ?_)
  exact ext_with N hz hself hl1 hl2 hn1 hn2 hA hF (c := c1) (z₂.permF (List.perm_middle (l₁ := ρI) (a := (S, lsO #[] c1)) (l₂ := ρ)).symm) hIS hR
theorem call_list_nx {I : Addr} {Tn : String} {Fm : Nat → Frm → Prop} {vs : List AV} {Q : Value → Shared → Prop} {E : Value → Shared → Prop} (N : Nx G κ I Tn Fm vs σ) (hz : vs.length ≤ sizeLine)
    (hself : ∀ A s (Q : Value → Shared → Prop) (E : Value → Shared → Prop), s.TypeIs (.ref I) Tn → Q (.ref I) s → wpAny (model G.prog G.w) A (pyIter (.ref I)) Q E s)
    (hl1 : typeLookup (.type Tn) "__len__" = pure none) (hl2 : typeLookup (.type Tn) "__length_hint__" = pure none) (hn1 : (Value.type Tn == Value.type "list") = false) (hn2 : (Value.type Tn == Value.type "tuple") = false)
    {A : Around} {ρ ρI : Frm} {s : Shared} (hA : Room κ A.in1.in1) (hF : Fm 0 ρI) (z : St G (ρI ++ ρ) σ s)
    (hQ : ∀ r s', St G ρ ((r, .list vs) :: σ) s' → Q (.ref r) s') : wpAny (model G.prog G.w) A (call (.type "list") [.ref I]) Q E s := by
  have hIlt : I < s.heap.objs.size := by
    obtain ⟨p, hp, e⟩ := List.mem_map.mp (N.mem 0 ρI hF)
    rw [← e]; exact Heap.lt_size (z.fr p (List.mem_append_left _ hp))
  refine callType_codes (Q₁ := fun obj s₁ => obj = .ref s.heap.objs.size ∧ s₁ = { s with heap := s.heap.push { cls := .type "list", data := .seq #[] } }) F.called_list (F.typeCall_list_1 _) F.entry_list_init
    (code_list_new _ ⟨rfl, rfl⟩) fun obj s₁ h₁ => ?_
  obtain ⟨rfl, rfl⟩ := h₁
  have hS : (s.heap.push { cls := .type "list", data := .seq #[] }).get? s.heap.objs.size = some { cls := .type "list", data := .seq #[] } := Heap.get?_push_size _ rfl
  have z₁ : St G ((s.heap.objs.size, lsO #[] 0) :: (ρI ++ ρ)) σ { s with heap := s.heap.push { cls := .type "list", data := .seq #[] } } := z.pushF _ rfl
  refine ⟨⟨_, hS, rfl⟩, F.args_list_init_2 _ _, list_init N hz hself hl1 hl2 hn1 hn2 hA hF (c := 0) (z₁.permF (List.perm_middle (l₁ := ρI) (a := (s.heap.objs.size, lsO #[] 0)) (l₂ := ρ)).symm) (Nat.ne_of_gt hIlt) fun acc' c' s' hacc z' => ?_⟩
  exact ⟨rfl, hQ _ s' (z'.unexact ⟨acc', c', rfl, hacc⟩)⟩
end
end B19Text
section B20Text
theorem slot_map_next : Slot "map" "__next__" "map.__next__" :=
  .of (owner := "map") (n := "__next__") (by rw [typeLookup_type, builtinLookup_eq_fast]; kernel_rfl) (by decide +kernel) (by decide +kernel) (by decide +kernel)
    (by first | exact .inl (by decide +kernel) | exact .inr (by decide +kernel)) (by rw [isSubtype_type]; kernel_rfl)
theorem entry_map_next : entryFor table "map.__next__" = some Builtin.«map.__next__» := entryFor_of_tree (by kernel_rfl)
theorem args_map_next (a : Value) : argsOk "map.__next__" ⟨[a], []⟩ := by unfold argsOk; kernel_rfl
theorem map_no_len : typeLookup (.type "map") "__len__" = pure none := by rw [typeLookup_type, builtinLookup_eq_fast]; kernel_rfl
theorem map_no_hint : typeLookup (.type "map") "__length_hint__" = pure none := by rw [typeLookup_type, builtinLookup_eq_fast]; kernel_rfl
theorem mro_map : mroOf (.type "map") = pure [.type "map", .type "object"] := by rw [mroOf_type]; kernel_rfl
theorem lookup_map_new : typeLookup (.type "map") "__new__" = pure (some (.builtin "map.__new__")) := by rw [typeLookup_type, builtinLookup_eq_fast]; kernel_rfl
theorem slot_map_init : Slot "map" "__init__" "object.__init__" :=
  .of (owner := "object") (n := "__init__") (by rw [typeLookup_type, builtinLookup_eq_fast]; kernel_rfl) (by decide +kernel) (by decide +kernel) (by decide +kernel)
    (by first | exact .inl (by decide +kernel) | exact .inr (by decide +kernel)) (by rw [isSubtype_type]; kernel_rfl)
theorem called_map : TypeCalled "map" "map.__new__" "object.__init__" :=
  ⟨by decide +kernel, by decide +kernel, ⟨_, _, mro_map⟩, madeBy_type mro_map lookup_map_new (by decide +kernel), by decide +kernel, by rw [isSubtype_type]; kernel_rfl, slot_map_init⟩
theorem typeCall_map_2 (a b : Value) : checkTypeCall "map" ⟨[a, b], []⟩ = pure () := by kernel_rfl
theorem newCall_map_2 (a b : Value) : checkBuiltinCall "map.__new__" ⟨[.type "map", a, b], []⟩ = pure () := by kernel_rfl
theorem entry_map_new : entryFor table "map.__new__" = some Builtin.«map.__new__» := entryFor_of_tree (by kernel_rfl)
theorem sub_map_self : isSubtype (.type "map") (.type "map") = pure true := by rw [isSubtype_type]; kernel_rfl
theorem args_obj_init_3 (a b c : Value) : argsOk "object.__init__" ⟨[a, b, c], []⟩ := by unfold argsOk; kernel_rfl
noncomputable def mapO (f : Value) (t : Addr) : Obj := { cls := .type "map", data := .fields #[.ref t, f] }
noncomputable def tupO1 (I : Addr) : Obj := { cls := .type "tuple", data := .seq #[.ref I] }
noncomputable def itO (l : Addr) (i : Nat) : Obj := { cls := .type "list_iterator", data := .fields #[.ref l, .int (i : Int) 0] }
theorem meets_map_new (f : Value) (l : Addr) : Meets (Builtin.«map.__new__» ⟨[.type "map", f, .ref l], []⟩) (fun _a R s => (∃ items, s.heap.IsList l items) ∧
    R (.ok (.ret (.ref (s.heap.objs.size + 1 + 1)))) { s with heap := ((s.heap.push (itO l 0)).push (tupO1 s.heap.objs.size)).push (mapO f (s.heap.objs.size + 1)) }) :=
  .of_wp fun prog w A R s h => by
    obtain ⟨⟨items, hl⟩, h⟩ := h
    unfold Builtin.«map.__new__»
    refine wpAny_bind ?_
    unfold Builtin.SmallTypes.newClass
    dsimp only
    refine wpAny_bind (wpAny_of_eq (a := true) (by first | rfl | kernel_rfl) ?_)
    rw [if_neg (by decide)]
    refine wpAny_bind (wpAny_of_eq sub_map_self ?_)
    rw [if_neg (by decide)]
    refine wpAny_pure ?_
    refine wpAny_bind (wpAny_of_eq (a := ()) (by first | rfl | kernel_rfl) ?_)
    rw [if_neg (by simp)]
    dsimp only [List.drop, List.headD]
    refine wpAny_bind ?_
    unfold Builtin.SmallTypes.iterAll
    refine wpAny_bind ?_
    rw [List.forIn_cons]
    refine wpAny_bind (wpAny_bind (wpAny_holding (wpAny_pyIter_list hl ?_)))
    refine wpAny_pure ?_
    dsimp only
    rw [List.forIn_nil]
    refine wpAny_pure (wpAny_pure ?_)
    refine wpAny_bind (wpAny_newTuple ?_ (by rw [sizeLine_eq]; simp))
    refine wpAny_bind ?_
    unfold Builtin.SmallTypes.newRecord
    dsimp only
    refine wpAny_newObj_type ?_
    refine wpAny_pure ⟨_, rfl, ?_⟩
    simp only [Heap.size_push]
    exact h
section
variable {prog : Program} {w : World} {A : Around} {E : Value → Shared → Prop} {s : Shared}
theorem cs_list_item {it l : Addr} {i : Nat} {items} {x : Value} {Q : Option Value → Shared → Prop} (hit : s.heap.IsListIter it l i)
    (hl : s.heap.IsList l items) (hx : items[i]? = some x)
    (hQ : ∀ h', h'.IsListIter it l (i + 1) → Heap.SameBut it s.heap h' → Q (some x) { s with heap := h' }) :
    wpAny (model prog w) A (callSpecial? (.ref it) (PySem.Str.ofString "__next__")) Q E s := by
  obtain ⟨o, ho, hc, hd⟩ := id hit
  obtain ⟨ol, hol, _, nl, hdl⟩ := hl
  refine wpAny_callSpecial?_slot (name := PySem.Str.ofString "__next__") hit.typeIs slot_listiter_next
    (wpAny_call_entry slot_listiter_next hit.typeIs entry_listiter_next ?_ (args_listiter_next _))
  show wpAny _ _ (field (.ref it) 0 >>= _) _ _ s
  refine wpAny_bind (wpAny_field ho hd (x := .ref l) rfl ?_)
  show wpAny _ _ (if (Value.ref l == Value.none) = true then _ else _) _ _ s
  rw [if_neg (show ¬ ((Value.ref l == Value.none) = true) from Bool.false_ne_true)]
  show wpAny _ _ (field (.ref it) 1 >>= _) _ _ s
  refine wpAny_bind (wpAny_field ho hd (x := .int i 0) rfl ?_)
  show wpAny _ _ (seqItems? (.ref l) >>= _) _ _ s
  refine wpAny_bind (wpAny_seqItems hol hdl ?_)
  simp only [Int.toNat_natCast, hx]
  refine wpAny_bind (wpAny_setField ho hd (by simp) (wpAny_pure ⟨x, rfl, (hQ _ ?_ (Heap.SameBut.update ..))⟩))
  exact ⟨_, Heap.get?_update_self _ ho (Obj.isFreed_of_fields (Obj.data_mapFields hd _)), (Obj.cls_mapFields ..).trans hc, by
    rw [Obj.data_mapFields hd]; simp [rawInt]⟩
theorem cs_list_end {it l : Addr} {i : Nat} {items} {Q : Option Value → Shared → Prop} (hh : A.handled = none)
    (hit : s.heap.IsListIter it l i) (hl : s.heap.IsList l items) (hx : items[i]? = none)
    (hE : ∀ e h', Heap.ExtBut it s.heap h' → ({ s with heap := h' } : Shared).TypeIs e "StopIteration" → E e { s with heap := h' }) : wpAny (model prog w) A (callSpecial? (.ref it) (PySem.Str.ofString "__next__")) Q E s := by
  obtain ⟨o, ho, hc, hd⟩ := id hit
  obtain ⟨ol, hol, _, nl, hdl⟩ := hl
  refine wpAny_callSpecial?_slot (name := PySem.Str.ofString "__next__") hit.typeIs slot_listiter_next
    (wpAny_call_entry slot_listiter_next hit.typeIs entry_listiter_next ?_ (args_listiter_next _))
  show wpAny _ _ (field (.ref it) 0 >>= _) _ _ s
  refine wpAny_bind (wpAny_field ho hd (x := .ref l) rfl ?_)
  show wpAny _ _ (if (Value.ref l == Value.none) = true then _ else _) _ _ s
  rw [if_neg (show ¬ ((Value.ref l == Value.none) = true) from Bool.false_ne_true)]
  show wpAny _ _ (field (.ref it) 1 >>= _) _ _ s
  refine wpAny_bind (wpAny_field ho hd (x := .int i 0) rfl ?_)
  show wpAny _ _ (seqItems? (.ref l) >>= _) _ _ s
  refine wpAny_bind (wpAny_seqItems hol hdl ?_)
  simp only [Int.toNat_natCast, hx]
  refine wpAny_bind (wpAny_rule (wpAny_bind (wpAny_setField ho hd (by simp) ?_)))
  show wpAny _ _ (newExc (.type "StopIteration") [] >>= _) _ _ _
  refine wpAny_bind ?_
  simp only [newExc, newTuple]
  refine wpAny_bind (wpAny_newObj_type ?_ (by size_fits))
  refine wpAny_bind (m := firstArgMember _ _) (wpAny_of_eq (a := Value.none) (by first | rfl | (simp only [firstArgMember]; rfl)) ?_)
  refine wpAny_newObj_type ?_ (by size_fits)
  simp only [raiseNew]
  refine wpAny_bind (wpAny_handled ?_)
  rw [show A.in1.handled = none from hh]
  refine wpAny_bind (wpAny_pure (wpAny_throw ?_))
  exact hE _ _ (((Heap.SameBut.update ..).extBut.push _).push _) ⟨_, Heap.get?_push_size _ rfl, rfl⟩
end
section
variable {G : Gd} {κ : Kx} {env : Env} {σ σ' : Sto} {X : XP}
theorem cl_map {f : AV} {l : Addr} {xs : List AV} {Q : AV → Sto → Prop} (hm : (l, .list xs) ∈ σ)
    (h : ∀ (fv : Value) (M t I : Addr), ab fv = f → Q (.ref M) ((M, .raw (mapO fv t)) :: (t, .raw (tupO1 I)) :: (I, .raw (itO l 0)) :: σ)) : CL G κ (.ty "map") [f, .ref l] σ Q X := fun g vs hg hvs A ρ s hA z => by
  rw [ab_ty hg]
  obtain ⟨a, b, rfl, ha, hb⟩ := two hvs
  rw [ab_ref hb]
  obtain ⟨ys, n, e, hy⟩ := z.list hm
  refine callType_new called_map (by decide +kernel) (typeCall_map_2 _ _) (newCall_map_2 _ _) (fun obj => args_obj_init_3 _ _ _) entry_map_new (meets_map_new a l) ⟨⟨_, e.isList⟩, ?_⟩
  have z₁ := z.push (itO l 0) (.raw (itO l 0)) rfl rfl
  have z₂ := z₁.push (tupO1 s.heap.objs.size) (.raw (tupO1 s.heap.objs.size)) rfl rfl
  have z₃ := z₂.push (mapO a (s.heap.objs.size + 1)) (.raw (mapO a (s.heap.objs.size + 1))) rfl rfl
  simp only [Heap.size_push] at z₂ z₃
  refine ⟨⟨mapO a (s.heap.objs.size + 1), ?_, rfl⟩, _, h a _ _ _ ha, z₃⟩
  have := Heap.get?_push_size ((s.heap.push (itO l 0)).push (tupO1 s.heap.objs.size)) (o := mapO a (s.heap.objs.size + 1)) rfl
  simp only [Heap.size_push] at this
  exact this
theorem slot_map_iter : Slot "map" "__iter__" "map.__iter__" :=
  .of (owner := "map") (n := "__iter__") (by rw [typeLookup_type, builtinLookup_eq_fast]; kernel_rfl) (by decide +kernel) (by decide +kernel) (by decide +kernel)
    (by first | exact .inl (by decide +kernel) | exact .inr (by decide +kernel)) (by rw [isSubtype_type]; kernel_rfl)
theorem entry_map_iter : entryFor table "map.__iter__" = some Builtin.«dict_keyiterator.__iter__» :=
  entryFor_alias (id' := "dict_keyiterator.__iter__") (by rw [fastTable_eq_tree]; kernel_rfl) (by decide +kernel) (by decide +kernel) (by rw [fastTable_eq_tree]; kernel_rfl)
theorem args_map_iter (a : Value) : argsOk "map.__iter__" ⟨[a], []⟩ := by unfold argsOk; kernel_rfl
theorem map_self {prog : Program} {w : World} {M : Addr} (A : Around) (s : Shared) (Q : Value → Shared → Prop) (E : Value → Shared → Prop) (hT : s.TypeIs (.ref M) "map") (h : Q (.ref M) s) : wpAny (model prog w) A (pyIter (.ref M)) Q E s :=
  wpAny_pyIter_slot hT slot_map_iter (wpAny_call_entry slot_map_iter hT entry_map_iter (by
    show wpAny _ _ (Builtin.«dict_keyiterator.__iter__» ⟨[.ref M], []⟩) _ _ s
    exact wpAny_of_eq (a := .done (.ret (.ref M))) (by first | rfl | kernel_rfl) ⟨_, rfl, "map", _, hT, slot_map_next.lookup, h⟩) (args_map_iter _))
noncomputable def MapF (M t I l : Addr) (fv : Value) (i : Nat) (ρ : Frm) : Prop := ∃ oI, ρ = [(I, oI), (M, mapO fv t), (t, tupO1 I)] ∧ oI.cls = .type "list_iterator" ∧ oI.data = .fields #[.ref l, .int (i : Int) 0]
theorem nx_map {n : Nat} {M t I l : Addr} {fv : Value} {xs : List AV} {g : AV → AV} (hm : (l, .list xs) ∈ σ)
    (hf : ∀ x ∈ xs, CL G ⟨n, none⟩ (ab fv) [x] σ (fun v σ' => v = g x ∧ σ' = σ) NoX) : Nx G ⟨n + 1, none⟩ M "map" (MapF M t I l fv) (xs.map g) σ where
  ty := by
    rintro i ρI ρ s ⟨oI, rfl, _⟩ z
    exact ⟨mapO fv t, z.fr (M, mapO fv t) (by simp), rfl⟩
  mem := by
    rintro i ρI ⟨oI, rfl, _⟩
    simp
  item := by
    rintro i v hv A ρ ρI s hA ⟨oI, rfl, hc, hd⟩ z Q E hQ
    rw [List.getElem?_map] at hv
    cases hx : xs[i]? with
    | none => rw [hx] at hv; cases hv
    | some x =>
      rw [hx] at hv
      obtain rfl : g x = v := Option.some.inj hv
      have hT : s.TypeIs (.ref M) "map" := ⟨mapO fv t, z.fr (M, mapO fv t) (by simp), rfl⟩
      have eM : s.heap.get? M = some (mapO fv t) := z.fr (M, mapO fv t) (by simp)
      have et : s.heap.get? t = some (tupO1 I) := z.fr (t, tupO1 I) (by simp)
      have eI : s.heap.IsListIter I l i := ⟨oI, z.fr (I, oI) (by simp), hc, hd⟩
      obtain ⟨ys, k, el, hy⟩ := z.list hm
      have hx' : (ys.toList.map ab)[i]? = some x := by rw [hy]; exact hx
      rw [List.getElem?_map] at hx'
      cases hyi : ys.toList[i]? with
      | none => rw [hyi] at hx'; cases hx'
      | some y =>
        rw [hyi] at hx'
        have hab : ab y = x := Option.some.inj hx'
        unfold pyNext
        refine wpAny_bind (wpAny_attempt (wpAny_callSpecial?_slot (name := PySem.Str.ofString "__next__") hT slot_map_next
          (wpAny_call_entry slot_map_next hT entry_map_next ?_ (args_map_next _))))
        unfold Builtin.«map.__next__»
        refine wpAny_bind (wpAny_of_eq (a := (Value.ref M, [])) (by first | rfl | kernel_rfl) ?_)
        dsimp only
        refine wpAny_bind (wpAny_field eM rfl (x := .ref t) rfl ?_)
        refine wpAny_bind (wpAny_seqItems et rfl ?_)
        dsimp only
        refine wpAny_bind ?_
        rw [← Array.forIn_toList]
        show wpAny _ _ (forIn [Value.ref I] #[] _) _ _ _
        rw [List.forIn_cons]
        refine wpAny_bind (wpAny_bind (wpAny_holding ?_))
        unfold Builtin.SmallTypes.nextOf
        refine wpAny_bind (cs_list_item eI el.isList (x := y) (by simpa using hyi) fun h' hit' hs' => ?_)
        dsimp only
        refine wpAny_pure (wpAny_pure ?_)
        dsimp only
        rw [List.forIn_nil]
        refine wpAny_pure ?_
        obtain ⟨oI', eI', hc', hd'⟩ := id hit'
        have z' : St G ((I, oI') :: (M, mapO fv t) :: (t, tupO1 I) :: ρ) σ { s with heap := h' } := z.turnF hs'.extBut eI'
        refine wpAny_bind (wpAny_field (s := { s with heap := h' }) (z'.fr (M, mapO fv t) (by simp)) rfl (x := fv) rfl ?_)
        refine wpAny_bind (wpAny_holding ?_)
        have hcl := hf x (List.mem_of_getElem? hx) fv [y] rfl (by simp [hab])
        refine wpAny_mono (hcl A.in1 _ _ hA.in1 z') (fun r s₃ => pe fun σ₃ hh z₃ => ?_) fun _a _b => pe fun _a q _b => q.elim
        obtain ⟨hr, hσ⟩ := hh
        subst hσ
        refine wpAny_bind (wpAny_letGo (wpAny_pure ⟨r, rfl, ?_⟩))
        exact wpAny_pure (hQ r [(I, oI'), (M, mapO fv t), (t, tupO1 I)] s₃ hr ⟨oI', rfl, hc', by rw [hd']⟩ z₃)
  done := by
    rintro A ρ ρI s hA ⟨oI, rfl, hc, hd⟩ z Q E hQ
    have hT : s.TypeIs (.ref M) "map" := ⟨mapO fv t, z.fr (M, mapO fv t) (by simp), rfl⟩
    have eM : s.heap.get? M = some (mapO fv t) := z.fr (M, mapO fv t) (by simp)
    have et : s.heap.get? t = some (tupO1 I) := z.fr (t, tupO1 I) (by simp)
    rw [List.length_map] at hd
    have eI : s.heap.IsListIter I l xs.length := ⟨oI, z.fr (I, oI) (by simp), hc, hd⟩
    obtain ⟨ys, k, el, hy⟩ := z.list hm
    unfold pyNext
    refine wpAny_bind (wpAny_attempt (wpAny_callSpecial?_slot (name := PySem.Str.ofString "__next__") hT slot_map_next
      (wpAny_call_entry slot_map_next hT entry_map_next ?_ (args_map_next _))))
    unfold Builtin.«map.__next__»
    refine wpAny_bind (wpAny_of_eq (a := (Value.ref M, [])) (by first | rfl | kernel_rfl) ?_)
    dsimp only
    refine wpAny_bind (wpAny_field eM rfl (x := .ref t) rfl ?_)
    refine wpAny_bind (wpAny_seqItems et rfl ?_)
    dsimp only
    refine wpAny_bind ?_
    rw [← Array.forIn_toList]
    show wpAny _ _ (forIn [Value.ref I] #[] _) _ _ _
    rw [List.forIn_cons]
    refine wpAny_bind (wpAny_bind (wpAny_holding ?_))
    unfold Builtin.SmallTypes.nextOf
    have hyn : ys[xs.length]? = none := by
      rw [Array.getElem?_eq_none]; rw [size_of hy]; exact Nat.le_refl _
    refine wpAny_bind (cs_list_end (show A.in1.handled = none from hA.hd) eI el.isList hyn fun e h' he hTe => ?_)
    have z' : St G ((M, mapO fv t) :: (t, tupO1 I) :: ρ) σ { s with heap := h' } := z.loseF he
    refine wpAny_bind (wpAny_isInstance (T := "StopIteration") (b := true) hTe isSubtype_stop ?_)
    exact wpAny_pure (hQ _ z'.dropF.dropF)
end
end B20Text
section B21Text
section
variable {prog : Program} {w : World} {A : Around} {E : Value → Shared → Prop} {s : Shared}
theorem setItem_pos {l : Addr} {items : Array Value} {n : Nat} {j : Nat} {t : Tok} {v : Value} {Q : Unit → Shared → Prop} (ho : s.heap.get? l = some (lsO items n))
    (hn : j < items.size) (hsz : items.size ≤ 16777216)
    (hQ : ∀ h' n', h'.get? l = some (lsO (items.setIfInBounds j v) n') → Heap.SameBut l s.heap h' → Q () { s with heap := h' }) :
    wpAny (model prog w) A (setItem (.ref l) (.int (j : Int) t) v) Q E s := by
  have hl : s.heap.IsList l items := ⟨_, ho, rfl, n, rfl⟩
  have hd : (lsO items n).data = .seq items n := rfl
  obtain ⟨k, hk⟩ : ∃ k : Int, k = (j : Int) := ⟨_, rfl⟩
  have h0 : (0 : Int) ≤ k := by rw [hk]; exact Int.natCast_nonneg j
  have hfit : k < 2 ^ 63 := by rw [hk]; exact Int.lt_of_lt_of_le (Int.ofNat_lt.mpr hn) (Int.le_trans (Int.ofNat_le.mpr hsz) (by decide))
  rw [← hk]
  unfold setItem
  try with_reducible refine wpAny_holding ?_
  first | refine wpAny_bind (wpAny_pure ?_) | skip
  refine wpAny_bind (wpAny_sequenceKey hl.typeIs (by decide) ?_)
  refine wpAny_bind (wpAny_callSpecial?_slot (name := PySem.Str.ofString "__setitem__") hl.typeIs slot_list_setitem
    (wpAny_call_entry slot_list_setitem hl.typeIs entry_list_setitem ?_ (args_list_setitem _ _ _)))
  show wpAny _ _ (Builtin.List.listSubscript? (.int k t) >>= _) _ _ s
  refine wpAny_bind (wpAny_listSubscript_int (fitsIndex_of h0 hfit) ?_)
  clear hfit
  subst hk
  have hx' : items[j]? = some items[j] := Array.getElem?_eq_getElem hn
  show wpAny _ _ ((seqItemAt l j >>= fun r => pure (r.map (j, ·))) >>= _) _ _ s
  refine wpAny_bind (wpAny_bind (wpAny_seqItemAt ho hd (wpAny_pure ?_)))
  rw [hx']
  show wpAny _ _ (setSeqItemAt l j v >>= _) _ _ s
  obtain ⟨n', en⟩ := mapSeq_ls (·.setIfInBounds j v) items n
  have hfin : (s.heap.update l (Obj.mapSeq (·.setIfInBounds j v))).get? l = some (lsO (items.setIfInBounds j v) n') := by
    rw [Heap.get?_update_self _ ho (by rw [en]; rfl), en]
  refine wpAny_bind (wpAny_setSeqItemAt ho hd ?_)
  first
    | exact wpAny_bind (wpAny_pure (wpAny_pure ⟨.none, rfl, wpAny_pure (hQ _ _ hfin (Heap.SameBut.update ..))⟩))
    | exact wpAny_pure ⟨.none, rfl, wpAny_pure (hQ _ _ hfin (Heap.SameBut.update ..))⟩
theorem setItem_last {l : Addr} {items : Array Value} {n : Nat} {t : Tok} {v : Value} {Q : Unit → Shared → Prop} (ho : s.heap.get? l = some (lsO items n))
    (hn : 0 < items.size) (hsz : items.size ≤ 16777216)
    (hQ : ∀ h' n', h'.get? l = some (lsO (items.setIfInBounds (items.size - 1) v) n') → Heap.SameBut l s.heap h' → Q () { s with heap := h' }) :
    wpAny (model prog w) A (setItem (.ref l) (.int (-1) t) v) Q E s := by
  have hl : s.heap.IsList l items := ⟨_, ho, rfl, n, rfl⟩
  have hd : (lsO items n).data = .seq items n := rfl
  unfold setItem
  try with_reducible refine wpAny_holding ?_
  first | refine wpAny_bind (wpAny_pure ?_) | skip
  refine wpAny_bind (wpAny_sequenceKey hl.typeIs (by decide) ?_)
  refine wpAny_bind (wpAny_callSpecial?_slot (name := PySem.Str.ofString "__setitem__") hl.typeIs slot_list_setitem
    (wpAny_call_entry slot_list_setitem hl.typeIs entry_list_setitem ?_ (args_list_setitem _ _ _)))
  show wpAny _ _ (Builtin.List.listSubscript? (.int (-1) t) >>= _) _ _ s
  refine wpAny_bind (wpAny_listSubscript_int (fitsIndex_neg (by decide) (by decide)) ?_)
  have hidx := seqIndex_neg (k := -1) (n := items.size) (by decide) (Int.neg_le_neg (Int.ofNat_le.mpr hn))
  have ej : ((-1 : Int) + (items.size : Int)).toNat = items.size - 1 := lst1 hn
  rw [ej] at hidx
  have hx' : items[items.size - 1]? = some items[items.size - 1] := Array.getElem?_eq_getElem (Nat.sub_lt hn Nat.one_pos)
  show wpAny _ _ ((Builtin.List.listItems (.ref l) >>= fun xs => pure ((seqIndex? (-1) xs.size).bind fun i => xs[i]?.map (i, ·))) >>= _) _ _ s
  refine wpAny_bind (wpAny_bind ?_)
  show wpAny _ _ (seqItems? (.ref l) >>= _) _ _ s
  refine wpAny_bind (wpAny_seqItems ho hd (wpAny_pure (wpAny_pure ?_)))
  rw [hidx]
  simp only [Option.bind_some, hx', Option.map_some]
  show wpAny _ _ (setSeqItemAt l (items.size - 1) v >>= _) _ _ s
  obtain ⟨n', en⟩ := mapSeq_ls (·.setIfInBounds (items.size - 1) v) items n
  have hfin : (s.heap.update l (Obj.mapSeq (·.setIfInBounds (items.size - 1) v))).get? l = some (lsO (items.setIfInBounds (items.size - 1) v) n') := by
    rw [Heap.get?_update_self _ ho (by rw [en]; rfl), en]
  refine wpAny_bind (wpAny_setSeqItemAt ho hd ?_)
  first
    | exact wpAny_bind (wpAny_pure (wpAny_pure ⟨.none, rfl, wpAny_pure (hQ _ _ hfin (Heap.SameBut.update ..))⟩))
    | exact wpAny_pure ⟨.none, rfl, wpAny_pure (hQ _ _ hfin (Heap.SameBut.update ..))⟩
end
section
variable {G : Gd} {κ : Kx} {env : Env} {σ σ' : Sto} {X : XP}
noncomputable def SI (G : Gd) (κ : Kx) (o i v : AV) (σ : Sto) (Q : Sto → Prop) (X : XP) : Prop := ∀ x y z, ab x = o → ab y = i → ab z = v → W G κ id (setItem x y z) σ (fun _a σ' => Q σ') X
theorem ex_assign_sub' {o i value : PySem.Expr} {p pos : Pos} {Q : AF → Sto → Prop} (h : EV G κ env value σ (fun a σ₁ => EV G κ env o σ₁ (fun b σ₂ => EV G κ env i σ₂ (fun c σ₃ => SI G κ b c a σ₃ (fun σ₄ => Q .next σ₄) X) X) X) X) (hs : swapsWith value (some (.Subscript o i p)) pos.line env = pure false) : EX G κ env (.Assign [.Subscript o i p] value pos) σ Q X :=
  ex_assign_sub h hs
theorem si_list {l : Addr} {xs : List AV} {j : Nat} {v : AV} {Q : Sto → Prop} (u : Up l (.list xs) (.list (xs.set j v)) σ σ') (hj : j < xs.length) (hz : xs.length ≤ sizeLine) (h : Q σ') : SI G κ (.ref l) (.int (j : Int)) v σ Q X := fun x y z hx hy hz' A ρ s hA zz => by
  rw [ab_ref hx]
  obtain ⟨t, rfl⟩ := ab_int hy
  obtain ⟨ys, n, e, hm⟩ := zz.list u.mem
  have hs := size_of hm
  refine setItem_pos e (by rw [hs]; exact hj) (by rw [hs]; exact hz) fun h' n' e' hsb => ⟨σ', h, zz.turn u hsb e' ⟨_, n', rfl, ?_⟩⟩
  rw [← hm, ← hz', Array.toList_setIfInBounds, List.map_set]
theorem si_last {l : Addr} {xs : List AV} {v : AV} {Q : Sto → Prop} (u : Up l (.list xs) (.list (xs.set (xs.length - 1) v)) σ σ') (hj : 0 < xs.length) (hz : xs.length ≤ sizeLine) (h : Q σ') : SI G κ (.ref l) (.int (-1)) v σ Q X := fun x y z hx hy hz' A ρ s hA zz => by
  rw [ab_ref hx]
  obtain ⟨t, rfl⟩ := ab_int hy
  obtain ⟨ys, n, e, hm⟩ := zz.list u.mem
  have hs := size_of hm
  refine setItem_last e (by rw [hs]; exact hj) (by rw [hs]; exact hz) fun h' n' e' hsb => ⟨σ', h, zz.turn u hsb e' ⟨_, n', rfl, ?_⟩⟩
  rw [hs, ← hm, ← hz', Array.toList_setIfInBounds, List.map_set]
theorem cl_list_map {n : Nat} {M t I l : Addr} {fv : Value} {xs : List AV} {g : AV → AV} {Q : AV → Sto → Prop} (hm : (l, .list xs) ∈ σ) (hz : xs.length ≤ sizeLine)
    (hf : ∀ x ∈ xs, CL G ⟨n, none⟩ (ab fv) [x] σ (fun v σ' => v = g x ∧ σ' = σ) NoX) (h : ∀ r, Q (.ref r) ((r, .list (xs.map g)) :: σ)) :
    CL G ⟨n + 3, none⟩ (.ty "list") [.ref M] ((M, .raw (mapO fv t)) :: (t, .raw (tupO1 I)) :: (I, .raw (itO l 0)) :: σ) Q X := fun gv vs hg hvs A ρ s hA z => by
  rw [ab_ty hg]
  obtain ⟨a, rfl, ha⟩ := one hvs
  rw [ab_ref ha]
  have z₁ := z.toF.toF.toF
  have z₂ : St G ([(I, itO l 0), (M, mapO fv t), (t, tupO1 I)] ++ ρ) σ s := z₁.permF (.cons _ (.swap ..))
  refine call_list_nx (nx_map (M := M) (t := t) (I := I) hm hf) (by rw [List.length_map]; exact hz) map_self map_no_len map_no_hint (by decide) (by decide) (hA.in1 (n := n + 2)).in1 ⟨itO l 0, rfl, rfl, rfl⟩ z₂ fun r s' z' => ⟨_, h r, z'⟩
end
end B21Text
section B22Text
open PySem.Builtin PySem.Builtin.Str
/-- a text cut at a sign -/
noncomputable def spl (c : Nat) : List Nat → List (List Nat)
  | [] => [[]]
  | x :: r => if x = c then [] :: spl c r else match spl c r with | h :: t => (x :: h) :: t | [] => [[x]]
theorem spl_cons (c x : Nat) (r : List Nat) : spl c (x :: r) = if x = c then [] :: spl c r else match spl c r with | h :: t => (x :: h) :: t | [] => [[x]] := rfl
theorem spl_free (c : Nat) : ∀ l : List Nat, c ∉ l → spl c l = [l]
  | [], _ => rfl
  | x :: r, h => by
    have hx : x ≠ c := fun e => h (by rw [e]; exact .head _)
    have ih := spl_free c r fun hm => h (.tail _ hm)
    rw [spl_cons, if_neg hx, ih]
theorem spl_cut (c : Nat) (r : List Nat) : ∀ p : List Nat, c ∉ p → spl c (p ++ c :: r) = p :: spl c r
  | [], _ => by rw [List.nil_append, spl_cons, if_pos rfl]
  | x :: p, h => by
    have hx : x ≠ c := fun e => h (by rw [e]; exact .head _)
    have ih := spl_cut c r p fun hm => h (.tail _ hm)
    rw [List.cons_append, spl_cons, if_neg hx, ih]
theorem spl_join (c : Nat) : ∀ ps : List PySem.Str, ps ≠ [] → (∀ p ∈ ps, c ∉ p.cps.toList) → spl c (PySem.Str.join (chr c) ps).cps.toList = ps.map fun p => p.cps.toList
  | [], h, _ => absurd rfl h
  | [p], _, hf => by
    show spl c p.cps.toList = _
    rw [spl_free c _ (hf p (.head _))]; rfl
  | p :: q :: r, _, hf => by
    have ih := spl_join c (q :: r) (by simp) fun x hx => hf x (.tail _ hx)
    have e : (PySem.Str.join (chr c) (p :: q :: r)).cps.toList = p.cps.toList ++ c :: (PySem.Str.join (chr c) (q :: r)).cps.toList := by
      show (p ++ chr c ++ PySem.Str.join (chr c) (q :: r)).cps.toList = _
      show ((p.cps ++ (chr c).cps) ++ (PySem.Str.join (chr c) (q :: r)).cps).toList = _
      simp [chr, tx]
    rw [e, spl_cut c _ _ (hf p (.head _)), ih]; rfl
theorem split_ne (x y : PySem.Str) : Txt.split x y ≠ [] := by
  unfold Txt.split
  split
  · simp
  · split
    · simp
    · rw [StrLaws.partsBetween_eq]
      cases occurrences x y 0 x.length (x.length + 1) <;> exact List.cons_ne_nil _ _
theorem split_tx (l : List Nat) (c : Nat) : Txt.split (tx l) (chr c) = (spl c l).map tx := by
  have h1 := StrLaws.join_split (tx l) (chr c)
  have h2 := spl_join c (Txt.split (tx l) (chr c)) (split_ne _ _) (StrLaws.split_free (tx l) c)
  rw [h1] at h2
  have h3 : (tx l).cps.toList = l := by simp [tx]
  rw [h3] at h2
  rw [h2, List.map_map]
  have : (tx ∘ fun p : PySem.Str => p.cps.toList) = _root_.id := by funext p; exact (tx_cps p).symm
  rw [this, List.map_id]
set_option tactic.hygienic true in
theorem spl_len (c : Nat) : ∀ l : List Nat, (spl c l).length ≤ l.length + 1
  | [] => Nat.le_refl 1
  | x :: r => by
    have ih := spl_len c r
    rw [spl_cons]
    split
    · simp only [List.length_cons]; walk_at "om"
    · split
      · rename_i h t e; rw [e] at ih; simp only [List.length_cons] at ih ⊢; walk_at "om"
      · simp
section
variable {G : Gd} {κ : Kx} {env : Env} {σ σ' : Sto} {X : XP}
theorem ab_numbered (tk : Nat) (ps : List PySem.Str) : (strsFrom tk ps).map ab = ps.map .str := by
  rw [strsFrom_eq]
  have := numbered_texts tk ps
  conv => rhs; rw [← this]
  unfold strValues
  rw [List.map_map, List.map_map]; rfl
theorem cl_split {l : List Nat} {c : Nat} {u : PySem.Str} {Q : AV → Sto → Prop} (hu : u = chr c) (hz : l.length ≤ 1000) (h : ∀ r, Q (.ref r) ((r, .list (txs (spl c l))) :: σ)) : CL G κ (.bi "str.split") [.str (tx l), .str u] σ Q X := fun g vs hg hvs A ρ s hA z => by
  subst hu
  rw [ab_bi hg]
  obtain ⟨a, b, rfl, ha, hb⟩ := two hvs
  obtain ⟨t, rfl⟩ := ab_str ha
  obtain ⟨u, rfl⟩ := ab_str hb
  have key := split_tx l c
  have hself : ∀ (q : List PySem.Str), Txt.split (tx l) (chr c) = q → q.map AV.str = txs (spl c l) := fun q e => by
    rw [← e, key]; simp [txs]
  have hsl := spl_len c l
  unfold Txt.split at hself
  cases h1 : (decide ((tx l).length < (chr c).length) || decide (strKind (tx l) < strKind (chr c)))
  · rw [h1] at hself
    simp only [Bool.false_eq_true, if_false] at hself
    cases hf : (occurrences (tx l) (chr c) 0 (tx l).length ((tx l).length + 1)).isEmpty
    · rw [hf] at hself
      simp only [Bool.false_eq_true, if_false] at hself
      have e := hself _ rfl
      have hn : (partsBetween (tx l) (occurrences (tx l) (chr c) 0 (tx l).length ((tx l).length + 1)) (chr c).length).length = (spl c l).length := by
        have := congrArg List.length e
        simpa [txs] using this
      refine call_meets F.slot_str_split (typeIs_str _ _ _) F.entry_str_split (F.args_str_split_2 _ _) (meets_str_split_sep (tx l) (chr c) t u h1 rfl hf (by rw [tx_len, sizeLine_eq]; walk_at "om") (by rw [hn, sizeLine_eq]; walk_at "om")) ?_
      have zz := (z.push (lsO (strsFrom s.toks (partsBetween (tx l) (occurrences (tx l) (chr c) 0 (tx l).length ((tx l).length + 1)) (chr c).length)).toArray 0) (.list (txs (spl c l))) rfl ⟨_, _, rfl, by rw [List.toList_toArray, ab_numbered]; exact e⟩).toks (s.toks + (partsBetween (tx l) (occurrences (tx l) (chr c) 0 (tx l).length ((tx l).length + 1)) (chr c).length).length)
      exact ⟨_, h _, zz⟩
    · rw [hf] at hself
      simp only [if_true] at hself
      have e := hself _ rfl
      refine call_meets F.slot_str_split (typeIs_str _ _ _) F.entry_str_split (F.args_str_split_2 _ _) (meets_str_split_not_found (tx l) (chr c) t u h1 rfl hf) ?_
      exact ⟨_, h _, z.push (lsO [Value.str (tx l) t].toArray 0) (.list (txs (spl c l))) rfl ⟨_, _, rfl, by rw [← e]; rfl⟩⟩
  · rw [h1] at hself
    simp only [if_true] at hself
    have e := hself _ rfl
    refine call_meets F.slot_str_split (typeIs_str _ _ _) F.entry_str_split (F.args_str_split_2 _ _) (meets_str_split_cannot_occur (tx l) (chr c) t u h1) ?_
    exact ⟨_, h _, z.push (lsO [Value.str (tx l) t].toArray 0) (.list (txs (spl c l))) rfl ⟨_, _, rfl, by rw [← e]; rfl⟩⟩
end
end B22Text
section B23Text
open PySem.Builtin.ObjectAttr
theorem slot_fn_setattr : Slot "function" "__setattr__" "object.__setattr__" :=
  .of (owner := "object") (n := "__setattr__") (by rw [typeLookup_type, builtinLookup_eq_fast]; kernel_rfl) (by decide +kernel) (by decide +kernel) (by decide +kernel)
    (by first | exact .inl (by decide +kernel) | exact .inr (by decide +kernel)) (by rw [isSubtype_type]; kernel_rfl)
theorem mro_fn : mroOf (.type "function") = pure [.type "function", .type "object"] := by rw [mroOf_type]; kernel_rfl
theorem lk_fn_ga : typeLookup (.type "function") "__getattribute__" = pure (some (.builtin "object.__getattribute__")) := by rw [typeLookup_type, builtinLookup_eq_fast]; kernel_rfl
theorem lk_fn_gat : typeLookup (.type "function") "__getattr__" = pure none := by rw [typeLookup_type, builtinLookup_eq_fast]; kernel_rfl
theorem lk_fn_applies : typeLookup (.type "function") (PySem.Str.ofString "applies_to") = pure none := by rw [typeLookup_type, builtinLookup_eq_fast]; kernel_rfl
theorem lk_fn_allow : typeLookup (.type "function") (PySem.Str.ofString "allowance") = pure none := by rw [typeLookup_type, builtinLookup_eq_fast]; kernel_rfl
theorem passes_fn (self : Value) : refuseLoop self "__setattr__" [.type "function", .type "object"] = pure () := by kernel_rfl
theorem entry_obj_setattr : entryFor table "object.__setattr__" = some Builtin.«object.__setattr__» := entryFor_of_tree (by kernel_rfl)
theorem slot_fn_getattribute : Slot "function" "__getattribute__" "object.__getattribute__" :=
  .of (owner := "object") (n := "__getattribute__") lk_fn_ga (by decide +kernel) (by decide +kernel) (by decide +kernel)
    (by first | exact .inl (by decide +kernel) | exact .inr (by decide +kernel)) (by rw [isSubtype_type]; kernel_rfl)
theorem entry_obj_getattribute : entryFor table "object.__getattribute__" = some Builtin.«object.__getattribute__» := entryFor_of_tree (by kernel_rfl)
theorem args_obj_getattribute (a b : Value) : argsOk "object.__getattribute__" ⟨[a, b], []⟩ := by unfold argsOk; kernel_rfl
theorem args_obj_setattr (a b c : Value) : argsOk "object.__setattr__" ⟨[a, b, c], []⟩ := by unfold argsOk; kernel_rfl
/-- a dict of attributes -/
noncomputable def AttrD (m : List (PySem.Str × AV)) (o : Obj) : Prop := ∃ es ep, o.data = .dict es ep ∧ StrKeys es ∧ UniqKeys es ∧ ∀ y, (nsFind es y).map ab = m.lookup y
theorem AttrD.ns1 {m : List (PySem.Str × AV)} {o : Obj} {h : Heap} {d : Addr} (x : AttrD m o) (e : h.get? d = some o) : ∃ mA : PySem.Str → Option Value, h.Ns1 d mA ∧ (∀ y, (mA y).map ab = m.lookup y) ∧ Within mA (m.map (·.1)) := by
  obtain ⟨es, ep, hd, hk, hu, hm⟩ := x
  refine ⟨nsFind es, ⟨o, es, ep, e, hd, hk, hu, fun _a => rfl⟩, hm, fun y hy => ?_⟩
  have := hm y
  cases hf : nsFind es y with
  | none => exact absurd hf hy
  | some v =>
    rw [hf] at this
    have h2 : m.lookup y = some (ab v) := this.symm
    rw [List.lookup_eq_some_iff] at h2
    obtain ⟨l1, l2, rfl, _⟩ := h2
    simp
theorem AttrD.of_ns1 {m : List (PySem.Str × AV)} {h : Heap} {d : Addr} {mA : PySem.Str → Option Value} (x : h.Ns1 d mA) (hm : ∀ y, (mA y).map ab = m.lookup y) : ∃ o, h.get? d = some o ∧ AttrD m o := by
  obtain ⟨o, es, ep, e, hd, hk, hu, hf⟩ := x
  exact ⟨o, e, es, ep, hd, hk, hu, fun y => by rw [hf y]; exact hm y⟩
theorem attr_put {m : List (PySem.Str × AV)} {mA : PySem.Str → Option Value} {name : PySem.Str} {v : Value} (hm : ∀ y, (mA y).map ab = m.lookup y) :
    ∀ y, ((fun x => if x = name then some v else mA x) y).map ab = ((name, ab v) :: m).lookup y := fun y => by
  rw [List.lookup_cons]
  by_cases h : y = name
  · subst h; simp
  · have : (y == name) = false := by simpa using h
    rw [this]
    simp [h, hm y]
section
variable {prog : Program} {w : World} {A : Around} {E : Value → Shared → Prop} {s : Shared}
/-- the way of a store into a function, up to its dict -/
theorem fn_store {f : Addr} {fo : Obj} {name : PySem.Str} {v : Value} {Q : Unit → Shared → Prop} (hf : s.heap.get? f = some fo) (hc : fo.cls = .type "function")
    (hl : typeLookup (.type "function") name = pure none)
    (h : wpAny (model prog w) A.in1 (instanceDict f true) (fun o s' => ∃ d, o = some d ∧ ∀ t, wpAny (model prog w) A.in1 (storeInDict d (.str name t) name v) (fun fin s'' => fin = .done (.ret .none) ∧ Q () s'') E s') E { s with toks := s.toks + 1 }) :
    wpAny (model prog w) A (setAttr (.ref f) name v) Q E s := by
  have hT' : ∀ tk, ({ s with toks := tk } : Shared).TypeIs (.ref f) "function" := fun _a => ⟨_, hf, hc⟩
  unfold setAttr
  refine wpAny_bind (m := mkText name) (wpAny_mkText ?_)
  refine wpAny_bind ?_
  refine wpAny_callSpecial?_slot (name := PySem.Str.ofString "__setattr__") (hT' _) slot_fn_setattr (wpAny_call_entry slot_fn_setattr (hT' _) entry_obj_setattr ?_ (args_obj_setattr _ _ _))
  unfold Builtin.«object.__setattr__»
  rw [if_neg (by simp)]
  refine wpAny_bind ?_
  rw [refuse_eq]
  refine wpAny_bind (wpAny_typeOf (hT' _) (wpAny_bind (wpAny_of_eq mro_fn (wpAny_of_eq (passes_fn _) ?_))))
  refine wpAny_bind (wpAny_of_eq (a := name) (by rfl) ?_)
  refine wpAny_bind (wpAny_typeOf (hT' _) (wpAny_bind (wpAny_of_eq hl ?_)))
  refine wpAny_bind (wpAny_of_eq (a := none) (by rfl) ?_)
  dsimp only
  unfold storeInOwnDict
  refine wpAny_bind (wpAny_of_eq (a := ()) (by first | rfl | kernel_rfl) ?_)
  rw [if_neg (by decide)]
  refine wpAny_bind (wpAny_mono h (fun o s' ⟨d, e, hst⟩ => ?_) fun _a _b x => x)
  subst e
  dsimp only
  refine wpAny_mono (hst _) (fun fin s'' ⟨e, q⟩ => ⟨_, e, wpAny_pure q⟩) fun _a _b x => x
theorem dict_store {d : Addr} {mA : PySem.Str → Option Value} {ns : List PySem.Str} {name : PySem.Str} {v : Value} {t : Tok} {P : PySem.Fin → Shared → Prop} (hn : s.heap.Ns1 d mA) (hw : Within mA ns) (hz : ns.length ≤ 100)
    (h : ∀ h', h'.Ns1 d (fun x => if x = name then some v else mA x) → Heap.SameBut d s.heap h' → P (.done (.ret .none)) { s with heap := h', toks := s.toks + 1 }) :
    wpAny (model prog w) A (storeInDict d (.str name t) name v) P E s := by
  unfold storeInDict newKeyGuard
  refine wpAny_bind (wpAny_pure (wpAny_bind (wpAny_nsSet1 hn fun h' hn' hs => ?_)))
  obtain ⟨oD, esD, epD, hoD, hdD, hcD⟩ := hn'.count (Within.cons name v hw)
  refine wpAny_bind (wpAny_lookBehind hoD (by rw [hdD]; exact pastItsLine_dict (Nat.le_trans hcD (by rw [List.length_cons, sizeLine_eq]; walk_at "om"))) ?_)
  exact wpAny_pure (h h' hn' hs)
/-- an attribute of a function laid: into its dict -/
theorem fn_set {f d : Addr} {fo : Obj} {mA : PySem.Str → Option Value} {ns : List PySem.Str} {name : PySem.Str} {v : Value} {Q : Unit → Shared → Prop} (hf : s.heap.get? f = some fo) (hc : fo.cls = .type "function") (hd : fo.dict = some d)
    (hl : typeLookup (.type "function") name = pure none) (hn : s.heap.Ns1 d mA) (hw : Within mA ns) (hz : ns.length ≤ 100)
    (h : ∀ h' tk, h'.Ns1 d (fun x => if x = name then some v else mA x) → Heap.SameBut d s.heap h' → Q () { s with heap := h', toks := tk }) :
    wpAny (model prog w) A (setAttr (.ref f) name v) Q E s := by
  refine fn_store hf hc hl ?_
  unfold instanceDict
  refine wpAny_bind (wpAny_loadPart hf ?_)
  rw [hc]
  dsimp only
  rw [hd]
  refine wpAny_pure ⟨d, rfl, fun t => ?_⟩
  exact dict_store (s := { s with toks := s.toks + 1 }) hn hw hz fun h' hn' hs => ⟨rfl, h h' _ hn' hs⟩
/-- the first attribute of a function -/
theorem fn_set0 {f : Addr} {fo : Obj} {fd : FuncData} {name : PySem.Str} {v : Value} {Q : Unit → Shared → Prop} (hf : s.heap.get? f = some fo) (hfr : fo = { cls := .type "function", dict := none, data := .func fd, slots := #[] })
    (hl : typeLookup (.type "function") name = pure none)
    (h : ∀ h' tk, h'.Ns1 s.heap.objs.size (fun x => if x = name then some v else none) → h'.get? f = some { cls := .type "function", dict := some s.heap.objs.size, data := .func fd, slots := #[] } →
      (∀ b o, b ≠ f → s.heap.get? b = some o → h'.get? b = some o) → Q () { s with heap := h', toks := tk }) :
    wpAny (model prog w) A (setAttr (.ref f) name v) Q E s := by
  have hlt := Heap.lt_size hf
  refine fn_store hf (by rw [hfr]) hl ?_
  unfold instanceDict
  refine wpAny_bind (wpAny_loadPart hf ?_)
  subst hfr
  dsimp only
  rw [if_neg (by decide +kernel)]
  refine wpAny_bind (wpAny_alloc ?_)
  have hf₁ : (s.heap.push { cls := .type "dict", data := .dict #[] }).get? f = some { cls := .type "function", dict := none, data := .func fd, slots := #[] } := Heap.get?_push_of_some _ hf
  refine wpAny_bind (wpAny_update hf₁ ?_)
  refine wpAny_of_eq (a := some s.heap.objs.size) (by first | rfl | kernel_rfl) ⟨_, rfl, fun t => ?_⟩
  have hxs : f ≠ s.heap.objs.size := Nat.ne_of_lt hlt
  have hgd : ((s.heap.push { cls := .type "dict", data := .dict #[] }).update f fun o => { cls := o.cls, dict := some s.heap.objs.size, data := o.data, slots := o.slots }).get? s.heap.objs.size
      = some { cls := .type "dict", data := .dict #[] } :=
    (Heap.get?_update_ne _ _ _ _ hxs.symm).trans (Heap.get?_push_at rfl rfl)
  have hnd : ((s.heap.push { cls := .type "dict", data := .dict #[] }).update f fun o => { cls := o.cls, dict := some s.heap.objs.size, data := o.data, slots := o.slots }).Ns s.heap.objs.size (fun _a => none) :=
    ⟨_, #[], _, hgd, rfl, fun e he => absurd he (by simp), fun _a => rfl⟩
  refine dict_store (s := { s with heap := _, toks := s.toks + 1 }) (mA := fun _a => none) (ns := []) (Heap.Ns1.of_empty hnd) Within.nil (by decide) fun h' hn' hs => ⟨rfl, h h' _ hn' ?_ ?_⟩
  · refine (hs.2 f hxs).trans ?_
    rw [Heap.get?_update_self _ hf₁ rfl]
  · intro b o hb e
    exact (hs.2 b (Nat.ne_of_lt (Heap.lt_size e))).trans ((Heap.get?_update_ne _ _ _ _ hb).trans (Heap.get?_push_of_some _ e))
theorem fn_gattr {f d : Addr} {fo : Obj} {fd : FuncData} {mA : PySem.Str → Option Value} {name : PySem.Str} {v : Value} {u : Tok} {P : PySem.Fin → Shared → Prop} (hf : s.heap.get? f = some fo) (hc : fo.cls = .type "function") (hda : fo.data = .func fd) (hd : fo.dict = some d)
    (hl : typeLookup (.type "function") name = pure none) (hn : s.heap.Ns1 d mA) (hv : mA name = some v)
    (h : P (.done (.ret v)) s) :
    wpAny (model prog w) A (Builtin.«object.__getattribute__» ⟨[.ref f, .str name u], []⟩) P E s := by
  have hT : s.TypeIs (.ref f) "function" := ⟨_, hf, hc⟩
  unfold Builtin.«object.__getattribute__»
  refine wpAny_bind (wpAny_of_eq (a := (.ref f, [.str name u])) (by first | rfl | kernel_rfl) ?_)
  dsimp only
  refine wpAny_bind (wpAny_of_eq (a := name) (by first | rfl | kernel_rfl) ?_)
  refine wpAny_bind (wpAny_typeOf hT ?_)
  refine wpAny_bind ?_
  unfold Builtin.ObjectAttr.find
  refine wpAny_bind (wpAny_of_eq (a := none) hl ?_)
  refine wpAny_bind (wpAny_of_eq (a := none) (by first | rfl | kernel_rfl) ?_)
  refine wpAny_bind (wpAny_of_eq (a := none) (by first | rfl | kernel_rfl) ?_)
  dsimp only
  unfold Builtin.ObjectAttr.ownThenClass
  refine wpAny_bind ?_
  unfold Builtin.ObjectAttr.inOwnDict
  refine wpAny_bind ?_
  unfold Builtin.ObjectAttr.ownDict
  refine wpAny_bind (wpAny_loadPart hf ?_)
  rw [hda]
  dsimp only
  unfold instanceDict
  refine wpAny_bind (wpAny_loadPart hf ?_)
  rw [hc]
  dsimp only
  rw [hd]
  refine wpAny_pure ?_
  show wpAny _ _ (nsGet d name) _ _ _
  refine wpAny_nsGet hn.ns ?_
  rw [hv]
  dsimp only
  exact wpAny_bind (wpAny_rule (wpAny_pure (wpAny_pure h)))
theorem fn_getattr {f d : Addr} {fo : Obj} {fd : FuncData} {mA : PySem.Str → Option Value} {name : PySem.Str} {v : Value} {expr : Bool} {Q : Value → Shared → Prop} (hf : s.heap.get? f = some fo) (hc : fo.cls = .type "function") (hda : fo.data = .func fd) (hd : fo.dict = some d)
    (hl : typeLookup (.type "function") name = pure none) (hn : s.heap.Ns1 d mA) (hv : mA name = some v) (hh : handedOut v = pure v)
    (h : Q v { s with toks := s.toks + 1 }) : wpAny (model prog w) A (getAttr (.ref f) name expr) Q E s := by
  have hT : ∀ tk', ({ s with toks := tk' } : Shared).TypeIs (.ref f) "function" := fun _a => ⟨_, hf, hc⟩
  unfold getAttr
  refine wpAny_bind (m := mkText name) (wpAny_mkText ?_)
  unfold getAttrBy
  refine wpAny_holding ?_
  refine wpAny_bind (wpAny_typeOf (hT _) (wpAny_bind (wpAny_of_eq lk_fn_ga ?_)))
  dsimp only
  rw [if_neg (by decide +kernel)]
  unfold getAttrByItsOwn
  refine wpAny_bind (wpAny_of_eq (a := none) (by first | rfl | kernel_rfl) ?_)
  refine wpAny_bind (wpAny_attempt (wpAny_holding ?_))
  unfold callGetattribute
  rw [if_neg (by cases expr <;> decide +kernel)]
  unfold boundAndCalled
  refine wpAny_bind (wpAny_of_eq (slot_fn_getattribute.bind (.ref f)) ?_)
  refine wpAny_call_entry slot_fn_getattribute (hT _) entry_obj_getattribute (fn_gattr (s := { s with toks := s.toks + 1 }) hf hc hda hd hl hn hv ?_) (args_obj_getattribute _ _)
  refine ⟨_, rfl, ?_⟩
  dsimp only
  exact wpAny_of_eq hh h
theorem fn_getmethod {f d : Addr} {fo : Obj} {fd : FuncData} {mA : PySem.Str → Option Value} {name : PySem.Str} {v : Value} {pl : Sem Bool} {Q : Value × List Value → Shared → Prop} (hf : s.heap.get? f = some fo) (hc : fo.cls = .type "function") (hda : fo.data = .func fd) (hd : fo.dict = some d)
    (hl : typeLookup (.type "function") name = pure none) (hn : s.heap.Ns1 d mA) (hv : mA name = some v) (hh : handedOut v = pure v)
    (h : Q (v, []) { s with toks := s.toks + 1 }) : wpAny (model prog w) A (getMethod (.ref f) name pl) Q E s := by
  have hT : s.TypeIs (.ref f) "function" := ⟨_, hf, hc⟩
  unfold getMethod
  refine wpAny_bind (wpAny_specialOf hT lk_fn_ga ?_)
  dsimp only
  rw [if_neg (by decide +kernel)]
  refine wpAny_bind (wpAny_specialOf hT lk_fn_gat ?_)
  rw [if_neg (by decide)]
  refine wpAny_bind (wpAny_specialOf hT hl ?_)
  dsimp only
  exact wpAny_bind (fn_getattr hf hc hda hd hl hn hv hh (wpAny_pure h))
end
section
variable {G : Gd} {κ : Kx} {env : Env} {σ σ' : Sto} {X : XP}
/-- an attribute laid -/
noncomputable def SA (G : Gd) (κ : Kx) (o : AV) (name : PySem.Str) (v : AV) (σ : Sto) (Q : Sto → Prop) (X : XP) : Prop := ∀ x z, ab x = o → ab z = v → W G κ id (setAttr x name z) σ (fun _a σ' => Q σ') X
theorem ex_assign_attr {o value : PySem.Expr} {attr : PySem.Str} {p pos : Pos} {Q : AF → Sto → Prop} (h : EV G κ env value σ (fun a σ₁ => EV G κ env o σ₁ (fun b σ₂ => SA G κ b attr a σ₂ (fun σ₃ => Q .next σ₃) X) X) X)
    (hs : swapsWith value (some (.Attribute o attr p)) pos.line env = pure false) : EX G κ env (.Assign [.Attribute o attr p] value pos) σ Q X := fun A ρ s hA z =>
  plainObj_wpAny_Assign_Attribute (wpAny_mono (h A ρ s hA z) (fun v _a => pe fun _a q z => wpAny_mono (q A ρ _ hA z) (fun ov _a => pe fun _a q z => wpAny_mono (q ov v rfl rfl A ρ _ hA z) (fun _a _b => pe fun σ₄ q z => ⟨σ₄, q, z⟩) fun _a _b x => x) fun _a _b x => x) fun _a _b x => x) hs
theorem sa_fn0 {f : Addr} {fd : FuncData} {name : PySem.Str} {v : AV} {Q : Sto → Prop} (hl : typeLookup (.type "function") name = pure none)
    (h : ∀ d, Q ((d, .any (AttrD [(name, v)])) :: (f, .raw { cls := .type "function", dict := some d, data := .func fd, slots := #[] }) :: σ)) :
    SA G κ (.ref f) name v ((f, .raw { cls := .type "function", dict := none, data := .func fd, slots := #[] }) :: σ) Q X := fun x z hx hz A ρ s hA zz => by
  rw [ab_ref hx]
  obtain ⟨ob, e, hob⟩ := zz.at (.head _)
  have hob : ob = _ := hob
  refine fn_set0 e hob hl fun h' tk hn he hk => ?_
  have z₁ : St G ρ ((f, .raw { cls := .type "function", dict := some s.heap.objs.size, data := .func fd, slots := #[] }) :: σ) { s with heap := h' } := zz.turnX .here (fun b o hb e => hk b o hb e) he rfl
  obtain ⟨oD, eD, hD⟩ := AttrD.of_ns1 (m := [(name, v)]) hn (fun y => by rw [← hz]; exact attr_put (m := []) (mA := fun _a => none) (fun _a => rfl) y)
  have z₂ := z₁.notice eD (ao := .any (AttrD [(name, v)])) hD (n := s.heap.objs.size) (by
    intro a ha
    refine zz.lt a ?_
    simpa using ha) zz.sz (Nat.le_refl _)
  exact ⟨_, h _, z₂.toks _⟩
theorem sa_fn {f d : Addr} {fd : FuncData} {name : PySem.Str} {v : AV} {m : List (PySem.Str × AV)} {Q : Sto → Prop} (hl : typeLookup (.type "function") name = pure none) (hf : (f, .raw { cls := .type "function", dict := some d, data := .func fd, slots := #[] }) ∈ σ)
    (hm : m.length ≤ 50) (u : Up d (.any (AttrD m)) (.any (AttrD ((name, v) :: m))) σ σ') (h : Q σ') :
    SA G κ (.ref f) name v σ Q X := fun x z hx hz A ρ s hA zz => by
  rw [ab_ref hx]
  obtain ⟨ob, e, hob⟩ := zz.at hf
  have hob : ob = _ := hob
  subst hob
  obtain ⟨oD, eD, hD⟩ := zz.at u.mem
  have hD : AttrD m oD := hD
  obtain ⟨mA, hn, hmA, hw⟩ := hD.ns1 eD
  refine fn_set e rfl rfl hl hn hw (by simp; walk_at "om") fun h' tk hn' hs => ?_
  obtain ⟨oD', eD', hD'⟩ := AttrD.of_ns1 (m := (name, v) :: m) hn' (fun y => by rw [← hz]; exact attr_put hmA y)
  exact ⟨σ', h, (zz.turn u hs eD' hD').toks _⟩
/-- what may be handed out as it is -/
noncomputable def Plain : AV → Prop
  | .none | .bool _ | .int _ | .str _ | .ref _ => True
  | _ => False
theorem handed_plain {v : Value} (h : Plain (ab v)) : handedOut v = pure v := by
  cases v <;> first | rfl | exact h.elim
theorem ev_attr_fn {o : PySem.Expr} {name : PySem.Str} {pos : Pos} {Q : AV → Sto → Prop} (hbase : attributeBase o name env (eval o env) = eval o env) (hl : typeLookup (.type "function") name = pure none)
    (h : EV G κ env o σ (fun a σ₁ => ∃ f d fd m v, a = .ref f ∧ (f, .raw { cls := .type "function", dict := some d, data := .func fd, slots := #[] }) ∈ σ₁ ∧ (d, .any (AttrD m)) ∈ σ₁ ∧ m.lookup name = some v ∧ Plain v ∧ Q v σ₁) X) :
    EV G κ env (.Attribute o name pos) σ Q X := fun A ρ s hA z => by
  rw [arm_eval_Attribute, hbase]
  refine wpAny_bind (wpAny_mono (h A ρ s hA z) (fun x s₁ => pe fun σ₁ hh z₁ => ?_) fun _a _b x => x)
  obtain ⟨f, d, fd, m, v, hx, hf, hd, hv, hp, q⟩ := hh
  rw [ab_ref hx]
  obtain ⟨ob, e, hob⟩ := z₁.at hf
  have hob : ob = _ := hob
  subst hob
  obtain ⟨oD, eD, hD⟩ := z₁.at hd
  have hD : AttrD m oD := hD
  obtain ⟨mA, hn, hmA, hw⟩ := hD.ns1 eD
  have hy := hmA name
  rw [hv] at hy
  obtain ⟨y, hy1, hy2⟩ := Option.map_eq_some_iff.mp hy
  refine wpAny_bind (wpAny_standAt (wpAny_bind (wpAny_holding (fn_getattr e rfl rfl rfl hl hn hy1 (handed_plain (by rw [hy2]; exact hp)) ?_))))
  refine wpAny_bind (wpAny_letTemporaryGo (wpAny_pure ⟨_, ?_, z₁.toks _⟩))
  rw [hy2]; exact q
/-- the callee of a method form -/
noncomputable def GM (G : Gd) (κ : Kx) (o : AV) (name : PySem.Str) (σ : Sto) (Q : AV → List AV → Sto → Prop) (X : XP) : Prop := ∀ x, ab x = o → ∀ pl, W G κ (fun p : Value × List Value => (ab p.1, p.2.map ab)) (getMethod x name pl) σ (fun p σ' => Q p.1 p.2 σ') X
theorem ev_meth_gm {o : PySem.Expr} {name : PySem.Str} {apos pos : Pos} {args : List PySem.Expr} {Q : AV → Sto → Prop}
    (hbase : attributeBase o name env (eval o env) = eval o env)
    (hfew : ((backTo pos (starEach args env)).all (fun x => !x.1) && (backToKw pos (keywordEach [] env)).all (fun x => x.1.isSome)
      && decide (args.length + ([] : List Keyword).length + (if ([] : List Keyword).isEmpty then 0 else 1) < 30)) = true)
    (hline : (apos.endLine == pos.line) = true) (hstar : (backTo pos (starEach args env)).any (·.1) = false)
    (h : EV G κ env o σ (fun ov σ₁ => GM G κ ov name σ₁ (fun f first σ₂ => AS G κ env args σ₂ (fun vs σ₃ => KP G κ f σ₃ ∧ CL G κ f (first ++ vs) σ₃ Q X) X) X) X) : EV G κ env (.Call (.Attribute o name apos) args [] pos) σ Q X := fun A ρ s hA z => by
  rw [arm_eval_Call, hbase]
  refine wpAny_bind (wpAny_mono (h A ρ s hA z) (fun ov s₁ => pe fun σ₁ q z₁ => ?_) fun _a _b e => e)
  refine wpAny_bind (wpAny_standAt ?_)
  have hform : methodCallForm (args.length + ([] : List Keyword).length) (backTo pos (starEach args env)) (backToKw pos (keywordEach [] env)) = true := hfew
  have hpos : methodCallPos true o env apos pos = pure pos := by unfold methodCallPos; simp [hline]
  unfold methodCall
  rw [hform]
  refine wpAny_bind (wpAny_holding (wpAny_mono (q ov rfl _ A ρ s₁ hA z₁) (fun p s₂ => pe fun σ₂ q z₂ => ?_) fun _a _b x => x))
  refine wpAny_bind (wpAny_of_eq hpos ?_)
  exact w_callWith (first := p.2) (firstA := p.2.map ab) (fv := ab p.1) rfl rfl q hstar A ρ s₂ hA z₂
theorem gm_fn {f d : Addr} {fd : FuncData} {name : PySem.Str} {v : AV} {m : List (PySem.Str × AV)} {Q : AV → List AV → Sto → Prop} (hl : typeLookup (.type "function") name = pure none) (hf : (f, .raw { cls := .type "function", dict := some d, data := .func fd, slots := #[] }) ∈ σ)
    (hd : (d, .any (AttrD m)) ∈ σ) (hv : m.lookup name = some v) (hp : Plain v) (h : Q v [] σ) : GM G κ (.ref f) name σ Q X := fun x hx pl A ρ s hA z₁ => by
  rw [ab_ref hx]
  obtain ⟨ob, e, hob⟩ := z₁.at hf
  have hob : ob = _ := hob
  subst hob
  obtain ⟨oD, eD, hD⟩ := z₁.at hd
  have hD : AttrD m oD := hD
  obtain ⟨mA, hn, hmA, hw⟩ := hD.ns1 eD
  have hy := hmA name
  rw [hv] at hy
  obtain ⟨y, hy1, hy2⟩ := Option.map_eq_some_iff.mp hy
  refine fn_getmethod e rfl rfl rfl hl hn hy1 (handed_plain (by rw [hy2]; exact hp)) ⟨σ, ?_, z₁.toks _⟩
  show Q (ab y) [] σ
  rw [hy2]; exact h
end
end B23Text
section B24Text
section
variable {G : Gd} {κ : Kx} {env : Env} {σ σ' : Sto} {X : XP}
noncomputable abbrev lenv (fd : FuncData) (L a : Addr) : Env := newEnv fd.scope L fd.globals (cellsFrom (L + 1) fd.scope.names fd.closure) (fd.qualname ++ ".<locals>.") (some a) fd.code none fd.builtins
theorem kp_lam {a : Addr} {o : Obj} {fd : FuncData} (hm : (a, .raw o) ∈ σ) (hd : o.data = .func fd) : KP G κ (.ref a) σ := fun g hg X A ρ s hA z => by
  rw [ab_ref hg]
  obtain ⟨ob, e, hob⟩ := z.at hm
  have hob : ob = o := hob
  subst hob
  unfold keeperOf
  refine wpAny_bind (wpAny_load e ?_)
  rw [hd]
  exact wpAny_pure ⟨σ, rfl, z⟩
theorem cl_lam (T : Tp G) {n : Nat} {a c : Addr} {o : Obj} {fd : FuncData} {body : PySem.Expr} {args : List AV} (names : List PySem.Str) {Q : AV → Sto → Prop} (hm : (a, .raw o) ∈ σ) (hdat : o.data = .func fd) (hbody : fd.body = .expr body)
    (hcd : fd.code = .ref c) (hc : (c, .any (CodeQ fd.qualname)) ∈ σ)
    (hco : fd.scope.isCoroutine = false) (hgen : fd.scope.isGenerator = false) (hnd : ((lay fd.scope.names).map (·.1)).Nodup)
    (hbind : ∀ vs, vs.map ab = args → bindArgs fd ⟨vs, []⟩ = pure (names.zip vs))
    (h : ∀ L, BN G ⟨n, none⟩ (lenv fd L a) (names.zip args) (layC (L + 1) fd.scope.names ((L, .ns (lay fd.scope.names)) :: σ)) (fun σ' =>
      EV G ⟨n, none⟩ (lenv fd L a) body σ' (fun v σ'' => ∃ σ₀ : Sto, Pt σ₀ σ'' ∧ Q v σ₀) NoX) NoX) :
    CL G ⟨n + 1, none⟩ (.ref a) args σ Q X := fun g vs hg hvs A ρ s hA z => by
  rw [ab_ref hg]
  refine wpAny_call ?_
  obtain ⟨ob, e, hob⟩ := z.at hm
  have hob : ob = o := hob
  subst hob
  obtain ⟨oc, ec, hoc⟩ := z.at hc
  obtain ⟨fs, t, hf1, hf2⟩ : CodeQ fd.qualname oc := hoc
  refine kla_callFunE (by have := hA.depth; simp only at this; walk_at "om") e hdat hco hgen hbody ⟨c, oc, fs, t, hcd, ec, hf1, hf2⟩ ?_
  rw [hbind vs hvs]
  have hz : (names.zip vs).map (fun p => (p.1, ab p.2)) = names.zip args := by
    rw [← hvs, List.zip_map_right]
    rfl
  have bmono : ∀ (bs : List (PySem.Str × AV)) (env : Env) (σ : Sto) (P P' : Sto → Prop), (∀ σ, P σ → P' σ) → BN G ⟨n, none⟩ env bs σ P NoX → BN G ⟨n, none⟩ env bs σ P' NoX := by
    intro bs
    induction bs with
    | nil => intro env σ P P' hp h; exact hp _ h
    | cons b r ih => intro env σ P P' hp h y hy; exact W.post (h y hy) fun _a σ' q => ih env σ' P P' hp q
  refine wpAny_pure (wpAny_mono (w_newEnv (G := G) (κ := ⟨n, none⟩) (X := NoX) (Q := fun env σ' => ∃ L, env = lenv fd L a ∧
      EV G ⟨n, none⟩ (lenv fd L a) body σ' (fun v σ'' => ∃ σ₀ : Sto, Pt σ₀ σ'' ∧ Q v σ₀) NoX) hz hnd (fun L => bmono _ _ _ _ _ (fun σ' q => ⟨L, rfl, q⟩) (h L)) _ ρ s hA.in1 z) (fun env s₂ ⟨σ₂, ⟨L, he, q⟩, z₂⟩ => ⟨T.nolimit _ z₂.old, ?_⟩) fun _a _b => pe fun _a q _b => q.elim)
  subst he
  refine kla_codeExpr (wpAny_mono (q _ ρ s₂ (hA.deeper _) z₂) (fun v s₃ => pe fun σ₃ hh z₃ => ?_) fun _a _b => pe fun _a q _b => q.elim)
  obtain ⟨σ₀, hs, q⟩ := hh
  exact ⟨σ₀, q, z₃.pt hs⟩
end
end B24Text
section B25Text
section
variable {G : Gd} {κ : Kx} {env : Env} {σ σ' : Sto} {X : XP}
/-- all but these kept -/
theorem St.shrink {ρ : Frm} {s : Shared} {xs : Sto} {h' : Heap} (z : St G ρ (xs ++ σ) s) (hk : ∀ c o, c ∉ xs.map (·.1) → s.heap.get? c = some o → h'.get? c = some o) : St G ρ σ { s with heap := h' } where
  old := by
    have own : ∀ c ∈ xs.map (·.1), G.h₀.get? c = none := fun c hc => z.own c (List.mem_append_right _ (by rw [List.map_append]; exact List.mem_append_left _ hc))
    have ne : ∀ b o, G.h₀.get? b = some o → b ∉ xs.map (·.1) := fun b o e q => by rw [own b q] at e; cases e
    have old := z.old
    refine ⟨fun b o e => ?_, fun b o e => let ⟨o', ho'⟩ := old.there b o e; ⟨o', hk b o' (ne b o e) ho'⟩⟩
    rcases old.old b o e with x | ⟨t, hc, vs, more, hv, x⟩ | ⟨rfl, hc, ⟨o', es, n, ho', r⟩, y⟩
    · exact .inl (hk _ _ (ne b o e) x)
    · exact .inr (.inl ⟨t, hc, vs, more, hv, hk _ _ (ne b o e) x⟩)
    · exact .inr (.inr ⟨rfl, hc, ⟨o', es, n, hk _ _ (ne _ o e) ho', r⟩, fun key => by rw [OldK.staticOf_congr ((hk _ _ (ne _ o e) ho').trans ho'.symm) key]; exact y key⟩)
  gens := z.gens
  os := z.os
  fr := fun p hp => hk _ _ (fun hm => by
    have hd := (List.nodup_append.mp z.nd).2.2
    exact hd p.1 (List.mem_map.mpr ⟨p, hp, rfl⟩) p.1 (by rw [List.map_append]; exact List.mem_append_left _ hm) rfl) (z.fr p hp)
  ob := fun p hp => by
    obtain ⟨o, e, r⟩ := z.ob p (List.mem_append_right _ hp)
    refine ⟨o, hk _ _ (fun hm => ?_) e, r⟩
    have hd := (List.nodup_append.mp z.nd).2.1
    rw [List.map_append] at hd
    exact (List.nodup_append.mp hd).2.2 p.1 hm p.1 (List.mem_map.mpr ⟨p, hp, rfl⟩) rfl
  own := fun a ha => z.own a (by
    rcases List.mem_append.mp ha with x | x
    · exact List.mem_append_left _ x
    · exact List.mem_append_right _ (by rw [List.map_append]; exact List.mem_append_right _ x))
  nd := by
    have h := z.nd
    rw [List.map_append] at h
    exact (List.Sublist.append_left (List.sublist_append_right _ _) _).nodup h
theorem St.notice2 {ρ : Frm} {s : Shared} (h : St G ρ σ s) {c : Addr} {o : Obj} {ao : AO} (he : s.heap.get? c = some o) (hr : OR G o ao) (h₀ : G.h₀.get? c = none) (hc : c ∉ ρ.map (·.1) ++ σ.map (·.1)) : St G ρ ((c, ao) :: σ) s where
  old := h.old
  gens := h.gens
  os := h.os
  fr := h.fr
  ob := fun p hp => by
    rcases List.mem_cons.mp hp with rfl | hp
    · exact ⟨o, he, hr⟩
    · exact h.ob p hp
  own := fun a ha => by
    simp only [List.map_cons, List.mem_append, List.mem_cons] at ha
    rcases ha with x | x | x
    · exact h.own a (List.mem_append_left _ x)
    · rw [x]; exact h₀
    · exact h.own a (List.mem_append_right _ x)
  nd := by
    rw [List.map_cons]
    refine (List.perm_middle (l₁ := ρ.map (·.1)) (a := c) (l₂ := σ.map (·.1))).nodup_iff.mpr ?_
    exact List.nodup_cons.mpr ⟨hc, h.nd⟩
/-- an object of a class of the text -/
noncomputable def InstO (C dx : Addr) (o : Obj) : Prop := o.cls = .ref C ∧ (∀ c, o.data ≠ .cls c) ∧ o.dict = some dx
theorem St.inst {ρ : Frm} {s : Shared} (z : St G ρ σ s) {x dx C : Addr} {m : List (PySem.Str × AV)} (hx : (x, .any (InstO C dx)) ∈ σ) (hd : (dx, .any (AttrD m)) ∈ σ) (hne : dx ≠ x) :
    ∃ o mA, s.heap.get? x = some o ∧ InstO C dx o ∧ s.heap.Inst x C mA ∧ (∀ y, (mA y).map ab = m.lookup y) ∧ Within mA (m.map (·.1)) := by
  obtain ⟨o, e, ho⟩ := z.at hx
  have ho : InstO C dx o := ho
  obtain ⟨oD, eD, hD⟩ := z.at hd
  have hD : AttrD m oD := hD
  obtain ⟨mA, hn, hmA, hw⟩ := hD.ns1 eD
  exact ⟨o, mA, e, ho, ⟨o, e, ho.1, ho.2.1, .inr ⟨dx, ho.2.2, hne, hn⟩⟩, hmA, hw⟩
/-- the class Entry -/
structure Cls (G : Gd) where
  mN : PySem.Str → Option Value
  at' : ClsAt G.h₀ 69 68 mN
  no : ∀ x ∈ [PySem.Str.ofString "__setattr__", PySem.Str.ofString "__getattribute__", PySem.Str.ofString "__getattr__", PySem.Str.ofString "useragents", PySem.Str.ofString "rulelines", PySem.Str.ofString "delay", PySem.Str.ofString "req_rate"], mN x = none
  ini : mN (PySem.Str.ofString "__init__") = some (.ref 45)
  alw : mN (PySem.Str.ofString "allowance") = some (.ref 66)
  nsc : ∃ o, G.h₀.get? 68 = some o ∧ o.cls ≠ .none
theorem Cls.get (c : Cls G) {h : Heap} (K : OldK G.h₀ h) : ClsAt h 69 68 c.mN := by
  obtain ⟨nm, q, bs, sn, sub, col, dd, k0, k1, k2, k3, k5, e⟩ := c.at'.obj
  refine ⟨⟨nm, q, bs, sn, sub, col, dd, k0, k1, k2, k3, k5, K.get_of_cls e (by simp [excClassObj])⟩, ns_old K c.at'.ns c.nsc⟩
noncomputable def attrNames : List PySem.Str := [PySem.Str.ofString "useragents", PySem.Str.ofString "rulelines", PySem.Str.ofString "delay", PySem.Str.ofString "req_rate"]
theorem lk_obj_attr : ∀ x ∈ attrNames, typeLookup (.type "object") x = pure none := by
  intro x hx
  simp only [attrNames, List.mem_cons, List.not_mem_nil, or_false] at hx
  rcases hx with rfl | rfl | rfl | rfl <;> (rw [typeLookup_type, builtinLookup_eq_fast]; kernel_rfl)
end
end B25Text
section B26Text
section
variable {G : Gd} {κ : Kx} {env : Env} {σ σ' : Sto} {X : XP}
theorem attr_in {name : PySem.Str} (h : name ∈ attrNames) (c : Cls G) : c.mN name = none := c.no _ (by
  simp only [attrNames, List.mem_cons, List.not_mem_nil, or_false] at h ⊢
  rcases h with rfl | rfl | rfl | rfl <;> simp)
theorem St.ne2 {ρ : Frm} {s : Shared} {a b : Addr} {x y : AO} (z : St G ρ ((a, x) :: (b, y) :: σ) s) : b ≠ a := by
  have := z.nd
  rw [List.map_cons, List.map_cons] at this
  have h2 := (List.nodup_append.mp this).2.1
  rw [List.nodup_cons] at h2
  exact fun e => h2.1 (by rw [e]; exact List.mem_cons_self ..)
theorem St.old_ne {ρ : Frm} {s : Shared} {a b : Addr} {o : Obj} {x : AO} (z : St G ρ σ s) (hm : (a, x) ∈ σ) (hb : G.h₀.get? b = some o) : a ≠ b := fun e => by
  have := z.own a (List.mem_append_right _ (List.mem_map.mpr ⟨_, hm, rfl⟩))
  rw [e, hb] at this; cases this
theorem sa_inst (c : Cls G) {x dx : Addr} {name : PySem.Str} {v : AV} {m : List (PySem.Str × AV)} {Q : Sto → Prop} (hna : name ∈ attrNames) (hm : m.length ≤ 50)
    (h : Q ((x, .any (InstO 69 dx)) :: (dx, .any (AttrD ((name, v) :: m))) :: σ)) :
    SA G κ (.ref x) name v ((x, .any (InstO 69 dx)) :: (dx, .any (AttrD m)) :: σ) Q X := fun xv zv hx hz A ρ s hA z => by
  rw [ab_ref hx]
  have hne := z.ne2
  obtain ⟨o, mA, e, ho, I, hmA, hw⟩ := z.inst (.head _) (.tail _ (.head _)) hne
  obtain ⟨⟨nm, q, bs, sn, sub, col, dd, k0, k1, k2, k3, k5, hC⟩, hn⟩ := c.get z.old
  obtain ⟨_, _, _, _, _, _, _, _, _, _, _, _, hC0⟩ := c.at'.obj
  have hxC : x ≠ 69 := z.old_ne (.head _) hC0
  have own := z.own
  have lt := z.lt
  have nd := z.nd
  obtain ⟨hp, g, d, t, os⟩ := s
  refine store_attr F.store_object hC hn (c.no _ (by simp)) (attr_in hna c) (lk_obj_attr name hna) hxC I (ns := m.map (·.1)) (fun h' tk' I' hk hsame => ?_) hw (by rw [List.length_map, sizeLine_eq]; walk_at "om")
  obtain ⟨o₁, e₁, hc1, hd1, hs1, hdx1⟩ := hsame o e
  have z₁ : St G ρ σ ⟨h', g, d, t, os⟩ := St.shrink (xs := [(x, .any (InstO 69 dx)), (dx, .any (AttrD m))]) z fun b ob hb eb => hk b ob (fun q => hb (by simp [q])) (fun o₀ dx₀ h0 hd0 q => by
    rw [e] at h0; cases h0
    rw [ho.2.2] at hd0; cases hd0
    exact hb (by simp [q])) eb
  have hI1 : InstO 69 dx o₁ := ⟨by rw [hc1]; exact ho.1, by rw [hd1]; exact ho.2.1, hdx1 dx ho.2.2⟩
  obtain ⟨o₂, e₂, _, _, hdd⟩ := I'
  rw [e₁] at e₂; cases e₂
  have hns : h'.Ns1 dx (fun y => if y = name then some zv else mA y) := by
    rcases hdd with ⟨hno, _⟩ | ⟨d', hd', _, hns⟩
    · rw [hI1.2.2] at hno; cases hno
    · rw [hI1.2.2] at hd'; cases hd'; exact hns
  obtain ⟨oD, eD, hD⟩ := AttrD.of_ns1 (m := (name, v) :: m) hns (fun y => by rw [← hz]; exact attr_put hmA y)
  rw [List.map_cons, List.map_cons] at nd own
  have nd1 : (x :: dx :: (ρ.map (·.1) ++ σ.map (·.1))).Nodup := by
    have p1 := List.perm_middle (l₁ := ρ.map (·.1)) (a := x) (l₂ := dx :: σ.map (·.1))
    have p2 := (List.perm_middle (l₁ := ρ.map (·.1)) (a := dx) (l₂ := σ.map (·.1))).cons x
    exact (p1.trans p2).nodup_iff.mp nd
  rw [List.nodup_cons, List.nodup_cons] at nd1
  have z₂ := z₁.notice2 (c := dx) eD (ao := .any (AttrD ((name, v) :: m))) hD (own dx (by simp)) nd1.2.1
  have z₃ := z₂.notice2 (c := x) e₁ (ao := .any (InstO 69 dx)) hI1 (own x (by simp)) (by
    rw [List.map_cons]
    intro hm
    have := nd1.1
    simp only [List.mem_append, List.mem_cons, not_or] at hm this
    rcases hm with q | q | q
    · exact this.2.1 q
    · exact hne q.symm
    · exact this.2.2 q)
  exact ⟨_, h, z₃.toks _⟩
inductive AtP (name : PySem.Str) (Q : AV → Sto → Prop) (a : AV) (σ : Sto) : Prop
  | mk (x dx : Addr) (m : List (PySem.Str × AV)) (v : AV) (ha : a = .ref x) (hi : (x, AO.any (InstO 69 dx)) ∈ σ) (hd : (dx, AO.any (AttrD m)) ∈ σ) (hne : dx ≠ x) (hv : m.lookup name = some v) (hp : Plain v) (h : Q v σ)
theorem ev_attr_inst (c : Cls G) {o : PySem.Expr} {name : PySem.Str} {pos : Pos} {Q : AV → Sto → Prop} (hbase : attributeBase o name env (eval o env) = eval o env) (hna : name ∈ attrNames)
    (h : EV G κ env o σ (AtP name Q) X) :
    EV G κ env (.Attribute o name pos) σ Q X := fun A ρ s hA z => by
  rw [arm_eval_Attribute, hbase]
  refine wpAny_bind (wpAny_mono (h A ρ s hA z) (fun xv s₁ => pe fun σ₁ hh z₁ => ?_) fun _a _b x => x)
  obtain ⟨x, dx, m, v, hx, hi, hd, hne, hv, hp, q⟩ := hh
  rw [ab_ref hx]
  obtain ⟨ob, mA, e, ho, I, hmA, hw⟩ := z₁.inst hi hd hne
  obtain ⟨⟨nm, q', bs, sn, sub, col, dd, k0, k1, k2, k3, k5, hC⟩, hn⟩ := c.get z₁.old
  have hy := hmA name
  rw [hv] at hy
  obtain ⟨y, hy1, hy2⟩ := Option.map_eq_some_iff.mp hy
  refine wpAny_bind (wpAny_standAt (wpAny_bind (wpAny_holding ?_)))
  obtain ⟨hp', g, d, t, os⟩ := s₁
  refine load_attr hC hn (c.no _ (by simp)) (attr_in hna c) (lk_obj_attr name hna) I hy1 (handed_plain (by rw [hy2]; exact hp)) ?_
  refine wpAny_bind (wpAny_letTemporaryGo (wpAny_pure ⟨_, ?_, z₁.toks _⟩))
  rw [hy2]; exact q
theorem lk_obj_alw : typeLookup (.type "object") (PySem.Str.ofString "allowance") = pure none := by rw [typeLookup_type, builtinLookup_eq_fast]; kernel_rfl
theorem gm_inst (c : Cls G) {x dx : Addr} {m : List (PySem.Str × AV)} {fo : Obj} {Q : AV → List AV → Sto → Prop} (hi : (x, .any (InstO 69 dx)) ∈ σ) (hd : (dx, .any (AttrD m)) ∈ σ) (hne : dx ≠ x) (hv : m.lookup (PySem.Str.ofString "allowance") = none)
    (hf : G.h₀.get? 66 = some fo) (hfc : fo.cls = .type "function") (h : Q (.ref 66) [.ref x] σ) : GM G κ (.ref x) (PySem.Str.ofString "allowance") σ Q X := fun xv hx pl A ρ s hA z₁ => by
  rw [ab_ref hx]
  obtain ⟨ob, mA, e, ho, I, hmA, hw⟩ := z₁.inst hi hd hne
  obtain ⟨⟨nm, q', bs, sn, sub, col, dd, k0, k1, k2, k3, k5, hC⟩, hn⟩ := c.get z₁.old
  have hy := hmA (PySem.Str.ofString "allowance")
  rw [hv] at hy
  have hfo := z₁.old.get_of_cls hf (by rw [hfc]; nofun)
  obtain ⟨hp', g, d, t, os⟩ := s
  refine method_of hC hn (c.no _ (by simp)) (c.no _ (by simp)) c.alw hfo hfc lk_obj_alw I (Option.map_eq_none_iff.mp hy) ⟨σ, h, z₁⟩
end
end B26Text
section B27Text
structure Top4 (G : Gd) extends Top3 G where
  c : Cls G
  c45 : Value
  p45 : Value
  c66 : Value
  p66 : Value
  m45 : FnAt G 45 (fdm 0 c45 p45)
  m66 : FnAt G 66 (fdm 3 c66 p66)
  f45 : ∃ fo, G.h₀.get? 45 = some fo ∧ fo.cls = .type "function"
  f66 : ∃ fo, G.h₀.get? 66 = some fo ∧ fo.cls = .type "function"
theorem w_tc (C : Addr) (args : List Value) : (Code.builtin "type.__call__" ⟨.ref C :: args, []⟩).weight = 1 := rfl
theorem u_tc (C : Addr) (args : List Value) : (Code.builtin "type.__call__" ⟨.ref C :: args, []⟩).cUnits = 1 := rfl
theorem Room.tc {n : Nat} {A : Around} (C : Addr) (h : Room ⟨n + 1, none⟩ A) : Room ⟨n, none⟩ (A.under (.builtin "type.__call__" ⟨[.ref C], []⟩)) :=
  ⟨h.hd, by
    have := h.depth
    show A.depth + (Code.builtin "type.__call__" ⟨[.ref C], []⟩).weight + n < _
    rw [w_tc]; simp only at this; walk_at "om", by
    have := h.units
    show A.units + (Code.builtin "type.__call__" ⟨[.ref C], []⟩).cUnits + 50 * n < _
    rw [u_tc]; simp only at this; walk_at "om", fun _a hx => nomatch hx⟩
section
variable {G : Gd} {κ : Kx} {env : Env} {σ σ' : Sto} {X : XP}
theorem kp_cls (T : Top4 G) : KP G κ (.ref 69) σ := fun g hg X A ρ s hA z => by
  rw [ab_ref hg]
  obtain ⟨⟨nm, q', bs, sn, sub, col, dd, k0, k1, k2, k3, k5, hC⟩, hn⟩ := T.c.get z.old
  unfold keeperOf
  refine wpAny_bind (wpAny_load hC ?_)
  dsimp only [excClassObj]
  refine wpAny_bind (wpAny_specialOf (T := "type") ⟨_, hC, rfl⟩ tc_lookup ?_)
  exact wpAny_pure ⟨σ, rfl, z⟩
theorem cl_class (T : Top4 G) {n : Nat} {Q : AV → Sto → Prop}
    (h : ∀ x dx, dx ≠ x → CL G ⟨n, none⟩ (.ref 45) [.ref x] ((x, .any (InstO 69 dx)) :: (dx, .any (AttrD [])) :: σ) (fun v σ' => v = .none ∧ Q (.ref x) σ') X) : CL G ⟨n + 1, none⟩ (.ref 69) [] σ Q X := fun g vs hg hvs A ρ s hA z => by
  rw [ab_ref hg]
  obtain rfl : vs = [] := by simpa using hvs
  obtain ⟨⟨nm, q', bs, sn, sub, col, dd, k0, k1, k2, k3, k5, hC⟩, hn⟩ := T.c.get z.old
  obtain ⟨fo, hf, hfc⟩ := T.f45
  have hfo := z.old.get_of_cls hf (by rw [hfc]; nofun)
  have own := z.own
  have lt := z.lt
  have old := z.old
  have gens := z.gens
  have sz := z.sz
  obtain ⟨hp, g, d, t, os⟩ := s
  refine wpAny_call_obj_init F.objNew hC hn T.c.ini hfo hfc fun h' x dx hm => ?_
  obtain ⟨o, ex, hcls, hncl, hdd⟩ := hm.inst
  have hdx := hm.dict o ex
  obtain ⟨d', hd', hdne, hns⟩ : ∃ d, o.dict = some d ∧ d ≠ x ∧ h'.Ns1 d fun _a => none := by
    rcases hdd with ⟨hno, _⟩ | hdd
    · rw [hdx] at hno; cases hno
    · exact hdd
  rw [hdx] at hd'; cases hd'
  have hne : dx ≠ x := hdne
  have z₁ : St G ρ σ ⟨h', g, d, t, os⟩ := z.grown hm.keeps
  have fresh : ∀ c, hp.get? c = none → G.h₀.get? c = none := fun c hc => by
    cases q : G.h₀.get? c with
    | none => rfl
    | some ob =>
      obtain ⟨o', e'⟩ := old.there c ob q
      have e' : hp.get? c = some o' := e'
      rw [hc] at e'; cases e'
  have notin : ∀ c, hp.get? c = none → c ∉ ρ.map (·.1) ++ σ.map (·.1) := fun c hc hm => by
    rcases List.mem_append.mp hm with q | q
    · obtain ⟨p, hp', rfl⟩ := List.mem_map.mp q
      have e : hp.get? p.1 = some p.2 := z.fr p hp'
      rw [hc] at e; cases e
    · obtain ⟨p, hp', rfl⟩ := List.mem_map.mp q
      obtain ⟨o', e, _⟩ := z.ob p hp'
      have e : hp.get? p.1 = some o' := e
      rw [hc] at e; cases e
  obtain ⟨oD, eD, hD⟩ := AttrD.of_ns1 (m := []) hns (fun y => rfl)
  have z₂ := z₁.notice2 (c := dx) eD (ao := .any (AttrD [])) hD (fresh dx hm.newD) (notin dx hm.newD)
  have z₃ := z₂.notice2 (c := x) ex (ao := .any (InstO 69 dx)) ⟨hcls, hncl, hdx⟩ (fresh x hm.newX) (by
    rw [List.map_cons]
    intro hmm
    have := notin x hm.newX
    simp only [List.mem_append, List.mem_cons, not_or] at hmm this
    rcases hmm with q | q | q
    · exact this.1 q
    · exact hne q.symm
    · exact this.2 q)
  refine wpAny_mono (h x dx hne (.ref 45) [.ref x] rfl rfl _ ρ _ (hA.tc 69) z₃) (fun r s' ⟨σ', ⟨hr, q⟩, z'⟩ => ⟨ab_none hr, σ', q, z'⟩) fun _a _b x => x
end
end B27Text
section B28Text
section
variable {G : Gd} {κ : Kx} {env : Env} {σ σ' : Sto} {X : XP}
theorem cl_extend {l b : Addr} {xs ys : List AV} {Q : AV → Sto → Prop} (u : Up l (.list xs) (.list (xs ++ ys)) σ σ') (hb : (b, .list ys) ∈ σ) (hz : xs.length + ys.length ≤ 1000) (h : Q .none σ') : CL G κ (.bi "list.extend") [.ref l, .ref b] σ Q X := fun g vs hg hvs A ρ s hA z => by
  rw [ab_bi hg]
  obtain ⟨x, y, rfl, hx, hy⟩ := two hvs
  rw [ab_ref hx, ab_ref hy]
  obtain ⟨us, n, e, hu⟩ := z.list u.mem
  obtain ⟨ws, m, e', hw⟩ := z.list hb
  have h1 := size_of hu
  have h2 := size_of hw
  refine wpAny_call_entry F.slot_list_extend (e.isList.typeIs) F.entry_list_extend ?_ (F.args_list_extend_2 _ _)
  show wpAny _ _ (Builtin.List.listExtendWith (.ref l) (.ref b) .none) _ _ s
  unfold Builtin.List.listExtendWith
  refine wpAny_bind (wpAny_typeOf e'.isList.typeIs ?_)
  rw [if_pos (by simp)]
  refine wpAny_bind ?_
  unfold Builtin.List.listItems
  refine wpAny_bind (wpAny_seqItems e' rfl (wpAny_pure ?_))
  refine wpAny_bind (wpAny_bind (wpAny_seqItems e rfl (wpAny_pure ?_)))
  rw [if_neg (by simp [Builtin.List.listTooLong]; intro _; rw [sizeLine_eq]; walk_at "om")]
  show wpAny _ _ (updateSeq l (· ++ ws) >>= _) _ _ s
  obtain ⟨n', en⟩ := mapSeq_ls (· ++ ws) us n
  refine wpAny_bind (wpAny_updateSeq e rfl (wpAny_pure ⟨_, rfl, σ', h, z.turn u (Heap.SameBut.update ..) (ob := lsO (us ++ ws) n') ?_ ⟨_, _, rfl, by simp [hu, hw]⟩⟩) (by rw [sizeLine_eq]; walk_at "om") (by rw [sizeLine_eq, Array.size_append]; walk_at "om"))
  have e2 : s.heap.get? l = some (lsO us n) := e
  rw [Heap.get?_update_self _ e2 (by rw [en]; rfl), en]
theorem tr_int {i : Int} {Q : Bool → Sto → Prop} (h : Q (i != 0) σ) : TR G κ (.int i) σ Q X := fun x hx A ρ s hA z => by
  obtain ⟨t, rfl⟩ := ab_int hx
  exact P.truthy_int ⟨σ, h, z⟩
end
end B28Text
section B29Text
/-- the set of these texts -/
noncomputable def SetQ (G : Gd) (S : PySem.Str → Bool) (n : Nat) (o : Obj) : Prop := ∃ es ep t, o.ExactSet ∧ o.data = .set es ep t ∧ ElemsOf (PySem.strKind G.prog G.w) es.toList ∧ (∀ k, S k = true ↔ ∃ e ∈ es.toList, (PySem.strKind G.prog G.w).is k e.2 = true)
    ∧ es.size < scanBound ∧ t.fits es.size = true ∧ es.size = n
theorem SetQ.of {G : Gd} {S : PySem.Str → Bool} {n : Nat} {h : Heap} {a : Addr} (x : h.SetOf (PySem.strKind G.prog G.w) a S n) : ∃ o, h.get? a = some o ∧ SetQ G S n o := by
  obtain ⟨o, es, ep, t, e, r⟩ := x
  exact ⟨o, e, es, ep, t, r⟩
theorem SetQ.at {G : Gd} {S : PySem.Str → Bool} {n : Nat} {o : Obj} {h : Heap} {a : Addr} (x : SetQ G S n o) (e : h.get? a = some o) : h.SetOf (PySem.strKind G.prog G.w) a S n := by
  obtain ⟨es, ep, t, r⟩ := x
  exact ⟨o, es, ep, t, e, r⟩
section
variable {G : Gd} {κ : Kx} {env : Env} {σ σ' : Sto} {X : XP}
/-- the exceptional end -/
noncomputable abbrev NoE (G : Gd) (X : XP) (ρ : Frm) : Value → Shared → Prop := Po G ρ ab X
theorem set_loop {xs : List PySem.Str} {S l I : Addr} {R : Result → Shared → Prop} (hz : xs.length ≤ 1000) (hl : (l, .list (sts xs)) ∈ σ) :
    ∀ (k i : Nat) (A : Around) (ρ : Frm) (oI : Obj) (s : Shared) (n : Nat), xs.length - i = k → i ≤ xs.length → n ≤ i → A.handled = none → ItO I s.heap (.lst l) (sts xs).length i →
      St G ((I, oI) :: ρ) ((S, .any (SetQ G (fun x => (xs.take i).contains x) n)) :: σ) s →
      (∀ n' s', St G ρ ((S, .any (SetQ G (fun x => xs.contains x) n')) :: σ) s' → R (.ok (.ret .none)) s') →
      codeAny (model G.prog G.w) A (.builtin "set.update.loop" ⟨[.ref S, .ref I], []⟩) R s := by
  intro k
  induction k with
  | zero =>
    intro i A ρ oI s n hk hi hn hh hit z hR
    obtain rfl : i = xs.length := Nat.le_antisymm hi (Nat.le_of_sub_eq_zero hk)
    refine codeAny_builtin PyProof.Rows.F.entry_set_update_loop ?_
    rw [Around.under_plainId PyProof.Rows.F.plain_set_update_loop _]
    show wpAny _ A.in1 (pyNext (.ref I) >>= _) _ _ s
    refine wpAny_bind (next_end (sr := .lst l) (xs := sts xs) (show A.in1.handled = none from hh) z (by simpa [sts] using hit) (.tail _ hl) fun s' z' => ?_)
    show wpAny _ A.in1 (ret Value.none) _ _ s'
    rw [List.take_length] at z'
    exact wpAny_pure (hR n s' z')
  | succ k ih =>
    intro i A ρ oI s n hk hi hn hh hit z hR
    have hlt : i < xs.length := Nat.lt_of_sub_eq_succ hk
    refine codeAny_builtin PyProof.Rows.F.entry_set_update_loop ?_
    rw [Around.under_plainId PyProof.Rows.F.plain_set_update_loop _]
    show wpAny _ A.in1 (pyNext (.ref I) >>= _) _ _ s
    refine wpAny_bind (next_item (sr := .lst l) (xs := sts xs) (x := .str xs[i]) z hit (.tail _ hl) (by simp [sts, hlt]) fun v oI' s' hv hit' z' => ?_)
    obtain ⟨t, rfl⟩ := ab_str hv
    show wpAny _ A.in1 (holding [Value.str xs[i] t] (setAdd S (.str xs[i] t)) >>= _) _ _ s'
    refine wpAny_bind (wpAny_holding ?_)
    unfold setAdd
    refine wpAny_holding ?_
    obtain ⟨oS, eS, hS⟩ := z'.ob _ (.head _)
    have hS : SetQ G (fun x => (xs.take i).contains x) n oS := hS
    refine wpAny_bind ((PySem.strKind G.prog G.w).pyHash (k := xs[i]) (strKind_is _ _ _ _) ?_)
    refine wpAny_setAddHashed_of (knd := PySem.strKind G.prog G.w) (s := { s' with toks := s'.toks + 1 }) (strKind_is _ _ _ _) rfl (hS.at eS) (by unfold scanBound; walk_at "om") fun h' hsb hS2 => ?_
    obtain ⟨oS', eS', hS'⟩ := SetQ.of hS2
    have hfun : (fun k' => (xs.take i).contains k' || decide (k' = xs[i])) = fun x => (xs.take (i + 1)).contains x := by
      funext x
      rw [Bool.eq_iff_iff, Bool.or_eq_true, decide_eq_true_eq, List.contains_iff_mem, List.contains_iff_mem, List.take_add_one, List.getElem?_eq_getElem hlt]
      simp only [Option.toList, List.mem_append, List.mem_singleton]
    rw [hfun] at hS'
    have z₂ : St G ((I, oI') :: ρ) ((S, .any (SetQ G (fun x => (xs.take (i + 1)).contains x) (if (xs.take i).contains xs[i] = true then n else n + 1))) :: σ) { s' with heap := h' } := z'.turn .here hsb eS' hS'
    have hne : I ≠ S := fun e => by
      have := z'.nd
      rw [List.map_cons, List.map_cons, List.cons_append, List.nodup_cons] at this
      exact this.1 (by rw [e]; exact List.mem_append_right _ (List.mem_cons_self ..))
    refine wpAny_pure ⟨plainId_quiet PyProof.Rows.F.plain_set_update_loop _, ih (i + 1) A ρ oI' _ _ (by rw [Nat.sub_add_eq, hk]; rfl) hlt (by split <;> walk_at "om") hh (ItO.keeps (hsb.2 I hne) hit') (z₂.toks _) hR⟩
end
section
variable {G : Gd} {κ : Kx} {env : Env} {σ σ' : Sto} {X : XP}
open PySem.F in
set_option maxRecDepth 100000 in
theorem cl_set {l : Addr} {xs : List PySem.Str} {Q : AV → Sto → Prop} (hκ : hdv κ.hd = none) (hl : (l, .list (sts xs)) ∈ σ) (hz : xs.length ≤ 1000)
    (h : ∀ S n, Q (.ref S) ((S, .any (SetQ G (fun x => xs.contains x) n)) :: σ)) : CL G κ (.ty "set") [.ref l] σ Q X := fun gv vs hg hvs A ρ s hA z => by
  rw [ab_ty hg]
  obtain ⟨a, rfl, ha⟩ := one hvs
  rw [ab_ref ha]
  have hh : A.handled = none := hA.hd.trans hκ
  obtain ⟨c, tl, hmro⟩ := F.called_set.mro
  have hmade := F.called_set.made
  have hsub := F.called_set.sub
  refine wpAny_call (codeAny_of_tree ?_)
  show wpAny _ _ (callAny (.type "set") _) _ _ _
  refine wpAny_pure ⟨Code.quiet_builtin _ (by decide +kernel), codeAny_builtin F.entry_type_call ?_⟩
  rw [Around.under_plain (weight_type_call_type "set" [.ref l] []) rfl]
  have h1 := F.called_set.notType
  have h2 := F.called_set.canCreate
  have hct := F.typeCall_set_1 (.ref l)
  repeat (any_goals (first | assumption | walk_at "wq" | wp_delta | wp_step))
  refine codeAny_mono (code_set_new_1 (.ref l) (E := NoE G X ρ) (Q₁ := fun obj s₁ => ∃ led : Bool, obj = .ref s.heap.objs.size ∧ s₁ = { s with heap := s.heap.push { cls := .type "set", dict := none, data := .set #[] 0 (.fresh 0 0 led) } }) fun led => ⟨led, rfl, rfl⟩) fun r s₁ hr => ?_
  cases r with
  | error e => exact hr
  | ok fl =>
    cases fl with
    | ret obj =>
      obtain ⟨led, rfl, rfl⟩ := hr
      have hS : (s.heap.push { cls := .type "set", dict := none, data := .set #[] 0 (.fresh 0 0 led) }).get? s.heap.objs.size = some { cls := .type "set", dict := none, data := .set #[] 0 (.fresh 0 0 led) } := Heap.get?_push_size _ rfl
      have hT : Shared.TypeIs { s with heap := s.heap.push { cls := .type "set", dict := none, data := .set #[] 0 (.fresh 0 0 led) } } (.ref s.heap.objs.size) "set" := ⟨_, hS, rfl⟩
      have hli := F.called_set.init.lookup
      have hbi := F.called_set.init.bind (.ref s.heap.objs.size)
      have zS : St G ρ ((s.heap.objs.size, .any (SetQ G (fun x => (xs.take 0).contains x) 0)) :: σ) { s with heap := s.heap.push { cls := .type "set", dict := none, data := .set #[] 0 (.fresh 0 0 led) } } := z.push _ _ rfl (by
        obtain ⟨o, e, hq⟩ := SetQ.of (PyProof.Rows.SetOf_congr ((PyProof.Rows.setObjOf_fresh (knd := PySem.strKind G.prog G.w) led).setOf hS (by unfold scanBound; walk_at "om")) (fun _a => rfl) rfl)
        rw [hS] at e; cases e
        exact hq)
      repeat (any_goals (first | assumption | walk_at "wq" | wp_delta | wp_step))
      refine codeAny_mono (codeAny_call_builtin (R := wants (fun r s₂ => r = .none ∧ ∃ n, St G ρ ((s.heap.objs.size, .any (SetQ G (fun x => xs.contains x) n)) :: σ) s₂) (NoE G X ρ)) F.called_set.init.plain F.entry_set_init (check_set_init_1 hT ?_)) fun r₂ s₂ hr₂ => ?_
      · obtain ⟨ys, k, el, hy⟩ := zS.list (.tail _ hl)
        have hne : (Value.type "list" == Value.type "dict") = false := by decide
        have hsls := F.sub_list_set
        have hslf := F.sub_list_frozenset
        have hol' := el
        have hl1 := el.isList
        unfold Builtin.«set.__init__» noKeywords Builtin.Frozenset.updateFrom
        generalize hPI : pyIter = PI
        have hol2 : (s.heap.push { cls := .type "set", dict := none, data := .set #[] 0 (.fresh 0 0 led) }).get? l = some { cls := .type "list", dict := none, data := .seq ys k, slots := #[] } := el
        repeat (first | walk_at "wq" | wp_delta | wp_step)
        subst hPI
        refine iter_of zS (sr := .lst l) (xs := sts xs) ⟨rfl, .tail _ hl⟩ fun I oI s' hit _a z' => ?_
        refine wpAny_bind (wpAny_runValue ?_)
        refine set_loop (xs := xs) hz hl (xs.length - 0) 0 _ ρ oI s' 0 rfl (Nat.zero_le _) (Nat.le_refl _) (show A.in1.in1.in1.handled = none from hh) hit z' fun n' s'' z'' => ?_
        show wpAny _ _ _ _ _ _
        refine wpAny_pure ?_
        show wpAny _ _ (ret Value.none) _ _ _
        exact wpAny_pure ⟨rfl, n', z''⟩
      · cases r₂ with
        | error e => exact hr₂
        | ok fl₂ =>
          cases fl₂ with
          | ret r =>
            obtain ⟨rfl, n, z'⟩ := hr₂
            repeat (any_goals (first | assumption | walk_at "wq" | wp_delta | wp_step))
            exact ⟨_, h _ n, z'⟩
          | _ => exact hr₂.elim
    | _ => exact hr.elim
end
end B29Text
section B30Text
noncomputable def bcon (S : Addr) : Obj := { cls := .type "builtin_function_or_method", data := .fields #[.builtin "set.__contains__", .ref S] }
theorem ss_set : isSubtype (.type "set") (.type "set") = pure true := by rw [isSubtype_type]; kernel_rfl
theorem get_of_con : Builtin.ObjectAttr.getOf (some (.builtin "set.__contains__")) = pure (some (.builtin "method_descriptor.__get__")) := by
  unfold Builtin.ObjectAttr.getOf specialOf
  show (typeOf (.builtin "set.__contains__") >>= fun t => typeLookup t (PySem.Str.ofString "__get__")) = _
  rw [F.type_set_contains]
  show typeLookup (.type "method_descriptor") "__get__" = _
  exact slot_md_get.lookup
theorem takes_con : Builtin.ObjectAttr.dataDescriptor? (some (.builtin "set.__contains__")) (some (.builtin "method_descriptor.__get__")) = pure none := by
  first | rfl | kernel_rfl
theorem entry_set_ga : entryFor table "set.__getattribute__" = some Builtin.«object.__getattribute__» :=
  entryFor_alias (id' := "object.__getattribute__") (by kernel_rfl) (by decide +kernel) (by decide +kernel) (by kernel_rfl)
section
variable {prog : Program} {w : World} {A : Around} {E : Value → Shared → Prop} {s : Shared}
theorem con_md_run {l : Addr} {o : Obj} {P : PySem.Fin → Shared → Prop} (hx : s.heap.get? l = some o) (hc : o.cls = .type "set")
    (h : P (.done (.ret (.ref s.heap.objs.size))) { s with heap := s.heap.push (bcon l) }) :
    wpAny (model prog w) A (Builtin.«method_descriptor.__get__» ⟨[.builtin "set.__contains__", .ref l, .type "set"], []⟩) P E s := by
  unfold Builtin.«method_descriptor.__get__»
  refine wpAny_bind (wpAny_of_eq (a := (.builtin "set.__contains__", some (.ref l), some (.type "set"))) (by first | rfl | kernel_rfl) ?_)
  dsimp only
  rw [if_neg (by decide +kernel)]
  refine wpAny_bind ?_
  refine wpAny_bind (wpAny_of_eq (a := (PySem.Str.ofString "__contains__", Value.type "set")) (by first | rfl | kernel_rfl) ?_)
  dsimp only
  refine wpAny_bind (wpAny_isInstance (T := "set") (b := true) ⟨_, hx, hc⟩ ss_set ?_)
  rw [if_neg (by decide)]
  refine wpAny_pure ?_
  exact wpAny_bind (wpAny_newObj_type (wpAny_pure h))
theorem con_gattr {l : Addr} {o : Obj} {es ep tb} {u : Tok} {P : PySem.Fin → Shared → Prop} (hx : s.heap.get? l = some o) (hex : o.ExactSet) (hdt : o.data = .set es ep tb)
    (h : P (.done (.ret (.ref s.heap.objs.size))) { s with heap := s.heap.push (bcon l) }) :
    wpAny (model prog w) A (Builtin.«object.__getattribute__» ⟨[.ref l, .str (PySem.Str.ofString "__contains__") u], []⟩) P E s := by
  have hT : s.TypeIs (.ref l) "set" := ⟨_, hx, hex.1⟩
  unfold Builtin.«object.__getattribute__»
  refine wpAny_bind (wpAny_of_eq (a := (.ref l, [.str (PySem.Str.ofString "__contains__") u])) (by first | rfl | kernel_rfl) ?_)
  dsimp only
  refine wpAny_bind (wpAny_of_eq (a := PySem.Str.ofString "__contains__") (by first | rfl | kernel_rfl) ?_)
  refine wpAny_bind (wpAny_typeOf hT ?_)
  refine wpAny_bind ?_
  unfold Builtin.ObjectAttr.find
  refine wpAny_bind (wpAny_of_eq (a := some (.builtin "set.__contains__")) F.slot_set_contains.lookup ?_)
  refine wpAny_bind (wpAny_of_eq (a := some (.builtin "method_descriptor.__get__")) get_of_con ?_)
  refine wpAny_bind (wpAny_of_eq (a := none) takes_con ?_)
  dsimp only
  unfold Builtin.ObjectAttr.ownThenClass
  refine wpAny_bind ?_
  unfold Builtin.ObjectAttr.inOwnDict
  refine wpAny_bind ?_
  unfold Builtin.ObjectAttr.ownDict
  refine wpAny_bind (wpAny_loadPart hx ?_)
  rw [hdt]
  dsimp only
  unfold instanceDict
  refine wpAny_bind (wpAny_loadPart hx ?_)
  rw [hex.1]
  dsimp only
  rw [hex.2.1]
  dsimp only
  rw [if_pos (by decide +kernel)]
  refine wpAny_pure ?_
  show wpAny _ _ (pure none) _ _ _
  refine wpAny_pure ?_
  dsimp only
  refine wpAny_bind (wpAny_of_eq (a := ()) (by first | rfl | kernel_rfl) ?_)
  unfold Builtin.ObjectAttr.byTheClass
  refine wpAny_bind (wpAny_rule (wpAny_pure ?_))
  dsimp only
  unfold Builtin.ObjectAttr.bindTo
  refine wpAny_bind (wpAny_call (codeAny_call_builtin slot_md_get.plain entry_md_get (slot_md_get.check _ _ _ _ _ _ _ _ F.type_set_contains (args_md_get _ _ _) (con_md_run hx hex.1 ?_))))
  exact wpAny_pure h
theorem getattr_con {l : Addr} {o : Obj} {es ep tb} {expr : Bool} {Q : Value → Shared → Prop} (hx : s.heap.get? l = some o) (hex : o.ExactSet) (hdt : o.data = .set es ep tb)
    (h : Q (.ref s.heap.objs.size) { s with heap := s.heap.push (bcon l), toks := s.toks + 1 }) : wpAny (model prog w) A (getAttr (.ref l) (PySem.Str.ofString "__contains__") expr) Q E s := by
  have hT : ∀ tk', ({ s with toks := tk' } : Shared).TypeIs (.ref l) "set" := fun _a => ⟨_, hx, hex.1⟩
  unfold getAttr
  refine wpAny_bind (m := mkText (PySem.Str.ofString "__contains__")) (wpAny_mkText ?_)
  unfold getAttrBy
  refine wpAny_holding ?_
  refine wpAny_bind (wpAny_typeOf (hT _) (wpAny_bind (wpAny_of_eq F.slot_set_getattribute.lookup ?_)))
  dsimp only
  rw [if_neg (by decide +kernel)]
  unfold getAttrByItsOwn
  refine wpAny_bind (wpAny_of_eq (a := none) (by first | rfl | kernel_rfl) ?_)
  refine wpAny_bind (wpAny_attempt (wpAny_holding ?_))
  unfold callGetattribute
  rw [if_neg (by cases expr <;> decide +kernel)]
  unfold boundAndCalled
  refine wpAny_bind (wpAny_of_eq (F.slot_set_getattribute.bind (.ref l)) ?_)
  refine wpAny_call_entry F.slot_set_getattribute (hT _) entry_set_ga (con_gattr (s := { s with toks := s.toks + 1 }) hx hex hdt ?_) (F.args_set_getattribute_2 _ _)
  refine ⟨_, rfl, ?_⟩
  dsimp only
  exact wpAny_of_eq (a := .ref s.heap.objs.size) rfl h
end
section
variable {G : Gd} {κ : Kx} {env : Env} {σ σ' : Sto} {X : XP}
theorem ev_contains_of {o : PySem.Expr} {pos : Pos} {Q : AV → Sto → Prop} (hbase : attributeBase o (PySem.Str.ofString "__contains__") env (eval o env) = eval o env)
    (h : EV G κ env o σ (fun a σ₁ => ∃ l S n, a = .ref l ∧ (l, .any (SetQ G S n)) ∈ σ₁ ∧ ∀ b, Q (.ref b) ((b, .raw (bcon l)) :: σ₁)) X) : EV G κ env (.Attribute o (PySem.Str.ofString "__contains__") pos) σ Q X := fun A ρ s hA z => by
  rw [arm_eval_Attribute, hbase]
  refine wpAny_bind (wpAny_mono (h A ρ s hA z) (fun v s₁ => pe fun σ₁ hh z₁ => ?_) fun _a _b x => x)
  obtain ⟨l, S, n, hv, hm, q⟩ := hh
  rw [ab_ref hv]
  obtain ⟨ob, e, hob⟩ := z₁.at hm
  obtain ⟨es, ep, tb, hex, hdt, _⟩ : SetQ G S n ob := hob
  refine wpAny_bind (wpAny_standAt (wpAny_bind (wpAny_holding (getattr_con e hex hdt ?_))))
  refine wpAny_bind (wpAny_letTemporaryGo (wpAny_pure ⟨_, q _, ?_⟩))
  exact (z₁.push (bcon l) (.raw (bcon l)) rfl rfl).toks _
theorem sig_con : ∃ sig, Manifest.signature? "set.__contains__" = some sig ∧ ∀ (a b : Value), Bind.checkArgs "set.__contains__" { sig with full := toString (Bind.lastOf "set") ++ toString "." ++ toString (Bind.lastOf "set.__contains__") } ⟨[a, b], []⟩ = pure () := by
  have e := signature?_of (id := "set.__contains__") (n := ['_', '_', 's', 'n', 'i', 'a', 't', 'n', 'o', 'c', '_', '_']) (o := ['t', 'e', 's']) (by kernel_rfl) PySem.F.owner_set
  have h : (Manifest.signature? "set.__contains__").isSome = true := by rw [e]; kernel_rfl
  refine ⟨(Manifest.signature? "set.__contains__").get h, (Option.some_get h).symm, fun a b => ?_⟩
  revert h
  rw [e]
  intro h
  kernel_rfl
theorem check_con {M : Model} {A : Around} {E : Value → Shared → Prop} {s : Shared} {l : Addr} {a : Value} {o : Obj} {es ep tb} {Q : Unit → Shared → Prop} (hx : s.heap.get? l = some o) (hc : o.cls = .type "set") (hdt : o.data = .set es ep tb) (h : Q () s) : wpAny M A (checkBoundCall "set.__contains__" ⟨[.ref l, a], []⟩) Q E s := by
  obtain ⟨sig, e1, e2⟩ := sig_con
  have hT : s.TypeIs (.ref l) "set" := ⟨_, hx, hc⟩
  unfold checkBoundCall
  rw [e1]
  dsimp only
  rw [show builtinKind "set.__contains__" = some .method by decide +kernel]
  dsimp only
  rw [if_neg (by decide)]
  refine wpAny_bind (wpAny_isInstance (T := "set") (b := false) hT (by rw [isSubtype_type]; kernel_rfl) ?_)
  rw [if_neg (by decide +kernel)]
  refine wpAny_bind (wpAny_bind (wpAny_loadPart hx (wpAny_pure ?_)))
  rw [hdt]
  dsimp only
  rw [if_neg (by decide)]
  refine wpAny_bind (wpAny_typeOf hT ?_)
  dsimp only
  exact wpAny_of_eq (e2 _ _) h
theorem cl_con {b l : Addr} {S : PySem.Str → Bool} {n : Nat} {x : PySem.Str} {Q : AV → Sto → Prop} (hm : (b, .raw (bcon l)) ∈ σ) (hS : (l, .any (SetQ G S n)) ∈ σ) (h : Q (.bool (S x)) σ) : CL G κ (.ref b) [.str x] σ Q X := fun g vs hg hvs A ρ s hA z => by
  rw [ab_ref hg]
  obtain ⟨a, rfl, ha⟩ := one hvs
  obtain ⟨t, rfl⟩ := ab_str ha
  obtain ⟨ob, e, hob⟩ := z.at hm
  have hob : ob = bcon l := hob
  subst hob
  obtain ⟨oS, eS, hSo⟩ := z.at hS
  have hSo : SetQ G S n oS := hSo
  obtain ⟨es, ep, tb, hex, hdt, _⟩ := id hSo
  refine wpAny_call (codeAny_of_tree ?_)
  show wpAny _ A.in1 (callAny (.ref b) ⟨[.str x t], []⟩) _ _ s
  simp only [callAny]
  refine wpAny_bind (wpAny_load e ?_)
  simp only [bcon, show (Value.type "builtin_function_or_method" == Value.type "method" || Value.type "builtin_function_or_method" == Value.type "builtin_function_or_method" || Value.type "builtin_function_or_method" == Value.type "method-wrapper") = true by decide, if_true]
  refine KFB.if_so (by decide) ?_
  refine wpAny_bind (check_con eS hex.1 hdt ?_)
  refine wpAny_bind (wpAny_pure (wpAny_pure ?_))
  refine ⟨Code.quiet_builtin _ (by decide +kernel), codeAny_builtin entry_set_contains ?_⟩
  have hSet := hSo.at eS
  unfold Builtin.«frozenset.__contains__» Builtin.Frozenset.oneOther
  simp only [List.isEmpty_nil, bind_assoc]
  unfold Builtin.Frozenset.addrOf Builtin.Frozenset.withSetAsKey setContains
  refine wpAny_bind (wpAny_pure ?_)
  try dsimp only
  refine wpAny_bind (wpAny_pure ?_)
  try dsimp only
  refine wpAny_bind (wpAny_tryCatch ?_)
  refine wpAny_holding ?_
  refine wpAny_bind ((PySem.strKind G.prog G.w).pyHash (k := x) (strKind_is _ _ _ _) ?_)
  refine wpAny_bind (wpAny_setFind_of (knd := PySem.strKind G.prog G.w) (s := { s with toks := s.toks + 1 }) (strKind_is _ _ _ _) rfl hSet fun r hr => ?_)
  refine wpAny_pure ?_
  show wpAny _ _ (ret (Value.bool r.isSome)) _ _ _
  rw [hr]
  exact wpAny_pure ⟨σ, h, z.toks _⟩
end
end B30Text
section B31Text
theorem slot_fil_next : Slot "filter" "__next__" "filter.__next__" :=
  .of (owner := "filter") (n := "__next__") (by rw [typeLookup_type, builtinLookup_eq_fast]; kernel_rfl) (by decide +kernel) (by decide +kernel) (by decide +kernel)
    (by first | exact .inl (by decide +kernel) | exact .inr (by decide +kernel)) (by rw [isSubtype_type]; kernel_rfl)
theorem entry_fil_next : entryFor table "filter.__next__" = some Builtin.«filter.__next__» := entryFor_of_tree (by kernel_rfl)
theorem plain_fil_next : plainId "filter.__next__" = true := by decide +kernel
theorem args_fil_next (a : Value) : argsOk "filter.__next__" ⟨[a], []⟩ := by unfold argsOk; kernel_rfl
theorem fil_no_len : typeLookup (.type "filter") "__len__" = pure none := by rw [typeLookup_type, builtinLookup_eq_fast]; kernel_rfl
theorem fil_no_hint : typeLookup (.type "filter") "__length_hint__" = pure none := by rw [typeLookup_type, builtinLookup_eq_fast]; kernel_rfl
theorem mro_fil : mroOf (.type "filter") = pure [.type "filter", .type "object"] := by rw [mroOf_type]; kernel_rfl
theorem lookup_fil_new : typeLookup (.type "filter") "__new__" = pure (some (.builtin "filter.__new__")) := by rw [typeLookup_type, builtinLookup_eq_fast]; kernel_rfl
theorem slot_fil_init : Slot "filter" "__init__" "object.__init__" :=
  .of (owner := "object") (n := "__init__") (by rw [typeLookup_type, builtinLookup_eq_fast]; kernel_rfl) (by decide +kernel) (by decide +kernel) (by decide +kernel)
    (by first | exact .inl (by decide +kernel) | exact .inr (by decide +kernel)) (by rw [isSubtype_type]; kernel_rfl)
theorem called_fil : TypeCalled "filter" "filter.__new__" "object.__init__" :=
  ⟨by decide +kernel, by decide +kernel, ⟨_, _, mro_fil⟩, madeBy_type mro_fil lookup_fil_new (by decide +kernel), by decide +kernel, by rw [isSubtype_type]; kernel_rfl, slot_fil_init⟩
theorem typeCall_fil_2 (a b : Value) : checkTypeCall "filter" ⟨[a, b], []⟩ = pure () := by kernel_rfl
theorem newCall_fil_2 (a b : Value) : checkBuiltinCall "filter.__new__" ⟨[.type "filter", a, b], []⟩ = pure () := by kernel_rfl
theorem entry_fil_new : entryFor table "filter.__new__" = some Builtin.«filter.__new__» := entryFor_of_tree (by kernel_rfl)
theorem sub_fil_self : isSubtype (.type "filter") (.type "filter") = pure true := by rw [isSubtype_type]; kernel_rfl
noncomputable def filO (f : Value) (I : Addr) : Obj := { cls := .type "filter", data := .fields #[f, .ref I] }
theorem meets_fil_new (f : Value) (l : Addr) : Meets (Builtin.«filter.__new__» ⟨[.type "filter", f, .ref l], []⟩) (fun _a R s => (∃ items, s.heap.IsList l items) ∧
    R (.ok (.ret (.ref (s.heap.objs.size + 1)))) { s with heap := (s.heap.push (itO l 0)).push (filO f s.heap.objs.size) }) :=
  .of_wp fun prog w A R s h => by
    obtain ⟨⟨items, hl⟩, h⟩ := h
    unfold Builtin.«filter.__new__»
    refine wpAny_bind ?_
    unfold Builtin.SmallTypes.newClass
    dsimp only
    refine wpAny_bind (wpAny_of_eq (a := true) (by first | rfl | kernel_rfl) ?_)
    rw [if_neg (by decide)]
    refine wpAny_bind (wpAny_of_eq sub_fil_self ?_)
    rw [if_neg (by decide)]
    refine wpAny_pure ?_
    refine wpAny_bind (wpAny_of_eq (a := ()) (by first | rfl | kernel_rfl) ?_)
    refine wpAny_bind (wpAny_of_eq (a := ()) (by first | rfl | kernel_rfl) ?_)
    dsimp only
    refine wpAny_bind (wpAny_pyIter_list hl ?_)
    refine wpAny_bind ?_
    unfold Builtin.SmallTypes.newRecord
    dsimp only
    refine wpAny_newObj_type ?_
    refine wpAny_pure ⟨_, rfl, ?_⟩
    simp only [Heap.size_push]
    exact h
section
variable {G : Gd} {κ : Kx} {env : Env} {σ σ' : Sto} {X : XP}
theorem cl_filter {f : AV} {l : Addr} {xs : List AV} {Q : AV → Sto → Prop} (hm : (l, .list xs) ∈ σ)
    (h : ∀ (fv : Value) (M I : Addr), ab fv = f → Q (.ref M) ((M, .raw (filO fv I)) :: (I, .raw (itO l 0)) :: σ)) : CL G κ (.ty "filter") [f, .ref l] σ Q X := fun g vs hg hvs A ρ s hA z => by
  rw [ab_ty hg]
  obtain ⟨a, b, rfl, ha, hb⟩ := two hvs
  rw [ab_ref hb]
  obtain ⟨ys, n, e, hy⟩ := z.list hm
  refine callType_new called_fil (by decide +kernel) (typeCall_fil_2 _ _) (newCall_fil_2 _ _) (fun obj => args_obj_init_3 _ _ _) entry_fil_new (meets_fil_new a l) ⟨⟨_, e.isList⟩, ?_⟩
  have z₁ := z.push (itO l 0) (.raw (itO l 0)) rfl rfl
  have z₂ := z₁.push (filO a s.heap.objs.size) (.raw (filO a s.heap.objs.size)) rfl rfl
  simp only [Heap.size_push] at z₂
  refine ⟨⟨filO a s.heap.objs.size, ?_, rfl⟩, _, h a _ _ ha, z₂⟩
  have := Heap.get?_push_size (s.heap.push (itO l 0)) (o := filO a s.heap.objs.size) rfl
  simp only [Heap.size_push] at this
  exact this
theorem slot_fil_iter : Slot "filter" "__iter__" "filter.__iter__" :=
  .of (owner := "filter") (n := "__iter__") (by rw [typeLookup_type, builtinLookup_eq_fast]; kernel_rfl) (by decide +kernel) (by decide +kernel) (by decide +kernel)
    (by first | exact .inl (by decide +kernel) | exact .inr (by decide +kernel)) (by rw [isSubtype_type]; kernel_rfl)
theorem entry_fil_iter : entryFor table "filter.__iter__" = some Builtin.«dict_keyiterator.__iter__» :=
  entryFor_alias (id' := "dict_keyiterator.__iter__") (by rw [fastTable_eq_tree]; kernel_rfl) (by decide +kernel) (by decide +kernel) (by rw [fastTable_eq_tree]; kernel_rfl)
theorem args_fil_iter (a : Value) : argsOk "filter.__iter__" ⟨[a], []⟩ := by unfold argsOk; kernel_rfl
theorem fil_self {prog : Program} {w : World} {M : Addr} (A : Around) (s : Shared) (Q : Value → Shared → Prop) (E : Value → Shared → Prop) (hT : s.TypeIs (.ref M) "filter") (h : Q (.ref M) s) : wpAny (model prog w) A (pyIter (.ref M)) Q E s :=
  wpAny_pyIter_slot hT slot_fil_iter (wpAny_call_entry slot_fil_iter hT entry_fil_iter (by
    show wpAny _ _ (Builtin.«dict_keyiterator.__iter__» ⟨[.ref M], []⟩) _ _ s
    exact wpAny_of_eq (a := .done (.ret (.ref M))) (by first | rfl | kernel_rfl) ⟨_, rfl, "filter", _, hT, slot_fil_next.lookup, h⟩) (args_fil_iter _))
theorem fil_body {n : Nat} {M I l b : Addr} {xs : List AV} {p : AV → Bool} (hm : (l, .list xs) ∈ σ)
    (hf : ∀ x ∈ xs, CL G ⟨n, none⟩ (.ref b) [x] σ (fun v σ' => v = .bool (p x) ∧ σ' = σ) NoX) {A : Around} {ρ : Frm} {R : Result → Shared → Prop} (hA : Room ⟨n + 1, none⟩ A) :
    ∀ (ys : List AV) (k : Nat) (oI : Obj) (s : Shared), xs.drop k = ys → oI.cls = .type "list_iterator" → oI.data = .fields #[.ref l, .int (k : Int) 0] → St G ((I, oI) :: (M, filO (.ref b) I) :: ρ) σ s →
      (∀ v rest k' oI' x s', ys.filter p = v :: rest → (xs.drop k').filter p = rest → ab x = v → oI'.cls = .type "list_iterator" → oI'.data = .fields #[.ref l, .int (k' : Int) 0] → St G ((I, oI') :: (M, filO (.ref b) I) :: ρ) σ s' → R (.ok (.ret x)) s') →
      (∀ e s', ys.filter p = [] → s'.TypeIs e "StopIteration" → St G ρ σ s' → R (.error e) s') →
      wpAny (model G.prog G.w) A.in1 (Builtin.«filter.__next__» ⟨[.ref M], []⟩) (fun fin s' => match fin with | .done f => R (.ok f) s' | .again c' => c'.quiet = true ∧ codeAny (model G.prog G.w) A c' R s') (fun e s' => R (.error e) s') s := by
  intro ys
  induction ys with
  | nil =>
    intro k oI s hd hc hdat z hitem hend
    have eM : s.heap.get? M = some (filO (.ref b) I) := z.fr (M, filO (.ref b) I) (by simp)
    have eI : s.heap.IsListIter I l k := ⟨oI, z.fr (I, oI) (by simp), hc, hdat⟩
    obtain ⟨us, m, el, hy⟩ := z.list hm
    have hyn : us[k]? = none := by
      rw [Array.getElem?_eq_none]; rw [size_of hy]
      have := congrArg List.length hd
      rw [List.length_drop] at this; simp at this; walk_at "om"
    unfold Builtin.«filter.__next__»
    refine wpAny_bind (wpAny_of_eq (a := (Value.ref M, [])) (by first | rfl | kernel_rfl) ?_)
    dsimp only
    refine wpAny_bind (wpAny_field eM rfl (x := .ref b) rfl ?_)
    refine wpAny_bind (wpAny_field eM rfl (x := .ref I) rfl ?_)
    refine wpAny_bind (cs_list_end (show A.in1.handled = none from hA.hd) eI el.isList hyn fun e h' he hTe => ?_)
    exact hend e _ rfl hTe (z.loseF he).dropF
  | cons y ys ih =>
    intro k oI s hd hc hdat z hitem hend
    have hk : xs[k]? = some y := by
      have := congrArg (fun l : List AV => l[0]?) hd
      simpa using this
    have hd' : xs.drop (k + 1) = ys := by
      rw [← List.drop_drop, hd]; rfl
    have eM : s.heap.get? M = some (filO (.ref b) I) := z.fr (M, filO (.ref b) I) (by simp)
    have eI : s.heap.IsListIter I l k := ⟨oI, z.fr (I, oI) (by simp), hc, hdat⟩
    obtain ⟨us, m, el, hy⟩ := z.list hm
    have hx' : (us.toList.map ab)[k]? = some y := by rw [hy]; exact hk
    rw [List.getElem?_map] at hx'
    obtain ⟨u, hu, hab⟩ := Option.map_eq_some_iff.mp hx'
    unfold Builtin.«filter.__next__»
    refine wpAny_bind (wpAny_of_eq (a := (Value.ref M, [])) (by first | rfl | kernel_rfl) ?_)
    dsimp only
    refine wpAny_bind (wpAny_field eM rfl (x := .ref b) rfl ?_)
    refine wpAny_bind (wpAny_field eM rfl (x := .ref I) rfl ?_)
    refine wpAny_bind (cs_list_item eI el.isList (x := u) (by simpa using hu) fun h' hit' hs' => ?_)
    dsimp only
    obtain ⟨oI', eI', hc', hdat'⟩ := id hit'
    have z' : St G ((I, oI') :: (M, filO (.ref b) I) :: ρ) σ { s with heap := h' } := z.turnF hs'.extBut eI'
    refine wpAny_bind (wpAny_holding ?_)
    rw [if_neg (by simp)]
    have hcl := hf y (List.mem_of_getElem? hk) (.ref b) [u] rfl (by simp [hab])
    refine wpAny_bind (wpAny_mono (hcl A.in1 _ _ hA.in1 z') (fun r s₃ => pe fun σ₃ hh z₃ => ?_) fun _a _b => pe fun _a q _b => q.elim)
    obtain ⟨hr, hσ⟩ := hh
    subst hσ
    rw [ab_bool hr]
    refine wpAny_holding (wpAny_truthy_bool ?_)
    cases hp : p y with
    | true =>
      rw [if_pos rfl]
      refine wpAny_pure ?_
      have hfil : (y :: ys).filter p = y :: ys.filter p := List.filter_cons_of_pos hp
      exact hitem y (ys.filter p) (k + 1) oI' u s₃ hfil (by rw [hd']) hab hc' hdat' z₃
    | false =>
      rw [if_neg (by decide)]
      refine wpAny_pure ⟨plainId_quiet plain_fil_next _, codeAny_builtin entry_fil_next ?_⟩
      rw [Around.under_plainId plain_fil_next _]
      have hfil : (y :: ys).filter p = ys.filter p := List.filter_cons_of_neg (by rw [hp]; decide)
      exact ih (k + 1) oI' s₃ hd' hc' hdat' z₃ (fun v rest k' oI'' x s' h1 h2 h3 h4 h5 h6 => hitem v rest k' oI'' x s' (by rw [hfil]; exact h1) h2 h3 h4 h5 h6) (fun e s' h1 h2 h3 => hend e s' (by rw [hfil]; exact h1) h2 h3)
noncomputable def FilF (M I l b : Addr) (xs : List AV) (p : AV → Bool) (i : Nat) (ρ : Frm) : Prop := ∃ (oI : Obj) (k : Nat), ρ = [(I, oI), (M, filO (.ref b) I)] ∧ oI.cls = .type "list_iterator" ∧ oI.data = .fields #[.ref l, .int (k : Int) 0] ∧ (xs.drop k).filter p = (xs.filter p).drop i
theorem nx_filter {n : Nat} {M I l b : Addr} {xs : List AV} {p : AV → Bool} (hm : (l, .list xs) ∈ σ)
    (hf : ∀ x ∈ xs, CL G ⟨n, none⟩ (.ref b) [x] σ (fun v σ' => v = .bool (p x) ∧ σ' = σ) NoX) : Nx G ⟨n + 1, none⟩ M "filter" (FilF M I l b xs p) (xs.filter p) σ where
  ty := by
    rintro i ρI ρ s ⟨oI, k, rfl, _⟩ z
    exact ⟨filO (.ref b) I, z.fr (M, filO (.ref b) I) (by simp), rfl⟩
  mem := by
    rintro i ρI ⟨oI, k, rfl, _⟩
    simp
  item := by
    rintro i v hv A ρ ρI s hA ⟨oI, k, rfl, hc, hd, hk⟩ z Q E hQ
    have hT : s.TypeIs (.ref M) "filter" := ⟨filO (.ref b) I, z.fr (M, filO (.ref b) I) (by simp), rfl⟩
    unfold pyNext
    have hdrop : (xs.filter p).drop i = v :: (xs.filter p).drop (i + 1) := by
      obtain ⟨hlt, e⟩ := List.getElem?_eq_some_iff.mp hv
      rw [List.drop_eq_getElem_cons hlt, e]
    refine wpAny_bind (wpAny_attempt (wpAny_callSpecial?_slot (name := PySem.Str.ofString "__next__") hT slot_fil_next
      (wpAny_call (codeAny_mono (codeAny_call_builtin (R := fun r s' => ∃ x, r = .ok (.ret x) ∧ ab x = v ∧ ∃ ρI', FilF M I l b xs p (i + 1) ρI' ∧ St G (ρI' ++ ρ) σ s') slot_fil_next.plain entry_fil_next (slot_fil_next.check _ _ _ _ _ _ _ _ hT (args_fil_next _) ?_)) fun r s' hr => ?_))))
    · refine fil_body (R := fun r s' => ∃ x, r = .ok (.ret x) ∧ ab x = v ∧ ∃ ρI', FilF M I l b xs p (i + 1) ρI' ∧ St G (ρI' ++ ρ) σ s') hm hf hA (xs.drop k) k oI s rfl hc hd z (fun v' rest k' oI' x s' h1 h2 h3 h4 h5 h6 => ?_) (fun e s' h1 _a _b => by rw [hk, hdrop] at h1; cases h1)
      rw [hk, hdrop] at h1
      injection h1 with h1 h1'
      subst h1
      exact ⟨x, rfl, h3, [(I, oI'), (M, filO (.ref b) I)], ⟨oI', k', rfl, h4, h5, by rw [h2, ← h1']⟩, h6⟩
    · obtain ⟨x, rfl, h3, ρI', hF, z'⟩ := hr
      exact wpAny_pure (hQ x ρI' s' h3 hF z')
  done := by
    rintro A ρ ρI s hA ⟨oI, k, rfl, hc, hd, hk⟩ z Q E hQ
    have hT : s.TypeIs (.ref M) "filter" := ⟨filO (.ref b) I, z.fr (M, filO (.ref b) I) (by simp), rfl⟩
    unfold pyNext
    rw [List.drop_length] at hk
    refine wpAny_bind (wpAny_attempt (wpAny_callSpecial?_slot (name := PySem.Str.ofString "__next__") hT slot_fil_next
      (wpAny_call (codeAny_mono (codeAny_call_builtin (R := fun r s' => ∃ e, r = .error e ∧ s'.TypeIs e "StopIteration" ∧ St G ρ σ s') slot_fil_next.plain entry_fil_next (slot_fil_next.check _ _ _ _ _ _ _ _ hT (args_fil_next _) ?_)) fun r s' hr => ?_))))
    · exact fil_body (R := fun r s' => ∃ e, r = .error e ∧ s'.TypeIs e "StopIteration" ∧ St G ρ σ s') hm hf hA (xs.drop k) k oI s rfl hc hd z (fun v' rest k' oI' x s' h1 h2 h3 h4 h5 h6 => by rw [hk] at h1; cases h1) (fun e s' h1 hTe z' => ⟨e, rfl, hTe, z'⟩)
    · obtain ⟨e, rfl, hTe, z'⟩ := hr
      show wpAny _ _ _ _ _ _
      refine wpAny_bind (wpAny_isInstance (T := "StopIteration") (b := true) hTe isSubtype_stop ?_)
      exact wpAny_pure (hQ _ z')
theorem cl_list_filter {n : Nat} {M I l b : Addr} {xs : List AV} {p : AV → Bool} {Q : AV → Sto → Prop} (hm : (l, .list xs) ∈ σ) (hz : xs.length ≤ sizeLine)
    (hf : ∀ x ∈ xs, CL G ⟨n, none⟩ (.ref b) [x] σ (fun v σ' => v = .bool (p x) ∧ σ' = σ) NoX) (h : ∀ r, Q (.ref r) ((r, .list (xs.filter p)) :: σ)) :
    CL G ⟨n + 3, none⟩ (.ty "list") [.ref M] ((M, .raw (filO (.ref b) I)) :: (I, .raw (itO l 0)) :: σ) Q X := fun gv vs hg hvs A ρ s hA z => by
  rw [ab_ty hg]
  obtain ⟨a, rfl, ha⟩ := one hvs
  rw [ab_ref ha]
  have z₁ := z.toF.toF
  have z₂ : St G ([(I, itO l 0), (M, filO (.ref b) I)] ++ ρ) σ s := z₁
  refine call_list_nx (nx_filter (M := M) (I := I) hm hf) (Nat.le_trans (List.length_filter_le _ _) hz) fil_self fil_no_len fil_no_hint (by decide) (by decide) (hA.in1 (n := n + 2)).in1 ⟨itO l 0, 0, rfl, rfl, rfl, rfl⟩ z₂ fun r s' z' => ⟨_, h r, z'⟩
end
end B31Text
section B32Text
theorem SrOk.up {sr : Sr} {xs : List AV} : ∀ {pre τ : Sto}, SrOk sr xs τ → SrOk sr xs (pre ++ τ)
  | [], _, h => h
  | _ :: pre, τ, h => by
    have := SrOk.up (pre := pre) h
    cases sr with
    | lst l => exact List.Mem.tail _ this
    | rng => exact this
section
variable {G : Gd} {κ : Kx} {env : Env} {σ σ' : Sto} {X : XP}
/-- what a comprehension with any place for its names does, by an invariant -/
theorem cr_g {target elt : PySem.Expr} {ifs : List PySem.Expr} {sr : Sr} {xs : List AV} {r : Addr} {K : Sto → Prop} (B : Option AV → Sto)
    (I : List AV → List AV → Sto → Prop)
    (hsr : ∀ ys done τ, I ys done τ → SrOk sr xs τ)
    (hlen : xs.length ≤ sizeLine)
    (step : ∀ o y ys done τ, I (y :: ys) done τ → ASG G κ env target y (B o ++ (r, .list done) :: τ) (fun σ₁ => TSS G κ env ifs σ₁ (fun b σ₂ =>
      if b then EV G κ env elt σ₂ (fun v σ₃ => ∃ (o' : Option AV) (τ' : Sto), Pt (B o' ++ (r, .list done) :: τ') σ₃ ∧ I ys (done ++ [v]) τ') NoX
      else ∃ (o' : Option AV) (τ' : Sto), Pt (B o' ++ (r, .list done) :: τ') σ₂ ∧ I ys done τ') NoX) NoX)
    (fin : ∀ done τ o, I [] done τ → K (B o ++ (r, .list done) :: τ)) :
    ∀ (ys done : List AV) (τ : Sto) (o : Option AV), ys.length + done.length ≤ xs.length → I ys done τ → CR G κ env target ifs (EL G κ env elt r) sr xs K ys (B o ++ (r, .list done) :: τ) := by
  have upB : ∀ (pre : Sto) (done v : List AV) (τ : Sto), Up r (.list done) (.list v) (pre ++ (r, .list done) :: τ) (pre ++ (r, .list v) :: τ) := by
    intro pre done v τ
    induction pre with
    | nil => exact .here
    | cons p pre ih => exact .there ih
  intro ys
  induction ys with
  | nil => exact fun done τ o _a hI => ⟨SrOk.up (SrOk.up (pre := [(r, .list done)]) (hsr _ _ _ hI)), fin _ _ _ hI⟩
  | cons y ys ih =>
    intro done τ o hl hI
    refine ⟨SrOk.up (SrOk.up (pre := [(r, .list done)]) (hsr _ _ _ hI)), fun xv hxv => W.post (step o y ys done τ hI xv hxv) fun _a σ₁ h => ?_⟩
    refine W.part (W.post h fun b σ₂ q => ?_)
    cases b with
    | false =>
      simp only [Bool.false_eq_true, if_false] at q ⊢
      obtain ⟨o', τ', hp, hI'⟩ := q
      exact ⟨_, hp, ih done τ' o' (by simp only [List.length_cons] at hl; walk_at "om") hI'⟩
    | true =>
      simp only [if_true] at q ⊢
      refine ⟨σ₂, .refl, ?_⟩
      unfold EL
      refine W.part (W.post q fun v σ₃ q => ?_)
      obtain ⟨o', τ', hp, hI'⟩ := q
      refine ⟨_, hp, done, _, upB (B o') done (done ++ [v]) τ', by simp only [List.length_cons] at hl; walk_at "om", ih (done ++ [v]) τ' o' (by simp only [List.length_cons, List.length_append, List.length_nil] at hl ⊢; walk_at "om") hI'⟩
theorem ev_lc_g {elt target iter : PySem.Expr} {ifs : List PySem.Expr} {scope : Scope} {pos : Pos} {cl : List (PySem.Str × Addr)} {Q : AV → Sto → Prop} (hκ : hdv κ.hd = none)
    (hclos : closureFor scope env = pure cl) (hkind : scope.kind = .function) (hnames : ∀ x ∈ scope.names, x.2 = .local → scope.names.lookup x.1 = some .local) (hnd : ((lay scope.names).map (·.1)).Nodup)
    (hs : ∀ x, foldedSetIterable iter env x = pure x)
    (B : Addr → Option AV → Sto) (hB : ∀ C σ, layC (C + 1) scope.names ((C, .ns (lay scope.names)) :: σ) = B C none ++ σ) (hend : ∀ C o τ, ∃ m σ₂, Rm C (.ns m) (B C o ++ τ) σ₂ ∧ List.Sublist τ σ₂)
    (h : EV G κ env iter σ (fun a σ₁ => ∃ sr xs, IsSr a sr xs σ₁ ∧ xs.length ≤ sizeLine ∧ ∃ I : List AV → List AV → Sto → Prop, I xs [] σ₁ ∧ (∀ ys done τ, I ys done τ → SrOk sr xs τ) ∧
      (∀ r C o y ys done τ, I (y :: ys) done τ → ASG G κ (compE scope cl C env) target y (B C o ++ (r, .list done) :: τ) (fun σ₁ => TSS G κ (compE scope cl C env) ifs σ₁ (fun b σ₂ =>
        if b then EV G κ (compE scope cl C env) elt σ₂ (fun v σ₃ => ∃ (o' : Option AV) (τ' : Sto), Pt (B C o' ++ (r, .list done) :: τ') σ₃ ∧ I ys (done ++ [v]) τ') NoX
        else ∃ (o' : Option AV) (τ' : Sto), Pt (B C o' ++ (r, .list done) :: τ') σ₂ ∧ I ys done τ') NoX) NoX) ∧
      (∀ r done τ, I [] done τ → Q (.ref r) ((r, .list done) :: τ))) NoX) : EV G κ env (.ListComp elt [⟨target, iter, ifs, 0⟩] scope pos) σ Q X := by
  refine ev_listcomp hκ hclos hkind hnames hnd hs ?_
  unfold LC
  refine W.post h fun a σ₁ hh => ?_
  obtain ⟨sr, xs, hsr, hlen, I, hI, hI2, step, fin⟩ := hh
  refine ⟨sr, xs, hsr, fun r C => ?_⟩
  rw [hB]
  refine cr_g (B C) I hI2 hlen (fun o y ys done τ hI => step r C o y ys done τ hI) (fun done τ o hI => ?_) xs [] σ₁ none (by simp) hI
  obtain ⟨m, σ₂, hr, hsb⟩ := hend C o ((r, .list done) :: τ)
  exact ⟨m, σ₂, _, hr, hsb, fin r done τ hI⟩
-- dicts
/-- what a dict comprehension does with its key and value -/
noncomputable def ED (G : Gd) (κ : Kx) (env : Env) (kx vx : PySem.Expr) (r : Addr) (σ : Sto) (K : Sto → Prop) : Prop :=
  EV G κ env kx σ (fun k σ₁ => ∃ x, k = .str x ∧ EV G κ env vx σ₁ (fun v σ₂ => ∃ es σ₃, Up r (.dict es) (.dict (es ++ [(x, v)])) σ₂ σ₃ ∧ x ∉ es.map (·.1) ∧ es.length ≤ 1000 ∧ K σ₃) NoX) NoX
theorem St.dictOf {ρ : Frm} {s : Shared} {d : Addr} {es : List (PySem.Str × AV)} (z : St G ρ σ s) (hm : (d, .dict es) ∈ σ) : ∃ kvs : List (PySem.Str × Value), s.heap.DictOf (PySem.strKind G.prog G.w) d kvs ∧ kvs.map (fun p => (p.1, ab p.2)) = es := by
  obtain ⟨o, e, hex, ds, ep, hd, hk, kvs, hp, hn, he⟩ := z.at hm
  exact ⟨kvs, ⟨o, ds, ep, e, hex, hd, hk, hp, hn⟩, he⟩
theorem OR.of_dictOf {h : Heap} {d : Addr} {kvs : List (PySem.Str × Value)} {es : List (PySem.Str × AV)} (x : h.DictOf (PySem.strKind G.prog G.w) d kvs) (he : kvs.map (fun p => (p.1, ab p.2)) = es) : ∃ o, h.get? d = some o ∧ OR G o (.dict es) := by
  obtain ⟨o, ds, ep, e, hex, hd, hk, hp, hn⟩ := x
  exact ⟨o, e, hex, ds, ep, hd, hk, kvs, hp, hn, he⟩
theorem stored_new {kvs : List (PySem.Str × Value)} {k : PySem.Str} (h : k ∉ kvs.map (·.1)) (v : Value) : stored kvs k v = kvs ++ [(k, v)] := by
  unfold stored
  rw [if_neg]
  intro ha
  obtain ⟨p, hp, e⟩ := List.any_eq_true.mp ha
  exact h (List.mem_map.mpr ⟨p, hp, by simpa using e⟩)
theorem dict_set {ρ : Frm} {s : Shared} {A : Around} {d : Addr} {es : List (PySem.Str × AV)} {x : PySem.Str} {t : Tok} {v : Value} {Q : Unit → Shared → Prop} {E : Value → Shared → Prop} (z : St G ρ σ s) (u : Up d (.dict es) (.dict (es ++ [(x, ab v)])) σ σ') (hx : x ∉ es.map (·.1)) (hl : es.length ≤ 1000)
    (h : ∀ s', St G ρ σ' s' → Q () s') : wpAny (model G.prog G.w) A (dictSet d (.str x t) v) Q E s := by
  obtain ⟨kvs, hD, he⟩ := z.dictOf u.mem
  have hk : x ∉ kvs.map (·.1) := by
    intro hm
    apply hx
    rw [← he, List.map_map]
    simpa [Function.comp_def] using hm
  have hlen : kvs.length = es.length := by rw [← he]; simp
  refine wpAny_dictSet_pairs (knd := PySem.strKind G.prog G.w) (strKind_is _ _ x t) hD (fun h' hD' hs => ?_) (by rw [sizeLine_eq]; walk_at "om")
  rw [stored_new hk] at hD'
  obtain ⟨o, e, ho⟩ := OR.of_dictOf hD' (es := es ++ [(x, ab v)]) (by rw [List.map_append, he]; rfl)
  exact h _ ((z.turn u hs e ho).toks _)
theorem ed_rest {kx vx : PySem.Expr} {r : Addr} {c : Code} {K : Sto → Prop} {p : Pos} (h : ED G κ env kx vx r σ K) :
    W G κ id ((do let kv ← eval kx env; let vv ← holding [kv] (eval vx env); standAt p; holding [kv, vv] (dictSet r kv vv)) >>= fun _a => again c) σ (fun fin σ' => fin = .again c ∧ K σ') NoX := fun A ρ s hA z => by
  refine wpAny_bind (wpAny_bind (wpAny_mono (h A ρ s hA z) (fun k s₁ => pe fun σ₁ hh z₁ => ?_) fun _a _b x => x))
  obtain ⟨x, hk, q⟩ := hh
  obtain ⟨t, rfl⟩ := ab_str hk
  refine wpAny_bind (wpAny_holding (wpAny_mono (q A ρ s₁ hA z₁) (fun v s₂ => pe fun σ₂ hh z₂ => ?_) fun _a _b x => x))
  obtain ⟨es, σ₃, u, hx, hl, hK⟩ := hh
  refine wpAny_bind (wpAny_standAt (wpAny_holding (dict_set z₂ u hx hl fun s' z' => ?_)))
  exact wpAny_pure ⟨σ₃, ⟨rfl, hK⟩, z'⟩
theorem under_dcomp {kx vx : PySem.Expr} {gens : List Comprehension} {scope : Scope} {pos : Pos} {d : Nat} {it acc : Value} (A : Around) : A.under (.compLoop (.DictComp kx vx gens scope pos) d it acc env) = A := Around.under_of_weight rfl
theorem under_dcompS {kx vx : PySem.Expr} {gens : List Comprehension} {scope : Scope} {pos : Pos} {d : Nat} {it acc : Value} (A : Around) : A.under (.compStart (.DictComp kx vx gens scope pos) d it acc env) = A := Around.under_of_weight rfl
noncomputable def DC (G : Gd) (κ : Kx) (env : Env) (kx vx target iter : PySem.Expr) (ifs : List PySem.Expr) (scope : Scope) (cl : List (PySem.Str × Addr)) (σ : Sto) (P : Addr → Addr → Sto → Prop) : Prop :=
  EV G κ env iter σ (fun a σ₁ => ∃ sr xs, IsSr a sr xs σ₁ ∧ ∀ r C, (r == sysModules) = false →
    CR G κ (compE scope cl C env) target ifs (ED G κ (compE scope cl C env) kx vx r) sr xs (P r C) xs (layC (C + 1) scope.names ((C, .ns (lay scope.names)) :: (r, .dict []) :: σ₁))) NoX
theorem dc_run {kx vx target iter : PySem.Expr} {ifs : List PySem.Expr} {scope : Scope} {pos : Pos} {cl : List (PySem.Str × Addr)} {use : Option (Value → Sem Unit)} {P : Addr → Addr → Sto → Prop} {A : Around} {ρ : Frm} {s : Shared}
    {Q : Value → Shared → Prop} {E : Value → Shared → Prop} (hG : sysModules < G.h₀.objs.size) (hκ : hdv κ.hd = none) (hA : Room κ A) (z : St G ρ σ s)
    (h : DC G κ env kx vx target iter ifs scope cl σ P)
    (hclos : closureFor scope env = pure cl) (hkind : scope.kind = .function) (hnames : ∀ x ∈ scope.names, x.2 = .local → scope.names.lookup x.1 = some .local) (hnd : ((lay scope.names).map (·.1)).Nodup)
    (hs : ∀ x, foldedSetIterable iter env x = pure x)
    (hend : ∀ r C s' σ', P r C σ' → St G ρ σ' s' → compPost (model G.prog G.w) A E use Q (.ref r) C (.ok .next) s') :
    wpAny (model G.prog G.w) A (comprehension (.DictComp kx vx [⟨target, iter, ifs, 0⟩] scope pos) scope env (firstIterPos [⟨target, iter, ifs, 0⟩] pos) newDict false (eval iter env) use) Q E s := by
  refine wpAny_comprehension_free (cl := cl) rfl hs hclos hkind hnames ?_
  refine wpAny_mono (h A ρ s hA z) (fun a s₁ => pe fun σ₁ hh z₁ => ?_) fun _a _b => pe fun _a q _b => q.elim
  obtain ⟨sr, xs, hsr, hcr⟩ := hh
  refine iter_of z₁ hsr fun I o s₂ hi hok z₂ => ?_
  refine wpAny_newObj_type ?_ (by size_fits)
  have hr1 : (s₂.heap.objs.size == sysModules) = false := beq_eq_false_iff_ne.mpr (Nat.ne_of_gt (Nat.lt_of_lt_of_le hG z₂.sz))
  have z₃ := z₂.push { cls := .type "dict", data := .dict #[] } (.dict []) rfl ⟨⟨rfl, rfl, rfl⟩, _, _, rfl, fun e he => absurd he (by simp), [], .nil, List.nodup_nil, rfl⟩
  generalize hr : s₂.heap.objs.size = r at z₃ hr1 ⊢
  have hi₃ : ItO I (s₂.heap.push { cls := .type "dict", data := .dict #[] }) sr xs.length 0 := by
    refine ItO.keeps ?_ hi
    obtain ⟨o', e'⟩ := hi.obj
    rw [e']; exact Heap.get?_push_of_some _ e'
  refine wpAny_mono (w_newEnv (G := G) (κ := κ) (X := NoX) (bs := []) (binds := []) (Q := fun cenv σ' => ∃ C, cenv = newEnv scope C env.globals (cellsFrom (C + 1) scope.names cl) env.qual none .none (some env) builtinsNs ∧
    CR G κ (compE scope cl C env) target ifs (ED G κ (compE scope cl C env) kx vx r) sr xs (P r C) xs σ') rfl hnd (fun C => ⟨C, rfl, hcr r C hr1⟩) A _ _ hA z₃) (fun cenv s₄ => pe fun σ₄ hh z₄ => ?_) fun _a _b => pe fun _a q _b => q.elim
  obtain ⟨C, hce, hcr⟩ := hh
  subst hce
  have hi₄ : ItO I s₄.heap sr xs.length (xs.length - xs.length) := by
    rw [Nat.sub_self]
    exact ItO.keeps ((z₄.fr _ (.head _)).trans (z₃.fr _ (.head _)).symm) hi₃
  show codeAny _ _ (.compStart (.DictComp kx vx [⟨target, iter, ifs, 0⟩] scope pos) 0 (.ref I) (.ref r) (compE scope cl C env)) _ s₄
  refine cs_code (env := compE scope cl C env) (g := ⟨target, iter, ifs, 0⟩) rfl rfl rfl rfl (under_dcompS _) (by simpa using hi₄) rfl ?_
  refine codeAny_mono (cr_code (env := compE scope cl C env) (p := iter.pos) (rest := (do let kv ← eval kx (compE scope cl C env); let vv ← holding [kv] (eval vx (compE scope cl C env)); standAt { kx.pos with endLine := vx.pos.endLine, endCol := vx.pos.endCol }; holding [kv, vv] (dictSet r kv vv)) >>= fun _a => again (.compLoop (.DictComp kx vx [⟨target, iter, ifs, 0⟩] scope pos) 0 (.ref I) (.ref r) (compE scope cl C env)))
    (compTurn_dict ..) (under_dcomp) rfl hκ (fun σ K hR => ed_rest hR) xs σ₄ ⟨[], rfl⟩ hcr A ρ s₄ o hA hi₄ z₄) fun res s₅ hres => ?_
  obtain ⟨rfl, σ₅, hP, z₅⟩ := hres
  exact hend r C s₅ σ₅ hP z₅
/-- what a dict comprehension does, by an invariant -/
theorem cd_g {target kx vx : PySem.Expr} {ifs : List PySem.Expr} {sr : Sr} {xs : List AV} {r : Addr} {K : Sto → Prop} (B : Option AV → Sto)
    (I : List AV → List (PySem.Str × AV) → Sto → Prop)
    (hsr : ∀ ys done τ, I ys done τ → SrOk sr xs τ)
    (hlen : xs.length ≤ 1000)
    (step : ∀ o y ys done τ, I (y :: ys) done τ → ASG G κ env target y (B o ++ (r, .dict done) :: τ) (fun σ₁ => TSS G κ env ifs σ₁ (fun b σ₂ =>
      if b then EV G κ env kx σ₂ (fun k σ₃ => ∃ x, k = .str x ∧ EV G κ env vx σ₃ (fun v σ₄ => ∃ (o' : Option AV) (τ' : Sto), Pt (B o' ++ (r, .dict done) :: τ') σ₄ ∧ x ∉ done.map (·.1) ∧ I ys (done ++ [(x, v)]) τ') NoX) NoX
      else ∃ (o' : Option AV) (τ' : Sto), Pt (B o' ++ (r, .dict done) :: τ') σ₂ ∧ I ys done τ') NoX) NoX)
    (fin : ∀ done τ o, I [] done τ → K (B o ++ (r, .dict done) :: τ)) :
    ∀ (ys : List AV) (done : List (PySem.Str × AV)) (τ : Sto) (o : Option AV), ys.length + done.length ≤ xs.length → I ys done τ → CR G κ env target ifs (ED G κ env kx vx r) sr xs K ys (B o ++ (r, .dict done) :: τ) := by
  have upB : ∀ (pre : Sto) (done v : List (PySem.Str × AV)) (τ : Sto), Up r (.dict done) (.dict v) (pre ++ (r, .dict done) :: τ) (pre ++ (r, .dict v) :: τ) := by
    intro pre done v τ
    induction pre with
    | nil => exact .here
    | cons p pre ih => exact .there ih
  intro ys
  induction ys with
  | nil => exact fun done τ o _a hI => ⟨SrOk.up (SrOk.up (pre := [(r, .dict done)]) (hsr _ _ _ hI)), fin _ _ _ hI⟩
  | cons y ys ih =>
    intro done τ o hl hI
    refine ⟨SrOk.up (SrOk.up (pre := [(r, .dict done)]) (hsr _ _ _ hI)), fun xv hxv => W.post (step o y ys done τ hI xv hxv) fun _a σ₁ h => ?_⟩
    refine W.part (W.post h fun b σ₂ q => ?_)
    cases b with
    | false =>
      simp only [Bool.false_eq_true, if_false] at q ⊢
      obtain ⟨o', τ', hp, hI'⟩ := q
      exact ⟨_, hp, ih done τ' o' (by simp only [List.length_cons] at hl; walk_at "om") hI'⟩
    | true =>
      simp only [if_true] at q ⊢
      refine ⟨σ₂, .refl, ?_⟩
      unfold ED
      refine W.post q fun k σ₃ hh => ?_
      obtain ⟨x, hk, q⟩ := hh
      refine ⟨x, hk, ?_⟩
      refine W.part (W.post q fun v σ₄ q => ?_)
      obtain ⟨o', τ', hp, hx, hI'⟩ := q
      refine ⟨_, hp, done, _, upB (B o') done (done ++ [(x, v)]) τ', hx, by simp only [List.length_cons] at hl; walk_at "om", ih (done ++ [(x, v)]) τ' o' (by simp only [List.length_cons, List.length_append, List.length_nil] at hl ⊢; walk_at "om") hI'⟩
/-- the invariant's form of a dict comprehension; what stands at the end goes to J -/
noncomputable def DG (G : Gd) (κ : Kx) (env : Env) (kx vx target iter : PySem.Expr) (ifs : List PySem.Expr) (scope : Scope) (cl : List (PySem.Str × Addr)) (σ : Sto) (B : Addr → Option AV → Sto) (J : AV → Sto → Prop) : Prop :=
  EV G κ env iter σ (fun a σ₁ => ∃ sr xs, IsSr a sr xs σ₁ ∧ xs.length ≤ 1000 ∧ ∃ I : List AV → List (PySem.Str × AV) → Sto → Prop, I xs [] σ₁ ∧ (∀ ys done τ, I ys done τ → SrOk sr xs τ) ∧
      (∀ r C o y ys done τ, I (y :: ys) done τ → ASG G κ (compE scope cl C env) target y (B C o ++ (r, .dict done) :: τ) (fun σ₁ => TSS G κ (compE scope cl C env) ifs σ₁ (fun b σ₂ =>
        if b then EV G κ (compE scope cl C env) kx σ₂ (fun k σ₃ => ∃ x, k = .str x ∧ EV G κ (compE scope cl C env) vx σ₃ (fun v σ₄ => ∃ (o' : Option AV) (τ' : Sto), Pt (B C o' ++ (r, .dict done) :: τ') σ₄ ∧ x ∉ done.map (·.1) ∧ I ys (done ++ [(x, v)]) τ') NoX) NoX
        else ∃ (o' : Option AV) (τ' : Sto), Pt (B C o' ++ (r, .dict done) :: τ') σ₂ ∧ I ys done τ') NoX) NoX) ∧
      (∀ r done τ, (r == sysModules) = false → I [] done τ → J (.ref r) ((r, .dict done) :: τ))) NoX
theorem dg_dc {kx vx target iter : PySem.Expr} {ifs : List PySem.Expr} {scope : Scope} {cl : List (PySem.Str × Addr)} {B : Addr → Option AV → Sto} {J : AV → Sto → Prop} {P : Addr → Addr → Sto → Prop}
    (hB : ∀ C σ, layC (C + 1) scope.names ((C, .ns (lay scope.names)) :: σ) = B C none ++ σ)
    (hP : ∀ r C o σ, J (.ref r) σ → P r C (B C o ++ σ))
    (h : DG G κ env kx vx target iter ifs scope cl σ B J) : DC G κ env kx vx target iter ifs scope cl σ P := by
  unfold DG at h
  unfold DC
  refine W.post h fun a σ₁ hh => ?_
  obtain ⟨sr, xs, hsr, hlen, I, hI, hI2, step, fin⟩ := hh
  refine ⟨sr, xs, hsr, fun r C hr => ?_⟩
  rw [hB]
  exact cd_g (B C) I hI2 hlen (fun o y ys done τ hI => step r C o y ys done τ hI) (fun done τ o hI => hP r C o _ (fin r done τ hr hI)) xs [] σ₁ none (by simp) hI
theorem ev_dc_g (hG : sysModules < G.h₀.objs.size) {kx vx target iter : PySem.Expr} {ifs : List PySem.Expr} {scope : Scope} {pos : Pos} {cl : List (PySem.Str × Addr)} {Q : AV → Sto → Prop} (hκ : hdv κ.hd = none)
    (hclos : closureFor scope env = pure cl) (hkind : scope.kind = .function) (hnames : ∀ x ∈ scope.names, x.2 = .local → scope.names.lookup x.1 = some .local) (hnd : ((lay scope.names).map (·.1)).Nodup)
    (hs : ∀ x, foldedSetIterable iter env x = pure x)
    (B : Addr → Option AV → Sto) (hB : ∀ C σ, layC (C + 1) scope.names ((C, .ns (lay scope.names)) :: σ) = B C none ++ σ) (hend : ∀ C o τ, ∃ m σ₂, Rm C (.ns m) (B C o ++ τ) σ₂ ∧ List.Sublist τ σ₂)
    (h : DG G κ env kx vx target iter ifs scope cl σ B Q) : EV G κ env (.DictComp kx vx [⟨target, iter, ifs, 0⟩] scope pos) σ Q X := fun A ρ s hA z => by
  have hd : DC G κ env kx vx target iter ifs scope cl σ (fun r C => CEnd C (Q (.ref r))) := dg_dc hB (fun r C o σ hJ => by
    obtain ⟨m, σ₂, hr, hsb⟩ := hend C o σ
    exact ⟨m, σ₂, _, hr, hsb, hJ⟩) h
  rw [arm_eval_DictComp]
  refine dc_run (use := none) hG hκ hA z hd hclos hkind hnames hnd hs fun r C s' σ' hP z' => ?_
  obtain ⟨m, hn, hq⟩ := CEnd.to hP z'
  exact ⟨m, hn, fun h' hsb => let ⟨σ₃, q, z₃⟩ := hq h' hsb; ⟨σ₃, q, z₃⟩⟩
theorem evalThenUse_dict (kx vx target iter : PySem.Expr) (ifs : List PySem.Expr) (scope : Scope) (pos : Pos) (env : Env) (use : Value → Sem Unit) : evalThenUse (.DictComp kx vx [⟨target, iter, ifs, 0⟩] scope pos) env use =
    (comprehension (.DictComp kx vx [⟨target, iter, ifs, 0⟩] scope pos) scope env (firstIterPos [⟨target, iter, ifs, 0⟩] pos) newDict false (eval iter env) (some use) >>= fun _a => pure ()) := rfl
theorem ex_assign_dictcomp (hG : sysModules < G.h₀.objs.size) {kx vx target iter : PySem.Expr} {ifs : List PySem.Expr} {scope : Scope} {pos p spos : Pos} {x : PySem.Str} {cl : List (PySem.Str × Addr)} {Q : AF → Sto → Prop} (hκ : hdv κ.hd = none)
    (hclos : closureFor scope env = pure cl) (hkind : scope.kind = .function) (hnames : ∀ x ∈ scope.names, x.2 = .local → scope.names.lookup x.1 = some .local) (hnd : ((lay scope.names).map (·.1)).Nodup)
    (hs : ∀ x, foldedSetIterable iter env x = pure x)
    (hsw : swapsWithSole [.Name x p] (.DictComp kx vx [⟨target, iter, ifs, 0⟩] scope pos) spos.line env = pure true)
    (B : Addr → Option AV → Sto) (hB : ∀ C σ, layC (C + 1) scope.names ((C, .ns (lay scope.names)) :: σ) = B C none ++ σ)
    (h : DG G κ env kx vx target iter ifs scope cl σ B (fun a σ' => ∀ C o, SN G κ env x a (B C o ++ σ') (CEnd C (Q .next)) NoX)) : EX G κ env (.Assign [.Name x p] (.DictComp kx vx [⟨target, iter, ifs, 0⟩] scope pos) spos) σ Q X := fun A ρ s hA z => by
  have hd : DC G κ env kx vx target iter ifs scope cl σ (fun r C σ' => SN G κ env x (.ref r) σ' (CEnd C (Q .next)) NoX) := dg_dc hB (fun r C o σ hJ => hJ C o) h
  rw [exec_Assign]
  refine wpAny_bind (wpAny_standAt ?_)
  rw [hsw]
  refine wpAny_bind (wpAny_pure ?_)
  rw [if_pos rfl]
  refine wpAny_bind ?_
  rw [evalThenUse_dict]
  refine wpAny_bind (dc_run (use := some _) hG hκ hA z hd hclos hkind hnames hnd hs fun r C s' σ' hP z' => ?_)
  show wpAny _ _ (assign (.Name x p) env (.ref r)) _ _ s'
  refine PyProof.Rows.assign_Name (wpAny_mono (hP _ rfl A ρ s' hA z') (fun _a s'' => pe fun σ'' q z'' => ?_) fun _a _b => pe fun _a q _b => q.elim)
  obtain ⟨m, hn, hq⟩ := q.to z''
  refine ⟨m, hn, fun h' hsb => ?_⟩
  obtain ⟨σ₃, q, z₃⟩ := hq h' hsb
  exact wpAny_pure (wpAny_pure ⟨σ₃, q, z₃⟩)
/-- likewise for a list comprehension with any place for its names, assigned to a name -/
theorem ex_assign_lc_g {elt target iter : PySem.Expr} {ifs : List PySem.Expr} {scope : Scope} {pos p spos : Pos} {x : PySem.Str} {cl : List (PySem.Str × Addr)} {Q : AF → Sto → Prop} (hκ : hdv κ.hd = none)
    (hclos : closureFor scope env = pure cl) (hkind : scope.kind = .function) (hnames : ∀ x ∈ scope.names, x.2 = .local → scope.names.lookup x.1 = some .local) (hnd : ((lay scope.names).map (·.1)).Nodup)
    (hs : ∀ x, foldedSetIterable iter env x = pure x)
    (hsw : swapsWithSole [.Name x p] (.ListComp elt [⟨target, iter, ifs, 0⟩] scope pos) spos.line env = pure true)
    (B : Addr → Option AV → Sto) (hB : ∀ C σ, layC (C + 1) scope.names ((C, .ns (lay scope.names)) :: σ) = B C none ++ σ)
    (h : EV G κ env iter σ (fun a σ₁ => ∃ sr xs, IsSr a sr xs σ₁ ∧ xs.length ≤ sizeLine ∧ ∃ I : List AV → List AV → Sto → Prop, I xs [] σ₁ ∧ (∀ ys done τ, I ys done τ → SrOk sr xs τ) ∧
      (∀ r C o y ys done τ, I (y :: ys) done τ → ASG G κ (compE scope cl C env) target y (B C o ++ (r, .list done) :: τ) (fun σ₁ => TSS G κ (compE scope cl C env) ifs σ₁ (fun b σ₂ =>
        if b then EV G κ (compE scope cl C env) elt σ₂ (fun v σ₃ => ∃ (o' : Option AV) (τ' : Sto), Pt (B C o' ++ (r, .list done) :: τ') σ₃ ∧ I ys (done ++ [v]) τ') NoX
        else ∃ (o' : Option AV) (τ' : Sto), Pt (B C o' ++ (r, .list done) :: τ') σ₂ ∧ I ys done τ') NoX) NoX) ∧
      (∀ r done τ, I [] done τ → ∀ C o, SN G κ env x (.ref r) (B C o ++ (r, .list done) :: τ) (CEnd C (Q .next)) NoX)) NoX) :
    EX G κ env (.Assign [.Name x p] (.ListComp elt [⟨target, iter, ifs, 0⟩] scope pos) spos) σ Q X := by
  refine ex_assign_listcomp hκ hclos hkind hnames hnd hs hsw ?_
  unfold LC
  refine W.post h fun a σ₁ hh => ?_
  obtain ⟨sr, xs, hsr, hlen, I, hI, hI2, step, fin⟩ := hh
  refine ⟨sr, xs, hsr, fun r C => ?_⟩
  rw [hB]
  exact cr_g (B C) I hI2 hlen (fun o y ys done τ hI => step r C o y ys done τ hI) (fun done τ o hI => fin r done τ hI C o) xs [] σ₁ none (by simp) hI
end
end B32Text
section B33Text
theorem old_agree {h₀ h h' : Heap} (K : OldK h₀ h) (ha : ∀ b o, h₀.get? b = some o → h'.get? b = h.get? b) : OldK h₀ h' := by
  refine ⟨fun b o e => ?_, fun b o e => let ⟨o', ho'⟩ := K.there b o e; ⟨o', (ha b o e).trans ho'⟩⟩
  rcases K.old b o e with x | ⟨t, hc, vs, more, hv, x⟩ | ⟨rfl, hc, ⟨o', es, n, ho', r⟩, z⟩
  · exact .inl ((ha b o e).trans x)
  · exact .inr (.inl ⟨t, hc, vs, more, hv, (ha b o e).trans x⟩)
  · exact .inr (.inr ⟨rfl, hc, ⟨o', es, n, (ha _ o e).trans ho', r⟩, fun key => by rw [OldK.staticOf_congr (ha _ o e) key]; exact z key⟩)
theorem sto_uniq {a : Addr} {x y : AO} : ∀ {σ : Sto}, (σ.map (·.1)).Nodup → (a, x) ∈ σ → (a, y) ∈ σ → x = y
  | p :: σ, nd, h1, h2 => by
    simp only [List.map_cons, List.nodup_cons] at nd
    rcases List.mem_cons.mp h1 with e1 | h1 <;> rcases List.mem_cons.mp h2 with e2 | h2
    · rw [← e1] at e2; exact (Prod.mk.inj e2).2.symm
    · exact absurd (List.mem_map.mpr ⟨_, h2, rfl⟩) (by rw [← e1] at nd; exact nd.1)
    · exact absurd (List.mem_map.mpr ⟨_, h1, rfl⟩) (by rw [← e2] at nd; exact nd.1)
    · exact sto_uniq nd.2 h1 h2
section
variable {G : Gd} {κ : Kx} {env : Env} {σ τ : Sto} {X : XP}
theorem St.slots {ρ : Frm} {s : Shared} {S : List Addr} {h' : Heap} (z : St G ρ σ s) (hs : Heap.SlotsOnly S s.heap h') (hS : ∀ b ∈ S, ∃ m, (b, AO.ns m) ∈ σ) : St G ρ σ { s with heap := h' } where
  old := old_agree z.old fun b o e => hs.2.1 b fun hb => by
    obtain ⟨m, hm⟩ := hS b hb
    rw [z.own b (List.mem_append_right _ (List.mem_map.mpr ⟨_, hm, rfl⟩))] at e; cases e
  gens := z.gens
  os := z.os
  fr := fun p hp => (hs.2.1 p.1 fun hb => by
    obtain ⟨m, hm⟩ := hS _ hb
    exact (List.nodup_append.mp z.nd).2.2 p.1 (List.mem_map.mpr ⟨_, hp, rfl⟩) p.1 (List.mem_map.mpr ⟨_, hm, rfl⟩) rfl).trans (z.fr p hp)
  ob := fun p hp => by
    obtain ⟨o, e, r⟩ := z.ob p hp
    by_cases hb : p.1 ∈ S
    · obtain ⟨m, hm⟩ := hS _ hb
      obtain ⟨a, x⟩ := p
      cases sto_uniq (List.nodup_append.mp z.nd).2.1 hp hm
      obtain ⟨sl, e'⟩ := hs.2.2 _ _ e
      exact ⟨_, e', r⟩
    · exact ⟨o, (hs.2.1 _ hb).trans e, r⟩
  own := z.own
  nd := z.nd
/-- the record of an exception: its traceback and its context -/
noncomputable def ExO (t c : Value) (o : Obj) : Prop := o.cls = .type "IndexError" ∧ ∃ vs, o.data = .fields vs ∧ vs[1]? = some t ∧ vs[2]? = some c
noncomputable def TB (fl : Value) (o : Obj) : Prop := ∃ ts, o.data = .fields ts ∧ ts[3]? = some fl
/-- the frames lie in the state -/
noncomputable def FrOk (l : List Env) (τ : Sto) : Prop := ∀ e ∈ l, e.scope.kind ≠ .module ∧ ∃ L m, e.frame = some L ∧ (L, AO.ns m) ∈ τ
theorem FrOk.fun {l : List Env} {ρ : Frm} {s : Shared} (z : St G ρ σ s) (h : FrOk l σ) : s.heap.FunFrames { objs := #[] } l := by
  induction l with
  | nil => trivial
  | cons e l ih =>
    obtain ⟨hk, L, m, hf, hm⟩ := h e (.head _)
    obtain ⟨o, ho, _, es, ep, hd, _⟩ := z.at hm
    exact ⟨hk, ⟨L, o, hf, Heap.get?_none_of_le (Nat.zero_le _), ho, fun vs q => by rw [hd] at q; cases q⟩, ih fun e he => h e (.tail _ he)⟩
theorem FrOk.S {l : List Env} (h : FrOk l σ) : ∀ b ∈ l.filterMap (·.frame), ∃ m, (b, AO.ns m) ∈ σ := fun b hb => by
  obtain ⟨e, he, hf⟩ := List.mem_filterMap.mp hb
  obtain ⟨_, L, m, hf', hm⟩ := h e he
  rw [hf'] at hf; cases hf
  exact ⟨m, hm⟩
theorem FrOk.up {l : List Env} (h : FrOk l τ) (hs : List.Sublist τ σ) : FrOk l σ := fun e he => let ⟨hk, L, m, hf, hm⟩ := h e he; ⟨hk, L, m, hf, hs.subset hm⟩
theorem note_fresh {A : Around} {ρ : Frm} {s : Shared} {outer : List Env} {L e : Addr} {c : Value} {Q : Unit → Shared → Prop} {E : Value → Shared → Prop} (hfr : A.frames = some (env :: outer)) (hf : env.frame = some L) (hl : FrOk (env :: outer) τ)
    (z : St G ρ ((e, .any (ExO .none c)) :: τ) s) (h : ∀ T s', St G ρ ((e, .any (ExO (.ref T) c)) :: (T, .any (TB (rawInt L))) :: τ) s' → Q () s') : wpAny (model G.prog G.w) A (noteFrame (.ref e) env) Q E s := by
  obtain ⟨oe, he, hcls, vs, hd, h1, h2⟩ := z.at (.head _)
  have hsz : 1 < vs.size := (Array.getElem?_eq_some_iff.mp h1).1
  have hl' : FrOk (env :: outer) ((e, .any (ExO .none c)) :: τ) := hl.up (List.sublist_cons_self _ _)
  unfold noteFrame
  simp only [hf]
  refine wpAny_bind (wpAny_field he hd h1 ?_)
  rw [if_neg (by decide)]
  refine wpAny_bind (wpAny_frameOf_fun hfr (hl'.fun z) hf fun h₁ hs₁ => ?_)
  have z₁ := z.slots hs₁ hl'.S
  refine wpAny_bind (wpAny_entryPlaceOf fun pl hpl => ?_)
  unfold EntryCells.newEntry newFields
  refine wpAny_bind (wpAny_newObj_type ?_ (hpl.sizeOk5 _ _ _ _ _))
  have z₂ := z₁.push { cls := .type "traceback", dict := none, data := .fields ([Value.none, .ref L, .none, rawInt L, .none] ++ (if pl.isEmpty then List.replicate 6 Value.none else pl)).toArray } (.any (TB (rawInt L))) rfl
    ⟨_, rfl, by first | (simp; done) | (rcases hpl with rfl | ⟨_, _, _, _, _, _, _, rfl⟩ <;> simp)⟩
  dsimp only at z₂ ⊢
  generalize hT : h₁.objs.size = T at z₂ ⊢
  obtain ⟨oe', he', hcls', vs', hd', h1', h2'⟩ := z₂.at (.tail _ (.head _))
  refine wpAny_setField he' hd' (Array.getElem?_eq_some_iff.mp h1').1 (h T _ ?_)
  have hd₃ := Obj.data_mapFields hd' (·.setIfInBounds 1 (Value.ref T))
  refine (z₂.turn (o' := .any (ExO (.ref T) c)) (.there .here) (.update ..) (Heap.get?_update_self _ he' (Obj.isFreed_of_fields hd₃)) ⟨(Obj.cls_mapFields _ _).trans hcls', _, hd₃, by simp [(Array.getElem?_eq_some_iff.mp h1').1], ?_⟩).perm (List.Perm.swap _ _ _)
  rw [Array.getElem?_setIfInBounds_ne (by decide)]; exact h2'
theorem note_again {A : Around} {ρ : Frm} {s : Shared} {L e T : Addr} {c : Value} {Q : Unit → Shared → Prop} {E : Value → Shared → Prop} (hf : env.frame = some L)
    (z : St G ρ ((e, .any (ExO (.ref T) c)) :: (T, .any (TB (rawInt L))) :: τ) s) (h : Q () s) : wpAny (model G.prog G.w) A (noteFrame (.ref e) env) Q E s := by
  obtain ⟨oe, he, hcls, vs, hd, h1, h2⟩ := z.at (.head _)
  obtain ⟨ot, ht, ts, hdt, h3⟩ := z.at (.tail _ (.head _))
  exact wpAny_noteFrame_inFlight hf he hd h1 ht hdt h3 h
theorem set_flight {A : Around} {ρ : Frm} {s : Shared} {e T : Addr} {c fl : Value} {f : Option Addr} {Q : Unit → Shared → Prop} {E : Value → Shared → Prop}
    (z : St G ρ ((e, .any (ExO (.ref T) c)) :: (T, .any (TB fl)) :: τ) s) (h : ∀ s', St G ρ ((e, .any (ExO (.ref T) c)) :: (T, .any (TB (f.elim .none fun f => rawInt f))) :: τ) s' → Q () s') : wpAny (model G.prog G.w) A (setFlight (.ref e) f) Q E s := by
  obtain ⟨oe, he, hcls, vs, hd, h1, h2⟩ := z.at (.head _)
  obtain ⟨ot, ht, ts, hdt, h3⟩ := z.at (.tail _ (.head _))
  have hsz := (Array.getElem?_eq_some_iff.mp h3).1
  unfold setFlight
  refine wpAny_bind (wpAny_field he hd h1 ?_)
  rw [if_pos (show (Value.ref T != Value.none) = true from by simp)]
  refine wpAny_setField ht hdt hsz (h _ ?_)
  have hd₃ := Obj.data_mapFields hdt (·.setIfInBounds 3 (f.elim Value.none fun f => rawInt f))
  exact z.turn (.there .here) (.update ..) (Heap.get?_update_self _ ht (Obj.isFreed_of_fields hd₃)) ⟨_, hd₃, by simp [hsz]⟩
/-- an exception that is still to be noted, or was; c is its context -/
inductive XFr (c : Value) (J : Sto → Prop) (a : AV) (σ : Sto) : Prop
  | mk (e : Addr) (τ : Sto) (he : a = .ref e) (hσ : σ = (e, .any (ExO .none c)) :: τ) (j : J τ)
inductive XNo (fl : Value) (c : Value) (J : Sto → Prop) (a : AV) (σ : Sto) : Prop
  | mk (e T : Addr) (τ : Sto) (he : a = .ref e) (hσ : σ = (e, .any (ExO (.ref T) c)) :: (T, .any (TB fl)) :: τ) (j : J τ)
noncomputable def XAny (fl : Value) (c : Value) (J : Sto → Prop) : XP := fun a σ => XFr c J a σ ∨ XNo fl c J a σ
theorem note_any {A : Around} {ρ : Frm} {s : Shared} {outer : List Env} {L : Addr} {c : Value} {J : Sto → Prop} {e : Value} {E : Value → Shared → Prop} (hfr : A.frames = some (env :: outer)) (hf : env.frame = some L) (hJ : ∀ τ, J τ → FrOk (env :: outer) τ)
    (hx : XAny (rawInt L) c J (ab e) σ) (z : St G ρ σ s) : wpAny (model G.prog G.w) A (noteFrame e env) (fun _a s' => Po G ρ ab (XNo (rawInt L) c J) e s') E s := by
  rcases hx with ⟨a, τ, he, rfl, j⟩ | ⟨a, T, τ, he, rfl, j⟩
  · rw [ab_ref he]
    exact note_fresh hfr hf (hJ _ j) z fun T s' z' => ⟨_, ⟨a, T, τ, rfl, rfl, j⟩, z'⟩
  · rw [ab_ref he]
    exact note_again hf z ⟨_, ⟨a, T, τ, rfl, rfl, j⟩, z⟩
theorem back_no {A : Around} {ρ : Frm} {s : Shared} {L : Addr} {c fl : Value} {J : Sto → Prop} {e : Value} {E : Value → Shared → Prop} (hf : env.frame = some L)
    (hx : XNo fl c J (ab e) σ) (z : St G ρ σ s) (h : ∀ σ' s', XNo (rawInt L) c J (ab e) σ' → St G ρ σ' s' → E e s') : cameBackBy (model G.prog G.w) A env E e s := by
  obtain ⟨a, T, τ, he, rfl, j⟩ := hx
  cases ab_ref he
  unfold cameBackBy
  obtain ⟨oe, ho, hcls, vs, hd, h1, h2⟩ := z.at (.head _)
  refine wpAny_bind (wpAny_field ho hd h1 ?_)
  rw [if_neg (by simp)]
  rw [hf]
  exact set_flight z fun s' z' => h _ s' ⟨a, T, τ, rfl, rfl, j⟩ z'
theorem entry_unchain : entryFor table "proto.unchain" = some Builtin.«proto.unchain» := entryFor_of_tree (by kernel_rfl)
/-- the context that a new exception gets -/
noncomputable def HdC (κ : Kx) (c : Value) (σ : Sto) : Prop := (hdv κ.hd = none ∧ c = .none) ∨ ∃ e₀ T, hdv κ.hd = some (.ref e₀) ∧ c = .ref e₀ ∧ (e₀, .any (ExO T .none)) ∈ σ
theorem ex_mem {e : Addr} {t c : Value} (hm : (e, .any (ExO t c)) ∈ σ) {ρ : Frm} {s : Shared} (z : St G ρ σ s) : ∃ o vs, s.heap.get? e = some o ∧ o.cls = .type "IndexError" ∧ o.data = .fields vs ∧ vs[1]? = some t ∧ vs[2]? = some c := by
  obtain ⟨oe, he, hcls, vs, hd, h1, h2⟩ := z.at hm
  exact ⟨oe, vs, he, hcls, hd, h1, h2⟩
theorem raise_ix {α : Type} {A : Around} {ρ : Frm} {s : Shared} {msg : String} {c : Value} {Q : α → Shared → Prop} {E : Value → Shared → Prop} (hA : A.handled = hdv κ.hd) (z : St G ρ σ s) (hc : HdC κ c σ)
    (h : ∀ e s', St G ρ ((e, .any (ExO .none c)) :: σ) s' → E (.ref e) s') : wpAny (model G.prog G.w) A (raiseErrorWords "IndexError" msg : Sem α) Q E s := by
  unfold raiseErrorWords
  refine wpAny_bind (wpAny_mkText (wpAny_bind ?_))
  have hp := plainExc_IndexError
  unfold newExc newTuple
  refine wpAny_bind (wpAny_newObj_type ?_)
  refine wpAny_bind (m := firstArgMember _ _) (wpAny_of_eq (a := Value.none) (by simp only [firstArgMember, hp.first]; rfl) ?_)
  rw [hp.own]
  refine wpAny_newObj_type ?_
  have z₁ := (z.toks (s.toks + 1)).push { cls := .type "tuple", data := .seq [Value.str (Str.ofString msg) s.toks].toArray } (.any fun _a => True) rfl trivial
  have z₂ := z₁.push { cls := .type "IndexError", data := .fields (#[Value.ref s.heap.objs.size, Value.none, Value.none, Value.none, Value.bool false, Value.none] ++ #[]) } (.any (ExO .none .none)) rfl ⟨rfl, _, rfl, rfl, rfl⟩
  have z₃ := z₂.sub (σ' := (_, .any (ExO .none .none)) :: σ) (.cons₂ _ (.cons _ (.refl _)))
  have hne : ∀ p ∈ σ, p.1 ≠ (s.heap.push { cls := .type "tuple", data := .seq [Value.str (Str.ofString msg) s.toks].toArray }).objs.size := fun p hp q => by
    obtain ⟨o, ho, _⟩ := z₁.ob p (.tail _ hp)
    rw [q] at ho
    exact Nat.lt_irrefl _ (Heap.lt_size ho)
  dsimp only at z₃ ⊢
  generalize hr : (s.heap.push { cls := .type "tuple", data := .seq [Value.str (Str.ofString msg) s.toks].toArray }).objs.size = r at z₃ hne ⊢
  unfold raiseNew
  refine wpAny_bind (wpAny_handled ?_)
  rw [hA]
  rcases hc with ⟨hh, rfl⟩ | ⟨e₀, T, hh, rfl, hm⟩ <;> rw [hh]
  · first
      | refine wpAny_throw ?_
      | refine wpAny_bind (wpAny_pure (wpAny_throw ?_))
    exact h _ _ z₃
  · have hn : e₀ ≠ r := hne _ hm
    show wpAny _ A (if ((Value.ref e₀ != Value.ref r) = true) then _ else _) Q E _
    rw [if_pos (by simp [hn])]
    obtain ⟨oe, vs, he, hcls, hd, h1, h2⟩ := ex_mem (.tail _ hm) z₃
    refine wpAny_bind (wpAny_holding (wpAny_runValue (codeAny_builtin entry_unchain ?_)))
    show wpAny _ _ (field (.ref e₀) 2 >>= _) _ _ _
    refine wpAny_bind (wpAny_field he hd h2 ?_)
    rw [if_pos (by rfl)]
    refine wpAny_bind (wpAny_pure (wpAny_pure ?_))
    obtain ⟨oe', he', hcls', vs', hd', h1', h2'⟩ := z₃.at (.head _)
    have hsz := (Array.getElem?_eq_some_iff.mp h2').1
    show wpAny _ A ((load r >>= fun o => match o.data with | .fields vs => if 2 < vs.size then update r (Obj.mapFields (·.setIfInBounds 2 (.ref e₀))) else unsupported "internal:no-such-field" | _ => unsupported "internal:write-to-non-record") >>= _) Q E _
    refine wpAny_bind (wpAny_bind (wpAny_load he' ?_))
    rw [hd']
    dsimp only
    rw [if_pos hsz]
    have hd₃ := Obj.data_mapFields hd' (·.setIfInBounds 2 (Value.ref e₀))
    have z₄ := z₃.turn (o' := .any (ExO .none (.ref e₀))) .here (.update ..) (Heap.get?_update_self _ he' (Obj.isFreed_of_fields hd₃)) ⟨(Obj.cls_mapFields _ _).trans hcls', _, hd₃, by rw [Array.getElem?_setIfInBounds_ne (by decide)]; exact h1', by simp [hsz]⟩
    refine wpAny_update he' (wpAny_throw ?_)
    exact h _ _ z₄
end
end B33Text
section B34Text
section
variable {G : Gd} {κ : Kx} {env : Env} {σ τ : Sto} {X : XP}
theorem getItem_out {A : Around} {ρ : Frm} {s : Shared} {l : Addr} {xs : List AV} {k : Int} {t : Tok} {c : Value} {Q : Value → Shared → Prop} {E : Value → Shared → Prop} (hA : Room κ A) (z : St G ρ σ s) (hm : (l, .list xs) ∈ σ) (hc : HdC κ c σ)
    (hk : (xs.length : Int) ≤ k) (hz : k ≤ sizeLine) (h : ∀ e s', St G ρ ((e, .any (ExO .none c)) :: σ) s' → E (.ref e) s') : wpAny (model G.prog G.w) A (getItem (.ref l) (.int k t)) Q E s := by
  obtain ⟨items, n, e, hm'⟩ := z.list hm
  have hl := e.isList
  obtain ⟨o, ho, hcl, ne, hd⟩ := id hl
  rw [← size_of hm'] at hk
  rw [sizeLine_eq] at hz
  unfold getItem
  try with_reducible refine wpAny_holding ?_
  first | refine wpAny_bind (wpAny_pure ?_) | skip
  refine wpAny_bind (wpAny_sequenceKey hl.typeIs (by decide) ?_)
  refine wpAny_bind (wpAny_callSpecial?_slot (name := Str.ofString "__getitem__") hl.typeIs slot_list_getitem
    (wpAny_call_entry slot_list_getitem hl.typeIs entry_list_getitem ?_ (args_list_getitem _ _)))
  show wpAny _ _ (Builtin.List.listSubscript? (.int k t) >>= _) _ _ s
  refine wpAny_bind (wpAny_listSubscript_int (fitsIndex_both (by walk_at "om") (by walk_at "om")) ?_)
  obtain ⟨j, rfl⟩ := Int.eq_ofNat_of_zero_le (show 0 ≤ k by walk_at "om")
  have hx : items[j]? = none := Array.getElem?_eq_none (by walk_at "om")
  show wpAny _ _ ((seqItemAt l j >>= fun r => pure (r.map (j, ·))) >>= _) _ _ s
  refine wpAny_bind (wpAny_bind (wpAny_seqItemAt ho hd (wpAny_pure ?_)))
  rw [hx]
  have rr : ∀ {α : Type} {A' : Around} {msg : String} {Q' : α → Shared → Prop}, A'.handled = A.handled → wpAny (model G.prog G.w) A' (raiseErrorWords "IndexError" msg : Sem α) Q' E s := fun hh => raise_ix (hh.trans hA.hd) z hc h
  first
    | exact wpAny_bind (wpAny_rule (rr rfl))
    | exact wpAny_bind (wpAny_rule (wpAny_bind (rr rfl)))
    | exact wpAny_bind (wpAny_bind (wpAny_rule (rr rfl)))
    | exact wpAny_rule (rr rfl)
theorem sub_list_out {value slice : PySem.Expr} {l : Addr} {xs : List AV} {k : Int} {c : Value} {Q : AV → Sto → Prop} (hs : NoSl slice) (hm : (l, .list xs) ∈ σ) (hk : (xs.length : Int) ≤ k) (hz : k ≤ sizeLine) (hc : HdC κ c σ)
    (h : ∀ e, X (.ref e) ((e, .any (ExO .none c)) :: σ)) : SUB G κ value slice (.ref l) (.int k) σ Q X := fun x y hx' hy A ρ s hA z => by
  rw [ab_ref hx']
  obtain ⟨t, rfl⟩ := ab_int hy
  obtain ⟨ys, n, e, hm'⟩ := z.list hm
  exact tail_any' (ops := [.ref l, .int k t]) e.isList.typeIs slot_list_getitem.lookup (getItem_out hA z hm hc hk hz fun e s' z' => ⟨_, h e, z'⟩) (subscripted_of hs)
/-- noting turns X to Y -/
noncomputable def Notes (G : Gd) (κ : Kx) (env : Env) (X Y : XP) : Prop := ∀ A ρ s σ e, Room κ A → X (ab e) σ → St G ρ σ s → ∀ E, wpAny (model G.prog G.w) A (noteFrame e env) (fun _a s' => Po G ρ ab Y e s') E s
noncomputable def Backs (G : Gd) (κ : Kx) (env : Env) (Y : XP) : Prop := ∀ A ρ s σ e, Room κ A → Y (ab e) σ → St G ρ σ s → cameBackBy (model G.prog G.w) A env (Po G ρ ab Y) e s
theorem wh_turnX {test : PySem.Expr} {body orelse : List Stmt} {Q : AF → Sto → Prop} {Y : XP} (ok : Notes G κ env X Y)
    (h : TS G κ env test σ (fun b σ₁ => if b then EXS G κ env body σ₁ (fun f σ₂ => match f with
        | .next => WH G κ env test body orelse σ₂ Q Y
        | .cont => WH G κ env test body orelse σ₂ Q Y
        | .brk => Q .next σ₂
        | .ret v => Q (.ret v) σ₂) X
      else EXS G κ env orelse σ₁ Q X) X) : WH G κ env test body orelse σ Q Y := fun A ρ s hA z => by
  refine codeAny_of_tree ?_
  rw [under_while]
  show wpAny _ A ((whileTurn test body orelse env).onRaise (fun x => do noteFrame x env; theTreesLotGoes x)) _ _ s
  refine wpAny_noted ?_
  have nt : ∀ e s', (Po G ρ ab X e s') → notedBy (model G.prog G.w) A env (Po G ρ ab Y) e s' := fun e s' => pe fun σ' q z => ok A ρ s' σ' e hA q z _
  simp only [whileTurn]
  refine wpAny_bind (wpAny_mono (h A ρ s hA z) (fun b s₂ h₂ => ?_) nt)
  obtain ⟨σ₁, q, z₁⟩ := h₂
  cases b with
  | false =>
    simp only [id, Bool.false_eq_true, if_false] at q ⊢
    exact wpAny_bind (wpAny_mono (q A ρ _ hA z₁) (fun f s₃ h₃ => wpAny_pure h₃) nt)
  | true =>
    simp only [id, if_true] at q ⊢
    refine wpAny_bind (wpAny_mono (q A ρ _ hA z₁) (fun f s₃ h₃ => ?_) nt)
    obtain ⟨σ₂, q, z₂⟩ := h₃
    cases f with
    | next => exact wpAny_pure ⟨rfl, q A ρ _ hA z₂⟩
    | cont => exact wpAny_pure ⟨rfl, q A ρ _ hA z₂⟩
    | brk => exact wpAny_pure ⟨σ₂, q, z₂⟩
    | ret v => exact wpAny_pure ⟨σ₂, q, z₂⟩
theorem ex_whileX {test : PySem.Expr} {body orelse : List Stmt} {pos : Pos} {Q : AF → Sto → Prop} {Y : XP} (ok : Backs G κ env Y) (h : WH G κ env test body orelse σ Q Y) : EX G κ env (.While test body orelse pos) σ Q Y := fun A ρ s hA z =>
  wpAny_While (codeAny_mono (h A ρ s hA z) fun r s' hr => by
    cases r with
    | ok f => exact hr
    | error e => obtain ⟨σ₁, q, z⟩ := hr; exact ok A ρ _ σ₁ e hA q z)
section
variable {n : Nat} {hh : Option Value} {outer : List Env} {L : Addr} {J : Sto → Prop}
theorem notes_any {c : Value} (hf : env.frame = some L) (hJ : ∀ τ, J τ → FrOk (env :: outer) τ) : Notes G ⟨n, some ⟨hh, env :: outer⟩⟩ env (XAny (rawInt L) c J) (XNo (rawInt L) c J) :=
  fun _a _b _c _d _e hA hx z _f => note_any (hA.fr _ rfl) hf hJ hx z
theorem backs_no {c fl : Value} (hf : env.frame = some L) : Backs G ⟨n, some ⟨hh, env :: outer⟩⟩ env (XNo (rawInt L) c J) :=
  fun _a _b _c _d _e _f hx z => back_no hf hx z fun σ' _a hx z => ⟨σ', hx, z⟩
theorem Room.mark {l : List Env} {A : Around} (hA : Room ⟨n, some ⟨hh, l⟩⟩ A) (e : Value) : Room ⟨n, some ⟨some e, l⟩⟩ (A.mark (some e)) :=
  ⟨rfl, hA.depth, hA.units, fun x hx => by cases hx; exact hA.fr ⟨hh, l⟩ rfl⟩
/-- any context -/
noncomputable def XE (fl : Value) (J : Sto → Prop) : XP := fun a σ => ∃ c, XAny fl c J a σ
theorem ex_try {body suite : List Stmt} {t : PySem.Expr} {b₀ : Stmt} {pos p : Pos} {Q : AF → Sto → Prop} (hf : env.frame = some L) (hJ : ∀ τ, J τ → FrOk (env :: outer) τ)
    (hev : ∀ e σ', EV G ⟨n, some ⟨some (.ref e), env :: outer⟩⟩ env t σ' (fun v σ'' => v = .ty "IndexError" ∧ σ'' = σ') NoX)
    (hbody : EXS G ⟨n, some ⟨none, env :: outer⟩⟩ env body σ Q (XE (rawInt L) J))
    (hsuite : ∀ e T c τ, J τ → EXS G ⟨n, some ⟨some (.ref e), env :: outer⟩⟩ env (b₀ :: suite) ((e, .any (ExO (.ref T) c)) :: (T, .any (TB .none)) :: τ) Q NoX) :
    EX G ⟨n, some ⟨none, env :: outer⟩⟩ env (.Try body [.ExceptHandler (some t) none (b₀ :: suite) p] [] [] pos) σ Q X := fun A ρ s hA z => by
  refine wpAny_Try_except (wpAny_mono (hbody A ρ s hA z) (fun f s₁ h₁ => ?_) fun e s₁ h₁ => ?_)
  · cases f with
    | next => exact wpAny_execs_nil h₁
    | _ => exact h₁
  · obtain ⟨σ₁, ⟨c, hx⟩, z₁⟩ := h₁
    refine wpAny_mono (note_any (hA.fr _ rfl) hf hJ hx z₁) (fun _a s₂ => pe fun σ₂ hh z₂ => ?_) fun _a _b x => x
    obtain ⟨a, T, τ, he, hσ, j⟩ := hh
    subst hσ
    cases ab_ref he
    refine set_flight z₂ fun s₃ z₃ => ?_
    refine wpAny_handleBy_builtin (X := "IndexError") (T := "IndexError") (b := true) (by rfl) (by rfl) (by rfl) (wpAny_mono (hev a _ _ ρ s₃ (hA.mark _) z₃) (fun v s₄ => pe fun σ₄ hh z₄ => ?_) fun _a _b => pe fun _a x _b => x.elim)
    obtain ⟨hv, hσ⟩ := hh
    subst hσ
    cases ab_ty hv
    obtain ⟨oe, ho, hcls, _⟩ := z₄.at (.head _)
    refine ⟨rfl, ⟨oe, ho, hcls⟩, ?_⟩
    rw [if_pos rfl]
    refine set_flight z₄ fun s₅ z₅ => ?_
    exact wpAny_mono (hsuite a T c τ j _ ρ s₅ (hA.mark _) z₅) (fun f s₆ h => h) fun _a _b => pe fun _a x _b => x.elim
theorem pass_on {A : Around} {ρ : Frm} {s : Shared} {e T : Addr} {c fl : Value} {Q : Flow → Shared → Prop} {E : Value → Shared → Prop} {what : String} (hf : env.frame = some L)
    (z : St G ρ ((e, .any (ExO (.ref T) c)) :: (T, .any (TB fl)) :: τ) s) (h : ∀ s', St G ρ ((e, .any (ExO (.ref T) c)) :: (T, .any (TB (rawInt L))) :: τ) s' → E (.ref e) s') : wpAny (model G.prog G.w) A (PySem.passOn what (.ref e) env : Sem Flow) Q E s := by
  obtain ⟨oe, ho, hcls, vs, hd, h1, h2⟩ := z.at (.head _)
  unfold PySem.passOn
  refine wpAny_bind (wpAny_field ho hd h1 ?_)
  rw [if_neg (by simp)]
  rw [hf]
  exact wpAny_bind (set_flight z fun s' z' => wpAny_throw (h s' z'))
theorem ex_try_fin {body fin : List Stmt} {f₀ : Stmt} {pos : Pos} {Q : AF → Sto → Prop} (hf : env.frame = some L) (hJ : ∀ τ, J τ → FrOk (env :: outer) τ) {J₁ : Sto → Prop} (hJ₁ : ∀ τ, J₁ τ → FrOk (env :: outer) τ)
    (hbody : EXS G ⟨n, some ⟨none, env :: outer⟩⟩ env body σ (fun f σ₁ => f = .next ∧ EXS G ⟨n, some ⟨none, env :: outer⟩⟩ env (f₀ :: fin) σ₁ (fun g σ₂ => g = .next ∧ Q .next σ₂) (XAny (rawInt L) .none J)) (XAny (rawInt L) .none J₁))
    (hfin : ∀ e T τ, J₁ τ → EXS G ⟨n, some ⟨some (.ref e), env :: outer⟩⟩ env (f₀ :: fin) ((e, .any (ExO (.ref T) .none)) :: (T, .any (TB .none)) :: τ)
      (fun g σ₂ => g = .next ∧ ∃ τ', σ₂ = (e, .any (ExO (.ref T) .none)) :: (T, .any (TB .none)) :: τ' ∧ J τ') (XAny (rawInt L) (.ref e) J)) :
    EX G ⟨n, some ⟨none, env :: outer⟩⟩ env (.Try body [] [] (f₀ :: fin) pos) σ Q (XE (rawInt L) J) := fun A ρ s hA z => by
  have hfr : A.frames = some (env :: outer) := hA.fr _ rfl
  have leave : ∀ (A' : Around) (c : Value) (e : Value) (s' : Shared), A'.frames = some (env :: outer) → (Po G ρ ab (XAny (rawInt L) c J) e s') →
      notedBy (model G.prog G.w) A' env (cameBackBy (model G.prog G.w) A env (Po G ρ ab (XE (rawInt L) J))) e s' := fun A' c e s' hA' => pe fun σ' hx z' => by
    refine wpAny_mono (note_any (E := fun _a _b => False) hA' hf hJ hx z') (fun _a s₂ => pe fun σ₂ hx z₂ => ?_) fun _a _b x => x.elim
    exact back_no hf hx z₂ fun σ₃ s₃ hx z₃ => ⟨σ₃, ⟨c, .inr hx⟩, z₃⟩
  refine wpAny_Try_finally (wpAny_mono (hbody A ρ s hA z) (fun f s₁ h₁ => ?_) fun e s₁ h₁ => ?_)
  · obtain ⟨σ₁, ⟨hn, hq⟩, z₁⟩ := h₁
    cases f with
    | next =>
      refine wpAny_execs_nil ?_
      refine wpAny_mono (hq A ρ s₁ hA z₁) (fun g s₂ => pe fun σ₂ hh z₂ => ?_) fun e s₂ h₂ => leave A .none e s₂ hfr h₂
      obtain ⟨hg, q⟩ := hh
      cases g with
      | next => exact ⟨σ₂, q, z₂⟩
      | _ => exact absurd hg (by simp [abF])
    | _ => exact absurd hn (by simp [abF])
  · obtain ⟨σ₁, hx, z₁⟩ := h₁
    refine wpAny_mono (note_any (E := fun _a _b => False) hfr hf hJ₁ hx z₁) (fun _a s₂ => pe fun σ₂ hh z₂ => ?_) fun _a _b x => x.elim
    obtain ⟨a, T, τ, he, hσ, j⟩ := hh
    subst hσ
    cases ab_ref he
    refine ⟨ref_ne_byPass a, note_again hf z₂ ?_⟩
    refine set_flight z₂ fun s₃ z₃ => ?_
    refine wpAny_mono (hfin a T τ j _ ρ s₃ (hA.mark _) z₃) (fun g s₄ => pe fun σ₄ hh z₄ => ?_) fun e s₄ h₄ => leave _ _ e s₄ hfr h₄
    obtain ⟨hg, τ', hσ, j'⟩ := hh
    subst hσ
    cases g with
    | next => exact pass_on hf z₄ fun s₅ z₅ => ⟨_, ⟨.none, .inr ⟨a, T, τ', rfl, rfl, j'⟩⟩, z₅⟩
    | _ => exact absurd hg (by simp [abF])
end
theorem W.partX {α β : Type} {f : α → β} {t : Sem α} {Q : β → Sto → Prop} (h : W G κ f t σ Q (fun a σ₁ => ∃ τ : Sto, Pt τ σ₁ ∧ X a τ)) : W G κ f t σ Q X := fun A ρ s hA z =>
  wpAny_mono (h A ρ s hA z) (fun _a _b x => x) fun _ _ ⟨_, ⟨τ, hs, q⟩, y⟩ => ⟨τ, q, y.pt hs⟩
end
end B34Text
section B35Text
section
variable {G : Gd} {κ : Kx} {env : Env} {σ σ' τ : Sto} {X : XP}
theorem ex_assign_2 {x y : PySem.Str} {p p' pos : Pos} {value : PySem.Expr} {Q : AF → Sto → Prop} (h : EV G κ env value σ (fun a σ₁ => SN G κ env x a σ₁ (fun σ₂ => SN G κ env y a σ₂ (fun σ₃ => Q .next σ₃) X) X) X)
    (hs : swapsWithSole [.Name x p, .Name y p'] value pos.line env = pure false) (hw : swappedStores [.Name x p, .Name y p'] value env = pure none) : EX G κ env (.Assign [.Name x p, .Name y p'] value pos) σ Q X := fun A ρ s hA z => by
  rw [exec_Assign]
  refine wpAny_bind (wpAny_standAt ?_)
  rw [hs]
  refine wpAny_bind (wpAny_pure ?_)
  rw [if_neg (by decide)]
  refine wpAny_bind (wpAny_mono (h A ρ s hA z) (fun v s₁ => pe fun σ₁ q z₁ => ?_) fun _a _b x => x)
  rw [hw]
  refine wpAny_bind (wpAny_pure ?_)
  show wpAny _ A ((holding [v] (assign (.Name x p) env v) >>= fun _a => assign (.Name y p') env v) >>= fun _a => pure Flow.next) _ _ s₁
  refine wpAny_bind (wpAny_bind (wpAny_holding (PyProof.Rows.assign_Name (wpAny_mono (q v rfl A ρ s₁ hA z₁) (fun _a s₂ => pe fun σ₂ q z₂ => ?_) fun _a _b x => x))))
  exact PyProof.Rows.assign_Name (wpAny_mono (q v rfl A ρ s₂ hA z₂) (fun _a s₃ => pe fun σ₃ q z₃ => wpAny_pure ⟨σ₃, q, z₃⟩) fun _a _b x => x)
/-- the order of texts -/
noncomputable def ltS (x y : PySem.Str) : Bool := decide (x.cps.toList < y.cps.toList)
theorem op_lt_str {u v : PySem.Str} {Q : AV → Sto → Prop} (h : Q (.bool (ltS u v)) σ) : OP2 G κ (compareOp .Lt) (.str u) (.str v) σ Q X := fun x y hx hy A ρ s hA z => by
  obtain ⟨t, rfl⟩ := ab_str hx; obtain ⟨w, rfl⟩ := ab_str hy
  exact P.lt_str ⟨σ, h, z⟩
theorem op_gt_str {u v : PySem.Str} {Q : AV → Sto → Prop} (h : Q (.bool (ltS v u)) σ) : OP2 G κ (compareOp .Gt) (.str u) (.str v) σ Q X := fun x y hx hy A ρ s hA z => by
  obtain ⟨t, rfl⟩ := ab_str hx; obtain ⟨w, rfl⟩ := ab_str hy
  exact P.gt_str ⟨σ, h, z⟩
theorem CL.hd {n : Nat} {f : AV} {args : List AV} {Q : AV → Sto → Prop} {l : List Env} (h : CL G ⟨n, none⟩ f args σ Q X) : CL G ⟨n, some ⟨none, l⟩⟩ f args σ Q X := fun g vs hg hvs A ρ s hA z =>
  h g vs hg hvs A ρ s ⟨hA.hd, hA.depth, hA.units, fun _a hx => by cases hx⟩ z
end
/-- what sorted_list_difference makes -/
noncomputable def sldF : List PySem.Str → List PySem.Str → List PySem.Str × List PySem.Str
  | [], bs => ([], bs)
  | a :: as, [] => (a :: as, [])
  | a :: as, b :: bs => if ltS a b then (a :: (sldF as (b :: bs)).1, (sldF as (b :: bs)).2) else if ltS b a then ((sldF (a :: as) bs).1, b :: (sldF (a :: as) bs).2) else sldF as bs
termination_by as bs => as.length + bs.length
theorem sldF_len : ∀ (as bs : List PySem.Str), (sldF as bs).1.length ≤ as.length ∧ (sldF as bs).2.length ≤ bs.length := by
  intro as bs
  fun_induction sldF as bs <;> simp_all <;> walk_at "om"
theorem drop_cons {α : Type} {l l' : List α} {i : Nat} {x : α} (h : l.drop i = x :: l') : l[i]? = some x ∧ l.drop (i + 1) = l' ∧ i < l.length := by
  refine ⟨?_, ?_, ?_⟩
  · rw [← List.head?_drop, h]; rfl
  · rw [← List.tail_drop, h]; rfl
  · apply Classical.byContradiction
    intro hn
    rw [List.drop_eq_nil_of_le (by walk_at "om")] at h; cases h
/-- no two neighbours alike -/
noncomputable def Apart (l : List PySem.Str) : Prop := ∀ i x y, l[i]? = some x → l[i + 1]? = some y → (y == x) = false
section
variable {G : Gd} {κ : Kx} {env : Env} {σ σ' τ : Sto} {X : XP}
theorem wh_ind {test : PySem.Expr} {body orelse : List Stmt} {Q : AF → Sto → Prop} (I : Nat → Sto → Prop) (ok : XOk G κ env X)
    (step : ∀ N σ, I N σ → TS G κ env test σ (fun b σ₁ => if b then EXS G κ env body σ₁ (fun f σ₂ => ∃ τ : Sto, Pt τ σ₂ ∧ match f with
        | .next => ∃ M, M < N ∧ I M τ
        | .cont => ∃ M, M < N ∧ I M τ
        | .brk => Q .next τ
        | .ret v => Q (.ret v) τ) X
      else EXS G κ env orelse σ₁ Q X) X) : ∀ N σ, I N σ → WH G κ env test body orelse σ Q X := by
  intro N
  induction N using Nat.strongRecOn with
  | _ N ih =>
    intro σ hI
    refine wh_turn ok (W.post (step N σ hI) fun b σ₁ h => ?_)
    cases b with
    | false => exact h
    | true =>
      simp only [if_true] at h ⊢
      refine W.part (W.post h fun f σ₂ ⟨τ, p, q⟩ => ?_)
      cases f with
      | next => obtain ⟨M, hM, hI'⟩ := q; exact ⟨τ, p, ih M hM τ hI'⟩
      | cont => obtain ⟨M, hM, hI'⟩ := q; exact ⟨τ, p, ih M hM τ hI'⟩
      | brk => exact ⟨τ, p, q⟩
      | ret v => exact ⟨τ, p, q⟩
end
end B35Text
section B36Text
inductive Atom : AV → Prop
  | none : Atom .none
  | bool {b} : Atom (.bool b)
  | int {i} : Atom (.int i)
  | str {s} : Atom (.str s)
/-- the same data, to the depth n -/
inductive Sm (σ : Sto) : Nat → AV → AV → Prop
  | at {n : Nat} {a : AV} : Atom a → Sm σ n a a
  | list {n : Nat} {l b : Addr} {xs ys : List AV} : (l, .list xs) ∈ σ → (b, .list ys) ∈ σ → xs.length = ys.length → (∀ (i : Nat) (x y : AV), xs[i]? = some x → ys[i]? = some y → Sm σ n x y) → Sm σ (n + 1) (.ref l) (.ref b)
theorem value_nd {k : PySem.Str} {w : Value} : ∀ {kvs : List (PySem.Str × Value)}, (kvs.map (·.1)).Nodup → ∀ {j : Nat}, kvs[j]? = some (k, w) → valueAt kvs k = some w
  | [], _, j, h => by simp at h
  | p :: kvs, nd, 0, h => by
    simp at h
    subst h
    simp [valueAt]
  | p :: kvs, nd, j + 1, h => by
    simp only [List.map_cons, List.nodup_cons] at nd
    have hm : (k, w) ∈ kvs := List.mem_of_getElem? (by simpa using h)
    have hne : ¬ p.1 = k := fun e => nd.1 (by rw [e]; exact List.mem_map.mpr ⟨_, hm, rfl⟩)
    have := value_nd nd.2 (j := j) (by simpa using h)
    simpa [valueAt, hne] using this
section
variable {G : Gd} {κ : Kx} {env : Env} {σ σ' τ : Sto} {X : XP}
open SeqAt in
theorem Atom.eqAt {a : AV} (h : Atom a) {A : Around} {s : Shared} {v w : Value} (hv : ab v = a) (hw : ab w = a) : SeqAt.EqAt A s v w true := by
  cases h with
  | none => rw [ab_none hv, ab_none hw]; exact EqAt.same _
  | @bool b => rw [ab_bool hv, ab_bool hw]; exact EqAt.same _
  | @int i => obtain ⟨t, rfl⟩ := ab_int hv; obtain ⟨u, rfl⟩ := ab_int hw; have := EqAt.int_int (A := A) (s := s) i t i u; simpa using this
  | @str x => obtain ⟨t, rfl⟩ := ab_str hv; obtain ⟨u, rfl⟩ := ab_str hw; have := EqAt.str_str (A := A) (s := s) x t x u; simpa using this
theorem all_true (n : Nat) : (List.range n).all (fun _a => true) = true := by simp
open SeqAt in
theorem lists_true {A : Around} {s : Shared} {ρ : Frm} {l b : Addr} {xs ys : List AV} {P : AV → AV → Prop} (z : St G ρ σ s) (hl : (l, .list xs) ∈ σ) (hb : (b, .list ys) ∈ σ) (hlen : xs.length = ys.length) (hu : A.units < cLine)
    (hP : ∀ (i : Nat) (x y : AV), xs[i]? = some x → ys[i]? = some y → P x y) (he : ∀ x y v w, P x y → ab v = x → ab w = y → EqAt A.in1 s v w true) : RcAt A s (.ref l) (.ref b) true ∧ RcNeAt A s (.ref l) (.ref b) false := by
  obtain ⟨us, n, e, h1⟩ := z.list hl
  obtain ⟨ws, m, e', h2⟩ := z.list hb
  have n1 := size_of h1
  have n2 := size_of h2
  have hE : ∀ j (h1 : j < us.size) (h2 : j < ws.size), EqAt A.in1 s us[j] ws[j] ((fun _a => true) j) := fun j j1 j2 => by
    refine he (ab us[j]) (ab ws[j]) _ _ (hP j _ _ ?_ ?_) rfl rfl
    · rw [← h1]; simp [j1]
    · rw [← h2]; simp [j2]
  have r1 := RcAt.lists e.isList e'.isList (by walk_at "om") hu hE
  have r2 := RcNeAt.lists e.isList e'.isList (by walk_at "om") hu hE
  rw [all_true] at r1 r2
  exact ⟨r1, r2⟩
open SeqAt in
theorem Sm.eqAt {s : Shared} {ρ : Frm} (z : St G ρ σ s) : ∀ {n : Nat} {a b : AV}, Sm σ n a b → ∀ {A : Around} {v w : Value}, ab v = a → ab w = b → A.units + n < cLine → EqAt A s v w true
  | _, _, _, .at h, _, _, _, hv, hw, _ => h.eqAt hv hw
  | _, _, _, .list (l := l) (b := b) hl hb hlen hP, A, v, w, hv, hw, hu => by
    rw [ab_ref hv, ab_ref hw]
    by_cases hne : l = b
    · rw [hne]; exact EqAt.same _
    exact EqAt.of_refs hne (lists_true z hl hb hlen (by walk_at "om") hP fun x y v w h hv hw => h.eqAt z hv hw (by show A.units + 1 + _ < _; walk_at "om")).1
theorem Room.units20 {A : Around} (h : Room κ A) (hn : 0 < κ.n) : A.units + 20 < cLine := by have := h.units; walk_at "om"
theorem op_ne_list {l b : Addr} {xs ys : List AV} {n : Nat} {Q : AV → Sto → Prop} (hκ : 0 < κ.n) (hn : n < 15) (hl : (l, .list xs) ∈ σ) (hb : (b, .list ys) ∈ σ) (hlen : xs.length = ys.length) (hP : ∀ (i : Nat) (x y : AV), xs[i]? = some x → ys[i]? = some y → Sm σ n x y)
    (h : Q (.bool false) σ) : OP2 G κ (compareOp .NotEq) (.ref l) (.ref b) σ Q X := fun x y hx hy A ρ s hA z => by
  rw [ab_ref hx, ab_ref hy]
  have hu := hA.units20 hκ
  exact (lists_true z hl hb hlen (by walk_at "om") hP fun x y v w h hv hw => h.eqAt z hv hw (by show A.units + 1 + _ < _; walk_at "om")).2 _ _ _ _ ⟨σ, h, z⟩
theorem op_eq_tup2 {l b : Addr} {x₁ x₂ y₁ y₂ : AV} {n : Nat} {Q : AV → Sto → Prop} (hκ : 0 < κ.n) (hn : n < 15) (hl : (l, .tup [x₁, x₂]) ∈ σ) (hb : (b, .tup [y₁, y₂]) ∈ σ) (h1 : Sm σ n x₁ y₁) (h2 : Sm σ n x₂ y₂)
    (h : Q (.bool true) σ) : OP2 G κ (compareOp .Eq) (.ref l) (.ref b) σ Q X := fun x y hx hy A ρ s hA z => by
  rw [ab_ref hx, ab_ref hy]
  have hu := hA.units20 hκ
  obtain ⟨us, n1, e, m1⟩ := z.tup hl
  obtain ⟨ws, n2, e', m2⟩ := z.tup hb
  have s1 := size_of m1
  have s2 := size_of m2
  have hE : ∀ j (h1 : j < us.size) (h2 : j < ws.size), SeqAt.EqAt A.in1 s us[j] ws[j] ((fun _a => true) j) := fun j j1 j2 => by
    have g1 : (us.toList.map ab)[j]? = some (ab us[j]) := by simp [j1]
    have g2 : (ws.toList.map ab)[j]? = some (ab ws[j]) := by simp [j2]
    rw [m1] at g1
    rw [m2] at g2
    have hj : j < 2 := by simpa [s1] using j1
    rcases j with _ | _ | j
    · exact h1.eqAt z (by simpa using g1.symm) (by simpa using g2.symm) (by show A.units + 1 + _ < _; walk_at "om")
    · exact h2.eqAt z (by simpa using g1.symm) (by simpa using g2.symm) (by show A.units + 1 + _ < _; walk_at "om")
    · walk_at "om"
  have r := SeqAt.RcAt.tuples ⟨_, e, rfl, _, rfl⟩ ⟨_, e', rfl, _, rfl⟩ (by walk_at "om") hE
  rw [all_true, s1, s2] at r
  exact r _ _ _ _ ⟨σ, h, z⟩
/-- two dicts of the same data under the same keys in the same order -/
theorem op_ne_dict {l b : Addr} {xs ys : List (PySem.Str × AV)} {n : Nat} {Q : AV → Sto → Prop} (hκ : 0 < κ.n) (hn : n < 15) (h1 : (l == sysModules) = false) (h2 : (b == sysModules) = false) (hl : (l, .dict xs) ∈ σ) (hb : (b, .dict ys) ∈ σ)
    (hk : xs.map (·.1) = ys.map (·.1)) (hP : ∀ (i : Nat) (k : PySem.Str) (x y : AV), xs[i]? = some (k, x) → ys[i]? = some (k, y) → Sm σ n x y)
    (h : Q (.bool false) σ) : OP2 G κ (compareOp .NotEq) (.ref l) (.ref b) σ Q X := fun x y hx hy A ρ s hA z => by
  rw [ab_ref hx, ab_ref hy]
  have hu := hA.units20 hκ
  obtain ⟨ka, da, ea⟩ := z.dictOf hl
  obtain ⟨kb, db, eb⟩ := z.dictOf hb
  have hkk : ka.map (·.1) = kb.map (·.1) := by
    have e1 : xs.map (·.1) = ka.map (·.1) := by rw [← ea]; simp [Function.comp_def]
    have e2 : ys.map (·.1) = kb.map (·.1) := by rw [← eb]; simp [Function.comp_def]
    rw [← e1, ← e2, hk]
  have hlen : ka.length = kb.length := by simpa using congrArg List.length hkk
  refine keq_ne (r := true) h1 h2 da db (by walk_at "om") (fun _a => ?_) (by rw [hlen]; exact ⟨σ, by simpa [ab] using h, z⟩)
  have hnd : (kb.map (·.1)).Nodup := by obtain ⟨_, _, _, _, _, _, _, _, hn⟩ := db; exact hn
  have hit : ∀ i k v w, ka[i]? = some (k, v) → kb[i]? = some (k, w) → SeqAt.EqAt A.in1 s v w true := fun i k v w e1 e2 => by
    refine (hP i k (ab v) (ab w) ?_ ?_).eqAt z rfl rfl (by show A.units + 1 + _ < _; walk_at "om")
    · rw [← ea, List.getElem?_map, e1]; rfl
    · rw [← eb, List.getElem?_map, e2]; rfl
  have go : ∀ (r : List (PySem.Str × Value)) (j : Nat), ka.drop j = r → KeqHits A.in1 s kb r true := by
    intro r
    induction r with
    | nil => exact fun _a _b => .nil
    | cons p r ih =>
      intro j hj
      obtain ⟨g1, g2, g3⟩ := drop_cons hj
      obtain ⟨k, v⟩ := p
      have g4 : (kb.map (·.1))[j]? = some k := by rw [← hkk, List.getElem?_map, g1]; rfl
      rw [List.getElem?_map] at g4
      cases hq : kb[j]? with
      | none => rw [hq] at g4; cases g4
      | some q =>
        obtain ⟨k', w⟩ := q
        rw [hq] at g4
        have hkq : k' = k := by simpa using g4
        subst hkq
        have hv : valueAt kb k' = some w := value_nd hnd hq
        have := KeqHits.hit (e := true) hv (hit j k' v w g1 hq) (ih (j + 1) g2)
        simpa using this
  exact go ka 0 rfl
end
end B36Text
section B37Text
/-- what an enumeration's iterator is -/
noncomputable def LIt (l : Addr) (i : Nat) (o : Obj) : Prop := o.cls = .type "list_iterator" ∧ o.data = .fields #[.ref l, .int i 0]
noncomputable def enO (it : Addr) (i : Int) (old : Value) : Obj := { cls := .type "enumerate", dict := none, data := .fields #[.none, .bool false, .ref it, rawInt i, .none, old], slots := #[] }
section
variable {G : Gd} {κ : Kx} {env : Env} {σ σ' τ : Sto} {X : XP}
theorem strsAre_of : ∀ {us : List Value} {xs : List PySem.Str}, us.map ab = sts xs → StrsAre us xs
  | [], [], _ => .nil
  | u :: us, x :: xs, h => by
    simp only [sts, List.map_cons, List.cons.injEq] at h
    obtain ⟨t, rfl⟩ := ab_str h.1
    exact .cons x t (strsAre_of h.2)
  | [], x :: xs, h => by simp [sts] at h
  | u :: us, [], h => by simp [sts] at h
theorem strsAre_ab : ∀ {us : List Value} {xs : List PySem.Str}, StrsAre us xs → us.map ab = sts xs := by
  intro us xs h
  induction h with
  | nil => rfl
  | cons x t _ ih => exact congrArg (AV.str x :: ·) ih
/-- a new object beside the old ones -/
theorem St.newAt {ρ : Frm} {s : Shared} {h' : Heap} {a : Addr} {o : Obj} {ao : AO} (z : St G ρ σ s) (hk : ∀ b o, s.heap.get? b = some o → h'.get? b = some o) (ha : s.heap.objs.size ≤ a) (he : h'.get? a = some o) (hr : OR G o ao) : St G ρ ((a, ao) :: σ) { s with heap := h' } := by
  refine (z.grown hk).notice2 he hr (Heap.get?_none_of_le (Nat.le_trans z.sz ha)) fun hm => ?_
  rcases List.mem_append.mp hm with x | x
  · obtain ⟨p, hp, e⟩ := List.mem_map.mp x
    have := Heap.lt_size (z.fr p hp)
    rw [show p.1 = a from e] at this
    exact Nat.lt_irrefl _ (Nat.lt_of_lt_of_le this ha)
  · obtain ⟨p, hp, e⟩ := List.mem_map.mp x
    obtain ⟨o', e', _⟩ := z.ob p hp
    have := Heap.lt_size e'
    rw [show p.1 = a from e] at this
    exact Nat.lt_irrefl _ (Nat.lt_of_lt_of_le this ha)
theorem cl_sorted {l : Addr} {xs : List PySem.Str} {Q : AV → Sto → Prop} (hl : (l, .list (sts xs)) ∈ σ) (hz : xs.length < 64) (h : ∀ r ss, ss.Perm xs → sortedS ss = true → Q (.ref r) ((r, .list (sts ss)) :: σ)) : CL G κ (.bi "sorted") [.ref l] σ Q X := fun g vs hg hvs A ρ s hA z => by
  rw [ab_bi hg]
  obtain ⟨x, rfl, hx⟩ := one hvs
  rw [ab_ref hx]
  obtain ⟨us, n, e, hu⟩ := z.list hl
  refine sorted_strs (vs := us.toList) (by simpa using e.isList) (strsAre_of hu) (by have := size_of hu; simp [sts] at this; simp; walk_at "om") fun out ss' h1 h2 h3 => ?_
  obtain ⟨c, hc⟩ := sortedAll_at s.heap us.toList out
  exact ⟨_, h _ ss' h2 h3, z.newAt (fun _a _b => sortedAll_old) (by walk_at "om") hc ⟨_, _, rfl, strsAre_ab h1⟩⟩
theorem cl_type_bool {b : Bool} {Q : AV → Sto → Prop} (h : Q (.ty "bool") σ) : CL G κ (.ty "type") [.bool b] σ Q X := fun g vs hg hvs A ρ s hA z => by
  rw [ab_ty hg]
  obtain ⟨x, rfl, hx⟩ := one hvs
  rw [ab_bool hx]
  exact call_type_of (Tx := "bool") (by rfl) (by rfl) ⟨σ, h, z⟩
-- enumerate
theorem St.raw {ρ : Frm} {s : Shared} {a : Addr} {P : Obj → Prop} (z : St G ρ ((a, .any P) :: σ) s) : ∃ o, P o ∧ St G ρ ((a, .raw o) :: σ) s := by
  obtain ⟨o, e, hP⟩ := z.at (.head _)
  refine ⟨o, hP, z.old, z.gens, z.os, z.fr, fun p hp => ?_, z.own, z.nd⟩
  rcases List.mem_cons.mp hp with rfl | hp
  · exact ⟨o, e, rfl⟩
  · exact z.ob p (.tail _ hp)
theorem cl_enumerate {l : Addr} {xs : List AV} {Q : AV → Sto → Prop} (hl : (l, .list xs) ∈ σ) (h : ∀ e it, e ≠ it → Q (.ref e) ((e, .raw (enO it 0 .none)) :: (it, .any (LIt l 0)) :: σ)) : CL G κ (.ty "enumerate") [.ref l] σ Q X := fun g vs hg hvs A ρ s hA z => by
  rw [ab_ty hg]
  obtain ⟨x, rfl, hx⟩ := one hvs
  rw [ab_ref hx]
  obtain ⟨us, n, e, hu⟩ := z.list hl
  refine call_enumerate_1 e fun h' he hit hz hk => ?_
  obtain ⟨oi, ei, hc, hd⟩ := hit
  have z₁ := z.newAt hk (Nat.le_refl _) ei (ao := .any (LIt l 0)) ⟨hc, hd⟩
  refine ⟨_, h _ _ (Nat.succ_ne_self _), z₁.notice2 he (ao := .raw (enO s.heap.objs.size 0 .none)) rfl (Heap.get?_none_of_le (Nat.le_trans z.sz (Nat.le_succ _))) fun hm => ?_⟩
  rw [List.map_cons] at hm
  rcases List.mem_append.mp hm with x | x
  · obtain ⟨p, hp, e⟩ := List.mem_map.mp x
    have := Heap.lt_size (z.fr p hp)
    rw [show p.1 = s.heap.objs.size + 1 from e] at this
    exact absurd this (Nat.not_lt.mpr (Nat.le_succ _))
  · rcases List.mem_cons.mp x with e | x
    · exact Nat.succ_ne_self _ e
    · obtain ⟨p, hp, e⟩ := List.mem_map.mp x
      obtain ⟨o', e', _⟩ := z.ob p hp
      have := Heap.lt_size e'
      rw [show p.1 = s.heap.objs.size + 1 from e] at this
      exact absurd this (Nat.not_lt.mpr (Nat.le_succ _))
theorem St.turnF2 {ρ : Frm} {s : Shared} {a b : Addr} {oa ob oa' ob' : Obj} {h' : Heap} (z : St G ((a, oa) :: (b, ob) :: ρ) σ s) (hk : ∀ x o, x ≠ a → x ≠ b → s.heap.get? x = some o → h'.get? x = some o) (ha : h'.get? a = some oa') (hb : h'.get? b = some ob') :
    St G ((a, oa') :: (b, ob') :: ρ) σ { s with heap := h' } := by
  have nd := List.nodup_cons.mp z.nd
  have nd2 := List.nodup_cons.mp nd.2
  refine ⟨old_but (S := fun x => x = a ∨ x = b) z.old ?_ (fun x o hn => hk x o (fun e => hn (.inl e)) (fun e => hn (.inr e))), z.gens, z.os, fun p hp => ?_, fun p hp => ?_, z.own, z.nd⟩
  · rintro x (rfl | rfl)
    · exact z.own _ (.head _)
    · exact z.own _ (.tail _ (.head _))
  · rcases List.mem_cons.mp hp with rfl | hp
    · exact ha
    · rcases List.mem_cons.mp hp with rfl | hp
      · exact hb
      · exact hk _ _ (ne_of (fun x => nd.1 (.tail _ (List.mem_append_left _ x))) hp) (ne_of (fun x => nd2.1 (List.mem_append_left _ x)) hp) (z.fr p (.tail _ (.tail _ hp)))
  · obtain ⟨o', e, r⟩ := z.ob p hp
    exact ⟨o', hk _ _ (ne_of (fun x => nd.1 (.tail _ (List.mem_append_right _ x))) hp) (ne_of (fun x => nd2.1 (List.mem_append_right _ x)) hp) e, r⟩
/-- one clause over what an enumeration gives -/
noncomputable def CRE (G : Gd) (κ : Kx) (env : Env) (target : PySem.Expr) (R : Sto → (Sto → Prop) → Prop) (l : Addr) (xs : List AV) (K : Sto → Prop) : Nat → List AV → Sto → Prop
  | _, [], σ => (l, .list xs) ∈ σ ∧ K σ
  | i, y :: ys, σ => (l, .list xs) ∈ σ ∧ ∀ t, ASG G κ env target (.ref t) ((t, .tup [.int i, y]) :: σ) (fun σ₁ => R σ₁ (CRE G κ env target R l xs K (i + 1) ys)) NoX
theorem LIt.of {h : Heap} {it l : Addr} {i : Nat} {o : Obj} (e : h.get? it = some o) (x : LIt l i o) : h.IsListIter it l i := ⟨o, e, x⟩
theorem cre_code {e : PySem.Expr} {depth : Nat} {acc : Value} {I it l : Addr} {p tp : Pos} {es : List PySem.Expr} {tk : Nat} {rest : Sem Fin} {R : Sto → (Sto → Prop) → Prop} {xs : List AV} {K : Sto → Prop}
    (hturn : compTurn e depth (.ref I) acc env = (standAt p >>= fun _a => pyNext (.ref I) >>= fun r => match r with
      | none => pure (.done .next)
      | some v => letOwnedTupleGo (.Tuple es tk tp) (.ref I) v >>= fun _a => assign (.Tuple es tk tp) env v >>= fun _a => testsTree [] env >>= fun ok =>
          if ok = true then rest else again (.compLoop e depth (.ref I) acc env)))
    (hu : ∀ A : Around, A.under (.compLoop e depth (.ref I) acc env) = A) (hf : (Code.compLoop e depth (.ref I) acc env).isFrame = false)
    (hκ : hdv κ.hd = none) (hne : I ≠ it)
    (hR : ∀ (σ : Sto) (K : Sto → Prop), R σ K → W G κ id rest σ (fun fin σ' => fin = .again (.compLoop e depth (.ref I) acc env) ∧ K σ') NoX) :
    ∀ (ys : List AV) (i : Nat) (σ : Sto) (old : Value), ys = xs.drop i → i ≤ xs.length → CRE G κ env (.Tuple es tk tp) R l xs K i ys σ → ∀ A ρ s oi, Room κ A → LIt l i oi → St G ((I, enO it i old) :: (it, oi) :: ρ) σ s →
      codeAny (model G.prog G.w) A (.compLoop e depth (.ref I) acc env) (fun r s' => r = .ok .next ∧ ∃ σ', K σ' ∧ St G ρ σ' s') s := by
  intro ys
  induction ys with
  | nil =>
    intro i σ old hys hi hF A ρ s oi hA hli z
    have hh : A.handled = none := hA.hd.trans hκ
    refine codeAny_of_tree ?_
    rw [hu]
    show wpAny _ _ (if (Code.compLoop e depth (.ref I) acc env).isFrame then (compTurn e depth (.ref I) acc env).onRaise (leaving env) else (compTurn e depth (.ref I) acc env).onRaise (fun x => do noteFrame x env; theTreesLotGoes x)) _ _ s
    rw [hf, if_neg (by decide), hturn]
    refine wpAny_noted ?_
    refine wpAny_bind (wpAny_standAt (wpAny_bind ?_))
    obtain ⟨hs, hK⟩ := hF
    obtain ⟨us, n, eu, hu'⟩ := z.list hs
    have hlen := size_of hu'
    refine wpAny_pyNext_enum_end hh (z.fr _ (.head _)) (LIt.of (z.fr _ (.tail _ (.head _))) hli) eu.isList (by have := List.drop_eq_nil_iff.mp hys.symm; simp; walk_at "om") fun h' he' => ?_
    have z' := (z.permF (List.Perm.swap _ _ _)).loseF he'
    exact wpAny_pure ⟨rfl, σ, hK, z'.dropF⟩
  | cons y ys ih =>
    intro i σ old hys hi hF A ρ s oi hA hli z
    have hh : A.handled = none := hA.hd.trans hκ
    refine codeAny_of_tree ?_
    rw [hu]
    show wpAny _ _ (if (Code.compLoop e depth (.ref I) acc env).isFrame then (compTurn e depth (.ref I) acc env).onRaise (leaving env) else (compTurn e depth (.ref I) acc env).onRaise (fun x => do noteFrame x env; theTreesLotGoes x)) _ _ s
    rw [hf, if_neg (by decide), hturn]
    refine wpAny_noted ?_
    refine wpAny_bind (wpAny_standAt (wpAny_bind ?_))
    obtain ⟨hs, hF⟩ := hF
    obtain ⟨us, n, eu, hu'⟩ := z.list hs
    have hlen := size_of hu'
    obtain ⟨hx, hys', hlt⟩ := drop_cons hys.symm
    have hx' : (us.toList.map ab)[i]? = some y := by rw [hu']; exact hx
    rw [List.getElem?_map] at hx'
    cases hq : us.toList[i]? with
    | none => rw [hq] at hx'; cases hx'
    | some u =>
      rw [hq] at hx'
      have hy : ab u = y := by simpa using hx'
      refine wpAny_pyNext_enum_item (z.fr _ (.head _)) (LIt.of (z.fr _ (.tail _ (.head _))) hli) eu.isList (x := u) (by simpa using hq) hne fun h' he' hit' ht hz hk => ?_
      obtain ⟨oi', ei', hli'⟩ := hit'
      have z₁ := ((z.turnF2 hk he' ei').toks (s.toks + 1)).notice2 ht (ao := .tup [.int i, y]) ⟨#[.int i s.toks, u], _, rfl, by rw [← hy]; rfl⟩ (Heap.get?_none_of_le z.sz) fun hm => Nat.lt_irrefl _ (z.lt _ hm)
      have nt : ∀ {ρ' : Frm} (e : Value) (s' : Shared) {P : Prop}, (Po G ρ' ab NoX e s') → P := fun _a _b _c => pe fun _a q _b => q.elim
      refine wpAny_bind (wpAny_letOwnedTupleGo_enum he' fun h₂ he₂ hs₂ => ?_)
      have z₂ := z₁.turnF hs₂.extBut he₂
      refine wpAny_bind (wpAny_mono (hF _ _ rfl A _ _ hA z₂) (fun _a s₂ => pe fun σ₂ q z₂ => ?_) fun e s' x => nt e s' x)
      refine wpAny_bind (wpAny_tests_nil ?_)
      rw [if_pos rfl]
      refine wpAny_mono (hR _ _ q A _ s₂ hA z₂) (fun fin s₄ => pe fun σ₄ hh z₄ => ?_) fun e s' x => nt e s' x
      obtain ⟨hfin, q⟩ := hh
      have hfin : fin = _ := hfin
      subst hfin
      exact ⟨rfl, ih (i + 1) σ₄ u hys'.symm hlt q A ρ s₄ oi' hA hli' z₄⟩
theorem cs_code' {e : PySem.Expr} {depth : Nat} {acc : Value} {I : Addr} {RR : Result → Shared → Prop} {A : Around} {s : Shared} {gs : List Comprehension} {g : Comprehension}
    (hcl : clausesOf e = gs) (hg : gs[depth]? = some g) (ha : g.is_async = 0) (hf : (Code.compStart e depth (.ref I) acc env).isFrame = false) (hu : A.under (.compStart e depth (.ref I) acc env) = A)
    (hself : ∀ (Q : Value → Shared → Prop) (E : Value → Shared → Prop) , Q (.ref I) s → wpAny (model G.prog G.w) A (pyIter (.ref I)) Q E s)
    (hq : (Code.compLoop e depth (.ref I) acc env).quiet = true)
    (h : codeAny (model G.prog G.w) A (.compLoop e depth (.ref I) acc env) RR s) : codeAny (model G.prog G.w) A (.compStart e depth (.ref I) acc env) RR s := by
  refine codeAny_of_tree ?_
  rw [hu]
  show wpAny _ _ (if (Code.compStart e depth (.ref I) acc env).isFrame then (compStart e depth (.ref I) acc env).onRaise (leaving env) else (compStart e depth (.ref I) acc env).onRaise (fun x => do noteFrame x env; standAt theWindowsPlace)) _ _ s
  rw [hf, if_neg (by decide)]
  refine wpAny_notedAt ?_
  unfold compStart
  rw [hcl, hg]
  simp only [Option.elim, ha, bne_self_eq_false, Bool.false_eq_true, if_false]
  refine wpAny_bind (wpAny_askSetting (wpAny_ite ?_))
  split
  · exact wpAny_bind (wpAny_pure (wpAny_pure (And.intro hq h)))
  · refine wpAny_bind (wpAny_rule (wpAny_bind (wpAny_standAt (wpAny_bind (hself _ _ ?_)))))
    exact wpAny_pure (And.intro hq h)
inductive EnP (G : Gd) (κ : Kx) (cenv : Addr → Env) (target elt : PySem.Expr) (ly : Addr → Addr → Sto → Sto) (K : Addr → Addr → Sto → Prop) (a : AV) (σ : Sto) : Prop
  | mk (I it l : Addr) (xs : List AV) (τ : Sto) (e : a = .ref I) (hne : I ≠ it) (hσ : σ = (I, .raw (enO it 0 .none)) :: (it, .any (LIt l 0)) :: τ)
    (h : ∀ r C, CRE G κ (cenv C) target (EL G κ (cenv C) elt r) l xs (K r C) 0 xs (ly r C τ))
theorem ex_assign_lc_enum {elt iter : PySem.Expr} {es : List PySem.Expr} {tk : Nat} {tp : Pos} {scope : Scope} {pos p spos : Pos} {x : PySem.Str} {cl : List (PySem.Str × Addr)} {Q : AF → Sto → Prop} (hκ : hdv κ.hd = none)
    (hclos : closureFor scope env = pure cl) (hkind : scope.kind = .function) (hnames : ∀ x ∈ scope.names, x.2 = .local → scope.names.lookup x.1 = some .local) (hnd : ((lay scope.names).map (·.1)).Nodup)
    (hs : ∀ x, foldedSetIterable iter env x = pure x)
    (hsw : swapsWithSole [.Name x p] (.ListComp elt [⟨.Tuple es tk tp, iter, [], 0⟩] scope pos) spos.line env = pure true)
    (h : EV G κ env iter σ (EnP G κ (fun C => compE scope cl C env) (.Tuple es tk tp) elt (fun r C τ => layC (C + 1) scope.names ((C, .ns (lay scope.names)) :: (r, .list []) :: τ)) (fun r C σ' => SN G κ env x (.ref r) σ' (CEnd C (Q .next)) NoX)) NoX) :
    EX G κ env (.Assign [.Name x p] (.ListComp elt [⟨.Tuple es tk tp, iter, [], 0⟩] scope pos) spos) σ Q X := fun A ρ s hA z => by
  rw [exec_Assign]
  refine wpAny_bind (wpAny_standAt ?_)
  rw [hsw]
  refine wpAny_bind (wpAny_pure ?_)
  rw [if_pos rfl]
  refine wpAny_bind ?_
  rw [evalThenUse_list]
  refine wpAny_bind ?_
  refine wpAny_comprehension_free (cl := cl) rfl hs hclos hkind hnames ?_
  refine wpAny_mono (h A ρ s hA z) (fun a s₁ => pe fun σ₁ hh z₁ => ?_) fun _a _b => pe fun _a q _b => q.elim
  obtain ⟨I, it, l, xs, τ, ha, hne, hσ, hcr⟩ := hh
  subst hσ
  rw [ab_ref ha]
  have z₂ := z₁.toF
  obtain ⟨oi, hli, z₂⟩ := z₂.raw
  have z₂ := (z₂.toF).permF (List.Perm.swap _ _ _)
  refine wpAny_pyIter_enum (z₂.fr _ (.head _)) ?_
  refine wpAny_newObj_type ?_ (by size_fits)
  have z₃ := z₂.push { cls := .type "list", data := .seq ([] : List Value).toArray } (.list []) rfl ⟨_, _, rfl, rfl⟩
  generalize hr : s₁.heap.objs.size = r at z₃ ⊢
  refine wpAny_mono (w_newEnv (G := G) (κ := κ) (X := NoX) (bs := []) (binds := []) (Q := fun cenv σ' => ∃ C, cenv = newEnv scope C env.globals (cellsFrom (C + 1) scope.names cl) env.qual none .none (some env) builtinsNs ∧
    CRE G κ (compE scope cl C env) (.Tuple es tk tp) (EL G κ (compE scope cl C env) elt r) l xs (fun σ' => SN G κ env x (.ref r) σ' (CEnd C (Q .next)) NoX) 0 xs σ') rfl hnd (fun C => ⟨C, rfl, hcr r C⟩) A _ _ hA z₃) (fun cenv s₄ => pe fun σ₄ hh z₄ => ?_) fun _a _b => pe fun _a q _b => q.elim
  obtain ⟨C, hce, hcr⟩ := hh
  subst hce
  show codeAny _ _ (.compStart (.ListComp elt [⟨.Tuple es tk tp, iter, [], 0⟩] scope pos) 0 (.ref I) (.ref r) (compE scope cl C env)) _ s₄
  have hI := z₄.fr _ (.head _)
  refine cs_code' (G := G) (env := compE scope cl C env) (g := ⟨.Tuple es tk tp, iter, [], 0⟩) rfl rfl rfl rfl (under_compS _) (fun Q E h => wpAny_pyIter_enum hI h) rfl ?_
  refine codeAny_mono (cre_code (G := G) (κ := κ) (it := it) (l := l) (xs := xs) (env := compE scope cl C env) (p := iter.pos) (rest := (eval elt (compE scope cl C env) >>= fun x => call (.builtin "list.append") [.ref r, x] >>= fun _a => pure ()) >>= fun _a => again (.compLoop (.ListComp elt [⟨.Tuple es tk tp, iter, [], 0⟩] scope pos) 0 (.ref I) (.ref r) (compE scope cl C env)))
    (by rfl) (under_comp) rfl hκ hne (fun σ K hR => el_rest hR) xs 0 σ₄ _ rfl (Nat.zero_le _) hcr A ρ s₄ oi hA hli z₄) fun res s₅ hres => ?_
  obtain ⟨rfl, σ₅, hP, z₅⟩ := hres
  show wpAny _ _ (assign (.Name x p) env (.ref r)) _ _ s₅
  refine PyProof.Rows.assign_Name (wpAny_mono (hP _ rfl A ρ s₅ hA z₅) (fun _a s'' => pe fun σ'' q z'' => ?_) fun _a _b => pe fun _a q _b => q.elim)
  obtain ⟨m, hn, hq⟩ := q.to z''
  refine ⟨m, hn, fun h' hsb => ?_⟩
  obtain ⟨σ₃, q, z₃⟩ := hq h' hsb
  exact wpAny_pure (wpAny_pure ⟨σ₃, q, z₃⟩)
end
end B37Text
section B38Text
section
variable {G : Gd} {κ : Kx} {env : Env} {σ σ' τ : Sto} {X : XP}
/-- the inner clause of two -/
noncomputable def IN (G : Gd) (κ : Kx) (env : Env) (elt target iter : PySem.Expr) (ifs : List PySem.Expr) (r : Addr) (σ : Sto) (K : Sto → Prop) : Prop :=
  EV G κ env iter σ (fun a σ₁ => ∃ sr xs, IsSr a sr xs σ₁ ∧ CR G κ env target ifs (EL G κ env elt r) sr xs K xs σ₁) NoX
theorem in_rest {elt t₀ i₀ t₁ i₁ : PySem.Expr} {ifs₁ : List PySem.Expr} {scope : Scope} {pos : Pos} {I r : Addr} {K : Sto → Prop} (hκ : hdv κ.hd = none) (hs : ∀ x, foldedSetIterable i₁ env x = pure x)
    (h : IN G κ env elt t₁ i₁ ifs₁ r σ K) : W G κ id (eval i₁ env >>= fun x => standAt i₁.pos >>= fun _a => foldedSetIterable i₁ env x >>= fun x => holding [x] (pyIter x) >>= fun it =>
        runOwn (.compStart (.ListComp elt [⟨t₀, i₀, [], 0⟩, ⟨t₁, i₁, ifs₁, 0⟩] scope pos) 1 it (.ref r) env) env >>= fun _a => again (.compLoop (.ListComp elt [⟨t₀, i₀, [], 0⟩, ⟨t₁, i₁, ifs₁, 0⟩] scope pos) 0 (.ref I) (.ref r) env)) σ
      (fun fin σ' => fin = .again (.compLoop (.ListComp elt [⟨t₀, i₀, [], 0⟩, ⟨t₁, i₁, ifs₁, 0⟩] scope pos) 0 (.ref I) (.ref r) env) ∧ K σ') NoX := fun A ρ s hA z => by
  refine wpAny_bind (wpAny_mono (h A ρ s hA z) (fun a s₁ => pe fun σ₁ hh z₁ => ?_) fun _a _b x => x)
  obtain ⟨sr, xs, hsr, hcr⟩ := hh
  refine wpAny_bind (wpAny_standAt ?_)
  rw [hs]
  refine wpAny_bind (wpAny_pure ?_)
  refine wpAny_bind (wpAny_holding (iter_of z₁ hsr fun I' o s₂ hi hok z₂ => ?_))
  refine wpAny_bind (wpAny_runOwn ?_)
  rw [Around.mark_none]
  refine cs_code (G := G) (env := env) (g := ⟨t₁, i₁, ifs₁, 0⟩) rfl rfl rfl rfl (under_compS _) hi rfl ?_
  refine codeAny_mono (cr_code (G := G) (κ := κ) (env := env) (p := i₁.pos) (rest := (eval elt env >>= fun x => call (.builtin "list.append") [.ref r, x] >>= fun _a => pure ()) >>= fun _a => again (.compLoop (.ListComp elt [⟨t₀, i₀, [], 0⟩, ⟨t₁, i₁, ifs₁, 0⟩] scope pos) 1 (.ref I') (.ref r) env))
    (by rfl) (under_comp) rfl hκ (fun σ K hR => el_rest hR) xs σ₁ ⟨[], rfl⟩ hcr A ρ s₂ o hA (by simpa using hi) z₂) fun res s₅ hres => ?_
  obtain ⟨rfl, σ₅, hP, z₅⟩ := hres
  exact wpAny_pure ⟨σ₅, ⟨rfl, hP⟩, z₅⟩
theorem ev_lc2 {elt t₀ i₀ t₁ i₁ : PySem.Expr} {ifs₁ : List PySem.Expr} {scope : Scope} {pos : Pos} {cl : List (PySem.Str × Addr)} {Q : AV → Sto → Prop} (hκ : hdv κ.hd = none)
    (hclos : closureFor scope env = pure cl) (hkind : scope.kind = .function) (hnames : ∀ x ∈ scope.names, x.2 = .local → scope.names.lookup x.1 = some .local) (hnd : ((lay scope.names).map (·.1)).Nodup)
    (hs : ∀ x, foldedSetIterable i₀ env x = pure x) (hs' : ∀ env x, foldedSetIterable i₁ env x = pure x)
    (h : EV G κ env i₀ σ (fun a σ₁ => ∃ sr xs, IsSr a sr xs σ₁ ∧ ∀ r C,
      CR G κ (compE scope cl C env) t₀ [] (IN G κ (compE scope cl C env) elt t₁ i₁ ifs₁ r) sr xs (fun σ' => CEnd C (Q (.ref r)) σ') xs (layC (C + 1) scope.names ((C, .ns (lay scope.names)) :: (r, .list []) :: σ₁))) NoX) :
    EV G κ env (.ListComp elt [⟨t₀, i₀, [], 0⟩, ⟨t₁, i₁, ifs₁, 0⟩] scope pos) σ Q X := fun A ρ s hA z => by
  rw [eval_ListComp]
  refine wpAny_comprehension_free (cl := cl) rfl hs hclos hkind hnames ?_
  refine wpAny_mono (h A ρ s hA z) (fun a s₁ => pe fun σ₁ hh z₁ => ?_) fun _a _b => pe fun _a q _b => q.elim
  obtain ⟨sr, xs, hsr, hcr⟩ := hh
  refine iter_of z₁ hsr fun I o s₂ hi hok z₂ => ?_
  refine wpAny_newObj_type ?_ (by size_fits)
  have z₃ := z₂.push { cls := .type "list", data := .seq ([] : List Value).toArray } (.list []) rfl ⟨_, _, rfl, rfl⟩
  generalize hr : s₂.heap.objs.size = r at z₃ ⊢
  have hi₃ : ItO I (s₂.heap.push { cls := .type "list", data := .seq ([] : List Value).toArray }) sr xs.length 0 := by
    refine ItO.keeps ?_ hi
    obtain ⟨o', e'⟩ := hi.obj
    rw [e']; exact Heap.get?_push_of_some _ e'
  refine wpAny_mono (w_newEnv (G := G) (κ := κ) (X := NoX) (bs := []) (binds := []) (Q := fun cenv σ' => ∃ C, cenv = newEnv scope C env.globals (cellsFrom (C + 1) scope.names cl) env.qual none .none (some env) builtinsNs ∧
    CR G κ (compE scope cl C env) t₀ [] (IN G κ (compE scope cl C env) elt t₁ i₁ ifs₁ r) sr xs (fun σ' => CEnd C (Q (.ref r)) σ') xs σ') rfl hnd (fun C => ⟨C, rfl, hcr r C⟩) A _ _ hA z₃) (fun cenv s₄ => pe fun σ₄ hh z₄ => ?_) fun _a _b => pe fun _a q _b => q.elim
  obtain ⟨C, hce, hcr⟩ := hh
  subst hce
  have hi₄ : ItO I s₄.heap sr xs.length (xs.length - xs.length) := by
    rw [Nat.sub_self]
    exact ItO.keeps ((z₄.fr _ (.head _)).trans (z₃.fr _ (.head _)).symm) hi₃
  show codeAny _ _ (.compStart (.ListComp elt [⟨t₀, i₀, [], 0⟩, ⟨t₁, i₁, ifs₁, 0⟩] scope pos) 0 (.ref I) (.ref r) (compE scope cl C env)) _ s₄
  refine cs_code (G := G) (env := compE scope cl C env) (g := ⟨t₀, i₀, [], 0⟩) rfl rfl rfl rfl (under_compS _) (by simpa using hi₄) rfl ?_
  refine codeAny_mono (cr_code (G := G) (κ := κ) (env := compE scope cl C env) (p := i₀.pos) (rest := (eval i₁ (compE scope cl C env) >>= fun x => standAt i₁.pos >>= fun _a => foldedSetIterable i₁ (compE scope cl C env) x >>= fun x => holding [x] (pyIter x) >>= fun it =>
        runOwn (.compStart (.ListComp elt [⟨t₀, i₀, [], 0⟩, ⟨t₁, i₁, ifs₁, 0⟩] scope pos) 1 it (.ref r) (compE scope cl C env)) (compE scope cl C env) >>= fun _a => again (.compLoop (.ListComp elt [⟨t₀, i₀, [], 0⟩, ⟨t₁, i₁, ifs₁, 0⟩] scope pos) 0 (.ref I) (.ref r) (compE scope cl C env))))
    (by rfl) (under_comp) rfl hκ (fun σ K hR => in_rest hκ (hs' _) hR) xs σ₄ ⟨[], rfl⟩ hcr A ρ s₄ o hA hi₄ z₄) fun res s₅ hres => ?_
  obtain ⟨rfl, σ₅, hP, z₅⟩ := hres
  obtain ⟨m, hn, hq⟩ := hP.to z₅
  exact ⟨m, hn, fun h' hsb => let ⟨σ₃, q, z₃⟩ := hq h' hsb; ⟨σ₃, q, z₃⟩⟩
end
end B38Text
section B40Text
/-- a list of ints that was there before -/
noncomputable def OldL (G : Gd) (l : Addr) (ns : List Int) : Prop := ∃ xs, G.h₀.IsList l xs ∧ xs.toList.map ab = intsA ns
section
variable {G : Gd} {κ : Kx} {env : Env} {σ σ' : Sto} {X : XP}
theorem OldL.at' {l : Addr} {ns : List Int} (h : OldL G l ns) {ρ : Frm} {s : Shared} (z : St G ρ σ s) : ∃ xs, s.heap.IsList l xs ∧ xs.toList.map ab = intsA ns := by
  obtain ⟨xs, ⟨o, e, hc, n, hd⟩, hv⟩ := h
  exact ⟨xs, ⟨o, z.old.get_of_cls e (by rw [hc]; nofun), hc, n, hd⟩, hv⟩
theorem cl_sum_old {l : Addr} {ns : List Int} (hκ : hdv κ.hd = none) (hm : OldL G l ns) (h : Q (.int ns.sum) σ) : CL G κ (.bi "sum") [.ref l] σ Q X := fun g vs hg hvs A ρ s hA z => by
  rw [ab_bi hg]
  obtain ⟨v, rfl, hv⟩ := one hvs
  rw [ab_ref hv]
  obtain ⟨ys, e, hy⟩ := hm.at' z
  obtain ⟨ps, rfl, hn⟩ := intItems_of hy
  refine sum_intListG (hA.hd.trans hκ) e fun h' tk t' hk => ⟨σ, ?_, (z.grown hk).toks _⟩
  show Q (.int (preSum (numAt ps) ps.size)) σ
  rw [preSum_eq, List.take_of_length_le (by simp), hn]; exact h
inductive SoP (G : Gd) (Q : AV → Sto → Prop) (o a b : AV) (σ : Sto) : Prop
  | mk (l : Addr) (xs : List Int) (i j : Option Int) (e : o = .ref l) (hm : OldL G l xs) (ha : IsPt a i) (hb : IsPt b j) (hj : j ≠ some 0) (hz : xs.length ≤ sizeLine) (h : ∀ r ys, ys.length ≤ xs.length → Q (.ref r) ((r, .list (intsA ys)) :: σ))
theorem ev_slice_old {value st : PySem.Expr} {lo : Option PySem.Expr} {p pos : Pos} {Q : AV → Sto → Prop} (ht : ∀ o r, letTemporaryGo value o r = pure ())
    (h : EV G κ env value σ (fun o σ₁ => EVO G κ env lo σ₁ (fun a σ₂ => EV G κ env st σ₂ (SoP G Q o a) X) X) X) :
    EV G κ env (.Subscript value (.Slice lo none (some st) p) pos) σ Q X := fun A ρ s hA z => by
  refine wpAny_Subscript_Slice_step (T := "list") F.slot_list_getitem.lookup (wpAny_mono (h A ρ s hA z) (fun o s₁ => pe fun σ₁ q z₁ => wpAny_Slice (wpAny_mono (evo_run q A ρ s₁ hA z₁) (fun a s₂ => pe fun σ₂ q z₂ => ?_) fun _a _b x => x)) fun _a _b x => x) ht
  rw [evalPart_none]
  refine wpAny_pure ?_
  refine wpAny_mono (q A ρ s₂ hA z₂) (fun b s₃ => pe fun σ₃ q z₃ => ?_) fun _a _b x => x
  obtain ⟨l, xs, i, j, ho, hm, ha, hb, hj, hz, hQ⟩ := q
  rw [ab_ref ho]
  have z₄ := z₃.grown (h' := s₃.heap.push { cls := .type "slice", data := .fields #[a, .none, b] }) fun _a _b e => Heap.get?_push_of_some _ e
  obtain ⟨ys, e, hy⟩ := hm.at' z₄
  refine ⟨e.typeIs, wpAny_getItem_list_slice e (Heap.IsSliceOf.new ..) ha.part .none hb.part hj ?_ (by rw [size_of hy]; simpa [intsA] using hz)⟩
  have hall : ∀ v ∈ (slicePick ys i none j).toList, ∃ n, ab v = .int n := fun v hv => by
    unfold slicePick at hv
    simp only [List.mem_filterMap] at hv
    obtain ⟨k, _, hk⟩ := hv
    have hm : v ∈ ys := Array.mem_of_getElem? hk
    have : ab v ∈ ys.toList.map ab := List.mem_map.mpr ⟨v, by simpa using hm, rfl⟩
    rw [hy] at this
    obtain ⟨n, _, hn⟩ := List.mem_map.mp this
    exact ⟨n, hn.symm⟩
  have hex : ∀ (vs : List Value), (∀ v ∈ vs, ∃ n, ab v = .int n) → ∃ ns : List Int, vs.map ab = intsA ns := by
    intro vs
    induction vs with
    | nil => exact fun _a => ⟨[], rfl⟩
    | cons v vs ih =>
      intro h
      obtain ⟨n, hn⟩ := h v (.head _)
      obtain ⟨ns, hns⟩ := ih fun v hv => h v (.tail _ hv)
      exact ⟨n :: ns, by simp [intsA, hn, hns]⟩
  obtain ⟨ns, hns⟩ := hex _ hall
  refine ⟨_, hQ _ ns ?_, z₄.push _ (.list (intsA ns)) rfl ⟨_, _, rfl, hns⟩⟩
  have h1 := slicePick_size_le ys i none j
  have h2 : ((slicePick ys i none j).toList.map ab).length = ns.length := by rw [hns]; simp [intsA]
  have h3 := size_of hy
  simp [intsA] at h2 h3
  walk_at "om"
end
end B40Text
section B41Text
section
variable {G : Gd} {κ : Kx} {env : Env} {σ σ' τ : Sto} {X : XP}
/-- the rows made: each a list of its own -/
noncomputable def rowsS (ts : List Addr) (cs : List (List AV)) : Sto := ((ts.zip cs).reverse).map fun p => (p.1, AO.list p.2)
theorem zip_snoc : ∀ (ts : List Addr) (cs : List (List AV)) (t : Addr) (c : List AV), cs[ts.length]? = some c → (ts ++ [t]).zip cs = ts.zip cs ++ [(t, c)]
  | [], c0 :: cs, t, c, h => by
    have h : some c0 = some c := h
    cases h; rfl
  | a :: ts, c0 :: cs, t, c, h => congrArg ((a, c0) :: ·) (zip_snoc ts cs t c h)
  | [], [], _, _, h => by cases h
  | _ :: _, [], _, _, h => by cases h
theorem rowsS_snoc {ts : List Addr} {cs : List (List AV)} {t : Addr} {c : List AV} (hc : cs[ts.length]? = some c) : rowsS (ts ++ [t]) cs = (t, .list c) :: rowsS ts cs := by
  unfold rowsS
  rw [zip_snoc _ _ _ _ hc, List.reverse_append]
  rfl
/-- the rows made up to now -/
noncomputable def RowsI (σ : Sto) (xs : List AV) (cs : List (List AV)) (sr : Sr) (ys done : List AV) (τ : Sto) : Prop :=
  ∃ ts : List Addr, τ = rowsS ts cs ++ σ ∧ SrOk sr xs τ ∧ ys = xs.drop ts.length ∧ done = ts.map .ref ∧ ts.length ≤ cs.length
theorem rows_pack {target elt : PySem.Expr} {cenv : Addr → Env} {B : Addr → Option AV → Sto} {sr : Sr} {xs : List AV} {cs : List (List AV)} {a : AV} {J : Addr → Sto → Prop} (hl : xs.length = cs.length) (hz : xs.length ≤ 1000)
    (h0 : IsSr a sr xs σ) (h0' : SrOk sr xs σ)
    (step : ∀ (r C : Addr) (o : Option AV) (i : Nat) (y : AV) (c : List AV) (done : List AV) (τ : Sto), (∀ z ∈ σ, z ∈ τ) → xs[i]? = some y → cs[i]? = some c → ASG G κ (cenv C) target y (B C o ++ (r, .list done) :: τ) (fun σ₁ => EV G κ (cenv C) elt σ₁ (fun v σ₃ => ∃ (o' : Option AV) (t : Addr), v = .ref t ∧ Pt (B C o' ++ (r, .list done) :: ((t, .list c) :: τ)) σ₃) NoX) NoX)
    (fin : ∀ (r : Addr) (ts : List Addr), ts.length = cs.length → J r ((r, .list (ts.map .ref)) :: (rowsS ts cs ++ σ))) :
    ∃ sr' xs', IsSr a sr' xs' σ ∧ xs'.length ≤ sizeLine ∧ ∃ I : List AV → List AV → Sto → Prop, I xs' [] σ ∧ (∀ ys done τ, I ys done τ → SrOk sr' xs' τ) ∧
      (∀ r C o y ys done τ, I (y :: ys) done τ → ASG G κ (cenv C) target y (B C o ++ (r, .list done) :: τ) (fun σ₁ => TSS G κ (cenv C) [] σ₁ (fun b σ₂ =>
        if b then EV G κ (cenv C) elt σ₂ (fun v σ₃ => ∃ (o' : Option AV) (τ' : Sto), Pt (B C o' ++ (r, .list done) :: τ') σ₃ ∧ I ys (done ++ [v]) τ') NoX
        else ∃ (o' : Option AV) (τ' : Sto), Pt (B C o' ++ (r, .list done) :: τ') σ₂ ∧ I ys done τ') NoX) NoX) ∧
      (∀ r done τ, I [] done τ → J r ((r, .list done) :: τ)) := by
  refine ⟨sr, xs, h0, by rw [sizeLine_eq]; walk_at "om", RowsI σ xs cs sr, ⟨[], rfl, h0', rfl, rfl, Nat.zero_le _⟩, fun ys done τ ⟨_, _, h, _⟩ => h, ?_, ?_⟩
  · rintro r C o y ys done τ ⟨ts, rfl, hso, hy, rfl, hR⟩
    have hx : xs[ts.length]? = some y := by
      have := congrArg (·[0]?) hy
      simpa using this.symm
    obtain ⟨hlt, _⟩ := List.getElem?_eq_some_iff.mp hx
    have hc : cs[ts.length]? = some cs[ts.length] := List.getElem?_eq_getElem (by walk_at "om")
    intro xv hxv
    refine W.post (step r C o ts.length y _ _ (rowsS ts cs ++ σ) (fun z hz => List.mem_append_right _ hz) hx hc xv hxv) fun _a σ₁ q => tss_nil ?_
    simp only [if_true]
    refine W.post q fun v σ₃ hh => ?_
    obtain ⟨o', t, hv, hp⟩ := hh
    refine ⟨o', _, hp, ts ++ [t], ?_, ?_, ?_, by rw [hv]; simp, by simp; walk_at "om"⟩
    · rw [rowsS_snoc hc]; rfl
    · cases sr with
      | lst l => exact .tail _ hso
      | rng a c => exact hso
    · have := congrArg List.tail hy
      simpa using this
  · rintro r done τ ⟨ts, rfl, hso, hy, rfl, hR⟩
    have : xs.length ≤ ts.length := by
      have := congrArg List.length hy
      simp at this; walk_at "om"
    exact fin r ts (by walk_at "om")
/-- a comprehension that makes a list for each of xs -/
theorem lc_rows {elt target iter : PySem.Expr} {scope : Scope} {pos : Pos} {cl : List (PySem.Str × Addr)} {Q : AV → Sto → Prop} (hκ : hdv κ.hd = none)
    (hclos : closureFor scope env = pure cl) (hkind : scope.kind = .function) (hnames : ∀ x ∈ scope.names, x.2 = .local → scope.names.lookup x.1 = some .local) (hnd : ((lay scope.names).map (·.1)).Nodup)
    (hs : ∀ x, foldedSetIterable iter env x = pure x)
    (B : Addr → Option AV → Sto) (hB : ∀ C σ, layC (C + 1) scope.names ((C, .ns (lay scope.names)) :: σ) = B C none ++ σ) (hend : ∀ C o τ, ∃ m σ₂, Rm C (.ns m) (B C o ++ τ) σ₂ ∧ List.Sublist τ σ₂) (cs : List (List AV))
    (h : EV G κ env iter σ (fun a σ₁ => ∃ sr xs, IsSr a sr xs σ₁ ∧ SrOk sr xs σ₁ ∧ xs.length = cs.length ∧ xs.length ≤ 1000 ∧ (∀ (r C : Addr) (o : Option AV) (i : Nat) (y : AV) (c : List AV) (done : List AV) (τ : Sto), (∀ z ∈ σ₁, z ∈ τ) → xs[i]? = some y → cs[i]? = some c → ASG G κ (compE scope cl C env) target y (B C o ++ (r, .list done) :: τ) (fun τ₁ => EV G κ (compE scope cl C env) elt τ₁ (fun v τ₃ => ∃ (o' : Option AV) (t : Addr), v = .ref t ∧ Pt (B C o' ++ (r, .list done) :: ((t, .list c) :: τ)) τ₃) NoX) NoX) ∧
      ∀ (r : Addr) (ts : List Addr), ts.length = cs.length → Q (.ref r) ((r, .list (ts.map .ref)) :: (rowsS ts cs ++ σ₁))) NoX) : EV G κ env (.ListComp elt [⟨target, iter, [], 0⟩] scope pos) σ Q X := by
  refine ev_lc_g hκ hclos hkind hnames hnd hs B hB hend ?_
  refine W.post h fun a σ₁ hh => ?_
  obtain ⟨sr, xs, h0, h1, hl, hz, step, fin⟩ := hh
  exact rows_pack (σ := σ₁) (cenv := fun C => compE scope cl C env) (J := fun r τ => Q (.ref r) τ) hl hz h0 h1 step fin
theorem ex_assign_rows {elt target iter : PySem.Expr} {scope : Scope} {pos p spos : Pos} {x : PySem.Str} {cl : List (PySem.Str × Addr)} {Q : AF → Sto → Prop} (hκ : hdv κ.hd = none)
    (hclos : closureFor scope env = pure cl) (hkind : scope.kind = .function) (hnames : ∀ x ∈ scope.names, x.2 = .local → scope.names.lookup x.1 = some .local) (hnd : ((lay scope.names).map (·.1)).Nodup)
    (hs : ∀ x, foldedSetIterable iter env x = pure x) (hsw : swapsWithSole [.Name x p] (.ListComp elt [⟨target, iter, [], 0⟩] scope pos) spos.line env = pure true)
    (B : Addr → Option AV → Sto) (hB : ∀ C σ, layC (C + 1) scope.names ((C, .ns (lay scope.names)) :: σ) = B C none ++ σ) (cs : List (List AV))
    (h : EV G κ env iter σ (fun a σ₁ => ∃ sr xs, IsSr a sr xs σ₁ ∧ SrOk sr xs σ₁ ∧ xs.length = cs.length ∧ xs.length ≤ 1000 ∧ (∀ (r C : Addr) (o : Option AV) (i : Nat) (y : AV) (c : List AV) (done : List AV) (τ : Sto), (∀ z ∈ σ₁, z ∈ τ) → xs[i]? = some y → cs[i]? = some c → ASG G κ (compE scope cl C env) target y (B C o ++ (r, .list done) :: τ) (fun τ₁ => EV G κ (compE scope cl C env) elt τ₁ (fun v τ₃ => ∃ (o' : Option AV) (t : Addr), v = .ref t ∧ Pt (B C o' ++ (r, .list done) :: ((t, .list c) :: τ)) τ₃) NoX) NoX) ∧
      ∀ (r : Addr) (ts : List Addr), ts.length = cs.length → ∀ C o, SN G κ env x (.ref r) (B C o ++ (r, .list (ts.map .ref)) :: (rowsS ts cs ++ σ₁)) (CEnd C (Q .next)) NoX) NoX) : EX G κ env (.Assign [.Name x p] (.ListComp elt [⟨target, iter, [], 0⟩] scope pos) spos) σ Q X := by
  refine ex_assign_lc_g hκ hclos hkind hnames hnd hs hsw B hB ?_
  refine W.post h fun a σ₁ hh => ?_
  obtain ⟨sr, xs, h0, h1, hl, hz, step, fin⟩ := hh
  exact rows_pack (σ := σ₁) (cenv := fun C => compE scope cl C env) (J := fun r τ => ∀ C o, SN G κ env x (.ref r) (B C o ++ τ) (CEnd C (Q .next)) NoX) hl hz h0 h1 step fin
/-- some objects of a state ahead, the others out of sight -/
inductive Rms : Sto → Sto → Sto → Prop
  | nil {S : Sto} : Rms [] S S
  | cons {a : Addr} {o : AO} {U S S' R : Sto} : Rm a o S S' → Rms U S' R → Rms ((a, o) :: U) S R
theorem Rms.perm {U S R : Sto} (h : Rms U S R) : S.Perm (U ++ R) := by
  induction h with
  | nil => exact .refl _
  | cons r _ ih => exact r.perm.trans (ih.cons _)
theorem hide {α β : Type} {f : α → β} {t : Sem α} {S R : Sto} {Q : β → Sto → Prop} (U base : Sto) (p : Rms U S R) (hb : ∀ x ∈ base, x ∈ R) (k : ∀ R', R = R' → (∀ x ∈ base, x ∈ R') → W G κ f t (U ++ R') Q X) : W G κ f t S Q X :=
  fun A ρ s hA z => k R rfl hb A ρ s hA (z.perm p.perm)
end
end B41Text
section C1Text
section
variable {G : Gd} {κ : Kx} {env : Env} {σ σ' : Sto} {X : XP}
noncomputable def standsB (items name : List Nat) (place : Nat) : Bool := decide (place + items.length ≤ name.length) && items.isPrefixOf (name.drop place)
theorem stands_eq {items name : List Nat} {place : Nat} (hfit : place + items.length ≤ name.length) : standsB items name place =
    (List.filterMap (fun v => match v with
          | AV.int k => if (name[place + k.toNat]? == items[k.toNat]?) = true then none else some (AV.int k)
          | _ => none) (rngL 0 1 items.length)).isEmpty := by
  rw [rngL_filterMap, Bool.eq_iff_iff]
  unfold standsB
  rw [decide_eq_true hfit, Bool.true_and, List.isPrefixOf_iff_prefix, List.prefix_iff_getElem?, List.isEmpty_iff, List.filterMap_eq_nil_iff]
  constructor
  · intro h i hi
    have hi := List.mem_range.mp hi
    have := h i hi
    rw [List.getElem?_drop] at this
    simp [this, hi]
  · intro h i hi
    have := h i (List.mem_range.mpr hi)
    rw [List.getElem?_drop]
    simp at this
    rw [this, List.getElem?_eq_getElem hi]
theorem law_stands_c (T : Top G) {n : Nat} {l : Addr} {items name : List Nat} {place : Nat} {Q : AV → Sto → Prop} (hm : (l, .list (chs items)) ∈ σ) (hi : items.length ≤ 64) (hn : name.length ≤ 64)
    (hp : place ≤ 64) (h : Q (.bool (standsB items name place)) σ) : CL G ⟨n + 1, none⟩ (.ref 154) [.ref l, .str (tx name), .int place] σ Q X := by
  refine cl_fn' T.toTp ar20 (T.fn 20 154 rfl) rfl rfl rfl rfl nd20 (fun vs hvs => ?_) fun L => ?_
  · obtain ⟨a, b, c, rfl, _⟩ := three hvs; rfl
  simp only [nm20, lay_nil, lay_cell, lay_global, layC_nil, layC_cell, layC_global, List.zip_cons_cons, List.zip_nil_right, bn_nil, bn_cons]
  have hl : (chs items).length = items.length := by simp [chs]
  walk_at "w"
  by_cases hfit : place + items.length ≤ name.length
  · have e : decide ((place : Int) + (items.length : Int) ≤ (name.length : Int)) = true := decide_eq_true (by walk_at "om")
    rw [e, if_pos rfl]
    walk_at "w"
    walk_at "lc"
    walk_at "w"
    refine ⟨.rng 0 1, _, ⟨_, _, rfl, by walk_at "mem", rfl⟩, by walk_at "sz", fun v => match v with | .int k => if name[place + k.toNat]? == items[k.toNat]? then none else some (.int k) | _ => none, ?_, fun r => ?_⟩
    · intro r C y done hy
      obtain ⟨k, hk, rfl⟩ := mem_rng01 hy
      walk_at "w"
      refine sub_tx (place + k) (by walk_at "om") (by trivial) (by walk_at "om") (by walk_at "om") ?_
      walk_at "w"
      refine sub_chs k hk (by trivial) (by walk_at "mem") rfl (by walk_at "om") ?_
      walk_at "w"
      by_cases he : items[k] = name[place + k]
      · rw [beq_iff_eq.mpr he]
        refine iteF (by decide) ?_
        walk_at "w"
        refine sub_chs k hk (by trivial) (by walk_at "mem") rfl (by walk_at "om") ?_
        walk_at "w"
        walk_at "if"
        refine ⟨.refl, ?_⟩
        exact if_pos (show (name[place + k]? == items[k]?) = true by rw [List.getElem?_eq_getElem hk, List.getElem?_eq_getElem (by walk_at "om"), he]; simp)
      · have he' : (items[k] == name[place + k]) = false := beq_eq_false_iff_ne.mpr he
        rw [he']
        refine iteT (by decide) (iteT rfl ?_)
        walk_at "w"
        refine ⟨.refl, ?_⟩
        have : (name[place + k]? == items[k]?) = false := by
          rw [List.getElem?_eq_getElem hk, List.getElem?_eq_getElem (by walk_at "om")]
          exact beq_eq_false_iff_ne.mpr (fun e => he (by injection e with e; exact e.symm))
        exact if_neg (by rw [show (name[place + k]? == items[k]?) = false from this]; nofun)
    · walk_at "w"
      refine op_eq_list_empty (by walk_at "mem") (by walk_at "mem") ?_
      refine ⟨σ, by walk_at "pt", ?_⟩
      exact Eq.mp (congrArg (fun b => Q (.bool b) σ) (stands_eq hfit)) h
  · have e : decide ((place : Int) + (items.length : Int) ≤ (name.length : Int)) = false := decide_eq_false (by walk_at "om")
    rw [e, if_neg (by decide)]
    refine ⟨σ, by walk_at "pt", ?_⟩
    have : standsB items name place = false := by unfold standsB; rw [decide_eq_false hfit]; rfl
    rw [← this]; exact h
end
end C1Text
section C2Text
section
variable {G : Gd} {κ : Kx} {env : Env} {σ σ' : Sto} {X : XP}
noncomputable def placeF (items name : List Nat) : List Nat → Int
  | [] => -1
  | k :: r => if standsB items name k then (k : Int) else placeF items name r
theorem law_place_c (T : Top G) {n : Nat} {l : Addr} {items name : List Nat} {v : AV} {sr : Sr} {ps : List Nat} {Q : AV → Sto → Prop} (hm : (l, .list (chs items)) ∈ σ) (hi : items.length ≤ 64) (hn : name.length ≤ 64)
    (hsr : IsSr v sr (ivs ps) σ) (hp : ∀ p ∈ ps, p ≤ 64) (h : Q (.int (placeF items name ps)) σ) : CL G ⟨n + 2, none⟩ (.ref 161) [.ref l, .str (tx name), v] σ Q X := by
  refine cl_fn' T.toTp ar21 (T.fn 21 161 rfl) rfl rfl rfl rfl nd21 (fun vs hvs => ?_) fun L => ?_
  · obtain ⟨a, b, c, rfl, _⟩ := three hvs; rfl
  simp only [nm21, lay_nil, lay_local, lay_global, layC_nil, layC_local, layC_global, List.zip_cons_cons, List.zip_nil_right, bn_nil, bn_cons]
  walk_at "w"
  refine ex_for .no rfl ?_ (fun _a => rfl)
  walk_at "w"
  refine ⟨sr, ivs ps, isSr_tail hsr, ?_⟩
  have hok : ∀ {p : Addr × AO}, SrOk sr (ivs ps) (p :: σ) := fun {p} => srok_of (isSr_tail hsr)
  revert h
  suffices H : ∀ (qs : List Nat) (o : Option AV), (∀ p ∈ qs, p ≤ 64) → Q (.int (placeF items name qs)) σ → FR G ⟨n + 1, none⟩ _ _ _ sr (ivs ps) _ NoX (ivs qs) ((L, AO.ns [(PySem.Str.ofString "items", some (.ref l)), (PySem.Str.ofString "name", some (.str (tx name))), (PySem.Str.ofString "places", some v), (PySem.Str.ofString "k", o)]) :: σ) from fun h => H ps none hp h
  intro qs
  induction qs with
  | nil =>
    intro o _ h
    refine ⟨hok, ?_⟩
    walk_at "w"
    exact ⟨σ, by walk_at "pt", h⟩
  | cons q qs ih =>
    intro o hq h
    refine ⟨hok, ?_⟩
    walk_at "w"
    refine law_stands_c T (by walk_at "mem") hi hn (hq q (.head _)) ?_
    walk_at "w"
    unfold placeF at h
    cases hs : standsB items name q with
    | true =>
      rw [hs] at h
      simp only [if_true] at h
      refine iteT rfl ?_
      walk_at "w"
      exact ⟨σ, by walk_at "pt", h⟩
    | false =>
      rw [hs] at h
      simp only [Bool.false_eq_true, if_false] at h
      refine iteF (by decide) ?_
      walk_at "w"
      exact ih _ (fun p hp => hq p (.tail _ hp)) h
end
end C2Text
section C3Text
section
variable {G : Gd} {κ : Kx} {env : Env} {σ σ' : Sto} {X : XP}
theorem asg_mono {t : PySem.Expr} {v : AV} {Q Q' : Sto → Prop} (h : ASG G κ env t v σ Q X) (hQ : ∀ σ, Q σ → Q' σ) : ASG G κ env t v σ Q' X := fun x hx => W.post (h x hx) fun _a σ' q => hQ σ' q
inductive StepK (N : Sto → Prop) (Q : AF → Sto → Prop) (f : AF) (σ : Sto) : Prop
  | mk (τ : Sto) (p : Pt τ σ) (h : LoopK N Q f τ)
theorem fr_step {target : PySem.Expr} {body : List Stmt} {sr : Sr} {xs : List AV} {Q : AF → Sto → Prop} {y : AV} {ys : List AV} (hs : SrOk sr xs σ) (h : ASG G κ env target y σ (fun σ₁ => EXS G κ env body σ₁ (StepK (fun τ => FR G κ env target body sr xs Q X ys τ) Q) X) X) : FR G κ env target body sr xs Q X (y :: ys) σ :=
  ⟨hs, asg_mono h fun σ₁ h => W.part (W.post h fun f σ₂ ⟨τ, p, q⟩ => ⟨τ, p, by cases f <;> exact q⟩)⟩
theorem wh_step {test : PySem.Expr} {body orelse : List Stmt} {Q : AF → Sto → Prop} (ok : XOk G κ env X)
    (h : TS G κ env test σ (fun b σ₁ => if b then EXS G κ env body σ₁ (StepK (fun τ => WH G κ env test body orelse τ Q X) Q) X
      else EXS G κ env orelse σ₁ Q X) X) : WH G κ env test body orelse σ Q X :=
  wh_turn ok (W.post h fun b σ₁ h => by
    cases b with
    | false => exact h
    | true =>
      simp only [if_true] at h ⊢
      exact W.part (W.post h fun f σ₂ ⟨τ, p, q⟩ => ⟨τ, p, by cases f <;> exact q⟩))
theorem wh_from {test : PySem.Expr} {body orelse : List Stmt} {Q : AF → Sto → Prop} (h : WH G κ env test body orelse σ' Q X) (p : Pt σ' σ) : WH G κ env test body orelse σ Q X := fun A ρ s hA z => h A ρ s hA (z.pt p)
theorem rngL_up {p n : Nat} : rngL (p : Int) 1 n = ivs ((List.range n).map (p + ·)) := by
  unfold rngL ivs; rw [List.map_map]; apply List.map_congr_left; intro i _; simp
theorem rngL_down {p n : Nat} : rngL ((p : Int) + ((n : Int) - 1)) (-1) n = ivs ((List.range n).map (p + ·)).reverse := by
  unfold rngL ivs
  rw [← List.map_reverse, ← krv_range n, List.map_map, List.map_map]
  apply List.map_congr_left
  intro i hi
  have := List.mem_range.mp hi
  simp only [Function.comp]
  congr 1
  rw [Int.mul_neg_one]
  cases n with
  | zero => cases this
  | succ n =>
    rw [Int.add_assoc]
    exact congrArg (fun x : Int => (p : Int) + x) (((congrArg (· + -(i : Int)) (Int.add_sub_cancel (n : Int) 1))).trans (Int.ofNat_sub (Nat.le_of_lt_succ this)).symm)
inductive Sk | fix | lazy | greedy
noncomputable def Sk.tx : Sk → PySem.Str
  | .fix => PySem.Str.ofString ""
  | .lazy => PySem.Str.ofString "(?>.*?"
  | .greedy => PySem.Str.ofString ".*"
inductive PartsAt (σ : Sto) : List AV → List (Sk × List Nat) → Prop
  | nil : PartsAt σ [] []
  | cons {r q : Addr} {st : Sk} {items : List Nat} {rs : List AV} {ps : List (Sk × List Nat)} (hr : (r, .list [.str st.tx, .ref q]) ∈ σ) (hq : (q, .list (chs items)) ∈ σ) (h : PartsAt σ rs ps) : PartsAt σ (.ref r :: rs) ((st, items) :: ps)
noncomputable def cands (st : Sk) (place n : Nat) : List Nat := match st with
  | .fix => [place]
  | .lazy => (List.range n).map (place + ·)
  | .greedy => ((List.range n).map (place + ·)).reverse
noncomputable def goesF (name : List Nat) : List (Sk × List Nat) → Nat → Int
  | [], place => place
  | (st, items) :: r, place => let f := placeF items name (cands st place (name.length + 1 - items.length - place))
    if f < 0 then -1 else goesF name r (f.toNat + items.length)
theorem placeF_mem {items name : List Nat} : ∀ {ps : List Nat}, ¬ placeF items name ps < 0 → ∃ p ∈ ps, placeF items name ps = (p : Int) ∧ standsB items name p = true
  | [], h => absurd (show (-1 : Int) < 0 by decide) h
  | p :: ps, h => by
    unfold placeF at h ⊢
    cases hs : standsB items name p with
    | true => exact ⟨p, .head _, by simp, hs⟩
    | false =>
      rw [hs] at h
      simp only [Bool.false_eq_true, if_false] at h ⊢
      obtain ⟨q, hq, e⟩ := placeF_mem h
      exact ⟨q, .tail _ hq, e⟩
set_option tactic.hygienic true in
theorem law_goes_c (T : Top G) {n : Nat} {l : Addr} {rs : List AV} {ps : List (Sk × List Nat)} {name : List Nat} {Q : AV → Sto → Prop} (hm : (l, .list rs) ∈ σ) (hr : PartsAt σ rs ps) (hi : ∀ p ∈ ps, p.2.length ≤ 64) (hn : name.length ≤ 60) (h0 : rs.length ≤ 100)
    (h : Q (.int (goesF name ps 0)) σ) : CL G ⟨n + 3, none⟩ (.ref 168) [.ref l, .str (tx name)] σ Q X := by
  refine cl_fn' T.toTp ar22 (T.fn 22 168 rfl) rfl rfl rfl rfl nd22 (fun vs hvs => ?_) fun L => ?_
  · obtain ⟨a, b, rfl, _⟩ := two hvs; rfl
  simp only [nm22, lay_nil, lay_local, lay_global, layC_nil, layC_local, layC_global, List.zip_cons_cons, List.zip_nil_right, bn_nil, bn_cons]
  walk_at "w"
  refine ex_for .no rfl ?_ (fun _a => rfl)
  walk_at "w"
  refine ⟨.lst l, rs, ⟨rfl, by walk_at "mem"⟩, ?_⟩
  have hok : ∀ {p : Addr × AO}, SrOk (.lst l) rs (p :: σ) := fun {p} => List.Mem.tail _ hm
  clear h0
  suffices H : ∀ (qs : List (Sk × List Nat)) (us : List AV) (place : Nat) (o1 o2 o3 o4 : Option AV), PartsAt σ us qs → (∀ p ∈ qs, p.2.length ≤ 64) → place ≤ 60 → Q (.int (goesF name qs place)) σ → FR G ⟨n + 2, none⟩ _ _ _ (.lst l) rs _ NoX us
      ((L, AO.ns [(PySem.Str.ofString "parts", some (.ref l)), (PySem.Str.ofString "name", some (.str (tx name))), (PySem.Str.ofString "place", some (.int (place : Nat))), (PySem.Str.ofString "star", o1), (PySem.Str.ofString "items", o2), (PySem.Str.ofString "rest", o3), (PySem.Str.ofString "found", o4)]) :: σ) from H ps rs 0 none none none none hr hi (by walk_at "om") h
  intro qs
  induction qs with
  | nil =>
    intro us place o1 o2 o3 o4 hr hi hp h
    cases hr
    refine ⟨hok, ?_⟩
    walk_at "w"
    exact ⟨σ, by walk_at "pt", h⟩
  | cons q qs ih =>
    intro us place o1 o2 o3 o4 hr hi hp h
    cases hr with
    | @cons r q st items us' _ hr hq hr' =>
    have hi1 : items.length ≤ 64 := hi _ (.head _)
    have hi2 : ∀ p ∈ qs, p.2.length ≤ 64 := fun p hp => hi p (.tail _ hp)
    refine fr_step hok ?_
    walk_at "w"
    have hsz : ((name.length : Int) - (items.length : Int) + 1 - (place : Int)).toNat = name.length + 1 - items.length - place :=
      (congrArg (fun x : Int => (x - place).toNat) (Int.add_right_comm (name.length : Int) (-(items.length : Int)) 1)).trans ((congrArg Int.toNat (Int.sub_sub ((name.length + 1 : Nat) : Int) items.length place)).trans ((Int.toNat_sub (name.length + 1) (items.length + place)).trans (Nat.sub_sub _ _ _).symm))
    rw [hsz]
    unfold goesF at h
    cases st with
    | fix =>
      dsimp only [Sk.tx]
      walk_at "if"
      walk_at "w"
      rename_i r1
      refine law_place_c T (sr := .lst r1) (ps := [place]) (by walk_at "mem") hi1 (by walk_at "om") ⟨rfl, by walk_at "mem"⟩ (by simp; walk_at "om") ?_
      walk_at "w"
      by_cases hf : placeF items name [place] < 0
      · refine iteT (decide_eq_true hf) ?_
        walk_at "w"
        dsimp only [cands] at h
        rw [if_pos hf] at h
        exact ⟨_, .refl, σ, by walk_at "pt", h⟩
      · obtain ⟨p, hp', e, hs⟩ := placeF_mem hf
        have hle : p + items.length ≤ name.length := by
          unfold standsB at hs
          simp only [Bool.and_eq_true, decide_eq_true_eq] at hs
          exact hs.1
        dsimp only [cands] at h
        rw [if_neg hf, e, Int.toNat_natCast] at h
        refine iteF (by rw [decide_eq_false hf]; nofun) ?_
        rw [e]
        walk_at "w"
        exact ⟨_, by walk_at "pt", ih us' (p + items.length) _ _ _ _ hr' hi2 (Nat.le_trans hle hn) h⟩
    | lazy =>
      dsimp only [Sk.tx]
      walk_at "if"
      walk_at "w"
      walk_at "if"
      walk_at "w"
      refine law_place_c T (sr := .rng _ _) (ps := (List.range (name.length + 1 - items.length - place)).map (place + ·)) (by walk_at "mem") hi1 (by walk_at "om") ⟨_, _, rfl, by walk_at "mem", rngL_up.symm⟩ ?_ ?_
      · intro p hp
        simp only [List.mem_reverse, List.mem_map, List.mem_range] at hp
        obtain ⟨i, hi, rfl⟩ := hp
        exact Nat.le_trans (Nat.le_of_lt (Nat.lt_of_lt_of_le (Nat.add_lt_of_lt_sub' hi) (Nat.sub_le ..))) (Nat.le_trans (Nat.add_le_add_right hn 1) (by decide))
      walk_at "w"
      by_cases hf : placeF items name ((List.range (name.length + 1 - items.length - place)).map (place + ·)) < 0
      · refine iteT (decide_eq_true hf) ?_
        walk_at "w"
        dsimp only [cands] at h
        rw [if_pos hf] at h
        exact ⟨_, .refl, σ, by walk_at "pt", h⟩
      · obtain ⟨p, hp', e, hs⟩ := placeF_mem hf
        have hle : p + items.length ≤ name.length := by
          unfold standsB at hs
          simp only [Bool.and_eq_true, decide_eq_true_eq] at hs
          exact hs.1
        dsimp only [cands] at h
        rw [if_neg hf, e, Int.toNat_natCast] at h
        refine iteF (by rw [decide_eq_false hf]; nofun) ?_
        rw [e]
        walk_at "w"
        exact ⟨_, by walk_at "pt", ih us' (p + items.length) _ _ _ _ hr' hi2 (Nat.le_trans hle hn) h⟩
    | greedy =>
      dsimp only [Sk.tx]
      obtain ⟨R, hR⟩ : ∃ R, R = ((List.range (name.length + 1 - items.length - place)).map (place + ·)).reverse := ⟨_, rfl⟩
      dsimp only [cands] at h
      rw [← hR] at h
      walk_at "if"
      walk_at "w"
      walk_at "if"
      walk_at "w"
      refine ⟨_, _, _, rfl, by walk_at "mem", Nat.le_trans hp (by decide), Nat.le_trans (Nat.sub_le ..) (Nat.le_trans (Nat.sub_le ..) (Nat.le_trans (Nat.add_le_add_right hn 1) (by decide))), fun r1 => ?_⟩
      walk_at "w"
      refine law_place_c T (sr := .rng _ _) (ps := R) (by walk_at "mem") hi1 (by walk_at "om") ⟨_, _, rfl, by walk_at "mem", by rw [hR]; exact rngL_down.symm⟩ ?_ ?_
      · intro p hp
        rw [hR] at hp
        simp only [List.mem_reverse, List.mem_map, List.mem_range] at hp
        obtain ⟨i, hi, rfl⟩ := hp
        exact Nat.le_trans (Nat.le_of_lt (Nat.lt_of_lt_of_le (Nat.add_lt_of_lt_sub' hi) (Nat.sub_le ..))) (Nat.le_trans (Nat.add_le_add_right hn 1) (by decide))
      walk_at "w"
      by_cases hf : placeF items name R < 0
      · refine iteT (decide_eq_true hf) ?_
        walk_at "w"
        rw [if_pos hf] at h
        exact ⟨_, .refl, σ, by walk_at "pt", h⟩
      · obtain ⟨p, hp', e, hs⟩ := placeF_mem hf
        have hle : p + items.length ≤ name.length := by
          unfold standsB at hs
          simp only [Bool.and_eq_true, decide_eq_true_eq] at hs
          exact hs.1
        rw [if_neg hf, e, Int.toNat_natCast] at h
        refine iteF (by rw [decide_eq_false hf]; nofun) ?_
        rw [e]
        walk_at "w"
        exact ⟨_, by walk_at "pt", ih us' (p + items.length) _ _ _ _ hr' hi2 (Nat.le_trans hle hn) h⟩
end
end C3Text
section C4Text
section
variable {G : Gd} {κ : Kx} {env : Env} {σ σ' : Sto} {X : XP}
noncomputable def stepF (name : List Nat) (ps : List Nat) : Option Nat → List Nat
  | none => (List.range (name.length + 1)).filter fun k => ps.any fun p => decide (p ≤ k)
  | some c => ps.filterMap fun k => if name[k]? = some c then some (k + 1) else none
noncomputable def triedF (its : List (Option Nat)) (name : List Nat) : Bool := (its.foldl (stepF name) [0]).any fun k => k == name.length
set_option tactic.hygienic true in
theorem stepF_le {name ps : List Nat} (o : Option Nat) (h : ∀ p ∈ ps, p ≤ name.length) : ∀ p ∈ stepF name ps o, p ≤ name.length := by
  intro p hp
  cases o with
  | none => have := List.mem_range.mp (List.mem_filter.mp hp).1; walk_at "om"
  | some c =>
    obtain ⟨k, hk, e⟩ := List.mem_filterMap.mp hp
    split at e
    · rename_i hc
      have := (List.getElem?_eq_some_iff.mp hc).1
      cases e; walk_at "om"
    · cases e
theorem min_spec (ps : List Nat) (n k : Nat) (hk : k ≤ n) : decide (minI ((ps.map fun (c : Nat) => (c : Int)) ++ [(n : Int) + 1]) ≤ (k : Int)) = ps.any fun p => decide (p ≤ k) := by
  obtain ⟨h1, h2⟩ := minI_spec ((ps.map fun (c : Nat) => (c : Int)) ++ [(n : Int) + 1]) (by simp)
  rw [Bool.eq_iff_iff, decide_eq_true_eq, List.any_eq_true]
  constructor
  · intro h
    rcases List.mem_append.mp h1 with h3 | h3
    · obtain ⟨p, hp, e⟩ := List.mem_map.mp h3
      exact ⟨p, hp, decide_eq_true (by walk_at "om")⟩
    · have := List.mem_singleton.mp h3; walk_at "om"
  · rintro ⟨p, hp, h⟩
    have := h2 (p : Int) (List.mem_append_left _ (List.mem_map.mpr ⟨p, hp, rfl⟩))
    have := of_decide_eq_true h
    walk_at "om"
theorem fm_if {α β : Type} (p : α → Bool) (g : α → β) (l : List α) : l.filterMap (fun a => if p a then some (g a) else none) = (l.filter p).map g := by
  induction l with
  | nil => rfl
  | cons a l ih => cases h : p a <;> simp [h, ih]
theorem step_none (name ps : List Nat) (m : Nat) (hm : m = name.length + 1) : (rngL 0 1 m).filterMap (fun v => match v with
      | AV.int k => if (ps.any fun p => decide (p ≤ k.toNat)) = true then some (AV.int k) else none
      | _ => none) = ivs (stepF name ps none) := by
  subst hm
  rw [rngL_filterMap]
  unfold stepF ivs
  rw [← fm_if]
  refine congrArg (fun g => List.filterMap g _) (funext fun i => ?_)
  dsimp only
  rw [Int.zero_add, Int.toNat_natCast]
theorem step_some (name ps : List Nat) (c : Nat) : (ivs ps).filterMap (fun v => match v with
      | AV.int k => if name[k.toNat]? = some c then some (AV.int (k + 1)) else none
      | _ => none) = ivs (stepF name ps (some c)) := by
  unfold stepF ivs
  rw [List.filterMap_map, List.map_filterMap]
  refine congrArg (fun g => List.filterMap g _) (funext fun i => ?_)
  simp only [Function.comp, Int.toNat_natCast]
  by_cases h : name[i]? = some c
  · rw [if_pos h, if_pos h]; rfl
  · rw [if_neg h, if_neg h]; rfl
theorem stepF_len {name ps : List Nat} (o : Option Nat) (hn : name.length ≤ 60) (h : ps.length ≤ 61) : (stepF name ps o).length ≤ 61 := by
  cases o with
  | none =>
    have := List.length_filter_le (fun k => ps.any fun p => decide (p ≤ k)) (List.range (name.length + 1))
    rw [List.length_range] at this
    show (List.filter _ _).length ≤ 61
    walk_at "om"
  | some c => exact Nat.le_trans (List.length_filterMap_le ..) h
set_option tactic.hygienic true in
theorem law_tried_c (T : Top G) {n : Nat} {l : Addr} {its : List (Option Nat)} {name : List Nat} {Q : AV → Sto → Prop} (hm : (l, .list (ovs its)) ∈ σ) (hi : its.length ≤ 64) (hn : name.length ≤ 60)
    (h : Q (.bool (triedF its name)) σ) : CL G ⟨n + 2, none⟩ (.ref 142) [.ref l, .str (tx name)] σ Q X := by
  refine cl_fn' T.toTp ar18 (T.fn 18 142 rfl) rfl rfl rfl rfl nd18 (fun vs hvs => ?_) fun L => ?_
  · obtain ⟨a, b, rfl, _⟩ := two hvs; rfl
  simp only [nm18, lay_nil, lay_local, lay_cell, lay_global, layC_nil, layC_local, layC_cell, layC_global, List.zip_cons_cons, List.zip_nil_right, bn_nil, bn_cons]
  walk_at "w"
  rename_i r0
  refine ex_for .no rfl ?_ (fun _a => rfl)
  walk_at "w"
  refine ⟨.lst l, ovs its, ⟨rfl, by walk_at "mem"⟩, ?_⟩
  have hok : ∀ {p1 p2 p3 p4 p5 : Addr × AO}, SrOk (.lst l) (ovs its) (p1 :: p2 :: p3 :: p4 :: p5 :: σ) := fun {_ _ _ _ _} => .tail _ (.tail _ (.tail _ (.tail _ (.tail _ hm))))
  suffices H : ∀ (us : List (Option Nat)) (ps : List Nat) (r : Addr) (o : Option AV), (∀ p ∈ ps, p ≤ name.length) → ps.length ≤ 61 → Q (.bool ((us.foldl (stepF name) ps).any fun k => k == name.length)) σ → FR G ⟨n + 1, none⟩ _ _ _ (.lst l) (ovs its) _ NoX (ovs us)
      ((r, .list (ivs ps)) :: (L + 1 + 1 + 1, .cell o) :: (L + 1 + 1, .cell (some (.ref r))) :: (L + 1, .cell (some (.str (tx name)))) :: (L, AO.ns [(PySem.Str.ofString "items", some (.ref l))]) :: σ) from H its [0] r0 none (by simp) (by simp) h
  intro us
  induction us with
  | nil =>
    intro ps r o hp hl h
    refine ⟨hok, ?_⟩
    walk_at "w"
    refine op_in_list (fun v => match v with | .int k => k == (name.length : Int) | _ => false) (by walk_at "mem") (fun a ha => ?_) ?_
    · obtain ⟨k, _, rfl⟩ := List.mem_map.mp ha
      exact eqb_int
    · refine ⟨σ, by walk_at "pt", ?_⟩
      have e : (ivs ps).any (fun v => match v with | .int k => k == (name.length : Int) | _ => false) = ps.any fun k => k == name.length := by
        unfold ivs; rw [List.any_map]
        congr 1; funext k
        simp only [Function.comp]
        rw [Bool.eq_iff_iff, beq_iff_eq, beq_iff_eq]; walk_at "om"
      rw [e]; exact h
  | cons u us ih =>
    intro ps r o hp hl h
    refine fr_step hok ?_
    have hp' := stepF_le u hp
    have hl' := stepF_len u hn hl
    cases u with
    | none =>
      walk_at "w"
      walk_at "if"
      walk_at "w"
      walk_at "lc"
      walk_at "w"
      refine ⟨.rng 0 1, _, ⟨_, _, rfl, by walk_at "mem", rfl⟩, by walk_at "sz", fun v => match v with | .int k => if ps.any fun p => decide (p ≤ k.toNat) then some (.int k) else none | _ => none, ?_, fun r' => ?_⟩
      · intro r C y done hy
        obtain ⟨k, hk, rfl⟩ := mem_rng01 hy
        walk_at "w"
        refine op_add_list (by walk_at "mem") (by walk_at "mem") (by simp only [ivs_len, List.length_cons, List.length_nil, sizeLine_eq]; walk_at "om") fun r3 => ?_
        walk_at "w"
        refine cl_min' rfl (by walk_at "mem") (ns := (ps.map fun (c : Nat) => (c : Int)) ++ [(name.length : Int) + 1]) (by rw [ivs_ints]; simp [intsA]) (by simp) ?_
        walk_at "w"
        by_cases hb : ps.any (fun p => decide (p ≤ k)) = true
        · refine iteT ((min_spec ps name.length k (by walk_at "om")).trans hb) ?_
          walk_at "w"
          exact ⟨by walk_at "pt", if_pos hb⟩
        · refine iteF (by rw [min_spec ps name.length k (by walk_at "om")]; exact hb) ?_
          exact ⟨by walk_at "pt", if_neg hb⟩
      · walk_at "w"
        rw [step_none name ps _ (by walk_at "om")]
        exact ⟨_, by walk_at "pt", ih (stepF name ps none) r' _ hp' hl' h⟩
    | some c =>
      walk_at "w"
      walk_at "if"
      walk_at "w"
      walk_at "lc"
      walk_at "w"
      refine ⟨.lst r, _, ⟨rfl, by walk_at "mem"⟩, by rw [ivs_len, sizeLine_eq]; walk_at "om", fun v => match v with | .int k => if name[k.toNat]? = some c then some (.int (k + 1)) else none | _ => none, ?_, fun r' => ?_⟩
      · intro r C y done hy
        obtain ⟨k, hk, rfl⟩ := List.mem_map.mp hy
        walk_at "w"
        by_cases hk' : k < name.length
        · refine iteT (decide_eq_true (by walk_at "om")) ?_
          walk_at "w"
          refine sub_tx k hk' (by trivial) rfl (by walk_at "om") ?_
          walk_at "w"
          rw [chr_eq]
          by_cases hc : name[k] = c
          · refine iteT (beq_iff_eq.mpr hc) ?_
            walk_at "w"
            exact ⟨by walk_at "pt", if_pos (by show name[k]? = some c; rw [List.getElem?_eq_getElem hk', hc])⟩
          · refine iteF (by rw [beq_iff_eq]; exact hc) ?_
            exact ⟨by walk_at "pt", if_neg (by show ¬ name[k]? = some c; rw [List.getElem?_eq_getElem hk']; exact fun e => hc (by injection e))⟩
        · refine iteF (by rw [decide_eq_true_eq]; walk_at "om") ?_
          walk_at "if"
          exact ⟨by walk_at "pt", if_neg (by show ¬ name[k]? = some c; rw [List.getElem?_eq_none (by walk_at "om")]; nofun)⟩
      · walk_at "w"
        rw [step_some]
        exact ⟨_, by walk_at "pt", ih (stepF name ps (some c)) r' _ hp' hl' h⟩
end
end C4Text
section C5Text
section
variable {G : Gd} {κ : Kx} {env : Env} {σ σ' : Sto} {X : XP}
noncomputable def tab : Nat → Option Nat
  | 0 => none | 1 => some 97 | 2 => some 98 | 3 => some 47 | 4 => some 46 | _ => some 63
noncomputable def digit (number : Int) (k : Nat) : Nat := ((number.fdiv (6 ^ k)).fmod 6).toNat
noncomputable def itemsF (number : Int) : List (Option Nat) :=
  let its := (List.range 5).map fun k => tab (digit number k)
  if its.any (·.isNone) then its else its.take (number.fmod 5).toNat ++ [none] ++ its.drop (number.fmod 5).toNat
noncomputable def ov1 : Option Nat → AV
  | none => .none
  | some c => .str (chr c)
theorem fmod_in (a b : Int) (h : 0 < b) : 0 ≤ a.fmod b ∧ a.fmod b < b := by
  rw [Int.fmod_eq_emod_of_nonneg _ (Int.le_of_lt h)]
  exact ⟨Int.emod_nonneg _ (Int.ne_of_gt h), Int.emod_lt_of_pos _ h⟩
theorem digit_lt (number : Int) (k : Nat) : digit number k < 6 := by
  unfold digit
  obtain ⟨h1, h2⟩ := fmod_in (number.fdiv (6 ^ k)) 6 (by decide)
  exact (Int.toNat_lt h1).mpr h2
theorem tab_get (j : Nat) (h : j < 6) : ([AV.none, .str (PySem.Str.ofString "a"), .str (PySem.Str.ofString "b"), .str (PySem.Str.ofString "/"), .str (PySem.Str.ofString "."), .str (PySem.Str.ofString "?")] : List AV)[j]? = some (ov1 (tab j)) := by
  match j, h with
  | 0, _ => rfl
  | 1, _ => rfl
  | 2, _ => rfl
  | 3, _ => rfl
  | 4, _ => rfl
  | 5, _ => rfl
theorem items_map (number : Int) : (rngL 0 1 5).filterMap (fun v => match v with | .int k => some (ov1 (tab (digit number k.toNat))) | _ => none) = ovs ((List.range 5).map fun k => tab (digit number k)) := by
  rfl
theorem ovs_any (l : List (Option Nat)) : (ovs l).any (fun v => decide (v = .none)) = l.any (·.isNone) := by
  unfold ovs; rw [List.any_map]
  congr 1; funext o
  cases o <;> simp
theorem slcL_up {α : Type} (l : List α) (i : Int) (h : 0 ≤ i) : slcL l none (some i) = l.take i.toNat := by
  unfold slcL kms_lo kms_hi
  simp only [if_neg (Int.not_lt.mpr h), List.drop_zero, Nat.sub_zero]
  exact kmk_take_min l i.toNat
theorem slcL_from {α : Type} (l : List α) (i : Int) (h : 0 ≤ i) : slcL l (some i) none = l.drop i.toNat := by
  unfold slcL kms_lo kms_hi
  simp only [if_neg (Int.not_lt.mpr h)]
  rw [kmk_drop_min]
  exact List.take_of_length_le (by rw [List.length_drop]; exact Nat.sub_le_sub_left (Nat.min_le_left _ _) _)
theorem itemsF_len (number : Int) : (itemsF number).length ≤ 6 := by
  unfold itemsF
  dsimp only
  split
  · simp
  · simp only [List.length_append, List.length_take, List.length_drop, List.length_map, List.length_range, List.length_cons, List.length_nil]
    exact Nat.le_of_eq (by rw [Nat.add_right_comm, Nat.add_comm (min _ _), Nat.min_comm, Nat.sub_add_min_cancel])
theorem law_items_c (T : Top G) {n : Nat} {number : Int} {Q : AV → Sto → Prop} (h : ∀ r, Q (.ref r) ((r, .list (ovs (itemsF number))) :: σ)) : CL G ⟨n + 2, none⟩ (.ref 137) [.int number] σ Q X := by
  refine cl_fn' T.toTp ar17 (T.fn 17 137 rfl) rfl rfl rfl rfl nd17 (fun vs hvs => ?_) fun L => ?_
  · obtain ⟨a, rfl, _⟩ := one hvs; rfl
  simp only [nm17, lay_nil, lay_local, lay_cell, lay_global, layC_nil, layC_local, layC_cell, layC_global, List.zip_cons_cons, List.zip_nil_right, bn_nil, bn_cons]
  walk_at "w"
  (((with_reducible refine' ex_lc_pure rfl ?hclos rfl ?hnames ?hnd ?hs ?hlay ?hcells ?hx ?hkind ?hsw ?_); (case hclos => rfl); (case hnames => decide +kernel); (case hnd => decide +kernel); (case hs => exact fun _ => rfl); (case hlay => rfl); (case hcells => exact fun _ _ => rfl); (case hx => exact fun _ => rfl); (case hkind => exact fun _ => rfl); (case hsw => rfl)))
  walk_at "w"
  refine ⟨.rng 0 1, _, ⟨_, _, rfl, by walk_at "mem", rfl⟩, by walk_at "sz", fun v => match v with | .int k => some (ov1 (tab (digit number k.toNat))) | _ => none, ?_, fun r C o => ?_⟩
  · intro r C y done hy
    obtain ⟨k, hk, rfl⟩ := mem_rng01 hy
    have hk5 : k < 5 := hk
    walk_at "w"
    walk_at "if"
    walk_at "w"
    refine op_pow (Int.natCast_nonneg _) (Int.ofNat_le.mpr (Nat.le_trans (Nat.le_of_lt hk5) (by decide))) (by decide) ?_
    walk_at "w"
    have hpow : (6 : Int) ^ k = ((6 ^ k : Nat) : Int) := by norm_cast
    have hle : 6 ^ k ≤ 6 ^ 4 := Nat.pow_le_pow_right (by decide) (Nat.le_of_lt_succ hk5)
    have hpos : 0 < 6 ^ k := Nat.pow_pos (by decide)
    refine op_floordiv (by rw [hpow]; exact Int.ne_of_gt (Int.ofNat_lt.mpr hpos)) (by rw [hpow, Int.natAbs_natCast]; exact Nat.lt_of_le_of_lt hle (by decide)) ?_
    walk_at "w"
    refine op_mod (by decide) ?_
    have hnn := (fmod_in (number.fdiv (6 ^ k)) 6 (by decide)).1
    refine sub_list (v := ov1 (tab (digit number k))) (by trivial) (by walk_at "mem") hnn (by walk_at "sz") (tab_get _ (digit_lt number k)) ?_
    exact ⟨by walk_at "pt", rfl⟩
  · rw [show (Int.toNat 5) = 5 from rfl, items_map]
    walk_at "w"
    refine cend_here ?_
    walk_at "w"
    have hu : itemsF number = if ((List.range 5).map fun k => tab (digit number k)).any (·.isNone) then ((List.range 5).map fun k => tab (digit number k)) else ((List.range 5).map fun k => tab (digit number k)).take (number.fmod 5).toNat ++ [none] ++ ((List.range 5).map fun k => tab (digit number k)).drop (number.fmod 5).toNat := rfl
    have hlen : ((List.range 5).map fun k => tab (digit number k)).length = 5 := by simp
    generalize ((List.range 5).map fun k => tab (digit number k)) = its at hu hlen ⊢
    rw [hu] at h
    have hol : (ovs its).length = 5 := by unfold ovs; rw [List.length_map, hlen]
    refine op_in_list (fun v => decide (v = .none)) (by walk_at "mem") (fun a ha => ?_) ?_
    · obtain ⟨o, _, rfl⟩ := List.mem_map.mp ha
      cases o with
      | none => exact eqb_none
      | some c => exact eqb_str_none
    rw [ovs_any]
    walk_at "w"
    by_cases hb : its.any (·.isNone) = true
    · rw [if_pos hb] at h
      refine iteT hb ?_
      walk_at "w"
      exact ⟨_, by walk_at "pt", h r⟩
    · rw [if_neg hb] at h
      refine iteF hb ?_
      have hm5 := (fmod_in number 5 (by decide)).1
      walk_at "w"
      walk_at "sll"
      walk_at "w"
      refine op_mod (by decide) ⟨r, _, _, _, rfl, by walk_at "mem", .none, .int, by rw [hol, sizeLine_eq]; walk_at "om", fun r1 => ?_⟩
      walk_at "w"
      refine op_add_list (by walk_at "mem") (by walk_at "mem") (by rw [sizeLine_eq, List.length_cons, List.length_nil]; exact Nat.le_trans (Nat.add_le_add_right (slcL_le ..) 1) (by rw [hol]; decide)) fun r3 => ?_
      walk_at "sll"
      walk_at "w"
      refine op_mod (by decide) ⟨r, _, _, _, rfl, by walk_at "mem", .int, .none, by rw [hol, sizeLine_eq]; walk_at "om", fun r4 => ?_⟩
      refine op_add_list (by walk_at "mem") (by walk_at "mem") (by rw [sizeLine_eq, List.length_append, List.length_cons, List.length_nil]; exact Nat.le_trans (Nat.add_le_add (Nat.add_le_add_right (slcL_le ..) 1) (slcL_le ..)) (by rw [hol]; decide)) fun r5 => ?_
      rw [slcL_up _ _ hm5, slcL_from _ _ hm5]
      refine ⟨_, ?_, h r5⟩
      have e : ovs (its.take (number.fmod 5).toNat ++ [none] ++ its.drop (number.fmod 5).toNat) = (ovs its).take (number.fmod 5).toNat ++ [.none] ++ (ovs its).drop (number.fmod 5).toNat := by
        unfold ovs; simp [List.map_take, List.map_drop]
      rw [e]
      walk_at "pt"
end
end C5Text
section C6Text
section
variable {G : Gd} {κ : Kx} {env : Env} {σ σ' : Sto} {X : XP}
set_option genInjectivity true in
inductive Tk | lazy | greedy | close | ch (c : Nat) | esc (c : Nat) | cls
noncomputable def Tk.tx : Tk → List Nat
  | .lazy => [40, 63, 62, 46, 42, 63] | .greedy => [46, 42] | .close => [41] | .ch c => [c] | .esc c => [92, c] | .cls => [91, 63, 93]
noncomputable def tksTx : List Tk → List Nat
  | [] => [] | t :: r => t.tx ++ tksTx r
theorem tksTx_cons (t : Tk) (r : List Tk) : tksTx (t :: r) = t.tx ++ tksTx r := rfl
theorem tksTx_nil : tksTx [] = [] := rfl
noncomputable def pstep (st : List (Sk × List Nat)) (t : Tk) : List (Sk × List Nat) := match t with
  | .lazy => (.lazy, []) :: st | .greedy => (.greedy, []) :: st | .close => (.fix, []) :: st
  | .ch c => match st with | (s, its) :: r => (s, its ++ [c]) :: r | [] => []
  | .esc c => match st with | (s, its) :: r => (s, its ++ [c]) :: r | [] => []
  | .cls => match st with | (s, its) :: r => (s, its ++ [63]) :: r | [] => []
noncomputable def tkOk (st : List (Sk × List Nat)) (t : Tk) : Prop := match t with
  | .close => ∃ its r, st = (.lazy, its) :: r
  | .ch c => c = 97 ∨ c = 98 ∨ c = 47
  | .esc c => c = 46 ∨ c = 63
  | _ => True
noncomputable def tksOk : List (Sk × List Nat) → List Tk → Prop
  | _, [] => True
  | st, t :: r => tkOk st t ∧ tksOk (pstep st t) r
noncomputable abbrev PA := Addr × Addr × Sk × List Nat
noncomputable def pst : List PA → Sto
  | [] => []
  | (r, q, st, items) :: rest => (r, .list [.str st.tx, .ref q]) :: (q, .list (chs items)) :: pst rest
theorem pst_cons (r q : Addr) (st : Sk) (items : List Nat) (rest : List PA) : pst ((r, q, st, items) :: rest) = (r, .list [.str st.tx, .ref q]) :: (q, .list (chs items)) :: pst rest := rfl
noncomputable def prefs (l : List PA) : List AV := l.map fun p => .ref p.1
noncomputable def pq (l : List PA) : List AV := (prefs l).reverse
noncomputable def pdat (l : List PA) : List (Sk × List Nat) := l.map fun p => p.2.2
theorem PartsAt.mono {τ τ' : Sto} {us : List AV} {ps : List (Sk × List Nat)} (h : PartsAt τ us ps) (hs : ∀ x ∈ τ, x ∈ τ') : PartsAt τ' us ps := by
  induction h with
  | nil => exact .nil
  | cons hr hq _ ih => exact .cons (hs _ hr) (hs _ hq) ih
theorem PartsAt.append {τ : Sto} {us vs : List AV} {ps qs : List (Sk × List Nat)} (h : PartsAt τ us ps) (h' : PartsAt τ vs qs) : PartsAt τ (us ++ vs) (ps ++ qs) := by
  induction h with
  | nil => exact h'
  | cons hr hq _ ih => exact .cons hr hq ih
theorem parts_at : ∀ (l : List PA), PartsAt (pst l) (prefs l).reverse (pdat l).reverse
  | [] => .nil
  | (r, q, st, items) :: rest => by
    show PartsAt _ ((.ref r) :: prefs rest).reverse ((st, items) :: pdat rest).reverse
    rw [List.reverse_cons, List.reverse_cons]
    refine ((parts_at rest).mono fun x hx => .tail _ (.tail _ hx)).append (.cons (.head _) (.tail _ (.head _)) .nil)
theorem idx_cls (pre r : List Nat) : Builtin.Str.occurrences (tx (pre ++ 91 :: 63 :: 93 :: r)) (PySem.Str.ofString "]") (fromIndex (tx (pre ++ 91 :: 63 :: 93 :: r)).length (pre.length : Int)) (tx (pre ++ 91 :: 63 :: 93 :: r)).length 1 = [pre.length + 2] := by
  have h0 : fromIndex (tx (pre ++ 91 :: 63 :: 93 :: r)).length (pre.length : Int) = pre.length := by
    unfold fromIndex
    rw [if_neg (Int.not_lt.mpr (Int.natCast_nonneg _)), Int.max_eq_right (Int.natCast_nonneg _)]; rfl
  rw [h0, show PySem.Str.ofString "]" = chr 93 from rfl, tx_len, occ_from]
  rw [show (pre ++ 91 :: 63 :: 93 :: r).length + 1 - pre.length = r.length + 1 + 1 + 1 + 1 by rw [List.length_append, Nat.add_assoc, Nat.add_sub_cancel_left]; rfl]
  rw [List.range'_succ, List.range'_succ, List.range'_succ]
  have g : ∀ k, (pre ++ 91 :: 63 :: 93 :: r)[pre.length + k]? = (91 :: 63 :: 93 :: r)[k]? := fun k => by
    rw [List.getElem?_append_right (Nat.le_add_right ..), Nat.add_sub_cancel_left]
  have g0 := g 0
  have g1 := g 1
  have g2 := g 2
  rw [Nat.add_zero] at g0
  rw [List.filter_cons, if_neg (by rw [g0]; exact (by decide : ¬ ((some 91 : Option Nat) == some 93) = true)), List.filter_cons, if_neg (by rw [g1]; exact (by decide : ¬ ((some 63 : Option Nat) == some 93) = true)), List.filter_cons, if_pos (by rw [g2]; exact (by decide : ((some 93 : Option Nat) == some 93) = true))]
  rfl
/-- what stands for a sign read by itself -/
noncomputable def itm (c : Nat) : PySem.Str := if (PySem.Str.ofString ".^$*+?{}|()").cps.toList.contains c = true then PySem.Str.ofString "" else chr c
theorem ite_ev {b : Bool} {e1 e2 : PySem.Expr} {Q : AV → Sto → Prop} {v : AV} (h1 : b = true → ∀ Q : AV → Sto → Prop, Q v σ → EV G κ env e1 σ Q X) (h2 : b = false → ∀ Q : AV → Sto → Prop, Q v σ → EV G κ env e2 σ Q X) (h : Q v σ) :
    if b = true then EV G κ env e1 σ Q X else EV G κ env e2 σ Q X := by
  cases b with
  | true => exact h1 rfl Q h
  | false => exact h2 rfl Q h
/-- which token it is, by its first sign -/
theorem tk_head {st : List (Sk × List Nat)} {t : Tk} {ts : List Tk} {c : Nat} {r : List Nat} (ok : tkOk st t) (e : tksTx (t :: ts) = c :: r) :
    (c = 40 → t = .lazy) ∧ (c = 46 → t = .greedy) ∧ (c = 41 → t = .close) ∧ (c = 91 → t = .cls) ∧ (c = 92 → ∃ d, t = .esc d) ∧ (c ≠ 40 → c ≠ 46 → c ≠ 41 → c ≠ 91 → c ≠ 92 → ∃ d, t = .ch d) := by
  cases t with
  | ch d =>
    obtain rfl : d = c := (List.cons.inj e).1
    rcases ok with rfl | rfl | rfl <;> exact ⟨nofun, nofun, nofun, nofun, nofun, fun _a _b _c _d _e => ⟨_, rfl⟩⟩
  | _ =>
    have e := (List.cons.inj e).1
    subst e
    simp
theorem pq_cons (x : PA) (l : List PA) : pq (x :: l) = pq l ++ [.ref x.1] := by simp [pq, prefs]
theorem idx_cls' {w pre r : List Nat} {p : Int} (hw : w = pre ++ 91 :: 63 :: 93 :: r) (hp : p = pre.length) : Builtin.Str.occurrences (tx w) (PySem.Str.ofString "]") (fromIndex (tx w).length p) (tx w).length 1 = [pre.length + 2] := by
  subst hw hp; exact idx_cls pre r
set_option tactic.hygienic true in
theorem law_parts_c (T : Top G) {n : Nat} {toks : List Tk} {Q : AV → Sto → Prop} (hok : tksOk [(.fix, [])] toks) (hl : (tksTx toks).length ≤ 1000)
    (h : ∀ l us pp, PartsAt pp us (toks.foldl pstep [(.fix, [])]).reverse → Q (.ref l) ((l, .list us) :: (pp ++ σ))) : CL G ⟨n + 2, none⟩ (.ref 149) [.str (tx (tksTx toks))] σ Q X := by
  refine cl_fn' T.toTp ar19 (T.fn 19 149 rfl) rfl rfl rfl rfl nd19 (fun vs hvs => ?_) fun L => ?_
  · obtain ⟨a, rfl, _⟩ := one hvs; rfl
  simp only [nm19, lay_nil, lay_local, lay_global, layC_nil, layC_local, layC_global, List.zip_cons_cons, List.zip_nil_right, bn_nil, bn_cons]
  walk_at "w"
  rename_i ql rl l _
  refine ex_while .no ?_
  suffices H : ∀ (ts : List Tk) (pre : List Nat) (rl ql : Addr) (sk : Sk) (its : List Nat) (rest : List PA) (p : Int) (ps cs : List AV) (o1 o2 : Option AV), tksOk ((sk, its) :: pdat rest) ts → p = pre.length → ps = pq rest ++ [.ref rl] → cs = chs its → tksTx toks = pre ++ tksTx ts → rest.length + its.length ≤ pre.length →
      (∀ l us pp, PartsAt pp us (ts.foldl pstep ((sk, its) :: pdat rest)).reverse → Q (.ref l) ((l, .list us) :: (pp ++ σ))) →
      WH G ⟨n + 1, none⟩ _ _ _ _ ((rl, .list [.str sk.tx, .ref ql]) :: (ql, .list cs) :: (l, .list ps) :: (L, AO.ns [(PySem.Str.ofString "text", some (.str (tx (tksTx toks)))), (PySem.Str.ofString "place", some (.int p)), (PySem.Str.ofString "parts", some (.ref l)), (PySem.Str.ofString "end", o1), (PySem.Str.ofString "item", o2)]) :: (pst rest ++ σ)) _ NoX from
    wh_from (H toks [] rl ql .fix [] [] 0 _ _ none none hok rfl rfl rfl rfl (Nat.le_refl _) h) (by walk_at "pt")
  have hz : (tksTx toks).length ≤ 16777216 := Nat.le_trans hl (by decide)
  generalize tksTx toks = w at hl hz ⊢
  clear hok h
  intro ts
  induction ts with
  | nil =>
    intro pre rl ql sk its rest p ps cs o1 o2 hok hp hps hcs ht hr h
    refine wh_step .no ?_
    walk_at "w"
    refine iteF (by rw [decide_eq_true_eq, ht, hp]; simp [tksTx_nil]) ?_
    walk_at "w"
    have hq := parts_at ((rl, ql, sk, its) :: rest)
    rw [show (prefs ((rl, ql, sk, its) :: rest)).reverse = ps from by rw [hps]; simp [prefs, pq], pst_cons, ← hcs] at hq
    exact ⟨_, by walk_at "pt", h l _ _ hq⟩
  | cons t ts ih =>
    intro pre rl ql sk its rest p ps cs o1 o2 hok hp hps hcs ht hr h
    subst hcs
    refine wh_step .no ?_
    have hlt : rest.length + its.length ≤ 1000 := by
      rw [ht, List.length_append] at hl; walk_at "om"
    have hpq : ps.length ≤ sizeLine := by
      rw [hps, sizeLine_eq]; simp [pq, prefs]; walk_at "om"
    have hit : (chs its).length ≤ sizeLine := by
      rw [chs_len, sizeLine_eq]; walk_at "om"
    have hpl : ps[rest.length]? = some (.ref rl) := by rw [hps]; simp [pq, prefs]
    obtain ⟨c, r, e⟩ : ∃ c r, tksTx (t :: ts) = c :: r := by cases t <;> exact ⟨_, _, rfl⟩
    have hw : w = pre ++ c :: r := ht.trans (congrArg (pre ++ ·) e)
    obtain ⟨k40, k46, k41, k91, k92, kch⟩ := tk_head hok.1 e
    walk_at "w"
    refine iteT (decide_eq_true (by rw [hw, hp, List.length_append, List.length_cons]; walk_at "om")) ?_
    walk_at "w"
    refine sub_at 0 hw hp rfl (by trivial) (Int.add_zero p).symm hz ?_
    walk_at "w"
    refine ite_ev (v := .str (itm c)) (fun hb Q hQ => ?_) (fun hb Q hQ => ?_) ?_
    · walk_at "w"
      unfold itm at hQ
      rwa [if_pos hb] at hQ
    · walk_at "w"
      refine sub_at 0 hw hp rfl (by trivial) (Int.add_zero p).symm hz ?_
      unfold itm at hQ
      rwa [if_neg (by rw [hb]; nofun)] at hQ
    walk_at "w"
    walk_at "sls"
    walk_at "w"
    refine sls_at 6 hw hp rfl rfl hz ?_
    walk_at "w"
    by_cases h40 : c = 40
    · obtain rfl := k40 h40
      have e : 40 :: 63 :: 62 :: 46 :: 42 :: 63 :: tksTx ts = c :: r := e
      obtain ⟨rfl, rfl⟩ := List.cons.inj e
      walk_at "if"
      walk_at "if"
      walk_at "w"
      refine sub_at 0 hw hp rfl (by trivial) (Int.add_zero p).symm hz ?_
      walk_at "w"
      walk_at "if"
      walk_at "w"
      walk_at "sls"
      walk_at "w"
      refine sls_at 6 hw hp rfl rfl hz ?_
      walk_at "w"
      obtain ⟨e1, e2⟩ := at_end [40, 63, 62, 46, 42, 63] hw hp
      exact ⟨_, by walk_at "pt", ih _ _ _ .lazy [] ((rl, ql, sk, its) :: rest) _ _ _ _ _ hok.2 e1 (by rw [pq_cons, ← hps]) rfl e2 (by simp; walk_at "om") h⟩
    refine iteF (nb (beq_head h40)) ?_
    walk_at "w"
    walk_at "sls"
    walk_at "w"
    refine sls_at 2 hw hp rfl rfl hz ?_
    walk_at "w"
    by_cases h46 : c = 46
    · obtain rfl := k46 h46
      have e : 46 :: 42 :: tksTx ts = c :: r := e
      obtain ⟨rfl, rfl⟩ := List.cons.inj e
      walk_at "if"
      walk_at "w"
      refine sub_at 0 hw hp rfl (by trivial) (Int.add_zero p).symm hz ?_
      walk_at "w"
      walk_at "if"
      walk_at "w"
      walk_at "sls"
      walk_at "w"
      refine sls_at 2 hw hp rfl rfl hz ?_
      walk_at "w"
      obtain ⟨e1, e2⟩ := at_end [46, 42] hw hp
      exact ⟨_, by walk_at "pt", ih _ _ _ .greedy [] ((rl, ql, sk, its) :: rest) _ _ _ _ _ hok.2 e1 (by rw [pq_cons, ← hps]) rfl e2 (by simp; walk_at "om") h⟩
    refine iteF (nb (beq_head h46)) ?_
    walk_at "w"
    refine sub_at 0 hw hp rfl (by trivial) (Int.add_zero p).symm hz ?_
    walk_at "w"
    by_cases h41 : c = 41
    · obtain rfl := k41 h41
      have e : 41 :: tksTx ts = c :: r := e
      obtain ⟨rfl, rfl⟩ := List.cons.inj e
      obtain ⟨its', r', e⟩ := hok.1
      obtain rfl : sk = .lazy := by injection e with e; injection e
      walk_at "if"
      walk_at "w"
      refine sub_list_last (v := .ref rl) (by trivial) (by walk_at "mem") (by rw [hps]; simp) ?_
      walk_at "w"
      refine sub_list (v := .str Sk.lazy.tx) (by trivial) (by walk_at "mem") (by walk_at "om") (by walk_at "sz") rfl ?_
      walk_at "w"
      walk_at "if"
      walk_at "w"
      obtain ⟨e1, e2⟩ := at_end [41] hw hp
      exact ⟨_, by walk_at "pt", ih _ _ _ .fix [] ((rl, ql, .lazy, its) :: rest) _ _ _ _ _ hok.2 e1 (by rw [pq_cons, ← hps]) rfl e2 (by simp; walk_at "om") h⟩
    refine iteF (nb (beq_head h41)) ?_
    walk_at "if"
    walk_at "w"
    refine sub_at 0 hw hp rfl (by trivial) (Int.add_zero p).symm hz ?_
    walk_at "w"
    by_cases h91 : c = 91
    · obtain rfl := k91 h91
      have e : 91 :: 63 :: 93 :: tksTx ts = c :: r := e
      obtain ⟨rfl, rfl⟩ := List.cons.inj e
      walk_at "if"
      walk_at "w"
      ((with_reducible refine ev_meth_str F.slot_str_index F.type_str_index ?hb ?hf ?hl ?hs ?_); walk_at "m4")
      walk_at "w"
      refine ⟨_, rfl, ?_⟩
      walk_at "w"
      refine cl_index_from (idx_cls' hw hp) ?_
      walk_at "w"
      refine sub_at 1 hw hp rfl (by trivial) rfl hz ?_
      walk_at "w"
      walk_at "if"
      walk_at "w"
      walk_at "sls"
      walk_at "w"
      refine sls_at2 1 1 (r := [63]) rfl hw hp rfl (by rw [hp]; walk_at "om") hz ?_
      walk_at "w"
      refine sub_list_last (v := .ref rl) (by trivial) (by walk_at "mem") (by rw [hps]; simp) ?_
      walk_at "w"
      refine sub_list (v := .ref ql) (by trivial) (by walk_at "mem") (by walk_at "om") (by walk_at "sz") rfl ?_
      walk_at "w"
      refine sub_list (by trivial) (by walk_at "mem") (by walk_at "om") (by walk_at "sz") rfl ?_
      walk_at "w"
      obtain ⟨e1, e2⟩ := at_end [91, 63, 93] hw hp
      exact ⟨_, by walk_at "pt", ih _ rl ql sk (its ++ [63]) rest _ _ _ _ _ hok.2 (by rw [← e1, hp]; rfl) hps (by rw [chs_snoc]; rfl) e2 (by simp; walk_at "om") h⟩
    refine iteF (nb (beq_head h91)) ?_
    walk_at "w"
    refine sub_at 0 hw hp rfl (by trivial) (Int.add_zero p).symm hz ?_
    walk_at "w"
    by_cases h92 : c = 92
    · obtain ⟨d, rfl⟩ := k92 h92
      have e : 92 :: d :: tksTx ts = c :: r := e
      obtain ⟨rfl, rfl⟩ := List.cons.inj e
      walk_at "if"
      walk_at "w"
      ((with_reducible refine ev_meth_str F.slot_str_isalnum F.type_str_isalnum ?hb ?hf ?hl ?hs ?_); walk_at "m4")
      walk_at "w"
      refine sub_at 1 hw hp rfl (by trivial) rfl hz ?_
      refine ⟨_, rfl, ?_⟩
      walk_at "w"
      refine cl_isalnum ?_
      walk_at "w"
      refine iteF (by rcases hok.1 with rfl | rfl <;> decide +kernel) ?_
      walk_at "w"
      refine sub_at 1 hw hp rfl (by trivial) rfl hz ?_
      walk_at "w"
      refine sub_list_last (v := .ref rl) (by trivial) (by walk_at "mem") (by rw [hps]; simp) ?_
      walk_at "w"
      refine sub_list (v := .ref ql) (by trivial) (by walk_at "mem") (by walk_at "om") (by walk_at "sz") rfl ?_
      walk_at "w"
      refine sub_list (by trivial) (by walk_at "mem") (by walk_at "om") (by walk_at "sz") rfl ?_
      walk_at "w"
      obtain ⟨e1, e2⟩ := at_end [92, d] hw hp
      exact ⟨_, by walk_at "pt", ih _ rl ql sk (its ++ [d]) rest _ _ _ _ _ hok.2 e1 hps (by rw [chs_snoc]) e2 (by simp; walk_at "om") h⟩
    refine iteF (nb (beq_head h92)) ?_
    walk_at "w"
    obtain ⟨d, rfl⟩ := kch h40 h46 h41 h91 h92
    have e : d :: tksTx ts = c :: r := e
    obtain ⟨rfl, rfl⟩ := List.cons.inj e
    have ec : itm d = chr d := by
      rcases hok.1 with rfl | rfl | rfl <;> rfl
    refine sub_list_last (v := .ref rl) (by trivial) (by walk_at "mem") (by rw [hps]; simp) ?_
    walk_at "w"
    refine sub_list (v := .ref ql) (by trivial) (by walk_at "mem") (by walk_at "om") (by walk_at "sz") rfl ?_
    walk_at "w"
    refine sub_list (by trivial) (by walk_at "mem") (by walk_at "om") (by walk_at "sz") rfl ?_
    walk_at "w"
    obtain ⟨e1, e2⟩ := at_end [d] hw hp
    exact ⟨_, by walk_at "pt", ih _ rl ql sk (its ++ [d]) rest _ _ _ _ _ hok.2 e1 hps (by rw [chs_snoc, ec]) e2 (by simp; walk_at "om") h⟩
end
end C6Text
section C7Text
section
variable {G : Gd} {κ : Kx} {env : Env} {σ σ' : Sto} {X : XP}
noncomputable def bvs (l : List Bool) : List AV := l.map .bool
noncomputable def dueF (vs : List Bool) (gs : List Int) : Bool := maxI (gs ++ [0]) == 0 || (vs.zip gs).any fun p => p.1 && p.2 == maxI (gs ++ [0])
inductive FarsAt (σ : Sto) (name : PySem.Str) : List AV → List Int → Prop
  | nil : FarsAt σ name [] []
  | cons {d : Addr} {es : List (PySem.Str × AV)} {g : Int} {fs : List AV} {gs : List Int} (hm : (d, .dict es) ∈ σ) (hv : dget es name = some (.int g)) (h : FarsAt σ name fs gs) : FarsAt σ name (.ref d :: fs) (g :: gs)
theorem FarsAt.get {name : PySem.Str} {fs : List AV} {gs : List Int} (h : FarsAt σ name fs gs) : ∀ k, k < gs.length → ∃ d es, fs[k]? = some (.ref d) ∧ (d, .dict es) ∈ σ ∧ dget es name = gs[k]?.map .int := by
  induction h with
  | nil => intro k hk; cases hk
  | cons hm hv h ih =>
    intro k hk
    cases k with
    | zero => exact ⟨_, _, rfl, hm, by simpa using hv⟩
    | succ k => exact ih k (by simpa using hk)
theorem FarsAt.len {name : PySem.Str} {fs : List AV} {gs : List Int} (h : FarsAt σ name fs gs) : fs.length = gs.length := by
  induction h with
  | nil => rfl
  | cons _ _ _ ih => simp [ih]
set_option tactic.hygienic true in
theorem due_any (vs : List Bool) (gs : List Int) (B : Int) (hl : vs.length = gs.length) : ((rngL 0 1 gs.length).filterMap (fun v => match v with
      | AV.int k => if gs[k.toNat]? = some B then (vs[k.toNat]?).map AV.bool else none
      | _ => none)).any (fun v => decide (v = AV.bool true)) = (vs.zip gs).any fun p => p.1 && p.2 == B := by
  rw [rngL_filterMap, Bool.eq_iff_iff, List.any_eq_true, List.any_eq_true]
  constructor
  · rintro ⟨v, hv, e⟩
    obtain ⟨k, hk, e1⟩ := List.mem_filterMap.mp hv
    have hk := List.mem_range.mp hk
    dsimp only at e1
    rw [Int.zero_add, Int.toNat_natCast] at e1
    split at e1
    · rename_i hg
      rw [List.getElem?_eq_getElem hk] at hg
      rw [List.getElem?_eq_getElem (by walk_at "om")] at e1
      simp only [Option.map_some, Option.some.injEq] at e1
      subst e1
      have e2 := of_decide_eq_true e
      injection e2 with e2
      injection hg with hg
      refine ⟨(vs[k], gs[k]), ?_, by rw [e2, hg]; simp⟩
      refine List.mem_iff_getElem.mpr ⟨k, by simp; walk_at "om", by simp⟩
    · cases e1
  · rintro ⟨⟨a, g⟩, hp, e⟩
    obtain ⟨k, hk, e1⟩ := List.mem_iff_getElem.mp hp
    rw [List.length_zip] at hk
    rw [List.getElem_zip] at e1
    injection e1 with e1 e2
    simp only [Bool.and_eq_true, beq_iff_eq] at e
    refine ⟨AV.bool true, List.mem_filterMap.mpr ⟨k, List.mem_range.mpr (by walk_at "om"), ?_⟩, by simp⟩
    dsimp only
    rw [Int.zero_add, Int.toNat_natCast, List.getElem?_eq_getElem (show k < gs.length by walk_at "om"), List.getElem?_eq_getElem (show k < vs.length by walk_at "om"), e1, e2, e.1, e.2, if_pos rfl]
    rfl
theorem law_due_c (T : Top G) {n : Nat} {lf lv : Addr} {fs : List AV} {gs : List Int} {vs : List Bool} {name : PySem.Str} {Q : AV → Sto → Prop} (hf : (lf, .list fs) ∈ σ) (hF : FarsAt σ name fs gs) (hv : (lv, .list (bvs vs)) ∈ σ) (hl : vs.length = gs.length) (hn : gs.length ≤ 64)
    (h : Q (.bool (dueF vs gs)) σ) : CL G ⟨n + 2, none⟩ (.ref 187) [.ref lf, .ref lv, .str name] σ Q X := by
  refine cl_fn' T.toTp ar25 (T.fn 25 187 rfl) rfl rfl rfl rfl nd25 (fun vs hvs => ?_) fun L => ?_
  · obtain ⟨a, b, c, rfl, _⟩ := three hvs; rfl
  simp only [nm25, lay_nil, lay_cell, lay_global, layC_nil, layC_cell, layC_global, List.zip_cons_cons, List.zip_nil_right, bn_nil, bn_cons]
  walk_at "w"
  (((with_reducible refine' ev_lc_inv rfl ?hclos rfl ?hnames ?hnd ?hs ?hlay ?hcells ?hx ?hkind ?_); (case hclos => rfl); (case hnames => decide +kernel); (case hnd => decide +kernel); (case hs => exact fun _ => rfl); (case hlay => rfl); (case hcells => exact fun _ _ => rfl); (case hx => exact fun _ => rfl); (case hkind => exact fun _ => rfl)))
  walk_at "w"
  refine ⟨.lst lf, fs, ⟨rfl, by walk_at "mem"⟩, by rw [hF.len, sizeLine_eq]; walk_at "om", fun ys done τ => τ = _ ∧ ∃ g1 g2, gs = g1 ++ g2 ∧ done = intsA g1 ∧ FarsAt σ name ys g2, ⟨rfl, [], gs, rfl, rfl, hF⟩, ?_, ?_, ?_⟩
  · rintro ys done τ ⟨rfl, _⟩
    show (lf, AO.list fs) ∈ _
    walk_at "mem"
  · rintro r C y ys done τ ⟨rfl, g1, g2, e1, e2, hF'⟩
    cases hF' with
    | @cons d es g _ g2' hm hv' hF' =>
    walk_at "w"
    walk_at "if"
    walk_at "w"
    refine sub_dict (by trivial) (by walk_at "mem") hv' ?_
    refine ⟨_, by walk_at "pt", rfl, g1 ++ [g], g2', by rw [e1]; simp, by rw [e2]; simp [intsA], hF'⟩
  · rintro r done τ ⟨rfl, g1, g2, e1, rfl, hF'⟩
    cases hF'
    rw [List.append_nil] at e1
    subst e1
    walk_at "w"
    refine op_add_list (by walk_at "mem") (by walk_at "mem") (by simp only [intsA, List.length_map, List.length_cons, List.length_nil, sizeLine_eq]; walk_at "om") fun r3 => ?_
    walk_at "w"
    refine cl_max' rfl (by walk_at "mem") (ns := gs ++ [0]) (by simp [intsA]) (by simp) ?_
    generalize hB : maxI (gs ++ [0]) = B
    have hD : dueF vs gs = (B == 0 || (vs.zip gs).any fun p => p.1 && p.2 == B) := by unfold dueF; rw [hB]
    rw [hD] at h
    walk_at "w"
    by_cases hb : B = 0
    · have e : (B == 0) = true := beq_iff_eq.mpr hb
      rw [e, Bool.true_or] at h
      rw [e]
      refine iteT rfl ?_
      exact ⟨σ, by walk_at "pt", h⟩
    · have e : (B == 0) = false := beq_eq_false_iff_ne.mpr hb
      rw [e, Bool.false_or] at h
      rw [e]
      refine iteF (by nofun) ?_
      have hfl64 : fs.length ≤ 64 := by rw [hF.len]; walk_at "om"
      have hfl : fs.length ≤ sizeLine := by rw [hF.len, sizeLine_eq]; walk_at "om"
      walk_at "w"
      walk_at "lc"
      walk_at "w"
      refine ⟨.rng 0 1, _, ⟨_, _, rfl, by walk_at "mem", rfl⟩, by rw [rngL_len]; exact hfl, fun v => match v with | .int k => if gs[k.toNat]? = some B then (vs[k.toNat]?).map .bool else none | _ => none, ?_, fun r' => ?_⟩
      · intro r C y done hy
        obtain ⟨k, hk, rfl⟩ := mem_rng01 hy
        rw [hF.len] at hk
        obtain ⟨d, es, e1, e2, e3⟩ := hF.get k hk
        rw [List.getElem?_eq_getElem hk] at e3
        have hk2 : k < vs.length := by walk_at "om"
        walk_at "w"
        refine sub_list (by trivial) (by walk_at "mem") (by walk_at "om") hfl e1 ?_
        walk_at "w"
        refine sub_dict (by trivial) (by walk_at "mem") e3 ?_
        walk_at "w"
        by_cases hg : gs[k] = B
        · refine iteT (beq_iff_eq.mpr hg) ?_
          walk_at "w"
          refine sub_list (v := .bool vs[k]) (by trivial) (by walk_at "mem") (by walk_at "om") (by rw [bvs, List.length_map, sizeLine_eq]; walk_at "om") (by simp [bvs, hk2]) ?_
          exact ⟨by walk_at "pt", by show (if gs[k]? = some B then (vs[k]?).map AV.bool else none) = _; rw [if_pos (by rw [List.getElem?_eq_getElem hk, hg]), List.getElem?_eq_getElem hk2]; rfl⟩
        · refine iteF (by rw [beq_iff_eq]; exact hg) ?_
          exact ⟨by walk_at "pt", by show (if gs[k]? = some B then (vs[k]?).map AV.bool else none) = _; rw [if_neg (by rw [List.getElem?_eq_getElem hk]; exact fun e => hg (by injection e))]⟩
      · refine op_in_list (fun v => decide (v = .bool true)) (by walk_at "mem") (fun a ha => ?_) ?_
        · obtain ⟨y, hy, e⟩ := List.mem_filterMap.mp ha
          obtain ⟨k, hk, rfl⟩ := mem_rng01 hy
          dsimp only at e
          split at e
          · rw [hF.len] at hk
            rw [Int.toNat_natCast, List.getElem?_eq_getElem (by walk_at "om")] at e
            simp only [Option.map_some, Option.some.injEq] at e
            subst e
            have := eqb_bool (G := G) (σ := (r', AO.list []) :: σ) (i := vs[k]) (j := true)
            have e2 : decide (AV.bool vs[k] = AV.bool true) = (vs[k] == true) := by
              cases vs[k] <;> simp
            rw [e2]; exact eqb_bool
          · cases e
        · refine ⟨σ, by walk_at "pt", ?_⟩
          rw [hF.len, due_any vs gs B hl]
          exact h
end
end C7Text
section C8Text
theorem ty_str : typeOf (.type "str") = pure (.type "type") := by first | rfl | kernel_rfl
theorem ss_str : isSubtype (.type "str") (.type "str") = pure true := by rw [isSubtype_type]; kernel_rfl
section
variable {G : Gd} {κ : Kx} {env : Env} {σ σ' : Sto} {X : XP}
theorem cl_isinstance_str {u : PySem.Str} {Q : AV → Sto → Prop} (h : Q (.bool true) σ) : CL G κ (.bi "isinstance") [.str u, .ty "str"] σ Q X := fun g vs hg hvs A ρ s hA z => by
  rw [ab_bi hg]
  obtain ⟨a, b, rfl, ha, hb⟩ := two hvs
  obtain ⟨t, rfl⟩ := ab_str ha
  rw [ab_ty hb]
  exact call_isinstance (isinstance_true ty_str ss_str) ⟨typeIs_str s u t, ⟨σ, h, z⟩⟩
theorem escape_c (T : Top2 G) {n : Nat} {l : List Nat} {Q : AV → Sto → Prop} (hl : ∀ c ∈ l, Lit5 c) (hz : l.length ≤ 1000) (h : Q (.str (tx (l.flatMap escM))) σ) : CL G ⟨n + 1, none⟩ (.ref 85) [.str (tx l)] σ Q X := by
  have T1 : Top G := T.toTop
  refine cl_fn' T.toTp ar5 (T.fn 5 85 rfl) rfl rfl rfl rfl nd5 (fun vs hvs => ?_) fun L => ?_
  · obtain ⟨a, rfl, _⟩ := one hvs; rfl
  simp only [nm5, lay_nil, lay_local, lay_global, layC_nil, layC_local, layC_global, List.zip_cons_cons, List.zip_nil_right, bn_nil, bn_cons]
  walk_at "w"
  refine cl_isinstance_str ?_
  walk_at "w"
  walk_at "if"
  walk_at "w"
  ((with_reducible refine ev_meth_str F.slot_str_translate F.type_str_translate ?hb ?hf ?hl ?hs ?_); walk_at "m4")
  walk_at "w"
  refine ⟨_, rfl, ?_⟩
  walk_at "w"
  refine cl_translate T hl hz ?_
  walk_at "w"
  exact ⟨σ, by walk_at "pt", h⟩
end
end C8Text
section C9Text
section
variable {G : Gd} {κ : Kx} {env : Env} {σ σ' : Sto} {X : XP}
theorem wh_mono {test : PySem.Expr} {body orelse : List Stmt} {P Q : AF → Sto → Prop} (h : WH G κ env test body orelse σ P X) (hq : ∀ f σ', P f σ' → Q f σ') : WH G κ env test body orelse σ Q X := fun A ρ s hA z =>
  codeAny_mono (h A ρ s hA z) fun r s' hr => by
    cases r with
    | ok f => obtain ⟨σ', q, z'⟩ := hr; exact ⟨σ', hq _ _ q, z'⟩
    | error e => exact hr
noncomputable def inpOf (st : Addr) (head : List (List Nat)) (groups : List (List (List Nat))) : List AV := txs head ++ groups.flatMap fun g => .ref st :: txs g
noncomputable def joinGs : List (List (List Nat)) → List Nat
  | [] => []
  | [g] => [46, 42] ++ g.flatten
  | g :: r => [40, 63, 62, 46, 42, 63] ++ g.flatten ++ [41] ++ joinGs r
/-- the state of _join_translated_parts -/
noncomputable abbrev joS (b res L l st : Addr) (M : List AV) (p N : Int) (o : Option AV) (σ : Sto) : Sto :=
  (b, .raw (bapp res)) :: (res, .list M) :: (L, AO.ns [(PySem.Str.ofString "inp", some (.ref l)), (PySem.Str.ofString "STAR", some (.ref st)), (PySem.Str.ofString "res", some (.ref res)), (PySem.Str.ofString "add", some (.ref b)), (PySem.Str.ofString "i", some (.int p)), (PySem.Str.ofString "n", some (.int N)), (PySem.Str.ofString "fixed", o)]) :: σ
theorem cp_end {I H T : List AV} {st : Addr} {p : Int} (e : I = H ++ T) (hT : T = [] ∨ ∃ r, T = .ref st :: r) (hp : p = H.length) : (¬ p < (I.length : Int)) ∨ (p < (I.length : Int) ∧ 0 ≤ p ∧ I[p.toNat]? = some (.ref st)) := by
  subst e hp
  rcases hT with rfl | ⟨r, rfl⟩
  · left; rw [List.append_nil]; exact Int.lt_irrefl _
  · right; exact ⟨by simp; omega, Int.natCast_nonneg _, by simp⟩
theorem cp_get {I H r : List AV} {x : AV} {p : Int} (e : I = H ++ x :: r) (hp : p = H.length) : p < (I.length : Int) ∧ 0 ≤ p ∧ I[p.toNat]? = some x ∧ H.length + 1 ≤ I.length := by
  subst e hp
  exact ⟨by simp; omega, Int.natCast_nonneg _, by simp, by simp⟩
theorem cp_move {H D r : List AV} {x : AV} : H ++ D ++ (x :: r) = H ++ (D ++ [x]) ++ r := by simp
theorem cp_next {H : List AV} {x : AV} {p : Int} (hp : p = H.length) : p + 1 = (H ++ [x]).length := by rw [hp, List.length_append]; rfl
theorem groups_T (st : Addr) (gs : List (List (List Nat))) : (gs.flatMap fun g => AV.ref st :: txs g) = [] ∨ ∃ r, (gs.flatMap fun g => AV.ref st :: txs g) = .ref st :: r := by
  cases gs with
  | nil => exact .inl rfl
  | cons g gs => exact .inr ⟨_, rfl⟩
theorem txs_snoc {M : List AV} {rs : List (List Nat)} {l : List Nat} (e : M = txs rs) : M ++ [.str (tx l)] = txs (rs ++ [l]) := by subst e; simp [txs]
theorem glue_le {gs : List (List (List Nat))} {g t : List (List Nat)} {total : List Nat} (ht : t.flatten ++ joinGs (g :: gs) = total) : g.flatten.length + 2 ≤ total.length := by
  rw [← ht]
  rw [List.length_append]
  refine Nat.le_trans ?_ (Nat.le_add_left _ _)
  cases gs with
  | nil => exact Nat.le_refl (g.flatten.length + 2)
  | cons a r =>
    show _ ≤ (([40, 63, 62, 46, 42, 63] ++ g.flatten ++ [41]) ++ joinGs (a :: r)).length
    rw [List.length_append, List.length_append, List.length_append, Nat.add_comm]
    exact Nat.le_trans (Nat.add_le_add_right (show 2 ≤ 6 by decide) _) (Nat.le_trans (Nat.le_add_right _ _) (Nat.le_add_right _ _))
inductive JoP (b res L l st : Addr) (N : Int) (total : List Nat) (n : Nat) (τ : Sto) (f : AF) (σ : Sto) : Prop
  | mk (rs : List (List Nat)) (M : List AV) (o : Option AV) (p : Int) (hf : f = .next) (hM : M = txs rs) (ht : rs.flatten = total) (hp : p = N) (hσ : σ = joS b res L l st M p N o τ)
set_option tactic.hygienic true in
theorem join_c (T : Top G) {n : Nat} {l st : Addr} {o : Obj} {head : List (List Nat)} {groups : List (List (List Nat))} {Q : AV → Sto → Prop} (hm : (l, .list (inpOf st head groups)) ∈ σ)
    (hlen : (inpOf st head groups).length ≤ 64) (hz : (head.flatten ++ joinGs groups).length ≤ 1000) (hne : ∀ g ∈ groups.dropLast, g ≠ [])
    (h : Q (.str (tx ([40, 63, 115, 58] ++ head.flatten ++ joinGs groups ++ [41, 92, 90]))) σ) : CL G ⟨n + 2, none⟩ (.ref 125) [.ref l, .ref st] σ Q X := by
  refine cl_fn' T.toTp ar13 (T.fn 13 125 rfl) rfl rfl rfl rfl nd13 (fun vs hvs => ?_) fun L => ?_
  · obtain ⟨a, b, rfl, _⟩ := two hvs; rfl
  simp only [nm13, lay_nil, lay_local, lay_global, layC_nil, layC_local, layC_global, List.zip_cons_cons, List.zip_nil_right, bn_nil, bn_cons]
  have gI : inpOf st head groups = txs head ++ (groups.flatMap fun g => AV.ref st :: txs g) := rfl
  have hs : (inpOf st head groups).length ≤ sizeLine := by rw [sizeLine_eq]; exact Nat.le_trans hlen (by decide)
  generalize inpOf st head groups = I at hm hs gI hlen ⊢
  walk_at "w"
  intro b
  walk_at "w"
  rename_i res tup
  refine ex_while .no ?_
  refine wh_mono (P := fun f σ' => f = .next ∧ σ' = joS b res L l st (txs head) ((txs head).length : Nat) (I.length : Nat) none σ) ?_ ?_
  · suffices H : ∀ (hd : List (List Nat)) (M : List AV) (p : Int), I = M ++ (txs hd ++ (groups.flatMap fun g => AV.ref st :: txs g)) → M ++ txs hd = txs head → p = M.length → WH G ⟨n + 1, none⟩ _ _ _ _ (joS b res L l st M p (I.length : Nat) none σ) _ NoX from
      wh_from (H head [] 0 gI rfl rfl) (by walk_at "pt")
    intro hd
    induction hd with
    | nil =>
      intro M p e hM hp
      have hM : M = txs head := (List.append_nil M).symm.trans hM
      refine wh_step .no ?_
      walk_at "w"
      rcases cp_end e (groups_T st groups) hp with hlt | ⟨hlt, h0, hg⟩
      · refine iteF (by rw [decide_eq_true_eq]; exact hlt) ?_
        walk_at "if"
        walk_at "w"
        exact ⟨rfl, by rw [hp, hM]⟩
      · refine iteT (decide_eq_true hlt) ?_
        walk_at "w"
        refine sub_list (v := .ref st) trivial (by walk_at "mem") h0 hs hg ?_
        walk_at "w"
        walk_at "if"
        walk_at "w"
        exact ⟨rfl, by rw [hp, hM]⟩
    | cons x hd ih =>
      intro M p e hM hp
      obtain ⟨hlt, h0, hg, hl⟩ := cp_get (H := M) (x := .str (tx x)) e hp
      have hMz : M.length ≤ sizeLine := Nat.le_trans (Nat.le_of_succ_le hl) hs
      refine wh_step .no ?_
      walk_at "w"
      refine iteT (decide_eq_true hlt) ?_
      walk_at "w"
      refine sub_list (v := .str (tx x)) trivial (by walk_at "mem") h0 hs hg ?_
      walk_at "w"
      walk_at "if"
      walk_at "w"
      refine sub_list (v := .str (tx x)) trivial (by walk_at "mem") h0 hs hg ?_
      walk_at "w"
      exact ⟨_, by walk_at "pt", ih (M ++ [.str (tx x)]) (p + 1) (e.trans (by rw [List.append_assoc]; rfl)) (by rw [List.append_assoc]; exact hM) (cp_next hp)⟩
  · rintro f σ' ⟨rfl, rfl⟩
    walk_at "w"
    refine ex_while .no ?_
    generalize hT : head.flatten ++ joinGs groups = total at hz
    refine wh_mono (P := JoP b res L l st (I.length : Nat) total n σ) ?_ ?_
    · suffices H : ∀ (gs : List (List (List Nat))) (pre : List AV) (rs : List (List Nat)) (M : List AV) (p : Int) (o : Option AV), I = pre ++ (gs.flatMap fun g => AV.ref st :: txs g) → (∀ g ∈ gs.dropLast, g ≠ []) → rs.flatten ++ joinGs gs = total → M = txs rs → M.length ≤ pre.length → p = pre.length →
          WH G ⟨n + 1, none⟩ _ _ _ _ (joS b res L l st M p (I.length : Nat) o σ) _ NoX from
        H groups (txs head) head _ _ none gI hne hT rfl (Nat.le_refl _) rfl
      intro gs
      induction gs with
      | nil =>
        intro pre rs M p o e _ ht hM hl hp
        have e : I = pre := e.trans (List.append_nil _)
        refine wh_step .no ?_
        walk_at "w"
        refine iteF (by rw [decide_eq_true_eq, hp, e]; exact Int.lt_irrefl _) ?_
        walk_at "w"
        exact ⟨rs, M, o, p, rfl, hM, (List.append_nil _).symm.trans ht, by rw [hp, e], rfl⟩
      | cons g gs ih =>
        intro pre rs M p o e hne ht hM hl hp
        obtain ⟨hlt, h0, hg, hpl⟩ := cp_get (H := pre) (x := .ref st) e hp
        have hMz : M.length ≤ sizeLine := Nat.le_trans hl (Nat.le_trans (Nat.le_of_succ_le hpl) hs)
        have hMz2 : (M ++ [AV.str (PySem.Str.ofString ".*")]).length ≤ sizeLine := by rw [List.length_append]; exact Nat.le_trans (Nat.succ_le_succ hl) (Nat.le_trans hpl hs)
        have hp1 := cp_next (x := .ref st) hp
        have e : I = (pre ++ [AV.ref st]) ++ (txs g ++ (gs.flatMap fun g => AV.ref st :: txs g)) := e.trans (by rw [List.append_assoc]; rfl)
        have hgl := glue_le ht
        refine wh_step .no ?_
        walk_at "w"
        refine iteT (decide_eq_true hlt) ?_
        walk_at "w"
        refine sub_list (v := .ref st) trivial (by walk_at "mem") h0 hs hg ?_
        walk_at "w"
        refine ⟨rfl, ?_⟩
        walk_at "w"
        cases g with
        | nil =>
          have hgs : gs = [] := by
            cases gs with
            | nil => rfl
            | cons g2 gs => exact absurd rfl (hne [] (.head _))
          have hN : p + 1 = (I.length : Int) := by rw [hp1, e, hgs]; simp [txs]
          refine iteT (beq_iff_eq.mpr hN) ?_
          walk_at "w"
          exact ⟨_, .refl, rs ++ [[46, 42]], _, o, p + 1, rfl, txs_snoc (l := [46, 42]) hM, by rw [← ht, hgs]; simp [joinGs], hN, rfl⟩
        | cons x g =>
          obtain ⟨hlt1, h1, hg1, _⟩ := cp_get (H := pre ++ [AV.ref st]) (x := .str (tx x)) e hp1
          refine iteF (fun q => Int.lt_irrefl _ (Int.lt_of_le_of_lt (Int.le_of_eq (eq_of_beq q).symm) hlt1)) ?_
          walk_at "w"
          refine sub_list (v := .str (tx x)) trivial (by walk_at "mem") h1 hs hg1 ?_
          walk_at "w"
          refine ⟨rfl, ?_⟩
          walk_at "w"
          rename_i fx
          refine ex_while .no ?_
          have hgp : 1 ≤ (txs (x :: g)).length := Nat.succ_le_succ (Nat.zero_le _)
          generalize x :: g = gg at e ht hgl hgp ⊢
          have eN : (pre ++ [AV.ref st] ++ txs gg).length ≤ I.length := by rw [e, ← List.append_assoc, List.length_append (bs := gs.flatMap _)]; exact Nat.le_add_right _ _
          refine wh_mono (P := fun f σ' => f = .next ∧ σ' = ((fx, .list (txs gg)) :: joS b res L l st M ((pre ++ [AV.ref st] ++ txs gg).length : Nat) (I.length : Nat) (some (.ref fx)) σ)) ?_ ?_
          · suffices H : ∀ (hd : List (List Nat)) (D : List AV) (p : Int), I = (pre ++ [AV.ref st] ++ D) ++ (txs hd ++ (gs.flatMap fun g => AV.ref st :: txs g)) → D ++ txs hd = txs gg → p = (pre ++ [AV.ref st] ++ D).length → WH G ⟨n + 1, none⟩ _ _ _ _ ((fx, .list D) :: joS b res L l st M p (I.length : Nat) (some (.ref fx)) σ) _ NoX from
              wh_from (H gg [] (p + 1) (by rw [List.append_nil]; exact e) rfl (by rw [List.append_nil]; exact hp1)) (by walk_at "pt")
            intro hd
            induction hd with
            | nil =>
              intro D p e hD hp
              have hD : D = txs gg := (List.append_nil D).symm.trans hD
              refine wh_step .no ?_
              walk_at "w"
              rcases cp_end e (groups_T st gs) hp with hlt | ⟨hlt, h0, hg⟩
              · refine iteF (by rw [decide_eq_true_eq]; exact hlt) ?_
                walk_at "if"
                walk_at "w"
                exact ⟨rfl, by rw [hp, hD]⟩
              · refine iteT (decide_eq_true hlt) ?_
                walk_at "w"
                refine sub_list (v := .ref st) trivial (by walk_at "mem") h0 hs hg ?_
                walk_at "w"
                walk_at "if"
                walk_at "w"
                exact ⟨rfl, by rw [hp, hD]⟩
            | cons y hd ih2 =>
              intro D p e hD hp
              obtain ⟨hlt, h0, hg, hl2⟩ := cp_get (H := pre ++ [AV.ref st] ++ D) (x := .str (tx y)) e hp
              have hDz : D.length ≤ sizeLine := Nat.le_trans (by rw [List.length_append]; exact Nat.le_add_left _ _) (Nat.le_trans (Nat.le_of_succ_le hl2) hs)
              refine wh_step .no ?_
              walk_at "w"
              refine iteT (decide_eq_true hlt) ?_
              walk_at "w"
              refine sub_list (v := .str (tx y)) trivial (by walk_at "mem") h0 hs hg ?_
              walk_at "w"
              walk_at "if"
              walk_at "w"
              refine sub_list (v := .str (tx y)) trivial (by walk_at "mem") h0 hs hg ?_
              walk_at "w"
              exact ⟨_, by walk_at "pt", ih2 (D ++ [.str (tx y)]) (p + 1) (e.trans cp_move) (by rw [List.append_assoc]; exact hD) ((cp_next hp).trans (by rw [List.append_assoc]))⟩
          · rintro f σ' ⟨rfl, rfl⟩
            walk_at "w"
            ((with_reducible refine ev_meth_str F.slot_str_join F.type_str_join ?hb ?hf ?hl ?hs ?_); walk_at "m4")
            walk_at "w"
            refine ⟨_, rfl, ?_⟩
            walk_at "w"
            have hgz : gg.flatten.length ≤ 1000 := Nat.le_trans (Nat.le_of_succ_le (Nat.le_of_succ_le hgl)) hz
            refine cl_join rfl (by walk_at "mem") (by rw [← List.length_flatten]; exact Nat.le_trans hgz (by decide)) ?_
            walk_at "w"
            have hl3 : M.length + 1 ≤ (pre ++ [AV.ref st] ++ txs gg).length := by rw [List.length_append, List.length_append]; exact Nat.le_trans (Nat.succ_le_succ hl) (Nat.le_add_right _ _)
            cases gs with
            | nil =>
              have hN : (((pre ++ [AV.ref st] ++ txs gg).length : Nat) : Int) = (I.length : Int) := by rw [e]; simp
              refine iteT (beq_iff_eq.mpr hN) ?_
              walk_at "w"
              exact ⟨_, by walk_at "pt", ih (pre ++ [AV.ref st] ++ txs gg) (rs ++ [[46, 42]] ++ [gg.flatten]) _ _ (some (.str (tx gg.flatten))) (e.trans (List.append_assoc _ _ _).symm) (fun _g hg => by cases hg) (by rw [← ht]; simp [joinGs]) (txs_snoc (txs_snoc (l := [46, 42]) hM)) (by simp only [List.length_append]; exact Nat.add_le_add (Nat.add_le_add hl (Nat.le_refl 1)) hgp) rfl⟩
            | cons g2 gs =>
              have hN : ¬ (((pre ++ [AV.ref st] ++ txs gg).length : Nat) : Int) = (I.length : Int) := Int.ne_of_lt (Int.ofNat_lt.mpr (by rw [e, ← List.append_assoc, List.length_append (bs := List.flatMap _ _)]; exact Nat.lt_add_of_pos_right (Nat.succ_pos _)))
              refine iteF (by rw [beq_iff_eq]; exact hN) ?_
              walk_at "w"
              refine ev_f3 (A := [40, 63, 62, 46, 42, 63]) (B := [41]) rfl rfl (by decide) (by decide) ?_
              walk_at "w"
              refine ⟨_, rfl, Nat.le_trans hgz (by decide), ?_⟩
              walk_at "w"
              exact ⟨_, by walk_at "pt", ih (pre ++ [AV.ref st] ++ txs gg) (rs ++ [[40, 63, 62, 46, 42, 63] ++ gg.flatten ++ [41]]) _ _ (some (.str (tx gg.flatten))) (e.trans (List.append_assoc _ _ _).symm) (fun g hg => hne g (by simp only [List.dropLast_cons_of_ne_nil (List.cons_ne_nil _ _)]; exact .tail _ hg)) (by rw [← ht]; simp [joinGs]) (txs_snoc hM) (by rw [List.length_append]; exact hl3) rfl⟩
    · rintro f σ' ⟨rs, M, o, p, rfl, hM, ht, hp, rfl⟩
      walk_at "w"
      refine ⟨by rw [hp]; simp, ?_⟩
      walk_at "w"
      ((with_reducible refine ev_meth_str F.slot_str_join F.type_str_join ?hb ?hf ?hl ?hs ?_); walk_at "m4")
      walk_at "w"
      refine ⟨_, rfl, ?_⟩
      walk_at "w"
      refine cl_join (ls := rs) rfl (by rw [← hM]; walk_at "mem") (by rw [← List.length_flatten, ht]; exact Nat.le_trans hz (by decide)) ?_
      walk_at "w"
      refine ev_f3 (A := [40, 63, 115, 58]) (B := [41, 92, 90]) rfl rfl (by decide) (by decide) ?_
      walk_at "w"
      refine ⟨_, rfl, by rw [ht]; exact Nat.le_trans hz (by decide), ?_⟩
      refine ⟨σ, by walk_at "pt", ?_⟩
      have e3 : [40, 63, 115, 58] ++ rs.flatten ++ [41, 92, 90] = [40, 63, 115, 58] ++ head.flatten ++ joinGs groups ++ [41, 92, 90] := by rw [ht, ← hT]; simp
      rw [e3]; exact h
end
end C9Text
section C10Text
section
variable {G : Gd} {κ : Kx} {env : Env} {σ σ' : Sto} {X : XP}
noncomputable def fnE : Nat → List Nat
  | 63 => [91, 63, 93] | c => escM c
noncomputable def fnP : Option Nat → List Nat
  | none => [42] | some 63 => [91, 63, 93] | some c => [c]
noncomputable def trR (st : Addr) : Bool → List (Option Nat) → List AV
  | _, [] => []
  | b, none :: r => if b then trR st true r else .ref st :: trR st true r
  | _, some c :: r => .str (tx (fnE c)) :: trR st false r
noncomputable def LastIs (st : Addr) : Bool → List AV → Prop
  | true, acc => acc.getLast? = some (.ref st)
  | false, acc => acc = [] ∨ ∃ x, acc.getLast? = some (.str x)
noncomputable def Items5 (items : List (Option Nat)) : Prop := ∀ c, some c ∈ items → Lit5 c
theorem fnP_le : ∀ items : List (Option Nat), (items.flatMap fnP).length ≤ 3 * items.length
  | [] => by simp
  | it :: r => by
    have h1 := fnP_le r
    have h2 : (fnP it).length ≤ 3 := by unfold fnP; split <;> simp
    rw [List.flatMap_cons, List.length_append, List.length_cons]; walk_at "om"
set_option tactic.hygienic true in
theorem translate1_c (T : Top3 G) {n : Nat} {st : Addr} {ps : Array Value} {items : List (Option Nat)} {Q : AV → Sto → Prop} (hi : Items5 items) (hlen : items.length ≤ 6) (ht : TriplesOk ps.toList)
    (h : ∀ l ps', TriplesOk ps'.toList → Q (.ref l) ((l, .list (trR st false items)) :: (113, .raw (tabObj ps')) :: σ)) :
    CL G ⟨n + 2, none⟩ (.ref 118) [.str (tx (items.flatMap fnP)), .ref st, .str (tx [46])] ((113, .raw (tabObj ps)) :: σ) Q X := by
  have T1 : Top G := T.toTop
  refine cl_fn' T.toTp ar12 (T.fn 12 118 rfl) rfl rfl rfl rfl nd12 (fun vs hvs => ?_) fun L => ?_
  · obtain ⟨a, b, c, rfl, _⟩ := three hvs; rfl
  simp only [nm12, lay_nil, lay_local, lay_global, layC_nil, layC_local, layC_global, List.zip_cons_cons, List.zip_nil_right, bn_nil, bn_cons]
  have hpl : (items.flatMap fnP).length ≤ 18 := by
    have := fnP_le items
    walk_at "om"
  walk_at "w"
  intro b
  walk_at "w"
  rename_i res tup
  refine ex_while .no ?_
  suffices H : ∀ (its : List (Option Nat)) (pre : List Nat) (p : Int) (acc : List AV) (bl : Bool) (ps : Array Value) (oc oj os : Option AV), p = pre.length → items.flatMap fnP = pre ++ its.flatMap fnP → Items5 its → LastIs st bl acc → trR st false items = acc ++ trR st bl its → acc.length ≤ pre.length → TriplesOk ps.toList →
      WH G ⟨n + 1, none⟩ _ _ _ _ ((b, .raw (bapp res)) :: (res, .list acc) :: (L, AO.ns [(PySem.Str.ofString "pat", some (.str (tx (items.flatMap fnP)))), (PySem.Str.ofString "STAR", some (.ref st)), (PySem.Str.ofString "QUESTION_MARK", some (.str (tx [46]))), (PySem.Str.ofString "res", some (.ref res)), (PySem.Str.ofString "add", some (.ref b)), (PySem.Str.ofString "i", some (.int p)), (PySem.Str.ofString "n", some (.int (((items.flatMap fnP).length : Nat) : Int))), (PySem.Str.ofString "c", oc), (PySem.Str.ofString "j", oj), (PySem.Str.ofString "stuff", os), (PySem.Str.ofString "chunks", none), (PySem.Str.ofString "k", none), (PySem.Str.ofString "chunk", none)]) :: (113, .raw (tabObj ps)) :: σ) _ NoX from
    wh_from (H items [] 0 [] false ps none none none rfl rfl hi (.inl rfl) rfl (Nat.le_refl _) ht) (by walk_at "pt")
  generalize items.flatMap fnP = w at hpl ⊢
  have hz : w.length ≤ 16777216 := Nat.le_trans hpl (by decide)
  clear hi ht
  intro its
  induction its with
  | nil =>
    intro pre p acc bl ps oc oj os hq hp hi5 hla htr hal htt
    rw [List.flatMap_nil, List.append_nil] at hp
    subst hp hq
    refine wh_step .no ?_
    walk_at "w"
    refine iteF (by rw [decide_eq_true_eq]; exact Int.lt_irrefl _) ?_
    walk_at "w"
    refine ⟨by simp, ?_⟩
    walk_at "w"
    have e : acc = trR st false items := by
      rw [htr]
      cases bl <;> exact (List.append_nil _).symm
    subst e
    exact ⟨_, by walk_at "pt", h res ps htt⟩
  | cons it its ih =>
    intro pre p acc bl ps oc oj os hq hp hi5 hla htr hal htt
    have hp : w = pre ++ (fnP it ++ its.flatMap fnP) := hp
    refine wh_step .no ?_
    have hlt : p < (w.length : Int) := by
      have : 0 < (fnP it).length := by
        unfold fnP; split <;> simp
      rw [hp, hq, List.length_append, List.length_append]; walk_at "om"
    have hacc : acc.length ≤ sizeLine := by
      have := congrArg List.length hp
      rw [List.length_append] at this
      rw [sizeLine_eq]; walk_at "om"
    have hi5' : Items5 its := fun c hc => hi5 c (.tail _ hc)
    walk_at "w"
    refine iteT (decide_eq_true hlt) ?_
    walk_at "w"
    cases it with
    | none =>
      have hw : w = pre ++ 42 :: its.flatMap fnP := hp
      obtain ⟨e1, e2⟩ := at_end [42] hw hq
      refine sub_at 0 hw hq rfl (by trivial) (Int.add_zero p).symm hz ?_
      walk_at "w"
      walk_at "if"
      walk_at "w"
      refine tr_list (by walk_at "mem") hacc ?_
      cases bl with
      | true =>
        have hne : acc.isEmpty = false := by cases acc with
          | nil => cases hla
          | cons _ _ => rfl
        refine iteF (by rw [hne]; decide) ?_
        walk_at "w"
        refine sub_list_last (v := .ref st) (by trivial) (by walk_at "mem") hla ?_
        walk_at "w"
        walk_at "if"
        walk_at "w"
        exact ⟨_, by walk_at "pt", ih _ _ acc true ps _ _ _ e1 e2 hi5' hla htr (Nat.le_trans hal (by rw [List.length_append]; exact Nat.le_add_right _ _)) htt⟩
      | false =>
        have hi2 := fun oc oj os => ih _ _ (acc ++ [.ref st]) true ps oc oj os e1 e2 hi5' (by simp [LastIs]) (by rw [htr, List.append_assoc]; rfl) (by rw [List.length_append, List.length_append]; exact Nat.succ_le_succ hal) htt
        rcases hla with hla | ⟨x, hla⟩
        · refine iteT (by rw [hla]; rfl) ?_
          walk_at "w"
          walk_at "if"
          walk_at "w"
          exact ⟨_, by walk_at "pt", hi2 _ _ _⟩
        · have hne : acc.isEmpty = false := by cases acc with
            | nil => cases hla
            | cons _ _ => rfl
          refine iteF (by rw [hne]; decide) ?_
          walk_at "w"
          refine sub_list_last (v := .str x) (by trivial) (by walk_at "mem") hla ?_
          walk_at "w"
          walk_at "if"
          walk_at "w"
          exact ⟨_, by walk_at "pt", hi2 _ _ _⟩
    | some c =>
      have hla' : LastIs st false (acc ++ [.str (tx (fnE c))]) := .inr ⟨tx (fnE c), by simp⟩
      have htr' : trR st false items = (acc ++ [.str (tx (fnE c))]) ++ trR st false its := by
        rw [htr, List.append_assoc]
        cases bl <;> rfl
      have hal' : ∀ l : List Nat, 0 < l.length → (acc ++ [AV.str (tx (fnE c))]).length ≤ (pre ++ l).length := fun l hl => by
        rw [List.length_append, List.length_append]; exact Nat.add_le_add hal hl
      by_cases h63 : c = 63
      · subst h63
        have hw : w = pre ++ 91 :: 63 :: 93 :: its.flatMap fnP := hp
        obtain ⟨e1, e2⟩ := at_end [91, 63, 93] hw hq
        have hwl : (w.length : Int) = p + 3 + ((its.flatMap fnP).length : Int) := by rw [hw, hq]; simp; walk_at "om"
        have l1 : p + 1 < (w.length : Int) := by rw [hwl]; walk_at "om"
        have l2 : p + 1 + 1 < (w.length : Int) := by rw [hwl]; walk_at "om"
        refine sub_at 0 hw hq rfl (by trivial) (Int.add_zero p).symm hz ?_
        walk_at "w"
        walk_at "if"
        walk_at "w"
        walk_at "if"
        walk_at "w"
        walk_at "if"
        walk_at "w"
        refine iteT (decide_eq_true l1) ?_
        walk_at "w"
        refine sub_at 1 hw hq rfl (by trivial) rfl hz ?_
        walk_at "w"
        walk_at "if"
        walk_at "w"
        refine iteT (decide_eq_true l1) ?_
        walk_at "w"
        refine sub_at 1 hw hq rfl (by trivial) rfl hz ?_
        walk_at "w"
        walk_at "if"
        walk_at "w"
        refine ex_while .no ?_
        refine wh_step .no ?_
        walk_at "w"
        refine iteT (decide_eq_true l1) ?_
        walk_at "w"
        refine sub_at 1 hw hq rfl (by trivial) rfl hz ?_
        walk_at "w"
        walk_at "if"
        walk_at "w"
        refine ⟨_, .refl, ?_⟩
        refine wh_step .no ?_
        walk_at "w"
        refine iteT (decide_eq_true l2) ?_
        walk_at "w"
        refine sub_at 2 hw hq rfl (by trivial) (Int.add_assoc p 1 1) hz ?_
        walk_at "w"
        walk_at "if"
        walk_at "w"
        refine iteF (by rw [decide_eq_true_eq]; exact Int.not_le.mpr l2) ?_
        walk_at "w"
        walk_at "sls"
        walk_at "w"
        refine sls_at2 1 1 (r := [63]) rfl hw hq rfl rfl hz ?_
        walk_at "w"
        refine iteT (by decide +kernel) ?_
        walk_at "w"
        ((with_reducible refine ev_meth_str F.slot_str_replace F.type_str_replace ?hb ?hf ?hl ?hs ?_); walk_at "m4")
        walk_at "w"
        refine ⟨_, rfl, ?_⟩
        walk_at "w"
        refine cl_replace_none (by decide +kernel) ?_
        walk_at "w"
        refine ev_meth_pat T.pat rfl rfl rfl rfl ?_
        walk_at "w"
        refine ⟨rfl, ?_⟩
        walk_at "w"
        refine ev_lambda1 T.l12 rfl rfl rfl (by walk_at "rm") htt fun f fo ps' hfo htt' => ?_
        walk_at "w"
        refine cl_sub T.pat (by walk_at "mem") hfo ?_
        walk_at "w"
        refine tr_tx (by simp) ?_
        walk_at "if"
        walk_at "w"
        walk_at "if"
        walk_at "w"
        refine sub_tx 0 (by simp) (by trivial) rfl (by simp) ?_
        walk_at "w"
        walk_at "if"
        walk_at "w"
        refine sub_tx 0 (by simp) (by trivial) rfl (by simp) ?_
        walk_at "w"
        refine op_in_tup (fun a => decide (a = .str (chr 63))) (by walk_at "mem") (fun a ha => ?_) ?_
        · simp only [List.mem_cons, List.not_mem_nil, or_false] at ha
          rcases ha with rfl | rfl
          · rw [show decide (AV.str (PySem.Str.ofString "^") = .str (chr 63)) = (PySem.Str.ofString "^" == chr [63][0]) by decide +kernel]; exact eqb_str
          · rw [show decide (AV.str (PySem.Str.ofString "[") = .str (chr 63)) = (PySem.Str.ofString "[" == chr [63][0]) by decide +kernel]; exact eqb_str
        walk_at "w"
        refine iteF (by decide +kernel) ?_
        walk_at "w"
        refine ev_f3 (A := [91]) (B := [93]) rfl rfl (by decide) (by decide) ?_
        walk_at "w"
        refine ⟨_, rfl, by decide, ?_⟩
        walk_at "w"
        exact ⟨_, by walk_at "pt", ih _ _ (acc ++ [.str (tx (fnE 63))]) false ps' _ _ _ ((by rw [Int.add_assoc, Int.add_assoc]; rfl : p + 1 + 1 + 1 = p + (([91, 63, 93] : List Nat).length : Int)).trans e1) e2 hi5' hla' htr' (hal' _ (by decide)) htt'⟩
      · have hc : c = 97 ∨ c = 98 ∨ c = 47 ∨ c = 46 := by
          rcases hi5 c (.head _) with hc | hc | hc | hc | hc
          · exact .inl hc
          · exact .inr (.inl hc)
          · exact .inr (.inr (.inl hc))
          · exact .inr (.inr (.inr hc))
          · exact absurd hc h63
        have hf : fnP (some c) = [c] := by rcases hc with rfl | rfl | rfl | rfl <;> rfl
        have hE : fnE c = [c].flatMap escM := by rcases hc with rfl | rfl | rfl | rfl <;> rfl
        have hw : w = pre ++ c :: its.flatMap fnP := by rw [hp, hf]; rfl
        have hne : c ≠ 42 ∧ c ≠ 63 ∧ c ≠ 91 := by rcases hc with rfl | rfl | rfl | rfl <;> decide
        obtain ⟨e1, e2⟩ := at_end [c] hw hq
        refine sub_at 0 hw hq rfl (by trivial) (Int.add_zero p).symm hz ?_
        walk_at "w"
        refine iteF (nb (beq_head hne.1)) ?_
        walk_at "w"
        refine iteF (nb (beq_head hne.2.1)) ?_
        walk_at "w"
        refine iteF (nb (beq_head hne.2.2)) ?_
        walk_at "w"
        refine escape_c T.toTop2 (l := [c]) (fun x hx => by obtain rfl : x = c := by simpa using hx
                                                            exact hi5 x (.head _)) (by simp) ?_
        walk_at "w"
        exact ⟨_, by walk_at "pt", ih _ _ (acc ++ [.str (tx ([c].flatMap escM))]) false ps _ _ _ e1 e2 hi5' (hE ▸ hla') (hE ▸ htr') (hE ▸ hal' _ (Nat.succ_pos 0)) htt⟩
end
end C10Text
section C11Text
/-- the items ahead of the first star, and behind each; stars that touch are one -/
noncomputable def starGs (h : List Nat) (gs : List (List Nat)) : List (List Nat) := if h = [] ∧ gs ≠ [] then gs else h :: gs
noncomputable def splitS : List (Option Nat) → List Nat × List (List Nat)
  | [] => ([], [])
  | none :: r => ([], starGs (splitS r).1 (splitS r).2)
  | some c :: r => (c :: (splitS r).1, (splitS r).2)
noncomputable def trMid (items : List (Option Nat)) : List Nat := ((splitS items).1.map fnE).flatten ++ joinGs ((splitS items).2.map (·.map fnE))
set_option tactic.hygienic true in
theorem starGs_ne (h : List Nat) (gs : List (List Nat)) : starGs h gs ≠ [] := by
  unfold starGs; split
  · rename_i x; exact x.2
  · simp
theorem trR_split (st : Addr) : ∀ r : List (Option Nat), trR st false r = inpOf st ((splitS r).1.map fnE) ((splitS r).2.map (·.map fnE)) ∧
    AV.ref st :: trR st true r = (starGs (splitS r).1 (splitS r).2).flatMap fun g => AV.ref st :: txs (g.map fnE)
  | [] => ⟨rfl, rfl⟩
  | none :: r => by
    obtain ⟨_, ih⟩ := trR_split st r
    have e : trR st false (none :: r) = .ref st :: trR st true r := rfl
    have e2 : trR st true (none :: r) = trR st true r := rfl
    refine ⟨?_, ?_⟩
    · rw [e, ih]
      show _ = inpOf st [] ((starGs (splitS r).1 (splitS r).2).map (·.map fnE))
      simp [inpOf, txs, List.flatMap_map]
    · rw [e2, ih]
      have : starGs (splitS (none :: r)).1 (splitS (none :: r)).2 = starGs (splitS r).1 (splitS r).2 := by
        show starGs [] (starGs _ _) = _
        rw [starGs, if_pos ⟨rfl, starGs_ne _ _⟩]
      rw [this]
  | some c :: r => by
    obtain ⟨ih, _⟩ := trR_split st r
    have e : trR st false (some c :: r) = .str (tx (fnE c)) :: trR st false r := rfl
    have e2 : trR st true (some c :: r) = .str (tx (fnE c)) :: trR st false r := rfl
    refine ⟨?_, ?_⟩
    · rw [e, ih]; rfl
    · rw [e2, ih]
      have : starGs (splitS (some c :: r)).1 (splitS (some c :: r)).2 = (c :: (splitS r).1) :: (splitS r).2 := by
        show starGs (c :: _) _ = _
        rw [starGs, if_neg (by simp)]; rfl
      rw [this]; simp [inpOf, txs, List.flatMap_map]
set_option tactic.hygienic true in
theorem splitS_ne : ∀ r : List (Option Nat), ∀ g ∈ (splitS r).2.dropLast, g ≠ []
  | [] => fun _ hg => nomatch hg
  | some c :: r => splitS_ne r
  | none :: r => by
    have ih := splitS_ne r
    show ∀ g ∈ (starGs _ _).dropLast, g ≠ []
    unfold starGs
    split
    · exact ih
    · rename_i h
      intro g hg
      cases hgs : (splitS r).2 with
      | nil => rw [hgs] at hg; simp at hg
      | cons g2 gs =>
        rw [hgs] at hg h
        rw [List.dropLast_cons_of_ne_nil (by simp)] at hg
        rcases List.mem_cons.mp hg with rfl | hg
        · simpa using h
        · exact ih g (by rw [hgs]; exact hg)
theorem splitS_len : ∀ r : List (Option Nat), (splitS r).1.length + ((splitS r).2.map fun g => g.length + 1).sum ≤ r.length
  | [] => Nat.le_refl 0
  | some c :: r => by
    have := splitS_len r
    show (splitS r).1.length + 1 + _ ≤ r.length + 1
    rw [Nat.add_right_comm]; exact Nat.succ_le_succ this
  | none :: r => by
    have ih := splitS_len r
    show 0 + ((starGs (splitS r).1 (splitS r).2).map fun g => g.length + 1).sum ≤ r.length + 1
    rw [Nat.zero_add]
    unfold starGs
    split
    · exact Nat.le_succ_of_le (Nat.le_trans (Nat.le_add_left _ _) ih)
    · show (splitS r).1.length + 1 + _ ≤ _
      rw [Nat.add_right_comm]; exact Nat.succ_le_succ ih
theorem sum_len1 : ∀ gs : List (List Nat), (gs.map fun g => g.length + 1).sum = (gs.map List.length).sum + gs.length
  | [] => rfl
  | g :: gs => by
    show g.length + 1 + (gs.map fun g => g.length + 1).sum = g.length + (gs.map List.length).sum + (gs.length + 1)
    rw [sum_len1 gs, Nat.add_assoc, Nat.add_assoc, Nat.add_comm 1, Nat.add_assoc]
theorem fnE_le (c : Nat) : (fnE c).length ≤ 3 := by
  unfold fnE; split
  · simp
  · unfold escM; split <;> simp
theorem flat_le {f : Nat → List Nat} (hf : ∀ c, (f c).length ≤ 3) : ∀ l : List Nat, ((l.map f).flatten).length ≤ 3 * l.length
  | [] => Nat.le_refl 0
  | c :: l => by
    show (f c ++ (l.map f).flatten).length ≤ 3 * (l.length + 1)
    rw [List.length_append, Nat.mul_add, Nat.add_comm]
    exact Nat.add_le_add (flat_le hf l) (hf c)
theorem joinGs_le {f : Nat → List Nat} (hf : ∀ c, (f c).length ≤ 3) : ∀ gs : List (List Nat), (joinGs (gs.map (·.map f))).length ≤ 8 * (gs.map fun g => g.length + 1).sum
  | [] => by simp [joinGs]
  | [g] => by
    have := flat_le hf g
    simp only [List.map_cons, List.map_nil, joinGs, List.length_append, List.length_cons, List.length_nil, List.sum_cons, List.sum_nil]; walk_at "om"
  | g :: g2 :: r => by
    have ih := joinGs_le hf (g2 :: r)
    have := flat_le hf g
    simp only [List.map_cons, joinGs, List.length_append, List.length_cons, List.length_nil, List.sum_cons] at ih ⊢; walk_at "om"
theorem trMid_le (r : List (Option Nat)) (hr : r.length ≤ 6) : (trMid r).length ≤ 60 := by
  have h1 := splitS_len r
  have h2 := flat_le fnE_le (splitS r).1
  have h3 := joinGs_le fnE_le (splitS r).2
  unfold trMid
  rw [List.length_append]; walk_at "om"
theorem inp_le (st : Addr) (r : List (Option Nat)) : (trR st false r).length ≤ r.length ∧ (trR st true r).length ≤ r.length := by
  induction r with
  | nil => exact ⟨Nat.le_refl _, Nat.le_refl _⟩
  | cons it r ih =>
    cases it with
    | none =>
      have e : trR st false (none :: r) = .ref st :: trR st true r := rfl
      have e2 : trR st true (none :: r) = trR st true r := rfl
      rw [e, e2]; simp only [List.length_cons]; walk_at "om"
    | some c =>
      have e : trR st false (some c :: r) = .str (tx (fnE c)) :: trR st false r := rfl
      have e2 : trR st true (some c :: r) = .str (tx (fnE c)) :: trR st false r := rfl
      rw [e, e2]; simp only [List.length_cons]; walk_at "om"
section
variable {G : Gd} {κ : Kx} {env : Env} {σ σ' : Sto} {X : XP}
theorem cl_from {f : AV} {args : List AV} {Q : AV → Sto → Prop} (p : Pt σ' σ) (h : CL G κ f args σ' Q X) : CL G κ f args σ Q X := fun g vs hg hvs => W.from (h g vs hg hvs) p
theorem translate_c (T : Top3 G) {n : Nat} {ps : Array Value} {items : List (Option Nat)} {Q : AV → Sto → Prop} (hi : Items5 items) (hlen : items.length ≤ 6) (ht : TriplesOk ps.toList)
    (h : ∀ ps', TriplesOk ps'.toList → Q (.str (tx ([40, 63, 115, 58] ++ trMid items ++ [41, 92, 90]))) ((113, .raw (tabObj ps')) :: σ)) :
    CL G ⟨n + 3, none⟩ (.ref 111) [.str (tx (items.flatMap fnP))] ((113, .raw (tabObj ps)) :: σ) Q X := by
  have T1 : Top G := T.toTop
  refine cl_fn' T.toTp ar11 (T.fn 11 111 rfl) rfl rfl rfl rfl nd11 (fun vs hvs => ?_) fun L => ?_
  · obtain ⟨a, rfl, _⟩ := one hvs; rfl
  simp only [nm11, lay_nil, lay_local, lay_global, layC_nil, layC_local, layC_global, List.zip_cons_cons, List.zip_nil_right, bn_nil, bn_cons]
  walk_at "w"
  refine cl_object fun st => ?_
  walk_at "w"
  refine cl_from (Pt.cons (p := (113, .raw (tabObj ps))) (by walk_at "rm") .refl) ?_
  refine translate1_c T hi hlen ht fun l ps' ht' => ?_
  walk_at "w"
  have e := (trR_split st items).1
  have hl : (trR st false items).length ≤ 64 := Nat.le_trans (inp_le st items).1 (by walk_at "om")
  rw [e] at hl ⊢
  refine join_c T1 (o := obObj) (head := (splitS items).1.map fnE) (groups := (splitS items).2.map (·.map fnE)) (by walk_at "mem") hl (Nat.le_trans (trMid_le items hlen) (by decide)) ?_ ?_
  · intro g hg
    rw [← List.map_dropLast] at hg
    obtain ⟨g', hg', rfl⟩ := List.mem_map.mp hg
    simpa using splitS_ne items g' hg'
  · walk_at "w"
    exact ⟨_, by walk_at "pt", h ps' ht'⟩
end
end C11Text
section C12Text
noncomputable def pthP : Option Nat → List Nat
  | none => [42] | some c => [c]
/-- the items between the stars, empty ones too -/
noncomputable def splitE : List (Option Nat) → List Nat × List (List Nat)
  | [] => ([], [])
  | none :: r => ([], (splitE r).1 :: (splitE r).2)
  | some c :: r => (c :: (splitE r).1, (splitE r).2)
noncomputable def fnQ (l : List Nat) : List Nat := l.flatMap escM
noncomputable def paMid (items : List (Option Nat)) : List Nat := fnQ (splitE items).1 ++ joinGs ((splitE items).2.map (·.map escM))
theorem spl_path : ∀ items : List (Option Nat), Items5 items → spl 42 (items.flatMap pthP) = (splitE items).1 :: (splitE items).2
  | [], _ => rfl
  | none :: r, h => by
    have ih := spl_path r fun c hc => h c (.tail _ hc)
    show spl 42 (42 :: r.flatMap pthP) = _
    rw [spl, if_pos rfl, ih]; rfl
  | some c :: r, h => by
    have ih := spl_path r fun c hc => h c (.tail _ hc)
    have hc : c ≠ 42 := by
      rintro rfl
      rcases h 42 (.head _) with h | h | h | h | h <;> cases h
    show spl 42 (c :: r.flatMap pthP) = _
    rw [spl, if_neg hc, ih]; rfl
theorem splitE_mem : ∀ items : List (Option Nat), Items5 items → (∀ c ∈ (splitE items).1, Lit5 c) ∧ ∀ g ∈ (splitE items).2, ∀ c ∈ g, Lit5 c
  | [], _ => ⟨fun _a h => (nomatch h), fun _a h => (nomatch h)⟩
  | none :: r, h => by
    obtain ⟨h1, h2⟩ := splitE_mem r fun c hc => h c (.tail _ hc)
    refine ⟨fun _a h => (nomatch h), fun g hg => ?_⟩
    rcases List.mem_cons.mp hg with rfl | hg
    · exact h1
    · exact h2 g hg
  | some c :: r, h => by
    obtain ⟨h1, h2⟩ := splitE_mem r fun c hc => h c (.tail _ hc)
    refine ⟨fun d hd => ?_, h2⟩
    rcases List.mem_cons.mp hd with rfl | hd
    · exact h _ (.head _)
    · exact h1 d hd
theorem splitE_len : ∀ r : List (Option Nat), (splitE r).1.length + ((splitE r).2.map fun g => g.length + 1).sum = r.length
  | [] => rfl
  | some c :: r => by
    have := splitE_len r
    exact (Nat.add_right_comm _ 1 _).trans (congrArg Nat.succ this)
  | none :: r => by
    have := splitE_len r
    exact (Nat.zero_add _).trans ((Nat.add_right_comm _ 1 _).trans (congrArg Nat.succ this))
theorem escM_le (c : Nat) : (escM c).length ≤ 3 := by unfold escM; split <;> simp
theorem fnQ_le (l : List Nat) : (fnQ l).length ≤ 3 * l.length := flat_le escM_le l
theorem fnQ_flat (l : List Nat) : (l.map escM).flatten = fnQ l := rfl
theorem paMid_le (r : List (Option Nat)) (hr : r.length ≤ 6) : (paMid r).length ≤ 60 := by
  have h1 := splitE_len r
  have h2 := fnQ_le (splitE r).1
  have h3 := joinGs_le escM_le (splitE r).2
  unfold paMid
  rw [List.length_append]; walk_at "om"
theorem splitE_ne : ∀ items : List (Option Nat), none ∈ items → (splitE items).2 ≠ []
  | none :: r, _ => List.cons_ne_nil _ _
  | some c :: r, h => by
    have := splitE_ne r (by simpa using h)
    exact this
theorem pth_le (items : List (Option Nat)) : (items.flatMap pthP).length ≤ items.length := by
  induction items with
  | nil => simp
  | cons it r ih =>
    have : (pthP it).length = 1 := by cases it <;> rfl
    rw [List.flatMap_cons, List.length_append, List.length_cons]; walk_at "om"
theorem sum_mem : ∀ gs : List (List Nat), ∀ g ∈ gs, g.length ≤ (gs.map fun g => g.length + 1).sum
  | a :: gs, g, hg => by
    simp only [List.map_cons, List.sum_cons]
    rcases List.mem_cons.mp hg with rfl | hg
    · walk_at "om"
    · have := sum_mem gs g hg; walk_at "om"
noncomputable def wrapL (x : List Nat) : List Nat := [40, 63, 62, 46, 42, 63] ++ x ++ [41]
theorem joinGs_snoc (last : List (List Nat)) : ∀ mid : List (List (List Nat)), joinGs (mid ++ [last]) = (mid.map fun g => wrapL g.flatten).flatten ++ ([46, 42] ++ last.flatten)
  | [] => rfl
  | [g] => by simp [joinGs, wrapL]
  | g :: g2 :: r => by
    have ih := joinGs_snoc last (g2 :: r)
    simp only [List.cons_append, joinGs, List.map_cons, List.flatten_cons] at ih ⊢
    rw [ih]; simp [wrapL]
theorem range_up (p n : Nat) : (List.range (n + 1)).map (p + ·) = p :: (List.range n).map (p + 1 + ·) := by
  rw [List.range_succ_eq_map, List.map_cons, List.map_map]
  congr 1
  apply List.map_congr_left
  intro i _
  show p + (i + 1) = p + 1 + i
  walk_at "om"
section
variable {G : Gd} {κ : Kx} {env : Env} {σ σ' : Sto} {X : XP}
set_option tactic.hygienic true in
theorem translate_pattern_c (T : Top3 G) {n : Nat} {items : List (Option Nat)} {Q : AV → Sto → Prop} (hi : Items5 items) (hlen : items.length ≤ 6) (hst : none ∈ items)
    (h : Q (.str (tx (paMid items))) σ) :
    CL G ⟨n + 5, none⟩ (.ref 92) [.str (tx (items.flatMap pthP))] σ Q X := by
  have T1 : Top G := T.toTop
  refine cl_fn' T.toTp ar7 (T.fn 7 92 rfl) rfl rfl rfl rfl nd7 (fun vs hvs => ?_) fun L => ?_
  · obtain ⟨a, rfl, _⟩ := one hvs; rfl
  simp only [nm7, lay_nil, lay_local, lay_global, layC_nil, layC_local, layC_global, List.zip_cons_cons, List.zip_nil_right, bn_nil, bn_cons]
  walk_at "w"
  ((with_reducible refine ev_meth_str F.slot_str_split F.type_str_split ?hb ?hf ?hl ?hs ?_); walk_at "m4")
  walk_at "w"
  refine ⟨_, rfl, ?_⟩
  walk_at "w"
  refine cl_split (c := 42) rfl (Nat.le_trans (pth_le items) (by walk_at "om")) fun r => ?_
  rw [spl_path items hi]
  walk_at "w"
  refine cl_map (xs := txs ((splitE items).1 :: (splitE items).2)) (by walk_at "mem") fun fv M t I hfv => ?_
  walk_at "w"
  have hmem := splitE_mem items hi
  have hl := splitE_len items
  have hsl : (splitE items).2.length ≤ 6 := Nat.le_trans (Nat.le_trans (Nat.le_trans (Nat.le_add_left _ _) (Nat.le_of_eq (sum_len1 _).symm)) (Nat.le_trans (Nat.le_add_left _ _) (Nat.le_of_eq hl))) hlen
  refine cl_list_map (xs := txs ((splitE items).1 :: (splitE items).2)) (g := fun a => match a with | .str u => .str (tx (fnQ u.cps.toList)) | a => a) (by walk_at "mem") (by rw [sizeLine_eq]; simp [txs]; walk_at "om") ?_ fun r2 => ?_
  · intro x hx
    rw [hfv]
    obtain ⟨g, hg, rfl⟩ := List.mem_map.mp hx
    refine escape_c T.toTop2 ?_ ?_ ⟨?_, rfl⟩
    · rcases List.mem_cons.mp hg with rfl | hg
      · exact hmem.1
      · exact hmem.2 g hg
    · rcases List.mem_cons.mp hg with rfl | hg
      · walk_at "om"
      · have := sum_mem _ g hg
        walk_at "om"
    · simp [fnQ, tx]
  have e1 : (txs ((splitE items).1 :: (splitE items).2)).map (fun a => match a with | .str u => .str (tx (fnQ u.cps.toList)) | a => a) = txs (((splitE items).1 :: (splitE items).2).map fnQ) := by
    simp [txs, tx]
  rw [e1]
  have hne : (splitE items).2 ≠ [] := splitE_ne items hst
  obtain ⟨mid, last, hml⟩ : ∃ mid last, (splitE items).2 = mid ++ [last] := ⟨_, _, (List.dropLast_concat_getLast hne).symm⟩
  have hmid : mid.length ≤ 6 := by
    have := congrArg List.length hml
    rw [List.length_append] at this; walk_at "om"
  rw [hml, List.map_cons, List.map_append, List.map_singleton]
  walk_at "w"
  refine ex_for .no rfl ?_ (fun _a => rfl)
  walk_at "w"
  have hz : ∀ (done md : List (List Nat)) (l : List Nat), done.length + md.length ≤ 7 → (txs (done ++ (md ++ [l]))).length ≤ sizeLine := fun done md l h => by
    rw [sizeLine_eq]; simp only [txs, List.length_map, List.length_append, List.length_cons, List.length_nil]; walk_at "om"
  have elen : (txs (fnQ (splitE items).1 :: (mid.map fnQ ++ [fnQ last]))).length = mid.length + 2 := by simp [txs]
  refine cl_len_list (by walk_at "mem") (by rw [elen, sizeLine_eq]; walk_at "om") ?_
  rw [elen]
  walk_at "w"
  rename_i rg
  refine ⟨.rng 1 1, _, ⟨rg, _, rfl, by walk_at "mem", rfl⟩, ?_⟩
  have en : (((mid.length + 2 : Nat) : Int) - 1 - 1).toNat = mid.length := congrArg Int.toNat ((Int.sub_sub _ 1 1).trans (Int.add_sub_cancel (mid.length : Int) 2))
  have e0 : rngL 1 1 mid.length = ivs ((List.range mid.length).map (1 + ·)) := rngL_up (p := 1) (n := mid.length)
  rw [en, e0]
  suffices H : ∀ (md done : List (List Nat)) (o : Option AV), done.length + md.length ≤ 7 → (∀ x ∈ md, x.length ≤ 20) → (∀ x ∈ done, x.length ≤ 40) → ((done ++ md.map wrapL).flatten ++ ([46, 42] ++ fnQ last)) = paMid items →
      FR G ⟨n + 4, none⟩ _ _ _ (.rng 1 1) (ivs ((List.range mid.length).map (1 + ·))) _ NoX (ivs ((List.range md.length).map (done.length + ·))) ((rg, .rng 1 1 mid.length) :: (r2, .list (txs (done ++ (md ++ [fnQ last])))) :: (r, .list (txs ((splitE items).1 :: (mid ++ [last])))) :: (L, AO.ns [(PySem.Str.ofString "path", some (.str (tx (items.flatMap pthP)))), (PySem.Str.ofString "parts", some (.ref r2)), (PySem.Str.ofString "i", o)]) :: σ) from by
    have := H (mid.map fnQ) [fnQ (splitE items).1] none (by simp; walk_at "om") ?_ ?_ ?_
    · rw [List.length_map] at this
      exact this
    · intro x hx
      obtain ⟨g, hg, rfl⟩ := List.mem_map.mp hx
      have h1 := fnQ_le g
      have h2 := sum_mem (splitE items).2 g (by rw [hml]; exact List.mem_append_left _ hg)
      walk_at "om"
    · intro x hx
      obtain rfl : x = fnQ (splitE items).1 := by simpa using hx
      have h1 := fnQ_le (splitE items).1
      walk_at "om"
    · have hj := joinGs_snoc (last.map escM) (mid.map (·.map escM))
      have he : (mid.map (·.map escM)) ++ [last.map escM] = (splitE items).2.map (·.map escM) := by rw [hml]; simp
      rw [he] at hj
      unfold paMid
      rw [hj, fnQ_flat]
      simp [fnQ_flat, Function.comp_def]
  intro md
  induction md with
  | nil =>
    intro done o hd hmx hdx htot
    refine ⟨by show _ = rngL _ _ _; rw [← e0]; simp [rngL], ?_⟩
    have hzz : (txs (done ++ [fnQ last])).length ≤ sizeLine := hz done [] (fnQ last) hd
    have hql := fnQ_le last
    have hll := sum_mem (splitE items).2 last (by rw [hml]; simp)
    walk_at "w"
    refine ex_assign_sub' ?_ rfl
    walk_at "w"
    with_reducible refine ev_joined ?_
    dsimp only [JP]
    walk_at "w"
    have f1 : PySem.Str.empty ++ PySem.Str.ofString ".*" = tx [46, 42] := rfl
    refine ⟨_, rfl, by rw [f1, tx_len, sizeLine_eq]; decide, ?_⟩
    with_reducible refine ev_formatted ?_
    walk_at "w"
    refine sub_list_last (v := .str (tx (fnQ last))) (by trivial) (by walk_at "mem") (by simp [txs]) ?_
    refine ⟨_, rfl, by rw [tx_len, sizeLine_eq]; walk_at "om", ?_⟩
    refine ⟨_, rfl, by rw [f1, tx_add, tx_len, sizeLine_eq, List.length_append]; simp; walk_at "om", ?_⟩
    rw [f1, tx_add]
    refine ⟨by rw [tx_len, sizeLine_eq, List.length_append]; simp; walk_at "om", ?_⟩
    walk_at "w"
    refine si_last (by walk_at "up") (by simp [txs]) hzz ?_
    have e5 : (txs (done ++ [fnQ last])).set ((txs (done ++ [fnQ last])).length - 1) (.str (tx (46 :: 42 :: fnQ last))) = txs (done ++ [[46, 42] ++ fnQ last]) := by
      have hl' : (txs (done ++ [fnQ last])).length - 1 = (txs done).length := by simp [txs]
      rw [hl']
      simp [txs]
    rw [e5]
    walk_at "w"
    ((with_reducible refine ev_meth_str F.slot_str_join F.type_str_join ?hb ?hf ?hl ?hs ?_); walk_at "m4")
    walk_at "w"
    refine ⟨_, rfl, ?_⟩
    walk_at "w"
    have hfl : (done ++ [[46, 42] ++ fnQ last]).flatten = paMid items := by rw [← htot]; simp
    have hsum : ((done ++ [[46, 42] ++ fnQ last]).map List.length).sum ≤ 100000 := by
      have := List.length_flatten (L := done ++ [[46, 42] ++ fnQ last])
      have hp := paMid_le items hlen
      rw [← this, hfl]; walk_at "om"
    refine cl_join rfl (by walk_at "mem") hsum ?_
    rw [hfl]
    walk_at "w"
    exact ⟨σ, by walk_at "pt", h⟩
  | cons x md ih =>
    intro done o hd hmx hdx htot
    rw [List.length_cons, range_up]
    refine fr_step (by show _ = rngL _ _ _; rw [← e0]; simp [rngL]) ?_
    have hzz : (txs (done ++ x :: (md ++ [fnQ last]))).length ≤ sizeLine := hz done (x :: md) (fnQ last) hd
    have hx20 := hmx x (.head _)
    walk_at "w"
    refine ex_assign_sub' ?_ rfl
    walk_at "w"
    with_reducible refine ev_joined ?_
    dsimp only [JP]
    walk_at "w"
    have f1 : PySem.Str.empty ++ PySem.Str.ofString "(?>.*?" = tx [40, 63, 62, 46, 42, 63] := rfl
    have f2 : PySem.Str.ofString ")" = tx [41] := rfl
    refine ⟨_, rfl, by rw [f1, tx_len, sizeLine_eq]; decide, ?_⟩
    with_reducible refine ev_formatted ?_
    walk_at "w"
    refine sub_list (v := .str (tx x)) (by trivial) (by walk_at "mem") (by walk_at "om") hzz (by rw [Int.toNat_natCast]; simp [txs]) ?_
    refine ⟨_, rfl, by rw [tx_len, sizeLine_eq]; walk_at "om", ?_⟩
    refine ⟨_, rfl, by rw [f1, tx_add, tx_len, sizeLine_eq, List.length_append]; simp; walk_at "om", ?_⟩
    walk_at "w"
    rw [f1, tx_add, f2]
    refine ⟨_, rfl, by rw [tx_add, tx_len, sizeLine_eq, List.length_append, List.length_append]; simp; walk_at "om", ?_⟩
    rw [tx_add]
    refine ⟨by rw [tx_len, sizeLine_eq, List.length_append, List.length_append]; simp; walk_at "om", ?_⟩
    walk_at "w"
    refine si_list (by walk_at "up") (by simp [txs]) hzz ?_
    walk_at "w"
    have e5 : (txs (done ++ x :: (md ++ [fnQ last]))).set done.length (.str (tx (40 :: 63 :: 62 :: 46 :: 42 :: 63 :: (x ++ [41])))) = txs ((done ++ [wrapL x]) ++ (md ++ [fnQ last])) := by
      have hl' : done.length = (txs done).length := by simp [txs]
      rw [hl']
      simp [txs, wrapL]
    rw [e5]
    have hi := ih (done ++ [wrapL x]) (some (.int (done.length : Int))) (by simp only [List.length_append, List.length_cons, List.length_nil] at hd ⊢; walk_at "om") (fun y hy => hmx y (.tail _ hy)) (fun y hy => by
      rcases List.mem_append.mp hy with hy | hy
      · exact hdx y hy
      · obtain rfl : y = wrapL x := by simpa using hy
        simp [wrapL]; walk_at "om") (by rw [← htot]; simp)
    have el : (done ++ [wrapL x]).length = done.length + 1 := by simp
    rw [el] at hi
    exact ⟨_, .refl, hi⟩
end
end C12Text
section C13Text
section
variable {G : Gd} {κ : Kx} {env : Env} {σ σ' : Sto} {X : XP}
/-- the lambdas of _law_rule -/
noncomputable def ruleLam (i : Nat) : Arguments × PySem.Expr × Scope × Pos := match stOf 23 with
  | .FunctionDef _ _ body _ _ _ _ _ _ _ => (match body.getD i (.Pass default) with
    | .Assign _ (.Lambda a b s p) _ => (a, b, s, p)
    | _ => default)
  | _ => default
noncomputable def rLq : PySem.Str := PySem.Str.ofString "_law_rule" ++ PySem.Str.ofString ".<locals>." ++ PySem.Str.ofString "<lambda>"
noncomputable def lam1 (pm cv ctv : Value) (d : Option Addr) : Obj := lamObj rLq (ruleLam 0).1 (ruleLam 0).2.1 (ruleLam 0).2.2.1 [] pm cv ctv d
noncomputable def lam2 (cc : Addr) (pm cv ctv : Value) : Obj := lamObj rLq (ruleLam 1).1 (ruleLam 1).2.1 (ruleLam 1).2.2.1 [(PySem.Str.ofString "answers", cc)] pm cv ctv none
noncomputable def rp (i : Nat) : Pos := (ruleLam i).2.2.2
/-- the table of _law_rule's lambdas -/
noncomputable def rt : Option (Addr × Addr) → Sto
  | none => [(170, .raw (tabObj #[]))]
  | some (c1, c2) => [(170, .raw (tabObj #[rawInt (rp 0).line, rawInt (rp 0).col, .ref c1, rawInt (rp 1).line, rawInt (rp 1).col, .ref c2])), (c2, .any (CodeQ rLq))]
theorem sa_from {o : AV} {name : PySem.Str} {v : AV} {Q : Sto → Prop} (p : Pt σ' σ) (h : SA G κ o name v σ' Q X) : SA G κ o name v σ Q X := fun x z hx hz => W.from (h x z hx hz) p
theorem law_rule_c (T : Top3 G) {n : Nat} {da : Addr} {v : Bool} {k : Option (Addr × Addr)} {Q : AV → Sto → Prop}
    (h : ∀ f d f2 cc pm cv ctv pm2 ctv2 c1 c2, (∀ p, k = some p → p = (c1, c2)) → Q (.ref f) ((f, .raw (lam1 pm cv ctv (some d))) :: (d, .any (AttrD [(PySem.Str.ofString "allowance", .bool v), (PySem.Str.ofString "applies_to", .ref f2)])) :: (f2, .raw (lam2 cc pm2 (.ref c2) ctv2)) :: (cc, .cell (some (.ref da))) :: (rt (some (c1, c2)) ++ σ))) :
    CL G ⟨n + 1, none⟩ (.ref 175) [.ref da, .bool v] (rt k ++ σ) Q X := by
  have T1 : Top G := T.toTop
  refine cl_fn' T.toTp ar23 (T.fn 23 175 rfl) rfl rfl rfl rfl nd23 (fun vs hvs => ?_) fun L => ?_
  · obtain ⟨a, b, rfl, _⟩ := two hvs; rfl
  simp only [nm23, lay_nil, lay_local, lay_cell, lay_global, layC_nil, layC_local, layC_cell, layC_global, List.zip_cons_cons, List.zip_nil_right, bn_nil, bn_cons]
  cases k with
  | none =>
    simp only [rt]
    walk_at "w"
    refine ev_lambda (ps := #[]) T.l23 rfl rfl rfl (by walk_at "rm") trivial (fun _a f c1 pm ctv => ?_) (fun cv hcv => by cases hcv)
    walk_at "w"
    refine ex_assign_attr ?_ rfl
    refine ev_lambda (ps := #[rawInt (rp 0).line, rawInt (rp 0).col, .ref c1]) (clos := [(PySem.Str.ofString "answers", L + 1)]) T.l23 rfl rfl rfl (by walk_at "rm") trivial (fun _a f2 c2 pm2 ctv2 => ?_) (fun cv hcv => by exfalso; revert hcv; exact fun h => nomatch h)
    walk_at "w"
    refine sa_from (Pt.cons (p := (f, .raw (lam1 pm (.ref c1) ctv none))) (by walk_at "rm") .refl) ?_
    refine sa_fn0 lk_fn_applies fun d => ?_
    walk_at "w"
    refine ex_assign_attr ?_ rfl
    walk_at "w"
    refine sa_fn (d := d) (m := [(PySem.Str.ofString "applies_to", .ref f2)]) lk_fn_allow (by walk_at "mem") (by simp) (by walk_at "up") ?_
    walk_at "w"
    refine ⟨_, ?_, h f d f2 (L + 1) pm (.ref c1) ctv pm2 ctv2 c1 c2 (fun p hp => nomatch hp)⟩
    simp only [rt, List.cons_append, List.nil_append]
    walk_at "pt"
  | some c =>
    obtain ⟨c1, c2⟩ := c
    simp only [rt, List.cons_append, List.nil_append]
    walk_at "w"
    refine ev_lambda (ps := #[rawInt (rp 0).line, rawInt (rp 0).col, .ref c1, rawInt (rp 1).line, rawInt (rp 1).col, .ref c2]) T.l23 rfl rfl rfl (by walk_at "rm") trivial (fun hno => by exfalso; revert hno; exact fun h => nomatch h) (fun cv hcv f pm ctv => ?_)
    obtain rfl : cv = .ref c1 := by
      have : some (Value.ref c1) = some cv := hcv
      exact (Option.some.inj this).symm
    walk_at "w"
    refine ex_assign_attr ?_ rfl
    refine ev_lambda (ps := #[rawInt (rp 0).line, rawInt (rp 0).col, .ref c1, rawInt (rp 1).line, rawInt (rp 1).col, .ref c2]) (clos := [(PySem.Str.ofString "answers", L + 1)]) T.l23 rfl rfl rfl (by walk_at "rm") trivial (fun hno => by exfalso; revert hno; exact fun h => nomatch h) (fun cv hcv f2 pm2 ctv2 => ?_)
    obtain rfl : cv = .ref c2 := by
      have : some (Value.ref c2) = some cv := hcv
      exact (Option.some.inj this).symm
    walk_at "w"
    refine sa_from (Pt.cons (p := (f, .raw (lam1 pm (.ref c1) ctv none))) (by walk_at "rm") .refl) ?_
    refine sa_fn0 lk_fn_applies fun d => ?_
    walk_at "w"
    refine ex_assign_attr ?_ rfl
    walk_at "w"
    refine sa_fn (d := d) (m := [(PySem.Str.ofString "applies_to", .ref f2)]) lk_fn_allow (by walk_at "mem") (by simp) (by walk_at "up") ?_
    walk_at "w"
    refine ⟨_, ?_, h f d f2 (L + 1) pm (.ref c1) ctv pm2 ctv2 c1 c2 (fun p hp => (Option.some.inj hp).symm)⟩
    simp only [rt, List.cons_append, List.nil_append]
    walk_at "pt"
end
end C13Text
section C14Text
section
variable {cd pm : Value}
theorem nmI : (fdm 0 cd pm).scope.names = [(PySem.Str.ofString "self", NameKind.local)] := rfl
theorem ndI : ((lay (fdm 0 cd pm).scope.names).map (·.1)).Nodup := by rw [nmI]; decide +kernel
noncomputable abbrev arI : List PySem.Str := [PySem.Str.ofString "self"]
end
noncomputable abbrev aUA := PySem.Str.ofString "useragents"
noncomputable abbrev aRL := PySem.Str.ofString "rulelines"
noncomputable abbrev aDE := PySem.Str.ofString "delay"
noncomputable abbrev aRR := PySem.Str.ofString "req_rate"
section
variable {G : Gd} {κ : Kx} {env : Env} {σ σ' : Sto} {X : XP}
set_option tactic.hygienic true in
theorem init_c (T : Top4 G) {n : Nat} {x dx : Addr} {Q : AV → Sto → Prop}
    (h : ∀ lu lr, Q .none ((x, .any (InstO 69 dx)) :: (dx, .any (AttrD [(aRR, .none), (aDE, .none), (aRL, .ref lr), (aUA, .ref lu)])) :: (lr, .list []) :: (lu, .list []) :: σ)) :
    CL G ⟨n + 1, none⟩ (.ref 45) [.ref x] ((x, .any (InstO 69 dx)) :: (dx, .any (AttrD [])) :: σ) Q X := by
  have T1 : Top G := T.toTop
  refine cl_fn' T.toTp arI T.m45 rfl rfl rfl rfl ndI (fun vs hvs => ?_) fun L => ?_
  · obtain ⟨a, rfl, _⟩ := one hvs; rfl
  simp only [nmI, lay_nil, lay_local, lay_cell, lay_global, layC_nil, layC_local, layC_cell, layC_global, List.zip_cons_cons, List.zip_nil_right, bn_nil, bn_cons]
  walk_at "w"
  refine ex_assign_attr ?_ rfl
  walk_at "w"
  rename_i lu
  refine sa_from (Pt.cons (p := (x, .any (InstO 69 dx))) (by walk_at "rm") (Pt.cons (p := (dx, .any (AttrD []))) (by walk_at "rm") .refl)) ?_
  refine sa_inst T.c (by simp [attrNames]) (by simp) ?_
  walk_at "w"
  refine ex_assign_attr ?_ rfl
  walk_at "w"
  rename_i lr
  refine sa_from (Pt.cons (p := (x, .any (InstO 69 dx))) (by walk_at "rm") (Pt.cons (p := (dx, .any (AttrD [(aUA, .ref lu)]))) (by walk_at "rm") .refl)) ?_
  refine sa_inst T.c (by simp [attrNames]) (by simp) ?_
  walk_at "w"
  refine ex_assign_attr ?_ rfl
  walk_at "w"
  refine sa_inst T.c (by simp [attrNames]) (by simp) ?_
  walk_at "w"
  refine ex_assign_attr ?_ rfl
  walk_at "w"
  refine sa_inst T.c (by simp [attrNames]) (by simp) ?_
  walk_at "w"
  exact ⟨_, by walk_at "pt", h lu lr⟩
theorem entry_c (T : Top4 G) {n : Nat} {Q : AV → Sto → Prop}
    (h : ∀ x dx lu lr, dx ≠ x → Q (.ref x) ((x, .any (InstO 69 dx)) :: (dx, .any (AttrD [(aRR, .none), (aDE, .none), (aRL, .ref lr), (aUA, .ref lu)])) :: (lr, .list []) :: (lu, .list []) :: σ)) :
    CL G ⟨n + 2, none⟩ (.ref 69) [] σ Q X :=
  cl_class T fun x dx hne => init_c T fun lu lr => ⟨rfl, h x dx lu lr hne⟩
theorem law_record_c (T : Top4 G) {n : Nat} {la lr : Addr} {as rs : List AV} {Q : AV → Sto → Prop} (ha : (la, .list as) ∈ σ) (hr : (lr, .list rs) ∈ σ) (hz : as.length ≤ 100 ∧ rs.length ≤ 100)
    (h : ∀ x dx lu ll, dx ≠ x → Q (.ref x) ((x, .any (InstO 69 dx)) :: (dx, .any (AttrD [(aRR, .none), (aDE, .none), (aRL, .ref ll), (aUA, .ref lu)])) :: (ll, .list rs) :: (lu, .list as) :: σ)) :
    CL G ⟨n + 3, none⟩ (.ref 182) [.ref la, .ref lr] σ Q X := by
  have T1 : Top G := T.toTop
  refine cl_fn' T.toTp ar24 (T.fn 24 182 rfl) rfl rfl rfl rfl nd24 (fun vs hvs => ?_) fun L => ?_
  · obtain ⟨a, b, rfl, _⟩ := two hvs; rfl
  simp only [nm24, lay_nil, lay_local, lay_cell, lay_global, layC_nil, layC_local, layC_cell, layC_global, List.zip_cons_cons, List.zip_nil_right, bn_nil, bn_cons]
  walk_at "w"
  refine ⟨kp_cls T, ?_⟩
  refine entry_c T fun x dx lu ll hne => ?_
  walk_at "w"
  ((with_reducible refine ev_meth_list F.slot_list_extend F.type_list_extend ?hb ?hf ?hl ?hs ?_); walk_at "m4")
  refine ev_attr_inst T.c rfl (by simp [attrNames]) ?_
  walk_at "w"
  refine ⟨x, dx, [(aRR, .none), (aDE, .none), (aRL, .ref ll), (aUA, .ref lu)], .ref lu, rfl, by walk_at "mem", by walk_at "mem", hne, rfl, trivial, ?_⟩
  walk_at "w"
  refine cl_extend (xs := []) (ys := as) (by walk_at "up") (by walk_at "mem") (by simp; walk_at "om") ?_
  walk_at "w"
  ((with_reducible refine ev_meth_list F.slot_list_extend F.type_list_extend ?hb ?hf ?hl ?hs ?_); walk_at "m4")
  refine ev_attr_inst T.c rfl (by simp [attrNames]) ?_
  walk_at "w"
  refine ⟨x, dx, [(aRR, .none), (aDE, .none), (aRL, .ref ll), (aUA, .ref lu)], .ref ll, rfl, by walk_at "mem", by walk_at "mem", hne, rfl, trivial, ?_⟩
  walk_at "w"
  refine cl_extend (xs := []) (ys := rs) (by walk_at "up") (by walk_at "mem") (by simp; walk_at "om") ?_
  walk_at "w"
  exact ⟨_, by walk_at "pt", h x dx lu ll hne⟩
end
end C14Text
section C15Text
section
variable {cd pm : Value}
theorem nmA : (fdm 3 cd pm).scope.names = [(PySem.Str.ofString "self", NameKind.local), (PySem.Str.ofString "filename", NameKind.local), (PySem.Str.ofString "best_match", NameKind.local), (PySem.Str.ofString "allowance", NameKind.local), (PySem.Str.ofString "line", NameKind.local), (PySem.Str.ofString "m", NameKind.local)] := rfl
theorem ndA : ((lay (fdm 3 cd pm).scope.names).map (·.1)).Nodup := by rw [nmA]; decide +kernel
noncomputable abbrev arA : List PySem.Str := [PySem.Str.ofString "self", PySem.Str.ofString "filename"]
end
noncomputable abbrev aAL := PySem.Str.ofString "allowance"
noncomputable abbrev aAP := PySem.Str.ofString "applies_to"
/-- a rule of the law: how far it goes of that name, and its verdict -/
noncomputable def RuleAt (σ : Sto) (name : PySem.Str) (u : AV) (far : Int) (v : Bool) : Prop := ∃ a d f2 cc da c2 pm cv ctv pm2 ctv2 es, u = .ref a ∧ (a, .raw (lam1 pm cv ctv (some d))) ∈ σ ∧ (d, .any (AttrD [(aAL, .bool v), (aAP, .ref f2)])) ∈ σ ∧
  (f2, .raw (lam2 cc pm2 (.ref c2) ctv2)) ∈ σ ∧ (cc, .cell (some (.ref da))) ∈ σ ∧ (da, .dict es) ∈ σ ∧ (c2, .any (CodeQ rLq)) ∈ σ ∧ dget es name = some (.int far)
theorem RuleAt.mono {σ σ' : Sto} {name : PySem.Str} {u : AV} {far : Int} {v : Bool} (h : RuleAt σ name u far v) (hs : ∀ x ∈ σ, x ∈ σ') : RuleAt σ' name u far v := by
  obtain ⟨a, d, f2, cc, da, c2, pm, cv, ctv, pm2, ctv2, es, h0, h1, h2, h3, h4, h5, h6, h7⟩ := h
  exact ⟨a, d, f2, cc, da, c2, pm, cv, ctv, pm2, ctv2, es, h0, hs _ h1, hs _ h2, hs _ h3, hs _ h4, hs _ h5, hs _ h6, h7⟩
inductive RulesAt (σ : Sto) (name : PySem.Str) : List AV → List (Int × Bool) → Prop
  | nil : RulesAt σ name [] []
  | cons {u : AV} {far : Int} {v : Bool} {us : List AV} {rs : List (Int × Bool)} (h : RuleAt σ name u far v) (hr : RulesAt σ name us rs) : RulesAt σ name (u :: us) ((far, v) :: rs)
theorem RulesAt.mono {σ σ' : Sto} {name : PySem.Str} {us : List AV} {rs : List (Int × Bool)} (h : RulesAt σ name us rs) (hs : ∀ x ∈ σ, x ∈ σ') : RulesAt σ' name us rs := by
  induction h with
  | nil => exact .nil
  | cons h _ ih => exact .cons (h.mono hs) ih
/-- what allowance makes of them -/
noncomputable def allowF : List (Int × Bool) → Int → Bool → Bool
  | [], _, a => a
  | (m, v) :: r, best, a => if m = 0 then allowF r best a else if best < m then allowF r m v else if m = best ∧ a = false then allowF r best v else allowF r best a
/-- a record of the law -/
structure RecAt (σ : Sto) (x : Addr) (us : List PySem.Str) (rs : List AV) where
  dx : Addr
  m : List (PySem.Str × AV)
  lu : Addr
  ll : Addr
  hi : (x, .any (InstO 69 dx)) ∈ σ
  hd : (dx, .any (AttrD m)) ∈ σ
  hne : dx ≠ x
  ua : m.lookup aUA = some (.ref lu)
  rl : m.lookup aRL = some (.ref ll)
  de : m.lookup aDE = some .none
  rr : m.lookup aRR = some .none
  al : m.lookup aAL = none
  hu : (lu, .list (sts us)) ∈ σ
  hl : (ll, .list rs) ∈ σ
noncomputable def RecAt.mono {σ σ' : Sto} {x : Addr} {us : List PySem.Str} {rs : List AV} (r : RecAt σ x us rs) (hs : ∀ y ∈ σ, y ∈ σ') : RecAt σ' x us rs :=
  { r with hi := hs _ r.hi, hd := hs _ r.hd, hu := hs _ r.hu, hl := hs _ r.hl }
section
variable {G : Gd} {κ : Kx} {env : Env} {σ σ' : Sto} {X : XP}
theorem ndL : ((lay (ruleLam 1).2.2.1.names).map (·.1)).Nodup := by decide +kernel
theorem applies_c (T : Top G) {n : Nat} {f2 cc da c2 : Addr} {pm2 ctv2 : Value} {es : List (PySem.Str × AV)} {name : PySem.Str} {v : AV} {Q : AV → Sto → Prop} (h3 : (f2, .raw (lam2 cc pm2 (.ref c2) ctv2)) ∈ σ) (h4 : (cc, .cell (some (.ref da))) ∈ σ) (h5 : (da, .dict es) ∈ σ) (h6 : (c2, .any (CodeQ rLq)) ∈ σ) (h7 : dget es name = some v)
    (h : Q v σ) : CL G ⟨n + 1, none⟩ (.ref f2) [.str name] σ Q X := by
  refine cl_lam T.toTp [PySem.Str.ofString "name"] h3 rfl rfl rfl h6 rfl rfl ndL (fun vs hvs => ?_) fun L => ?_
  · obtain ⟨a, rfl, _⟩ := one hvs; rfl
  show BN G ⟨n, none⟩ _ [(PySem.Str.ofString "name", .str name)] ((L, .ns [(PySem.Str.ofString "name", none)]) :: σ) _ _
  simp only [bn_nil, bn_cons]
  walk_at "w"
  change EV G ⟨n, none⟩ _ (PySem.Expr.Subscript (PySem.Expr.Name (PySem.Str.ofString "answers") _) (PySem.Expr.Name (PySem.Str.ofString "name") _) _) _ _ _
  walk_at "w"
  refine sub_dict (by trivial) (by walk_at "mem") h7 ?_
  exact ⟨σ, .skip .refl, h⟩
set_option tactic.hygienic true in
theorem allowance_c (T : Top4 G) {n : Nat} {x dx ll : Addr} {ma : List (PySem.Str × AV)} {us : List AV} {rs : List (Int × Bool)} {name : PySem.Str} {Q : AV → Sto → Prop} (hi : (x, .any (InstO 69 dx)) ∈ σ) (hdx : (dx, .any (AttrD ma)) ∈ σ) (hne : dx ≠ x) (hma : ma.lookup aRL = some (.ref ll))
    (hl : (ll, .list us) ∈ σ) (hr : RulesAt σ name us rs) (h : Q (.bool (allowF rs (-1) true)) σ) :
    CL G ⟨n + 2, none⟩ (.ref 66) [.ref x, .str name] σ Q X := by
  have T1 : Top G := T.toTop
  refine cl_fn' T.toTp arA T.m66 rfl rfl rfl rfl ndA (fun vs hvs => ?_) fun L => ?_
  · obtain ⟨a, b, rfl, _⟩ := two hvs; rfl
  simp only [nmA, lay_nil, lay_local, lay_cell, lay_global, layC_nil, layC_local, layC_cell, layC_global, List.zip_cons_cons, List.zip_nil_right, bn_nil, bn_cons]
  walk_at "w"
  refine ex_for .no rfl ?_ (fun _a => rfl)
  refine ev_attr_inst T.c rfl (by simp [attrNames]) ?_
  walk_at "w"
  refine ⟨x, dx, ma, .ref ll, rfl, by walk_at "mem", by walk_at "mem", hne, hma, trivial, ?_⟩
  refine ⟨.lst ll, us, ⟨rfl, by walk_at "mem"⟩, ?_⟩
  suffices H : ∀ (ys : List AV) (ps : List (Int × Bool)) (best : Int) (al : Bool) (ol om : Option AV), RulesAt σ name ys ps → Q (.bool (allowF ps best al)) σ →
      FR G ⟨n + 1, none⟩ _ _ _ (.lst ll) us _ NoX ys ((L, AO.ns [(PySem.Str.ofString "self", some (.ref x)), (PySem.Str.ofString "filename", some (.str name)), (PySem.Str.ofString "best_match", some (.int best)), (PySem.Str.ofString "allowance", some (.bool al)), (PySem.Str.ofString "line", ol), (PySem.Str.ofString "m", om)]) :: σ) from
    H us rs (-1) true none none hr h
  intro ys
  induction ys with
  | nil =>
    intro ps best al ol om hrs hq
    cases hrs
    refine ⟨List.Mem.tail _ hl, ?_⟩
    walk_at "w"
    exact ⟨σ, by walk_at "pt", hq⟩
  | cons y ys ih =>
    intro ps best al ol om hrs hq
    obtain _ | ⟨hy, hrs⟩ := hrs
    rename_i far v rs2
    obtain ⟨a, d, f2, cc, da, c2, pm, cv, ctv, pm2, ctv2, es, rfl, h1, h2, h3, h4, h5, h6, h7⟩ := hy
    refine fr_step (List.Mem.tail _ hl) ?_
    walk_at "w"
    refine ev_meth_gm rfl rfl rfl rfl ?_
    walk_at "w"
    refine gm_fn (d := d) (v := .ref f2) (m := [(aAL, .bool v), (aAP, .ref f2)]) lk_fn_applies (by walk_at "mem") (by walk_at "mem") rfl trivial ?_
    walk_at "w"
    refine ⟨kp_lam (o := lam2 cc pm2 (.ref c2) ctv2) (by walk_at "mem") rfl, ?_⟩
    refine applies_c T1 (cc := cc) (c2 := c2) (da := da) (by walk_at "mem") (by walk_at "mem") (by walk_at "mem") (by walk_at "mem") h7 ?_
    walk_at "w"
    refine tr_int ?_
    unfold allowF at hq
    by_cases hz : far = 0
    · refine iteF (by simp [hz]) ?_
      rw [if_pos hz] at hq
      walk_at "w"
      exact ⟨_, .refl, ih _ _ _ _ _ hrs hq⟩
    · refine iteT (by simp [hz]) ?_
      rw [if_neg hz] at hq
      walk_at "w"
      by_cases hb : best < far
      · refine iteT (by simpa using hb) ?_
        rw [if_pos hb] at hq
        walk_at "w"
        refine ev_attr_fn rfl lk_fn_allow ?_
        walk_at "w"
        refine ⟨a, d, _, [(aAL, .bool v), (aAP, .ref f2)], .bool v, rfl, by walk_at "mem", by walk_at "mem", rfl, trivial, ?_⟩
        walk_at "w"
        exact ⟨_, .refl, ih _ _ _ _ _ hrs hq⟩
      · refine iteF (by simpa using hb) ?_
        rw [if_neg hb] at hq
        walk_at "w"
        by_cases he : far = best
        · refine iteT (by simpa using he) ?_
          walk_at "w"
          cases al with
          | true =>
            walk_at "if"
            rw [if_neg (by simp)] at hq
            walk_at "w"
            exact ⟨_, .refl, ih _ _ _ _ _ hrs hq⟩
          | false =>
            walk_at "if"
            rw [if_pos ⟨he, rfl⟩] at hq
            walk_at "w"
            refine ev_attr_fn rfl lk_fn_allow ?_
            walk_at "w"
            refine ⟨a, d, _, [(aAL, .bool v), (aAP, .ref f2)], .bool v, rfl, by walk_at "mem", by walk_at "mem", rfl, trivial, ?_⟩
            walk_at "w"
            exact ⟨_, .refl, ih _ _ _ _ _ hrs hq⟩
        · refine iteF (by simpa using he) ?_
          walk_at "if"
          rw [if_neg (fun h => he h.1)] at hq
          walk_at "w"
          exact ⟨_, .refl, ih _ _ _ _ _ hrs hq⟩
end
end C15Text
section C16Text
section
variable {G : Gd} {κ : Kx} {env : Env} {σ σ' : Sto} {X : XP}
theorem merge_c (T : Top4 G) {n : Nat} {x1 x2 : Addr} {us1 us2 : List PySem.Str} {rs1 rs2 : List AV} {Q : AV → Sto → Prop} (e1 : RecAt σ x1 us1 rs1) (e2 : RecAt σ x2 us2 rs2)
    (hz : us1.length ≤ 100 ∧ us2.length ≤ 100 ∧ rs1.length ≤ 100 ∧ rs2.length ≤ 100)
    (h : ∀ x dx lu ll o1 o2 o3 o4, dx ≠ x → Q (.ref x) ((x, .any (InstO 69 dx)) :: (dx, .any (AttrD [(aRR, .none), (aDE, .none), (aRL, .ref ll), (aUA, .ref lu), (aRR, o1), (aDE, o2), (aRL, o3), (aUA, o4)])) :: (ll, .list (rs1 ++ rs2)) :: (lu, .list (sts (us1.filter fun u => us2.contains u))) :: σ)) :
    CL G ⟨n + 5, none⟩ (.ref 99) [.ref x1, .ref x2] σ Q X := by
  have T1 : Top G := T.toTop
  obtain ⟨dx1, m1, lu1, ll1, hi1, hd1, hne1, ua1, rl1, de1, rr1, al1, hu1, hl1⟩ := e1
  obtain ⟨dx2, m2, lu2, ll2, hi2, hd2, hne2, ua2, rl2, de2, rr2, al2, hu2, hl2⟩ := e2
  refine cl_fn' T.toTp ar8 (T.fn 8 99 rfl) rfl rfl rfl rfl nd8 (fun vs hvs => ?_) fun L => ?_
  · obtain ⟨a, b, rfl, _⟩ := two hvs; rfl
  simp only [nm8, lay_nil, lay_local, lay_cell, lay_global, layC_nil, layC_local, layC_cell, layC_global, List.zip_cons_cons, List.zip_nil_right, bn_nil, bn_cons]
  walk_at "w"
  refine ⟨kp_cls T, ?_⟩
  refine entry_c T fun x dx lu lr hne => ?_
  walk_at "w"
  refine ex_assign_attr ?_ rfl
  walk_at "w"
  refine ev_contains_of rfl ?_
  walk_at "w"
  refine ev_attr_inst T.c rfl (by simp [attrNames]) ?_
  walk_at "w"
  refine ⟨x2, dx2, m2, .ref lu2, rfl, by walk_at "mem", by walk_at "mem", hne2, ua2, trivial, ?_⟩
  walk_at "w"
  refine cl_set rfl (xs := us2) (by walk_at "mem") (by walk_at "om") fun S k => ?_
  refine ⟨S, _, k, rfl, by walk_at "mem", fun b => ?_⟩
  walk_at "w"
  refine ev_attr_inst T.c rfl (by simp [attrNames]) ?_
  walk_at "w"
  refine ⟨x1, dx1, m1, .ref lu1, rfl, by walk_at "mem", by walk_at "mem", hne1, ua1, trivial, ?_⟩
  walk_at "w"
  refine cl_filter (xs := sts us1) (by walk_at "mem") fun fv M I hfv => ?_
  walk_at "w"
  obtain rfl : fv = .ref b := ab_ref hfv
  refine cl_list_filter (xs := sts us1) (p := fun a => match a with | .str u => us2.contains u | _ => false) (by walk_at "mem") (by rw [sizeLine_eq]; simp [sts]; walk_at "om") ?_ fun r => ?_
  · intro y hy
    obtain ⟨u, hu, rfl⟩ := List.mem_map.mp hy
    exact cl_con (S := fun x => us2.contains x) (n := k) (l := S) (by walk_at "mem") (by walk_at "mem") ⟨rfl, rfl⟩
  have e1 : (sts us1).filter (fun a => match a with | .str u => us2.contains u | _ => false) = sts (us1.filter fun u => us2.contains u) := by
    unfold sts; rw [List.filter_map]; rfl
  rw [e1]
  walk_at "w"
  refine sa_from (Pt.cons (p := (x, .any (InstO 69 dx))) (by walk_at "rm") (Pt.cons (p := (dx, .any (AttrD [(aRR, .none), (aDE, .none), (aRL, .ref lr), (aUA, .ref lu)]))) (by walk_at "rm") .refl)) ?_
  refine sa_inst T.c (by simp [attrNames]) (by simp) ?_
  walk_at "w"
  refine ex_assign_attr ?_ rfl
  walk_at "w"
  refine ev_attr_inst T.c rfl (by simp [attrNames]) ?_
  walk_at "w"
  refine ⟨x1, dx1, m1, .ref ll1, rfl, by walk_at "mem", by walk_at "mem", hne1, rl1, trivial, ?_⟩
  walk_at "w"
  refine ev_attr_inst T.c rfl (by simp [attrNames]) ?_
  walk_at "w"
  refine ⟨x2, dx2, m2, .ref ll2, rfl, by walk_at "mem", by walk_at "mem", hne2, rl2, trivial, ?_⟩
  walk_at "w"
  refine op_add_list (xs := rs1) (ys := rs2) (by walk_at "mem") (by walk_at "mem") (by rw [sizeLine_eq]; walk_at "om") fun r2 => ?_
  walk_at "w"
  refine sa_from (Pt.cons (p := (x, .any (InstO 69 dx))) (by walk_at "rm") (Pt.cons (p := (dx, .any (AttrD [(aUA, .ref r), (aRR, .none), (aDE, .none), (aRL, .ref lr), (aUA, .ref lu)]))) (by walk_at "rm") .refl)) ?_
  refine sa_inst T.c (by simp [attrNames]) (by simp) ?_
  walk_at "w"
  refine ex_assign_attr ?_ rfl
  walk_at "w"
  refine ev_attr_inst T.c rfl (by simp [attrNames]) ?_
  walk_at "w"
  refine ⟨x2, dx2, m2, .none, rfl, by walk_at "mem", by walk_at "mem", hne2, de2, trivial, ?_⟩
  walk_at "w"
  refine iteT (by decide) ?_
  refine ev_attr_inst T.c rfl (by simp [attrNames]) ?_
  walk_at "w"
  refine ⟨x1, dx1, m1, .none, rfl, by walk_at "mem", by walk_at "mem", hne1, de1, trivial, ?_⟩
  walk_at "w"
  refine sa_from (Pt.cons (p := (x, .any (InstO 69 dx))) (by walk_at "rm") (Pt.cons (p := (dx, .any (AttrD [(aRL, .ref r2), (aUA, .ref r), (aRR, .none), (aDE, .none), (aRL, .ref lr), (aUA, .ref lu)]))) (by walk_at "rm") .refl)) ?_
  refine sa_inst T.c (by simp [attrNames]) (by simp) ?_
  walk_at "w"
  refine ex_assign_attr ?_ rfl
  walk_at "w"
  refine ev_attr_inst T.c rfl (by simp [attrNames]) ?_
  walk_at "w"
  refine ⟨x2, dx2, m2, .none, rfl, by walk_at "mem", by walk_at "mem", hne2, rr2, trivial, ?_⟩
  walk_at "w"
  refine iteT (by decide) ?_
  refine ev_attr_inst T.c rfl (by simp [attrNames]) ?_
  walk_at "w"
  refine ⟨x1, dx1, m1, .none, rfl, by walk_at "mem", by walk_at "mem", hne1, rr1, trivial, ?_⟩
  walk_at "w"
  refine sa_from (Pt.cons (p := (x, .any (InstO 69 dx))) (by walk_at "rm") (Pt.cons (p := (dx, .any (AttrD [(aDE, .none), (aRL, .ref r2), (aUA, .ref r), (aRR, .none), (aDE, .none), (aRL, .ref lr), (aUA, .ref lu)]))) (by walk_at "rm") .refl)) ?_
  refine sa_inst T.c (by simp [attrNames]) (by simp) ?_
  walk_at "w"
  exact ⟨_, by walk_at "pt", h x dx r r2 _ _ _ _ hne⟩
end
end C16Text
section C17Text
theorem sldF_nil (bs : List PySem.Str) : sldF [] bs = ([], bs) := by rw [sldF]
theorem sldF_nilr (as : List PySem.Str) : sldF as [] = (as, []) := by
  cases as <;> rw [sldF]
/-- what was told ahead of what is to be told -/
noncomputable def pre (ms us : List PySem.Str) (r : List PySem.Str × List PySem.Str) : List PySem.Str × List PySem.Str := (ms ++ r.1, us ++ r.2)
section
variable {ms us C B : List PySem.Str} {x y : PySem.Str} {R : List PySem.Str × List PySem.Str}
theorem pre_nil (e : C = []) (h : pre ms us (sldF C B) = R) : pre ms us (C, B) = R := by
  subst e; rwa [sldF_nil] at h
theorem pre_nilr (e : B = []) (h : pre ms us (sldF C B) = R) : pre ms us (C, B) = R := by
  subst e; rwa [sldF_nilr] at h
theorem pre_lt (hl : ltS x y = true) (h : pre ms us (sldF (x :: C) (y :: B)) = R) : pre (ms ++ [x]) us (sldF C (y :: B)) = R := by
  rw [sldF, if_pos hl] at h; rw [← h]; unfold pre; rw [List.append_assoc]; rfl
theorem pre_gt (hl : ¬ ltS x y = true) (hg : ltS y x = true) (h : pre ms us (sldF (x :: C) (y :: B)) = R) : pre ms (us ++ [y]) (sldF (x :: C) B) = R := by
  rw [sldF, if_neg hl, if_pos hg] at h; rw [← h]; unfold pre; rw [List.append_assoc]; rfl
theorem pre_eq (hl : ¬ ltS x y = true) (hg : ¬ ltS y x = true) (h : pre ms us (sldF (x :: C) (y :: B)) = R) : pre ms us (sldF C B) = R := by
  rw [sldF, if_neg hl, if_neg hg] at h; exact h
theorem sld_dec1 {S a b : Nat} (h : a + b < S) : S - (a + 1) - b < S - a - b := by
  rw [Nat.sub_sub, Nat.sub_sub, Nat.add_right_comm]; exact Nat.sub_lt_sub_left h (Nat.lt_succ_self _)
theorem sld_dec2 {S a b : Nat} (h : a + b < S) : S - a - (b + 1) < S - a - b := by
  rw [Nat.sub_sub, Nat.sub_sub]; exact Nat.sub_lt_sub_left h (Nat.lt_succ_self _)
theorem sld_dec3 {S a b : Nat} (h : a + b < S) : S - (a + 1) - (b + 1) < S - a - b := by
  rw [Nat.sub_sub, Nat.sub_sub]; exact Nat.sub_lt_sub_left h (Nat.add_lt_add (Nat.lt_succ_self _) (Nat.lt_succ_self _))
theorem sts_get {E : List PySem.Str} {i : Nat} {x : PySem.Str} (h : E[i]? = some x) : (sts E)[((i : Nat) : Int).toNat]? = some (.str x) := by
  show (sts E)[i]? = _
  simp [sts, h]
theorem sts_out {E : List PySem.Str} {i : Nat} (h : E.drop i = []) : ((sts E).length : Int) ≤ (i : Int) := by
  rw [sts, List.length_map]; exact Int.ofNat_le.mpr (List.drop_eq_nil_iff.mp h)
theorem sts_snoc {M : List AV} (e : M = sts ms) : M ++ [.str x] = sts (ms ++ [x]) := by subst e; simp [sts]
theorem le_line {i n : Nat} (h : i ≤ n) (hn : n ≤ 100) : (i : Int) + 1 ≤ sizeLine := by
  rw [sizeLine_eq]; omega
end
section
variable {G : Gd} {κ : Kx} {env : Env} {σ σ' : Sto} {X : XP}
/-- the state of sorted_list_difference -/
noncomputable abbrev sldS (L p q u m : Addr) (σ : Sto) (i j : Int) (M U : List AV) (e a : Option AV) : Sto :=
  (u, .list U) :: (m, .list M) :: (L, .ns [(PySem.Str.ofString "expected", some (.ref p)), (PySem.Str.ofString "actual", some (.ref q)), (PySem.Str.ofString "i", some (.int i)), (PySem.Str.ofString "j", some (.int j)), (PySem.Str.ofString "missing", some (.ref m)), (PySem.Str.ofString "unexpected", some (.ref u)), (PySem.Str.ofString "e", e), (PySem.Str.ofString "a", a)]) :: σ
inductive SldJ (E A : List PySem.Str) (L p q u m : Addr) (σ τ : Sto) : Prop
  | mk (i j : Nat) (ms us : List PySem.Str) (M U : List AV) (e a : Option AV) (h : pre ms us (E.drop i, A.drop j) = sldF E A) (hM : M = sts ms) (hU : U = sts us) (hil : i ≤ E.length) (hjl : j ≤ A.length) (hτ : τ = sldS L p q u m σ i j M U e a)
inductive SldI (E A : List PySem.Str) (L p q u m : Addr) (σ : Sto) (N : Nat) (τ : Sto) : Prop
  | mk (i j : Nat) (ms us : List PySem.Str) (M U : List AV) (e a : Option AV) (h : pre ms us (sldF (E.drop i) (A.drop j)) = sldF E A) (hM : M = sts ms) (hU : U = sts us) (hil : i ≤ E.length) (hjl : j ≤ A.length) (hN : N = E.length + A.length - i - j) (hτ : τ = sldS L p q u m σ i j M U e a)
set_option tactic.hygienic true in
theorem sld_c (T : Top G) {n : Nat} {p q : Addr} {E A : List PySem.Str} {outer : List Env} {Q : AV → Sto → Prop} (hE : (p, .list (sts E)) ∈ σ) (hA : (q, .list (sts A)) ∈ σ) (hz : E.length ≤ 100 ∧ A.length ≤ 100) (hfo : FrOk outer σ) (aE : Apart E) (aA : Apart A)
    (h : ∀ t u m, Q (.ref t) ((t, .tup [.ref m, .ref u]) :: (u, .list (sts (sldF E A).2)) :: (m, .list (sts (sldF E A).1)) :: σ)) : CL G ⟨n + 3, some ⟨none, outer⟩⟩ (.ref 132) [.ref p, .ref q] σ Q X := by
  refine cl_fnG T.toTp ar15 (T.fn 15 132 rfl) rfl rfl rfl rfl nd15 (fun vs hvs => ?_) fun L => ?_
  · obtain ⟨a, b, rfl, _⟩ := two hvs; rfl
  simp only [nm15, hdp, lay_nil, lay_local, lay_cell, lay_global, layC_nil, layC_local, layC_cell, layC_global, List.zip_cons_cons, List.zip_nil_right, bn_nil, bn_cons]
  walk_at "w"
  refine ex_assign_2 ?_ rfl rfl
  walk_at "w"
  rename_i m u
  refine ex_while .no ?_
  have hEs : (sts E).length ≤ sizeLine := by rw [sts, List.length_map, sizeLine_eq]; exact Nat.le_trans hz.1 (by decide)
  have hAs : (sts A).length ≤ sizeLine := by rw [sts, List.length_map, sizeLine_eq]; exact Nat.le_trans hz.2 (by decide)
  have hR := sldF_len E A
  let J : Sto → Prop := SldJ E A L p q u m σ
  have hJ : ∀ τ, J τ → FrOk (fenv (fdk 15 (T.cd 15) (T.pm 15)) L 132 :: outer) τ := by
    rintro τ ⟨i, j, ms, us, M, U, e, a, _, _, _, _, _, rfl⟩ v hv
    rcases List.mem_cons.mp hv with rfl | hv
    · exact ⟨(fun h => nomatch (show ScopeKind.function = ScopeKind.module from h)), L, _, rfl, by walk_at "mem"⟩
    · obtain ⟨hk, L', m', hf, hm⟩ := hfo v hv
      exact ⟨hk, L', m', hf, .tail _ (.tail _ (.tail _ hm))⟩
  refine wh_ind (SldI E A L p q u m σ) .no (fun N τ hI => ?_) (E.length + A.length) _ ⟨0, 0, [], [], [], [], none, none, rfl, rfl, rfl, Nat.zero_le _, Nat.zero_le _, rfl, rfl⟩
  obtain ⟨i, j, ms, us, M, U, e, a, h1, hM, hU, hil, hjl, hN, rfl⟩ := hI
  walk_at "w"
  refine iteT rfl ?_
  walk_at "w"
  have up : ∀ {v o}, (v, o) ∈ σ → ∀ {i j M U e a}, (v, o) ∈ sldS L p q u m σ i j M U e a := fun hv => .tail _ (.tail _ (.tail _ hv))
  refine ex_try (J := J) (L := L) rfl hJ (fun e σ' => ?_) ?_ (fun e T' c τ hτ => ?_)
  · walk_at "w"
    exact ⟨rfl, rfl⟩
  · walk_at "w"
    have hiz := Int.le_trans (Int.le_add_one (Int.le_refl _)) (le_line hil hz.1)
    have hjz := Int.le_trans (Int.le_add_one (Int.le_refl _)) (le_line hjl hz.2)
    rcases hEd : E.drop i with _ | ⟨x, E'⟩
    · exact sub_list_out (c := .none) trivial (up hE) (sts_out hEd) hiz (.inl ⟨rfl, rfl⟩) fun e' => ⟨.none, .inl ⟨e', _, rfl, rfl, i, j, ms, us, M, U, e, a, pre_nil hEd h1, hM, hU, hil, hjl, rfl⟩⟩
    obtain ⟨hx, hE', hlE⟩ := drop_cons hEd
    refine sub_list trivial (up hE) (Int.natCast_nonneg _) hEs (v := .str x) (sts_get hx) ?_
    walk_at "w"
    rcases hAd : A.drop j with _ | ⟨y, A'⟩
    · exact sub_list_out (c := .none) trivial (up hA) (sts_out hAd) hjz (.inl ⟨rfl, rfl⟩) fun e' => ⟨.none, .inl ⟨e', _, rfl, rfl, i, j, ms, us, M, U, some (.str x), a, pre_nilr hAd h1, hM, hU, hil, hjl, rfl⟩⟩
    obtain ⟨hy, hA', hlA⟩ := drop_cons hAd
    refine sub_list trivial (up hA) (Int.natCast_nonneg _) hAs (v := .str y) (sts_get hy) ?_
    walk_at "w"
    refine op_lt_str ?_
    have hMz : M.length ≤ sizeLine := by
      have := congrArg (fun r : List PySem.Str × List PySem.Str => r.1.length) h1
      simp only [pre, List.length_append] at this
      rw [hM, sts, List.length_map, sizeLine_eq]; walk_at "om"
    have hUz : U.length ≤ sizeLine := by
      have := congrArg (fun r : List PySem.Str × List PySem.Str => r.2.length) h1
      simp only [pre, List.length_append] at this
      rw [hU, sts, List.length_map, sizeLine_eq]; walk_at "om"
    have hS := Nat.add_lt_add hlE hlA
    have hi1 : 0 ≤ (i : Int) + 1 := Int.natCast_nonneg (i + 1)
    have hj1 : 0 ≤ (j : Int) + 1 := Int.natCast_nonneg (j + 1)
    have hiz := le_line hil hz.1
    have hjz := le_line hjl hz.2
    rw [hEd, hAd] at h1
    walk_at "w"
    by_cases hlt : ltS x y = true
    · refine iteT hlt ?_
      have h1 := pre_lt hlt h1
      rw [← hE', ← hAd] at h1
      walk_at "w"
      refine W.mono (ex_whileX (Y := XNo (rawInt L) .none J) (backs_no (fl := rawInt L) rfl) (wh_turnX (X := XAny (rawInt L) .none J) (notes_any rfl hJ) ?_)) (fun _a _b q => q) (fun a σ hx => ⟨.none, .inr hx⟩)
      walk_at "w"
      rcases hE'' : E' with _ | ⟨x', E''⟩
      · rw [hE''] at hE'
        exact sub_list_out (c := .none) trivial (up hE) (sts_out hE') hiz (.inl ⟨rfl, rfl⟩) fun e' => .inl ⟨e', _, rfl, rfl, i + 1, j, ms ++ [x], us, _, U, some (.str x), some (.str y), pre_nil hE' h1, sts_snoc hM, hU, hlE, hjl, rfl⟩
      · obtain ⟨hx', _, hlE'⟩ := drop_cons (hE'.trans hE'')
        refine sub_list trivial (up hE) hi1 hEs (v := .str x') (sts_get hx') ?_
        walk_at "w"
        refine iteF (by rw [aE _ _ _ hx hx']; decide) ?_
        walk_at "w"
        exact ⟨_, .refl, _, by rw [hN]; exact sld_dec1 hS, i + 1, j, ms ++ [x], us, _, U, some (.str x), some (.str y), h1, sts_snoc hM, hU, hlE, hjl, rfl, rfl⟩
    refine iteF hlt ?_
    walk_at "w"
    refine op_gt_str ?_
    walk_at "w"
    by_cases hgt : ltS y x = true
    · refine iteT hgt ?_
      have h1 := pre_gt hlt hgt h1
      rw [← hA', ← hEd] at h1
      walk_at "w"
      refine W.mono (ex_whileX (Y := XNo (rawInt L) .none J) (backs_no (fl := rawInt L) rfl) (wh_turnX (X := XAny (rawInt L) .none J) (notes_any rfl hJ) ?_)) (fun _a _b q => q) (fun a σ hx => ⟨.none, .inr hx⟩)
      walk_at "w"
      rcases hA'' : A' with _ | ⟨y', A''⟩
      · rw [hA''] at hA'
        exact sub_list_out (c := .none) trivial (up hA) (sts_out hA') hjz (.inl ⟨rfl, rfl⟩) fun e' => .inl ⟨e', _, rfl, rfl, i, j + 1, ms, us ++ [y], M, _, some (.str x), some (.str y), pre_nilr hA' h1, hM, sts_snoc hU, hil, hlA, rfl⟩
      · obtain ⟨hy', _, hlA'⟩ := drop_cons (hA'.trans hA'')
        refine sub_list trivial (up hA) hj1 hAs (v := .str y') (sts_get hy') ?_
        walk_at "w"
        refine iteF (by rw [aA _ _ _ hy hy']; decide) ?_
        walk_at "w"
        exact ⟨_, .refl, _, by rw [hN]; exact sld_dec2 hS, i, j + 1, ms, us ++ [y], M, _, some (.str x), some (.str y), h1, hM, sts_snoc hU, hil, hlA, rfl, rfl⟩
    refine iteF hgt ?_
    walk_at "w"
    have h1 := pre_eq hlt hgt h1
    rw [← hE', ← hA'] at h1
    let J₁ : Sto → Prop := fun τ => E.drop (i + 1) = [] ∧ τ = sldS L p q u m σ ((i : Int) + 1) j M U (some (.str x)) (some (.str y))
    have hJ₁ : ∀ τ, J₁ τ → FrOk (fenv (fdk 15 (T.cd 15) (T.pm 15)) L 132 :: outer) τ := by
      rintro τ ⟨_, rfl⟩ v hv
      rcases List.mem_cons.mp hv with rfl | hv
      · exact ⟨(fun h => nomatch (show ScopeKind.function = ScopeKind.module from h)), L, _, rfl, by walk_at "mem"⟩
      · obtain ⟨hk, L', m', hf, hm⟩ := hfo v hv
        exact ⟨hk, L', m', hf, .tail _ (.tail _ (.tail _ hm))⟩
    refine ex_try_fin (L := L) (J := J) (J₁ := J₁) rfl hJ hJ₁ ?_ (fun e T' τ hτ => ?_)
    · walk_at "w"
      refine W.mono (ex_whileX (Y := XNo (rawInt L) .none J₁) (backs_no (fl := rawInt L) rfl) (wh_turnX (X := XAny (rawInt L) .none J₁) (notes_any rfl hJ₁) ?_)) (fun _a _b q => q) (fun a σ hx => .inr hx)
      walk_at "w"
      rcases hE'' : E' with _ | ⟨x', E''⟩
      · rw [hE''] at hE'
        exact sub_list_out (c := .none) trivial (up hE) (sts_out hE') hiz (.inl ⟨rfl, rfl⟩) fun e' => .inl ⟨e', _, rfl, rfl, hE', rfl⟩
      · obtain ⟨hx', _, hlE'⟩ := drop_cons (hE'.trans hE'')
        refine sub_list trivial (up hE) hi1 hEs (v := .str x') (sts_get hx') ?_
        walk_at "w"
        refine iteF (by rw [aE _ _ _ hx hx']; decide) ?_
        walk_at "w"
        refine ⟨rfl, ?_⟩
        walk_at "w"
        refine W.mono (ex_whileX (Y := XNo (rawInt L) .none J) (backs_no (fl := rawInt L) rfl) (wh_turnX (X := XAny (rawInt L) .none J) (notes_any rfl hJ) ?_)) (fun _a _b q => q) (fun a σ hx => .inr hx)
        walk_at "w"
        rcases hA'' : A' with _ | ⟨y', A''⟩
        · rw [hA''] at hA'
          exact sub_list_out (c := .none) trivial (up hA) (sts_out hA') hjz (.inl ⟨rfl, rfl⟩) fun e' => .inl ⟨e', _, rfl, rfl, i + 1, j + 1, ms, us, M, U, some (.str x), some (.str y), pre_nilr hA' h1, hM, hU, hlE, hlA, rfl⟩
        · obtain ⟨hy', _, hlA'⟩ := drop_cons (hA'.trans hA'')
          refine sub_list trivial (up hA) hj1 hAs (v := .str y') (sts_get hy') ?_
          walk_at "w"
          refine iteF (by rw [aA _ _ _ hy hy']; decide) ?_
          walk_at "w"
          refine ⟨rfl, ?_⟩
          walk_at "w"
          exact ⟨_, .refl, _, by rw [hN]; exact sld_dec3 hS, i + 1, j + 1, ms, us, M, U, some (.str x), some (.str y), h1, hM, hU, hlE, hlA, rfl, rfl⟩
    · obtain ⟨hE'', rfl⟩ := hτ
      have h1 := pre_nil hE'' h1
      walk_at "w"
      let J₂ : Sto → Prop := fun τ' => ∃ τ, τ' = (e, AO.any (ExO (.ref T') .none)) :: (T', .any (TB .none)) :: τ ∧ J τ
      have hJ₂ : ∀ τ, J₂ τ → FrOk (fenv (fdk 15 (T.cd 15) (T.pm 15)) L 132 :: outer) τ := by
        rintro τ ⟨τ, rfl, j⟩
        exact (hJ _ j).up (.cons _ (.cons _ (.refl _)))
      refine W.partX (W.mono (ex_whileX (Y := XNo (rawInt L) (.ref e) J₂) (backs_no (fl := rawInt L) rfl) (wh_turnX (X := XAny (rawInt L) (.ref e) J₂) (notes_any rfl hJ₂) ?_)) (fun _a _b q => q) (fun a σ hx => ?_))
      · walk_at "w"
        rcases hA'' : A' with _ | ⟨y', A''⟩
        · rw [hA''] at hA'
          exact sub_list_out (c := .ref e) trivial (.tail _ (.tail _ (up hA))) (sts_out hA') hjz (.inr ⟨e, _, rfl, rfl, by walk_at "mem"⟩) fun e' => .inl ⟨e', _, rfl, rfl, _, rfl, i + 1, j + 1, ms, us, M, U, some (.str x), some (.str y), h1, hM, hU, hlE, hlA, rfl⟩
        · obtain ⟨hy', _, hlA'⟩ := drop_cons (hA'.trans hA'')
          refine sub_list trivial (.tail _ (.tail _ (up hA))) hj1 hAs (v := .str y') (sts_get hy') ?_
          walk_at "w"
          refine iteF (by rw [aA _ _ _ hy hy']; decide) ?_
          walk_at "w"
          exact ⟨rfl, _, rfl, i + 1, j + 1, ms, us, M, U, some (.str x), some (.str y), h1, hM, hU, hlE, hlA, rfl⟩
      · obtain ⟨v, T₂, _, rfl, rfl, τ, rfl, j⟩ := hx
        exact ⟨_, .cons .here (.cons .here (.skip (.skip .refl))), .inr ⟨v, T₂, τ, rfl, rfl, j⟩⟩
  · obtain ⟨i, j, ms, us, M, U, e, a, h1, hM, hU, hil, hjl, rfl⟩ := hτ
    have g1 : ms ++ E.drop i = (sldF E A).1 := congrArg (·.1) h1
    have g2 : us ++ A.drop j = (sldF E A).2 := congrArg (·.2) h1
    have e1 : M ++ sts (E.drop i) = sts (sldF E A).1 := by rw [← g1, hM]; simp [sts]
    have e2 : U ++ sts (A.drop j) = sts (sldF E A).2 := by rw [← g2, hU]; simp [sts]
    have z1 : M.length + (sts (E.drop i)).length ≤ 1000 := by rw [← List.length_append, e1, sts, List.length_map]; walk_at "om"
    have z2 : U.length + (sts (A.drop j)).length ≤ 1000 := by rw [← List.length_append, e2, sts, List.length_map]; walk_at "om"
    walk_at "w"
    ((with_reducible refine ev_meth_list F.slot_list_extend F.type_list_extend ?hb ?hf ?hl ?hs ?_); walk_at "m4")
    walk_at "w"
    walk_at "sll"
    walk_at "w"
    refine ⟨p, sts E, _, _, rfl, .tail _ (.tail _ (up hE)), .int, .none, hEs, fun r => ?_⟩
    rw [show slcL (sts E) (some (i : Int)) none = sts (E.drop i) by rw [slcL_from _ _ (Int.natCast_nonneg _)]; exact (List.map_drop ..).symm]
    walk_at "w"
    refine cl_extend (xs := M) (ys := sts (E.drop i)) (by walk_at "up") (by walk_at "mem") z1 ?_
    walk_at "w"
    ((with_reducible refine ev_meth_list F.slot_list_extend F.type_list_extend ?hb ?hf ?hl ?hs ?_); walk_at "m4")
    walk_at "w"
    walk_at "sll"
    walk_at "w"
    refine ⟨q, sts A, _, _, rfl, .tail _ (.tail _ (.tail _ (.tail _ (.tail _ (.tail _ hA))))), .int, .none, hAs, fun r => ?_⟩
    rw [show slcL (sts A) (some (j : Int)) none = sts (A.drop j) by rw [slcL_from _ _ (Int.natCast_nonneg _)]; exact (List.map_drop ..).symm]
    walk_at "w"
    refine cl_extend (xs := U) (ys := sts (A.drop j)) (by walk_at "up") (by walk_at "mem") z2 ?_
    walk_at "w"
    refine ⟨_, .refl, ?_⟩
    walk_at "w"
    rename_i t
    rw [e1, e2]
    exact ⟨_, by walk_at "pt", h t u m⟩
end
end C17Text
section P1Text
noncomputable def StandsP (items name : List Nat) (p : Nat) : Prop := p + items.length ≤ name.length ∧ ∀ i, i < items.length → name[p + i]? = items[i]?
theorem standsB_iff (items name : List Nat) (p : Nat) : standsB items name p = true ↔ StandsP items name p := by
  unfold standsB StandsP
  rw [Bool.and_eq_true, decide_eq_true_eq, List.isPrefixOf_iff_prefix, List.prefix_iff_getElem?]
  constructor
  · rintro ⟨h, h2⟩
    refine ⟨h, fun i hi => ?_⟩
    have := h2 i hi
    rw [List.getElem?_drop] at this
    rw [this, List.getElem?_eq_getElem hi]
  · rintro ⟨h, h2⟩
    refine ⟨h, fun i hi => ?_⟩
    rw [List.getElem?_drop, h2 i hi, List.getElem?_eq_getElem hi]
theorem stands_nil (name : List Nat) (p : Nat) : StandsP [] name p ↔ p ≤ name.length := by
  unfold StandsP; simp
theorem stands_cons (c : Nat) (items name : List Nat) (p : Nat) : StandsP (c :: items) name p ↔ name[p]? = some c ∧ StandsP items name (p + 1) := by
  unfold StandsP
  constructor
  · rintro ⟨h, h2⟩
    refine ⟨by simpa using h2 0 (by simp), by rw [Nat.add_assoc, Nat.add_comm 1]; exact h, fun i hi => ?_⟩
    have := h2 (i + 1) (by simpa using hi)
    rw [show p + 1 + i = p + (i + 1) from Nat.add_right_comm p 1 i, this]; simp
  · rintro ⟨h, h1, h2⟩
    refine ⟨by rw [List.length_cons, Nat.add_comm items.length, ← Nat.add_assoc]; exact h1, fun i hi => ?_⟩
    cases i with
    | zero => simpa using h
    | succ i =>
      have := h2 i (by simpa using hi)
      rw [show p + 1 + i = p + (i + 1) from Nat.add_right_comm p 1 i] at this
      rw [this]; simp
/-- what items match from a place to another -/
noncomputable def Mt (name : List Nat) : List (Option Nat) → Nat → Nat → Prop
  | [], p, q => p = q
  | some c :: r, p, q => name[p]? = some c ∧ Mt name r (p + 1) q
  | none :: r, p, q => ∃ p', p ≤ p' ∧ p' ≤ name.length ∧ Mt name r p' q
/-- the same, by the groups behind the stars -/
noncomputable def Gm (name : List Nat) : List (List Nat) → Nat → Nat → Prop
  | [], p, q => p = q
  | g :: r, p, q => ∃ p', p ≤ p' ∧ StandsP g name p' ∧ Gm name r (p' + g.length) q
theorem gm_le {name : List Nat} : ∀ {gs : List (List Nat)} {p q : Nat}, p ≤ name.length → Gm name gs p q → p ≤ q ∧ q ≤ name.length
  | [], p, q, hp, h => by cases h; exact ⟨Nat.le_refl _, hp⟩
  | g :: r, p, q, hp, ⟨p', h1, h2, h3⟩ => by
    have := gm_le h2.1 h3
    exact ⟨Nat.le_trans h1 (Nat.le_trans (Nat.le_add_right ..) this.1), this.2⟩
theorem gm_anti {name : List Nat} {g : List Nat} {r : List (List Nat)} {a b q : Nat} (h : Gm name (g :: r) a q) (hb : b ≤ a) : Gm name (g :: r) b q := by
  obtain ⟨p', h1, h2, h3⟩ := h
  exact ⟨p', Nat.le_trans hb h1, h2, h3⟩
theorem mt_splitE {name : List Nat} : ∀ (its : List (Option Nat)) (p q : Nat), p ≤ name.length → (Mt name its p q ↔ StandsP (splitE its).1 name p ∧ Gm name (splitE its).2 (p + (splitE its).1.length) q)
  | [], p, q, hp => by
    show p = q ↔ StandsP [] name p ∧ p = q
    rw [stands_nil]
    exact ⟨fun h => ⟨hp, h⟩, fun h => h.2⟩
  | some c :: r, p, q, hp => by
    show (name[p]? = some c ∧ Mt name r (p + 1) q) ↔ StandsP (c :: (splitE r).1) name p ∧ Gm name (splitE r).2 (p + ((splitE r).1.length + 1)) q
    rw [stands_cons]
    constructor
    · rintro ⟨h, h2⟩
      have hlt := (List.getElem?_eq_some_iff.mp h).1
      obtain ⟨h3, h4⟩ := (mt_splitE r (p + 1) q hlt).mp h2
      exact ⟨⟨h, h3⟩, by rw [show p + ((splitE r).1.length + 1) = p + 1 + (splitE r).1.length from Nat.add_right_comm p _ 1]; exact h4⟩
    · rintro ⟨⟨h, h3⟩, h4⟩
      have hlt := (List.getElem?_eq_some_iff.mp h).1
      exact ⟨h, (mt_splitE r (p + 1) q hlt).mpr ⟨h3, by rw [show p + 1 + (splitE r).1.length = p + ((splitE r).1.length + 1) from Nat.add_right_comm p 1 _]; exact h4⟩⟩
  | none :: r, p, q, hp => by
    show (∃ p', p ≤ p' ∧ p' ≤ name.length ∧ Mt name r p' q) ↔ StandsP [] name p ∧ ∃ p', p ≤ p' ∧ StandsP (splitE r).1 name p' ∧ Gm name (splitE r).2 (p' + (splitE r).1.length) q
    rw [stands_nil]
    constructor
    · rintro ⟨p', h1, h2, h3⟩
      obtain ⟨h4, h5⟩ := (mt_splitE r p' q h2).mp h3
      exact ⟨hp, p', h1, h4, h5⟩
    · rintro ⟨_, p', h1, h4, h5⟩
      have : p' ≤ name.length := Nat.le_trans (Nat.le_add_right ..) h4.1
      exact ⟨p', h1, this, (mt_splitE r p' q this).mpr ⟨h4, h5⟩⟩
set_option tactic.hygienic true in
theorem gm_star {name : List Nat} (h : List Nat) (gs : List (List Nat)) (p q : Nat) : Gm name (starGs h gs) p q ↔ Gm name (h :: gs) p q := by
  unfold starGs
  split
  · rename_i hh
    obtain ⟨rfl, hne⟩ := hh
    cases gs with
    | nil => exact absurd rfl hne
    | cons g r =>
      constructor
      · rintro ⟨p', h1, h2, h3⟩
        exact ⟨p, Nat.le_refl _, (stands_nil _ _).mpr (Nat.le_trans h1 (Nat.le_trans (Nat.le_add_right ..) h2.1)), p', h1, h2, h3⟩
      · rintro ⟨p', h1, _, h3⟩
        exact gm_anti h3 (by simpa using h1)
  · exact Iff.rfl
theorem mt_splitS {name : List Nat} : ∀ (its : List (Option Nat)) (p q : Nat), p ≤ name.length → (Mt name its p q ↔ StandsP (splitS its).1 name p ∧ Gm name (splitS its).2 (p + (splitS its).1.length) q)
  | [], p, q, hp => by
    show p = q ↔ StandsP [] name p ∧ p = q
    rw [stands_nil]
    exact ⟨fun h => ⟨hp, h⟩, fun h => h.2⟩
  | some c :: r, p, q, hp => by
    show (name[p]? = some c ∧ Mt name r (p + 1) q) ↔ StandsP (c :: (splitS r).1) name p ∧ Gm name (splitS r).2 (p + ((splitS r).1.length + 1)) q
    rw [stands_cons]
    constructor
    · rintro ⟨h, h2⟩
      have hlt := (List.getElem?_eq_some_iff.mp h).1
      obtain ⟨h3, h4⟩ := (mt_splitS r (p + 1) q hlt).mp h2
      exact ⟨⟨h, h3⟩, by rw [show p + ((splitS r).1.length + 1) = p + 1 + (splitS r).1.length from Nat.add_right_comm p _ 1]; exact h4⟩
    · rintro ⟨⟨h, h3⟩, h4⟩
      have hlt := (List.getElem?_eq_some_iff.mp h).1
      exact ⟨h, (mt_splitS r (p + 1) q hlt).mpr ⟨h3, by rw [show p + 1 + (splitS r).1.length = p + ((splitS r).1.length + 1) from Nat.add_right_comm p 1 _]; exact h4⟩⟩
  | none :: r, p, q, hp => by
    show (∃ p', p ≤ p' ∧ p' ≤ name.length ∧ Mt name r p' q) ↔ StandsP [] name p ∧ Gm name (starGs (splitS r).1 (splitS r).2) p q
    rw [stands_nil, gm_star]
    show _ ↔ _ ∧ ∃ p', p ≤ p' ∧ StandsP (splitS r).1 name p' ∧ Gm name (splitS r).2 (p' + (splitS r).1.length) q
    constructor
    · rintro ⟨p', h1, h2, h3⟩
      obtain ⟨h4, h5⟩ := (mt_splitS r p' q h2).mp h3
      exact ⟨hp, p', h1, h4, h5⟩
    · rintro ⟨_, p', h1, h4, h5⟩
      have : p' ≤ name.length := Nat.le_trans (Nat.le_add_right ..) h4.1
      exact ⟨p', h1, this, (mt_splitS r p' q this).mpr ⟨h4, h5⟩⟩
set_option tactic.hygienic true in
/-- the law's own trial -/
theorem fold_mt {name : List Nat} : ∀ (its : List (Option Nat)) (ps : List Nat) (q : Nat), q ∈ its.foldl (stepF name) ps ↔ ∃ p ∈ ps, Mt name its p q
  | [], ps, q => ⟨fun h => ⟨q, h, rfl⟩, fun ⟨p, hp, e⟩ => (show p = q from e) ▸ hp⟩
  | some c :: r, ps, q => by
    rw [List.foldl_cons, fold_mt r]
    constructor
    · rintro ⟨p, hp, h⟩
      obtain ⟨k, hk, e⟩ := List.mem_filterMap.mp hp
      split at e
      · rename_i hc
        cases e
        exact ⟨k, hk, hc, h⟩
      · cases e
    · rintro ⟨p, hp, hc, h⟩
      exact ⟨p + 1, List.mem_filterMap.mpr ⟨p, hp, by rw [if_pos hc]⟩, h⟩
  | none :: r, ps, q => by
    rw [List.foldl_cons, fold_mt r]
    constructor
    · rintro ⟨p', hp, h⟩
      obtain ⟨h1, h2⟩ := List.mem_filter.mp hp
      obtain ⟨p, hp, hle⟩ := List.any_eq_true.mp h2
      exact ⟨p, hp, p', by simpa using hle, Nat.le_of_lt_succ (List.mem_range.mp h1), h⟩
    · rintro ⟨p, hp, p', h1, h2, h⟩
      exact ⟨p', List.mem_filter.mpr ⟨List.mem_range.mpr (Nat.lt_succ_of_le h2), List.any_eq_true.mpr ⟨p, hp, by simpa using h1⟩⟩, h⟩
theorem tried_iff (its : List (Option Nat)) (name : List Nat) : triedF its name = true ↔ Mt name its 0 name.length := by
  unfold triedF
  rw [List.any_eq_true]
  constructor
  · rintro ⟨k, hk, e⟩
    obtain rfl : k = name.length := by simpa using e
    obtain ⟨p, hp, h⟩ := (fold_mt its [0] _).mp hk
    obtain rfl : p = 0 := by simpa using hp
    exact h
  · intro h
    exact ⟨_, (fold_mt its [0] _).mpr ⟨0, by simp, h⟩, by simp⟩
theorem mt_mono {name : List Nat} : ∀ (its : List (Option Nat)) (p q : Nat), Mt name its p q → p ≤ q
  | [], _, _, h => Nat.le_of_eq h
  | some _ :: r, _, _, h => Nat.le_of_succ_le (mt_mono r _ _ h.2)
  | none :: r, _, _, h => by obtain ⟨p', h1, _, h3⟩ := h; exact Nat.le_trans h1 (mt_mono r _ _ h3)
theorem in_rng {p p' g n : Nat} (h1 : p ≤ p') (h2 : p' + g ≤ n) : p' < p + (n + 1 - g - p) := by
  have h := Nat.lt_sub_of_add_lt (Nat.lt_succ_of_le h2)
  rw [Nat.add_sub_of_le (Nat.le_trans h1 (Nat.le_of_lt h))]; exact h
theorem mt_take {name : List Nat} {k : Nat} (hk : k ≤ name.length) : ∀ (its : List (Option Nat)) (p : Nat), p ≤ k → (Mt (name.take k) its p k ↔ Mt name its p k)
  | [], p, _ => Iff.rfl
  | some c :: r, p, hp => by
    show ((name.take k)[p]? = some c ∧ Mt (name.take k) r (p + 1) k) ↔ name[p]? = some c ∧ Mt name r (p + 1) k
    rcases Nat.lt_or_ge p k with h | h
    · rw [List.getElem?_take, if_pos h, mt_take hk r (p + 1) h]
    · have : p = k := Nat.le_antisymm hp h
      subst this
      constructor
      · rintro ⟨h1, _⟩
        rw [List.getElem?_take, if_neg (Nat.lt_irrefl _)] at h1; cases h1
      · rintro ⟨h1, h2⟩
        exfalso
        exact absurd (mt_mono _ _ _ h2) (Nat.not_succ_le_self _)
  | none :: r, p, hp => by
    show (∃ p', p ≤ p' ∧ p' ≤ (name.take k).length ∧ Mt (name.take k) r p' k) ↔ ∃ p', p ≤ p' ∧ p' ≤ name.length ∧ Mt name r p' k
    constructor
    · rintro ⟨p', h1, h2, h3⟩
      rw [List.length_take] at h2
      rw [Nat.min_eq_left hk] at h2
      exact ⟨p', h1, Nat.le_trans h2 hk, (mt_take hk r p' h2).mp h3⟩
    · rintro ⟨p', h1, h2, h3⟩
      have := mt_mono _ _ _ h3
      exact ⟨p', h1, by rw [List.length_take, Nat.min_eq_left hk]; exact this, (mt_take hk r p' this).mpr h3⟩
/-- the parts that are read off the text -/
noncomputable def grPs : List (List Nat) → List (Sk × List Nat)
  | [] => []
  | [g] => [(.greedy, g)]
  | g :: r => (.lazy, g) :: (.fix, []) :: grPs r
theorem place_some {items name : List Nat} : ∀ {ps : List Nat} {k : Nat}, placeF items name ps = (k : Int) → ∃ pre post, ps = pre ++ k :: post ∧ standsB items name k = true ∧ ∀ x ∈ pre, standsB items name x = false
  | [], k, h => by unfold placeF at h; walk_at "om"
  | p :: ps, k, h => by
    unfold placeF at h
    cases hs : standsB items name p with
    | true =>
      rw [hs, if_pos rfl] at h
      obtain rfl : p = k := by walk_at "om"
      exact ⟨[], ps, rfl, hs, by simp⟩
    | false =>
      rw [hs] at h
      simp only [Bool.false_eq_true, if_false] at h
      obtain ⟨pre, post, e, h1, h2⟩ := place_some h
      refine ⟨p :: pre, post, by rw [e]; rfl, h1, fun x hx => ?_⟩
      rcases List.mem_cons.mp hx with rfl | hx
      · exact hs
      · exact h2 x hx
theorem place_none {items name : List Nat} : ∀ {ps : List Nat}, placeF items name ps < 0 → ∀ x ∈ ps, standsB items name x = false
  | p :: ps, h, x, hx => by
    unfold placeF at h
    cases hs : standsB items name p with
    | true => rw [hs, if_pos rfl] at h; walk_at "om"
    | false =>
      rw [hs] at h
      simp only [Bool.false_eq_true, if_false] at h
      rcases List.mem_cons.mp hx with rfl | hx
      · exact hs
      · exact place_none h x hx
theorem place_cases (items name ps : List Nat) : placeF items name ps < 0 ∨ ∃ k : Nat, placeF items name ps = (k : Int) := by
  rcases Int.lt_or_le (placeF items name ps) 0 with h | h
  · exact .inl h
  · exact .inr ⟨(placeF items name ps).toNat, (Int.toNat_of_nonneg h).symm⟩
theorem up_mem (p n x : Nat) : x ∈ (List.range n).map (p + ·) ↔ p ≤ x ∧ x < p + n := by
  rw [List.mem_map]
  constructor
  · rintro ⟨i, hi, rfl⟩; exact ⟨Nat.le_add_right .., Nat.add_lt_add_left (List.mem_range.mp hi) p⟩
  · rintro ⟨h1, h2⟩; exact ⟨x - p, List.mem_range.mpr (Nat.sub_lt_left_of_lt_add h1 h2), Nat.add_sub_cancel' h1⟩
theorem up_first {p n k : Nat} {pre post : List Nat} (h : (List.range n).map (p + ·) = pre ++ k :: post) : ∀ x, p ≤ x → x < k → x ∈ pre := by
  have hl : k = p + pre.length := by
    have h1 : ((List.range n).map (p + ·))[pre.length]? = some k := by rw [h]; simp
    rw [List.getElem?_map] at h1
    cases hr : (List.range n)[pre.length]? with
    | none => rw [hr] at h1; cases h1
    | some i =>
      rw [hr] at h1
      have := List.getElem?_eq_some_iff.mp hr
      obtain ⟨h2, h3⟩ := this
      rw [List.getElem_range] at h3
      rw [h3]; exact (Option.some.inj h1).symm
  intro x h1 h2
  have h4 : x - p < pre.length := Nat.sub_lt_left_of_lt_add h1 (hl ▸ h2)
  have h3 : ((List.range n).map (p + ·))[x - p]? = pre[x - p]? := by rw [h, List.getElem?_append_left h4]
  rw [List.getElem?_map] at h3
  rw [List.getElem?_eq_getElem h4] at h3
  cases hr : (List.range n)[x - p]? with
  | none => rw [hr] at h3; cases h3
  | some i =>
    rw [hr] at h3
    obtain ⟨h5, h6⟩ := List.getElem?_eq_some_iff.mp hr
    rw [List.getElem_range] at h6
    have : pre[x - p] = x := by rw [← Option.some.inj h3, ← h6]; exact Nat.add_sub_cancel' h1
    rw [← this]; exact List.getElem_mem _
theorem down_first {p n k : Nat} {pre post : List Nat} (h : ((List.range n).map (p + ·)).reverse = pre ++ k :: post) : ∀ x, k < x → x < p + n → x ∈ pre := by
  intro x h1 h2
  have hk : p ≤ k ∧ k < p + n := by
    have : k ∈ ((List.range n).map (p + ·)).reverse := by rw [h]; simp
    rw [List.mem_reverse] at this
    exact (up_mem p n k).mp this
  have hx : x ∈ ((List.range n).map (p + ·)).reverse := by rw [List.mem_reverse]; exact (up_mem p n x).mpr ⟨Nat.le_trans hk.1 (Nat.le_of_lt h1), h2⟩
  rw [h] at hx
  rcases List.mem_append.mp hx with hx | hx
  · exact hx
  · rcases List.mem_cons.mp hx with rfl | hx
    · exact absurd h1 (Nat.lt_irrefl _)
    · exfalso
      have hs : (((List.range n).map (p + ·)).reverse).Pairwise (fun a b => b < a) := by
        rw [List.pairwise_reverse, List.pairwise_map]
        exact List.pairwise_lt_range.imp fun hab => Nat.add_lt_add_left hab p
      rw [h, List.pairwise_append] at hs
      exact Nat.lt_asymm h1 ((List.pairwise_cons.mp hs.2.1).1 x hx)
theorem goes_best {name : List Nat} : ∀ (gs : List (List Nat)) (p : Nat), gs ≠ [] → p ≤ name.length →
    (goesF name (grPs gs) p = -1 ∧ ∀ q, ¬ Gm name gs p q) ∨ ∃ q : Nat, goesF name (grPs gs) p = (q : Int) ∧ Gm name gs p q ∧ ∀ q', Gm name gs p q' → q' ≤ q
  | [], _, h, _ => absurd rfl h
  | [g], p, _, hp => by
    unfold grPs goesF
    rcases place_cases g name (cands .greedy p (name.length + 1 - g.length - p)) with h | ⟨k, h⟩
    · refine .inl ⟨by simp only [h, if_true], fun q ⟨p', h1, h2, h3⟩ => ?_⟩
      have := place_none h p' (by
        show p' ∈ List.reverse _
        rw [List.mem_reverse]
        exact (up_mem _ _ _).mpr ⟨h1, in_rng h1 h2.1⟩)
      rw [(standsB_iff _ _ _).mpr h2] at this; cases this
    · refine .inr ⟨k + g.length, ?_, ?_, ?_⟩
      · simp only [h]
        rw [if_neg (Int.not_lt.mpr (Int.natCast_nonneg _))]
        simp [goesF]
      · obtain ⟨pre, post, e, hs, _⟩ := place_some h
        have hm : k ∈ ((List.range (name.length + 1 - g.length - p)).map (p + ·)).reverse := by
          show k ∈ cands .greedy p _
          rw [e]; simp
        rw [List.mem_reverse] at hm
        exact ⟨k, ((up_mem _ _ _).mp hm).1, (standsB_iff _ _ _).mp hs, rfl⟩
      · rintro q' ⟨p', h1, h2, h3⟩
        have h3 : p' + g.length = q' := h3
        obtain ⟨pre, post, e, hs, hpre⟩ := place_some h
        rcases Nat.lt_or_ge k p' with hlt | hge
        · have h4 := h2.1
          have := hpre p' (down_first e p' hlt (in_rng h1 h4))
          rw [(standsB_iff _ _ _).mpr h2] at this; cases this
        · exact h3 ▸ Nat.add_le_add_right hge _
  | g :: g2 :: r, p, _, hp => by
    have hgr : grPs (g :: g2 :: r) = (.lazy, g) :: (.fix, []) :: grPs (g2 :: r) := rfl
    rw [hgr]
    unfold goesF
    rcases place_cases g name (cands .lazy p (name.length + 1 - g.length - p)) with h | ⟨k, h⟩
    · refine .inl ⟨by simp only [h, if_true], fun q ⟨p', h1, h2, h3⟩ => ?_⟩
      have := place_none h p' (by
        exact (up_mem _ _ _).mpr ⟨h1, in_rng h1 h2.1⟩)
      rw [(standsB_iff _ _ _).mpr h2] at this; cases this
    · obtain ⟨pre, post, e, hs, hpre⟩ := place_some h
      have hst := (standsB_iff _ _ _).mp hs
      have hkl : k + g.length ≤ name.length := hst.1
      have hm : k ∈ (List.range (name.length + 1 - g.length - p)).map (p + ·) := by
        show k ∈ cands .lazy p _
        rw [e]; simp
      have hpk := ((up_mem _ _ _).mp hm).1
      have ih := goes_best (g2 :: r) (k + g.length) (by simp) hkl
      have step : (let f := placeF g name (cands .lazy p (name.length + 1 - g.length - p)); if f < 0 then (-1 : Int) else goesF name ((.fix, []) :: grPs (g2 :: r)) (f.toNat + g.length)) = goesF name (grPs (g2 :: r)) (k + g.length) := by
        simp only [h]
        rw [if_neg (Int.not_lt.mpr (Int.natCast_nonneg _)), Int.toNat_natCast]
        have hb : standsB [] name (k + g.length) = true := (standsB_iff _ _ _).mpr ((stands_nil _ _).mpr hkl)
        have hp0 : placeF [] name (cands .fix (k + g.length) (name.length + 1 - 0 - (k + g.length))) = ((k + g.length : Nat) : Int) := by
          show placeF [] name [k + g.length] = _
          unfold placeF
          rw [hb, if_pos rfl]
        rw [show goesF name ((Sk.fix, []) :: grPs (g2 :: r)) (k + g.length) = (if placeF [] name (cands .fix (k + g.length) (name.length + 1 - 0 - (k + g.length))) < 0 then -1 else goesF name (grPs (g2 :: r)) ((placeF [] name (cands .fix (k + g.length) (name.length + 1 - 0 - (k + g.length)))).toNat + 0)) from rfl]
        rw [hp0, if_neg (Int.not_lt.mpr (Int.natCast_nonneg _)), Int.toNat_natCast, Nat.add_zero]
      rw [step]
      have key : ∀ q', Gm name (g :: g2 :: r) p q' → Gm name (g2 :: r) (k + g.length) q' := by
        rintro q' ⟨p', h1, h2, h3⟩
        refine gm_anti h3 ?_
        rcases Nat.lt_or_ge p' k with hlt | hge
        · have := hpre p' (up_first e p' h1 hlt)
          rw [(standsB_iff _ _ _).mpr h2] at this; cases this
        · exact Nat.add_le_add_right hge _
      rcases ih with ⟨h1, h2⟩ | ⟨q, h1, h2, h3⟩
      · exact .inl ⟨h1, fun q hq => h2 q (key q hq)⟩
      · exact .inr ⟨q, h1, ⟨k, hpk, hst, h2⟩, fun q' hq' => h3 q' (key q' hq')⟩
theorem goes_head {name : List Nat} (h : List Nat) (gs : List (List Nat)) (hne : gs ≠ []) :
    (goesF name ((.fix, h) :: grPs gs) 0 = -1 ∧ ∀ q, ¬ (StandsP h name 0 ∧ Gm name gs (0 + h.length) q)) ∨ ∃ q : Nat, goesF name ((.fix, h) :: grPs gs) 0 = (q : Int) ∧ (StandsP h name 0 ∧ Gm name gs (0 + h.length) q) ∧ ∀ q', (StandsP h name 0 ∧ Gm name gs (0 + h.length) q') → q' ≤ q := by
  unfold goesF
  have hc : cands .fix 0 (name.length + 1 - h.length - 0) = [0] := rfl
  rw [hc]
  unfold placeF
  cases hs : standsB h name 0 with
  | false =>
    refine .inl ⟨by simp [placeF], fun q hq => ?_⟩
    rw [(standsB_iff _ _ _).mpr hq.1] at hs; cases hs
  | true =>
    have hst := (standsB_iff _ _ _).mp hs
    simp only [if_true]
    rw [if_neg (by decide)]
    have e0 : (((0 : Nat) : Int)).toNat + h.length = 0 + h.length := by simp
    rw [e0]
    rcases goes_best gs (0 + h.length) hne hst.1 with ⟨h1, h2⟩ | ⟨q, h1, h2, h3⟩
    · exact .inl ⟨h1, fun q hq => h2 q hq.2⟩
    · exact .inr ⟨q, h1, ⟨hst, h2⟩, fun q' hq' => h3 q' hq'.2⟩
theorem splitE_ne' : ∀ items : List (Option Nat), none ∈ items → (splitE items).2 ≠ []
  | none :: r, _ => List.cons_ne_nil _ _
  | some c :: r, h => splitE_ne' r (by simpa using h)
set_option tactic.hygienic true in
theorem splitS_ne' : ∀ items : List (Option Nat), none ∈ items → (splitS items).2 ≠ []
  | none :: r, _ => by
    show starGs _ _ ≠ []
    unfold starGs; split
    · rename_i x; exact x.2
    · simp
  | some c :: r, h => splitS_ne' r (by simpa using h)
noncomputable def dueL (its : List (Option Nat)) (name : List Nat) : List Nat := (List.range (name.length + 1)).filter fun k => triedF its (name.take k)
theorem law_one (its : List (Option Nat)) (hs : none ∈ its) (name : List Nat) : (goesF name ((.fix, (splitS its).1) :: grPs (splitS its).2) 0 == (name.length : Int)) = triedF its name := by
  rw [Bool.eq_iff_iff, beq_iff_eq, tried_iff, mt_splitS its 0 name.length (Nat.zero_le _)]
  rcases goes_head (splitS its).1 (splitS its).2 (splitS_ne' its hs) (name := name) with ⟨h1, h2⟩ | ⟨q, h1, h2, h3⟩
  · rw [h1]
    exact ⟨fun h => by walk_at "om", fun h => absurd h (h2 _)⟩
  · rw [h1]
    constructor
    · intro h
      obtain rfl : q = name.length := Int.ofNat_inj.mp h
      exact h2
    · intro h
      exact Int.ofNat_inj.mpr (Nat.le_antisymm (gm_le h2.1.1 h2.2).2 (h3 _ h))
theorem mem_due {its : List (Option Nat)} {name : List Nat} {k : Nat} : k ∈ dueL its name ↔ k ≤ name.length ∧ Mt name its 0 k := by
  unfold dueL
  rw [List.mem_filter, List.mem_range, tried_iff]
  constructor
  · rintro ⟨h1, h2⟩
    have hk : k ≤ name.length := Nat.le_of_lt_succ h1
    rw [List.length_take, Nat.min_eq_left hk] at h2
    exact ⟨hk, (mt_take hk its 0 (Nat.zero_le _)).mp h2⟩
  · rintro ⟨h1, h2⟩
    refine ⟨Nat.lt_succ_of_le h1, ?_⟩
    rw [List.length_take, Nat.min_eq_left h1]
    exact (mt_take h1 its 0 (Nat.zero_le _)).mpr h2
theorem due_sorted (its : List (Option Nat)) (name : List Nat) : (dueL its name).Pairwise (· < ·) := List.Pairwise.filter _ List.pairwise_lt_range
theorem last_max : ∀ (l : List Nat) (q : Nat), l.Pairwise (· < ·) → q ∈ l → (∀ x ∈ l, x ≤ q) → l.getLast? = some q
  | [a], q, _, hq, _ => by
    obtain rfl : q = a := by simpa using hq
    rfl
  | a :: b :: r, q, hp, hq, hm => by
    rw [List.getLast?_cons_cons]
    refine last_max (b :: r) q (List.pairwise_cons.mp hp).2 ?_ fun x hx => hm x (.tail _ hx)
    rcases List.mem_cons.mp hq with rfl | hq
    · exact absurd (hm b (.tail _ (.head _))) (Nat.not_le.mpr ((List.pairwise_cons.mp hp).1 b (.head _)))
    · exact hq
noncomputable def farI (its : List (Option Nat)) (name : List Nat) : Int := match (dueL its name).getLast? with | some q => (q : Int) + 1 | none => 0
theorem law_two (its : List (Option Nat)) (hs : none ∈ its) (name : List Nat) : goesF name ((.fix, (splitE its).1) :: grPs (splitE its).2) 0 + 1 = farI its name := by
  unfold farI
  have hm : ∀ k, k ∈ dueL its name ↔ k ≤ name.length ∧ (StandsP (splitE its).1 name 0 ∧ Gm name (splitE its).2 (0 + (splitE its).1.length) k) := fun k => by
    rw [mem_due, mt_splitE its 0 k (Nat.zero_le _)]
  rcases goes_head (splitE its).1 (splitE its).2 (splitE_ne' its hs) (name := name) with ⟨h1, h2⟩ | ⟨q, h1, h2, h3⟩
  · have : dueL its name = [] := by
      rw [List.eq_nil_iff_forall_not_mem]
      exact fun k hk => h2 k ((hm k).mp hk).2
    rw [this, h1]; rfl
  · have hq := (gm_le h2.1.1 h2.2).2
    rw [last_max (dueL its name) q (due_sorted _ _) ((hm q).mpr ⟨hq, h2⟩) fun x hx => h3 x ((hm x).mp hx).2, h1]
end P1Text
section P2Text
-- tokens
noncomputable def tkc (b : Bool) (c : Nat) : Tk := if c = 46 then .esc 46 else if c = 63 then (if b then .cls else .esc 63) else .ch c
noncomputable def tkJ (b : Bool) : List (List Nat) → List Tk
  | [] => []
  | [g] => .greedy :: g.map (tkc b)
  | g :: r => .lazy :: (g.map (tkc b) ++ .close :: tkJ b r)
noncomputable def toksOf (b : Bool) (p : List Nat × List (List Nat)) : List Tk := p.1.map (tkc b) ++ tkJ b p.2
theorem tksTx_app : ∀ a b : List Tk, tksTx (a ++ b) = tksTx a ++ tksTx b
  | [], b => rfl
  | t :: a, b => by simp [tksTx_cons, tksTx_app a b]
set_option tactic.hygienic true in
theorem fold_items (b : Bool) : ∀ (l : List Nat) (s : Sk) (its : List Nat) (r : List (Sk × List Nat)), (l.map (tkc b)).foldl pstep ((s, its) :: r) = (s, its ++ l) :: r
  | [], s, its, r => by simp
  | c :: l, s, its, r => by
    have h : pstep ((s, its) :: r) (tkc b c) = (s, its ++ [c]) :: r := by
      unfold tkc
      split
      · rename_i h; subst h; rfl
      · split
        · rename_i h; subst h; split <;> rfl
        · rfl
    rw [List.map_cons, List.foldl_cons, h, fold_items b l]
    simp
set_option tactic.hygienic true in
theorem ok_items (b : Bool) (more : List Tk) : ∀ (l : List Nat), (∀ c ∈ l, Lit5 c) → ∀ (s : Sk) (its : List Nat) (r : List (Sk × List Nat)), tksOk ((s, its ++ l) :: r) more → tksOk ((s, its) :: r) (l.map (tkc b) ++ more)
  | [], _, s, its, r, h => by simpa using h
  | c :: l, hl, s, its, r, h => by
    have h1 : pstep ((s, its) :: r) (tkc b c) = (s, its ++ [c]) :: r := by
      have := fold_items b [c] s its r
      simpa using this
    refine ⟨?_, ?_⟩
    · have hc := hl c (.head _)
      unfold tkc
      split
      · exact .inl rfl
      · split
        · split
          · trivial
          · exact .inr rfl
        · rename_i h2 h3
          rcases hc with h | h | h | h | h
          · exact .inl h
          · exact .inr (.inl h)
          · exact .inr (.inr h)
          · exact absurd h h2
          · exact absurd h h3
    · show tksOk (pstep ((s, its) :: r) (tkc b c)) (l.map (tkc b) ++ more)
      rw [h1]
      exact ok_items b more l (fun c hc => hl c (.tail _ hc)) s (its ++ [c]) r (by simpa using h)
theorem fold_J (b : Bool) : ∀ (gs : List (List Nat)) (st : List (Sk × List Nat)), ((tkJ b gs).foldl pstep st).reverse = st.reverse ++ grPs gs
  | [], st => by simp [tkJ, grPs]
  | [g], st => by
    show ((g.map (tkc b)).foldl pstep ((.greedy, []) :: st)).reverse = _
    rw [fold_items]; simp [grPs]
  | g :: g2 :: r, st => by
    show ((g.map (tkc b) ++ .close :: tkJ b (g2 :: r)).foldl pstep ((.lazy, []) :: st)).reverse = _
    rw [List.foldl_append, fold_items, List.foldl_cons]
    show ((tkJ b (g2 :: r)).foldl pstep ((.fix, []) :: (.lazy, [] ++ g) :: st)).reverse = _
    rw [fold_J b (g2 :: r)]
    simp [grPs]
theorem fold_toks (b : Bool) (p : List Nat × List (List Nat)) : ((toksOf b p).foldl pstep [(.fix, [])]).reverse = (.fix, p.1) :: grPs p.2 := by
  unfold toksOf
  rw [List.foldl_append, fold_items, fold_J]
  simp
theorem ok_J (b : Bool) : ∀ (gs : List (List Nat)), (∀ g ∈ gs, ∀ c ∈ g, Lit5 c) → ∀ st, tksOk st (tkJ b gs)
  | [], _, st => trivial
  | [g], h, st => by
    refine ⟨trivial, ?_⟩
    have := ok_items b [] g (h g (.head _)) .greedy [] st trivial
    show tksOk ((.greedy, []) :: st) (g.map (tkc b))
    simpa using this
  | g :: g2 :: r, h, st => by
    refine ⟨trivial, ?_⟩
    refine ok_items b (.close :: tkJ b (g2 :: r)) g (h g (.head _)) .lazy [] st ⟨⟨_, _, rfl⟩, ok_J b (g2 :: r) (fun g hg => h g (.tail _ hg)) _⟩
theorem ok_toks (b : Bool) (p : List Nat × List (List Nat)) (h1 : ∀ c ∈ p.1, Lit5 c) (h2 : ∀ g ∈ p.2, ∀ c ∈ g, Lit5 c) : tksOk [(.fix, [])] (toksOf b p) :=
  ok_items b (tkJ b p.2) p.1 h1 .fix [] [] (ok_J b p.2 h2 _)
noncomputable def fnB : Bool → Nat → List Nat
  | true, c => fnE c
  | false, c => escM c
theorem tx_tkc (b : Bool) (c : Nat) (h : Lit5 c) : (tkc b c).tx = fnB b c := by
  rcases h with rfl | rfl | rfl | rfl | rfl <;> cases b <;> rfl
theorem tx_items (b : Bool) : ∀ (l : List Nat), (∀ c ∈ l, Lit5 c) → tksTx (l.map (tkc b)) = (l.map (fnB b)).flatten
  | [], _ => rfl
  | c :: l, h => by
    simp only [List.map_cons, tksTx_cons, List.flatten_cons]
    rw [tx_tkc b c (h c (.head _)), tx_items b l fun c hc => h c (.tail _ hc)]
theorem tx_J (b : Bool) : ∀ (gs : List (List Nat)), (∀ g ∈ gs, ∀ c ∈ g, Lit5 c) → tksTx (tkJ b gs) = joinGs (gs.map (·.map (fnB b)))
  | [], _ => rfl
  | [g], h => by
    show Tk.tx .greedy ++ tksTx (g.map (tkc b)) = _
    rw [tx_items b g (h g (.head _))]; rfl
  | g :: g2 :: r, h => by
    show Tk.tx .lazy ++ tksTx (g.map (tkc b) ++ .close :: tkJ b (g2 :: r)) = _
    rw [tksTx_app, tx_items b g (h g (.head _))]
    show _ ++ (_ ++ (Tk.tx .close ++ tksTx (tkJ b (g2 :: r)))) = _
    rw [tx_J b (g2 :: r) fun g hg => h g (.tail _ hg)]
    simp [joinGs, Tk.tx]
theorem tx_toks (b : Bool) (p : List Nat × List (List Nat)) (h1 : ∀ c ∈ p.1, Lit5 c) (h2 : ∀ g ∈ p.2, ∀ c ∈ g, Lit5 c) : tksTx (toksOf b p) = (p.1.map (fnB b)).flatten ++ joinGs (p.2.map (·.map (fnB b))) := by
  unfold toksOf
  rw [tksTx_app, tx_items b _ h1, tx_J b _ h2]
theorem lit_splitS : ∀ (its : List (Option Nat)), Items5 its → (∀ c ∈ (splitS its).1, Lit5 c) ∧ ∀ g ∈ (splitS its).2, ∀ c ∈ g, Lit5 c
  | [], _ => ⟨fun _ h => (nomatch h), fun _ h => (nomatch h)⟩
  | none :: r, h => by
    have ih := lit_splitS r fun c hc => h c (.tail _ hc)
    refine ⟨fun _ h => (nomatch h), ?_⟩
    intro g hg
    have hg : g ∈ starGs (splitS r).1 (splitS r).2 := hg
    unfold starGs at hg
    split at hg
    · exact ih.2 g hg
    · rcases List.mem_cons.mp hg with rfl | hg
      · exact ih.1
      · exact ih.2 g hg
  | some c :: r, h => by
    have ih := lit_splitS r fun c hc => h c (.tail _ hc)
    refine ⟨?_, ih.2⟩
    intro d hd
    rcases List.mem_cons.mp hd with rfl | hd
    · exact h _ (.head _)
    · exact ih.1 d hd
/-- the tokens of the two texts -/
theorem mid_toks (its : List (Option Nat)) (h : Items5 its) : trMid its = tksTx (toksOf true (splitS its)) := by
  rw [tx_toks true _ (lit_splitS its h).1 (lit_splitS its h).2]; rfl
theorem pa_toks (its : List (Option Nat)) (h : Items5 its) : paMid its = tksTx (toksOf false (splitE its)) := by
  rw [tx_toks false _ (splitE_mem its h).1 (splitE_mem its h).2]
  unfold paMid fnQ
  rw [List.flatMap_def]; rfl
end P2Text
section P3Text
/-- what the greatest of the rules says -/
noncomputable def TopV (rs : List (Int × Bool)) (M : Int) : Bool := rs.any fun p => p.2 && p.1 == M
theorem allow_spec : ∀ (rs : List (Int × Bool)) (best : Int) (a : Bool), (∀ p ∈ rs, 0 ≤ p.1) → (best = -1 ∧ a = true ∨ 0 < best) →
    (∀ M : Int, 0 < M → (∀ p ∈ rs, p.1 ≤ M) → best ≤ M → (best = M ∨ ∃ p ∈ rs, p.1 = M) → allowF rs best a = ((decide (best = M) && a) || TopV rs M)) ∧
    ((∀ p ∈ rs, p.1 = 0) → allowF rs best a = a)
  | [], best, a, _, _ => by
    refine ⟨fun M hM _a _b h => ?_, fun _a => rfl⟩
    rcases h with h | ⟨p, hp, _⟩
    · simp [allowF, TopV, h]
    · cases hp
  | (m, v) :: r, best, a, hpos, hb => by
    have hm := hpos (m, v) (.head _)
    have hr : ∀ p ∈ r, 0 ≤ p.1 := fun p hp => hpos p (.tail _ hp)
    refine ⟨fun M hM hle hbM hex => ?_, fun h0 => ?_⟩
    · have hmM : m ≤ M := hle (m, v) (.head _)
      have hleR : ∀ p ∈ r, p.1 ≤ M := fun p hp => hle p (.tail _ hp)
      have tv : TopV ((m, v) :: r) M = ((v && m == M) || TopV r M) := rfl
      rw [tv]
      unfold allowF
      by_cases hz : m = 0
      · rw [if_pos hz]
        have hex' : best = M ∨ ∃ p ∈ r, p.1 = M := by
          rcases hex with h | ⟨p, hp, he⟩
          · exact .inl h
          · rcases List.mem_cons.mp hp with rfl | hp
            · exact absurd (Eq.trans (Eq.symm he) hz) (Int.ne_of_gt hM)
            · exact .inr ⟨p, hp, he⟩
        rw [(allow_spec r best a hr hb).1 M hM hleR hbM hex']
        have : (m == M) = false := beq_eq_false_iff_ne.mpr fun e => absurd (e.symm.trans hz) (Int.ne_of_gt hM)
        rw [this]; simp
      · rw [if_neg hz]
        by_cases hlt : best < m
        · rw [if_pos hlt]
          have hex' : m = M ∨ ∃ p ∈ r, p.1 = M := by
            rcases hex with h | ⟨p, hp, he⟩
            · exact absurd (Int.lt_of_lt_of_le hlt hmM) (h ▸ Int.lt_irrefl _)
            · rcases List.mem_cons.mp hp with rfl | hp
              · exact .inl he
              · exact .inr ⟨p, hp, he⟩
          rw [(allow_spec r m v hr (.inr (Int.lt_iff_le_and_ne.mpr ⟨hm, Ne.symm hz⟩))).1 M hM hleR hmM hex']
          have : (decide (best = M)) = false := decide_eq_false (Int.ne_of_lt (Int.lt_of_lt_of_le hlt hmM))
          rw [this]
          by_cases hmm : m = M <;> simp [hmm, Bool.and_comm]
        · rw [if_neg hlt]
          have hb' : 0 < best := by
            rcases hb with h | h
            · exact absurd (h.1 ▸ Int.lt_of_lt_of_le (by decide) hm) hlt
            · exact h
          have hex' : best = M ∨ ∃ p ∈ r, p.1 = M := by
            rcases hex with h | ⟨p, hp, he⟩
            · exact .inl h
            · rcases List.mem_cons.mp hp with rfl | hp
              · have he : m = M := he
                exact .inl (Int.le_antisymm hbM (he ▸ Int.not_lt.mp hlt))
              · exact .inr ⟨p, hp, he⟩
          by_cases hma : m = best ∧ a = false
          · rw [if_pos hma, (allow_spec r best v hr (.inr hb')).1 M hM hleR hbM hex']
            obtain ⟨rfl, rfl⟩ := hma
            by_cases hmm : m = M <;> simp [hmm]
          · rw [if_neg hma, (allow_spec r best a hr (.inr hb')).1 M hM hleR hbM hex']
            by_cases hmm : m = M
            · have : best = M := Int.le_antisymm hbM (hmm ▸ Int.not_lt.mp hlt)
              have hma' : a = true := by
                cases a
                · exact absurd ⟨hmm.trans this.symm, rfl⟩ hma
                · rfl
              simp [this, hma']
            · have : (m == M) = false := by simpa using hmm
              rw [this]; simp
    · have hz : m = 0 := h0 (m, v) (.head _)
      unfold allowF
      rw [if_pos hz]
      exact (allow_spec r best a hr hb).2 fun p hp => h0 p (.tail _ hp)
theorem allow_due (vs : List Bool) (gs : List Int) (hl : vs.length = gs.length) (h0 : ∀ g ∈ gs, 0 ≤ g) : allowF (gs.zip vs) (-1) true = dueF vs gs := by
  have hp : ∀ p ∈ gs.zip vs, 0 ≤ p.1 := fun p hp => h0 _ (List.of_mem_zip hp).1
  obtain ⟨h1, h2⟩ := maxI_spec (gs ++ [0]) (by simp)
  obtain ⟨s1, s2⟩ := allow_spec (gs.zip vs) (-1) true hp (.inl ⟨rfl, rfl⟩)
  unfold dueF
  by_cases hz : maxI (gs ++ [0]) = 0
  · rw [s2 fun p hpm => ?_]
    · simp [hz]
    · have a := hp p hpm
      have b := h2 p.1 (List.mem_append_left _ (List.of_mem_zip hpm).1)
      exact Int.le_antisymm (hz ▸ b) a
  · have hM : 0 < maxI (gs ++ [0]) := Int.lt_iff_le_and_ne.mpr ⟨h2 0 (by simp), Ne.symm hz⟩
    have hmem : maxI (gs ++ [0]) ∈ gs := by
      rcases List.mem_append.mp h1 with h | h
      · exact h
      · exact absurd (by simpa using h) hz
    rw [s1 _ hM (fun p hpm => h2 _ (List.mem_append_left _ (List.of_mem_zip hpm).1)) (Int.le_trans (by decide) (Int.le_of_lt hM)) (.inr ?_)]
    · have e1 : (decide ((-1 : Int) = maxI (gs ++ [0]))) = false := decide_eq_false fun e => absurd (e.symm ▸ hM : (0 : Int) < -1) (by decide)
      have e2 : (maxI (gs ++ [0]) == 0) = false := by simpa using hz
      rw [e1, e2, Bool.false_and, Bool.false_or, Bool.false_or]
      generalize maxI (gs ++ [0]) = M
      unfold TopV
      have : ∀ (vs : List Bool) (gs : List Int), (gs.zip vs).any (fun p => p.2 && p.1 == M) = (vs.zip gs).any fun p => p.1 && p.2 == M := by
        intro vs
        induction vs with
        | nil => intro gs; simp
        | cons v vs ih =>
          intro gs
          cases gs with
          | nil => rfl
          | cons g gs => simp [ih gs]
      exact this vs gs
    · obtain ⟨k, hk, e⟩ := List.mem_iff_getElem.mp hmem
      exact ⟨(gs[k], vs[k]'(by rw [hl]; exact hk)), List.mem_iff_getElem.mpr ⟨k, by rw [List.length_zip, hl, Nat.min_self]; exact hk, by simp⟩, e⟩
-- the order of texts
theorem ltS_irrefl (a : PySem.Str) : ltS a a = false := by
  unfold ltS; simp
theorem ltS_trans {a b c : PySem.Str} (h1 : ltS a b = true) (h2 : ltS b c = true) : ltS a c = true := by
  unfold ltS at *
  simp only [decide_eq_true_eq] at *
  exact List.lt_trans h1 h2
theorem ltS_tri {a b : PySem.Str} (h1 : ltS a b = false) (h2 : ltS b a = false) : a = b := by
  unfold ltS at *
  simp only [decide_eq_false_iff_not] at *
  have : a.cps.toList = b.cps.toList := List.le_antisymm (List.not_lt.mp h2) (List.not_lt.mp h1)
  cases a; cases b
  simpa using this
/-- rising, all apart -/
noncomputable abbrev Rise (l : List PySem.Str) : Prop := l.Pairwise fun a b => ltS a b = true
theorem Rise.apart {l : List PySem.Str} (h : Rise l) : Apart l := fun i x y hx hy => by
  obtain ⟨h1, e1⟩ := List.getElem?_eq_some_iff.mp hx
  obtain ⟨h2, e2⟩ := List.getElem?_eq_some_iff.mp hy
  have := (List.pairwise_iff_getElem.mp h) i (i + 1) h1 h2 (by walk_at "om")
  rw [e1, e2] at this
  rw [beq_eq_false_iff_ne]
  rintro rfl
  rw [ltS_irrefl] at this; cases this
theorem rise_of_sorted : ∀ {l : List PySem.Str}, sortedS l = true → l.Nodup → Rise l := by
  have key : ∀ (l : List PySem.Str) (p : PySem.Str), risingS p l = true → (p :: l).Nodup → Rise (p :: l) := by
    intro l
    induction l with
    | nil => intro p _ _; simp
    | cons x r ih =>
      intro p h nd
      have h' : (!PySem.Spec.ltCps x.cps.toList p.cps.toList && risingS x r) = true := h
      rw [Bool.and_eq_true] at h'
      have hx : ltS x p = false := by
        have := h'.1
        rw [ltCps_eq] at this
        simpa [ltS] using this
      have nd2 := (List.nodup_cons.mp nd).2
      have hr := ih x h'.2 nd2
      have hpx : ltS p x = true := by
        cases hq : ltS p x with
        | true => rfl
        | false =>
          have := ltS_tri hq hx
          subst this
          exact absurd (.head _) (List.nodup_cons.mp nd).1
      refine List.pairwise_cons.mpr ⟨fun y hy => ?_, hr⟩
      rcases List.mem_cons.mp hy with rfl | hy
      · exact hpx
      · exact ltS_trans hpx (List.rel_of_pairwise_cons hr hy)
  intro l h nd
  cases l with
  | nil => simp
  | cons p l => exact key l p h nd
theorem sld_spec (as bs : List PySem.Str) : Rise as → Rise bs → sldF as bs = (as.filter fun a => !bs.contains a, bs.filter fun b => !as.contains b) := by
  have nin : ∀ {a b : PySem.Str} {bs : List PySem.Str}, ltS a b = true → Rise (b :: bs) → a ∉ b :: bs := by
    intro a b bs h hr hm
    rcases List.mem_cons.mp hm with rfl | hm
    · rw [ltS_irrefl] at h; cases h
    · have := ltS_trans h (List.rel_of_pairwise_cons hr hm)
      rw [ltS_irrefl] at this; cases this
  fun_induction sldF as bs with
  | case1 bs => intro _ _; simp [List.filter_eq_self.mpr]
  | case2 a as => intro _ _; simp [List.filter_eq_self.mpr]
  | case3 a as b bs h ih =>
    intro ha hb
    rw [ih (List.pairwise_cons.mp ha).2 hb]
    have h1 := nin h hb
    refine Prod.ext ?_ ?_
    · have : ((b :: bs).contains a) = false := by simpa using h1
      simp only [List.filter_cons, this]
      simp
    · show List.filter _ _ = List.filter _ _
      refine List.filter_congr fun x hx => ?_
      have hne : x ≠ a := fun e => h1 (e ▸ hx)
      simp [hne]
  | case4 a as b bs h h' ih =>
    intro ha hb
    rw [ih ha (List.pairwise_cons.mp hb).2]
    have h1 := nin h' ha
    refine Prod.ext ?_ ?_
    · show List.filter _ _ = List.filter _ _
      refine List.filter_congr fun x hx => ?_
      have hne : x ≠ b := fun e => h1 (e ▸ hx)
      simp [hne]
    · have : ((a :: as).contains b) = false := by simpa using h1
      simp only [List.filter_cons, this]
      simp
  | case5 a as b bs h h' ih =>
    intro ha hb
    have : a = b := ltS_tri (by simpa using h) (by simpa using h')
    subst this
    rw [ih (List.pairwise_cons.mp ha).2 (List.pairwise_cons.mp hb).2]
    have na : ∀ x ∈ as, x ≠ a := fun x hx e => by
      have := List.rel_of_pairwise_cons ha hx
      rw [e, ltS_irrefl] at this; cases this
    have nb : ∀ x ∈ bs, x ≠ a := fun x hx e => by
      have := List.rel_of_pairwise_cons hb hx
      rw [e, ltS_irrefl] at this; cases this
    refine Prod.ext ?_ ?_
    · simp only [List.filter_cons]
      rw [show (!(a :: bs).contains a) = false by simp]
      simp only [Bool.false_eq_true, if_false]
      exact List.filter_congr fun x hx => by simp [na x hx]
    · simp only [List.filter_cons]
      rw [show (!(a :: as).contains a) = false by simp]
      simp only [Bool.false_eq_true, if_false]
      exact List.filter_congr fun x hx => by simp [nb x hx]
end P3Text
section B39Text
/-- a dict over the names -/
noncomputable def DV (val : List Nat → AV → Sto → Prop) (τ : Sto) (es : List (PySem.Str × AV)) (nms : List (List Nat)) : Prop := es.length = nms.length ∧ ∀ (i : Nat) (nm : List Nat), nms[i]? = some nm → ∃ v, es[i]? = some (tx nm, v) ∧ val nm v τ
theorem DV.nil {val : List Nat → AV → Sto → Prop} {τ : Sto} : DV val τ [] [] := ⟨rfl, fun i nm h => by simp at h⟩
theorem DV.snoc {val : List Nat → AV → Sto → Prop} {τ : Sto} {es : List (PySem.Str × AV)} {nms : List (List Nat)} {nm : List Nat} {v : AV} (h : DV val τ es nms) (hv : val nm v τ) : DV val τ (es ++ [(tx nm, v)]) (nms ++ [nm]) := by
  refine ⟨by simp [h.1], fun i m hm => ?_⟩
  rcases Nat.lt_or_ge i nms.length with hi | hi
  · rw [List.getElem?_append_left hi] at hm
    obtain ⟨w, hw, q⟩ := h.2 i m hm
    exact ⟨w, by rw [List.getElem?_append_left (by rw [h.1]; exact hi)]; exact hw, q⟩
  · rw [List.getElem?_append_right hi] at hm
    obtain ⟨h1, h2⟩ := List.getElem?_eq_some_iff.mp hm
    have hi' : i = nms.length := by simp at h1; walk_at "om"
    subst hi'
    simp at h2
    subst h2
    exact ⟨v, by rw [← h.1]; simp, hv⟩
theorem DV.mono {val : List Nat → AV → Sto → Prop} {τ τ' : Sto} {es : List (PySem.Str × AV)} {nms : List (List Nat)} (h : DV val τ es nms) (hm : ∀ nm v, val nm v τ → val nm v τ') : DV val τ' es nms :=
  ⟨h.1, fun i nm hi => let ⟨v, h1, h2⟩ := h.2 i nm hi; ⟨v, h1, hm _ _ h2⟩⟩
theorem DV.keys {val : List Nat → AV → Sto → Prop} {τ : Sto} {es : List (PySem.Str × AV)} {nms : List (List Nat)} (h : DV val τ es nms) : es.map (·.1) = nms.map tx := by
  apply List.ext_getElem?
  intro i
  rw [List.getElem?_map, List.getElem?_map]
  cases hn : nms[i]? with
  | none =>
    have : es[i]? = none := List.getElem?_eq_none (by rw [h.1]; exact List.getElem?_eq_none_iff.mp hn)
    rw [this]; rfl
  | some nm =>
    obtain ⟨v, h1, _⟩ := h.2 i nm hn
    rw [h1]; rfl
theorem tx_inj {a b : List Nat} (h : tx a = tx b) : a = b := by
  have := congrArg (fun s : PySem.Str => s.cps.toList) h
  simpa [tx] using this
theorem dget_of {es : List (PySem.Str × AV)} {k : PySem.Str} {v : AV} : ∀ (i : Nat), (es.map (·.1)).Nodup → es[i]? = some (k, v) → dget es k = some v := by
  induction es with
  | nil => intro i _ h; simp at h
  | cons p es ih =>
    intro i nd h
    simp only [List.map_cons, List.nodup_cons] at nd
    cases i with
    | zero =>
      simp at h; subst h
      simp [dget]
    | succ i =>
      have h' : es[i]? = some (k, v) := by simpa using h
      have hne : ¬ p.1 = k := fun e => nd.1 (by rw [e]; exact List.mem_map.mpr ⟨_, List.mem_of_getElem? h', rfl⟩)
      have := ih i nd.2 h'
      simpa [dget, hne] using this
theorem DV.get {val : List Nat → AV → Sto → Prop} {τ : Sto} {es : List (PySem.Str × AV)} {nms : List (List Nat)} (h : DV val τ es nms) (nd : nms.Nodup) {nm : List Nat} (hm : nm ∈ nms) : ∃ v, dget es (tx nm) = some v ∧ val nm v τ := by
  obtain ⟨i, hi, e⟩ := List.mem_iff_getElem.mp hm
  obtain ⟨v, h1, h2⟩ := h.2 i nm (by rw [← e]; exact List.getElem?_eq_getElem hi)
  have nd' : (es.map (·.1)).Nodup := by
    rw [h.keys]
    exact (List.pairwise_map.mpr (nd.imp fun hab e => hab (tx_inj e)))
  exact ⟨v, dget_of i nd' h1, h2⟩
section
variable {G : Gd} {κ : Kx} {env : Env} {σ σ' τ : Sto} {X : XP}
theorem dg_pack {target kx vx : PySem.Expr} {cenv : Addr → Env} {S base : Sto} {nms : List (List Nat)} {rN : Addr} {B : Addr → Option AV → Sto} {J : AV → Sto → Prop} (val : List Nat → AV → Sto → Prop) (hN : (rN, .list (txs nms)) ∈ base) (h6 : nms.length ≤ 1000) (hnd : nms.Nodup)
    (hmono : ∀ nm v τ τ', (∀ x ∈ τ, x ∈ τ') → val nm v τ → val nm v τ')
    (step : ∀ r C o nm done τ, nm ∈ nms → (∀ x ∈ base, x ∈ τ) → ASG G κ (cenv C) target (.str (tx nm)) (B C o ++ (r, .dict done) :: (S ++ τ)) (fun σ₁ =>
      EV G κ (cenv C) kx σ₁ (fun k σ₃ => k = .str (tx nm) ∧ EV G κ (cenv C) vx σ₃ (fun v σ₄ => ∃ (o' : Option AV) (τ' : Sto), Pt (B C o' ++ (r, .dict done) :: (S ++ τ')) σ₄ ∧ (∀ x ∈ τ, x ∈ τ') ∧ val nm v τ') NoX) NoX) NoX)
    (fin : ∀ r done τ, (r == sysModules) = false → (∀ x ∈ base, x ∈ τ) → DV val τ done nms → J (.ref r) ((r, .dict done) :: (S ++ τ))) :
    ∃ sr xs, IsSr (.ref rN) sr xs (S ++ base) ∧ xs.length ≤ 1000 ∧ ∃ I : List AV → List (PySem.Str × AV) → Sto → Prop, I xs [] (S ++ base) ∧ (∀ ys done τ, I ys done τ → SrOk sr xs τ) ∧
      (∀ r C o y ys done τ, I (y :: ys) done τ → ASG G κ (cenv C) target y (B C o ++ (r, .dict done) :: τ) (fun σ₁ => TSS G κ (cenv C) [] σ₁ (fun b σ₂ =>
        if b then EV G κ (cenv C) kx σ₂ (fun k σ₃ => ∃ x, k = .str x ∧ EV G κ (cenv C) vx σ₃ (fun v σ₄ => ∃ (o' : Option AV) (τ' : Sto), Pt (B C o' ++ (r, .dict done) :: τ') σ₄ ∧ x ∉ done.map (·.1) ∧ I ys (done ++ [(x, v)]) τ') NoX) NoX
        else ∃ (o' : Option AV) (τ' : Sto), Pt (B C o' ++ (r, .dict done) :: τ') σ₂ ∧ I ys done τ') NoX) NoX) ∧
      (∀ r done τ, (r == sysModules) = false → I [] done τ → J (.ref r) ((r, .dict done) :: τ)) := by
  refine ⟨.lst rN, txs nms, ⟨rfl, List.mem_append_right _ hN⟩, by simp [txs]; exact h6, fun ys done τ => ∃ pre post τ₁, nms = pre ++ post ∧ ys = txs post ∧ τ = S ++ τ₁ ∧ (∀ x ∈ base, x ∈ τ₁) ∧ DV val τ₁ done pre, ⟨[], nms, base, rfl, rfl, rfl, fun _a h => h, .nil⟩, ?_, ?_, ?_⟩
  · rintro ys done τ ⟨pre, post, τ₁, _, _, rfl, hb, _⟩
    exact List.mem_append_right _ (hb _ hN)
  · rintro r C o y ys done τ ⟨pre, post, τ₁, hp, hy, rfl, hb, hd⟩
    cases post with
    | nil => simp [txs] at hy
    | cons nm post =>
      simp only [txs, List.map_cons, List.cons.injEq] at hy
      obtain ⟨rfl, rfl⟩ := hy
      have hmem : nm ∈ nms := by rw [hp]; simp
      intro xv hxv
      refine W.post (step r C o nm done τ₁ hmem hb xv hxv) fun _a σ₁ q => ?_
      refine tss_nil ?_
      simp only [if_true]
      refine W.post q fun k σ₃ ⟨hk, q⟩ => ⟨_, hk, W.post q fun v σ₄ ⟨o', τ', hpt, hsub, hv⟩ => ⟨o', S ++ τ', hpt, ?_, pre ++ [nm], post, τ', by rw [hp]; simp, rfl, rfl, fun x hx => hsub _ (hb x hx), ?_⟩⟩
      · rw [hd.keys]
        intro hm
        obtain ⟨a, ha, e⟩ := List.mem_map.mp hm
        obtain rfl := tx_inj e
        rw [hp] at hnd
        have := (List.nodup_append.mp hnd).2.2 a ha a (.head _)
        exact this rfl
      · exact (hd.mono fun nm v h => hmono nm v τ₁ τ' hsub h).snoc hv
  · rintro r done τ hr ⟨pre, post, τ₁, hp, hy, rfl, hb, hd⟩
    cases post with
    | nil => rw [hp, List.append_nil] at fin; exact fin r done τ₁ hr hb hd
    | cons nm post => simp [txs] at hy
theorem dg_names {kx vx target iter : PySem.Expr} {scope : Scope} {cl : List (PySem.Str × Addr)} {S base : Sto} {nms : List (List Nat)} {rN : Addr} {B : Addr → Option AV → Sto} {J : AV → Sto → Prop} (val : List Nat → AV → Sto → Prop) (hN : (rN, .list (txs nms)) ∈ base) (h6 : nms.length ≤ 1000) (hnd : nms.Nodup)
    (hmono : ∀ nm v τ τ', (∀ x ∈ τ, x ∈ τ') → val nm v τ → val nm v τ')
    (hev : EV G κ env iter (S ++ base) (fun a σ₁ => a = .ref rN ∧ σ₁ = S ++ base) NoX)
    (step : ∀ r C o nm done τ, nm ∈ nms → (∀ x ∈ base, x ∈ τ) → ASG G κ (compE scope cl C env) target (.str (tx nm)) (B C o ++ (r, .dict done) :: (S ++ τ)) (fun σ₁ =>
      EV G κ (compE scope cl C env) kx σ₁ (fun k σ₃ => k = .str (tx nm) ∧ EV G κ (compE scope cl C env) vx σ₃ (fun v σ₄ => ∃ (o' : Option AV) (τ' : Sto), Pt (B C o' ++ (r, .dict done) :: (S ++ τ')) σ₄ ∧ (∀ x ∈ τ, x ∈ τ') ∧ val nm v τ') NoX) NoX) NoX)
    (fin : ∀ r done τ, (r == sysModules) = false → (∀ x ∈ base, x ∈ τ) → DV val τ done nms → J (.ref r) ((r, .dict done) :: (S ++ τ))) :
    DG G κ env kx vx target iter [] scope cl (S ++ base) B J := by
  unfold DG
  exact W.post hev fun a σ₁ hh => by
    obtain ⟨ha, hσ⟩ := hh
    subst ha hσ
    exact dg_pack (cenv := fun C => compE scope cl C env) val hN h6 hnd hmono step fin
end
end B39Text
section C18Text
structure Top5 (G : Gd) extends Top4 G where
  cdL : Value
  pmL : Value
  fnL : FnAt G 192 (fdk 26 cdL pmL)
/-- the names and cells of law -/
noncomputable abbrev lawS (L : Addr) (nu dr ro ma go on tw to sc na ve fa ru it pa pt du ag mk bo fi me : Option AV) : Sto :=
  [(L + 1 + 1 + 1 + 1 + 1 + 1 + 1 + 1 + 1 + 1 + 1 + 1 + 1 + 1, .cell me), (L + 1 + 1 + 1 + 1 + 1 + 1 + 1 + 1 + 1 + 1 + 1 + 1 + 1, .cell fi), (L + 1 + 1 + 1 + 1 + 1 + 1 + 1 + 1 + 1 + 1 + 1 + 1, .cell bo), (L + 1 + 1 + 1 + 1 + 1 + 1 + 1 + 1 + 1 + 1 + 1, .cell mk),
   (L + 1 + 1 + 1 + 1 + 1 + 1 + 1 + 1 + 1 + 1, .cell ag), (L + 1 + 1 + 1 + 1 + 1 + 1 + 1 + 1 + 1, .cell du), (L + 1 + 1 + 1 + 1 + 1 + 1 + 1 + 1, .cell pt), (L + 1 + 1 + 1 + 1 + 1 + 1 + 1, .cell pa), (L + 1 + 1 + 1 + 1 + 1 + 1, .cell it),
   (L + 1 + 1 + 1 + 1 + 1, .cell ru), (L + 1 + 1 + 1 + 1, .cell fa), (L + 1 + 1 + 1, .cell ve), (L + 1 + 1, .cell na), (L + 1, .cell sc),
   (L, .ns [(q_ "numbers", nu), (q_ "drawn", dr), (q_ "rows", ro), (q_ "made", ma), (q_ "goes", go), (q_ "one", on), (q_ "two", tw), (q_ "told", to)])]
/-- law's statements, from the k-th on -/
noncomputable def lawDD (k : Nat) : List Stmt := match (fdk 26 .none .none).body with
  | .stmts b => b.drop k
  | _ => []
@[irreducible] noncomputable def lawD (k : Nat) : List Stmt := lawDD k
/-- those of its loop -/
noncomputable def lawB (k : Nat) : List Stmt := match lawDD 4 with
  | .For _ _ b _ _ :: _ => b.drop k
  | _ => []
section
variable {G : Gd} {κ : Kx} {env : Env} {σ σ' : Sto} {X : XP}
noncomputable abbrev lawE (T : Top5 G) (L : Addr) : Env := fenv (fdk 26 T.cdL T.pmL) L 192
noncomputable abbrev lawK (n : Nat) (T : Top5 G) (L : Addr) : Kx := ⟨n, some ⟨none, [lawE T L]⟩⟩
theorem exs_law (k : Nat) {s : Stmt} {Q : AF → Sto → Prop} (hs : lawD k = s :: lawD (k + 1)) (h : EX G κ env s σ (fun f σ₁ => match f with | .next => EXS G κ env (lawD (k + 1)) σ₁ Q X | f => Q f σ₁) X) : EXS G κ env (lawD k) σ Q X := by
  rw [hs]; exact exs_cons h
theorem cre_cons {target : PySem.Expr} {R : Sto → (Sto → Prop) → Prop} {l : Addr} {xs ys : List AV} {K : Sto → Prop} {i : Nat} {y : AV} (hm : (l, .list xs) ∈ σ) (h : ∀ t, ASG G κ env target (.ref t) ((t, .tup [.int i, y]) :: σ) (fun σ₁ => R σ₁ (CRE G κ env target R l xs K (i + 1) ys)) NoX) :
    CRE G κ env target R l xs K i (y :: ys) σ := ⟨hm, h⟩
theorem cre_nil {target : PySem.Expr} {R : Sto → (Sto → Prop) → Prop} {l : Addr} {xs : List AV} {K : Sto → Prop} {i : Nat} (hm : (l, .list xs) ∈ σ) (h : K σ) : CRE G κ env target R l xs K i [] σ := ⟨hm, h⟩
theorem el_of {elt : PySem.Expr} {r : Addr} {K : Sto → Prop} (h : EV G κ env elt σ (ElP r K) NoX) : EL G κ env elt r σ K := h
theorem cr_cons {target : PySem.Expr} {ifs : List PySem.Expr} {R : Sto → (Sto → Prop) → Prop} {sr : Sr} {xs ys : List AV} {K : Sto → Prop} {y : AV} (hm : SrOk sr xs σ) (h : ASG G κ env target y σ (fun σ₁ => TSS G κ env ifs σ₁ (fun b σ₂ => if b then R σ₂ (CR G κ env target ifs R sr xs K ys) else CR G κ env target ifs R sr xs K ys σ₂) NoX) NoX) :
    CR G κ env target ifs R sr xs K (y :: ys) σ := ⟨hm, h⟩
theorem cr_nil {target : PySem.Expr} {ifs : List PySem.Expr} {R : Sto → (Sto → Prop) → Prop} {sr : Sr} {xs : List AV} {K : Sto → Prop} (hm : SrOk sr xs σ) (h : K σ) : CR G κ env target ifs R sr xs K [] σ := ⟨hm, h⟩
set_option tactic.hygienic true in
theorem law_s0 (T : Top5 G) {n : Nat} {L l : Addr} {sc : List Int} {base : Sto} {Q : AF → Sto → Prop} (hl : OldL G l sc) (hz : sc.length ≤ 63)
    (h : ∀ r n0 n1 n2 n3, EXS G (lawK n T L) (lawE T L) (lawD 1) (lawS L (some (.ref r)) none none none none none none none (some (.ref l)) none none none none none none none none none none none none none ++ ((r, .list [.int n0, .int n1, .int n2, .int n3]) :: base)) Q NoX) :
    EXS G (lawK n T L) (lawE T L) (lawD 0) (lawS L none none none none none none none none (some (.ref l)) none none none none none none none none none none none none none ++ base) Q NoX := by
  have T1 : Top G := T.toTop
  refine exs_law 0 (by with_unfolding_all rfl) ?_
  refine ex_assign_lc_enum rfl (cl := _) rfl rfl (by decide +kernel) (by decide +kernel) (fun _a => rfl) rfl ?_
  walk_at "w"
  rename_i lq
  refine cl_enumerate (by walk_at "mem") fun I it hne => ?_
  refine ⟨I, it, lq, [.int 2628, .int 11017, .int 240, .int 8869], _, rfl, hne, rfl, fun r C => ?_⟩
  simp only [lay_nil, lay_local, lay_cell, lay_global, lay_free, layC_nil, layC_local, layC_cell, layC_global, layC_free]
  refine cre_cons (by walk_at "mem") fun t0 => ?_
  walk_at "w"
  refine el_of ?_
  walk_at "w"
  refine ev_slice_old (fun _a _b => rfl) ?_
  walk_at "w"
  refine ⟨l, sc, _, _, rfl, hl, .int, .int, by decide, by rw [sizeLine_eq]; walk_at "om", fun r0 ys0 hy0 => ?_⟩
  walk_at "w"
  refine cl_sum rfl (by walk_at "mem") ?_
  walk_at "w"
  generalize 2628 + ys0.sum = n0
  refine ⟨_, _, by walk_at "up", by simp, ?_⟩
  refine cre_cons (by walk_at "mem") fun t1 => ?_
  walk_at "w"
  refine el_of ?_
  walk_at "w"
  refine ev_slice_old (fun _a _b => rfl) ?_
  walk_at "w"
  refine ⟨l, sc, _, _, rfl, hl, .int, .int, by decide, by rw [sizeLine_eq]; walk_at "om", fun r1 ys1 hy1 => ?_⟩
  walk_at "w"
  refine cl_sum rfl (by walk_at "mem") ?_
  walk_at "w"
  generalize 11017 + ys1.sum = n1
  refine ⟨_, _, by walk_at "up", by simp [sizeLine_eq], ?_⟩
  refine cre_cons (by walk_at "mem") fun t2 => ?_
  walk_at "w"
  refine el_of ?_
  walk_at "w"
  refine ev_slice_old (fun _a _b => rfl) ?_
  walk_at "w"
  refine ⟨l, sc, _, _, rfl, hl, .int, .int, by decide, by rw [sizeLine_eq]; walk_at "om", fun r2 ys2 hy2 => ?_⟩
  walk_at "w"
  refine cl_sum rfl (by walk_at "mem") ?_
  walk_at "w"
  generalize 240 + ys2.sum = n2
  refine ⟨_, _, by walk_at "up", by simp [sizeLine_eq], ?_⟩
  refine cre_cons (by walk_at "mem") fun t3 => ?_
  walk_at "w"
  refine el_of ?_
  walk_at "w"
  refine ev_slice_old (fun _a _b => rfl) ?_
  walk_at "w"
  refine ⟨l, sc, _, _, rfl, hl, .int, .int, by decide, by rw [sizeLine_eq]; walk_at "om", fun r3 ys3 hy3 => ?_⟩
  walk_at "w"
  refine cl_sum rfl (by walk_at "mem") ?_
  walk_at "w"
  generalize 8869 + ys3.sum = n3
  refine ⟨_, _, by walk_at "up", by simp [sizeLine_eq], ?_⟩
  refine cre_nil (by walk_at "mem") ?_
  walk_at "w"
  refine ⟨_, _, _, by walk_at "rm", .refl _, ?_⟩
  refine W.from (h r n0 n1 n2 n3) ?_
  walk_at "pt"
end
end C18Text
section C19Text
section
variable {G : Gd} {κ : Kx} {env : Env} {σ σ' : Sto} {X : XP}
/-- the letters that are drawn -/
noncomputable def drawn1 (s : Int) (k : Nat) : Nat := ([97, 98, 47, 46, 63][(((s.fdiv 3).fdiv (5 ^ k)).fmod 5).toNat]?).getD 0
noncomputable def drawnF (s : Int) : List Nat := (List.range (1 + (s.fmod 3).toNat)).map (drawn1 s)
theorem drawnF_len (s : Int) : 1 ≤ (drawnF s).length ∧ (drawnF s).length ≤ 3 := by
  have := fmod_in s 3 (by decide)
  unfold drawnF; rw [List.length_map, List.length_range]
  exact ⟨Nat.le_add_right .., Nat.add_le_add_left (Nat.le_of_lt_succ ((Int.toNat_lt this.1).mpr this.2)) 1⟩
theorem one_sum : ∀ l : List Nat, ((l.map fun c => [c]).map List.length).sum = l.length
  | [] => rfl
  | c :: l => by simp only [List.map_cons, List.sum_cons, one_sum l, List.length_cons, List.length_nil]; walk_at "om"
theorem one_flat : ∀ l : List Nat, (l.map fun c => [c]).flatten = l
  | [] => rfl
  | c :: l => by simp only [List.map_cons, List.flatten_cons, one_flat l]; rfl
theorem law_s1 (T : Top5 G) {n : Nat} {L l : Addr} {sc : List Int} {nu : AV} {base : Sto} {Q : AF → Sto → Prop} (hl : OldL G l sc)
    (h : EXS G (lawK n T L) (lawE T L) (lawD 2) (lawS L (some nu) (some (.str (tx (drawnF sc.sum)))) none none none none none none (some (.ref l)) none none none none none none none none none none none none none ++ base) Q NoX) :
    EXS G (lawK n T L) (lawE T L) (lawD 1) (lawS L (some nu) none none none none none none none (some (.ref l)) none none none none none none none none none none none none none ++ base) Q NoX := by
  have T1 : Top G := T.toTop
  refine exs_law 1 (by with_unfolding_all rfl) ?_
  have hm3 := fmod_in sc.sum 3 (by decide)
  walk_at "w"
  ((with_reducible refine ev_meth_str F.slot_str_join F.type_str_join ?hb ?hf ?hl ?hs ?_); walk_at "m4")
  walk_at "w"
  refine ⟨_, rfl, ?_⟩
  walk_at "w"
  walk_at "lc"
  walk_at "w"
  refine cl_sum_old rfl hl ?_
  walk_at "w"
  refine op_mod (by decide) ?_
  walk_at "w"
  refine ⟨.rng 0 1, _, ⟨_, _, rfl, by walk_at "mem", rfl⟩, by walk_at "sz", fun v => match v with | .int k => some (.str (chr (drawn1 sc.sum k.toNat))) | _ => none, ?_, fun r => ?_⟩
  · intro r C y done hy
    obtain ⟨k, hk, rfl⟩ := mem_rng01 hy
    have hk3 : k < 3 := by walk_at "om"
    walk_at "w"
    walk_at "if"
    walk_at "w"
    refine cl_sum_old rfl hl ?_
    walk_at "w"
    refine op_floordiv (by decide) (by decide) ?_
    walk_at "w"
    refine op_pow (Int.natCast_nonneg _) (Int.ofNat_le.mpr (Nat.le_trans (Nat.le_of_lt hk3) (by decide))) (by decide) ?_
    walk_at "w"
    have hpow : (5 : Int) ^ k = ((5 ^ k : Nat) : Int) := by norm_cast
    have hle : 5 ^ k ≤ 5 ^ 4 := Nat.pow_le_pow_right (by decide) (Nat.le_of_lt (Nat.lt_succ_of_lt hk3))
    have hpos : 0 < 5 ^ k := Nat.pow_pos (by decide)
    refine op_floordiv (by rw [hpow]; exact Int.ne_of_gt (Int.ofNat_lt.mpr hpos)) (by rw [hpow, Int.natAbs_natCast]; exact Nat.lt_of_le_of_lt hle (by decide)) ?_
    walk_at "w"
    refine op_mod (by decide) ?_
    have hd := fmod_in ((sc.sum.fdiv 3).fdiv (5 ^ k)) 5 (by decide)
    have hx : ∀ d, d < 5 → (PySem.Str.ofString "ab/.?").cps[d]? = some (([97, 98, 47, 46, 63][d]?).getD 0) := by decide +kernel
    refine sub_str trivial hd.1 (by decide +kernel) (c := drawn1 sc.sum k) (hx _ ((Int.toNat_lt hd.1).mpr hd.2)) ?_
    exact ⟨by walk_at "pt", rfl⟩
  · walk_at "w"
    have e : (rngL 0 1 (1 + sc.sum.fmod 3).toNat).filterMap (fun v => match v with | .int k => some (.str (chr (drawn1 sc.sum k.toNat))) | _ => none) = txs ((drawnF sc.sum).map fun c => [c]) := by
      rw [rngL_filterMap]
      unfold drawnF txs
      rw [Int.toNat_add (by decide) hm3.1, show (1 : Int).toNat = 1 from rfl]
      simp [Function.comp_def, chr]
    rw [e]
    have hlen := drawnF_len sc.sum
    refine cl_join rfl (by walk_at "mem") (by rw [one_sum]; exact Nat.le_trans hlen.2 (by decide)) ?_
    walk_at "w"
    rw [one_flat]
    refine W.from h ?_
    walk_at "pt"
/-- the base of the names -/
noncomputable def base6 (dr : List Nat) : List (List Nat) := [[], [97, 47, 98], [97, 98, 63, 97], [98, 46, 97], [97, 47, 98, 98], dr ++ [47, 97]]
theorem law_s2 (T : Top5 G) {n : Nat} {L rn l : Addr} {n0 n1 n2 n3 : Int} {dr : List Nat} {base : Sto} {Q : AF → Sto → Prop} (hd : dr.length ≤ 3) (hn : (rn, .list [.int n0, .int n1, .int n2, .int n3]) ∈ base)
    (h : ∀ rN rR r0 r1 r2 r3 nms, (nms.map tx).Perm ((base6 dr).map tx) → sortedS (nms.map tx) = true → EXS G (lawK (n + 2) T L) (lawE T L) (lawD 3) (lawS L (some (.ref rn)) (some (.str (tx dr))) (some (.ref rR)) none none none none none (some (.ref l)) (some (.ref rN)) none none none none none none none none none none none none ++
      ((rR, .list [.ref r0, .ref r1, .ref r2, .ref r3]) :: (r0, .list (ovs (itemsF n0))) :: (r1, .list (ovs (itemsF n1))) :: (r2, .list (ovs (itemsF n2))) :: (r3, .list (ovs (itemsF n3))) :: (rN, .list (txs nms)) :: base)) Q NoX) :
    EXS G (lawK (n + 2) T L) (lawE T L) (lawD 2) (lawS L (some (.ref rn)) (some (.str (tx dr))) none none none none none none (some (.ref l)) none none none none none none none none none none none none none ++ base) Q NoX := by
  have T1 : Top G := T.toTop
  refine exs_law 2 (by with_unfolding_all rfl) ?_
  walk_at "w"
  refine op_add_str (by rw [tx_len, sizeLine_eq]; show dr.length + 2 ≤ _; walk_at "om") ?_
  rw [show PySem.Str.ofString "/a" = tx [47, 97] from rfl, tx_add]
  walk_at "w"
  refine cl_sorted (xs := (base6 dr).map tx) (by walk_at "mem") (by simp [base6]) fun rN ss hp hs => ?_
  obtain ⟨nms, rfl⟩ : ∃ nms : List (List Nat), ss = nms.map tx := ⟨ss.map fun s => s.cps.toList, by rw [List.map_map]; exact (List.map_id _).symm.trans (List.map_congr_left fun s _a => by simp [tx])⟩
  rw [show sts (nms.map tx) = txs nms by simp [sts, txs]]
  walk_at "w"
  refine ev_listcomp rfl (cl := _) rfl rfl (by decide +kernel) (by decide +kernel) (fun _a => rfl) ?_
  unfold LC
  walk_at "w"
  refine ⟨.lst rn, [.int n0, .int n1, .int n2, .int n3], ⟨rfl, by walk_at "mem"⟩, fun r C => ?_⟩
  simp only [lay_nil, lay_local, lay_cell, lay_global, lay_free, layC_nil, layC_local, layC_cell, layC_global, layC_free]
  refine cr_cons (by walk_at "mem") ?_
  walk_at "w"
  refine iteT rfl (el_of ?_)
  walk_at "w"
  refine CL.hd (law_items_c T1 fun r0 => ?_)
  walk_at "w"
  refine ⟨_, _, by walk_at "up", by simp [sizeLine_eq], ?_⟩
  refine cr_cons (by walk_at "mem") ?_
  walk_at "w"
  refine iteT rfl (el_of ?_)
  walk_at "w"
  refine CL.hd (law_items_c T1 fun r1 => ?_)
  walk_at "w"
  refine ⟨_, _, by walk_at "up", by simp [sizeLine_eq], ?_⟩
  refine cr_cons (by walk_at "mem") ?_
  walk_at "w"
  refine iteT rfl (el_of ?_)
  walk_at "w"
  refine CL.hd (law_items_c T1 fun r2 => ?_)
  walk_at "w"
  refine ⟨_, _, by walk_at "up", by simp [sizeLine_eq], ?_⟩
  refine cr_cons (by walk_at "mem") ?_
  walk_at "w"
  refine iteT rfl (el_of ?_)
  walk_at "w"
  refine CL.hd (law_items_c T1 fun r3 => ?_)
  walk_at "w"
  refine ⟨_, _, by walk_at "up", by simp [sizeLine_eq], ?_⟩
  refine cr_nil (by walk_at "mem") ?_
  refine ⟨_, _, _, by walk_at "rm", .refl _, ?_⟩
  walk_at "w"
  refine W.from (h rN r r0 r1 r2 r3 nms hp hs) ?_
  walk_at "pt"
/-- the verdict of a number -/
noncomputable def verd (n : Int) : Bool := (n.fdiv 7776).fmod 2 == 1
set_option tactic.hygienic true in
theorem law_s3 (T : Top5 G) {n : Nat} {L rn l rN rR : Addr} {n0 n1 n2 n3 : Int} {dr : AV} {base : Sto} {Q : AF → Sto → Prop} (hn : (rn, .list [.int n0, .int n1, .int n2, .int n3]) ∈ base)
    (h : ∀ rV rF rU, EXS G (lawK (n + 2) T L) (lawE T L) (lawD 4) (lawS L (some (.ref rn)) (some dr) (some (.ref rR)) none none none none none (some (.ref l)) (some (.ref rN)) (some (.ref rV)) (some (.ref rF)) (some (.ref rU)) none none none none none none none none none ++
      ((rF, .list []) :: (rU, .list []) :: (rV, .list (bvs [verd n0, verd n1, verd n2, verd n3])) :: base)) Q NoX) :
    EXS G (lawK (n + 2) T L) (lawE T L) (lawD 3) (lawS L (some (.ref rn)) (some dr) (some (.ref rR)) none none none none none (some (.ref l)) (some (.ref rN)) none none none none none none none none none none none none ++ base) Q NoX := by
  have T1 : Top G := T.toTop
  refine exs_law 3 (by with_unfolding_all rfl) ?_
  walk_at "w"
  walk_at "lc"
  walk_at "w"
  refine ⟨.lst rn, [.int n0, .int n1, .int n2, .int n3], ⟨rfl, by walk_at "mem"⟩, by simp [sizeLine_eq], fun v => match v with | .int k => some (.bool (verd k)) | _ => none, ?_, fun r => ?_⟩
  · intro r C y done hy
    obtain ⟨k, rfl⟩ : ∃ k, y = .int k := by
      simp only [List.mem_cons, List.not_mem_nil, or_false] at hy
      rcases hy with h | h | h | h <;> exact ⟨_, h⟩
    walk_at "w"
    walk_at "if"
    walk_at "w"
    refine op_floordiv (by decide) (by decide) ?_
    walk_at "w"
    refine op_mod (by decide) ?_
    walk_at "w"
    exact ⟨by walk_at "pt", rfl⟩
  · rw [show List.filterMap (fun v => match v with | .int k => some (.bool (verd k)) | _ => none) [AV.int n0, AV.int n1, AV.int n2, AV.int n3] = bvs [verd n0, verd n1, verd n2, verd n3] from rfl]
    walk_at "w"
    rename_i rF rU tt
    refine W.from (h r rF rU) ?_
    walk_at "pt"
end
end C19Text
section C20Text
section
variable {G : Gd} {κ : Kx} {env : Env} {σ σ' : Sto} {X : XP}
/-- the state in law's loop -/
noncomputable abbrev loopS (L rn l rN rR rV rF rU ri : Addr) (dr : AV) (ma go pa pt du : Option AV) : Sto :=
  lawS L (some (.ref rn)) (some dr) (some (.ref rR)) ma go none none none (some (.ref l)) (some (.ref rN)) (some (.ref rV)) (some (.ref rF)) (some (.ref rU)) (some (.ref ri)) pa pt du none none none none none
/-- one statement, to what stands behind it -/
noncomputable abbrev NR (R : Sto → Prop) : AF → Sto → Prop := fun f σ => f = .next ∧ ∃ τ : Sto, Pt τ σ ∧ R τ
/-- the k-th statement of law's loop -/
noncomputable abbrev lawH (k : Nat) : Stmt := (lawB k).headD (.Pass default)
theorem ex_loop1 (k : Nat) {s : Stmt} {t : List Stmt} {Q : AF → Sto → Prop} (hs : lawB k = s :: t) (h : EX G κ env s σ Q X) : EX G κ env (lawH k) σ Q X := by
  unfold lawH; rw [hs]; exact h
theorem Pt.app {F τ σ : Sto} (p : Pt τ σ) {ρ : Frm} {s : Shared} (z : St G ρ (F ++ σ) s) : St G ρ (F ++ τ) s := by
  obtain ⟨q, h1, h2⟩ := p.to
  exact (z.perm (List.Perm.append_left F h1)).sub (List.Sublist.append_left h2 F)
theorem loop_seq (k : Nat) {Q : AF → Sto → Prop} {R : Sto → Prop} {F σ₀ : Sto} (hk : lawB k = lawH k :: lawB (k + 1)) (hp : σ₀.Perm (F ++ σ)) (h : EX G κ env (lawH k) σ (NR R) NoX) (next : ∀ τ, R τ → EXS G κ env (lawB (k + 1)) (F ++ τ) Q NoX) :
    EXS G κ env (lawB k) σ₀ Q NoX := by
  rw [hk]
  refine exs_cons (W.perm ((W.frame (σf := F) h).mono (fun f σ' ⟨σ₁, e, hf, τ, p, r⟩ => ?_) fun _ _ ⟨_, _, x⟩ => x.elim) hp)
  subst e hf
  exact fun A ρ s hA z => next τ r A ρ s hA (p.app z)
/-- what translate makes -/
noncomputable def madeT (its : List (Option Nat)) : List Nat := [40, 63, 115, 58] ++ trMid its ++ [41, 92, 90]
theorem CL.from {f : AV} {args : List AV} {Q : AV → Sto → Prop} (h : CL G κ f args σ' Q X) (p : Pt σ' σ) : CL G κ f args σ Q X := fun g vs hg hvs => W.from (h g vs hg hvs) p
theorem law_b0 (T : Top5 G) {n : Nat} {L rn l rN rR rV rF rU ri : Addr} {dr : AV} {ma go pa pt du : Option AV} {its : List (Option Nat)} {ps : Array Value} {base : Sto} {R : Sto → Prop}
    (hi : (ri, .list (ovs its)) ∈ base) (h5 : Items5 its) (hlen : its.length ≤ 6) (ht : TriplesOk ps.toList)
    (h : ∀ ps', TriplesOk ps'.toList → R (loopS L rn l rN rR rV rF rU ri dr (some (.str (tx (madeT its)))) go pa pt du ++ ((113, .raw (tabObj ps')) :: base))) :
    EX G (lawK (n + 6) T L) (lawE T L) (lawH 0) (loopS L rn l rN rR rV rF rU ri dr ma go pa pt du ++ ((113, .raw (tabObj ps)) :: base)) (NR R) NoX := by
  have T1 : Top G := T.toTop
  refine ex_loop1 0 rfl ?_
  walk_at "w"
  ((with_reducible refine ev_meth_str F.slot_str_join F.type_str_join ?hb ?hf ?hl ?hs ?_); walk_at "m4")
  walk_at "w"
  refine ⟨_, rfl, ?_⟩
  walk_at "w"
  walk_at "lc"
  walk_at "w"
  refine ⟨.lst ri, ovs its, ⟨rfl, by walk_at "mem"⟩, by simp [ovs, sizeLine_eq]; walk_at "om", fun v => match v with | .none => some (.str (tx [42])) | .str u => some (.str (if u == chr 63 then tx [91, 63, 93] else u)) | _ => none, ?_, fun r => ?_⟩
  · intro r C y done hy
    obtain ⟨o, ho, rfl⟩ := List.mem_map.mp hy
    cases o with
    | none =>
      walk_at "w"
      walk_at "if"
      walk_at "w"
      walk_at "if"
      walk_at "w"
      exact ⟨by walk_at "pt", rfl⟩
    | some c =>
      walk_at "w"
      walk_at "if"
      walk_at "w"
      refine iteF (by simp) ?_
      walk_at "w"
      by_cases hc : c = 63
      · subst hc
        walk_at "if"
        walk_at "w"
        exact ⟨by walk_at "pt", rfl⟩
      · refine iteF (by show ¬ ([c] == [63]) = true; simpa using hc) ?_
        walk_at "w"
        exact ⟨by walk_at "pt", by rw [chr_eq, beq_eq_false_iff_ne.mpr hc]; rfl⟩
  · have e : (ovs its).filterMap (fun v => match v with | .none => some (.str (tx [42])) | .str u => some (.str (if u == chr 63 then tx [91, 63, 93] else u)) | _ => none) = txs (its.map fnP) := by
      clear ht hi hlen h
      induction its with
      | nil => rfl
      | cons o r ih =>
        have ih := ih fun c hc => h5 c (.tail _ hc)
        cases o with
        | none => simp only [ovs, List.map_cons, List.filterMap_cons, txs] at ih ⊢; rw [ih]; rfl
        | some c =>
          have hc := h5 c (.head _)
          simp only [ovs, List.map_cons, List.filterMap_cons, txs] at ih ⊢
          rw [ih]
          rcases hc with rfl | rfl | rfl | rfl | rfl <;> rfl
    rw [e]
    walk_at "w"
    have hsum : ((its.map fnP).map List.length).sum ≤ 3 * its.length := by
      have := fnP_le its
      rw [List.length_flatMap] at this
      simpa [Function.comp_def] using this
    refine cl_join rfl (by walk_at "mem") (by walk_at "om") ?_
    rw [← List.flatMap_def]
    walk_at "w"
    refine CL.from (σ' := (113, .raw (tabObj ps)) :: (loopS L rn l rN rR rV rF rU ri dr ma go pa pt du ++ base)) (CL.hd (translate_c (n := n + 3) T.toTop3 h5 hlen ht fun ps' ht' => ?_)) (by walk_at "pt")
    walk_at "w"
    refine ⟨rfl, _, ?_, h ps' ht'⟩
    walk_at "pt"
end
end C20Text
section C21Text
section
variable {G : Gd} {κ : Kx} {env : Env} {σ σ' : Sto} {X : XP}
theorem CL.perm {f : AV} {args : List AV} {Q : AV → Sto → Prop} (h : CL G κ f args σ (fun v σ₁ => ∃ τ : Sto, σ₁.Perm τ ∧ Q v τ) X) : CL G κ f args σ Q X := fun g vs hg hvs A ρ s hA z =>
  wpAny_mono (h g vs hg hvs A ρ s hA z) (fun _ _ ⟨_, ⟨τ, hp, q⟩, y⟩ => ⟨τ, q, y.perm hp⟩) fun _a _b x => x
theorem slc_trim (m : List Nat) : slcL ([40, 63, 115, 58] ++ m ++ [41, 92, 90]) (some 4) (some (-3)) = m := by
  have hl : ([40, 63, 115, 58] ++ m ++ [41, 92, 90]).length = m.length + 7 := by simp
  have e : (([40, 63, 115, 58] ++ m ++ [41, 92, 90]).drop 4) = m ++ [41, 92, 90] := by simp
  unfold slcL kms_lo kms_hi
  rw [hl]
  simp only [if_neg (show ¬ ((4 : Int) < 0) by decide), if_pos (show ((-3 : Int) < 0) by decide)]
  have h4 : min (Int.toNat 4) (m.length + 7) = 4 := by simp
  rw [h4, e]
  apply List.take_left'
  walk_at "om"
/-- the texts that the two makers make, and how long they are -/
theorem tok1_len (b : Bool) (c : Nat) : (tkc b c).tx.length ≤ 3 := by
  unfold tkc
  split
  · simp [Tk.tx]
  · split
    · split <;> simp [Tk.tx]
    · simp [Tk.tx]
theorem tkc_len (b : Bool) : ∀ l : List Nat, (tksTx (l.map (tkc b))).length ≤ 3 * l.length
  | [] => Nat.le_refl 0
  | c :: l => by
    show ((tkc b c).tx ++ tksTx (l.map (tkc b))).length ≤ 3 * (l.length + 1)
    rw [List.length_append, Nat.mul_add, Nat.add_comm]
    exact Nat.add_le_add (tkc_len b l) (tok1_len b c)
theorem tokJ_len (b : Bool) : ∀ (gs : List (List Nat)), (tksTx (tkJ b gs)).length ≤ 3 * (gs.map List.length).sum + 7 * gs.length := by
  intro gs
  fun_induction tkJ b gs with
  | case1 => exact Nat.zero_le _
  | case2 g =>
    have := tkc_len b g
    simp only [tksTx_cons, List.length_append, List.map_cons, List.map_nil, List.sum_cons, List.sum_nil, List.length_cons, List.length_nil, Tk.tx]
    walk_at "om"
  | case3 g r _ ih =>
    have := tkc_len b g
    simp only [tksTx_cons, tksTx_app, List.length_append, List.map_cons, List.sum_cons, List.length_cons, List.length_nil, Tk.tx] at ih ⊢
    walk_at "om"
theorem splitS_sum (its : List (Option Nat)) : (splitS its).1.length + ((splitS its).2.map List.length).sum + (splitS its).2.length ≤ its.length := by
  have := splitS_len its
  rwa [sum_len1, ← Nat.add_assoc] at this
theorem splitE_sum (its : List (Option Nat)) : (splitE its).1.length + ((splitE its).2.map List.length).sum + (splitE its).2.length ≤ its.length := by
  have := splitE_len its
  rw [sum_len1, ← Nat.add_assoc] at this
  exact Nat.le_of_eq this
theorem toks_len (b : Bool) (p : List Nat × List (List Nat)) (k : Nat) (h : p.1.length + (p.2.map List.length).sum + p.2.length ≤ k) : (tksTx (toksOf b p)).length ≤ 10 * k := by
  unfold toksOf
  rw [tksTx_app, List.length_append]
  have h1 := tokJ_len b p.2
  have h2 := tkc_len b p.1
  walk_at "om"
/-- what parts are read off the two texts -/
noncomputable abbrev ptS (its : List (Option Nat)) : List (Sk × List Nat) := (.fix, (splitS its).1) :: grPs (splitS its).2
noncomputable abbrev ptE (its : List (Option Nat)) : List (Sk × List Nat) := (.fix, (splitE its).1) :: grPs (splitE its).2
theorem slc_made (its : List (Option Nat)) : slcL (madeT its) (some 4) (some (-3)) = trMid its := slc_trim _
set_option tactic.hygienic true in
theorem law_b1 (T : Top5 G) {n : Nat} {L rn l rN rR rV rF rU ri : Addr} {dr : AV} {go pa pt du : Option AV} {its : List (Option Nat)} {base : Sto} {R : Sto → Prop}
    (hi : (ri, .list (ovs its)) ∈ base) (h5 : Items5 its) (hlen : its.length ≤ 6) (hst : none ∈ its)
    (h : ∀ l1 us1 l2 us2 base', (∀ x ∈ base, x ∈ base') → (l1, .list us1) ∈ base' → PartsAt base' us1 (ptS its) → (l2, .list us2) ∈ base' → PartsAt base' us2 (ptE its) → R (loopS L rn l rN rR rV rF rU ri dr (some (.str (tx (madeT its)))) go (some (.ref l1)) (some (.ref l2)) du ++ base')) :
    EX G (lawK (n + 6) T L) (lawE T L) (lawH 1) (loopS L rn l rN rR rV rF rU ri dr (some (.str (tx (madeT its)))) go pa pt du ++ base) (NR R) NoX := by
  have T1 : Top G := T.toTop
  have hS := toks_len true _ 6 (Nat.le_trans (splitS_sum its) hlen)
  have hE := toks_len false _ 6 (Nat.le_trans (splitE_sum its) hlen)
  refine ex_loop1 1 rfl ?_
  walk_at "w"
  walk_at "sls"
  walk_at "w"
  refine ⟨_, _, _, rfl, .int, .int, by unfold madeT; rw [mid_toks its h5]; simp; walk_at "om", ?_⟩
  rw [slc_made, mid_toks its h5]
  walk_at "w"
  refine CL.perm (CL.hd (law_parts_c (n := n + 4) T1 (ok_toks true _ (lit_splitS its h5).1 (lit_splitS its h5).2) (by walk_at "om") fun l1 us1 pp1 hp1 => ⟨(l1, .list us1) :: (loopS L rn l rN rR rV rF rU ri dr (some (.str (tx (madeT its)))) go pa pt du ++ (pp1 ++ base)), ?_, ?_⟩))
  · exact List.Perm.cons _ (List.perm_append_comm_assoc pp1 (loopS L rn l rN rR rV rF rU ri dr (some (.str (tx (madeT its)))) go pa pt du) base)
  have hi1 := List.mem_append_right pp1 hi
  rw [fold_toks] at hp1
  walk_at "w"
  ((with_reducible refine ev_meth_str F.slot_str_join F.type_str_join ?hb ?hf ?hl ?hs ?_); walk_at "m4")
  walk_at "w"
  refine ⟨_, rfl, ?_⟩
  walk_at "w"
  walk_at "lc"
  walk_at "w"
  refine ⟨.lst ri, ovs its, ⟨rfl, by walk_at "mem"⟩, by simp [ovs, sizeLine_eq]; walk_at "om", fun v => match v with | .none => some (.str (tx [42])) | .str u => some (.str u) | _ => none, ?_, fun r => ?_⟩
  · intro r C y done hy
    obtain ⟨o, ho, rfl⟩ := List.mem_map.mp hy
    cases o with
    | none =>
      walk_at "w"
      walk_at "if"
      walk_at "w"
      walk_at "if"
      walk_at "w"
      exact ⟨by walk_at "pt", rfl⟩
    | some c =>
      walk_at "w"
      walk_at "if"
      walk_at "w"
      refine iteF (by simp) ?_
      walk_at "w"
      exact ⟨by walk_at "pt", rfl⟩
  · have e : (ovs its).filterMap (fun v => match v with | .none => some (.str (tx [42])) | .str u => some (.str u) | _ => none) = txs (its.map pthP) := by
      clear hi hi1 hlen h hst hS hE hp1
      induction its with
      | nil => rfl
      | cons o r ih =>
        have ih := ih fun c hc => h5 c (.tail _ hc)
        cases o with
        | none => simp only [ovs, List.map_cons, List.filterMap_cons, txs] at ih ⊢; rw [ih]; rfl
        | some c =>
          simp only [ovs, List.map_cons, List.filterMap_cons, txs] at ih ⊢
          rw [ih]; rfl
    rw [e]
    walk_at "w"
    have hsum : ∀ its : List (Option Nat), ((its.map pthP).map List.length).sum ≤ 3 * its.length := by
      intro its
      induction its with
      | nil => simp
      | cons o r ih => cases o <;> simp [pthP] at ih ⊢ <;> walk_at "om"
    have hsum := hsum its
    refine cl_join rfl (by walk_at "mem") (by walk_at "om") ?_
    rw [← List.flatMap_def]
    walk_at "w"
    refine CL.hd (translate_pattern_c (n := n + 1) T.toTop3 h5 hlen hst ?_)
    rw [pa_toks its h5]
    walk_at "w"
    refine CL.perm (CL.hd (law_parts_c (n := n + 4) T1 (ok_toks false _ (splitE_mem its h5).1 (splitE_mem its h5).2) (by walk_at "om") fun l2 us2 pp2 hp2 => ⟨(l2, .list us2) :: ((r, .list (txs (its.map pthP))) :: (l1, .list us1) :: (loopS L rn l rN rR rV rF rU ri dr (some (.str (tx (madeT its)))) go pa pt du) ++ (pp2 ++ (pp1 ++ base))), ?_, ?_⟩))
    · exact List.Perm.cons _ (List.perm_append_comm_assoc pp2 ((r, .list (txs (its.map pthP))) :: (l1, .list us1) :: (loopS L rn l rN rR rV rF rU ri dr (some (.str (tx (madeT its)))) go pa pt du)) (pp1 ++ base))
    rw [fold_toks] at hp2
    walk_at "w"
    rename_i tt
    refine ⟨rfl, _, ?_, h l1 us1 l2 us2 ((l2, .list us2) :: (l1, .list us1) :: (pp2 ++ (pp1 ++ base))) (fun x hx => .tail _ (.tail _ (List.mem_append_right _ (List.mem_append_right _ hx)))) (by walk_at "mem") ?_ (by walk_at "mem") ?_⟩
    · walk_at "pt"
    · exact hp1.mono fun x hx => .tail _ (.tail _ (List.mem_append_right _ (List.mem_append_left _ hx)))
    · exact hp2.mono fun x hx => .tail _ (.tail _ (List.mem_append_left _ hx))
end
end C21Text
section C22Text
section
variable {G : Gd} {κ : Kx} {env : Env} {σ σ' : Sto} {X : XP}
/-- a list of beginnings -/
noncomputable def ValL (its : List (Option Nat)) (nm : List Nat) (v : AV) (τ : Sto) : Prop := ∃ q, v = .ref q ∧ (q, .list (ivs (dueL its nm))) ∈ τ
theorem ValL.mono (its : List (Option Nat)) : ∀ nm v τ τ', (∀ x ∈ τ, x ∈ τ') → ValL its nm v τ → ValL its nm v τ' := fun _ _ _ _ hs ⟨q, h1, h2⟩ => ⟨q, h1, hs _ h2⟩
theorem due_list (its : List (Option Nat)) (nm : List Nat) (p : Nat → Bool) (hp : ∀ k, k ≤ nm.length → p k = triedF its (nm.take k)) : (rngL 0 1 (nm.length + 1)).filterMap (fun v => match v with | .int k => if p k.toNat then some (.int k) else none | _ => none) = ivs (dueL its nm) := by
  rw [rngL_filterMap]
  unfold dueL ivs
  have : ∀ l : List Nat, (∀ k ∈ l, k ≤ nm.length) → l.filterMap (fun (i : Nat) => (match AV.int (0 + (i : Int)) with | .int k => if p k.toNat then some (AV.int k) else none | _ => none)) = (l.filter fun k => triedF its (nm.take k)).map fun (c : Nat) => AV.int (c : Int) := by
    intro l
    induction l with
    | nil => intro _; rfl
    | cons k l ih =>
      intro hl
      have ih := ih fun k hk => hl k (.tail _ hk)
      have hk := hp k (hl k (.head _))
      have e : ((0 : Int) + (k : Int)).toNat = k := by walk_at "om"
      rw [List.filterMap_cons, List.filter_cons]
      simp only [e, hk]
      cases triedF its (nm.take k) with
      | false => simpa using ih
      | true => simpa using ih
  refine this _ fun k hk => ?_
  have := List.mem_range.mp hk
  walk_at "om"
theorem law_b2 (T : Top5 G) {n : Nat} {L rn l rN rR rV rF rU ri : Addr} {dr : AV} {ma go pa pt du : Option AV} {its : List (Option Nat)} {nms : List (List Nat)} {base : Sto} {R : Sto → Prop}
    (hi : (ri, .list (ovs its)) ∈ base) (hlen : its.length ≤ 6) (hN : (rN, .list (txs nms)) ∈ base) (hn : ∀ nm ∈ nms, nm.length ≤ 5) (h6 : nms.length = 6) (hnd : nms.Nodup)
    (h : ∀ d es base', (∀ x ∈ base, x ∈ base') → (d == sysModules) = false → (d, .dict es) ∈ base' → DV (ValL its) base' es nms →
      R (loopS L rn l rN rR rV rF rU ri dr ma go pa pt (some (.ref d)) ++ base')) :
    EX G (lawK (n + 6) T L) (lawE T L) (lawH 2) (loopS L rn l rN rR rV rF rU ri dr ma go pa pt du ++ base) (NR R) NoX := by
  have T1 : Top G := T.toTop
  refine ex_loop1 2 rfl ?_
  walk_at "w"
  refine ev_dc_g T.toTop.sysm rfl (cl := _) rfl rfl (by decide +kernel) (by decide +kernel) (fun _a => rfl) (fun C o => [(C + 1, .cell o), (C, .ns [(q_ ".0", none)])]) (fun C σ => rfl) (fun C o τ => ⟨_, _, .there .here, .cons _ (.refl _)⟩) ?_
  refine dg_names (S := loopS L rn l rN rR rV rF rU ri dr ma go pa pt du) (base := base) (ValL its) hN (by walk_at "om") hnd (ValL.mono its) ?_ (fun r C o nm done τ hnm hb => ?_) (fun r done τ hr hb hd => ?_)
  · walk_at "w"
    exact ⟨rfl, rfl⟩
  · have hlnm := hn nm hnm
    have hi' := hb _ hi
    walk_at "w"
    refine ⟨rfl, ?_⟩
    walk_at "w"
    walk_at "lc"
    walk_at "w"
    rw [show ((nm.length : Int) + 1).toNat = nm.length + 1 by walk_at "om"]
    refine ⟨.rng 0 1, _, ⟨_, _, rfl, by walk_at "mem", rfl⟩, by walk_at "sz", fun v => match v with | .int k => if triedF its (nm.take k.toNat) then some (.int k) else none | _ => none, ?_, fun q => ?_⟩
    · intro r2 C2 y done2 hy
      obtain ⟨k, hk, rfl⟩ := mem_rng01 hy
      walk_at "w"
      walk_at "sls"
      walk_at "w"
      refine ⟨nm, _, _, rfl, .none, .int, by walk_at "om", ?_⟩
      rw [show slcL nm none (some (k : Int)) = nm.take k by rw [slcL_up _ _ (by walk_at "om"), Int.toNat_natCast]]
      walk_at "w"
      refine CL.hd (law_tried_c (n := n + 4) T1 (by walk_at "mem") (by walk_at "om") (by rw [List.length_take]; walk_at "om") ?_)
      walk_at "w"
      by_cases hb : triedF its (nm.take k) = true
      · refine iteT hb ?_
        walk_at "w"
        exact ⟨by walk_at "pt", by rw [if_pos hb]⟩
      · refine iteF hb ?_
        exact ⟨by walk_at "pt", by rw [if_neg hb]⟩
    · rw [due_list its nm (fun k => triedF its (nm.take k)) fun _a _b => rfl]
      refine ⟨some (.str (tx nm)), (q, .list (ivs (dueL its nm))) :: τ, ?_, fun x hx => .tail _ hx, q, rfl, .head _⟩
      walk_at "pt"
  · walk_at "w"
    refine ⟨rfl, _, ?_, h r done ((r, .dict done) :: τ) (fun x hx => .tail _ (hb x hx)) hr (.head _) (hd.mono fun nm v hv => ValL.mono its nm v _ _ (fun x hx => .tail _ hx) hv)⟩
    walk_at "pt"
end
end C22Text
section C23Text
section
variable {G : Gd} {κ : Kx} {env : Env} {σ σ' : Sto} {X : XP}
theorem slc_head (m : List Nat) : slcL ([40, 63, 115, 58] ++ m ++ [41, 92, 90]) none (some 4) = [40, 63, 115, 58] := by
  rw [slcL_up _ _ (by decide)]; simp
theorem slc_last (m : List Nat) : slcL ([40, 63, 115, 58] ++ m ++ [41, 92, 90]) (some (-3)) none = [41, 92, 90] := by
  have hl : ([40, 63, 115, 58] ++ m ++ [41, 92, 90]).length = m.length + 7 := by simp
  unfold slcL kms_lo kms_hi
  rw [hl]
  simp only [if_pos (show ((-3 : Int) < 0) by decide)]
  rw [show m.length + 7 - (-(-3 : Int)).toNat = m.length + 4 by (have : (-(-3 : Int)).toNat = 3 := rfl); walk_at "om"]
  have e : ([40, 63, 115, 58] ++ m ++ [41, 92, 90]).drop (m.length + 4) = [41, 92, 90] := by
    rw [show m.length + 4 = ([40, 63, 115, 58] ++ m).length by simp]
    exact List.drop_left
  rw [e]
  simp
theorem due_list' (its : List (Option Nat)) (hs : none ∈ its) (nm : List Nat) (k : Nat) (hk : k ≤ nm.length) : (goesF (nm.take k) (ptS its) 0 == (k : Int)) = triedF its (nm.take k) := by
  have := law_one its hs (nm.take k)
  rwa [show (nm.take k).length = k by rw [List.length_take]; walk_at "om"] at this
theorem PartsAt.len' {τ : Sto} {us : List AV} {ps : List (Sk × List Nat)} (h : PartsAt τ us ps) : us.length = ps.length := by
  induction h with
  | nil => rfl
  | cons _ _ _ ih => simp [ih]
theorem grPs_small : ∀ (gs : List (List Nat)), (grPs gs).length ≤ 2 * gs.length ∧ ∀ p ∈ grPs gs, p.2.length ≤ (gs.map List.length).sum
  | [] => by simp [grPs]
  | [g] => by simp [grPs]
  | g :: g2 :: r => by
    have ih := grPs_small (g2 :: r)
    have e : grPs (g :: g2 :: r) = (.lazy, g) :: (.fix, []) :: grPs (g2 :: r) := rfl
    rw [e]
    refine ⟨by simp only [List.length_cons] at ih ⊢; walk_at "om", fun p hp => ?_⟩
    simp only [List.map_cons, List.sum_cons] at ih ⊢
    rcases List.mem_cons.mp hp with rfl | hp
    · simp only; walk_at "om"
    · rcases List.mem_cons.mp hp with rfl | hp
      · simp
      · have := ih.2 p hp; walk_at "om"
theorem pts_small {p : List Nat × List (List Nat)} (h : p.1.length + (p.2.map List.length).sum + p.2.length ≤ 6) : ((Sk.fix, p.1) :: grPs p.2).length ≤ 100 ∧ ∀ x ∈ (Sk.fix, p.1) :: grPs p.2, x.2.length ≤ 64 := by
  have g := grPs_small p.2
  refine ⟨by simp only [List.length_cons]; walk_at "om", fun x hx => ?_⟩
  rcases List.mem_cons.mp hx with rfl | hx
  · simp only; walk_at "om"
  · have := g.2 x hx; walk_at "om"
theorem dv_same {its : List (Option Nat)} {nms : List (List Nat)} {τ σ : Sto} {a b : List (PySem.Str × AV)} (ha : DV (ValL its) τ a nms) (hb : DV (ValL its) τ b nms) (hs : ∀ x ∈ τ, x ∈ σ) :
    ∀ (i : Nat) (k : PySem.Str) (x y : AV), a[i]? = some (k, x) → b[i]? = some (k, y) → Sm σ 1 x y := fun i k x y hx hy => by
  have hi : i < nms.length := by rw [← ha.1]; exact (List.getElem?_eq_some_iff.mp hx).1
  obtain ⟨v, h1, q, rfl, hq⟩ := ha.2 i _ (List.getElem?_eq_getElem hi)
  obtain ⟨w, h2, q', rfl, hq'⟩ := hb.2 i _ (List.getElem?_eq_getElem hi)
  rw [h1] at hx
  rw [h2] at hy
  cases hx; cases hy
  refine .list (hs _ hq) (hs _ hq') rfl fun j x y hx hy => ?_
  rw [hx] at hy
  cases hy
  obtain ⟨c, _, rfl⟩ := List.mem_map.mp (List.mem_of_getElem? hx)
  exact .at .int
theorem law_b3 (T : Top5 G) {n : Nat} {L rn l rN rR rV rF rU ri l1 d : Addr} {dr : AV} {go pt : Option AV} {us1 : List AV} {its : List (Option Nat)} {nms : List (List Nat)} {es : List (PySem.Str × AV)} {base : Sto} {R : Sto → Prop}
    (h5 : Items5 its) (hlen : its.length ≤ 6) (hst : none ∈ its) (hN : (rN, .list (txs nms)) ∈ base) (hn : ∀ nm ∈ nms, nm.length ≤ 5) (h6 : nms.length = 6) (hnd : nms.Nodup)
    (h1 : (l1, .list us1) ∈ base) (hp1 : PartsAt base us1 (ptS its)) (hd : (d, .dict es) ∈ base) (hd1 : (d == sysModules) = false) (hes : DV (ValL its) base es nms)
    (h : ∀ base', (∀ x ∈ base, x ∈ base') → R (loopS L rn l rN rR rV rF rU ri dr (some (.str (tx (madeT its)))) go (some (.ref l1)) pt (some (.ref d)) ++ base')) :
    EX G (lawK (n + 6) T L) (lawE T L) (lawH 3) (loopS L rn l rN rR rV rF rU ri dr (some (.str (tx (madeT its)))) go (some (.ref l1)) pt (some (.ref d)) ++ base) (NR R) NoX := by
  have T1 : Top G := T.toTop
  have hS := toks_len true _ 6 (Nat.le_trans (splitS_sum its) hlen)
  have hml : (madeT its).length ≤ 100 := by unfold madeT; rw [mid_toks its h5]; simp; walk_at "om"
  refine ex_loop1 3 rfl ?_
  walk_at "w"
  walk_at "sls"
  walk_at "w"
  refine ⟨madeT its, _, _, rfl, .none, .int, by walk_at "om", ?_⟩
  rw [show slcL (madeT its) none (some 4) = [40, 63, 115, 58] from slc_head _]
  walk_at "w"
  walk_at "sls"
  walk_at "w"
  refine ⟨madeT its, _, _, rfl, .int, .none, by walk_at "om", ?_⟩
  rw [show slcL (madeT its) (some (-3)) none = [41, 92, 90] from slc_last _]
  walk_at "w"
  refine op_add_str (by rw [tx_len, tx_len, sizeLine_eq]; decide) ?_
  rw [tx_add]
  walk_at "w"
  refine iteF (by decide) ?_
  walk_at "w"
  refine ev_dc_g T.toTop.sysm rfl (cl := _) rfl rfl (by decide +kernel) (by decide +kernel) (fun _a => rfl) (fun C o => [(C + 1, .cell o), (C, .ns [(q_ ".0", none)])]) (fun C σ => rfl) (fun C o τ => ⟨_, _, .there .here, .cons _ (.refl _)⟩) ?_
  refine dg_names (S := loopS L rn l rN rR rV rF rU ri dr (some (.str (tx (madeT its)))) go (some (.ref l1)) pt (some (.ref d))) (base := base) (ValL its) hN (by walk_at "om") hnd (ValL.mono its) ?_ (fun r C o nm done τ hnm hb => ?_) (fun r done τ hr hb hdv => ?_)
  · walk_at "w"
    exact ⟨rfl, rfl⟩
  · have hlnm := hn nm hnm
    have hl1 := hb _ h1
    have hp1' := hp1.mono hb
    have hsm := pts_small (Nat.le_trans (splitS_sum its) hlen)
    walk_at "w"
    refine ⟨rfl, ?_⟩
    walk_at "w"
    walk_at "lc"
    walk_at "w"
    rw [show ((nm.length : Int) + 1).toNat = nm.length + 1 by walk_at "om"]
    refine ⟨.rng 0 1, _, ⟨_, _, rfl, by walk_at "mem", rfl⟩, by walk_at "sz", fun v => match v with | .int k => if goesF (nm.take k.toNat) (ptS its) 0 == k then some (.int k) else none | _ => none, ?_, fun q => ?_⟩
    · intro r2 C2 y done2 hy
      obtain ⟨k, hk, rfl⟩ := mem_rng01 hy
      walk_at "w"
      walk_at "sls"
      walk_at "w"
      refine ⟨nm, _, _, rfl, .none, .int, by walk_at "om", ?_⟩
      rw [show slcL nm none (some (k : Int)) = nm.take k by rw [slcL_up _ _ (by walk_at "om"), Int.toNat_natCast]]
      walk_at "w"
      refine CL.hd (law_goes_c (n := n + 3) T1 (rs := us1) (by walk_at "mem") (hp1'.mono fun x hx => by walk_at "mem") hsm.2 (by rw [List.length_take]; walk_at "om") (by rw [hp1.len']; exact hsm.1) ?_)
      walk_at "w"
      by_cases hg : (goesF (nm.take k) (ptS its) 0 == (k : Int)) = true
      · refine iteT (by simpa using hg) ?_
        walk_at "w"
        exact ⟨by walk_at "pt", by rw [if_pos hg]⟩
      · refine iteF (by simpa using hg) ?_
        exact ⟨by walk_at "pt", by rw [if_neg hg]⟩
    · have e : (rngL 0 1 (nm.length + 1)).filterMap (fun v => match v with | .int k => if goesF (nm.take k.toNat) (ptS its) 0 == k then some (.int k) else none | _ => none) = ivs (dueL its nm) := by
        rw [← due_list its nm (fun k => goesF (nm.take k) (ptS its) 0 == (k : Int)) fun k hk => due_list' its hst nm k hk]
        rw [rngL_filterMap, rngL_filterMap]
        refine congrArg (fun g => List.filterMap g (List.range (nm.length + 1))) (funext fun i => ?_)
        dsimp only
        rw [show ((0 : Int) + (i : Int)).toNat = i by walk_at "om", Int.zero_add]
      rw [e]
      refine ⟨some (.str (tx nm)), (q, .list (ivs (dueL its nm))) :: τ, ?_, fun x hx => .tail _ hx, q, rfl, .head _⟩
      walk_at "pt"
  · walk_at "w"
    have hd' := hb _ hd
    refine op_ne_dict (n := 1) (by show 0 < n + 6; walk_at "om") (by decide) hr hd1 (by walk_at "mem") (by walk_at "mem") (by rw [hdv.keys, hes.keys]) (dv_same hdv (hes.mono fun nm v hv => ValL.mono its nm v _ _ hb hv) fun x hx => by walk_at "mem") ?_
    walk_at "w"
    refine iteF (by decide) ?_
    walk_at "w"
    refine ⟨rfl, _, ?_, h τ hb⟩
    walk_at "pt"
end
end C23Text
section C24Text
section
variable {G : Gd} {κ : Kx} {env : Env} {σ σ' : Sto} {X : XP}
/-- how far a name is taken -/
noncomputable def ValI (its : List (Option Nat)) (nm : List Nat) (v : AV) (_ : Sto) : Prop := v = .int (farI its nm)
theorem ValI.mono (its : List (Option Nat)) : ∀ nm v τ τ', (∀ x ∈ τ, x ∈ τ') → ValI its nm v τ → ValI its nm v τ' := fun _a _b _c _d _e h => h
theorem dvi_same {its : List (Option Nat)} {nms : List (List Nat)} {τ τ' σ : Sto} {a b : List (PySem.Str × AV)} (ha : DV (ValI its) τ a nms) (hb : DV (ValI its) τ' b nms) :
    ∀ (i : Nat) (k : PySem.Str) (x y : AV), a[i]? = some (k, x) → b[i]? = some (k, y) → Sm σ 0 x y := fun i k x y hx hy => by
  have hi : i < nms.length := by rw [← ha.1]; exact (List.getElem?_eq_some_iff.mp hx).1
  obtain ⟨v, h1, rfl⟩ := ha.2 i _ (List.getElem?_eq_getElem hi)
  obtain ⟨w, h2, rfl⟩ := hb.2 i _ (List.getElem?_eq_getElem hi)
  rw [h1] at hx
  rw [h2] at hy
  cases hx; cases hy
  exact .at .int
theorem dueL_len (its : List (Option Nat)) (nm : List Nat) : (dueL its nm).length ≤ nm.length + 1 := by
  unfold dueL
  exact Nat.le_trans (List.length_filter_le _ _) (by simp)
theorem due_last (its : List (Option Nat)) (nm : List Nat) : (AV.int (-1) :: ivs (dueL its nm)).getLast? = some (.int (farI its nm - 1)) := by
  unfold farI ivs
  cases h : (dueL its nm).getLast? with
  | none =>
    rw [List.getLast?_eq_none_iff] at h
    rw [h]; rfl
  | some q =>
    have : ((dueL its nm).map fun (c : Nat) => AV.int (c : Int)).getLast? = some (.int (q : Int)) := by rw [List.getLast?_map, h]; rfl
    rw [List.getLast?_cons, this]
    simp
theorem law_b4 (T : Top5 G) {n : Nat} {L rn l rN rR rV rF rU ri l2 : Addr} {dr : AV} {ma go pa du : Option AV} {us2 : List AV} {its : List (Option Nat)} {nms : List (List Nat)} {base : Sto} {R : Sto → Prop}
    (hlen : its.length ≤ 6) (hst : none ∈ its) (hN : (rN, .list (txs nms)) ∈ base) (hn : ∀ nm ∈ nms, nm.length ≤ 5) (h6 : nms.length = 6) (hnd : nms.Nodup)
    (h2 : (l2, .list us2) ∈ base) (hp2 : PartsAt base us2 (ptE its))
    (h : ∀ d es base', (∀ x ∈ base, x ∈ base') → (d == sysModules) = false → (d, .dict es) ∈ base' → DV (ValI its) base' es nms →
      R (loopS L rn l rN rR rV rF rU ri dr ma (some (.ref d)) pa (some (.ref l2)) du ++ base')) :
    EX G (lawK (n + 6) T L) (lawE T L) (lawH 4) (loopS L rn l rN rR rV rF rU ri dr ma go pa (some (.ref l2)) du ++ base) (NR R) NoX := by
  have T1 : Top G := T.toTop
  have hsm := pts_small (Nat.le_trans (splitE_sum its) hlen)
  refine ex_loop1 4 rfl ?_
  refine ex_assign_dictcomp T.toTop.sysm rfl (cl := _) rfl rfl (by decide +kernel) (by decide +kernel) (fun _a => rfl) rfl (fun C o => [(C, .ns [(q_ ".0", none), (q_ "name", o)])]) (fun C σ => rfl) ?_
  refine dg_names (S := loopS L rn l rN rR rV rF rU ri dr ma go pa (some (.ref l2)) du) (base := base) (ValI its) hN (by walk_at "om") hnd (ValI.mono its) ?_ (fun r C o nm done τ hnm hb => ?_) (fun r done τ hr hb hdv C o => ?_)
  · walk_at "w"
    exact ⟨rfl, rfl⟩
  · have hlnm := hn nm hnm
    have h2' := hb _ h2
    have hp2' := hp2.mono hb
    walk_at "w"
    refine ⟨rfl, ?_⟩
    walk_at "w"
    refine CL.hd (law_goes_c (n := n + 3) T1 (rs := us2) (by walk_at "mem") (hp2'.mono fun x hx => by walk_at "mem") hsm.2 (by walk_at "om") (by rw [hp2.len']; exact hsm.1) ?_)
    walk_at "w"
    refine ⟨some (.str (tx nm)), τ, .refl, fun x hx => hx, ?_⟩
    rw [law_two its hst nm]; rfl
  · walk_at "w"
    refine ⟨_, _, _, by walk_at "rm", .refl _, ?_⟩
    refine ⟨rfl, _, ?_, h r done ((r, .dict done) :: τ) (fun x hx => .tail _ (hb x hx)) hr (.head _) (hdv.mono fun nm v hv => ValI.mono its nm v _ _ (fun x hx => .tail _ hx) hv)⟩
    walk_at "pt"
theorem law_b5 (T : Top5 G) {n : Nat} {L rn l rN rR rV rF rU ri d : Addr} {dr : AV} {ma go pa pt : Option AV} {its : List (Option Nat)} {nms : List (List Nat)} {es : List (PySem.Str × AV)} {fs : List AV} {base : Sto} {R : Sto → Prop}
    (hN : (rN, .list (txs nms)) ∈ base) (hn : ∀ nm ∈ nms, nm.length ≤ 5) (h6 : nms.length = 6) (hnd : nms.Nodup) (hd : (d, .dict es) ∈ base) (hes : DV (ValL its) base es nms) (hf : fs.length ≤ 10)
    (h : ∀ d2 es2 base', (∀ x ∈ base, x ∈ base') → (d2 == sysModules) = false → (d2, .dict es2) ∈ base' → DV (ValI its) base' es2 nms →
      R (loopS L rn l rN rR rV rF rU ri dr ma go pa pt (some (.ref d)) ++ ((rF, .list (fs ++ [.ref d2])) :: base'))) :
    EX G (lawK (n + 6) T L) (lawE T L) (lawH 5) (loopS L rn l rN rR rV rF rU ri dr ma go pa pt (some (.ref d)) ++ ((rF, .list fs) :: base)) (NR R) NoX := by
  have T1 : Top G := T.toTop
  refine ex_loop1 5 rfl ?_
  walk_at "w"
  refine ev_dc_g T.toTop.sysm rfl (cl := _) rfl rfl (by decide +kernel) (by decide +kernel) (fun _a => rfl) (fun C o => [(C, .ns [(q_ ".0", none), (q_ "name", o)])]) (fun C σ => rfl) (fun C o τ => ⟨_, _, .here, .refl _⟩) ?_
  refine dg_names (S := loopS L rn l rN rR rV rF rU ri dr ma go pa pt (some (.ref d)) ++ [(rF, .list fs)]) (base := base) (ValI its) hN (by walk_at "om") hnd (ValI.mono its) ?_ (fun r C o nm done τ hnm hb => ?_) (fun r done τ hr hb hdv => ?_)
  · walk_at "w"
    exact ⟨rfl, rfl⟩
  · have hlnm := hn nm hnm
    have hd' := hb _ hd
    obtain ⟨v, hv, q, rfl, hq⟩ := hes.get hnd hnm
    have hq' := hb _ hq
    walk_at "w"
    refine ⟨rfl, ?_⟩
    walk_at "w"
    refine sub_dict (by trivial) (by walk_at "mem") hv ?_
    walk_at "w"
    have hdl := dueL_len its nm
    refine op_add_list (by walk_at "mem") (by walk_at "mem") (by simp [ivs, sizeLine_eq]; walk_at "om") fun r3 => ?_
    walk_at "w"
    refine sub_list_last (by trivial) (by walk_at "mem") (due_last its nm) ?_
    walk_at "w"
    refine ⟨some (.str (tx nm)), τ, ?_, fun x hx => hx, ?_⟩
    · walk_at "pt"
    · show AV.int _ = AV.int _
      congr 1; walk_at "om"
  · walk_at "w"
    refine ⟨rfl, _, ?_, h r done ((r, .dict done) :: τ) (fun x hx => .tail _ (hb x hx)) hr (.head _) (hdv.mono fun nm v hv => ValI.mono its nm v _ _ (fun x hx => .tail _ hx) hv)⟩
    walk_at "pt"
theorem law_b6 (T : Top5 G) {n : Nat} {L rn l rN rR rV rF rU ri d d2 : Addr} {dr : AV} {ma pa pt du : Option AV} {its : List (Option Nat)} {nms : List (List Nat)} {es es2 : List (PySem.Str × AV)} {fs : List AV} {base : Sto} {R : Sto → Prop}
    (hd : (d, .dict es) ∈ base) (hd1 : (d == sysModules) = false) (hes : DV (ValI its) base es nms) (hd2 : (d2, .dict es2) ∈ base) (hd21 : (d2 == sysModules) = false) (hes2 : DV (ValI its) base es2 nms) (hF : (rF, .list (fs ++ [.ref d2])) ∈ base)
    (h : R (loopS L rn l rN rR rV rF rU ri dr ma (some (.ref d)) pa pt du ++ base)) :
    EX G (lawK (n + 6) T L) (lawE T L) (lawH 6) (loopS L rn l rN rR rV rF rU ri dr ma (some (.ref d)) pa pt du ++ base) (NR R) NoX := by
  have T1 : Top G := T.toTop
  refine ex_loop1 6 rfl ?_
  walk_at "w"
  refine sub_list_last (by trivial) (by walk_at "mem") (v := .ref d2) (by simp) ?_
  walk_at "w"
  refine op_ne_dict (n := 0) (by show 0 < n + 6; walk_at "om") (by decide) hd1 hd21 (by walk_at "mem") (by walk_at "mem") (by rw [hes.keys, hes2.keys]) (dvi_same hes hes2) ?_
  walk_at "w"
  refine iteF (by decide) ?_
  walk_at "w"
  exact ⟨rfl, _, .refl, h⟩
/-- what the rules' table keeps for them -/
noncomputable def rk : Option (Addr × Addr) → Sto
  | none => []
  | some c => [(c.2, .any (CodeQ rLq))]
theorem CL.permL {f : AV} {args : List AV} {Q : AV → Sto → Prop} (h : CL G κ f args σ' Q X) (p : σ.Perm σ') : CL G κ f args σ Q X := fun g vs hg hvs => W.perm (h g vs hg hvs) p
theorem law_b7 (T : Top5 G) {n : Nat} {L rn l rN rR rV rF rU ri d : Addr} {dr : AV} {ma pa pt du : Option AV} {its : List (Option Nat)} {nms : List (List Nat)} {es : List (PySem.Str × AV)} {us : List AV} {vs : List Bool} {v : Bool} {k : Option (Addr × Addr)} {base : Sto} {R : Sto → Prop}
    (hd : (d, .dict es) ∈ base) (hes : DV (ValI its) base es nms) (hnd : nms.Nodup) (hV : (rV, .list (bvs vs)) ∈ base) (hv : vs[us.length]? = some v) (hu : us.length ≤ 10) (hvl : vs.length ≤ 10)
    (h : ∀ u c base', (∀ p, k = some p → p = c) → (∀ x ∈ base, x ∈ base') → (∀ nm ∈ nms, RuleAt (rk (some c) ++ base') (tx nm) u (farI its nm) v) → R (loopS L rn l rN rR rV rF rU ri dr ma (some (.ref d)) pa pt du ++ ((rU, .list (us ++ [u])) :: (rt (some c) ++ base')))) :
    EX G (lawK (n + 6) T L) (lawE T L) (lawH 7) (loopS L rn l rN rR rV rF rU ri dr ma (some (.ref d)) pa pt du ++ ((rU, .list us) :: (rt k ++ base))) (NR R) NoX := by
  have T1 : Top G := T.toTop
  have hV' := List.mem_append_right (rt k) hV
  refine ex_loop1 7 rfl ?_
  walk_at "w"
  refine sub_list (v := .bool v) (by trivial) (by walk_at "mem") (by walk_at "om") (by simp [bvs, sizeLine_eq]; walk_at "om") (by simp [bvs, hv]) ?_
  walk_at "w"
  refine CL.permL (σ' := rt k ++ (loopS L rn l rN rR rV rF rU ri dr ma (some (.ref d)) pa pt du ++ ((rU, .list us) :: base))) (CL.hd (law_rule_c (n := n + 5) T.toTop3 fun f fd f2 cc pm cv ctv pm2 ctv2 c1 c2 hk => ?_)) ?_
  · simp only [rt, List.cons_append, List.nil_append]
    walk_at "w"
    refine ⟨rfl, _, ?_, h (.ref f) (c1, c2) ((f, .raw (lam1 pm cv ctv (some fd))) :: (fd, .any (AttrD [(PySem.Str.ofString "allowance", .bool v), (PySem.Str.ofString "applies_to", .ref f2)])) :: (f2, .raw (lam2 cc pm2 (.ref c2) ctv2)) :: (cc, .cell (some (.ref d))) :: base) hk (fun x hx => .tail _ (.tail _ (.tail _ (.tail _ hx)))) fun nm hnm => ?_⟩
    · simp only [rt, List.cons_append, List.nil_append]
      walk_at "pt"
    · obtain ⟨w, hw, rfl⟩ := hes.get hnd hnm
      refine ⟨f, fd, f2, cc, d, c2, pm, cv, ctv, pm2, ctv2, es, rfl, ?_, ?_, ?_, ?_, ?_, ?_, hw⟩
      · exact List.mem_append_right _ (by walk_at "mem")
      · exact List.mem_append_right _ (by walk_at "mem")
      · exact List.mem_append_right _ (by walk_at "mem")
      · exact List.mem_append_right _ (by walk_at "mem")
      · exact List.mem_append_right _ (by walk_at "mem")
      · exact List.mem_append_left _ (by simp only [rk]; walk_at "mem")
  · exact List.perm_append_comm_assoc (loopS L rn l rN rR rV rF rU ri dr ma (some (.ref d)) pa pt du ++ [(rU, .list us)]) (rt k) base
end
end C24Text
section C25Text
/-- item by item -/
noncomputable def AA {α : Type} (P : α → AV → Prop) (xs : List α) (ys : List AV) : Prop := ys.length = xs.length ∧ ∀ (i : Nat) (x : α), xs[i]? = some x → ∃ y, ys[i]? = some y ∧ P x y
theorem AA.nil {α : Type} {P : α → AV → Prop} : AA P [] [] := ⟨rfl, fun i x h => by simp at h⟩
theorem AA.snoc {α : Type} {P : α → AV → Prop} {xs : List α} {ys : List AV} {x : α} {y : AV} (h : AA P xs ys) (hp : P x y) : AA P (xs ++ [x]) (ys ++ [y]) := by
  refine ⟨by simp [h.1], fun i z hz => ?_⟩
  rcases Nat.lt_or_ge i xs.length with hi | hi
  · rw [List.getElem?_append_left hi] at hz
    obtain ⟨w, hw, q⟩ := h.2 i z hz
    exact ⟨w, by rw [List.getElem?_append_left (by rw [h.1]; exact hi)]; exact hw, q⟩
  · rw [List.getElem?_append_right hi] at hz
    obtain ⟨h1, h2⟩ := List.getElem?_eq_some_iff.mp hz
    have hi' : i = xs.length := by simp at h1; walk_at "om"
    subst hi'
    simp at h2
    subst h2
    exact ⟨y, by rw [← h.1]; simp, hp⟩
theorem AA.mono {α : Type} {P P' : α → AV → Prop} {xs : List α} {ys : List AV} (h : AA P xs ys) (hm : ∀ x y, P x y → P' x y) : AA P' xs ys :=
  ⟨h.1, fun i x hi => let ⟨y, h1, h2⟩ := h.2 i x hi; ⟨y, h1, hm _ _ h2⟩⟩
/-- a dict of how far the names are taken -/
noncomputable def FarD (nms : List (List Nat)) (τ : Sto) (its : List (Option Nat)) (y : AV) : Prop := ∃ d es, y = .ref d ∧ (d, .dict es) ∈ τ ∧ DV (ValI its) τ es nms
/-- a rule of that kind -/
noncomputable def RuleD (nms : List (List Nat)) (τ : Sto) (p : List (Option Nat) × Bool) (u : AV) : Prop := ∀ nm ∈ nms, RuleAt τ (tx nm) u (farI p.1 nm) p.2
theorem FarD.mono {nms : List (List Nat)} {τ τ' : Sto} (hs : ∀ x ∈ τ, x ∈ τ') {its : List (Option Nat)} {y : AV} (h : FarD nms τ its y) : FarD nms τ' its y := by
  obtain ⟨d, es, e, hm, hd⟩ := h
  exact ⟨d, es, e, hs _ hm, hd.mono fun nm v hv => ValI.mono its nm v _ _ hs hv⟩
theorem RuleD.mono {nms : List (List Nat)} {τ τ' : Sto} (hs : ∀ x ∈ τ, x ∈ τ') {p : List (Option Nat) × Bool} {u : AV} (h : RuleD nms τ p u) : RuleD nms τ' p u := fun nm hnm => (h nm hnm).mono hs
section
variable {α : Type}
theorem pm0 (S K B : List α) (a b c : α) : (S ++ (a :: b :: c :: (K ++ B))).Perm (a :: b :: c :: (K ++ (S ++ B))) :=
  List.perm_middle.trans (.cons a (List.perm_middle.trans (.cons b (List.perm_middle.trans (.cons c (List.perm_append_comm_assoc S K B))))))
theorem pm1 (K S B : List α) (a : α) : (K ++ (S ++ a :: B)).Perm (a :: (K ++ (S ++ B))) := by
  rw [← List.append_assoc, ← List.append_assoc]; exact List.perm_middle
theorem pmA (S K B : List α) (a b c : α) : (S ++ (a :: b :: c :: (K ++ B))).Perm ((b :: c :: K) ++ (S ++ (a :: B))) :=
  (pm0 S K B a b c).trans ((List.Perm.swap b a _).trans (.cons b ((List.Perm.swap c a _).trans (.cons c (pm1 K S B a).symm))))
theorem pmB (S K B : List α) (a b c : α) : ((b :: c :: K) ++ (S ++ (a :: B))).Perm ((a :: b :: c :: K) ++ (S ++ B)) :=
  (pmA S K B a b c).symm.trans (pm0 S K B a b c)
theorem pmC (S K B : List α) (a b c : α) : ((a :: b :: c :: K) ++ (S ++ B)).Perm ((a :: c :: K) ++ (S ++ (b :: B))) :=
  List.Perm.cons a ((List.Perm.swap c b _).trans (.cons c (pm1 K S B b).symm))
theorem pmD (S K B : List α) (a b c : α) : ((a :: c :: K) ++ (S ++ (b :: B))).Perm ([a, b] ++ (S ++ (c :: (K ++ B)))) :=
  (pmC S K B a b c).symm.trans ((pm0 S K B a b c).symm.trans (List.perm_middle.trans (.cons a List.perm_middle)))
theorem pmE (S K B : List α) (a b c : α) : ([a, b] ++ (S ++ (c :: (K ++ B)))).Perm (S ++ (a :: b :: c :: (K ++ B))) :=
  ((List.perm_middle (l₁ := S) (a := a) (l₂ := b :: c :: (K ++ B))).trans (.cons a (List.perm_middle (l₁ := S) (a := b) (l₂ := c :: (K ++ B))))).symm
end
section
variable {G : Gd} {κ : Kx} {env : Env} {σ σ' : Sto} {X : XP}
theorem law_body (T : Top5 G) {n : Nat} {L rn l rN rR rV rF rU ri : Addr} {dr : AV} {ma go pa pt du : Option AV} {its : List (Option Nat)} {nms : List (List Nat)} {fs us : List AV} {vs : List Bool} {v : Bool} {ps : Array Value} {k : Option (Addr × Addr)} {base : Sto} {Q : AF → Sto → Prop}
    (hi : (ri, .list (ovs its)) ∈ base) (h5 : Items5 its) (hlen : its.length ≤ 6) (hst : none ∈ its) (ht : TriplesOk ps.toList) (hN : (rN, .list (txs nms)) ∈ base) (hn : ∀ nm ∈ nms, nm.length ≤ 5) (h6 : nms.length = 6) (hnd : nms.Nodup)
    (hV : (rV, .list (bvs vs)) ∈ base) (hv : vs[us.length]? = some v) (hu : us.length ≤ 10) (hf : fs.length ≤ 10) (hvl : vs.length ≤ 10)
    (h : ∀ ps' c base' ma' go' pa' pt' du' f u, TriplesOk ps'.toList → (∀ p, k = some p → p = c) → (∀ x ∈ base, x ∈ base') → FarD nms base' its f → RuleD nms (rk (some c) ++ base') (its, v) u →
      Q .next (loopS L rn l rN rR rV rF rU ri dr ma' go' pa' pt' du' ++ ((113, .raw (tabObj ps')) :: (rF, .list (fs ++ [f])) :: (rU, .list (us ++ [u])) :: (rt (some c) ++ base')))) :
    EXS G (lawK (n + 6) T L) (lawE T L) (lawB 0) (loopS L rn l rN rR rV rF rU ri dr ma go pa pt du ++ ((113, .raw (tabObj ps)) :: (rF, .list fs) :: (rU, .list us) :: (rt k ++ base))) Q NoX := by
  refine loop_seq 0 rfl (pmA _ (rt k) base _ _ _) (law_b0 T hi h5 hlen ht (R := fun τ => ∃ ps', TriplesOk ps'.toList ∧ τ = loopS L rn l rN rR rV rF rU ri dr (some (.str (tx (madeT its)))) go pa pt du ++ ((113, .raw (tabObj ps')) :: base)) fun ps' ht' => ⟨ps', ht', rfl⟩) ?_
  rintro _ ⟨ps', ht', rfl⟩
  refine loop_seq 1 rfl (pmB _ (rt k) base _ _ _) (law_b1 T hi h5 hlen hst (R := fun τ => ∃ l1 us1 l2 us2 base', (∀ x ∈ base, x ∈ base') ∧ (l1, .list us1) ∈ base' ∧ PartsAt base' us1 (ptS its) ∧ (l2, .list us2) ∈ base' ∧ PartsAt base' us2 (ptE its) ∧
    τ = loopS L rn l rN rR rV rF rU ri dr (some (.str (tx (madeT its)))) go (some (.ref l1)) (some (.ref l2)) du ++ base') fun l1 us1 l2 us2 base' a b c d e => ⟨l1, us1, l2, us2, base', a, b, c, d, e, rfl⟩) ?_
  rintro _ ⟨l1, us1, l2, us2, b1, s1, m1, p1, m2, p2, rfl⟩
  refine loop_seq 2 rfl (.refl _) (law_b2 T (s1 _ hi) hlen (s1 _ hN) hn h6 hnd (R := fun τ => ∃ d es base', (∀ x ∈ b1, x ∈ base') ∧ (d == sysModules) = false ∧ (d, .dict es) ∈ base' ∧ DV (ValL its) base' es nms ∧
    τ = loopS L rn l rN rR rV rF rU ri dr (some (.str (tx (madeT its)))) go (some (.ref l1)) (some (.ref l2)) (some (.ref d)) ++ base') fun d es base' a b c e => ⟨d, es, base', a, b, c, e, rfl⟩) ?_
  rintro _ ⟨d, es, b2, s2, hd1, md, hes, rfl⟩
  refine loop_seq 3 rfl (.refl _) (law_b3 T h5 hlen hst (s2 _ (s1 _ hN)) hn h6 hnd (s2 _ m1) (p1.mono s2) md hd1 hes (R := fun τ => ∃ base', (∀ x ∈ b2, x ∈ base') ∧
    τ = loopS L rn l rN rR rV rF rU ri dr (some (.str (tx (madeT its)))) go (some (.ref l1)) (some (.ref l2)) (some (.ref d)) ++ base') fun base' a => ⟨base', a, rfl⟩) ?_
  rintro _ ⟨b3, s3, rfl⟩
  refine loop_seq 4 rfl (.refl _) (law_b4 T hlen hst (s3 _ (s2 _ (s1 _ hN))) hn h6 hnd (s3 _ (s2 _ m2)) (p2.mono fun x hx => s3 _ (s2 _ hx)) (R := fun τ => ∃ d4 es4 base', (∀ x ∈ b3, x ∈ base') ∧ (d4 == sysModules) = false ∧ (d4, .dict es4) ∈ base' ∧ DV (ValI its) base' es4 nms ∧
    τ = loopS L rn l rN rR rV rF rU ri dr (some (.str (tx (madeT its)))) (some (.ref d4)) (some (.ref l1)) (some (.ref l2)) (some (.ref d)) ++ base') fun d es base' a b c e => ⟨d, es, base', a, b, c, e, rfl⟩) ?_
  rintro _ ⟨d4, es4, b4, s4, hd4, md4, hes4, rfl⟩
  refine loop_seq 5 rfl (pmC _ (rt k) b4 _ _ _) (law_b5 T (s4 _ (s3 _ (s2 _ (s1 _ hN)))) hn h6 hnd (s4 _ (s3 _ md)) (hes.mono fun nm v hv => ValL.mono its nm v _ _ (fun x hx => s4 _ (s3 _ hx)) hv) hf (R := fun τ => ∃ d5 es5 base', (∀ x ∈ b4, x ∈ base') ∧ (d5 == sysModules) = false ∧ (d5, .dict es5) ∈ base' ∧ DV (ValI its) base' es5 nms ∧
    τ = loopS L rn l rN rR rV rF rU ri dr (some (.str (tx (madeT its)))) (some (.ref d4)) (some (.ref l1)) (some (.ref l2)) (some (.ref d)) ++ ((rF, .list (fs ++ [.ref d5])) :: base')) fun d es base' a b c e => ⟨d, es, base', a, b, c, e, rfl⟩) ?_
  rintro _ ⟨d5, es5, b5, s5, hd5, md5, hes5, rfl⟩
  have m4' := s5 _ md4
  refine loop_seq 6 rfl (.refl _) (law_b6 T (base := (rF, .list (fs ++ [.ref d5])) :: b5) (.tail _ m4') hd4 (hes4.mono fun nm v hv => hv) (.tail _ md5) hd5 (hes5.mono fun nm v hv => hv) (.head _) (R := fun τ => τ = loopS L rn l rN rR rV rF rU ri dr (some (.str (tx (madeT its)))) (some (.ref d4)) (some (.ref l1)) (some (.ref l2)) (some (.ref d)) ++ ((rF, .list (fs ++ [.ref d5])) :: b5)) rfl) ?_
  rintro _ rfl
  have sb : ∀ x ∈ base, x ∈ b5 := fun x hx => s5 _ (s4 _ (s3 _ (s2 _ (s1 _ hx))))
  refine loop_seq 7 rfl (pmD _ (rt k) b5 _ _ _) (law_b7 T m4' (hes4.mono fun nm v hv => hv) hnd (sb _ hV) hv hu hvl (R := fun τ => ∃ u c base', (∀ p, k = some p → p = c) ∧ (∀ x ∈ b5, x ∈ base') ∧ (∀ nm ∈ nms, RuleAt (rk (some c) ++ base') (tx nm) u (farI its nm) v) ∧
    τ = loopS L rn l rN rR rV rF rU ri dr (some (.str (tx (madeT its)))) (some (.ref d4)) (some (.ref l1)) (some (.ref l2)) (some (.ref d)) ++ ((rU, .list (us ++ [u])) :: (rt (some c) ++ base'))) fun u c base' a b e => ⟨u, c, base', a, b, e, rfl⟩) ?_
  rintro _ ⟨u, c, b7, hk, s7, hr, rfl⟩
  refine W.perm (exs_nil (h ps' c b7 _ _ _ _ _ (.ref d5) u ht' hk (fun x hx => s7 _ (sb _ hx)) ?_ hr)) (pmE _ (rt (some c)) b7 _ _ _)
  exact FarD.mono s7 ⟨d5, es5, rfl, md5, hes5⟩
theorem rk_mono {k : Option (Addr × Addr)} {c : Addr × Addr} {b b' : Sto} (hk : ∀ p, k = some p → p = c) (hs : ∀ x ∈ b, x ∈ b') : ∀ x ∈ rk k ++ b, x ∈ rk (some c) ++ b' := by
  intro x hx
  rcases List.mem_append.mp hx with hx | hx
  · cases k with
    | none => cases hx
    | some p => rw [hk p rfl] at hx; exact List.mem_append_left _ hx
  · exact List.mem_append_right _ (hs x hx)
/-- a row: its list, its items, its verdict -/
noncomputable abbrev Row := Addr × List (Option Nat) × Bool
theorem law_s4 (T : Top5 G) {n : Nat} {L rn l rN rR rV rF rU : Addr} {dr : AV} {rows : List Row} {nms : List (List Nat)} {ps : Array Value} {base : Sto} {Q : AF → Sto → Prop}
    (hR : (rR, .list (rows.map fun p => .ref p.1)) ∈ base) (hrow : ∀ p ∈ rows, (p.1, .list (ovs p.2.1)) ∈ base ∧ Items5 p.2.1 ∧ p.2.1.length ≤ 6 ∧ none ∈ p.2.1)
    (hN : (rN, .list (txs nms)) ∈ base) (hn : ∀ nm ∈ nms, nm.length ≤ 5) (h6 : nms.length = 6) (hnd : nms.Nodup) (hV : (rV, .list (bvs (rows.map (·.2.2)))) ∈ base) (h10 : rows.length ≤ 10) (ht : TriplesOk ps.toList)
    (h : ∀ ps' k base' ma go it pa pt du fs us, (∀ x ∈ base, x ∈ base') → AA (fun p : Row => FarD nms base' p.2.1) rows fs → AA (fun p : Row => RuleD nms (rk k ++ base') p.2) rows us →
      EXS G (lawK (n + 6) T L) (lawE T L) (lawD 5) (lawS L (some (.ref rn)) (some dr) (some (.ref rR)) ma go none none none (some (.ref l)) (some (.ref rN)) (some (.ref rV)) (some (.ref rF)) (some (.ref rU)) it pa pt du none none none none none ++
        ((113, .raw (tabObj ps')) :: (rF, .list fs) :: (rU, .list us) :: (rt k ++ base'))) Q NoX) :
    EXS G (lawK (n + 6) T L) (lawE T L) (lawD 4) (lawS L (some (.ref rn)) (some dr) (some (.ref rR)) none none none none none (some (.ref l)) (some (.ref rN)) (some (.ref rV)) (some (.ref rF)) (some (.ref rU)) none none none none none none none none none ++
        ((113, .raw (tabObj ps)) :: (rF, .list []) :: (rU, .list []) :: (rt none ++ base))) Q NoX := by
  refine exs_law 4 (by with_unfolding_all rfl) ?_
  refine ex_for .no rfl ?_ (fun _a => rfl)
  have hR' : ∀ (k : Option (Addr × Addr)) (b : Sto), (∀ x ∈ base, x ∈ b) → (rR, .list (rows.map fun p => .ref p.1)) ∈ rt k ++ b := fun k b hb => List.mem_append_right _ (hb _ hR)
  have hR0 := hR' none base fun _a hx => hx
  walk_at "w"
  refine ⟨.lst rR, rows.map fun p => .ref p.1, ⟨rfl, by walk_at "mem"⟩, ?_⟩
  suffices H : ∀ (todo don : List Row) ps k base' ma go it pa pt du fs us, rows = don ++ todo → TriplesOk ps.toList → (∀ x ∈ base, x ∈ base') → AA (fun p : Row => FarD nms base' p.2.1) don fs → AA (fun p : Row => RuleD nms (rk k ++ base') p.2) don us →
      FR G (lawK (n + 6) T L) (lawE T L) _ _ (.lst rR) (rows.map fun p => .ref p.1) _ NoX (todo.map fun p => .ref p.1)
        (lawS L (some (.ref rn)) (some dr) (some (.ref rR)) ma go none none none (some (.ref l)) (some (.ref rN)) (some (.ref rV)) (some (.ref rF)) (some (.ref rU)) it pa pt du none none none none none ++
        ((113, .raw (tabObj ps)) :: (rF, .list fs) :: (rU, .list us) :: (rt k ++ base'))) from
    H rows [] ps none base none none none none none none [] [] rfl ht (fun _a hx => hx) .nil .nil
  intro todo
  induction todo with
  | nil =>
    intro don ps k base' ma go it pa pt du fs us hd ht hb hf hu
    rw [List.append_nil] at hd
    subst hd
    have hR1 := hR' k base' hb
    exact ⟨by walk_at "mem", h ps k base' ma go it pa pt du fs us hb hf hu⟩
  | cons p todo ih =>
    intro don ps k base' ma go it pa pt du fs us hd ht hb hf hu
    obtain ⟨ri, its, v⟩ := p
    have hR1 := hR' k base' hb
    obtain ⟨hi, hI5, hlen, hst⟩ := hrow (ri, its, v) (by rw [hd]; simp)
    refine fr_step (by walk_at "mem") ?_
    refine asg_name ?_
    dsimp only [List.cons_append, List.nil_append]
    walk_at "sn"
    have hl : rows.length = don.length + (todo.length + 1) := by rw [hd]; simp
    have hlf := hf.1
    have hlu := hu.1
    refine law_body T (n := n) (ri := ri) (its := its) (nms := nms) (vs := rows.map (·.2.2)) (v := v) (hb _ hi) hI5 hlen hst ht (hb _ hN) hn h6 hnd (hb _ hV) (by rw [hlu, hd]; simp) (by walk_at "om") (by walk_at "om") (by simp; walk_at "om") ?_
    intro ps' c b2 ma' go' pa' pt' du' f u ht' hk hb2 hfd hud
    refine ⟨_, .refl, ih (don ++ [(ri, its, v)]) ps' (some c) b2 ma' go' (some (.ref ri)) pa' pt' du' (fs ++ [f]) (us ++ [u]) (by rw [hd]; simp) ht' (fun x hx => hb2 _ (hb _ hx)) ?_ ?_⟩
    · exact (hf.mono fun p y hp => FarD.mono hb2 hp).snoc hfd
    · exact (hu.mono fun p y hp => RuleD.mono (rk_mono hk hb2) hp).snoc hud
end
end C25Text
section C26Text
/-- a bit -/
noncomputable abbrev bi (b : Bool) : AV := .int (if b then 1 else 0)
theorem fmod2 (x : Int) : ∃ b : Bool, x.fmod 2 = if b then 1 else 0 := by
  have := fmod_in x 2 (by decide)
  by_cases h : x.fmod 2 = 0
  · exact ⟨false, by simp [h]⟩
  · exact ⟨true, by simp; walk_at "om"⟩
noncomputable def bitF (n : Int) : AV → Option AV
  | .int k => some (.int ((n.fdiv (2 ^ k.toNat)).fmod 2))
  | _ => none
theorem bitF_eq (n : Int) : ∃ a b c : Bool, (rngL 0 1 3).filterMap (bitF n) = [bi a, bi b, bi c] := by
  obtain ⟨a, ha⟩ := fmod2 (n.fdiv (2 ^ 0))
  obtain ⟨b, hb⟩ := fmod2 (n.fdiv (2 ^ 1))
  obtain ⟨c, hc⟩ := fmod2 (n.fdiv (2 ^ 2))
  refine ⟨a, b, c, ?_⟩
  show [AV.int ((n.fdiv (2 ^ 0)).fmod 2), .int ((n.fdiv (2 ^ 1)).fmod 2), .int ((n.fdiv (2 ^ 2)).fmod 2)] = _
  rw [ha, hb, hc]
noncomputable abbrev figs : List AV := [.str (q_ "fig"), .str (q_ "plum"), .str (q_ "nut")]
/-- the agents of the first record -/
noncomputable def agL (a b c : Bool) : List PySem.Str := (if a then [q_ "fig"] else []) ++ ((if b then [q_ "plum"] else []) ++ (if c then [q_ "nut"] else []))
/-- those of the second -/
noncomputable def agR (a b c : Bool) : List PySem.Str := (if c then [q_ "nut"] else []) ++ ((if b then [q_ "plum"] else []) ++ (if a then [q_ "fig"] else []))
noncomputable def agF (a b c : Bool) : AV → Option AV
  | .int k => if k = 0 then (if a then some (.str (q_ "fig")) else none) else if k = 1 then (if b then some (.str (q_ "plum")) else none) else (if c then some (.str (q_ "nut")) else none)
  | _ => none
theorem agF_L (a b c : Bool) : [AV.int 0, .int 1, .int 2].filterMap (agF a b c) = sts (agL a b c) := by cases a <;> cases b <;> cases c <;> rfl
theorem agF_R (a b c : Bool) : [AV.int 2, .int 1, .int 0].filterMap (agF a b c) = sts (agR a b c) := by cases a <;> cases b <;> cases c <;> rfl
theorem agL_len (a b c : Bool) : (agL a b c).length ≤ 3 := by cases a <;> cases b <;> cases c <;> decide
theorem agR_len (a b c : Bool) : (agR a b c).length ≤ 3 := by cases a <;> cases b <;> cases c <;> decide
theorem ag_get {a b c : Bool} {y : AV} (hy : y = .int 0 ∨ y = .int 1 ∨ y = .int 2) : ∃ (k : Int) (f : Bool) (g : AV), y = .int k ∧ 0 ≤ k ∧ [bi a, bi b, bi c][k.toNat]? = some (bi f) ∧ figs[k.toNat]? = some g ∧ agF a b c (.int k) = if f = true then some g else none := by
  rcases hy with rfl | rfl | rfl
  · exact ⟨0, a, _, rfl, by decide, rfl, rfl, rfl⟩
  · exact ⟨1, b, _, rfl, by decide, rfl, rfl, rfl⟩
  · exact ⟨2, c, _, rfl, by decide, rfl, rfl, rfl⟩
theorem pow_small {k : Nat} (h : k < 3) : (2 : Int) ^ k ≠ 0 ∧ ((2 : Int) ^ k).natAbs < 1073741824 := by
  match k, h with
  | 0, _ => decide
  | 1, _ => decide
  | 2, _ => decide
section
variable {G : Gd} {κ : Kx} {env : Env} {σ σ' : Sto} {X : XP} {n : Nat} {L l : Addr} {nu dr ro ma go on tw to na ve fa ru it pa pt du : Option AV} {ag mk bo : Option AV} {base : Sto} {Q : AF → Sto → Prop}
set_option tactic.hygienic true in
theorem law_s5 (T : Top5 G) {sc : List Int} (hl : OldL G l sc)
    (h : ∀ rA rM m0 m1 a0 a1 a2 b0 b1 b2, EXS G (lawK n T L) (lawE T L) (lawD 6) (lawS L nu dr ro ma go on tw to (some (.ref l)) na ve fa ru it pa pt du (some (.ref rA)) (some (.ref rM)) none none none ++
      ((rA, .list figs) :: (rM, .list [.ref m0, .ref m1]) :: (m0, .list [bi a0, bi a1, bi a2]) :: (m1, .list [bi b0, bi b1, bi b2]) :: base)) Q NoX) :
    EXS G (lawK n T L) (lawE T L) (lawD 5) (lawS L nu dr ro ma go on tw to (some (.ref l)) na ve fa ru it pa pt du none none none none none ++ base) Q NoX := by
  have T1 : Top G := T.toTop
  refine exs_law 5 (by with_unfolding_all rfl) ?_
  walk_at "w"
  refine ev_listcomp rfl (cl := _) rfl rfl (by decide +kernel) (by decide +kernel) (fun _a => rfl) ?_
  unfold LC
  walk_at "w"
  refine cl_sum_old rfl hl ?_
  walk_at "w"
  refine cl_sum_old rfl hl ?_
  walk_at "w"
  refine op_floordiv (by decide) (by decide) ?_
  walk_at "w"
  generalize sc.sum + 3 = N1
  generalize sc.sum.fdiv 8 + 6 = N2
  rename_i rA ll
  refine ⟨.lst ll, [.int N1, .int N2], ⟨rfl, by walk_at "mem"⟩, fun r C => ?_⟩
  simp only [lay_nil, lay_local, lay_cell, lay_global, lay_free, layC_nil, layC_local, layC_cell, layC_global, layC_free]
  refine cr_cons (by walk_at "mem") ?_
  walk_at "w"
  refine iteT rfl (el_of ?_)
  walk_at "w"
  walk_at "lc"
  walk_at "w"
  refine ⟨.rng 0 1, _, ⟨_, _, rfl, by walk_at "mem", rfl⟩, by walk_at "sz", bitF N1, ?_, fun r1 => ?_⟩
  · intro r C y done hy
    obtain ⟨k, hk, rfl⟩ := mem_rng01 hy
    have hk3 : k < 3 := hk
    have hp := pow_small hk3
    walk_at "w"
    walk_at "if"
    walk_at "w"
    refine op_pow (by walk_at "om") (by walk_at "om") (by decide) ?_
    walk_at "w"
    refine op_floordiv hp.1 hp.2 ?_
    walk_at "w"
    refine op_mod (by decide) ?_
    exact ⟨by walk_at "pt", rfl⟩
  obtain ⟨a0, a1, a2, e1⟩ := bitF_eq N1
  rw [show List.filterMap (bitF N1) (rngL 0 1 (Int.toNat 3)) = [bi a0, bi a1, bi a2] from e1]
  refine ⟨_, _, by walk_at "up", by simp [sizeLine_eq], ?_⟩
  refine cr_cons (by walk_at "mem") ?_
  walk_at "w"
  refine iteT rfl (el_of ?_)
  walk_at "w"
  walk_at "lc"
  walk_at "w"
  refine ⟨.rng 0 1, _, ⟨_, _, rfl, by walk_at "mem", rfl⟩, by walk_at "sz", bitF N2, ?_, fun r2 => ?_⟩
  · intro r C y done hy
    obtain ⟨k, hk, rfl⟩ := mem_rng01 hy
    have hk3 : k < 3 := hk
    have hp := pow_small hk3
    walk_at "w"
    walk_at "if"
    walk_at "w"
    refine op_pow (by walk_at "om") (by walk_at "om") (by decide) ?_
    walk_at "w"
    refine op_floordiv hp.1 hp.2 ?_
    walk_at "w"
    refine op_mod (by decide) ?_
    exact ⟨by walk_at "pt", rfl⟩
  obtain ⟨b0, b1, b2, e2⟩ := bitF_eq N2
  rw [show List.filterMap (bitF N2) (rngL 0 1 (Int.toNat 3)) = [bi b0, bi b1, bi b2] from e2]
  refine ⟨_, _, by walk_at "up", by simp [sizeLine_eq], ?_⟩
  refine cr_nil (by walk_at "mem") ?_
  refine ⟨_, _, _, by walk_at "rm", .refl _, ?_⟩
  walk_at "w"
  refine W.from (h rA r r1 r2 a0 a1 a2 b0 b1 b2) ?_
  walk_at "pt"
theorem law_s6 (T : Top5 G) {rA rM rU m0 m1 : Addr} {u0 u1 u2 u3 : AV} {a0 a1 a2 : Bool} (hA : (rA, .list figs) ∈ base) (hM : (rM, .list [.ref m0, .ref m1]) ∈ base) (h0 : (m0, .list [bi a0, bi a1, bi a2]) ∈ base) (hU : (rU, .list [u0, u1, u2, u3]) ∈ base)
    (h : ∀ x base', (∀ y ∈ base, y ∈ base') → RecAt base' x (agL a0 a1 a2) [u0, u1] → EXS G (lawK (n + 6) T L) (lawE T L) (lawD 7) (lawS L nu dr ro ma go (some (.ref x)) tw to (some (.ref l)) na ve fa (some (.ref rU)) it pa pt du (some (.ref rA)) (some (.ref rM)) none none none ++ base') Q NoX) :
    EXS G (lawK (n + 6) T L) (lawE T L) (lawD 6) (lawS L nu dr ro ma go on tw to (some (.ref l)) na ve fa (some (.ref rU)) it pa pt du (some (.ref rA)) (some (.ref rM)) none none none ++ base) Q NoX := by
  have T1 : Top G := T.toTop
  refine exs_law 6 (by with_unfolding_all rfl) ?_
  walk_at "w"
  walk_at "lc"
  walk_at "w"
  refine ⟨.lst _, [.int 0, .int 1, .int 2], ⟨rfl, by walk_at "mem"⟩, by simp [sizeLine_eq], agF a0 a1 a2, ?_, fun r => ?_⟩
  · intro r C y done hy
    obtain ⟨k, f, g, rfl, hk, e1, e2, e3⟩ := ag_get (a := a0) (b := a1) (c := a2) (y := y) (by simpa using hy)
    rw [e3]
    walk_at "w"
    refine sub_list (by trivial) (by walk_at "mem") (by decide) (by simp [sizeLine_eq]) (v := .ref m0) rfl ?_
    walk_at "w"
    refine sub_list (by trivial) (by walk_at "mem") hk (by simp [sizeLine_eq]) e1 ?_
    walk_at "w"
    by_cases hf : f = true
    · refine iteT (by rw [hf]; rfl) ?_
      walk_at "w"
      refine sub_list (by trivial) (by walk_at "mem") hk (by simp [sizeLine_eq]) e2 ?_
      exact ⟨by walk_at "pt", if_pos hf⟩
    · refine iteF (by rw [Bool.eq_false_iff.mpr hf]; decide) ?_
      exact ⟨by walk_at "pt", if_neg hf⟩
  rw [agF_L]
  walk_at "w"
  walk_at "sll"
  walk_at "w"
  refine ⟨rU, [u0, u1, u2, u3], _, _, rfl, by walk_at "mem", .none, .int, by simp [sizeLine_eq], fun r2 => ?_⟩
  rw [show slcL [u0, u1, u2, u3] none (some 2) = [u0, u1] from rfl]
  walk_at "w"
  refine CL.hd (law_record_c (n := n + 3) T.toTop4 (as := sts (agL a0 a1 a2)) (rs := [u0, u1]) (by walk_at "mem") (by walk_at "mem") ⟨by have := agL_len a0 a1 a2; simp [sts]; walk_at "om", by simp⟩ fun x dx lu ll hne => ?_)
  walk_at "w"
  have hx : ∀ b : Sto, RecAt ((x, .any (InstO 69 dx)) :: (dx, .any (AttrD [(aRR, .none), (aDE, .none), (aRL, .ref ll), (aUA, .ref lu)])) :: (ll, .list [u0, u1]) :: (lu, .list (sts (agL a0 a1 a2))) :: b) x (agL a0 a1 a2) [u0, u1] := fun b =>
    { dx := dx, m := _, lu := lu, ll := ll, hi := by walk_at "mem", hd := by walk_at "mem", hne := hne, ua := by rfl, rl := by rfl, de := by rfl, rr := by rfl, al := by rfl, hu := by walk_at "mem", hl := by walk_at "mem" }
  refine W.from (h x _ (fun y hy => .tail _ (.tail _ (.tail _ (.tail _ hy)))) (hx base)) ?_
  walk_at "pt"
theorem law_s7 (T : Top5 G) {rA rM rU m0 m1 : Addr} {u0 u1 u2 u3 : AV} {b0 b1 b2 : Bool} (hA : (rA, .list figs) ∈ base) (hM : (rM, .list [.ref m0, .ref m1]) ∈ base) (h0 : (m1, .list [bi b0, bi b1, bi b2]) ∈ base) (hU : (rU, .list [u0, u1, u2, u3]) ∈ base)
    (h : ∀ x base', (∀ y ∈ base, y ∈ base') → RecAt base' x (agR b0 b1 b2) [u2, u3] → EXS G (lawK (n + 6) T L) (lawE T L) (lawD 8) (lawS L nu dr ro ma go on (some (.ref x)) to (some (.ref l)) na ve fa (some (.ref rU)) it pa pt du (some (.ref rA)) (some (.ref rM)) none none none ++ base') Q NoX) :
    EXS G (lawK (n + 6) T L) (lawE T L) (lawD 7) (lawS L nu dr ro ma go on tw to (some (.ref l)) na ve fa (some (.ref rU)) it pa pt du (some (.ref rA)) (some (.ref rM)) none none none ++ base) Q NoX := by
  have T1 : Top G := T.toTop
  refine exs_law 7 (by with_unfolding_all rfl) ?_
  walk_at "w"
  walk_at "lc"
  walk_at "w"
  refine ⟨.lst _, [.int 2, .int 1, .int 0], ⟨rfl, by walk_at "mem"⟩, by simp [sizeLine_eq], agF b0 b1 b2, ?_, fun r => ?_⟩
  · intro r C y done hy
    obtain ⟨k, f, g, rfl, hk, e1, e2, e3⟩ := ag_get (a := b0) (b := b1) (c := b2) (y := y) (by
      simp only [List.mem_cons, List.not_mem_nil, or_false] at hy
      rcases hy with x | x | x
      · exact .inr (.inr x)
      · exact .inr (.inl x)
      · exact .inl x)
    rw [e3]
    walk_at "w"
    refine sub_list (by trivial) (by walk_at "mem") (by decide) (by simp [sizeLine_eq]) (v := .ref m1) rfl ?_
    walk_at "w"
    refine sub_list (by trivial) (by walk_at "mem") hk (by simp [sizeLine_eq]) e1 ?_
    walk_at "w"
    by_cases hf : f = true
    · refine iteT (by rw [hf]; rfl) ?_
      walk_at "w"
      refine sub_list (by trivial) (by walk_at "mem") hk (by simp [sizeLine_eq]) e2 ?_
      exact ⟨by walk_at "pt", if_pos hf⟩
    · refine iteF (by rw [Bool.eq_false_iff.mpr hf]; decide) ?_
      exact ⟨by walk_at "pt", if_neg hf⟩
  rw [agF_R]
  walk_at "w"
  walk_at "sll"
  walk_at "w"
  refine ⟨rU, [u0, u1, u2, u3], _, _, rfl, by walk_at "mem", .int, .none, by simp [sizeLine_eq], fun r2 => ?_⟩
  rw [show slcL [u0, u1, u2, u3] (some 2) none = [u2, u3] from rfl]
  walk_at "w"
  refine CL.hd (law_record_c (n := n + 3) T.toTop4 (as := sts (agR b0 b1 b2)) (rs := [u2, u3]) (by walk_at "mem") (by walk_at "mem") ⟨by have := agR_len b0 b1 b2; simp [sts]; walk_at "om", by simp⟩ fun x dx lu ll hne => ?_)
  walk_at "w"
  have hx : ∀ b : Sto, RecAt ((x, .any (InstO 69 dx)) :: (dx, .any (AttrD [(aRR, .none), (aDE, .none), (aRL, .ref ll), (aUA, .ref lu)])) :: (ll, .list [u2, u3]) :: (lu, .list (sts (agR b0 b1 b2))) :: b) x (agR b0 b1 b2) [u2, u3] := fun b =>
    { dx := dx, m := _, lu := lu, ll := ll, hi := by walk_at "mem", hd := by walk_at "mem", hne := hne, ua := by rfl, rl := by rfl, de := by rfl, rr := by rfl, al := by rfl, hu := by walk_at "mem", hl := by walk_at "mem" }
  refine W.from (h x _ (fun y hy => .tail _ (.tail _ (.tail _ (.tail _ hy)))) (hx base)) ?_
  walk_at "pt"
theorem law_s8 (T : Top5 G) {x1 x2 : Addr} {us1 us2 : List PySem.Str} {rs1 rs2 : List AV} (e1 : RecAt base x1 us1 rs1) (e2 : RecAt base x2 us2 rs2) (hz : us1.length ≤ 100 ∧ us2.length ≤ 100 ∧ rs1.length ≤ 100 ∧ rs2.length ≤ 100)
    (h : ∀ x base', (∀ y ∈ base, y ∈ base') → RecAt base' x (us1.filter fun u => us2.contains u) (rs1 ++ rs2) → EXS G (lawK (n + 6) T L) (lawE T L) (lawD 9) (lawS L nu dr ro ma go (some (.ref x1)) (some (.ref x2)) to (some (.ref l)) na ve fa ru it pa pt du ag mk (some (.ref x)) none none ++ base') Q NoX) :
    EXS G (lawK (n + 6) T L) (lawE T L) (lawD 8) (lawS L nu dr ro ma go (some (.ref x1)) (some (.ref x2)) to (some (.ref l)) na ve fa ru it pa pt du ag mk none none none ++ base) Q NoX := by
  have T1 : Top G := T.toTop
  refine exs_law 8 (by with_unfolding_all rfl) ?_
  walk_at "w"
  refine CL.hd (merge_c (n := n + 1) T.toTop4 (e1.mono fun y hy => by walk_at "mem") (e2.mono fun y hy => by walk_at "mem") hz fun x dx lu ll o1 o2 o3 o4 hne => ?_)
  walk_at "w"
  refine W.from (h x ((x, .any (InstO 69 dx)) :: (dx, .any (AttrD [(aRR, .none), (aDE, .none), (aRL, .ref ll), (aUA, .ref lu), (aRR, o1), (aDE, o2), (aRL, o3), (aUA, o4)])) :: (ll, .list (rs1 ++ rs2)) :: (lu, .list (sts (us1.filter fun u => us2.contains u))) :: base) (fun y hy => .tail _ (.tail _ (.tail _ (.tail _ hy)))) ?_) ?_
  · exact { dx := dx, m := _, lu := lu, ll := ll, hi := by walk_at "mem", hd := by walk_at "mem", hne := hne, ua := by rfl, rl := by rfl, de := by rfl, rr := by rfl, al := by rfl, hu := by walk_at "mem", hl := by walk_at "mem" }
  walk_at "pt"
end
end C26Text
section C27Text
theorem rules_take {σ : Sto} {name : PySem.Str} : ∀ {us : List AV} {rs : List (Int × Bool)} (k : Nat), RulesAt σ name us rs → RulesAt σ name (us.take k) (rs.take k)
  | _, _, 0, _ => by simp only [List.take_zero]; exact .nil
  | _, _, k + 1, .nil => .nil
  | _, _, k + 1, .cons h hr => .cons h (rules_take k hr)
theorem rules_drop {σ : Sto} {name : PySem.Str} : ∀ {us : List AV} {rs : List (Int × Bool)} (k : Nat), RulesAt σ name us rs → RulesAt σ name (us.drop k) (rs.drop k)
  | _, _, 0, h => h
  | _, _, k + 1, .nil => .nil
  | _, _, k + 1, .cons _ hr => rules_drop k hr
theorem fars_take {σ : Sto} {name : PySem.Str} : ∀ {fs : List AV} {gs : List Int} (k : Nat), FarsAt σ name fs gs → FarsAt σ name (fs.take k) (gs.take k)
  | _, _, 0, _ => by simp only [List.take_zero]; exact .nil
  | _, _, k + 1, .nil => .nil
  | _, _, k + 1, .cons hm hv h => .cons hm hv (fars_take k h)
theorem fars_drop {σ : Sto} {name : PySem.Str} : ∀ {fs : List AV} {gs : List Int} (k : Nat), FarsAt σ name fs gs → FarsAt σ name (fs.drop k) (gs.drop k)
  | _, _, 0, h => h
  | _, _, k + 1, .nil => .nil
  | _, _, k + 1, .cons _ _ h => fars_drop k h
theorem fars_up {σ σ' : Sto} {name : PySem.Str} {fs : List AV} {gs : List Int} (h : FarsAt σ name fs gs) (hs : ∀ x ∈ σ, x ∈ σ') : FarsAt σ' name fs gs := by
  induction h with
  | nil => exact .nil
  | cons hm hv _ ih => exact .cons (hs _ hm) hv ih
/-- what the rules say of a name: of two, of four -/
noncomputable def D2 (v w : Bool) (g h : List Nat → Int) (nm : List Nat) : Bool := dueF [v, w] [g nm, h nm]
noncomputable def D4 (v w x y : Bool) (g h i j : List Nat → Int) (nm : List Nat) : Bool := dueF [v, w, x, y] [g nm, h nm, i nm, j nm]
noncomputable def onTx (g : List Nat → Bool) : AV → Option AV
  | .str s => some (.bool (g s.cps.toList))
  | _ => none
theorem tx_list (a : List Nat) : (tx a).cps.toList = a := by simp [tx]
theorem onTx_eq (g : List Nat → Bool) (nms : List (List Nat)) : (txs nms).filterMap (onTx g) = bvs (nms.map g) := by
  induction nms with
  | nil => rfl
  | cons a l ih =>
    have e : onTx g (.str (tx a)) = some (.bool (g a)) := by simp [onTx, tx_list]
    rw [show txs (a :: l) = .str (tx a) :: txs l from rfl, List.filterMap_cons, e]
    simp only [ih]; rfl
theorem sm_bools {σ : Sto} {a b : Addr} {l : List Bool} (ha : (a, .list (bvs l)) ∈ σ) (hb : (b, .list (bvs l)) ∈ σ) : Sm σ 1 (.ref a) (.ref b) := by
  refine .list ha hb rfl fun i x y hx hy => ?_
  rw [hx] at hy
  cases hy
  unfold bvs at hx
  rw [List.getElem?_map] at hx
  cases h : l[i]? with
  | none => rw [h] at hx; cases hx
  | some v => rw [h] at hx; cases hx; exact .at .bool
/-- the two ends of the k-th span -/
noncomputable def abOf : Option AV → Option AV × Option AV
  | some (.int 0) => (some (.int 0), some (.int 2))
  | some (.int 1) => (some (.int 2), some (.int 4))
  | some (.int 2) => (some (.int 0), some (.int 4))
  | _ => (none, none)
noncomputable def abB (C : Addr) (o : Option AV) : Sto := [(C + 1 + 1, .cell (abOf o).2), (C + 1, .cell (abOf o).1), (C, .ns [(q_ ".0", none)])]
/-- of a record, what allowance asks -/
noncomputable def RecP (τ : Sto) (x : Addr) (us : List AV) : Prop := ∃ dx ma ll, (x, AO.any (InstO 69 dx)) ∈ τ ∧ (dx, AO.any (AttrD ma)) ∈ τ ∧ dx ≠ x ∧ ma.lookup aRL = some (.ref ll) ∧ ma.lookup aAL = none ∧ (ll, AO.list us) ∈ τ
theorem RecAt.p {σ τ : Sto} {x : Addr} {us : List PySem.Str} {rs : List AV} (r : RecAt σ x us rs) (hs : ∀ y ∈ σ, y ∈ τ) : RecP τ x rs := ⟨r.dx, r.m, r.ll, hs _ r.hi, hs _ r.hd, r.hne, r.rl, r.al, hs _ r.hl⟩
section
variable {G : Gd} {κ : Kx} {env : Env} {σ σ' : Sto} {X : XP} {n : Nat} {L l : Addr} {nu dr ro ma go on tw to na ve fa ru it pa pt du ag mk bo : Option AV} {base : Sto} {Q : AF → Sto → Prop}
theorem law_s9 (T : Top5 G) {x rU u0 u1 u2 u3 : Addr} {us : List PySem.Str} (e : RecAt base x us [.ref u0, .ref u1, .ref u2, .ref u3]) (hU : (rU, .list [.ref u0, .ref u1, .ref u2, .ref u3]) ∈ base)
    (h : ∀ base', (∀ y ∈ base, y ∈ base') → EXS G (lawK (n + 6) T L) (lawE T L) (lawD 10) (lawS L nu dr ro ma go on tw to (some (.ref l)) na ve fa (some (.ref rU)) it pa pt du ag mk (some (.ref x)) none none ++ base') Q NoX) :
    EXS G (lawK (n + 6) T L) (lawE T L) (lawD 9) (lawS L nu dr ro ma go on tw to (some (.ref l)) na ve fa (some (.ref rU)) it pa pt du ag mk (some (.ref x)) none none ++ base) Q NoX := by
  have T1 : Top G := T.toTop
  obtain ⟨dx, m, lu, ll, hi, hd, hne, ua, rl, de, rr, al, hu, hl⟩ := e
  refine exs_law 9 (by with_unfolding_all rfl) ?_
  walk_at "w"
  refine ev_attr_inst T.c rfl (by simp [attrNames]) ?_
  walk_at "w"
  refine ⟨x, dx, m, .ref ll, rfl, by walk_at "mem", by walk_at "mem", hne, rl, trivial, ?_⟩
  walk_at "w"
  walk_at "if"
  walk_at "w"
  walk_at "lc"
  walk_at "w"
  refine ⟨.rng 0 1, _, ⟨_, _, rfl, by walk_at "mem", rfl⟩, by walk_at "sz", fun _a => none, ?_, fun r => ?_⟩
  · intro r C y done hy
    obtain ⟨k, hk, rfl⟩ := mem_rng01 hy
    have hk4 : k < 4 := by walk_at "om"
    obtain ⟨u, hu⟩ : ∃ u : Addr, [AV.ref u0, .ref u1, .ref u2, .ref u3][k]? = some (.ref u) := by
      rcases k with _ | _ | _ | _ | k
      · exact ⟨_, rfl⟩
      · exact ⟨_, rfl⟩
      · exact ⟨_, rfl⟩
      · exact ⟨_, rfl⟩
      · walk_at "om"
    walk_at "w"
    refine ev_attr_inst T.c rfl (by simp [attrNames]) ?_
    walk_at "w"
    refine ⟨x, dx, m, .ref ll, rfl, by walk_at "mem", by walk_at "mem", hne, rl, trivial, ?_⟩
    walk_at "w"
    refine sub_list (by trivial) (by walk_at "mem") (by walk_at "om") (by simp [sizeLine_eq]) hu ?_
    walk_at "w"
    refine sub_list (by trivial) (by walk_at "mem") (by walk_at "om") (by simp [sizeLine_eq]) hu ?_
    walk_at "w"
    walk_at "if"
    exact ⟨by walk_at "pt", rfl⟩
  rw [show ∀ l : List AV, l.filterMap (fun _a => (none : Option AV)) = [] from fun l => by simp]
  walk_at "w"
  refine op_ne_list (n := 0) (by show 0 < n + 6; walk_at "om") (by decide) (xs := []) (ys := []) (by walk_at "mem") (by walk_at "mem") rfl (fun i x y hx _a => by simp at hx) ?_
  walk_at "w"
  walk_at "if"
  walk_at "w"
  refine W.from (h base fun _a hy => hy) ?_
  walk_at "pt"
inductive S10R (base τ : Sto) (nms : List (List Nat)) (y : AV) (c : List AV) : Prop
  | mk (x : Addr) (us : List AV) (rs : List Nat → List (Int × Bool)) (f : List Nat → Bool) (hy : y = .ref x) (hc : c = bvs (nms.map f)) (hp : RecP τ x us) (hru : ∀ nm ∈ nms, RulesAt base (tx nm) us (rs nm) ∧ allowF (rs nm) (-1) true = f nm)
theorem s10_row {x1 x2 x3 : Addr} {nms : List (List Nat)} {u0 u1 u2 u3 : AV} {g0 g1 g2 g3 : List Nat → Int} {v0 v1 v2 v3 : Bool} {us1 us2 us3 : List PySem.Str} {τ : Sto} {i : Nat} {y : AV} {c : List AV} (e1 : RecAt base x1 us1 [u0, u1]) (e2 : RecAt base x2 us2 [u2, u3]) (e3 : RecAt base x3 us3 [u0, u1, u2, u3])
    (hr : ∀ nm ∈ nms, RulesAt base (tx nm) [u0, u1, u2, u3] [(g0 nm, v0), (g1 nm, v1), (g2 nm, v2), (g3 nm, v3)]) (hg : ∀ nm, 0 ≤ g0 nm ∧ 0 ≤ g1 nm ∧ 0 ≤ g2 nm ∧ 0 ≤ g3 nm) (fb : ∀ z ∈ base, z ∈ τ) (hy : [AV.ref x1, .ref x2, .ref x3][i]? = some y)
    (hc : [bvs (nms.map (D2 v0 v1 g0 g1)), bvs (nms.map (D2 v2 v3 g2 g3)), bvs (nms.map (D4 v0 v1 v2 v3 g0 g1 g2 g3))][i]? = some c) : S10R base τ nms y c := by
  have nn : ∀ (nm : List Nat) (gs : List Int), (∀ g ∈ gs, g = g0 nm ∨ g = g1 nm ∨ g = g2 nm ∨ g = g3 nm) → ∀ g ∈ gs, 0 ≤ g := fun nm gs hs g hgm => by
    obtain ⟨q0, q1, q2, q3⟩ := hg nm
    rcases hs g hgm with rfl | rfl | rfl | rfl <;> assumption
  rcases i with _ | _ | _ | i
  · cases hy; cases hc
    exact ⟨x1, _, fun nm => [(g0 nm, v0), (g1 nm, v1)], _, rfl, rfl, e1.p fb, fun nm hnm => ⟨rules_take 2 (hr nm hnm), allow_due [v0, v1] [g0 nm, g1 nm] rfl (nn nm _ (by simp))⟩⟩
  · cases hy; cases hc
    exact ⟨x2, _, fun nm => [(g2 nm, v2), (g3 nm, v3)], _, rfl, rfl, e2.p fb, fun nm hnm => ⟨rules_drop 2 (hr nm hnm), allow_due [v2, v3] [g2 nm, g3 nm] rfl (nn nm _ (by simp))⟩⟩
  · cases hy; cases hc
    exact ⟨x3, _, fun nm => [(g0 nm, v0), (g1 nm, v1), (g2 nm, v2), (g3 nm, v3)], _, rfl, rfl, e3.p fb, fun nm hnm => ⟨hr nm hnm, allow_due [v0, v1, v2, v3] [g0 nm, g1 nm, g2 nm, g3 nm] rfl (nn nm _ (by simp))⟩⟩
  · cases hy
theorem three_of {ts : List Addr} (h : ts.length = 3) : ∃ a b c, ts = [a, b, c] := by
  match ts, h with
  | [a, b, c], _ => exact ⟨a, b, c, rfl⟩
theorem sm3 {a b c d e f : AV} {τ : Sto} {n : Nat} (h1 : Sm τ n a d) (h2 : Sm τ n b e) (h3 : Sm τ n c f) : ∀ (i : Nat) (x y : AV), [a, b, c][i]? = some x → [d, e, f][i]? = some y → Sm τ n x y := fun i x y hx hy => by
  rcases i with _ | _ | _ | i
  · cases hx; cases hy; exact h1
  · cases hx; cases hy; exact h2
  · cases hx; cases hy; exact h3
  · cases hx
set_option tactic.hygienic true in
theorem law_s10 (T : Top5 G) {x1 x2 x3 rN : Addr} {nms : List (List Nat)} {u0 u1 u2 u3 : AV} {g0 g1 g2 g3 : List Nat → Int} {v0 v1 v2 v3 : Bool} {us1 us2 us3 : List PySem.Str} (e1 : RecAt base x1 us1 [u0, u1]) (e2 : RecAt base x2 us2 [u2, u3]) (e3 : RecAt base x3 us3 [u0, u1, u2, u3])
    (hN : (rN, .list (txs nms)) ∈ base) (h6 : nms.length = 6) (hr : ∀ nm ∈ nms, RulesAt base (tx nm) [u0, u1, u2, u3] [(g0 nm, v0), (g1 nm, v1), (g2 nm, v2), (g3 nm, v3)])
    (hg : ∀ nm, 0 ≤ g0 nm ∧ 0 ≤ g1 nm ∧ 0 ≤ g2 nm ∧ 0 ≤ g3 nm)
    (h : ∀ rT t0 t1 t2, EXS G (lawK (n + 6) T L) (lawE T L) (lawD 11) (lawS L nu dr ro ma go (some (.ref x1)) (some (.ref x2)) (some (.ref rT)) (some (.ref l)) (some (.ref rN)) ve fa ru it pa pt du ag mk (some (.ref x3)) none none ++
      ((rT, .list [.ref t0, .ref t1, .ref t2]) :: (t0, .list (bvs (nms.map (D2 v0 v1 g0 g1)))) :: (t1, .list (bvs (nms.map (D2 v2 v3 g2 g3)))) :: (t2, .list (bvs (nms.map (D4 v0 v1 v2 v3 g0 g1 g2 g3)))) :: base)) Q NoX) :
    EXS G (lawK (n + 6) T L) (lawE T L) (lawD 10) (lawS L nu dr ro ma go (some (.ref x1)) (some (.ref x2)) to (some (.ref l)) (some (.ref rN)) ve fa ru it pa pt du ag mk (some (.ref x3)) none none ++ base) Q NoX := by
  have T1 : Top G := T.toTop
  have hz6 : (txs nms).length ≤ sizeLine := by simp [txs, sizeLine_eq, h6]
  refine exs_law 10 (by with_unfolding_all rfl) ?_
  dsimp only [List.cons_append, List.nil_append]
  refine' hide [(L, _), (L + 2, _), (L + 12, _)] base ?p1 ?p2 ?k
  (((case p1 => walk_at "hd"); (case p2 => (intro x hx; walk_at "mem"))))
  intro R hR hB
  refine ex_assign_rows rfl (cl := _) rfl rfl (by decide +kernel) (by decide +kernel) (fun _a => rfl) rfl (fun C o => [(C + 1, .cell o), (C, .ns [(q_ ".0", none)])]) (fun C σ => rfl)
    [bvs (nms.map (D2 v0 v1 g0 g1)), bvs (nms.map (D2 v2 v3 g2 g3)), bvs (nms.map (D4 v0 v1 v2 v3 g0 g1 g2 g3))] ?_
  walk_at "w"
  rename_i ll
  refine ⟨.lst ll, [.ref x1, .ref x2, .ref x3], ⟨rfl, by walk_at "mem"⟩, by walk_at "mem", rfl, by simp, ?_, fun r ts hts C o => ?_⟩
  rotate_left
  · obtain ⟨t0, t1, t2, rfl⟩ := three_of hts
    simp only [rowsS, List.zip_cons_cons, List.zip_nil_right, List.reverse_cons, List.reverse_nil, List.nil_append, List.cons_append, List.map_cons, List.map_nil]
    walk_at "w"
    refine ⟨_, _, _, by walk_at "rm", .refl _, ?_⟩
    subst hR
    refine W.from (h r t0 t1 t2) ?_
    walk_at "pt"
  · intro r C o i y c done τ hb hy hc
    have fN : (L + 1 + 1, AO.cell (some (.ref rN))) ∈ τ := hb _ (by walk_at "mem")
    have fb : ∀ z ∈ base, z ∈ τ := fun z hz => by
      have := hB z hz
      exact hb _ (by walk_at "mem")
    clear hb
    obtain ⟨x, us, rs, f, rfl, rfl, ⟨dx, ma, ll, hi, hd, hne, rl, al, hl⟩, hru⟩ := s10_row (τ := τ) e1 e2 e3 hr hg fb hy hc
    have hN' := fb _ hN
    walk_at "w"
    walk_at "lc"
    walk_at "w"
    refine ⟨.lst rN, txs nms, ⟨rfl, by walk_at "mem"⟩, hz6, onTx f, ?_, fun r1 => ?_⟩
    · intro r C y done hy
      obtain ⟨nm, hnm, rfl⟩ := List.mem_map.mp hy
      obtain ⟨hr1, hr2⟩ := hru nm hnm
      walk_at "w"
      walk_at "if"
      walk_at "w"
      refine ev_meth_gm rfl rfl rfl rfl ?_
      walk_at "w"
      obtain ⟨fo, ho, hcl⟩ := T.f66
      refine gm_inst T.c (by walk_at "mem") (by walk_at "mem") hne al ho hcl ?_
      walk_at "w"
      refine ⟨kp_fn T.m66, ?_⟩
      refine CL.hd (allowance_c (n := n + 4) T.toTop4 (rs := rs nm) (by walk_at "mem") (by walk_at "mem") hne rl (by walk_at "mem") (hr1.mono fun z hz => by have := fb z hz; walk_at "mem") ?_)
      refine ⟨by walk_at "pt", ?_⟩
      show some (AV.bool (f (tx nm).cps.toList)) = some (AV.bool _)
      rw [tx_list, hr2]
    rw [onTx_eq]
    exact ⟨some (.ref x), r1, rfl, by walk_at "pt"⟩
inductive S11R (fs0 : List AV) (vs0 : List Bool) (base τ : Sto) (nms : List (List Nat)) (y : AV) (c : List AV) : Prop
  | mk (p : Addr) (a b k : Int) (fs : List AV) (vs : List Bool) (gs : List Nat → List Int) (f : List Nat → Bool) (hk : abOf (some (.int k)) = (some (.int a), some (.int b))) (hy : y = .ref p) (hc : c = bvs (nms.map f)) (hp : (p, AO.tup [.int a, .int b]) ∈ τ)
    (hfs : slcL fs0 (some a) (some b) = fs) (hvs : slcL (bvs vs0) (some a) (some b) = bvs vs) (hgl : ∀ nm, vs.length = (gs nm).length ∧ (gs nm).length ≤ 64) (hru : ∀ nm ∈ nms, FarsAt base (tx nm) fs (gs nm) ∧ dueF vs (gs nm) = f nm)
theorem s11_row {p0 p1 p2 : Addr} {nms : List (List Nat)} {f0 f1 f2 f3 : AV} {g0 g1 g2 g3 : List Nat → Int} {v0 v1 v2 v3 : Bool} {τ : Sto} {i : Nat} {y : AV} {c : List AV} (hf : ∀ nm ∈ nms, FarsAt base (tx nm) [f0, f1, f2, f3] [g0 nm, g1 nm, g2 nm, g3 nm])
    (m0 : (p0, AO.tup [.int 0, .int 2]) ∈ τ) (m1 : (p1, AO.tup [.int 2, .int 4]) ∈ τ) (m2 : (p2, AO.tup [.int 0, .int 4]) ∈ τ) (hy : [AV.ref p0, .ref p1, .ref p2][i]? = some y)
    (hc : [bvs (nms.map (D2 v0 v1 g0 g1)), bvs (nms.map (D2 v2 v3 g2 g3)), bvs (nms.map (D4 v0 v1 v2 v3 g0 g1 g2 g3))][i]? = some c) : S11R [f0, f1, f2, f3] [v0, v1, v2, v3] base τ nms y c := by
  rcases i with _ | _ | _ | i
  · cases hy; cases hc
    exact ⟨p0, 0, 2, 0, _, [v0, v1], fun nm => [g0 nm, g1 nm], _, rfl, rfl, rfl, m0, rfl, rfl, fun nm => ⟨rfl, by simp⟩, fun nm hnm => ⟨fars_take 2 (hf nm hnm), rfl⟩⟩
  · cases hy; cases hc
    exact ⟨p1, 2, 4, 1, _, [v2, v3], fun nm => [g2 nm, g3 nm], _, rfl, rfl, rfl, m1, rfl, rfl, fun nm => ⟨rfl, by simp⟩, fun nm hnm => ⟨fars_drop 2 (hf nm hnm), rfl⟩⟩
  · cases hy; cases hc
    exact ⟨p2, 0, 4, 2, _, [v0, v1, v2, v3], fun nm => [g0 nm, g1 nm, g2 nm, g3 nm], _, rfl, rfl, rfl, m2, rfl, rfl, fun nm => ⟨rfl, by simp⟩, fun nm hnm => ⟨hf nm hnm, rfl⟩⟩
  · cases hy
set_option tactic.hygienic true in
theorem law_s11 (T : Top5 G) {rN rF rV rT t0 t1 t2 : Addr} {nms : List (List Nat)} {f0 f1 f2 f3 : AV} {g0 g1 g2 g3 : List Nat → Int} {v0 v1 v2 v3 : Bool}
    (hN : (rN, .list (txs nms)) ∈ base) (h6 : nms.length = 6) (hF : (rF, .list [f0, f1, f2, f3]) ∈ base) (hV : (rV, .list (bvs [v0, v1, v2, v3])) ∈ base) (hf : ∀ nm ∈ nms, FarsAt base (tx nm) [f0, f1, f2, f3] [g0 nm, g1 nm, g2 nm, g3 nm])
    (hT : (rT, .list [.ref t0, .ref t1, .ref t2]) ∈ base) (h0 : (t0, .list (bvs (nms.map (D2 v0 v1 g0 g1)))) ∈ base) (h1 : (t1, .list (bvs (nms.map (D2 v2 v3 g2 g3)))) ∈ base) (h2 : (t2, .list (bvs (nms.map (D4 v0 v1 v2 v3 g0 g1 g2 g3)))) ∈ base)
    (h : EXS G (lawK (n + 6) T L) (lawE T L) (lawD 12) (lawS L nu dr ro ma go on tw (some (.ref rT)) (some (.ref l)) (some (.ref rN)) (some (.ref rV)) (some (.ref rF)) ru it pa pt du ag mk bo none none ++ base) Q NoX) :
    EXS G (lawK (n + 6) T L) (lawE T L) (lawD 11) (lawS L nu dr ro ma go on tw (some (.ref rT)) (some (.ref l)) (some (.ref rN)) (some (.ref rV)) (some (.ref rF)) ru it pa pt du ag mk bo none none ++ base) Q NoX := by
  have T1 : Top G := T.toTop
  have hz6 : (txs nms).length ≤ sizeLine := by simp [txs, sizeLine_eq, h6]
  refine exs_law 11 (by with_unfolding_all rfl) ?_
  dsimp only [List.cons_append, List.nil_append]
  refine' hide [(L, _), (L + 2, _), (L + 3, _), (L + 4, _)] base ?p1 ?p2 ?k
  (((case p1 => walk_at "hd"); (case p2 => (intro x hx; walk_at "mem"))))
  intro R hR hB
  have eT := hB _ hT
  have e0 := hB _ h0
  have e1 := hB _ h1
  have e2 := hB _ h2
  walk_at "w"
  refine lc_rows rfl (cl := _) rfl rfl (by decide +kernel) (by decide +kernel) (fun _a => rfl) abB (fun C σ => rfl) (fun C o τ => ⟨_, _, .there (.there .here), .cons _ (.cons _ (.refl _))⟩)
    [bvs (nms.map (D2 v0 v1 g0 g1)), bvs (nms.map (D2 v2 v3 g2 g3)), bvs (nms.map (D4 v0 v1 v2 v3 g0 g1 g2 g3))] ?_
  walk_at "w"
  rename_i p0 p1 p2 ll
  refine ⟨.lst ll, [.ref p0, .ref p1, .ref p2], ⟨rfl, by walk_at "mem"⟩, by walk_at "mem", rfl, by simp, ?_, fun r ts hts => ?_⟩
  rotate_left
  · obtain ⟨r1, r2, r3, rfl⟩ := three_of hts
    simp only [rowsS, List.zip_cons_cons, List.zip_nil_right, List.reverse_cons, List.reverse_nil, List.nil_append, List.cons_append, List.map_cons, List.map_nil]
    walk_at "w"
    refine op_ne_list (n := 1) (Nat.succ_pos _) (by decide) (xs := [.ref t0, .ref t1, .ref t2]) (ys := [.ref r1, .ref r2, .ref r3]) (by walk_at "mem") (by walk_at "mem") rfl (sm3 (sm_bools (by walk_at "mem") (by walk_at "mem")) (sm_bools (by walk_at "mem") (by walk_at "mem")) (sm_bools (by walk_at "mem") (by walk_at "mem"))) ?_
    walk_at "w"
    walk_at "if"
    walk_at "w"
    subst hR
    refine W.from h ?_
    walk_at "pt"
  · intro r C o i y c done τ hb hy hc
    have fN : (L + 1 + 1, AO.cell (some (.ref rN))) ∈ τ := hb _ (by walk_at "mem")
    have fV : (L + 1 + 1 + 1, AO.cell (some (.ref rV))) ∈ τ := hb _ (by walk_at "mem")
    have fF : (L + 1 + 1 + 1 + 1, AO.cell (some (.ref rF))) ∈ τ := hb _ (by walk_at "mem")
    have fb : ∀ z ∈ base, z ∈ τ := fun z hz => by
      have := hB z hz
      exact hb _ (by walk_at "mem")
    obtain ⟨p, a, b, k, fs, vs, gs, f, hk, rfl, rfl, hp, hfs, hvs, hgl, hru⟩ := s11_row (τ := τ) hf (hb _ (by walk_at "mem")) (hb _ (by walk_at "mem")) (hb _ (by walk_at "mem")) hy hc
    clear hb
    have hN' := fb _ hN
    have hF' := fb _ hF
    have hV' := fb _ hV
    unfold abB
    walk_at "w"
    walk_at "lc"
    walk_at "w"
    refine ⟨.lst rN, txs nms, ⟨rfl, by walk_at "mem"⟩, hz6, onTx f, ?_, fun r1 => ?_⟩
    · intro r C y done hy
      obtain ⟨nm, hnm, rfl⟩ := List.mem_map.mp hy
      obtain ⟨hr1, hr2⟩ := hru nm hnm
      obtain ⟨hg1, hg2⟩ := hgl nm
      walk_at "w"
      walk_at "if"
      walk_at "w"
      walk_at "sll"
      walk_at "w"
      refine ⟨rF, _, _, _, rfl, by walk_at "mem", .int, .int, by simp [sizeLine_eq], fun r5 => ?_⟩
      rw [hfs]
      walk_at "w"
      walk_at "sll"
      walk_at "w"
      refine ⟨rV, _, _, _, rfl, by walk_at "mem", .int, .int, by simp [sizeLine_eq, bvs], fun r6 => ?_⟩
      rw [hvs]
      walk_at "w"
      refine CL.hd (law_due_c (n := n + 4) T1 (fs := fs) (gs := gs nm) (vs := vs) (by walk_at "mem") (fars_up hr1 fun z hz => by have := fb z hz; walk_at "mem") (by walk_at "mem") hg1 hg2 ?_)
      refine ⟨by walk_at "pt", ?_⟩
      show some (AV.bool (f (tx nm).cps.toList)) = some (AV.bool _)
      rw [tx_list, hr2]
    rw [onTx_eq]
    refine ⟨some (.int k), r1, rfl, ?_⟩
    rw [hk]
    walk_at "pt"
end
end C27Text
section C28Text
theorem agents_both : ∀ a0 a1 a2 b0 b1 b2 : Bool, (agL a0 a1 a2).filter (fun u => (agR b0 b1 b2).contains u) = agL (a0 && b0) (a1 && b1) (a2 && b2) := by decide +kernel
theorem sm_strs {σ : Sto} {n : Nat} (l : List PySem.Str) : ∀ (i : Nat) (x y : AV), (sts l)[i]? = some x → (sts l)[i]? = some y → Sm σ n x y := fun i x y hx hy => by
  rw [hx] at hy
  cases hy
  unfold sts at hx
  rw [List.getElem?_map] at hx
  cases h : l[i]? with
  | none => rw [h] at hx; cases hx
  | some v => rw [h] at hx; cases hx; exact .at .str
noncomputable def selF (nms : List (List Nat)) (f : List Nat → Bool) : AV → Option AV
  | .int k => match nms[k.toNat]? with
    | some nm => if f nm then some (.str (tx nm)) else none
    | none => none
  | _ => none
theorem fm_sel (f : List Nat → Bool) : ∀ nms : List (List Nat), nms.filterMap (fun nm => if f nm then some (AV.str (tx nm)) else none) = txs (nms.filter f)
  | [] => rfl
  | a :: l => by
    have ih := fm_sel f l
    rw [List.filterMap_cons, List.filter_cons]
    cases h : f a
    · simpa using ih
    · simp only [if_true]
      rw [ih]; rfl
theorem sel_eq (f : List Nat → Bool) (nms : List (List Nat)) (h : nms.length = 6) : (rngL 0 1 6).filterMap (selF nms f) = txs (nms.filter f) := by
  match nms, h with
  | [a, b, c, d, e, g], _ => exact fm_sel f [a, b, c, d, e, g]
section
variable {G : Gd} {κ : Kx} {env : Env} {σ σ' : Sto} {X : XP} {n : Nat} {L l : Addr} {nu dr ro ma go on tw to na ve fa ru it pa pt du ag mk bo : Option AV} {base : Sto} {Q : AF → Sto → Prop}
theorem cr_none {target : PySem.Expr} {ifs : List PySem.Expr} {R : Sto → (Sto → Prop) → Prop} {sr : Sr} {xs : List AV} {K : Sto → Prop} {S : Option AV → Sto} (hs : ∀ o, SrOk sr xs (S o)) (hK : ∀ o, K (S o))
    (step : ∀ o y, y ∈ xs → ASG G κ env target y (S o) (fun σ₁ => TSS G κ env ifs σ₁ (fun b σ₂ => b = false ∧ ∃ o', σ₂ = S o') NoX) NoX) : ∀ (ys : List AV) (o : Option AV), (∀ y ∈ ys, y ∈ xs) → CR G κ env target ifs R sr xs K ys (S o)
  | [], o, _ => cr_nil (hs o) (hK o)
  | y :: ys, o, hy => cr_cons (hs o) (asg_mono (step o y (hy y (.head _))) fun σ₁ h => W.post h fun b σ₂ q => by
      obtain ⟨rfl, o', rfl⟩ := q
      exact cr_none hs hK step ys o' fun z hz => hy z (.tail _ hz))
theorem law_s12 (T : Top5 G) {rT rA rM m0 m1 t0 t1 t2 x : Addr} {l0 l1 l2 : List Bool} {a0 a1 a2 b0 b1 b2 : Bool} {rs : List AV} (hT : (rT, .list [.ref t0, .ref t1, .ref t2]) ∈ base) (h0 : (t0, .list (bvs l0)) ∈ base) (h1 : (t1, .list (bvs l1)) ∈ base) (h2 : (t2, .list (bvs l2)) ∈ base)
    (hz : l0.length + l1.length + l2.length ≤ 100) (e : RecAt base x ((agL a0 a1 a2).filter fun u => (agR b0 b1 b2).contains u) rs)
    (hA : (rA, .list figs) ∈ base) (hM : (rM, .list [.ref m0, .ref m1]) ∈ base) (hm0 : (m0, .list [bi a0, bi a1, bi a2]) ∈ base) (hm1 : (m1, .list [bi b0, bi b1, bi b2]) ∈ base)
    (h : EXS G (lawK (n + 6) T L) (lawE T L) (lawD 13) (lawS L nu dr ro ma go on tw (some (.ref rT)) (some (.ref l)) na ve fa ru it pa pt du (some (.ref rA)) (some (.ref rM)) (some (.ref x)) none none ++ base) Q NoX) :
    EXS G (lawK (n + 6) T L) (lawE T L) (lawD 12) (lawS L nu dr ro ma go on tw (some (.ref rT)) (some (.ref l)) na ve fa ru it pa pt du (some (.ref rA)) (some (.ref rM)) (some (.ref x)) none none ++ base) Q NoX := by
  have T1 : Top G := T.toTop
  obtain ⟨dx, m, lu, ll, hi, hd, hne, ua, rl, de, rr, al, hu, hl⟩ := e
  rw [agents_both] at hu
  refine exs_law 12 (by with_unfolding_all rfl) ?_
  walk_at "w"
  refine ev_lc2 rfl (cl := _) rfl rfl (by decide +kernel) (by decide +kernel) (fun _a => rfl) (fun _a _b => rfl) ?_
  walk_at "w"
  refine ⟨.lst rT, [.ref t0, .ref t1, .ref t2], ⟨rfl, by walk_at "mem"⟩, fun r C => ?_⟩
  simp only [lay_nil, lay_local, lay_cell, lay_global, lay_free, layC_nil, layC_local, layC_cell, layC_global, layC_free]
  refine cr_cons (by walk_at "mem") ?_
  walk_at "w"
  refine iteT rfl ?_
  try unfold IN
  walk_at "w"
  refine ⟨.lst t0, bvs l0, ⟨rfl, by walk_at "mem"⟩, ?_⟩
  refine cr_none (S := fun o => (C, .ns [(q_ ".0", none), (q_ "row", some (.ref t0)), (q_ "answer", o)]) :: (r, .list []) :: (lawS L nu dr ro ma go on tw (some (.ref rT)) (some (.ref l)) na ve fa ru it pa pt du (some (.ref rA)) (some (.ref rM)) (some (.ref x)) none none ++ base)) (fun o => by walk_at "mem") (fun o0 => ?_) (fun o y hy => ?_) _ _ (fun y hy => hy)
  rotate_left
  · obtain ⟨v, hv, rfl⟩ := List.mem_map.mp hy
    walk_at "w"
    refine cl_type_bool ?_
    walk_at "w"
    refine op_isnot_ty ?_
    walk_at "w"
    exact ⟨rfl, some (.bool v), rfl⟩
  refine cr_cons (by walk_at "mem") ?_
  walk_at "w"
  refine iteT rfl ?_
  try unfold IN
  walk_at "w"
  refine ⟨.lst t1, bvs l1, ⟨rfl, by walk_at "mem"⟩, ?_⟩
  refine cr_none (S := fun o => (C, .ns [(q_ ".0", none), (q_ "row", some (.ref t1)), (q_ "answer", o)]) :: (r, .list []) :: (lawS L nu dr ro ma go on tw (some (.ref rT)) (some (.ref l)) na ve fa ru it pa pt du (some (.ref rA)) (some (.ref rM)) (some (.ref x)) none none ++ base)) (fun o => by walk_at "mem") (fun o1 => ?_) (fun o y hy => ?_) _ _ (fun y hy => hy)
  rotate_left
  · obtain ⟨v, hv, rfl⟩ := List.mem_map.mp hy
    walk_at "w"
    refine cl_type_bool ?_
    walk_at "w"
    refine op_isnot_ty ?_
    walk_at "w"
    exact ⟨rfl, some (.bool v), rfl⟩
  refine cr_cons (by walk_at "mem") ?_
  walk_at "w"
  refine iteT rfl ?_
  try unfold IN
  walk_at "w"
  refine ⟨.lst t2, bvs l2, ⟨rfl, by walk_at "mem"⟩, ?_⟩
  refine cr_none (S := fun o => (C, .ns [(q_ ".0", none), (q_ "row", some (.ref t2)), (q_ "answer", o)]) :: (r, .list []) :: (lawS L nu dr ro ma go on tw (some (.ref rT)) (some (.ref l)) na ve fa ru it pa pt du (some (.ref rA)) (some (.ref rM)) (some (.ref x)) none none ++ base)) (fun o => by walk_at "mem") (fun o2 => ?_) (fun o y hy => ?_) _ _ (fun y hy => hy)
  rotate_left
  · obtain ⟨v, hv, rfl⟩ := List.mem_map.mp hy
    walk_at "w"
    refine cl_type_bool ?_
    walk_at "w"
    refine op_isnot_ty ?_
    walk_at "w"
    exact ⟨rfl, some (.bool v), rfl⟩
  refine cr_nil (by walk_at "mem") ?_
  refine ⟨_, _, _, by walk_at "rm", .refl _, ?_⟩
  walk_at "w"
  refine op_ne_list (n := 0) (by show 0 < n + 6; walk_at "om") (by decide) (xs := []) (ys := []) (by walk_at "mem") (by walk_at "mem") rfl (fun i x y hx _a => by simp at hx) ?_
  walk_at "w"
  walk_at "if"
  walk_at "w"
  refine ev_attr_inst T.c rfl (by simp [attrNames]) ?_
  walk_at "w"
  refine ⟨x, dx, m, .ref lu, rfl, by walk_at "mem", by walk_at "mem", hne, ua, trivial, ?_⟩
  walk_at "w"
  walk_at "lc"
  walk_at "w"
  refine ⟨.lst _, [.int 0, .int 1, .int 2], ⟨rfl, by walk_at "mem"⟩, by simp [sizeLine_eq], agF (a0 && b0) (a1 && b1) (a2 && b2), ?_, fun r5 => ?_⟩
  · intro r C y done hy
    simp only [List.mem_cons, List.not_mem_nil, or_false] at hy
    rcases hy with rfl | rfl | rfl
    all_goals
      walk_at "w"
      refine sub_list (by trivial) (by walk_at "mem") (by decide) (by simp [sizeLine_eq]) (v := .ref m0) rfl ?_
      walk_at "w"
    · refine sub_list (by trivial) (by walk_at "mem") (by decide) (by simp [sizeLine_eq]) (v := bi a0) rfl ?_
      walk_at "w"
      refine sub_list (by trivial) (by walk_at "mem") (by decide) (by simp [sizeLine_eq]) (v := .ref m1) rfl ?_
      walk_at "w"
      refine sub_list (by trivial) (by walk_at "mem") (by decide) (by simp [sizeLine_eq]) (v := bi b0) rfl ?_
      walk_at "w"
      refine op_mul (by exact PySem.IntMulOk.of_left (by cases a0 <;> decide)) ?_
      walk_at "w"
      cases hc : (a0 && b0)
      · refine iteF (by revert hc; cases a0 <;> cases b0 <;> decide) ?_
        exact ⟨by walk_at "pt", by simp [agF, hc]⟩
      · refine iteT (by revert hc; cases a0 <;> cases b0 <;> decide) ?_
        walk_at "w"
        refine sub_list (by trivial) (by walk_at "mem") (by decide) (by simp [sizeLine_eq]) rfl ?_
        exact ⟨by walk_at "pt", by simp [agF, hc]⟩
    · refine sub_list (by trivial) (by walk_at "mem") (by decide) (by simp [sizeLine_eq]) (v := bi a1) rfl ?_
      walk_at "w"
      refine sub_list (by trivial) (by walk_at "mem") (by decide) (by simp [sizeLine_eq]) (v := .ref m1) rfl ?_
      walk_at "w"
      refine sub_list (by trivial) (by walk_at "mem") (by decide) (by simp [sizeLine_eq]) (v := bi b1) rfl ?_
      walk_at "w"
      refine op_mul (by exact PySem.IntMulOk.of_left (by cases a1 <;> decide)) ?_
      walk_at "w"
      cases hc : (a1 && b1)
      · refine iteF (by revert hc; cases a1 <;> cases b1 <;> decide) ?_
        exact ⟨by walk_at "pt", by simp [agF, hc]⟩
      · refine iteT (by revert hc; cases a1 <;> cases b1 <;> decide) ?_
        walk_at "w"
        refine sub_list (by trivial) (by walk_at "mem") (by decide) (by simp [sizeLine_eq]) rfl ?_
        exact ⟨by walk_at "pt", by simp [agF, hc]⟩
    · refine sub_list (by trivial) (by walk_at "mem") (by decide) (by simp [sizeLine_eq]) (v := bi a2) rfl ?_
      walk_at "w"
      refine sub_list (by trivial) (by walk_at "mem") (by decide) (by simp [sizeLine_eq]) (v := .ref m1) rfl ?_
      walk_at "w"
      refine sub_list (by trivial) (by walk_at "mem") (by decide) (by simp [sizeLine_eq]) (v := bi b2) rfl ?_
      walk_at "w"
      refine op_mul (by exact PySem.IntMulOk.of_left (by cases a2 <;> decide)) ?_
      walk_at "w"
      cases hc : (a2 && b2)
      · refine iteF (by revert hc; cases a2 <;> cases b2 <;> decide) ?_
        exact ⟨by walk_at "pt", by simp [agF, hc]⟩
      · refine iteT (by revert hc; cases a2 <;> cases b2 <;> decide) ?_
        walk_at "w"
        refine sub_list (by trivial) (by walk_at "mem") (by decide) (by simp [sizeLine_eq]) rfl ?_
        exact ⟨by walk_at "pt", by simp [agF, hc]⟩
  rw [agF_L]
  walk_at "w"
  refine op_ne_list (n := 0) (by show 0 < n + 6; walk_at "om") (by decide) (by walk_at "mem") (by walk_at "mem") rfl (sm_strs _) ?_
  walk_at "w"
  walk_at "if"
  walk_at "w"
  refine W.from h ?_
  walk_at "pt"
end
end C28Text
section C29Text
theorem txs_sts (nms : List (List Nat)) : txs nms = sts (nms.map tx) := by simp [txs, sts]
noncomputable def ninF (bs : List PySem.Str) : AV → Option AV
  | .str s => if bs.contains s then none else some (.str s)
  | _ => none
theorem nin_eq (bs : List PySem.Str) : ∀ as : List PySem.Str, (sts as).filterMap (ninF bs) = sts (as.filter fun a => !bs.contains a)
  | [] => rfl
  | a :: as => by
    have ih := nin_eq bs as
    rw [show sts (a :: as) = .str a :: sts as from rfl, List.filterMap_cons, List.filter_cons, ih]
    cases h : bs.contains a
    · simp only [ninF, h]; rfl
    · simp only [ninF, h]; rfl
theorem any_str (s : PySem.Str) : ∀ bs : List PySem.Str, (sts bs).any (fun v => match v with | .str t => t == s | _ => false) = bs.contains s
  | [] => rfl
  | b :: bs => by
    have ih := any_str s bs
    rw [show sts (b :: bs) = .str b :: sts bs from rfl, List.any_cons, ih, List.contains_cons]
    congr 1
    by_cases h : b = s
    · subst h; simp
    · have : ¬ s = b := fun e => h e.symm
      show (b == s) = (s == b)
      rw [beq_eq_false_iff_ne.mpr h, beq_eq_false_iff_ne.mpr this]
section
variable {G : Gd} {κ : Kx} {env : Env} {σ σ' : Sto} {X : XP} {n : Nat} {L l : Addr} {nu dr ro ma go on tw to na ve fa ru it pa pt du ag mk bo : Option AV} {base : Sto} {Q : AF → Sto → Prop}
set_option tactic.hygienic true in
theorem law_s13 (T : Top5 G) {rT rN t0 t1 t2 : Addr} {nms : List (List Nat)} {p q : List Nat → Bool} (hN : (rN, .list (txs nms)) ∈ base) (h6 : nms.length = 6) (hT : (rT, .list [.ref t0, .ref t1, .ref t2]) ∈ base)
    (h0 : (t0, .list (bvs (nms.map p))) ∈ base) (h2 : (t2, .list (bvs (nms.map q))) ∈ base)
    (h : ∀ r1 r2, EXS G (lawK (n + 6) T L) (lawE T L) (lawD 14) (lawS L nu dr ro ma go on tw (some (.ref rT)) (some (.ref l)) (some (.ref rN)) ve fa ru it pa pt du ag mk bo (some (.ref r1)) (some (.ref r2)) ++
      ((r1, .list (txs (nms.filter p))) :: (r2, .list (txs (nms.filter q))) :: base)) Q NoX) :
    EXS G (lawK (n + 6) T L) (lawE T L) (lawD 13) (lawS L nu dr ro ma go on tw (some (.ref rT)) (some (.ref l)) (some (.ref rN)) ve fa ru it pa pt du ag mk bo none none ++ base) Q NoX := by
  have T1 : Top G := T.toTop
  have hz6 : (txs nms).length ≤ sizeLine := by simp [txs, sizeLine_eq, h6]
  have hzb : ∀ f : List Nat → Bool, (bvs (nms.map f)).length ≤ sizeLine := fun f => by simp [bvs, sizeLine_eq, h6]
  have hk6 : ∀ k < 6, ∃ nm, nms[k]? = some nm := fun k hk => ⟨_, List.getElem?_eq_getElem (by walk_at "om")⟩
  refine exs_law 13 (by with_unfolding_all rfl) ?_
  walk_at "w"
  refine ev_listcomp rfl (cl := _) rfl rfl (by decide +kernel) (by decide +kernel) (fun _a => rfl) ?_
  unfold LC
  walk_at "w"
  refine sub_list (by trivial) (by walk_at "mem") (by decide) (by simp [sizeLine_eq]) (v := .ref t0) rfl ?_
  walk_at "w"
  refine sub_list (by trivial) (by walk_at "mem") (by decide) (by simp [sizeLine_eq]) (v := .ref t2) rfl ?_
  walk_at "w"
  rename_i ll
  refine ⟨.lst ll, [.ref t0, .ref t2], ⟨rfl, by walk_at "mem"⟩, fun r C => ?_⟩
  simp only [lay_nil, lay_local, lay_cell, lay_global, lay_free, layC_nil, layC_local, layC_cell, layC_global, layC_free]
  refine cr_cons (by walk_at "mem") ?_
  walk_at "w"
  refine iteT rfl (el_of ?_)
  walk_at "w"
  walk_at "lc"
  walk_at "w"
  refine ⟨.rng 0 1, _, ⟨_, _, rfl, by walk_at "mem", rfl⟩, by walk_at "sz", selF nms p, ?_, fun r1 => ?_⟩
  · intro r C y done hy
    obtain ⟨k, hk, rfl⟩ := mem_rng01 hy
    have hk6' : k < 6 := by walk_at "om"
    obtain ⟨nm, hnm⟩ := hk6 k hk6'
    walk_at "w"
    refine sub_list (by trivial) (by walk_at "mem") (by walk_at "om") (hzb _) (v := .bool (p nm)) (by simp [bvs, hnm]) ?_
    walk_at "w"
    cases hp : p nm
    · walk_at "if"
      exact ⟨by walk_at "pt", by simp [selF, hnm, hp]⟩
    · walk_at "if"
      walk_at "w"
      refine sub_list (by trivial) (by walk_at "mem") (by walk_at "om") hz6 (v := .str (tx nm)) (by simp [txs, hnm]) ?_
      exact ⟨by walk_at "pt", by simp [selF, hnm, hp]⟩
  rw [show List.filterMap (selF nms p) (rngL 0 1 (Int.toNat 6)) = _ from sel_eq p nms h6]
  refine ⟨_, _, by walk_at "up", by simp [sizeLine_eq], ?_⟩
  refine cr_cons (by walk_at "mem") ?_
  walk_at "w"
  refine iteT rfl (el_of ?_)
  walk_at "w"
  walk_at "lc"
  walk_at "w"
  refine ⟨.rng 0 1, _, ⟨_, _, rfl, by walk_at "mem", rfl⟩, by walk_at "sz", selF nms q, ?_, fun r2 => ?_⟩
  · intro r C y done hy
    obtain ⟨k, hk, rfl⟩ := mem_rng01 hy
    have hk6' : k < 6 := by walk_at "om"
    obtain ⟨nm, hnm⟩ := hk6 k hk6'
    walk_at "w"
    refine sub_list (by trivial) (by walk_at "mem") (by walk_at "om") (hzb _) (v := .bool (q nm)) (by simp [bvs, hnm]) ?_
    walk_at "w"
    cases hp : q nm
    · walk_at "if"
      exact ⟨by walk_at "pt", by simp [selF, hnm, hp]⟩
    · walk_at "if"
      walk_at "w"
      refine sub_list (by trivial) (by walk_at "mem") (by walk_at "om") hz6 (v := .str (tx nm)) (by simp [txs, hnm]) ?_
      exact ⟨by walk_at "pt", by simp [selF, hnm, hp]⟩
  rw [show List.filterMap (selF nms q) (rngL 0 1 (Int.toNat 6)) = _ from sel_eq q nms h6]
  refine ⟨_, _, by walk_at "up", by simp [sizeLine_eq], ?_⟩
  refine cr_nil (by walk_at "mem") ?_
  refine ⟨_, _, _, by walk_at "rm", .refl _, ?_⟩
  walk_at "w"
  refine W.from (h r1 r2) ?_
  walk_at "pt"
theorem law_s14 (T : Top5 G) {r1 r2 : Addr} {A B : List PySem.Str} (h1 : (r1, .list (sts A)) ∈ base) (h2 : (r2, .list (sts B)) ∈ base) (rA : Rise A) (rB : Rise B) (hz : A.length ≤ 100 ∧ B.length ≤ 100) (h : ∀ τ, (∀ x ∈ base, x ∈ τ) → Q (.ret (.bool true)) τ) :
    EXS G (lawK (n + 6) T L) (lawE T L) (lawD 14) (lawS L nu dr ro ma go on tw to (some (.ref l)) na ve fa ru it pa pt du ag mk bo (some (.ref r1)) (some (.ref r2)) ++ base) Q NoX := by
  have T1 : Top G := T.toTop
  have hzs : ∀ l : List PySem.Str, l.length ≤ 100 → (sts l).length ≤ sizeLine := fun l hl => by simp [sts, sizeLine_eq]; walk_at "om"
  refine exs_law 14 (by with_unfolding_all rfl) ?_
  walk_at "w"
  refine sld_c T1 (n := n + 3) (by walk_at "mem") (by walk_at "mem") hz ?_ rA.apart rB.apart fun t u m => ?_
  · intro e he
    simp only [List.mem_cons, List.not_mem_nil, or_false] at he
    subst he
    exact ⟨by show ScopeKind.function ≠ ScopeKind.module; decide, L, _, rfl, by walk_at "mem"⟩
  rw [sld_spec A B rA rB]
  walk_at "w"
  walk_at "lc"
  walk_at "w"
  refine ⟨.lst r1, sts A, ⟨rfl, by walk_at "mem"⟩, hzs _ hz.1, ninF B, ?_, fun r3 => ?_⟩
  · intro r C y done hy
    obtain ⟨s, hs, rfl⟩ := List.mem_map.mp hy
    walk_at "w"
    refine op_notin_list (fun v => match v with | .str t => t == s | _ => false) (by walk_at "mem") (fun a ha => ?_) ?_
    · obtain ⟨t, ht, rfl⟩ := List.mem_map.mp ha
      exact eqb_str
    rw [any_str]
    walk_at "w"
    cases hp : B.contains s
    · walk_at "if"
      walk_at "w"
      exact ⟨by walk_at "pt", by simp only [ninF, hp]; rfl⟩
    · walk_at "if"
      exact ⟨by walk_at "pt", by simp only [ninF, hp]; rfl⟩
  rw [nin_eq]
  walk_at "w"
  walk_at "lc"
  walk_at "w"
  refine ⟨.lst r2, sts B, ⟨rfl, by walk_at "mem"⟩, hzs _ hz.2, ninF A, ?_, fun r4 => ?_⟩
  · intro r C y done hy
    obtain ⟨s, hs, rfl⟩ := List.mem_map.mp hy
    walk_at "w"
    refine op_notin_list (fun v => match v with | .str t => t == s | _ => false) (by walk_at "mem") (fun a ha => ?_) ?_
    · obtain ⟨t, ht, rfl⟩ := List.mem_map.mp ha
      exact eqb_str
    rw [any_str]
    walk_at "w"
    cases hp : A.contains s
    · walk_at "if"
      walk_at "w"
      exact ⟨by walk_at "pt", by simp only [ninF, hp]; rfl⟩
    · walk_at "if"
      exact ⟨by walk_at "pt", by simp only [ninF, hp]; rfl⟩
  rw [nin_eq]
  walk_at "w"
  refine op_eq_tup2 (n := 1) (by show 0 < n + 6; walk_at "om") (by decide) (by walk_at "mem") (by walk_at "mem") (.list (by walk_at "mem") (by walk_at "mem") rfl (sm_strs _)) (.list (by walk_at "mem") (by walk_at "mem") rfl (sm_strs _)) ?_
  walk_at "w"
  exact h _ fun x hx => by walk_at "mem"
end
end C29Text
section C30Text
theorem tab_lit (j : Nat) (c : Nat) (h : tab j = some c) : Lit5 c := by
  match j, h with
  | 1, h => cases h; exact .inl rfl
  | 2, h => cases h; exact .inr (.inl rfl)
  | 3, h => cases h; exact .inr (.inr (.inl rfl))
  | 4, h => cases h; exact .inr (.inr (.inr (.inl rfl)))
  | j + 5, h => cases h; exact .inr (.inr (.inr (.inr rfl)))
theorem items_five (number : Int) : Items5 (itemsF number) := by
  have key : ∀ c, some c ∈ (List.range 5).map (fun k => tab (digit number k)) → Lit5 c := fun c hc => by
    obtain ⟨k, _, e⟩ := List.mem_map.mp hc
    exact tab_lit _ _ e
  intro c hc
  unfold itemsF at hc
  dsimp only at hc
  split at hc
  · exact key c hc
  · rcases List.mem_append.mp hc with hc | hc
    · rcases List.mem_append.mp hc with hc | hc
      · exact key c (List.mem_of_mem_take hc)
      · simp at hc
    · exact key c (List.mem_of_mem_drop hc)
set_option tactic.hygienic true in
theorem items_star (number : Int) : none ∈ itemsF number := by
  unfold itemsF
  dsimp only
  split
  · rename_i h
    obtain ⟨o, ho, e⟩ := List.any_eq_true.mp h
    cases o with
    | none => exact ho
    | some c => cases e
  · simp
theorem map_tx_of {dr : List Nat} {nms : List (List Nat)} (h : (nms.map tx).Perm ((base6 dr).map tx)) : nms.Perm (base6 dr) := by
  have := h.map (fun s : PySem.Str => s.cps.toList)
  rw [List.map_map, List.map_map] at this
  have e : ∀ l : List (List Nat), l.map ((fun s : PySem.Str => s.cps.toList) ∘ tx) = l := fun l => by
    conv => rhs; rw [← List.map_id l]
    exact List.map_congr_left fun a _a => tx_list a
  rwa [e, e] at this
theorem base6_len {dr : List Nat} (h : dr.length ≤ 3) : ∀ nm ∈ base6 dr, nm.length ≤ 5 := by
  intro nm hm
  simp only [base6, List.mem_cons, List.not_mem_nil, or_false] at hm
  rcases hm with rfl | rfl | rfl | rfl | rfl | rfl <;> simp <;> walk_at "om"
theorem base6_nd {dr : List Nat} (h : 1 ≤ dr.length) : (base6 dr).Nodup := by
  have e : ∀ l : List Nat, dr ++ [47, 97] = l → l.drop (l.length - 2) = [47, 97] ∧ 3 ≤ l.length := by
    intro l hl
    subst hl
    refine ⟨by simp, by simp; walk_at "om"⟩
  have no : ∀ l : List Nat, (l.drop (l.length - 2) ≠ [47, 97] ∨ l.length < 3) → ¬ l = dr ++ [47, 97] := fun l hl he => by
    obtain ⟨h1, h2⟩ := e l he.symm
    rcases hl with h | h
    · exact h h1
    · walk_at "om"
  unfold base6
  simp only [List.nodup_cons, List.mem_cons, List.not_mem_nil, or_false, not_or, List.nodup_nil, not_false_eq_true, and_true]
  refine ⟨⟨by decide, by decide, by decide, by decide, no _ (.inr (by decide))⟩, ⟨by decide, by decide, by decide, no _ (.inl (by decide))⟩, ⟨by decide, by decide, no _ (.inl (by decide))⟩, ⟨by decide, no _ (.inl (by decide))⟩, no _ (.inl (by decide))⟩
theorem farI_nn (its : List (Option Nat)) (nm : List Nat) : 0 ≤ farI its nm := by
  unfold farI
  cases (dueL its nm).getLast? with
  | none => exact Int.le_refl _
  | some q => simp only; walk_at "om"
theorem AA.uncons {α : Type} {P : α → AV → Prop} {a : α} {as : List α} {ys : List AV} (h : AA P (a :: as) ys) : ∃ y zs, ys = y :: zs ∧ P a y ∧ AA P as zs := by
  obtain ⟨hl, hp⟩ := h
  cases ys with
  | nil => cases hl
  | cons y zs =>
    obtain ⟨_, e, p⟩ := hp 0 a rfl
    cases e
    exact ⟨y, zs, rfl, p, Nat.succ.inj hl, fun i x e => hp (i + 1) x e⟩
theorem four {α : Type} {P : Row → AV → Prop} {a b c d : Row} {ys : List AV} (h : AA P [a, b, c, d] ys) : ∃ w x y z, ys = [w, x, y, z] ∧ P a w ∧ P b x ∧ P c y ∧ P d z := by
  obtain ⟨w, _, rfl, p0, h⟩ := h.uncons
  obtain ⟨x, _, rfl, p1, h⟩ := h.uncons
  obtain ⟨y, _, rfl, p2, h⟩ := h.uncons
  obtain ⟨z, zs, rfl, p3, h⟩ := h.uncons
  cases zs with
  | nil => exact ⟨w, x, y, z, rfl, p0, p1, p2, p3⟩
  | cons _ _ => cases h.1
theorem FarD.cons {nms : List (List Nat)} {τ : Sto} {its : List (Option Nat)} {y : AV} (h : FarD nms τ its y) (hnd : nms.Nodup) {nm : List Nat} (hm : nm ∈ nms) {fs : List AV} {gs : List Int} (hr : FarsAt τ (tx nm) fs gs) : FarsAt τ (tx nm) (y :: fs) (farI its nm :: gs) := by
  obtain ⟨d, es, rfl, hd, hv⟩ := h
  obtain ⟨v, hg, e⟩ := hv.get hnd hm
  have e : v = .int (farI its nm) := e
  subst e
  exact .cons hd hg hr
theorem RuleD.ref {nms : List (List Nat)} {τ : Sto} {p : List (Option Nat) × Bool} {u : AV} (h : RuleD nms τ p u) (hl : 0 < nms.length) : ∃ a, u = .ref a := by
  obtain ⟨a, d, f2, cc, da, c2, pm, cv, ctv, pm2, ctv2, es, rfl, _⟩ := h _ (List.getElem_mem hl)
  exact ⟨a, rfl⟩
section
variable {G : Gd} {κ : Kx} {env : Env} {σ σ' : Sto} {X : XP} {n : Nat} {L l : Addr} {Q : AF → Sto → Prop}
theorem rk_rt (k : Option (Addr × Addr)) (b : Sto) : ∀ x ∈ rk k ++ b, x ∈ rt k ++ b := by
  intro x hx
  rcases List.mem_append.mp hx with hx | hx
  · refine List.mem_append_left _ ?_
    cases k with
    | none => cases hx
    | some c =>
      simp only [rk, List.mem_cons, List.not_mem_nil, or_false] at hx
      subst hx
      simp only [rt]
      walk_at "mem"
  · exact List.mem_append_right _ hx
theorem law_late (T : Top5 G) {sc : List Int} {rn rN rR rV rF rU : Addr} {dr : AV} {ma go it pa pt du : Option AV} {nms : List (List Nat)} {f0 f1 f2 f3 : AV} {u0 u1 u2 u3 : AV} {i0 i1 i2 i3 : List (Option Nat)} {v0 v1 v2 v3 : Bool} {base : Sto}
    (hl : OldL G l sc) (hN : (rN, .list (txs nms)) ∈ base) (h6 : nms.length = 6) (hnd : nms.Nodup) (hs : sortedS (nms.map tx) = true) (hV : (rV, .list (bvs [v0, v1, v2, v3])) ∈ base)
    (hF : (rF, .list [f0, f1, f2, f3]) ∈ base) (hU : (rU, .list [u0, u1, u2, u3]) ∈ base)
    (hf0 : FarD nms base i0 f0) (hf1 : FarD nms base i1 f1) (hf2 : FarD nms base i2 f2) (hf3 : FarD nms base i3 f3)
    (hu0 : RuleD nms base (i0, v0) u0) (hu1 : RuleD nms base (i1, v1) u1) (hu2 : RuleD nms base (i2, v2) u2) (hu3 : RuleD nms base (i3, v3) u3) (h : ∀ τ, (∀ x ∈ base, x ∈ τ) → Q (.ret (.bool true)) τ) :
    EXS G (lawK (n + 6) T L) (lawE T L) (lawD 5) (lawS L (some (.ref rn)) (some dr) (some (.ref rR)) ma go none none none (some (.ref l)) (some (.ref rN)) (some (.ref rV)) (some (.ref rF)) (some (.ref rU)) it pa pt du none none none none none ++ base) Q NoX := by
  obtain ⟨w0, rfl⟩ := hu0.ref (by walk_at "om")
  obtain ⟨w1, rfl⟩ := hu1.ref (by walk_at "om")
  obtain ⟨w2, rfl⟩ := hu2.ref (by walk_at "om")
  obtain ⟨w3, rfl⟩ := hu3.ref (by walk_at "om")
  refine law_s5 T hl fun rA rM m0 m1 a0 a1 a2 b0 b1 b2 => ?_
  obtain ⟨base6, hb6, s6⟩ : ∃ b : Sto, b = ((rA, .list figs) :: (rM, .list [.ref m0, .ref m1]) :: (m0, .list [bi a0, bi a1, bi a2]) :: (m1, .list [bi b0, bi b1, bi b2]) :: base) ∧ ∀ x ∈ base, x ∈ b := ⟨_, rfl, fun x hx => .tail _ (.tail _ (.tail _ (.tail _ hx)))⟩
  rw [← hb6]
  have hA : (rA, .list figs) ∈ base6 := by rw [hb6]; exact .head _
  have hM : (rM, .list [.ref m0, .ref m1]) ∈ base6 := by rw [hb6]; exact .tail _ (.head _)
  have hm0 : (m0, .list [bi a0, bi a1, bi a2]) ∈ base6 := by rw [hb6]; exact .tail _ (.tail _ (.head _))
  have hm1 : (m1, .list [bi b0, bi b1, bi b2]) ∈ base6 := by rw [hb6]; exact .tail _ (.tail _ (.tail _ (.head _)))
  clear hb6
  refine law_s6 T (L := L) hA hM hm0 (s6 _ hU) fun x1 base7 s7 e1 => ?_
  refine law_s7 T (L := L) (s7 _ hA) (s7 _ hM) (s7 _ hm1) (s7 _ (s6 _ hU)) fun x2 base8 s8 e2 => ?_
  refine law_s8 T (L := L) (e1.mono s8) e2 ⟨by have := agL_len a0 a1 a2; walk_at "om", by have := agR_len b0 b1 b2; walk_at "om", by simp, by simp⟩ fun x3 base9 s9 e3 => ?_
  refine law_s9 T (L := L) (u0 := w0) (u1 := w1) (u2 := w2) (u3 := w3) e3 (s9 _ (s8 _ (s7 _ (s6 _ hU)))) fun base10 s10 => ?_
  have sb : ∀ y ∈ base, y ∈ base10 := fun y hy => s10 _ (s9 _ (s8 _ (s7 _ (s6 _ hy))))
  have s6b : ∀ y ∈ base6, y ∈ base10 := fun y hy => s10 _ (s9 _ (s8 _ (s7 _ hy)))
  refine law_s10 T (L := L) (g0 := farI i0) (g1 := farI i1) (g2 := farI i2) (g3 := farI i3) (v0 := v0) (v1 := v1) (v2 := v2) (v3 := v3) (e1.mono fun y hy => s10 _ (s9 _ (s8 _ hy))) (e2.mono fun y hy => s10 _ (s9 _ hy)) (e3.mono s10) (sb _ hN) h6 (fun nm hnm => ?_) (fun nm => ⟨farI_nn _ _, farI_nn _ _, farI_nn _ _, farI_nn _ _⟩) fun rT t0 t1 t2 => ?_
  · exact .cons ((hu0 nm hnm).mono sb) (.cons ((hu1 nm hnm).mono sb) (.cons ((hu2 nm hnm).mono sb) (.cons ((hu3 nm hnm).mono sb) .nil)))
  obtain ⟨base11, hb11, s11⟩ : ∃ b : Sto, b = ((rT, .list [.ref t0, .ref t1, .ref t2]) :: (t0, .list (bvs (nms.map (D2 v0 v1 (farI i0) (farI i1))))) :: (t1, .list (bvs (nms.map (D2 v2 v3 (farI i2) (farI i3))))) :: (t2, .list (bvs (nms.map (D4 v0 v1 v2 v3 (farI i0) (farI i1) (farI i2) (farI i3))))) :: base10) ∧ ∀ x ∈ base10, x ∈ b := ⟨_, rfl, fun x hx => .tail _ (.tail _ (.tail _ (.tail _ hx)))⟩
  rw [← hb11]
  have hT : (rT, .list [.ref t0, .ref t1, .ref t2]) ∈ base11 := by rw [hb11]; exact .head _
  have ht0 : (t0, .list (bvs (nms.map (D2 v0 v1 (farI i0) (farI i1))))) ∈ base11 := by rw [hb11]; exact .tail _ (.head _)
  have ht1 : (t1, .list (bvs (nms.map (D2 v2 v3 (farI i2) (farI i3))))) ∈ base11 := by rw [hb11]; exact .tail _ (.tail _ (.head _))
  have ht2 : (t2, .list (bvs (nms.map (D4 v0 v1 v2 v3 (farI i0) (farI i1) (farI i2) (farI i3))))) ∈ base11 := by rw [hb11]; exact .tail _ (.tail _ (.tail _ (.head _)))
  clear hb11
  have sc11 : ∀ y ∈ base, y ∈ base11 := fun y hy => s11 _ (sb _ hy)
  have s611 : ∀ y ∈ base6, y ∈ base11 := fun y hy => s11 _ (s6b _ hy)
  refine law_s11 T (L := L) (g0 := farI i0) (g1 := farI i1) (g2 := farI i2) (g3 := farI i3) (sc11 _ hN) h6 (sc11 _ hF) (sc11 _ hV) (fun nm hnm => ?_) hT ht0 ht1 ht2 ?_
  · exact fars_up (hf0.cons hnd hnm (hf1.cons hnd hnm (hf2.cons hnd hnm (hf3.cons hnd hnm .nil)))) sc11
  refine law_s12 T (L := L) hT ht0 ht1 ht2 (by simp [h6]) (e3.mono fun y hy => s11 _ (s10 _ hy)) (s611 _ hA) (s611 _ hM) (s611 _ hm0) (s611 _ hm1) ?_
  refine law_s13 T (L := L) (sc11 _ hN) h6 hT ht0 ht2 fun r1 r2 => ?_
  have rise : Rise (nms.map tx) := rise_of_sorted hs (List.pairwise_map.mpr (hnd.imp fun hab e => hab (tx_inj e)))
  have sub : ∀ p : List Nat → Bool, Rise ((nms.filter p).map tx) := fun p => List.Pairwise.sublist (List.Sublist.map tx List.filter_sublist) rise
  have len : ∀ p : List Nat → Bool, ((nms.filter p).map tx).length ≤ 100 := fun p => by
    have := List.length_filter_le p nms
    simp; walk_at "om"
  rw [txs_sts, txs_sts]
  exact law_s14 T (L := L) (.head _) (.tail _ (.head _)) (sub _) (sub _) ⟨len _, len _⟩ fun τ hτ => h τ fun x hx => hτ _ (.tail _ (.tail _ (sc11 _ hx)))
theorem law_all (T : Top5 G) {sc : List Int} {ps : Array Value} (hl : OldL G l sc) (hz : sc.length ≤ 63) (ht : TriplesOk ps.toList) (h : ∀ τ ps' ps2, (113, AO.raw (tabObj ps')) ∈ τ → (170, AO.raw (tabObj ps2)) ∈ τ → Q (.ret (.bool true)) τ) :
    EXS G (lawK (n + 6) T L) (lawE T L) (lawD 0) (lawS L none none none none none none none none (some (.ref l)) none none none none none none none none none none none none none ++ ((113, .raw (tabObj ps)) :: (rt none ++ σ))) Q NoX := by
  refine law_s0 T hl hz fun rn n0 n1 n2 n3 => ?_
  refine law_s1 T (sc := sc) hl ?_
  have hdl := drawnF_len sc.sum
  refine law_s2 T (n := n + 4) (n0 := n0) (n1 := n1) (n2 := n2) (n3 := n3) hdl.2 (.head _) fun rN rR r0 r1 r2 r3 nms hp hs => ?_
  refine law_s3 T (n := n + 4) (n0 := n0) (n1 := n1) (n2 := n2) (n3 := n3) (by walk_at "mem") fun rV rF rU => ?_
  have hp' := map_tx_of hp
  have h6 : nms.length = 6 := hp'.length_eq
  have hnd : nms.Nodup := hp'.nodup_iff.mpr (base6_nd hdl.1)
  have hn : ∀ nm ∈ nms, nm.length ≤ 5 := fun nm hm => base6_len hdl.2 nm (hp'.mem_iff.mp hm)
  refine W.from (law_s4 T (n := n) (L := L) (rn := rn) (dr := .str (tx (drawnF sc.sum))) (l := l) (rN := rN) (rR := rR) (rV := rV) (rF := rF) (rU := rU) (rows := [(r0, itemsF n0, verd n0), (r1, itemsF n1, verd n1), (r2, itemsF n2, verd n2), (r3, itemsF n3, verd n3)]) (nms := nms) (ps := ps)
    (base := (rV, .list (bvs [verd n0, verd n1, verd n2, verd n3])) :: (rR, .list [.ref r0, .ref r1, .ref r2, .ref r3]) :: (r0, .list (ovs (itemsF n0))) :: (r1, .list (ovs (itemsF n1))) :: (r2, .list (ovs (itemsF n2))) :: (r3, .list (ovs (itemsF n3))) :: (rN, .list (txs nms)) :: (rn, .list [.int n0, .int n1, .int n2, .int n3]) :: σ)
    (by walk_at "mem") (fun p hp => ?_) (by walk_at "mem") hn h6 hnd (.head _) (by simp) ht ?_) ?_
  · simp only [List.mem_cons, List.not_mem_nil, or_false] at hp
    rcases hp with rfl | rfl | rfl | rfl
    · exact ⟨by walk_at "mem", items_five _, itemsF_len _, items_star _⟩
    · exact ⟨by walk_at "mem", items_five _, itemsF_len _, items_star _⟩
    · exact ⟨by walk_at "mem", items_five _, itemsF_len _, items_star _⟩
    · exact ⟨by walk_at "mem", items_five _, itemsF_len _, items_star _⟩
  · intro ps' k base' ma go it pa pt du fs us hb hfs hus
    obtain ⟨f0, f1, f2, f3, rfl, hf0, hf1, hf2, hf3⟩ := four (α := Unit) hfs
    obtain ⟨u0, u1, u2, u3, rfl, hu0, hu1, hu2, hu3⟩ := four (α := Unit) hus
    have sb : ∀ x ∈ base', x ∈ ((113, AO.raw (tabObj ps')) :: (rF, .list [f0, f1, f2, f3]) :: (rU, .list [u0, u1, u2, u3]) :: (rt k ++ base') : Sto) := fun x hx => .tail _ (.tail _ (.tail _ (List.mem_append_right _ hx)))
    have sk : ∀ x ∈ rk k ++ base', x ∈ ((113, AO.raw (tabObj ps')) :: (rF, .list [f0, f1, f2, f3]) :: (rU, .list [u0, u1, u2, u3]) :: (rt k ++ base') : Sto) := fun x hx => .tail _ (.tail _ (.tail _ (rk_rt k base' x hx)))
    refine law_late T (n := n) (L := L) (sc := sc) (i0 := itemsF n0) (i1 := itemsF n1) (i2 := itemsF n2) (i3 := itemsF n3) hl (sb _ (hb _ ?_)) h6 hnd hs (sb _ (hb _ (.head _))) (.tail _ (.head _)) (.tail _ (.tail _ (.head _)))
      (hf0.mono sb) (hf1.mono sb) (hf2.mono sb) (hf3.mono sb) (hu0.mono sk) (hu1.mono sk) (hu2.mono sk) (hu3.mono sk) fun τ hτ => ?_
    · walk_at "mem"
    · obtain ⟨q, hq⟩ : ∃ q, (170, AO.raw (tabObj q)) ∈ rt k ++ base' := by
        cases k with
        | none => exact ⟨_, .head _⟩
        | some c => exact ⟨_, .head _⟩
      exact h τ ps' q (hτ _ (.head _)) (hτ _ (.tail _ (.tail _ (.tail _ hq))))
  · simp only [rt, List.cons_append, List.nil_append]
    walk_at "pt"
theorem law_c (T : Top5 G) {n : Nat} {sc : List Int} {ps : Array Value} {Q : AV → Sto → Prop} (hl : OldL G l sc) (hz : sc.length ≤ 63) (ht : TriplesOk ps.toList) (h : ∀ τ ps' ps2, (113, AO.raw (tabObj ps')) ∈ τ → (170, AO.raw (tabObj ps2)) ∈ τ → Q (.bool true) τ) :
    CL G ⟨n + 7, some ⟨none, []⟩⟩ (.ref 192) [.ref l] ((113, .raw (tabObj ps)) :: (rt none ++ σ)) Q X := by
  refine cl_fnG T.toTp ar26 T.fnL rfl rfl rfl rfl nd26 (fun vs hvs => ?_) fun L => ?_
  · obtain ⟨a, rfl, _⟩ := one hvs; rfl
  simp only [nm26, hdp, lay_nil, lay_local, lay_cell, lay_global, layC_nil, layC_local, layC_cell, layC_global, List.zip_cons_cons, List.zip_nil_right, bn_nil, bn_cons]
  walk_at "sn"
  have e0 : lawDD 0 = lawD 0 := by with_unfolding_all rfl
  refine (show EXS G _ _ (lawDD 0) _ _ _ from ?_)
  rw [e0]
  exact law_all T (L := L) hl hz ht fun τ p q h1 h2 => ⟨τ, .refl, h τ p q h1 h2⟩
end
end C30Text
section J1Text
noncomputable abbrev lawTabs : List (Addr × Addr) := [(117, 113), (174, 170)]
theorem fa_nil {α : Type} {P : α → Prop} : ∀ p ∈ ([] : List α), P p := nofun
theorem fa_cons {α : Type} {P : α → Prop} {a : α} {l : List α} (h : P a) (t : ∀ p ∈ l, P p) : ∀ p ∈ a :: l, P p := fun p hp => by
  rcases List.mem_cons.mp hp with rfl | hp
  · exact h
  · exact t p hp
/-- the qualified name that a code object bears -/
noncomputable def qnOf (o : Obj) : Option PySem.Str := match o.data with
  | .fields vs => (match (vs[1]? : Option Value) with
    | some (Value.str q _) => some q
    | _ => none)
  | _ => none
set_option tactic.hygienic true in
theorem qnOf_some {o : Obj} {q : PySem.Str} (h : qnOf o = some q) : ∃ vs t, o.data = .fields vs ∧ vs[1]? = some (.str q t) := by
  unfold qnOf at h
  split at h
  · rename_i vs e
    split at h
    · rename_i q' t e2
      cases h
      exact ⟨vs, t, e, e2⟩
    · cases h
  · cases h
inductive FnIn (K : Frag) (a : Addr) (fd : FuncData) : Prop
  | mk (o oc : Obj) (c : Addr) (h1 : K.lookup a = some o) (h2 : o.cls = .type "function") (h3 : o.data = .func fd) (h4 : fd.code = .ref c) (h5 : K.lookup c = some oc) (h6 : oc.cls = .type "code") (h7 : qnOf oc = some fd.qualname)
noncomputable def CodeIn (K : Frag) (c P : Addr) : Prop := ∃ d vs sl file tf flags tg inF text tt, K.lookup c = some ⟨.type "code", d, .fields vs, sl⟩ ∧ vs[11]? = some (.ref P) ∧ vs.getD 11 .none = .ref P ∧ vs.getD 18 .none = .str file tf ∧
    vs.getD 7 .none = .int flags tg ∧ vs.getD 9 .none = .bool inF ∧ vs.getD 10 .none = .int text tt ∧ c ≠ P ∧ K.lookup P = some (tabObj #[])
noncomputable def strKey (e : DictEntry) : Bool := match e.key with
  | .str _ _ => true
  | _ => false
noncomputable def intKey (e : DictEntry) : Bool := match e.key with
  | .int k _ => e.hash == hashInt k
  | _ => false
noncomputable def fI (es : Array DictEntry) (k : Int) : Option Value := (es.toList.find? fun e => Value.isInt k e.key).map (·.val)
/-- what is to be seen in the heap's text -/
structure LawK (K : Frag) (cd pm : Nat → Value) (cdL pmL c45 p45 c66 p66 : Value) : Prop where
  fn : ∀ p ∈ ftab, FnIn K p.2 (fdk p.1 (cd p.1) (pm p.1))
  fnL : FnIn K 192 (fdk 26 cdL pmL)
  m45 : FnIn K 45 (fdm 0 c45 p45)
  m66 : FnIn K 66 (fdm 3 c66 p66)
  gt : ∀ p ∈ gtab, nsIn K mainGlobals p.1 = some p.2
  c12 : cd 12 = .ref 117
  c23 : cd 23 = .ref 174
  t12 : CodeIn K 117 113
  t23 : CodeIn K 174 170
  g3 : ∃ d es n sl, K.lookup mainGlobals = some ⟨.type "dict", d, .dict es n, sl⟩
  bm : nsIn K mainGlobals (PySem.Str.ofString "__builtins__") = some (some (.ref 4))
  b4 : K.lookup 4 = some { cls := .type "module", dict := some 0 }
  c69 : ∃ nm q bs sn sub col dd k0 k1 k2 k3 k5, K.lookup 69 = some (excClassObj nm q 69 68 bs [.type "object"] true sn sub false col dd k0 k1 k2 k3 k5 "object.__new__")
  c68 : ∃ d es n sl, K.lookup 68 = some ⟨.type "dict", d, .dict es n, sl⟩ ∧ es.toList.all strKey = true
  cno : ∀ x ∈ [PySem.Str.ofString "__setattr__", PySem.Str.ofString "__getattribute__", PySem.Str.ofString "__getattr__", PySem.Str.ofString "useragents", PySem.Str.ofString "rulelines", PySem.Str.ofString "delay", PySem.Str.ofString "req_rate"], nsIn K 68 x = some none
  cini : nsIn K 68 (PySem.Str.ofString "__init__") = some (some (.ref 45))
  calw : nsIn K 68 (PySem.Str.ofString "allowance") = some (some (.ref 66))
  pat : ∃ (fs : Array Value) (T : Addr) (ws : Array Value) (n : Nat), K.lookup 104 = some { cls := .type "re.Pattern", data := .fields fs } ∧ fs.getD 5 .none = .ref T ∧ Builtin.Re.reRawNat (fs.getD 2 .none) = 1 ∧ Builtin.Re.reRawNat (fs.getD 6 .none) = 0 ∧
    K.lookup T = some { cls := .type "tuple", data := .seq ws n } ∧ ((ws.map Builtin.Re.reRawOf).map (·.toNat)).toList = twinCode.toList
  esc : ∃ es ep t46 t63, K.lookup 75 = some ⟨.type "dict", none, .dict es ep, #[]⟩ ∧ es.toList.all intKey = true ∧ fI es 97 = none ∧ fI es 98 = none ∧ fI es 47 = none ∧ fI es 46 = some (.str (tx [92, 46]) t46) ∧ fI es 63 = some (.str (tx [92, 63]) t63)
set_option tactic.hygienic true in
theorem lookup_mem {α β : Type} [BEq α] [LawfulBEq α] : ∀ {l : List (α × β)} {a : α} {b : β}, l.lookup a = some b → (a, b) ∈ l
  | (x, y) :: l, a, b, h => by
    rw [List.lookup_cons] at h
    split at h
    · rename_i e
      obtain rfl := eq_of_beq e
      cases h; exact .head _
    · exact .tail _ (lookup_mem h)
set_option tactic.hygienic true in
theorem ns_some {K : Frag} {h : Heap} {a : Addr} {m : PySem.Str → Option Value} {n : PySem.Str} {o : Option Value} (X : K.In h) (g : h.Ns a m) (e : nsIn K a n = some o) : m n = o := by
  obtain ⟨ob, es, ep, ho, hd, _, hf⟩ := g
  unfold nsIn at e
  split at e
  · rename_i c d es' n' sl q
    have := X _ _ q
    rw [ho] at this
    cases this
    cases hd
    rw [← hf]
    unfold nsFind findBy
    rw [← Array.find?_toList]
    split at e
    · rename_i en he
      cases e
      rw [he]; rfl
    · rename_i he
      split at e
      · cases e
      · cases e
        rw [he]; rfl
  · cases e
theorem nolimit_old {h₀ h : Heap} (K : OldK h₀ h) (n : h₀.NoLimit) : h.NoLimit := by
  obtain ⟨mc, ⟨o, es, ep, e, hd, hs, hf⟩, hm⟩ := n
  rcases K.old cStatics o e with x | ⟨t, hc, vs, more, hv, x⟩ | ⟨_, hc, ⟨o', es', n', e', hc', hd', hk'⟩, z⟩
  · exact ⟨mc, ⟨o, es, ep, x, hd, hs, hf⟩, hm⟩
  · rw [hd] at hv; cases hv
  · refine ⟨nsFind es', ⟨o', es', n', e', hd', hk', fun _a => rfl⟩, ?_⟩
    have e1 : ∀ k, staticOf h k = nsFind es' k := fun k => by
      unfold staticOf
      rw [e']; simp only [hd']; rfl
    have e2 : ∀ k, staticOf h₀ k = nsFind es k := fun k => by
      unfold staticOf
      rw [e]; simp only [hd]; rfl
    rcases z "sys.recursionlimit" with q | ⟨q, _⟩
    · rw [e1, e2, hf, hm] at q
      exact q
    · exact absurd q (by decide +kernel)
/-- a heap that ends in an object, the same to the reader -/
theorem heap_cut (a : Addr) : ∀ (n : Nat) (h : Heap), h.objs.size = n → (∃ o, h.get? a = some o) → ∃ h' : Heap, (∀ b, h'.get? b = h.get? b) ∧ (∃ o, h'.get? (h'.objs.size - 1) = some o) ∧ a < h'.objs.size := by
  intro n
  induction n with
  | zero =>
    intro h hn ⟨o, e⟩
    exact absurd (Heap.lt_size e) (by rw [hn]; exact Nat.not_lt_zero _)
  | succ n ih =>
    intro h hn ⟨o, e⟩
    cases q : h.get? (h.objs.size - 1) with
    | some o' => exact ⟨h, fun _a => rfl, ⟨o', q⟩, Heap.lt_size e⟩
    | none =>
      have hp : ∀ b, ({ h with objs := h.objs.pop } : Heap).get? b = h.get? b := fun b => by
        by_cases hb : b < h.objs.size - 1
        · unfold Heap.get?
          simp only
          rw [Array.getElem?_pop, if_pos hb]
        · rw [Heap.get?_none_of_le (by rw [Array.size_pop]; exact Nat.not_lt.mp hb)]
          by_cases hb2 : b = h.objs.size - 1
          · rw [hb2, q]
          · rw [Heap.get?_none_of_le (Nat.le_of_pred_lt (Nat.lt_of_le_of_ne (Nat.not_lt.mp hb) (Ne.symm hb2)))]
      obtain ⟨h', h1, h2, h3⟩ := ih { h with objs := h.objs.pop } (by rw [Array.size_pop, hn]; rfl) ⟨o, by rw [hp]; exact e⟩
      exact ⟨h', fun b => by rw [h1, hp], h2, h3⟩
theorem boot_ok : ∀ p ∈ btab, bootBuiltins p.1 = some p.2 ∧ p.1 ≠ "__name__" := by
  have h2 : ∀ p ∈ btab, p.1 ≠ "__name__" := by decide +kernel
  have h1 : ∀ p ∈ btab, bootBuiltins p.1 = some p.2 := by
    unfold btab
    repeat refine fa_cons (by rfl) ?_
    exact fa_nil
  exact fun p hp => ⟨h1 p hp, h2 p hp⟩
section
variable {K : Frag} {h : Heap} {cd pm : Nat → Value} {cdL pmL c45 p45 c66 p66 : Value}
theorem LawK.tabs (F : LawK K cd pm cdL pmL c45 p45 c66 p66) (X : K.In h) : TabsAt lawTabs h := by
  have one : ∀ c P, CodeIn K c P → CodeHd h c P ∧ h.get? P = some (tabObj #[]) := by
    rintro c P ⟨d, vs, sl, file, tf, flags, tg, inF, text, tt, e, h1, h2, h3, h4, h5, h6, h7, h8⟩
    exact ⟨⟨_, vs, file, tf, flags, tg, inF, text, tt, X _ _ e, rfl, rfl, h1, h2, h3, h4, h5, h6, h7⟩, X _ _ h8⟩
  intro q hq
  simp only [List.mem_cons, List.not_mem_nil, or_false] at hq
  rcases hq with rfl | rfl
  · exact one _ _ F.t12
  · exact one _ _ F.t23
set_option tactic.hygienic true in
theorem LawK.top (F : LawK K cd pm cdL pmL c45 p45 c66 p66) (X : K.In h) {mg mb : PySem.Str → Option Value} (g : h.Ns mainGlobals mg) (b : h.Ns builtinsNs mb) (hb : ∀ x : PySem.Str, x ≠ "__name__" → mb x = bootBuiltins x) (hb0 : ∃ o, h.get? builtinsNs = some o ∧ o.cls ≠ .none) (nl : h.NoLimit)
    (G : Gd) (hG : ∀ b, G.h₀.get? b = (ghostOf h lawTabs).get? b) (hsz : sysModules < G.h₀.objs.size) : Nonempty (Top5 G) := by
  have hT := F.tabs X
  have kp : ∀ {a : Addr} {o : Obj}, h.get? a = some o → o ≠ tabObj #[] → G.h₀.get? a = some o := fun e hn => by rw [hG]; exact ghost_get hT e hn
  have kc : ∀ {a : Addr} {o : Obj}, K.lookup a = some o → o ≠ tabObj #[] → G.h₀.get? a = some o := fun e hn => kp (X _ _ e) hn
  have gk : ∀ b o, (ghostOf h lawTabs).get? b = some o → G.h₀.get? b = some o := fun b o e => by rw [hG]; exact e
  have nt : ∀ {o : Obj} {n : String}, o.cls = .type n → o ≠ tabObj #[] := fun hc q => by rw [q] at hc; cases hc
  have fnAt : ∀ a fd, FnIn K a fd → FnAt G a fd := by
    rintro a fd ⟨o, oc, c, e1, hc, hd, e2, e3, hc', hq⟩
    obtain ⟨vs, t, e4, e5⟩ := qnOf_some hq
    exact ⟨⟨_, kc e1 (nt hc), by rw [hc]; nofun, hd⟩, c, _, vs, t, e2, kc e3 (nt hc'), by rw [hc']; nofun, e4, e5⟩
  have hg := (ghost_ns hT g).keeps gk
  have hbn := (ghost_ns hT b).keeps gk
  have cls : ∀ {a : Addr}, (∃ d es n sl, K.lookup a = some (⟨.type "dict", d, .dict es n, sl⟩ : Obj)) → ∃ o, G.h₀.get? a = some o ∧ o.cls ≠ .none := by
    rintro a ⟨d, es, n, sl, e⟩
    exact ⟨_, kc e (nt rfl), by simp⟩
  have nlG : G.h₀.NoLimit := by
    obtain ⟨mc, hc, hm⟩ := nl
    exact ⟨mc, (ghost_ns hT hc).keeps gk, hm⟩
  have lam : ∀ c P, CodeIn K c P → P = 113 ∨ P = 170 → LamAt G (.ref c) P := by
    rintro c P ⟨d, vs, sl, file, tf, flags, tg, inF, text, tt, e, h1, h2, h3, h4, h5, h6, h7, h8⟩ hP
    refine ⟨⟨c, rfl, _, vs, file, tf, flags, tg, inF, text, tt, kc e (nt rfl), rfl, rfl, h1, h2, h3, h4, h5, h6, h7⟩, by rcases hP with rfl | rfl <;> decide, mg, hg, cls F.g3, 4, _, ns_some X g F.bm, by decide, by decide, by rcases hP with rfl | rfl <;> decide, kc F.b4 (nt rfl), rfl, rfl, rfl⟩
  have ini : ClsAt G.h₀ 69 68 (fun x => match K.lookup 68 with
      | some ⟨_, _, .dict es _, _⟩ => nsFind es x
      | _ => none) := by
    obtain ⟨nm, q, bs, sn, sub, col, dd, k0, k1, k2, k3, k5, e⟩ := F.c69
    obtain ⟨d, es, n, sl, e2, hk⟩ := F.c68
    refine ⟨⟨nm, q, bs, sn, sub, col, dd, k0, k1, k2, k3, k5, kc e (nt rfl)⟩, _, es, n, kc e2 (nt rfl), rfl, fun en hen => ?_, fun name => by rw [e2]⟩
    have := List.all_eq_true.mp hk en (by simpa using hen)
    unfold strKey at this
    split at this
    · exact ⟨_, _, by assumption⟩
    · cases this
  have nsK : ∀ {x : PySem.Str} {o : Option Value}, nsIn K 68 x = some o → (match K.lookup 68 with
      | some ⟨_, _, .dict es _, _⟩ => nsFind es x
      | _ => none) = o := fun {x o} e => by
    obtain ⟨d, es, n, sl, e2, hk⟩ := F.c68
    have hsk : StrKeys es := fun en hen => by
      have := List.all_eq_true.mp hk en (by simpa using hen)
      unfold strKey at this
      split at this
      · exact ⟨_, _, by assumption⟩
      · cases this
    have hns : h.Ns 68 (nsFind es) := ⟨_, es, n, X _ _ e2, rfl, hsk, fun _a => rfl⟩
    rw [e2]
    exact ns_some X hns e
  have c68' : ∃ o, G.h₀.get? 68 = some o ∧ o.cls ≠ .none := by
    obtain ⟨d, es, n, sl, e2, hk⟩ := F.c68
    exact cls ⟨d, es, n, sl, e2⟩
  have fo : ∀ a fd, FnIn K a fd → ∃ fo, G.h₀.get? a = some fo ∧ fo.cls = .type "function" := by
    rintro a fd ⟨o, oc, c, e1, hc, hd, e2, e3, hc', hq⟩
    exact ⟨_, kc e1 (nt hc), hc⟩
  have patG : PatAt G 104 := by
    obtain ⟨fs, P, ws, n, h1, h2, h3, h4, h5, h6⟩ := F.pat
    exact ⟨fs, P, ws, n, kc h1 (nt rfl), h2, h3, h4, kc h5 (nt rfl), h6⟩
  have escG : ∃ o es ep f, G.h₀.get? 75 = some o ∧ o.ExactDict ∧ o.data = .dict es ep ∧ KeysOf (intKind G.prog G.w) es ∧ (∀ k, findBy (intKind G.prog G.w).is es k = f k) ∧ ∀ c, Lit5 c → EscOk f escM c := by
    obtain ⟨es, ep, t46, t63, e, hk, h97, h98, h47, h46, h63⟩ := F.esc
    refine ⟨_, es, ep, fI es, kc e (nt rfl), ⟨rfl, rfl, rfl⟩, rfl, fun en hen => ?_, fun k => ?_, ?_⟩
    · have := List.all_eq_true.mp hk en (by simpa using hen)
      unfold intKey at this
      split at this
      · rename_i k t hkey
        refine ⟨k, ?_, eq_of_beq this⟩
        show Value.isInt k en.key = true
        rw [hkey]; simp [Value.isInt]
      · cases this
    · show findBy Value.isInt es k = fI es k
      unfold findBy fI
      rw [← Array.find?_toList]
    · rintro c (rfl | rfl | rfl | rfl | rfl)
      · exact .inl ⟨h97, rfl⟩
      · exact .inl ⟨h98, rfl⟩
      · exact .inl ⟨h47, rfl⟩
      · exact .inr ⟨t46, h46, rfl⟩
      · exact .inr ⟨t63, h63, rfl⟩
  exact ⟨{
    mg := mg, mb := mb, g := hg, b := hbn, gcls := cls F.g3, bcls := (by obtain ⟨o, e, hc⟩ := hb0; exact ⟨o, kp e (fun q => hc (by rw [q])), hc⟩), nolimit := fun h' K' => nolimit_old K' nlG, sysm := hsz
    cd := cd, pm := pm
    gt := fun x o e => ns_some X g (F.gt _ (lookup_mem e))
    bt := fun x v e => by
      obtain ⟨h1, h2⟩ := boot_ok _ (lookup_mem e)
      rw [hb _ h2]; exact h1
    fn := fun n a e => fnAt _ _ (F.fn _ (lookup_mem e))
    esc := escG
    pat := patG
    l12 := by rw [F.c12]; exact lam _ _ F.t12 (.inl rfl)
    l23 := by rw [F.c23]; exact lam _ _ F.t23 (.inr rfl)
    c := { mN := _, at' := ini, no := fun x hx => nsK (F.cno x hx), ini := nsK F.cini, alw := nsK F.calw, nsc := c68' }
    c45 := c45, p45 := p45, c66 := c66, p66 := p66
    m45 := fnAt _ _ F.m45, m66 := fnAt _ _ F.m66, f45 := fo _ _ F.m45, f66 := fo _ _ F.m66
    cdL := cdL, pmL := pmL, fnL := fnAt _ _ F.fnL }⟩
end
end J1Text
section J2Text
theorem law_post (a b : List WData) : PySem.Challenge.rw_in0274_01.row.claim.post a (.bool true) b = true := by kernel_rfl
theorem ints_ab : ∀ {xs : List Value} {ns : List Int}, IntsAre xs ns → xs.map ab = intsA ns := by
  intro xs ns h
  induction h with
  | nil => rfl
  | cons n t _ ih => exact congrArg (AV.int n :: ·) ih
theorem law_join {K : Frag} {cd pm : Nat → Value} {cdL pmL c45 p45 c66 p66 : Value} (F : LawK K cd pm cdL pmL c45 p45 c66 p66) {s₁ : Shared} (X : K.In s₁.heap) {mg mb : PySem.Str → Option Value} (g : s₁.heap.Ns mainGlobals mg) (b : s₁.heap.Ns builtinsNs mb)
    (hb : ∀ x : PySem.Str, x ≠ "__name__" → mb x = bootBuiltins x) (hb0 : ∃ o, s₁.heap.get? builtinsNs = some o ∧ o.cls ≠ .none) (nl : s₁.heap.NoLimit) (hgens : s₁.gens = #[]) {l : Addr} {xs : List Value} {ns : List Int} (hL : s₁.heap.IsList l xs.toArray) (hi : IntsAre xs ns) (hz : ns.length ≤ 63) (prog : Program) (w : World) :
    wpAny (model prog w) callerA (call (.ref 192) [.ref l]) (fun v s' => v = .bool true ∧ OldK s₁.heap s'.heap ∧ s'.os = s₁.os ∧ s'.gens = #[]) (fun _a _b => False) s₁ := by
  have hT := F.tabs X
  have e192 : ∃ o, (ghostOf s₁.heap lawTabs).get? 192 = some o := by
    obtain ⟨o, oc, c, e1, hc, _⟩ := F.fnL
    exact ⟨_, ghost_get hT (X _ _ e1) fun q => by rw [q] at hc; cases hc⟩
  obtain ⟨h', h1, h2, h3⟩ := heap_cut 192 _ (ghostOf s₁.heap lawTabs) rfl e192
  obtain ⟨T⟩ := F.top X g b hb hb0 nl ⟨prog, w, h', s₁.os, h2⟩ h1 (Nat.lt_trans (by decide) h3)
  have hl : OldL ⟨prog, w, h', s₁.os, h2⟩ l ns := ⟨xs.toArray, (ghost_list hT hL).at fun o e => by rw [h1]; exact e, by simpa using ints_ab hi⟩
  have z : St ⟨prog, w, h', s₁.os, h2⟩ [] ((113, .raw (tabObj #[])) :: (rt none ++ [])) s₁ :=
    { old := .of_keep fun b o e => of_hideAll _ (by rw [← h1]; exact e)
      gens := hgens
      os := rfl
      fr := fun p hp => by cases hp
      ob := fun p hp => by
        simp only [rt, List.append_nil, List.mem_cons, List.not_mem_nil, or_false] at hp
        rcases hp with rfl | rfl
        · exact ⟨_, (hT (117, 113) (.head _)).2, rfl⟩
        · exact ⟨_, (hT (174, 170) (.tail _ (.head _))).2, rfl⟩
      own := fun a ha => by
        show h'.get? a = none
        rw [h1]
        simp only [rt, List.append_nil, List.map_cons, List.map_nil, List.nil_append, List.mem_cons, List.not_mem_nil, or_false] at ha
        rcases ha with rfl | rfl
        · exact hideAll_none _ (.head _)
        · exact hideAll_none _ (.tail _ (.head _))
      nd := by simp [rt] }
  have room : Room ⟨0 + 7, some ⟨none, []⟩⟩ callerA := ⟨rfl, by decide, by decide, fun x hx => by cases hx; rfl⟩
  have run := law_c T (n := 0) (σ := []) (ps := #[]) (X := NoX) (Q := fun v τ => v = .bool true ∧ ∃ ps' ps2, (113, AO.raw (tabObj ps')) ∈ τ ∧ (170, AO.raw (tabObj ps2)) ∈ τ) hl hz trivial (fun τ p q m1 m2 => ⟨rfl, p, q, m1, m2⟩) (.ref 192) [.ref l] rfl rfl callerA [] s₁ room z
  refine wpAny_mono run (fun v s' ⟨τ, ⟨hv, p, q, m1, m2⟩, z'⟩ => ⟨ab_bool hv, ⟨fun b o e => ?_, fun b o e => ?_⟩, z'.os, z'.gens⟩) (fun _a _b => pe fun _a x _b => x.elim)
  all_goals
    have t113 : s'.heap.get? 113 = some (tabObj p) := by
      obtain ⟨ob, e, r⟩ := z'.at m1
      have r : ob = tabObj p := r
      rw [e, r]
    have t170 : s'.heap.get? 170 = some (tabObj q) := by
      obtain ⟨ob, e, r⟩ := z'.at m2
      have r : ob = tabObj q := r
      rw [e, r]
  · have grown : ∀ c P ps, (c, P) ∈ lawTabs → s'.heap.get? P = some (tabObj ps) → s₁.heap.get? P = some o → b = P → asItWas s₁.heap s'.heap b o := fun c P ps hq hP e hbP => by
      subst hbP
      have e2 := (hT _ hq).2
      rw [e] at e2
      cases e2
      exact .inr (.inl ⟨((hT _ hq).1.tab (hT _ hq).2).isCodeTable, rfl, #[], ps, rfl, by rw [Array.empty_append]; exact hP⟩)
    by_cases hb1 : b = 113
    · exact grown 117 113 p (.head _) t113 (by rw [← hb1]; exact e) hb1
    by_cases hb2 : b = 170
    · exact grown 174 170 q (.tail _ (.head _)) t170 (by rw [← hb2]; exact e) hb2
    have eg : h'.get? b = some o := by
      rw [h1]
      refine ghost_ne e fun hm => ?_
      simp only [List.map_cons, List.map_nil, List.mem_cons, List.not_mem_nil, or_false] at hm
      rcases hm with hm | hm
      · exact hb1 hm
      · exact hb2 hm
    rcases z'.old.old b o eg with x | ⟨⟨c, oc, vc, hc1, hc2⟩, hc, vs, more, hv, x⟩ | ⟨rfl, hc, r, zz⟩
    · exact .inl x
    · exact .inr (.inl ⟨⟨c, oc, vc, of_hideAll _ (by rw [← h1]; exact hc1), hc2⟩, hc, vs, more, hv, x⟩)
    · refine .inr (.inr ⟨rfl, hc, r, fun key => ?_⟩)
      have := zz key
      rwa [show staticOf h' key = staticOf s₁.heap key from OldK.staticOf_congr (eg.trans e.symm) key] at this
  · by_cases hb1 : b = 113
    · exact ⟨_, hb1 ▸ t113⟩
    by_cases hb2 : b = 170
    · exact ⟨_, hb2 ▸ t170⟩
    have eg : h'.get? b = some o := by
      rw [h1]
      refine ghost_ne e fun hm => ?_
      simp only [List.map_cons, List.map_nil, List.mem_cons, List.not_mem_nil, or_false] at hm
      rcases hm with hm | hm
      · exact hb1 hm
      · exact hb2 hm
    exact z'.old.there b o eg
end J2Text
end Mine
open PySem PySem.W PySem.W.X PyProof.Rows
set_option maxRecDepth 100000 in
set_option maxHeartbeats 0 in
theorem Mine.lawK_ok (P : Params) : Mine.LawK (Mine.heapK P) Mine.cdT Mine.pmT (.ref 191) (Mine.pmT 17) (.ref 44) Mine.pmEnt (.ref 65) Mine.pmEnt := {
    fn := by
      unfold Mine.ftab
      repeat refine Mine.fa_cons ⟨_, _, _, rfl, rfl, rfl, rfl, rfl, rfl, rfl⟩ ?_
      exact Mine.fa_nil
    fnL := ⟨_, _, _, rfl, rfl, rfl, rfl, rfl, rfl, rfl⟩
    m45 := ⟨_, _, _, rfl, rfl, rfl, rfl, rfl, rfl, rfl⟩
    m66 := ⟨_, _, _, rfl, rfl, rfl, rfl, rfl, rfl, rfl⟩
    gt := by
      unfold Mine.gtab
      repeat refine Mine.fa_cons rfl ?_
      exact Mine.fa_nil
    c12 := rfl
    c23 := rfl
    t12 := ⟨_, _, _, _, _, _, _, _, _, _, rfl, rfl, rfl, rfl, rfl, rfl, rfl, by decide, rfl⟩
    t23 := ⟨_, _, _, _, _, _, _, _, _, _, rfl, rfl, rfl, rfl, rfl, rfl, rfl, by decide, rfl⟩
    g3 := ⟨_, _, _, _, rfl⟩
    bm := rfl
    b4 := rfl
    c69 := ⟨_, _, _, _, _, _, _, _, _, _, _, _, rfl⟩
    c68 := ⟨_, _, _, _, rfl, rfl⟩
    cno := by
      repeat refine Mine.fa_cons rfl ?_
      exact Mine.fa_nil
    cini := rfl
    calw := rfl
    pat := ⟨_, _, _, _, rfl, rfl, rfl, rfl, rfl, by decide +kernel⟩
    esc := ⟨_, _, _, _, rfl, rfl, rfl, rfl, rfl, rfl, rfl⟩ }
set_option maxRecDepth 100000 in
set_option maxHeartbeats 0 in
theorem PySem.Challenge.cw_in0274_01_holds : PySem.Challenge.rw_in0274_01.Holds := by
  refine holds_law (by kernel_rfl) fun said => ?_
  refine holds_open (q := Mine.lawView) (loose := Mine.lawLoose) (Xt := Mine.lawXt) (XP := XL Mine.lawView []) (Yf := Hook.obs Mine.lawHook) (Ya := Hook.val Mine.lawHook) (YP := Hook.says Mine.lawHook) (N := 4608) Mine.lawLeft (Hook.of Mine.lawHook) (Hook.keeps Mine.lawHook) (fun s e => xl_of s (Bool.and_eq_true_iff.mp e).1) XL.keeps (by rfl) (by rfl) (by rfl) (fun s e => recFacts_of (Bool.and_eq_true_iff.mp e).2) (by rfl) (by first | assumption | decide +kernel) (by decide +kernel) ⟨rfl, rfl, rfl, rfl, rfl, by decide +kernel⟩ ?hw ?hc
  case hw => w_witness2
  case hc =>
    intro w s₀ s₁ mg mb G Y fa o pm cd doc dV kV ho hd hcd hD hmg hg args vals as hpre hlay hrd hwl hlo
    have T := G.T
    obtain ⟨KX, hb0⟩ := Y
    obtain rfl : fa = 192 := by
      have e := Mine.ns_some (n := PySem.Str.ofString "law") (o := some (.ref 192)) KX T.g (by rfl)
      have e2 := hmg
      rw [show _ = some (Value.ref 192) from e] at e2
      cases e2; rfl
    clear hmg ho hd hcd hD
    wrow_args hpre hlay hrd hwl hlo
    all_lens
    refine wpAny_mono (Mine.law_join (Mine.lawK_ok w.params) KX T.g T.b T.builtins hb0 T.nolimit hg (by assumption) (by assumption) (by omega) _ w) (fun v s' hr => ?_) (fun _ _ x => x.elim)
    obtain ⟨rfl, hk, hos, hgn⟩ := hr
    exact ⟨.inl ⟨.bool true, .bool true, [], rfl, fun _ => rfl, .bool true, Mine.law_post _ _, fun _ => ⟨List.nodup_nil, fun a ha => by cases ha⟩⟩, hk, hos, .of_eq hgn⟩
