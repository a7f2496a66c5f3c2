import PyProof.Rows.All
import Wide.All
import OpenK.AllK
import Wide.FinOn
import PyProof.ListIndexNeg
import PyProof.IsiPairs
import PyProof.StrLawsReplace
import PyProof.GenQ
import PyProof.JoinWalk
import PyProof.CallTypeRange
import PyProof.AutoRange
import PyProof.DelItemList
import PyProof.RulesDel
import PyProof.RulesAssignMore
import PyProof.WalksMore
import PyProof.FString
import PyProof.RulesDelMore
import PyProof.CallRoads
import PyProof.StrLawsFrom
import PyProof.DictTable
import PyProof.DictCalls
import PyProof.DictKinds
import PyProof.SumAny
import Lean
import PySem.Challenge.RW_ik0025_03
open PySem PySem.Calls PyProof.Rows PySem.W
open List (mem_append_left mem_cons length_map length_append mem_append_right mem_append map_append mem_singleton mem_map mem_cons_of_mem getElem?_map not_mem_nil getD_eq_getElem?_getD map_cons map_map length_singleton length_cons length_drop mem_of_getElem? contains_iff_mem mem_filter filter_congr append_nil length_range length_take length_nil drop_zero lookup_cons length_replicate length_filter_le flatten_append cons_append append_assoc take_of_length_le map_congr_left drop_of_length_le drop_eq_getElem_cons nil_append forIn_nil forIn_cons all_eq_true sum_cons size_toArray filter_map drop_left any_eq_true take_length take_add_one sum_append replicate_succ mem_range mem_cons_self map_nil take_left take_append_drop takeWhile_cons mem_range'_1 length_eq_zero_iff getElem_drop getElem?_drop filter_cons any_cons zip_cons_cons of_mem_zip mem_of_mem_drop map_take map_eq_nil_iff map_drop lookup_nil getElem?_eq_none forIn_toArray filter_append drop_take drop_length drop_drop all_cons)
open Option (some_ne_none map_eq_some_iff map_some ne_none_iff_exists')
open Array (length_toList getElem?_toList toList_push)
open Bool (false_eq_true and_eq_true and_eq_true_iff and_eq_false_iff or_eq_false_iff not_eq_true' or_eq_true)
open Nat (le_add_right lt_succ_self le_of_ble_eq_true zero_le sub_lt_sub_left le_succ sub_le le_add_left succ_le_succ lt_of_le_of_lt lt_succ_of_lt succ_ne_self le_antisymm sub_self ne_of_gt mul_zero lt_trichotomy le_succ_of_le add_assoc)
open Int (toNat_natCast natCast_nonneg ofNat_le toNat_sub)
open PySem.Str (ofString)
open PySem.Heap (get?_push_of_some get?_push_size SameBut lt_size get?_none_of_le)
set_option Elab.async false
set_option maxRecDepth 100000
set_option linter.unusedVariables false
set_option maxHeartbeats 8000000
set_option compiler.extract_closed false
set_option genSizeOf false
set_option genInjectivity false
section
open PySem PySem.W PyProof.Rows
namespace Mine
noncomputable def vS (x : String) (t : Nat) : Value := .str (ofString x) t
noncomputable def vI (x : Int) (t : Nat) : Value := .int x t
noncomputable def vR (a : Nat) : Value := .ref a
noncomputable def vN : Value := .none
noncomputable def eD (P : Params) (x : String) (t : Nat) (v : Value) : DictEntry := ⟨PyData.keyHash P (ofString x), vS x t, v⟩
noncomputable def eI (x : Int) (t : Nat) (v : Value) : DictEntry := ⟨x, vI x t, v⟩
noncomputable def pB : List Stmt := PySem.Challenge.pw_ik0025_03.main.body
noncomputable def pC : List Stmt := match (pB[11]? : Option Stmt) with | some (.ClassDef _ _ _ b _ _ _ _ _ _ _) => b | _ => []
noncomputable def bd (st : Option Stmt) : List Stmt := match st with | some (.FunctionDef _ _ b _ _ _ _ _ _ _) => b | _ => []
noncomputable def fO (st : Option Stmt) (q : String) (m : Value) (c : Nat) : Obj := match st with
 | some (.FunctionDef n ps b _ _ _ sc _ _ _) => { cls := .type "function", data := .func { name := n, qualname := ofString q, params := ps, body := .stmts b, scope := sc, globals := 3, closure := [], defaults := .none, kwdefaults := .none, pyModule := m, code := vR c } }
 | _ => { cls := .none }
noncomputable def hdK (P : Params) : Frag := [
(3, {cls := .type "dict", data := (.dict #[eD P "__name__" 165 (vS "law_ik0025_03" 582), eD P "__doc__" 166 vN, eD P "__package__" 167 vN, eD P "__loader__" 168 (.builtin "__main__.__loader__#opaque"), eD P "__spec__" 169 vN, eD P "__annotations__" 170 (vR 6), eD P "__builtins__" 171 (vR 4), eD P "__file__" 173 (vS "/claim/cut.py" 172), eD P "__cached__" 174 vN, eD P "_sre" 275 (vR 12), eD P "_twin_re_1" 321 (vR 36), eD P "translate" 330 (vR 43), eD P "_special_chars_map" 478 (vR 45), eD P "escape" 485 (vR 55), eD P "_translate" 506 (vR 62), eD P "_join_translated_parts" 519 (vR 69), eD P "filterfalse" 571 (vR 102), eD P "_filter" 581 (vR 113), eD P "_law_signs" 589 (vR 118), eD P "_law_edge" 599 (vR 125), eD P "_law_name" 605 (vR 130), eD P "_law_piece" 617 (vR 137), eD P "_law_steps" 623 (vR 142), eD P "_law_takes" 629 (vR 147), eD P "_law_first" 635 (vR 152), eD P "law" 641 (vR 157)] 26)}),
(35, {cls := .type "tuple", data := (.seq #[(vI 14 0), (vI 14 0), (vI 4 0), (vI 1 0), (vI 1 0), (vI 9 0), (vI 0 0), (vI 64 0), (vI 0 0), (vI 1342177280 0), (vI 0 0), (vI 0 0), (vI 0 0), (vI 0 0), (vI 0 0), (vI 17 0), (vI 0 0), (vI 13 0), (vI 11 0), (vI 9 0), (vI 0 0), (vI 64 0), (vI 0 0), (vI 1342177280 0), (vI 0 0), (vI 0 0), (vI 0 0), (vI 0 0), (vI 0 0), (vI 17 0), (vI 1 0), (vI 1 0)])}),
(36, {cls := .type "re.Pattern", data := (.fields #[(vS "([&~|])" 285), (vI 32 320), (vI 1 0), vN, vN, (vR 35), (vI 0 0)])}),
(42, {cls := .type "code", data := (.fields #[(vS "translate" 322), (vS "translate" 323), (vS "/claim/cut.py" 324), (vI 4 0), (vI 1 0), (vI 0 0), (vI 0 0), (vI 3 0), (vR 37), (.bool true), (vI 276 0), (vR 38), vN, (vR 39), (vR 40), (vR 41), (vI 328 0), (vI 4 0), (vS "/claim/cut.py" 329)])}),
(43, fO pB[3]? "translate" (vS "cpy313.fnmatch" 282) 42),
(45, {cls := .type "dict", data := (.dict #[eI 40 334 (vS "\\(" 338), eI 41 340 (vS "\\)" 344), eI 91 346 (vS "\\[" 350), eI 93 352 (vS "\\]" 356), eI 123 358 (vS "\\{" 362), eI 125 364 (vS "\\}" 368), eI 63 370 (vS "\\?" 374), eI 42 376 (vS "\\*" 380), eI 43 382 (vS "\\+" 386), eI 45 388 (vS "\\-" 392), eI 124 394 (vS "\\|" 398), eI 94 400 (vS "\\^" 404), eI 36 406 (vS "\\$" 410), eI 92 412 (vS "\\\\" 416), eI 46 418 (vS "\\." 422), eI 38 424 (vS "\\&" 428), eI 126 430 (vS "\\~" 434), eI 35 436 (vS "\\#" 440), eI 32 442 (vS "\\ " 446), eI 9 448 (vS "\\\x09" 452), eI 10 454 (vS "\\\n" 458), eI 13 460 (vS "\\\x0d" 464), eI 11 466 (vS "\\\x0b" 470), eI 12 472 (vS "\\\x0c" 476)] 24)}),
(54, {cls := .type "code", data := (.fields #[(vS "escape" 479), (vS "escape" 480), (vS "/claim/cut.py" 481), (vI 10 0), (vI 1 0), (vI 0 0), (vI 0 0), (vI 3 0), (vR 49), (.bool true), (vI 276 0), (vR 50), vN, (vR 51), (vR 52), (vR 53), (vI 483 0), (vI 10 0), (vS "/claim/cut.py" 484)])}),
(55, fO pB[6]? "escape" (vS "re" 331) 54),
(61, {cls := .type "code", data := (.fields #[(vS "_translate" 488), (vS "_translate" 489), (vS "/claim/cut.py" 490), (vI 17 0), (vI 3 0), (vI 0 0), (vI 0 0), (vI 3 0), (vR 56), (.bool true), (vI 276 0), (vR 57), vN, (vR 58), (vR 59), (vR 60), (vI 504 0), (vI 17 0), (vS "/claim/cut.py" 505)])}),
(62, fO pB[8]? "_translate" (vS "cpy313.fnmatch" 486) 61),
(68, {cls := .type "code", data := (.fields #[(vS "_join_translated_parts" 507), (vS "_join_translated_parts" 508), (vS "/claim/cut.py" 509), (vI 79 0), (vI 2 0), (vI 0 0), (vI 0 0), (vI 3 0), (vR 63), (.bool true), (vI 276 0), (vR 64), vN, (vR 65), (vR 66), (vR 67), (vI 517 0), (vI 79 0), (vS "/claim/cut.py" 518)])}),
(69, fO pB[9]? "_join_translated_parts" (vS "cpy313.fnmatch" 486) 68),
(83, {cls := .type "code", data := (.fields #[(vS "__init__" 537), (vS "filterfalse.__init__" 538), (vS "/claim/cut.py" 539), (vI 110 0), (vI 3 0), (vI 3 0), (vI 0 0), (vI 3 0), (vR 78), (.bool true), (vI 276 0), (vR 79), vN, (vR 80), (vR 81), (vR 82), (vI 543 0), (vI 110 0), (vS "/claim/cut.py" 544)])}),
(84, fO pC[1]? "filterfalse.__init__" (vS "itertools" 520) 83),
(90, {cls := .type "code", data := (.fields #[(vS "__iter__" 546), (vS "filterfalse.__iter__" 547), (vS "/claim/cut.py" 548), (vI 114 0), (vI 1 0), (vI 0 0), (vI 0 0), (vI 3 0), (vR 85), (.bool true), (vI 276 0), (vR 86), vN, (vR 87), (vR 88), (vR 89), (vI 550 0), (vI 114 0), (vS "/claim/cut.py" 551)])}),
(91, fO pC[2]? "filterfalse.__iter__" (vS "itertools" 520) 90),
(97, {cls := .type "code", data := (.fields #[(vS "__next__" 553), (vS "filterfalse.__next__" 554), (vS "/claim/cut.py" 555), (vI 117 0), (vI 1 0), (vI 0 0), (vI 0 0), (vI 3 0), (vR 92), (.bool true), (vI 276 0), (vR 93), vN, (vR 94), (vR 95), (vR 96), (vI 559 0), (vI 117 0), (vS "/claim/cut.py" 560)])}),
(98, fO pC[3]? "filterfalse.__next__" (vS "itertools" 520) 97),
(101, {cls := .type "dict", data := (.dict #[eD P "__module__" 529 (vS "itertools" 520), eD P "__firstlineno__" 533 (vI 107 532), eD P "__slots__" 536 (vR 77), eD P "__init__" 545 (vR 84), eD P "__iter__" 552 (vR 91), eD P "__next__" 561 (vR 98), eD P "__static_attributes__" 564 (vR 99), eD P "_func" 566 (vR 103), eD P "_it" 568 (vR 104), eD P "__doc__" 569 vN] 4)}),
(102, {cls := .type "type", data := .cls {name := ofString "filterfalse", bases := [.type "object"], mro := [vR 102, .type "object"], ns := 101, qualname := ofString "filterfalse", hasDict := false, slotNames := [ofString "_func", ofString "_it"]}, slots := #[none, none, some (vS "filterfalse" 522), some (vS "filterfalse" 530), some (.builtin "object.__new__"), some (.bool false)]}),
(103, {cls := .type "member_descriptor", data := (.fields #[(vS "_func" 565), (vR 102), (.builtin "proto.slot"), (.builtin "proto.slot#set"), (vI 1 0)])}),
(104, {cls := .type "member_descriptor", data := (.fields #[(vS "_it" 567), (vR 102), (.builtin "proto.slot"), (.builtin "proto.slot#set"), (vI 0 0)])}),
(112, {cls := .type "code", data := (.fields #[(vS "_filter" 574), (vS "_filter" 575), (vS "/claim/cut.py" 576), (vI 127 0), (vI 2 0), (vI 0 0), (vI 0 0), (vI 3 0), (vR 107), (.bool true), (vI 276 0), (vR 108), vN, (vR 109), (vR 110), (vR 111), (vI 579 0), (vI 127 0), (vS "/claim/cut.py" 580)])}),
(113, fO pB[13]? "_filter" (vS "cpy313.filecmp" 572) 112),
(117, {cls := .type "code", data := (.fields #[(vS "_law_signs" 584), (vS "_law_signs" 585), (vS "/claim/cut.py" 586), (vI 130 0), (vI 1 0), (vI 0 0), (vI 0 0), (vI 3 0), (vR 114), (.bool true), (vI 276 0), (vR 115), vN, vN, vN, (vR 116), (vI 587 0), (vI 130 0), (vS "/claim/cut.py" 588)])}),
(118, fO pB[15]? "_law_signs" (vS "law_ik0025_03" 582) 117),
(124, {cls := .type "code", data := (.fields #[(vS "_law_edge" 590), (vS "_law_edge" 591), (vS "/claim/cut.py" 592), (vI 133 0), (vI 3 0), (vI 0 0), (vI 0 0), (vI 3 0), (vR 119), (.bool true), (vI 276 0), (vR 120), vN, (vR 121), (vR 122), (vR 123), (vI 597 0), (vI 133 0), (vS "/claim/cut.py" 598)])}),
(125, fO pB[16]? "_law_edge" (vS "law_ik0025_03" 582) 124),
(129, {cls := .type "code", data := (.fields #[(vS "_law_name" 600), (vS "_law_name" 601), (vS "/claim/cut.py" 602), (vI 140 0), (vI 2 0), (vI 0 0), (vI 0 0), (vI 3 0), (vR 126), (.bool true), (vI 276 0), (vR 127), vN, vN, vN, (vR 128), (vI 603 0), (vI 140 0), (vS "/claim/cut.py" 604)])}),
(130, fO pB[17]? "_law_name" (vS "law_ik0025_03" 582) 129),
(136, {cls := .type "code", data := (.fields #[(vS "_law_piece" 606), (vS "_law_piece" 607), (vS "/claim/cut.py" 608), (vI 143 0), (vI 3 0), (vI 0 0), (vI 0 0), (vI 3 0), (vR 131), (.bool true), (vI 276 0), (vR 132), vN, (vR 133), (vR 134), (vR 135), (vI 615 0), (vI 143 0), (vS "/claim/cut.py" 616)])}),
(137, fO pB[18]? "_law_piece" (vS "law_ik0025_03" 582) 136),
(141, {cls := .type "code", data := (.fields #[(vS "_law_steps" 618), (vS "_law_steps" 619), (vS "/claim/cut.py" 620), (vI 150 0), (vI 2 0), (vI 0 0), (vI 0 0), (vI 3 0), (vR 138), (.bool true), (vI 276 0), (vR 139), vN, vN, vN, (vR 140), (vI 621 0), (vI 150 0), (vS "/claim/cut.py" 622)])}),
(142, fO pB[19]? "_law_steps" (vS "law_ik0025_03" 582) 141),
(146, {cls := .type "code", data := (.fields #[(vS "_law_takes" 624), (vS "_law_takes" 625), (vS "/claim/cut.py" 626), (vI 189 0), (vI 2 0), (vI 0 0), (vI 0 0), (vI 3 0), (vR 143), (.bool true), (vI 276 0), (vR 144), vN, vN, vN, (vR 145), (vI 627 0), (vI 189 0), (vS "/claim/cut.py" 628)])}),
(147, fO pB[20]? "_law_takes" (vS "law_ik0025_03" 582) 146),
(151, {cls := .type "code", data := (.fields #[(vS "_law_first" 630), (vS "_law_first" 631), (vS "/claim/cut.py" 632), (vI 202 0), (vI 4 0), (vI 0 0), (vI 0 0), (vI 3 0), (vR 148), (.bool true), (vI 276 0), (vR 149), vN, vN, vN, (vR 150), (vI 633 0), (vI 202 0), (vS "/claim/cut.py" 634)])}),
(152, fO pB[21]? "_law_first" (vS "law_ik0025_03" 582) 151),
(156, {cls := .type "code", data := (.fields #[(vS "law" 636), (vS "law" 637), (vS "/claim/cut.py" 638), (vI 210 0), (vI 1 0), (vI 0 0), (vI 0 0), (vI 3 0), (vR 153), (.bool true), (vI 276 0), (vR 154), vN, vN, vN, (vR 155), (vI 639 0), (vI 210 0), (vS "/claim/cut.py" 640)])}),
(157, fO pB[22]? "law" (vS "law_ik0025_03" 582) 156)]
noncomputable def hdA : List Addr := [3, 35, 36, 42, 43, 45, 54, 55, 61, 62, 68, 69, 83, 84, 90, 91, 97, 98, 101, 102, 103, 104, 112, 113, 117, 118, 124, 125, 129, 130, 136, 137, 141, 142, 146, 147, 151, 152, 156, 157]
theorem zd4 (P : Params)   : hdA = (hdK P).map (·.1) := by kernel_rfl
end Mine
namespace Mine
noncomputable def isFl : Data → Bool
 | .fields _ => true
 | _ => false
noncomputable def isNo : Value → Bool
 | .none => true
 | _ => false
noncomputable def isCo : Value → Bool
 | .type T => T == "code"
 | _ => false
noncomputable def isTb (o : Obj) : Bool := isNo o.cls && isFl o.data
noncomputable def isTab (o : Obj) : Bool := (isNo o.cls || isCo o.cls) && isFl o.data
theorem qo2 {o : Obj} (h : isTb o = true) : isTab o = true := by
 obtain ⟨h1, h2⟩ := and_eq_true_iff.mp h
 unfold isTab; rw [h1, h2]; rfl
theorem q52 {o : Obj} (h : isTab o = false) : isTb o = false := by
 cases q : isTb o with
 | false => rfl
 | true => rw [qo2 q] at h; exact absurd h.symm Bool.false_ne_true
noncomputable def isDi : Data → Bool
 | .dict _ _ => true
 | _ => false
theorem di_fl {d : Data} (h : isDi d = true) : isFl d = false := by
 cases d <;> first | rfl | cases h
noncomputable def isFr (o : Obj) : Bool := isDi o.data
noncomputable def Sim (h' : Heap) (b : Addr) (o : Obj) : Prop := match isFr o with
 | true => ∃ sl, h'.get? b = some { o with slots := sl }
 | false => h'.get? b = some o
theorem Sim.of {h' : Heap} {b : Addr} {o : Obj} (e : h'.get? b = some o) : Sim h' b o := by
 unfold Sim
 split
 ·exact ⟨o.slots, e⟩
 exact e
theorem Sim.eq {h' : Heap} {b : Addr} {o : Obj} (x : Sim h' b o) (hf : isFr o = false) : h'.get? b = some o := by
 unfold Sim at x; rw [hf] at x; exact x
theorem Sim.sl {h' : Heap} {b : Addr} {o : Obj} (x : Sim h' b o) : ∃ sl, h'.get? b = some { o with slots := sl } := by
 cases hf : isFr o with
 | true => unfold Sim at x; rw [hf] at x; exact x
 | false => exact ⟨o.slots, x.eq hf⟩
theorem Sim.trans {h₁ h₂ : Heap} {b : Addr} {o : Obj} (x : Sim h₁ b o) (y : ∀ o', h₁.get? b = some o' → isTab o' = isTab o → Sim h₂ b o') : Sim h₂ b o := by
 cases hf : isFr o with
 | true =>
  obtain ⟨sl, e⟩ := x.sl
  obtain ⟨sl', e'⟩ := (y _ e rfl).sl
  unfold Sim; rw [hf]; exact ⟨sl', e'⟩
 | false => exact y o (x.eq hf) rfl
noncomputable def isLo (o : Obj) : Bool := isTab o || isFr o
theorem lot {o : Obj} (h : isLo o = false) : isTab o = false := (or_eq_false_iff.mp h).1
theorem lof {o : Obj} (h : isLo o = false) : isFr o = false := (or_eq_false_iff.mp h).2
theorem lomk {o : Obj} (h : isTab o = false) (h' : isFr o = false) : isLo o = false := or_eq_false_iff.mpr ⟨h, h'⟩
theorem Sim.lo {h' : Heap} {b : Addr} {o : Obj} (x : Sim h' b o) (hf : isLo o = false) : h'.get? b = some o := x.eq (lof hf)
noncomputable def Kp (h h' : Heap) : Prop := ∀ b o, h.get? b = some o → isTab o = false → Sim h' b o
theorem Kp.refl (h : Heap) : Kp h h := fun _ _ e _ => .of e
theorem Kp.trans {h₁ h₂ h₃ : Heap} (x : Kp h₁ h₂) (y : Kp h₂ h₃) : Kp h₁ h₃ := fun b o e t => (x b o e t).trans fun o' e' t' => y b o' e' (t'.trans t)
theorem Kp.of {h h' : Heap} (k : ∀ b o, h.get? b = some o → h'.get? b = some o) : Kp h h' := fun b o e _ => .of (k b o e)
theorem Kp.push (h : Heap) (o : Obj) : Kp h (h.push o) := Kp.of fun _ _ e => get?_push_of_some o e
noncomputable def KpH (H : List Addr) (h h' : Heap) : Prop := ∀ b o, b ∉ H → h.get? b = some o → isTab o = false → Sim h' b o
theorem Kp.toH {h h' : Heap} (k : Kp h h') (H : List Addr) : KpH H h h' := fun b o _ e t => k b o e t
theorem q29 {o : Obj} {T : String} (h : o.cls = .type T) (hT : (T == "code") = false := by decide) : isTab o = false := by
 unfold isTab; rw [h]; show ((false || (T == "code")) && _) = false; rw [hT]; rfl
theorem qb1 {o : Obj} (h : isFl o.data = false) : isTab o = false := by
 unfold isTab; rw [h]; exact Bool.and_false _
theorem q41 {o : Obj} {es ep} (h : o.data = .dict es ep) : isTab o = false := qb1 (by rw [h]; rfl)
theorem q10 {o : Obj} {v} (h : o.data = .cell v) : isTab o = false := qb1 (by rw [h]; rfl)
theorem q40 {o : Obj} {v} (h : o.data = .func v) : isTab o = false := qb1 (by rw [h]; rfl)
theorem qk7 {o : Obj} {es ep} (h : o.data = .dict es ep) : isFr o = true := by
 unfold isFr; rw [h]; rfl
theorem q21 {o : Obj} {v} (h : o.data = .cell v) : isFr o = false := by
 unfold isFr; rw [h]; rfl
theorem qk6 {o : Obj} {v} (h : o.data = .func v) : isFr o = false := by
 unfold isFr; rw [h]; rfl
theorem qo3 {o : Obj} {v n} (h : o.data = .seq v n) : isFr o = false := by
 unfold isFr; rw [h]; rfl
theorem q07 {o : Obj} {v} (h : o.data = .fields v) : isFr o = false := by
 unfold isFr; rw [h]; rfl
theorem q03 {o : Obj} {T : String} {v} (h : o.cls = .type T) (hd : o.data = .fields v) (hT : (T == "code") = false := by decide) : isLo o = false := lomk (q29 h hT) (q07 hd)
theorem ns_kp {h h' : Heap} {a : Addr} {m} (x : h.Ns a m) (k : Kp h h') : h'.Ns a m :=
 let ⟨o, es, ep, ho, hd, r⟩ := x; let ⟨_, e⟩ := (k _ _ ho (q41 hd)).sl; ⟨_, es, ep, e, hd, r⟩
theorem q80 {h h' : Heap} {a : Addr} {vs} (x : h.IsList a vs) (k : Kp h h') : h'.IsList a vs :=
 let ⟨o, ho, hc, n, r⟩ := x; ⟨o, (k _ _ ho (q29 hc)).eq (qo3 r), hc, n, r⟩
theorem q81 {h h' : Heap} {a : Addr} {v} (x : h.IsCell a v) (k : Kp h h') : h'.IsCell a v :=
 let ⟨o, ho, hd⟩ := x; ⟨o, (k _ _ ho (q10 hd)).eq (q21 hd), hd⟩
theorem q16 {h h' : Heap} (x : h.NoLimit) (k : Kp h h') : h'.NoLimit :=
 let ⟨mc, a, b⟩ := x; ⟨mc, ns_kp a k, b⟩
noncomputable def LstAt (h : Heap) (a : Addr) (vs : Array Value) : Prop := ∃ n, h.get? a = some { cls := .type "list", dict := none, data := .seq vs n, slots := #[] }
noncomputable def TupAt (h : Heap) (a : Addr) (vs : Array Value) : Prop := ∃ n, h.get? a = some { cls := .type "tuple", dict := none, data := .seq vs n, slots := #[] }
theorem LstAt.isList {h : Heap} {a : Addr} {vs} (x : LstAt h a vs) : h.IsList a vs := let ⟨n, e⟩ := x; ⟨_, e, rfl, n, rfl⟩
theorem TupAt.T6 {h : Heap} {a : Addr} {vs} (x : TupAt h a vs) : h.IsTuple a vs := let ⟨n, e⟩ := x; ⟨_, e, rfl, n, rfl⟩
theorem LstAt.kp {h h' : Heap} {a : Addr} {vs} (x : LstAt h a vs) (k : Kp h h') : LstAt h' a vs := let ⟨n, e⟩ := x; ⟨n, k _ _ e rfl⟩
theorem LstAt.new (h : Heap) (vs : Array Value) : LstAt (h.push { cls := .type "list", data := .seq vs }) h.objs.size vs := ⟨0, get?_push_size _ rfl⟩
theorem TupAt.new (h : Heap) (vs : Array Value) : TupAt (h.push { cls := .type "tuple", data := .seq vs }) h.objs.size vs := ⟨0, get?_push_size _ rfl⟩
theorem LstAt.lo {h : Heap} {a : Addr} {vs} (x : LstAt h a vs) : ∃ o, h.get? a = some o ∧ isLo o = false := let ⟨_, e⟩ := x; ⟨_, e, rfl⟩
theorem LstAt.some {h : Heap} {a : Addr} {vs} (x : LstAt h a vs) : ∃ o, h.get? a = some o ∧ isTab o = false := let ⟨_, e⟩ := x; ⟨_, e, rfl⟩
set_option genInjectivity true in
inductive PV where
 | none
 | bool (b : Bool)
 | int (i : Int)
 | str (s : List Nat)
 | list (xs : List PV)
 | tup (xs : List PV)
 | rng (a b : Int)
 | obj (a : Nat)
 | adr (a : Nat)
noncomputable def IsRng (h : Heap) (a : Addr) (x y : Int) : Prop := ∃ t u v, h.get? a = some { cls := .type "range", dict := none, data := .fields #[.int x t, .int y u, .int 1 v], slots := #[] }
noncomputable def IsObj (h : Heap) (a : Addr) : Prop := ∃ o, h.get? a = some o ∧ o.cls = .type "object"
mutual
inductive Den (H : List Addr) (h : Heap) : Value → PV → Prop
 | none : Den H h .none .none
 | bool (b) : Den H h (.bool b) (.bool b)
 | int (i t) : Den H h (.int i t) (.int i)
 | str (s t) : Den H h (.str ⟨List.toArray s⟩ t) (.str s)
 | list {a vs xs} : a ∉ H → LstAt h a vs → Dens H h vs.toList xs → Den H h (.ref a) (.list xs)
 | tup {a vs xs} : a ∉ H → TupAt h a vs → Dens H h vs.toList xs → Den H h (.ref a) (.tup xs)
 | rng {a x y} : a ∉ H → IsRng h a x y → Den H h (.ref a) (.rng x y)
 | obj {a} : a ∉ H → IsObj h a → Den H h (.ref a) (.obj a)
 | adr (a) : Den H h (.ref a) (.adr a)
inductive Dens (H : List Addr) (h : Heap) : List Value → List PV → Prop
 | nil : Dens H h [] []
 | cons {v vs x xs} : Den H h v x → Dens H h vs xs → Dens H h (v :: vs) (x :: xs)
end
theorem Den.i {H : List Addr} {h : Heap} {i : Int} {motive : (V : Value) → Den H h V (.int i) → Prop} (int : ∀ t, motive _ (.int i t)) {V : Value} (d : Den H h V (.int i)) : motive V d := by cases d; exact int _
theorem Den.s {H : List Addr} {h : Heap} {s : List Nat} {motive : (V : Value) → Den H h V (.str s) → Prop} (str : ∀ t, motive _ (.str s t)) {V : Value} (d : Den H h V (.str s)) : motive V d := by cases d; exact str _
theorem Den.b {H : List Addr} {h : Heap} {b : Bool} {motive : (V : Value) → Den H h V (.bool b) → Prop} (bool : motive _ (.bool b)) {V : Value} (d : Den H h V (.bool b)) : motive V d := by cases d; exact bool
theorem Den.l {H : List Addr} {h : Heap} {xs : List PV} {motive : (V : Value) → Den H h V (.list xs) → Prop} (list : ∀ {a vs} (ha : a ∉ H) (hl : LstAt h a vs) (hd : Dens H h vs.toList xs), motive _ (.list ha hl hd)) {V : Value} (d : Den H h V (.list xs)) : motive V d := by cases d; apply list <;> assumption
theorem Den.t {H : List Addr} {h : Heap} {xs : List PV} {motive : (V : Value) → Den H h V (.tup xs) → Prop} (tup : ∀ {a vs} (ha : a ∉ H) (hl : TupAt h a vs) (hd : Dens H h vs.toList xs), motive _ (.tup ha hl hd)) {V : Value} (d : Den H h V (.tup xs)) : motive V d := by cases d; apply tup <;> assumption
theorem Den.r {H : List Addr} {h : Heap} {x y : Int} {motive : (V : Value) → Den H h V (.rng x y) → Prop} (rng : ∀ {a} (ha : a ∉ H) (hl : IsRng h a x y), motive _ (.rng ha hl)) {V : Value} (d : Den H h V (.rng x y)) : motive V d := by cases d; apply rng <;> assumption
theorem Den.o {H : List Addr} {h : Heap} {a : Addr} {motive : (V : Value) → Den H h V (.obj a) → Prop} (obj : ∀ (ha : a ∉ H) (hl : IsObj h a), motive _ (.obj ha hl)) {V : Value} (d : Den H h V (.obj a)) : motive V d := by cases d; apply obj <;> assumption
theorem qf7 {H : List Addr} {h h' : Heap} {a : Addr} {vs} (x : LstAt h a vs) (k : KpH H h h') (ha : a ∉ H) : LstAt h' a vs :=
 let ⟨n, ho⟩ := x; ⟨n, k _ _ ha ho rfl⟩
theorem qd3 {H : List Addr} {h h' : Heap} {a : Addr} {vs} (x : TupAt h a vs) (k : KpH H h h') (ha : a ∉ H) : TupAt h' a vs :=
 let ⟨n, ho⟩ := x; ⟨n, k _ _ ha ho rfl⟩
theorem qz8 {H : List Addr} {h h' : Heap} {a : Addr} {x y} (z : IsRng h a x y) (k : KpH H h h') (ha : a ∉ H) : IsRng h' a x y :=
 let ⟨t, u, v, ho⟩ := z; ⟨t, u, v, k _ _ ha ho rfl⟩
theorem qz9 {H : List Addr} {h h' : Heap} {a : Addr} (z : IsObj h a) (k : KpH H h h') (ha : a ∉ H) : IsObj h' a :=
 let ⟨o, ho, hc⟩ := z; let ⟨_, e⟩ := (k _ _ ha ho (q29 hc)).sl; ⟨_, e, hc⟩
noncomputable def Nw (h : Heap) (a : Addr) : Prop := ∀ o, h.get? a = some o → isTab o = true
theorem Nw.none {h : Heap} {a : Addr} (e : h.get? a = Option.none) : Nw h a := fun o q => by cases e.symm.trans q
theorem Den.kpN {H H' : List Addr} {h h' : Heap} (k : KpH H h h') (sub : ∀ a, a ∈ H' → a ∈ H ∨ Nw h a) {V : Value} {v : PV} (d : Den H h V v) : Den H' h' V v :=
 Den.rec (motive_1 := fun V v _ => Den H' h' V v) (motive_2 := fun V v _ => Dens H' h' V v) .none .bool .int .str
  (fun ha hl _ ih => .list (fun hx => (sub _ hx).elim ha fun q => by obtain ⟨_, ho⟩ := hl; exact Bool.noConfusion (q _ ho)) (qf7 hl k ha) ih)
  (fun ha hl _ ih => .tup (fun hx => (sub _ hx).elim ha fun q => by obtain ⟨_, ho⟩ := hl; exact Bool.noConfusion (q _ ho)) (qd3 hl k ha) ih)
  (fun ha hr => .rng (fun hx => (sub _ hx).elim ha fun q => by obtain ⟨_, _, _, ho⟩ := hr; exact Bool.noConfusion (q _ ho)) (qz8 hr k ha))
  (fun ha hr => .obj (fun hx => (sub _ hx).elim ha fun q => by obtain ⟨o, ho, hc⟩ := hr; exact Bool.noConfusion ((q29 hc).symm.trans (q _ ho))) (qz9 hr k ha))
  .adr .nil (fun _ _ a b => .cons a b) d
theorem Dens.cn {H : List Addr} {h : Heap} {x : PV} {xs : List PV} {motive : (V : List Value) → Dens H h V (x :: xs) → Prop} (cons : ∀ {v vs} (a : Den H h v x) (b : Dens H h vs xs), motive (v :: vs) (.cons a b)) {V : List Value} (d : Dens H h V (x :: xs)) : motive V d := by cases d; apply cons <;> assumption
theorem Dens.nl {H : List Addr} {h : Heap} {motive : (V : List Value) → Dens H h V [] → Prop} (nil : motive [] .nil) {V : List Value} (d : Dens H h V []) : motive V d := by cases d; exact nil
theorem Dens.ind {H : List Addr} {h : Heap} {M : List Value → List PV → Prop} (n : M [] []) (c : ∀ {v vs x xs}, Den H h v x → Dens H h vs xs → M vs xs → M (v :: vs) (x :: xs)) {Vs : List Value} {vs : List PV} (d : Dens H h Vs vs) : M Vs vs :=
 Dens.rec (motive_1 := fun _ _ _ => True) (motive_2 := fun Vs vs _ => M Vs vs) trivial (fun _ => trivial) (fun _ _ => trivial) (fun _ _ => trivial) (fun _ _ _ _ => trivial) (fun _ _ _ _ => trivial) (fun _ _ => trivial) (fun _ _ => trivial) (fun _ => trivial) n (fun a b _ ih => c a b ih) d
theorem Dens.kpN {H H' : List Addr} {h h' : Heap} (k : KpH H h h') (sub : ∀ a, a ∈ H' → a ∈ H ∨ Nw h a) {Vs : List Value} {vs : List PV} (d : Dens H h Vs vs) : Dens H' h' Vs vs :=
 d.ind .nil fun a _ ih => .cons (a.kpN k sub) ih
theorem Den.kpH {H H' : List Addr} {h h' : Heap} (k : KpH H h h') (sub : ∀ a, a ∈ H' → a ∈ H ∨ h.get? a = Option.none) {V : Value} {v : PV} (d : Den H h V v) : Den H' h' V v := d.kpN k fun a m => (sub a m).imp id Nw.none
theorem Dens.kpH {H H' : List Addr} {h h' : Heap} (k : KpH H h h') (sub : ∀ a, a ∈ H' → a ∈ H ∨ h.get? a = Option.none) {V : List Value} {v : List PV} (d : Dens H h V v) : Dens H' h' V v := d.kpN k fun a m => (sub a m).imp id Nw.none
theorem Den.kp {H : List Addr} {h h' : Heap} (k : Kp h h') {V : Value} {v : PV} (d : Den H h V v) : Den H h' V v := d.kpH (k.toH H) fun _ h => .inl h
theorem Dens.kp {H : List Addr} {h h' : Heap} (k : Kp h h') {V : List Value} {v : List PV} (d : Dens H h V v) : Dens H h' V v := d.kpH (k.toH H) fun _ h => .inl h
theorem Dens.length {H : List Addr} {h : Heap} {Vs : List Value} {vs : List PV} (d : Dens H h Vs vs) : Vs.length = vs.length :=
 d.ind (M := fun Vs vs => Vs.length = vs.length) rfl fun _ _ ih => congrArg (· + 1) ih
theorem Dens.get {H : List Addr} {h : Heap} {Vs : List Value} {vs : List PV} (d : Dens H h Vs vs) : ∀ {i : Nat} {v : PV}, vs[i]? = some v → ∃ V, Vs[i]? = some V ∧ Den H h V v :=
 d.ind (M := fun Vs vs => ∀ {i : Nat} {v : PV}, vs[i]? = some v → ∃ V, Vs[i]? = some V ∧ Den H h V v) (fun e => by simp at e) fun a _ ih i v e => by
  cases i with
  | zero => cases e; exact ⟨_, rfl, a⟩
  | succ i => exact ih e
theorem Dens.R3 {H : List Addr} {h : Heap} {Vs : List Value} {vs : List PV} (d : Dens H h Vs vs) : ∀ {i : Nat} {V : Value}, Vs[i]? = some V → ∃ v, vs[i]? = some v ∧ Den H h V v :=
 d.ind (M := fun Vs vs => ∀ {i : Nat} {V : Value}, Vs[i]? = some V → ∃ v, vs[i]? = some v ∧ Den H h V v) (fun e => by simp at e) fun a _ ih i v e => by
  cases i with
  | zero => cases e; exact ⟨_, rfl, a⟩
  | succ i => exact ih e
theorem Dens.append {H : List Addr} {h : Heap} {Vs Ws : List Value} {vs ws : List PV} (d : Dens H h Vs vs) (y : Dens H h Ws ws) : Dens H h (Vs ++ Ws) (vs ++ ws) :=
 d.ind (M := fun Vs vs => Dens H h (Vs ++ Ws) (vs ++ ws)) y fun a _ ih => .cons a ih
theorem Dens.take {H : List Addr} {h : Heap} {Vs : List Value} {vs : List PV} (d : Dens H h Vs vs) : ∀ n, Dens H h (Vs.take n) (vs.take n) :=
 d.ind (M := fun Vs vs => ∀ n, Dens H h (Vs.take n) (vs.take n)) (fun n => by cases n <;> exact .nil) fun a _ ih n => by
  cases n with
  | zero => exact .nil
  | succ n => exact .cons a (ih n)
theorem Dens.drop {H : List Addr} {h : Heap} {Vs : List Value} {vs : List PV} (d : Dens H h Vs vs) : ∀ n, Dens H h (Vs.drop n) (vs.drop n) :=
 d.ind (M := fun Vs vs => ∀ n, Dens H h (Vs.drop n) (vs.drop n)) (fun n => by cases n <;> exact .nil) fun a b ih n => by
  cases n with
  | zero => exact .cons a b
  | succ n => exact ih n
noncomputable def TabOK (h : Heap) (P : Addr) (es : List (Pos × Str)) : Prop :=
 ∃ ps, h.get? P = some (PySem.W.tabObj ps) ∧ TriplesOk ps.toList ∧ ∀ e ∈ es, codeAmong e.1 ps.toList = none ∨
  ∃ c' o vs t, codeAmong e.1 ps.toList = some (.ref c') ∧ h.get? c' = some o ∧ o.cls = .type "code" ∧ o.data = .fields vs ∧ vs[1]? = some (.str e.2 t)
theorem TabOK.keep {h h' : Heap} {P : Addr} {es : List (Pos × Str)} (x : TabOK h P es) (k : ∀ b o, h.get? b = some o → isTab o = true → h'.get? b = some o) : TabOK h' P es := by
 obtain ⟨ps, h1, h2, h3⟩ := x
 refine ⟨ps, k _ _ h1 rfl, h2, fun e he => ?_⟩
 rcases h3 e he with q | ⟨c', o, vs, t, e1, e2, e3, e4, e5⟩
 ·exact .inl q
 exact .inr ⟨c', o, vs, t, e1, k _ _ e2 (by unfold isTab; rw [e3, e4]; rfl), e3, e4, e5⟩
structure Cx where
 prog : Program
 w : World
 hB : Heap
 os : OsState
 mg : Str → Option Value
 mb : Str → Option Value
 tabs : List (Addr × List (Pos × Str))
 stk : List Addr
 g : hB.Ns mainGlobals mg
 b : hB.Ns builtinsNs mb
 builtins : ∀ x : Str, x ≠ "__name__" → mb x = bootBuiltins x
 nolimit : hB.NoLimit
structure Cx.Ok (Γ : Cx) (s : Shared) : Prop where
 base : ∀ b o, Γ.hB.get? b = some o → isTb o = false → s.heap.get? b = some o
 tabs : ∀ p ∈ Γ.tabs, TabOK s.heap p.1 p.2
 gens : AllBare s.gens
 os : s.os = Γ.os
 all : ∀ b, Γ.hB.get? b ≠ none → s.heap.get? b ≠ none
 frs : ∀ L ∈ Γ.stk, ∃ o, s.heap.get? L = some o ∧ isFr o = true
 off : ∀ L ∈ Γ.stk, Γ.hB.get? L = none
 old : ∀ b o, Γ.hB.get? b = some o → (∀ p ∈ Γ.tabs, p.1 ≠ b) → s.heap.get? b = some o
theorem Cx.Ok.kb {Γ : Cx} {s : Shared} (ok : Γ.Ok s) : Kp Γ.hB s.heap := fun b o e t => .of (ok.base b o e (q52 t))
theorem Cx.Ok.keeps {Γ : Cx} {s : Shared} (ok : Γ.Ok s) {h' : Heap} {t : Nat} (k : ∀ b o, s.heap.get? b = some o → h'.get? b = some o) : Γ.Ok { s with heap := h', toks := t } :=
 ⟨fun b o e t => k b o (ok.base b o e t), fun p hp => (ok.tabs p hp).keep fun b o e _ => k b o e, ok.gens, ok.os, fun b hb => by
  obtain ⟨o, ho⟩ := ne_none_iff_exists'.mp (ok.all b hb)
  rw [show ({ s with heap := h', toks := t } : Shared).heap = h' from rfl, k _ _ ho]; simp,
  fun L hL => let ⟨o, ho, hf⟩ := ok.frs L hL; ⟨o, k _ _ ho, hf⟩, ok.off, fun b o e t => k b o (ok.old b o e t)⟩
theorem Cx.Ok.toks {Γ : Cx} {s : Shared} (ok : Γ.Ok s) {t : Nat} : Γ.Ok { s with toks := t } := ok.keeps fun _ _ e => e
structure Room (Γ : Cx) (A : Around) (n : Nat) : Prop where
 frames : ∃ l : List Env, A.frames = some l ∧ l.map (·.frame) = Γ.stk.map some ∧ ∀ env ∈ l, env.scope.kind ≠ .module
 handled : A.handled = none
 depth : A.depth + 4 * n ≤ 900
 units : A.units + 64 * n + 200 ≤ 9900
noncomputable def Live (H : List Addr) (h : Heap) : Prop := ∀ a ∈ H, ∃ o, h.get? a = some o ∧ isTab o = false
theorem Live.kp {H : List Addr} {h h' : Heap} (l : Live H h) (k : Kp h h') : Live H h' := fun a ha => let ⟨o, ho, ht⟩ := l a ha; let ⟨_, e⟩ := (k _ _ ho ht).sl; ⟨_, e, ht⟩
theorem Live.fresh {H : List Addr} {h : Heap} (l : Live H h) {a : Addr} (e : h.get? a = none) : a ∉ H := fun ha => by
 obtain ⟨o, ho, _⟩ := l a ha; rw [e] at ho; exact absurd ho.symm (some_ne_none _)
theorem q00 (h : Heap) : h.get? h.objs.size = none := get?_none_of_le (Nat.le_refl _)
theorem Live.size {H : List Addr} {h : Heap} (l : Live H h) : h.objs.size ∉ H := l.fresh (q00 h)
inductive RV where
 | pv (v : PV)
 | ptr (k : Nat)
 | app (k : Nat)
 | eqa (k a : Nat)
structure St where
 v : List (String × RV)
 o : List (Nat × List PV)
noncomputable def At (env : Env) (h : Heap) (x : String) (V : Value) : Prop :=
 (env.kindOf (ofString x) = some .local ∧ ∃ m, h.Ns env.locals m ∧ m (ofString x) = some V) ∨
 ((env.kindOf (ofString x) = some .cell ∨ (env.kindOf (ofString x) = some .free ∧ (ofString x == ("__classdict__" : Str)) = false)) ∧ ∃ c, env.cells.lookup (ofString x) = some c ∧ h.IsCell c (some V))
theorem At.kp {env : Env} {h h' : Heap} {x : String} {V : Value} (a : At env h x V) (k : Kp h h') : At env h' x V :=
 a.imp (fun ⟨e, m, hn, hm⟩ => ⟨e, m, ns_kp hn k, hm⟩) fun ⟨e, c, hc, hv⟩ => ⟨e, c, hc, q81 hv k⟩
noncomputable def qg1 (a : Addr) : Obj := { cls := .type "builtin_function_or_method", data := .fields #[.builtin "list.append", .ref a] }
noncomputable def DenR (φ : Nat → Addr) (H : List Addr) (h : Heap) (V : Value) : RV → Prop
 | .pv v => Den H h V v
 | .ptr k => V = .ref (φ k)
 | .app k => ∃ b, V = .ref b ∧ b ∉ H ∧ h.get? b = some (qg1 (φ k))
 | .eqa k a => φ k = a
theorem DenR.kp {φ : Nat → Addr} {H : List Addr} {h h' : Heap} {V : Value} (k : Kp h h') : ∀ {r : RV}, DenR φ H h V r → DenR φ H h' V r
 | .pv _, d => Den.kp k d
 | .ptr _, d => d
 | .eqa _ _, d => d
 | .app _, ⟨b, e, hb, hg⟩ => ⟨b, e, hb, k _ _ hg rfl⟩
structure EnvOK (env : Env) (φ : Nat → Addr) (H : List Addr) (σ : St) (h : Heap) : Prop where
 vars : ∀ x r, (x, r) ∈ σ.v → ∃ V, At env h x V ∧ DenR φ H h V r
 own : ∀ k xs, (k, xs) ∈ σ.o → φ k ∈ H ∧ ∃ vs, LstAt h (φ k) vs ∧ Dens H h vs.toList xs
 cells : ∀ x c, env.cells.lookup x = some c → ∃ v, h.IsCell c v
theorem EnvOK.kp {env : Env} {φ : Nat → Addr} {H : List Addr} {σ : St} {h h' : Heap} (x : EnvOK env φ H σ h) (k : Kp h h') : EnvOK env φ H σ h' :=
 ⟨fun y r m => let ⟨V, a, d⟩ := x.vars y r m; ⟨V, a.kp k, d.kp k⟩, fun j xs m => let ⟨a, vs, l, d⟩ := x.own j xs m; ⟨a, vs, l.kp k, d.kp k⟩, fun y c e => let ⟨v, hv⟩ := x.cells y c e; ⟨v, q81 hv k⟩⟩
structure EnvG (env : Env) : Prop where
 kind : env.scope.kind = .function
 globals : env.globals = mainGlobals
 builtins : env.builtins = builtinsNs
structure EvP (Γ : Cx) (n : Nat) (env : Env) (σ : St) {α : Type} (t : Sem α) (P : (Nat → Addr) → List Addr → Heap → α → Prop) : Prop where
 run : ∀ (A : Around) (E : Value → Shared → Prop) (s : Shared) (φ : Nat → Addr) (H : List Addr), Room Γ A n → Γ.Ok s → Live H s.heap → EnvOK env φ H σ s.heap →
  ∀ Q : α → Shared → Prop, (∀ V s', Kp s.heap s'.heap → Γ.Ok s' → P φ H s'.heap V → Q V s') → wpAny (model Γ.prog Γ.w) A t Q E s
noncomputable def PR (r : RV) : (Nat → Addr) → List Addr → Heap → Value → Prop := fun φ H h V => DenR φ H h V r
noncomputable def PL (xs : List PV) : (Nat → Addr) → List Addr → Heap → Value → Prop := fun _ H h V => ∃ a vs, V = .ref a ∧ LstAt h a vs ∧ Dens H h vs.toList xs
noncomputable def PB (b : Bool) : (Nat → Addr) → List Addr → Heap → Bool → Prop := fun _ _ _ c => c = b
noncomputable abbrev Ev (Γ : Cx) (n : Nat) (env : Env) (σ : St) (e : Expr) (r : RV) : Prop := EvP Γ n env σ (eval e env) (PR r)
noncomputable abbrev EvL (Γ : Cx) (n : Nat) (env : Env) (σ : St) (e : Expr) (xs : List PV) : Prop := EvP Γ n env σ (eval e env) (PL xs)
noncomputable abbrev Evb (Γ : Cx) (n : Nat) (env : Env) (σ : St) (e : Expr) (b : Bool) : Prop := EvP Γ n env σ (isTrue e env (eval e env)) (PB b)
section
variable {Γ : Cx} {n : Nat} {env : Env} {σ : St}
theorem EvL.of_list {e : Expr} {xs : List PV} (h : Ev Γ n env σ e (.pv (.list xs))) : EvL Γ n env σ e xs :=
 .mk fun A E s φ H R ok lv eo Q k => h.run A E s φ H R ok lv eo Q fun V s' k1 ok1 d => k V s' k1 ok1 (by cases d using Den.l with | list ha hl hd => exact ⟨_, _, rfl, hl, hd⟩)
theorem q02 {A : Around} {E : Value → Shared → Prop} {s : Shared} {x : String} {V : Value} {Q : Value → Shared → Prop} {M : Model} (hk : env.scope.kind = .function) (a : At env s.heap x V) (h : Q V s) :
  wpAny M A (loadName env (ofString x)) Q E s := by
 rcases a with ⟨e, m, hn, hm⟩ | ⟨e | ⟨e, e'⟩, c, hc, hv⟩
 ·exact wpAny_loadName_local hk e hn hm h
 ·exact wpAny_loadName_cell hk e hc hv h
 exact wpAny_loadName_free hk e hc hv h e'
theorem Ev.var {x : String} {pos : Pos} {r : RV} (G : EnvG env) (hm : (x, r) ∈ σ.v) (hd : (ofString x == ("__debug__" : Str)) = false := by decide) : Ev Γ n env σ (.Name (ofString x) pos) r :=
 .mk fun A E s φ H R ok lv eo Q k => by
  obtain ⟨V, a, d⟩ := eo.vars _ _ hm
  exact wpAny_Name (q02 G.kind a (k V s (Kp.refl _) ok d)) hd
theorem EvL.own {x : String} {pos : Pos} {j : Nat} {xs : List PV} (G : EnvG env) (hm : (x, RV.ptr j) ∈ σ.v) (ho : (j, xs) ∈ σ.o) (hd : (ofString x == ("__debug__" : Str)) = false := by decide) : EvL Γ n env σ (.Name (ofString x) pos) xs :=
 .mk fun A E s φ H R ok lv eo Q k => by
  obtain ⟨V, a, d⟩ := eo.vars _ _ hm
  obtain ⟨_, vs, hl, hd'⟩ := eo.own _ _ ho
  exact wpAny_Name (q02 G.kind a (k V s (Kp.refl _) ok ⟨_, _, d, hl, hd'⟩)) hd
theorem Ev.int {i : Int} {k : Nat} {pos : Pos} : Ev Γ n env σ (.Constant (.int i) k pos) (.pv (.int i)) :=
 .mk fun A E s φ H R ok lv eo Q k => wpAny_Constant_int (k _ _ (Kp.refl _) ok.toks (.int i _))
theorem Ev.U4 {k : Nat} {pos : Pos} : Ev Γ n env σ (.Constant .none k pos) (.pv .none) :=
 .mk fun A E s φ H R ok lv eo Q k => fun _ _ _ => (k _ _ (Kp.refl _) ok .none)
theorem Ev.bool {b : Bool} {k : Nat} {pos : Pos} : Ev Γ n env σ (.Constant (.bool b) k pos) (.pv (.bool b)) :=
 .mk fun A E s φ H R ok lv eo Q k => fun _ _ _ => (k _ _ (Kp.refl _) ok (.bool b))
theorem Ev.str {x : Str} {l : List Nat} {k : Nat} {pos : Pos} (hx : x = ⟨l.toArray⟩) : Ev Γ n env σ (.Constant (.str x) k pos) (.pv (.str l)) :=
 .mk fun A E s φ H R ok lv eo Q k => by
  subst hx
  exact fun _ _ _ => (k _ _ (Kp.refl _) ok.toks (.str l _))
theorem EvP.two {α : Type} {ta tb : Sem Value} {f : Value → Value → Sem α} {Pa Pb : (Nat → Addr) → List Addr → Heap → Value → Prop} {P : (Nat → Addr) → List Addr → Heap → α → Prop} {t : Sem α}
  (ht : ∀ (A : Around) (E : Value → Shared → Prop) (s : Shared) (Q : α → Shared → Prop), wpAny (model Γ.prog Γ.w) A ta (fun a s₁ => wpAny (model Γ.prog Γ.w) A tb (fun b s₂ => wpAny (model Γ.prog Γ.w) A (f a b) Q E s₂) E s₁) E s → wpAny (model Γ.prog Γ.w) A t Q E s)
  (ma : ∀ φ H h h' V, Kp h h' → Pa φ H h V → Pa φ H h' V)
  (ha : EvP Γ n env σ ta Pa) (hb : EvP Γ n env σ tb Pb)
  (hf : ∀ (A : Around) (E : Value → Shared → Prop) (s : Shared) (φ : Nat → Addr) (H : List Addr) V W, Room Γ A n → Γ.Ok s → Live H s.heap → EnvOK env φ H σ s.heap → Pa φ H s.heap V → Pb φ H s.heap W →
   ∀ Q : α → Shared → Prop, (∀ V s', Kp s.heap s'.heap → Γ.Ok s' → P φ H s'.heap V → Q V s') → wpAny (model Γ.prog Γ.w) A (f V W) Q E s) : EvP Γ n env σ t P :=
 .mk fun A E s φ H R ok lv eo Q k => ht A E s Q <| ha.run A E s φ H R ok lv eo _ fun V s1 k1 ok1 d1 => hb.run A E s1 φ H R ok1 (lv.kp k1) (eo.kp k1) _ fun W s2 k2 ok2 d2 =>
  hf A E s2 φ H V W R ok2 (lv.kp (k1.trans k2)) (eo.kp (k1.trans k2)) (ma _ _ _ _ _ k2 d1) d2 Q fun X s3 k3 ok3 d3 => k X s3 ((k1.trans k2).trans k3) ok3 d3
theorem PR.mono (r : RV) : ∀ φ H h h' V, Kp h h' → PR r φ H h V → PR r φ H h' V := fun _ _ _ _ _ k d => DenR.kp k d
theorem PL.mono (xs : List PV) : ∀ φ H h h' V, Kp h h' → PL xs φ H h V → PL xs φ H h' V := fun _ _ _ _ _ k ⟨a, vs, e, l, d⟩ => ⟨a, vs, e, l.kp k, d.kp k⟩
theorem Ev.bin {op : Operator} {l r : Expr} {pos : Pos} {Pa Pb P} (ma : ∀ φ H h h' V, Kp h h' → Pa φ H h V → Pa φ H h' V) (ha : EvP Γ n env σ (eval l env) Pa) (hb : EvP Γ n env σ (eval r env) Pb)
  (hf : ∀ (A : Around) (E : Value → Shared → Prop) (s : Shared) (φ : Nat → Addr) (H : List Addr) V W, Room Γ A n → Γ.Ok s → Live H s.heap → EnvOK env φ H σ s.heap → Pa φ H s.heap V → Pb φ H s.heap W →
   ∀ Q : Value → Shared → Prop, (∀ V s', Kp s.heap s'.heap → Γ.Ok s' → P φ H s'.heap V → Q V s') → wpAny (model Γ.prog Γ.w) A (binaryOp op V W) Q E s) : EvP Γ n env σ (eval (.BinOp l op r pos) env) P :=
 EvP.two (fun _ _ _ _ h => wpAny_BinOp h) ma ha hb hf
theorem Ev.add_int {l r : Expr} {pos : Pos} {a b : Int} (ha : Ev Γ n env σ l (.pv (.int a))) (hb : Ev Γ n env σ r (.pv (.int b))) : Ev Γ n env σ (.BinOp l .Add r pos) (.pv (.int (a + b))) :=
 Ev.bin (PR.mono _) ha hb fun A E s φ H V W R ok lv eo d1 d2 Q k => by
  cases d1 using Den.i; cases d2 using Den.i
  exact wpAny_add_int (k _ _ (Kp.refl _) ok.toks (.int _ _))
end
end Mine
namespace Mine
noncomputable abbrev Pred (α : Type) := (Nat → Addr) → List Addr → Heap → α → Prop
noncomputable def MonoP {α : Type} (P : Pred α) : Prop := ∀ φ H h h' V, Kp h h' → P φ H h V → P φ H h' V
theorem mR (r : RV) : MonoP (PR r) := PR.mono r
theorem mL (xs : List PV) : MonoP (PL xs) := PL.mono xs
inductive Ty where
 | int | str | bool
 | list (t : Ty)
noncomputable def Ty.depth : Ty → Nat
 | .list t => t.depth + 1
 | _ => 0
noncomputable def HasTy : Ty → PV → Prop
 | .int, .int _ => True
 | .str, .str _ => True
 | .bool, .bool _ => True
 | .list t, .list xs => ∀ x ∈ xs, HasTy t x
 | _, _ => False
noncomputable def eqp : Ty → PV → PV → Bool
 | .int, .int a, .int b => a == b
 | .str, .str a, .str b => a == b
 | .bool, .bool a, .bool b => a == b
 | .list t, .list xs, .list ys => xs.length == ys.length && (xs.zip ys).all fun p => eqp t p.1 p.2
 | _, _, _ => false
theorem eqp_l (t : Ty) (xs ys : List PV) : eqp (.list t) (.list xs) (.list ys) = (xs.length == ys.length && (xs.zip ys).all fun p => eqp t p.1 p.2) := rfl
theorem HasTy.i {v : PV} (h : HasTy .int v) : ∃ a, v = .int a := by cases v <;> first | exact ⟨_, rfl⟩ | exact False.elim h
theorem HasTy.s {v : PV} (h : HasTy .str v) : ∃ a, v = .str a := by cases v <;> first | exact ⟨_, rfl⟩ | exact False.elim h
theorem HasTy.b {v : PV} (h : HasTy .bool v) : ∃ a, v = .bool a := by cases v <;> first | exact ⟨_, rfl⟩ | exact False.elim h
theorem HasTy.l {t : Ty} {v : PV} (h : HasTy (.list t) v) : ∃ a, v = .list a := by cases v <;> first | exact ⟨_, rfl⟩ | exact False.elim h
theorem q89 {α : Type} (e : α → α → Bool) : ∀ (xs ys : List α), xs.length = ys.length → (∀ x ∈ xs, ∀ y ∈ ys, (e x y = true ↔ x = y)) → ((xs.zip ys).all (fun p => e p.1 p.2) = true ↔ xs = ys)
 | [], [], _, _ => by simp
 | [], _ :: _, h, _ => by simp at h
 | _ :: _, [], h, _ => by simp at h
 | x :: xs, y :: ys, h, k => by
  haveI ih := q89 e xs ys (by simpa using h) fun a ha b hb => k a (.tail _ ha) b (.tail _ hb)
  simp only [zip_cons_cons, all_cons, and_eq_true, k x (.head _) y (.head _), ih, List.cons.injEq]
theorem qp2 : ∀ (t : Ty) (v w : PV), HasTy t v → HasTy t w → (eqp t v w = true ↔ v = w) := by
 intro t
 induction t with
 | int =>
  intro v w hv hw
  obtain ⟨a, rfl⟩ := HasTy.i hv; obtain ⟨b, rfl⟩ := HasTy.i hw; exact ⟨fun h => congrArg _ (eq_of_beq h), fun h => by cases h; exact beq_self_eq_true _⟩
 | str =>
  intro v w hv hw
  obtain ⟨a, rfl⟩ := HasTy.s hv; obtain ⟨b, rfl⟩ := HasTy.s hw; exact ⟨fun h => congrArg _ (eq_of_beq h), fun h => by cases h; exact beq_self_eq_true _⟩
 | bool =>
  intro v w hv hw
  obtain ⟨a, rfl⟩ := HasTy.b hv; obtain ⟨b, rfl⟩ := HasTy.b hw; exact ⟨fun h => congrArg _ (eq_of_beq h), fun h => by cases h; exact beq_self_eq_true _⟩
 | list t iht =>
  intro v w hv hw
  obtain ⟨xs, rfl⟩ := HasTy.l hv
  obtain ⟨ys, rfl⟩ := HasTy.l hw; haveI hv : ∀ x ∈ xs, HasTy _ x := hv; haveI hw : ∀ x ∈ ys, HasTy _ x := hw
  simp only [eqp_l, and_eq_true, beq_iff_eq, PV.list.injEq]
  constructor
  ·rintro ⟨hl, h⟩
   exact (q89 (eqp t) xs ys hl fun x hx y hy => iht x y (hv x hx) (hw y hy)).mp h
  rintro rfl
  exact ⟨rfl, (q89 (eqp t) xs xs rfl fun x hx y hy => iht x y (hv x hx) (hw y hy)).mpr rfl⟩
theorem z58 {t : Ty} {v : PV} (h : HasTy t v) : eqp t v v = true := (qp2 t v v h h).mpr rfl
theorem z13 {H H' : List Addr} {h : Heap} : ∀ (t : Ty) {V : Value} {v w : PV}, HasTy t v → HasTy t w → Den H h V v → Den H' h V w → v = w := by
 intro t
 induction t with
 | int =>
  intro V v w hv hw d d'
  obtain ⟨a, rfl⟩ := HasTy.i hv; obtain ⟨b, rfl⟩ := HasTy.i hw; cases d using Den.i; cases d' using Den.i; rfl
 | str =>
  intro V v w hv hw d d'
  obtain ⟨a, rfl⟩ := HasTy.s hv; obtain ⟨b, rfl⟩ := HasTy.s hw; cases d using Den.s
  generalize hx : (⟨List.toArray a⟩ : Str) = x at d'
  cases d' using Den.s
  have : a = b := by simpa using hx
  rw [this]
 | bool =>
  intro V v w hv hw d d'
  obtain ⟨a, rfl⟩ := HasTy.b hv; obtain ⟨b, rfl⟩ := HasTy.b hw; cases d using Den.b; cases d' using Den.b; rfl
 | list t iht =>
  intro V v w hv hw d d'
  obtain ⟨xs, rfl⟩ := HasTy.l hv
  obtain ⟨ys, rfl⟩ := HasTy.l hw; haveI hv : ∀ x ∈ xs, HasTy _ x := hv; haveI hw : ∀ x ∈ ys, HasTy _ x := hw
  cases d using Den.l with
  | list ha hl hd =>
   cases d' using Den.l with
   | list ha' hl' hd' =>
    obtain ⟨n, e⟩ := hl; obtain ⟨n', e'⟩ := hl'
    rw [e] at e'; cases e'
    suffices ∀ (Vs : List Value) (xs ys : List PV), (∀ x ∈ xs, HasTy t x) → (∀ x ∈ ys, HasTy t x) → Dens H h Vs xs → Dens H' h Vs ys → xs = ys from congrArg PV.list (this _ _ _ hv hw hd hd')
    intro Vs
    induction Vs with
    | nil => intro xs ys _ _ a b; cases a; cases b; rfl
    | cons V Vs ih =>
     intro xs ys hx hy a b
     cases a with | cons a1 a2 => cases b with | cons b1 b2 => rw [iht (hx _ (.head _)) (hy _ (.head _)) a1 b1, ih _ _ (fun z hz => hx z (.tail _ hz)) (fun z hz => hy z (.tail _ hz)) a2 b2]
theorem q92 (a b : List Nat) : ((⟨a.toArray⟩ : Str) == ⟨b.toArray⟩) = (a == b) := by
 rw [Bool.eq_iff_iff]; simp
open PySem.SeqAt in
theorem qg9 (e : PV → PV → Bool) (xs ys : List PV) (h : xs.length = ys.length) : ((List.range xs.length).all fun j => e (xs.getD j .none) (ys.getD j .none)) = (xs.zip ys).all fun p => e p.1 p.2 := by
 induction xs generalizing ys with
 | nil => cases ys <;> simp_all
 | cons x xs ih =>
  cases ys with
  | nil => simp at h
  | cons y ys =>
   rw [length_cons, List.range_succ_eq_map, all_cons, List.all_map, zip_cons_cons, all_cons, ← ih ys (by simpa using h)]
   congr 1
open PySem.SeqAt PySem.MeetsSeq in
theorem qp3 {H H' : List Addr} : ∀ (t : Ty) (A : Around) (s : Shared) {V W : Value} {v w : PV}, HasTy t v → HasTy t w → Den H s.heap V v → Den H' s.heap W w → A.units + t.depth + 1 < cLine → EqAt A s V W (eqp t v w) := by
 intro t
 induction t with
 | int =>
  intro A s V W v w hv hw d d' hu
  obtain ⟨a, rfl⟩ := HasTy.i hv; obtain ⟨b, rfl⟩ := HasTy.i hw; cases d using Den.i; cases d' using Den.i; exact (EqGives.int _ _ _ _).at A s
 | str =>
  intro A s V W v w hv hw d d' hu
  obtain ⟨a, rfl⟩ := HasTy.s hv; obtain ⟨b, rfl⟩ := HasTy.s hw; cases d using Den.s; cases d' using Den.s
  have := (eqGives_str ⟨List.toArray (by assumption)⟩ ⟨List.toArray (by assumption)⟩ (by assumption) (by assumption)).at A s
  show EqAt A s _ _ (_ == _)
  rw [← q92]
  exact (eqGives_str _ _ _ _).at A s
 | bool =>
  intro A s V W v w hv hw d d' hu
  obtain ⟨a, rfl⟩ := HasTy.b hv; obtain ⟨b, rfl⟩ := HasTy.b hw; cases d using Den.b; cases d' using Den.b; exact EqAt.bool_bool _ _
 | list t iht =>
  intro A s V W v w hv hw d d' hu
  haveI hv0 := hv; haveI hw0 := hw; haveI d0 := d; haveI d0' := d'
  obtain ⟨xs, rfl⟩ := HasTy.l hv
  obtain ⟨ys, rfl⟩ := HasTy.l hw; haveI hv : ∀ x ∈ xs, HasTy _ x := hv; haveI hw : ∀ x ∈ ys, HasTy _ x := hw
  cases d using Den.l with
  | @list l vs ha hl hd =>
   cases d' using Den.l with
   | @list b ws ha' hl' hd' =>
    by_cases e : l = b
    ·subst e
     have := z13 (.list t) hv0 hw0 d0 d0'
     rw [← this, z58 hv0]
     exact EqAt.same _
    refine EqAt.of_refs e ?_
    haveI h1 := hd.length; haveI h2 := hd'.length
    simp only [length_toList] at h1 h2
    haveI hu' : A.units < cLine := by lia
    by_cases hs : vs.size = ws.size
    ·have hl2 : xs.length = ys.length := by lia
     have := RcAt.lists (A := A) (s := s) (l := l) (b := b) (items := vs) (items2 := ws) (e := fun j => eqp t (xs.getD j .none) (ys.getD j .none)) hl.isList hl'.isList hs hu' fun j j1 j2 => by
      obtain ⟨x, hx, dx⟩ := hd.R3 (i := j) (V := vs[j]) (by simp [j1])
      obtain ⟨y, hy, dy⟩ := hd'.R3 (i := j) (V := ws[j]) (by simp [j2])
      have ex : xs.getD j .none = x := by simp [getD_eq_getElem?_getD, hx]
      haveI ey : ys.getD j .none = y := by simp [getD_eq_getElem?_getD, hy]
      rw [ex, ey]
      exact iht A.in1 s (hv x (mem_of_getElem? hx)) (hw y (mem_of_getElem? hy)) dx dy (by dsimp only [Around.in1_units]; simp only [Ty.depth] at hu; lia)
     rw [h1, qg9 (eqp t) xs ys hl2] at this
     simpa [eqp_l, hl2] using this
    haveI hl2 : xs.length ≠ ys.length := by lia
    have := RcAt.lists_lengths (A := A) (s := s) hl.isList hl'.isList (by simpa using hs) hu'
    haveI e0 : (xs.length == ys.length) = false := by simp [hl2]
    simp only [eqp_l, e0, Bool.false_and]
    exact this
open PySem.SeqAt PySem.MeetsSeq in
theorem z86 {H H' : List Addr} : ∀ (t : Ty) (A : Around) (s : Shared) {V W : Value} {v w : PV}, HasTy t v → HasTy t w → Den H s.heap V v → Den H' s.heap W w → A.units + t.depth + 1 < cLine → RcAt A s V W (eqp t v w)
 | .int, A, s, _, _, v, w, hv, hw, d, d', hu => by
  obtain ⟨a, rfl⟩ := HasTy.i hv; obtain ⟨b, rfl⟩ := HasTy.i hw; cases d using Den.i; cases d' using Den.i; exact fun prog w E Q h => eq_int h
 | .str, A, s, _, _, v, w, hv, hw, d, d', hu => by
  obtain ⟨a, rfl⟩ := HasTy.s hv; obtain ⟨b, rfl⟩ := HasTy.s hw; cases d using Den.s; cases d' using Den.s
  show RcAt A s _ _ (_ == _)
  rw [← q92]
  exact fun prog w E Q h => eq_str h
 | .bool, A, s, _, _, v, w, hv, hw, d, d', hu => by
  obtain ⟨a, rfl⟩ := HasTy.b hv; obtain ⟨b, rfl⟩ := HasTy.b hw; cases d using Den.b; cases d' using Den.b; exact fun prog w E Q h => eq_bool h
 | .list t, A, s, _, _, v, w, hv, hw, d, d', hu => by
  obtain ⟨xs, rfl⟩ := HasTy.l hv
  obtain ⟨ys, rfl⟩ := HasTy.l hw; have hv : ∀ x ∈ xs, HasTy _ x := hv; have hw : ∀ x ∈ ys, HasTy _ x := hw
  cases d using Den.l with
  | @list l vs ha hl hd =>
   cases d' using Den.l with
   | @list b ws ha' hl' hd' =>
    have h1 := hd.length; have h2 := hd'.length
    simp only [length_toList] at h1 h2
    have hu' : A.units < cLine := by lia
    by_cases hs : vs.size = ws.size
    ·have hl2 : xs.length = ys.length := by lia
     have := RcAt.lists (A := A) (s := s) (l := l) (b := b) (items := vs) (items2 := ws) (e := fun j => eqp t (xs.getD j .none) (ys.getD j .none)) hl.isList hl'.isList hs hu' fun j j1 j2 => by
      obtain ⟨x, hx, dx⟩ := hd.R3 (i := j) (V := vs[j]) (by simp [j1])
      obtain ⟨y, hy, dy⟩ := hd'.R3 (i := j) (V := ws[j]) (by simp [j2])
      have ex : xs.getD j .none = x := by simp [getD_eq_getElem?_getD, hx]
      have ey : ys.getD j .none = y := by simp [getD_eq_getElem?_getD, hy]
      rw [ex, ey]
      exact qp3 t A.in1 s (hv x (mem_of_getElem? hx)) (hw y (mem_of_getElem? hy)) dx dy (by show A.units + 1 + _ + 1 < _; simp only [Ty.depth] at hu; lia)
     rw [h1, qg9 (eqp t) xs ys hl2] at this
     have e0 : (xs.length == ys.length) = true := by simp [hl2]
     simp only [eqp_l, e0, Bool.true_and]
     exact this
    have hl2 : xs.length ≠ ys.length := by lia
    have := RcAt.lists_lengths (A := A) (s := s) hl.isList hl'.isList (by simpa using hs) hu'
    have e0 : (xs.length == ys.length) = false := by simp [hl2]
    simp only [eqp_l, e0, Bool.false_and]
    exact this
open PySem.SeqAt PySem.MeetsSeq in
theorem qx4 {H H' : List Addr} : ∀ (t : Ty) (A : Around) (s : Shared) {V W : Value} {v w : PV}, HasTy t v → HasTy t w → Den H s.heap V v → Den H' s.heap W w → A.units + t.depth + 1 < cLine → RcNeAt A s V W (!eqp t v w)
 | .int, A, s, _, _, v, w, hv, hw, d, d', hu => by
  obtain ⟨a, rfl⟩ := HasTy.i hv; obtain ⟨b, rfl⟩ := HasTy.i hw; cases d using Den.i; cases d' using Den.i; exact RcNeAt.int_int _ _ _ _
 | .str, A, s, _, _, v, w, hv, hw, d, d', hu => by
  obtain ⟨a, rfl⟩ := HasTy.s hv; obtain ⟨b, rfl⟩ := HasTy.s hw; cases d using Den.s; cases d' using Den.s
  show RcNeAt A s _ _ (!(_ == _))
  rw [← q92]
  exact RcNeAt.str_str _ _ _ _
 | .bool, A, s, _, _, v, w, hv, hw, d, d', hu => by
  obtain ⟨a, rfl⟩ := HasTy.b hv; obtain ⟨b, rfl⟩ := HasTy.b hw; cases d using Den.b; cases d' using Den.b; exact RcNeAt.bool_bool _ _
 | .list t, A, s, _, _, v, w, hv, hw, d, d', hu => by
  obtain ⟨xs, rfl⟩ := HasTy.l hv
  obtain ⟨ys, rfl⟩ := HasTy.l hw; have hv : ∀ x ∈ xs, HasTy _ x := hv; have hw : ∀ x ∈ ys, HasTy _ x := hw
  cases d using Den.l with
  | @list l vs ha hl hd =>
   cases d' using Den.l with
   | @list b ws ha' hl' hd' =>
    have h1 := hd.length; have h2 := hd'.length
    simp only [length_toList] at h1 h2
    have hu' : A.units < cLine := by lia
    by_cases hs : vs.size = ws.size
    ·have hl2 : xs.length = ys.length := by lia
     have := RcNeAt.lists (A := A) (s := s) (l := l) (b := b) (items := vs) (items2 := ws) (e := fun j => eqp t (xs.getD j .none) (ys.getD j .none)) hl.isList hl'.isList hs hu' fun j j1 j2 => by
      obtain ⟨x, hx, dx⟩ := hd.R3 (i := j) (V := vs[j]) (by simp [j1])
      obtain ⟨y, hy, dy⟩ := hd'.R3 (i := j) (V := ws[j]) (by simp [j2])
      have ex : xs.getD j .none = x := by simp [getD_eq_getElem?_getD, hx]
      have ey : ys.getD j .none = y := by simp [getD_eq_getElem?_getD, hy]
      rw [ex, ey]
      exact qp3 t A.in1 s (hv x (mem_of_getElem? hx)) (hw y (mem_of_getElem? hy)) dx dy (by show A.units + 1 + _ + 1 < _; simp only [Ty.depth] at hu; lia)
     rw [h1, qg9 (eqp t) xs ys hl2] at this
     have e0 : (xs.length == ys.length) = true := by simp [hl2]
     simp only [eqp_l, e0, Bool.true_and]
     exact this
    have hl2 : xs.length ≠ ys.length := by lia
    have := RcNeAt.lists_lengths (A := A) (s := s) hl.isList hl'.isList (by simpa using hs) hu'
    have e0 : (xs.length == ys.length) = false := by simp [hl2]
    simp only [eqp_l, e0, Bool.false_and]
    exact this
end Mine
namespace Mine
theorem Room.uq {Γ : Cx} {A : Around} {n : Nat} (R : Room Γ A n) : A.units + 180 < cLine := by
 have := R.units; show A.units + 180 < 9900; lia
theorem Room.dq {Γ : Cx} {A : Around} {n : Nat} (R : Room Γ A n) : A.depth < recursionLimit := by
 have := R.depth; show A.depth < 1000; lia
section
variable {Γ : Cx} {n : Nat} {env : Env} {σ : St}
noncomputable def Stp (Γ : Cx) (n : Nat) (env : Env) (σ : St) {α : Type} (t : Sem α) (C : (Nat → Addr) → List Addr → Heap → Prop) (P : Pred α) : Prop :=
 ∀ (A : Around) (E : Value → Shared → Prop) (s : Shared) (φ : Nat → Addr) (H : List Addr), Room Γ A n → Γ.Ok s → Live H s.heap → EnvOK env φ H σ s.heap → C φ H s.heap →
  ∀ Q : α → Shared → Prop, (∀ V s', Kp s.heap s'.heap → Γ.Ok s' → P φ H s'.heap V → Q V s') → wpAny (model Γ.prog Γ.w) A t Q E s
theorem EvP.one {α β : Type} {t : Sem α} {f : α → Sem β} {t' : Sem β} {P : Pred α} {P' : Pred β}
  (ht : ∀ (A : Around) (E : Value → Shared → Prop) (s : Shared) (Q : β → Shared → Prop), wpAny (model Γ.prog Γ.w) A t (fun a s₁ => wpAny (model Γ.prog Γ.w) A (f a) Q E s₁) E s → wpAny (model Γ.prog Γ.w) A t' Q E s)
  (h : EvP Γ n env σ t P) (hf : ∀ V, Stp Γ n env σ (f V) (fun φ H h => P φ H h V) P') : EvP Γ n env σ t' P' :=
 .mk fun A E s φ H R ok lv eo Q k => ht A E s Q <| h.run A E s φ H R ok lv eo _ fun V s1 k1 ok1 d1 => hf V A E s1 φ H R ok1 (lv.kp k1) (eo.kp k1) d1 Q fun W s2 k2 ok2 d2 => k W s2 (k1.trans k2) ok2 d2
theorem EvP.both {α : Type} {ta tb : Sem Value} {f : Value → Value → Sem α} {Pa Pb : Pred Value} {P : Pred α} {t : Sem α}
  (ht : ∀ (A : Around) (E : Value → Shared → Prop) (s : Shared) (Q : α → Shared → Prop), wpAny (model Γ.prog Γ.w) A ta (fun a s₁ => wpAny (model Γ.prog Γ.w) A tb (fun b s₂ => wpAny (model Γ.prog Γ.w) A (f a b) Q E s₂) E s₁) E s → wpAny (model Γ.prog Γ.w) A t Q E s)
  (ma : MonoP Pa) (ha : EvP Γ n env σ ta Pa) (hb : EvP Γ n env σ tb Pb) (hf : ∀ V W, Stp Γ n env σ (f V W) (fun φ H h => Pa φ H h V ∧ Pb φ H h W) P) : EvP Γ n env σ t P :=
 EvP.two ht ma ha hb fun A E s φ H V W R ok lv eo d1 d2 => hf V W A E s φ H R ok lv eo ⟨d1, d2⟩
noncomputable def Cmp (Γ : Cx) (n : Nat) (op : CmpOp) (Pa Pb : Pred Value) (b : Bool) : Prop :=
 ∀ (A : Around) (E : Value → Shared → Prop) (s : Shared) (φ : Nat → Addr) (H : List Addr) V W, Room Γ A n → Γ.Ok s → Pa φ H s.heap V → Pb φ H s.heap W →
  ∀ Q : Value → Shared → Prop, Q (.bool b) s → wpAny (model Γ.prog Γ.w) A (compareOp op V W) Q E s
theorem Ev.cmp {op : CmpOp} {l r : Expr} {pos : Pos} {Pa Pb : Pred Value} {b : Bool} (ma : MonoP Pa) (hc : Cmp Γ n op Pa Pb b) (ha : EvP Γ n env σ (eval l env) Pa) (hb : EvP Γ n env σ (eval r env) Pb)
  (hm : behindInMarks op r = false := by rfl) : Ev Γ n env σ (.Compare l [op] [r] pos) (.pv (.bool b)) :=
 EvP.both (f := fun a b => compareOp op a b) (fun _ _ _ _ h => wpAny_Compare1 h hm) ma ha hb fun V W A E s φ H R ok lv eo c Q k => hc A E s φ H V W R ok c.1 c.2 Q (k _ _ (Kp.refl _) ok (.bool b))
theorem Evb.cmp {op : CmpOp} {l r : Expr} {pos : Pos} {Pa Pb : Pred Value} {b : Bool} (ma : MonoP Pa) (hc : Cmp Γ n op Pa Pb b) (ha : EvP Γ n env σ (eval l env) Pa) (hb : EvP Γ n env σ (eval r env) Pb)
  (hm : behindInMarks op r = false := by rfl) : Evb Γ n env σ (.Compare l [op] [r] pos) b :=
 .mk fun A E s φ H R ok lv eo Q k => wpAny_isTrue_Compare1 (ha.run A E s φ H R ok lv eo _ fun V s1 k1 ok1 d1 => hb.run A E s1 φ H R ok1 (lv.kp k1) (eo.kp k1) _ fun W s2 k2 ok2 d2 =>
  hc A E s2 φ H V W R ok2 (ma _ _ _ _ _ k2 d1) d2 _ (wpAny_truthy_bool (k _ _ (k1.trans k2) ok2 rfl))) hm
theorem Cmp.eq_int {a b : Int} : Cmp Γ n .Eq (PR (.pv (.int a))) (PR (.pv (.int b))) (a == b) := fun A E s φ H V W R ok d1 d2 Q h => by cases d1 using Den.i; cases d2 using Den.i; exact PyProof.Rows.eq_int h
theorem Cmp.ne_int {a b : Int} : Cmp Γ n .NotEq (PR (.pv (.int a))) (PR (.pv (.int b))) (a != b) := fun A E s φ H V W R ok d1 d2 Q h => by cases d1 using Den.i; cases d2 using Den.i; exact PyProof.Rows.ne_int h
theorem Cmp.lt_int {a b : Int} : Cmp Γ n .Lt (PR (.pv (.int a))) (PR (.pv (.int b))) (decide (a < b)) := fun A E s φ H V W R ok d1 d2 Q h => by cases d1 using Den.i; cases d2 using Den.i; exact PyProof.Rows.lt_int h
theorem Cmp.gt_int {a b : Int} : Cmp Γ n .Gt (PR (.pv (.int a))) (PR (.pv (.int b))) (decide (b < a)) := fun A E s φ H V W R ok d1 d2 Q h => by cases d1 using Den.i; cases d2 using Den.i; exact PyProof.Rows.gt_int h
theorem Cmp.le_int {a b : Int} : Cmp Γ n .LtE (PR (.pv (.int a))) (PR (.pv (.int b))) (decide (a ≤ b)) := fun A E s φ H V W R ok d1 d2 Q h => by cases d1 using Den.i; cases d2 using Den.i; exact PyProof.Rows.le_int h
theorem Cmp.ge_int {a b : Int} : Cmp Γ n .GtE (PR (.pv (.int a))) (PR (.pv (.int b))) (decide (b ≤ a)) := fun A E s φ H V W R ok d1 d2 Q h => by cases d1 using Den.i; cases d2 using Den.i; exact PyProof.Rows.ge_int h
theorem Cmp.eq_str {a b : List Nat} : Cmp Γ n .Eq (PR (.pv (.str a))) (PR (.pv (.str b))) (a == b) := fun A E s φ H V W R ok d1 d2 Q h => by cases d1 using Den.s; cases d2 using Den.s; exact PyProof.Rows.eq_str (by rw [q92]; exact h)
theorem Cmp.ne_str {a b : List Nat} : Cmp Γ n .NotEq (PR (.pv (.str a))) (PR (.pv (.str b))) (a != b) := fun A E s φ H V W R ok d1 d2 Q h => by
 cases d1 using Den.s; cases d2 using Den.s; exact PyProof.Rows.ne_str (by show Q (.bool (!_)) s; rw [q92]; exact h)
theorem Cmp.lt_str {a b : List Nat} : Cmp Γ n .Lt (PR (.pv (.str a))) (PR (.pv (.str b))) (decide (a < b)) := fun A E s φ H V W R ok d1 d2 Q h => by cases d1 using Den.s; cases d2 using Den.s; exact PyProof.Rows.lt_str h
theorem Cmp.gt_str {a b : List Nat} : Cmp Γ n .Gt (PR (.pv (.str a))) (PR (.pv (.str b))) (decide (b < a)) := fun A E s φ H V W R ok d1 d2 Q h => by cases d1 using Den.s; cases d2 using Den.s; exact PySem.P.gt_str h
theorem Cmp.le_str {a b : List Nat} : Cmp Γ n .LtE (PR (.pv (.str a))) (PR (.pv (.str b))) (!decide (b < a)) := fun A E s φ H V W R ok d1 d2 Q h => by cases d1 using Den.s; cases d2 using Den.s; exact PySem.P.le_str h
theorem Cmp.eq_ty {t : Ty} {v w : PV} (hv : HasTy t v) (hw : HasTy t w) (ht : t.depth ≤ 8) : Cmp Γ n .Eq (PR (.pv v)) (PR (.pv w)) (eqp t v w) := fun A E s φ H V W R ok d1 d2 Q h =>
 z86 t A s hv hw d1 d2 (by have := R.uq; lia) _ _ E Q h
theorem Cmp.ne_ty {t : Ty} {v w : PV} (hv : HasTy t v) (hw : HasTy t w) (ht : t.depth ≤ 8) : Cmp Γ n .NotEq (PR (.pv v)) (PR (.pv w)) (!eqp t v w) := fun A E s φ H V W R ok d1 d2 Q h =>
 qx4 t A s hv hw d1 d2 (by have := R.uq; lia) _ _ E Q h
open Classical in
theorem zb3 {H : List Addr} {h : Heap} {t : Ty} {x : PV} (hx : HasTy t x) : ∀ {Vs : List Value} {xs : List PV}, (∀ y ∈ xs, HasTy t y) → Dens H h Vs xs →
  Vs.any (fun V => decide (∃ v ∈ xs, Den H h V v ∧ eqp t v x = true)) = xs.any fun v => eqp t v x := by
 intro Vs xs hxs d
 rw [Bool.eq_iff_iff]
 simp only [any_eq_true, decide_eq_true_eq]
 constructor
 ·rintro ⟨V, _, v, hv, _, e⟩; exact ⟨v, hv, e⟩
 rintro ⟨v, hv, e⟩
 obtain ⟨i, hi, rfl⟩ := List.getElem_of_mem hv
 obtain ⟨V, hV, dV⟩ := d.get (i := i) (v := xs[i]) (by simp)
 exact ⟨V, mem_of_getElem? hV, xs[i], hv, dV, e⟩
open Classical in
theorem qo4 {A : Around} {s : Shared} {H H' : List Addr} {t : Ty} {x : PV} {X : Value} (hx : HasTy t x) {Vs : Array Value} {xs : List PV} (hxs : ∀ y ∈ xs, HasTy t y) (d : Dens H s.heap Vs.toList xs) (dx : Den H' s.heap X x) (hu : A.units + t.depth + 2 < cLine) :
  ∃ e : Value → Bool, (∀ y, y ∈ Vs → PySem.SeqAt.EqAt A.in1 s y X (e y)) ∧ Vs.any e = xs.any fun v => eqp t v x := by
 refine ⟨fun V => decide (∃ v ∈ xs, Den H s.heap V v ∧ eqp t v x = true), fun y hy => ?_, ?_⟩
 ·obtain ⟨i, hi, rfl⟩ := Array.getElem_of_mem hy
  obtain ⟨v, hv, dv⟩ := d.R3 (i := i) (V := Vs[i]) (by simp [hi])
  haveI hm := mem_of_getElem? hv
  have := qp3 t A.in1 s (hxs v hm) hx dv dx (by show A.units + 1 + _ + 1 < _; lia)
  haveI e : decide (∃ v ∈ xs, Den H s.heap Vs[i] v ∧ eqp t v x = true) = eqp t v x := by
   rw [Bool.eq_iff_iff]
   simp only [decide_eq_true_eq]
   constructor
   ·rintro ⟨v', hm', dv', e'⟩
    rw [z13 t (hxs v hm) (hxs v' hm') dv dv']; exact e'
   intro e'; exact ⟨v, hm, dv, e'⟩
  show PySem.SeqAt.EqAt A.in1 s _ _ (decide _)
  rw [e]; exact this
 rw [← Array.any_toList]
 exact zb3 hx hxs d
theorem Cmp.in_list {t : Ty} {x : PV} {xs : List PV} (hx : HasTy t x) (hxs : ∀ y ∈ xs, HasTy t y) (ht : t.depth ≤ 8) : Cmp Γ n .In (PR (.pv x)) (PL xs) (xs.any fun v => eqp t v x) := fun A E s φ H V W R ok d1 d2 Q h => by
 obtain ⟨a, vs, rfl, hl, hd⟩ := d2
 obtain ⟨e, he, ha⟩ := qo4 (A := A) hx hxs hd d1 (by have := R.uq; lia)
 exact PySem.SeqAt.in_listAt e hl.isList he (by rw [ha]; exact h)
theorem Cmp.Y4 {t : Ty} {x : PV} {xs : List PV} (hx : HasTy t x) (hxs : ∀ y ∈ xs, HasTy t y) (ht : t.depth ≤ 8) : Cmp Γ n .NotIn (PR (.pv x)) (PL xs) (!xs.any fun v => eqp t v x) := fun A E s φ H V W R ok d1 d2 Q h => by
 obtain ⟨a, vs, rfl, hl, hd⟩ := d2
 obtain ⟨e, he, ha⟩ := qo4 (A := A) hx hxs hd d1 (by have := R.uq; lia)
 exact PySem.SeqAt.notIn_listAt e hl.isList he (by rw [ha]; exact h)
theorem Cmp.in_tup {t : Ty} {x : PV} {xs : List PV} (hx : HasTy t x) (hxs : ∀ y ∈ xs, HasTy t y) (ht : t.depth ≤ 8) : Cmp Γ n .In (PR (.pv x)) (PR (.pv (.tup xs))) (xs.any fun v => eqp t v x) := fun A E s φ H V W R ok d1 d2 Q h => by
 cases d2 using Den.t with
 | tup ha hl hd =>
  obtain ⟨e, he, ha⟩ := qo4 (A := A) hx hxs hd d1 (by have := R.uq; lia)
  exact PySem.SeqAt.in_tupleAt e hl.T6 he (by rw [ha]; exact h)
theorem Cmp.U3 {a b : Nat} : Cmp Γ n .IsNot (PR (.pv (.obj a))) (PR (.pv (.obj b))) (a != b) := fun A E s φ H V W R ok d1 d2 Q h => by
 cases d1 using Den.o with | obj ha ho => cases d2 using Den.o with | obj hb hp =>
 show wpAny _ _ (do return .bool (!(← isSame (.ref a) (.ref b)))) Q E s
 by_cases e : a = b
 ·subst e
  exact wpAny_bind (PySem.wpAny_isSame_ref_self (wpAny_pure (by rw [bne_self_eq_false] at h; exact h)))
 obtain ⟨o, ho, hc⟩ := ho; obtain ⟨p, hp, hc'⟩ := hp
 exact wpAny_bind (PySem.SeqAt.wpAny_isSame_ref_other' e ho hp (by rw [hc']; simp) (wpAny_pure (by
  haveI : (a != b) = true := by simpa using e
  rw [this] at h; exact h)))
theorem Cmp.U2 {x : List Nat} {b : Nat} : Cmp Γ n .IsNot (PR (.pv (.str x))) (PR (.pv (.obj b))) true := fun A E s φ H V W R ok d1 d2 Q h => by
 cases d1 using Den.s; cases d2 using Den.o
 exact fun _ _ _ => h
theorem Evb.not {x : Expr} {pos : Pos} {b : Bool} (h : Evb Γ n env σ x b) : Evb Γ n env σ (.UnaryOp .Not x pos) (!b) :=
 .mk fun A E s φ H R ok lv eo Q k => wpAny_isTrue_Not (h.run A E s φ H R ok lv eo _ fun c s' k1 ok1 e => k _ _ k1 ok1 (by rw [show c = b from e]; rfl))
theorem Evb.and_nil {pos : Pos} : Evb Γ n env σ (.BoolOp .And [] pos) true := .mk fun A E s φ H R ok lv eo Q k => isTrue_and_nil (k _ _ (Kp.refl _) ok rfl)
theorem Evb.or_nil {pos : Pos} : Evb Γ n env σ (.BoolOp .Or [] pos) false := .mk fun A E s φ H R ok lv eo Q k => isTrue_or_nil (k _ _ (Kp.refl _) ok rfl)
theorem Evb.and {x : Expr} {rest : List Expr} {pos : Pos} {b c : Bool} (h : Evb Γ n env σ x b) (h' : b = true → Evb Γ n env σ (.BoolOp .And rest pos) c) : Evb Γ n env σ (.BoolOp .And (x :: rest) pos) (b && c) :=
 .mk fun A E s φ H R ok lv eo Q k => isTrue_and (h.run A E s φ H R ok lv eo _ fun b' s1 k1 ok1 e => by
  obtain rfl : b' = b := e
  cases b' with
  | true => exact (h' rfl).run A E s1 φ H R ok1 (lv.kp k1) (eo.kp k1) _ fun c' s2 k2 ok2 e => k _ _ (k1.trans k2) ok2 (by rw [show c' = c from e]; rfl)
  | false => exact k _ _ k1 ok1 rfl)
theorem Evb.or {x : Expr} {rest : List Expr} {pos : Pos} {b c : Bool} (h : Evb Γ n env σ x b) (h' : b = false → Evb Γ n env σ (.BoolOp .Or rest pos) c) : Evb Γ n env σ (.BoolOp .Or (x :: rest) pos) (b || c) :=
 .mk fun A E s φ H R ok lv eo Q k => isTrue_or (h.run A E s φ H R ok lv eo _ fun b' s1 k1 ok1 e => by
  obtain rfl : b' = b := e
  cases b' with
  | false => exact (h' rfl).run A E s1 φ H R ok1 (lv.kp k1) (eo.kp k1) _ fun c' s2 k2 ok2 e => k _ _ (k1.trans k2) ok2 (by rw [show c' = c from e]; rfl)
  | true => exact k _ _ k1 ok1 rfl)
noncomputable def Tru (Γ : Cx) (n : Nat) (P : Pred Value) (b : Bool) : Prop :=
 ∀ (A : Around) (E : Value → Shared → Prop) (s : Shared) (φ : Nat → Addr) (H : List Addr) V, Room Γ A n → Γ.Ok s → P φ H s.heap V → ∀ Q : Bool → Shared → Prop, (∀ t, Q b { s with toks := t }) → wpAny (model Γ.prog Γ.w) A (truthy V) Q E s
theorem Evb.val {e : Expr} {P : Pred Value} {b : Bool} (h : EvP Γ n env σ (eval e env) P) (ht : Tru Γ n P b) (he : isTrue e env (eval e env) = (do let v ← eval e env; standAt e.pos; holding [v] (truthy v)) := by rfl) : Evb Γ n env σ e b :=
 .mk fun A E s φ H R ok lv eo Q k => isTrue_plain (h.run A E s φ H R ok lv eo _ fun V s1 k1 ok1 d => ht A E s1 φ H V R ok1 d Q fun t => k _ _ k1 ok1.toks rfl) he
theorem Tru.bool {b : Bool} : Tru Γ n (PR (.pv (.bool b))) b := fun A E s φ H V R ok d Q h => by cases d using Den.b; exact wpAny_truthy_bool (h s.toks)
theorem Tru.str {x : List Nat} (hx : x.length < 2 ^ 60) : Tru Γ n (PR (.pv (.str x))) (!x.isEmpty) := fun A E s φ H V R ok d Q h => by
 cases d using Den.s
 haveI e : ((Str.length ⟨x.toArray⟩ : Int) != 0) = !x.isEmpty := by cases x <;> simp [Str.length] <;> lia
 exact PySem.P.truthy_str (by simp only [Str.length, size_toArray]; lia) (by rw [e]; exact h _)
theorem Tru.list {xs : List PV} (hx : xs.length < 2 ^ 60) : Tru Γ n (PL xs) (!xs.isEmpty) := fun A E s φ H V R ok d Q h => by
 obtain ⟨a, vs, rfl, hl, hd⟩ := d
 have := hd.length
 simp only [length_toList] at this
 haveI e : (!vs.isEmpty) = !xs.isEmpty := by
  rw [Bool.eq_iff_iff]; cases xs <;> simp_all [Array.isEmpty]
 exact wpAny_truthy_list hl.isList (by lia) (by rw [e]; exact h _)
theorem Ev.ife {t x y : Expr} {pos : Pos} {b : Bool} {P : Pred Value} (ht : Evb Γ n env σ t b) (hx : b = true → EvP Γ n env σ (eval x env) P) (hy : b = false → EvP Γ n env σ (eval y env) P) : EvP Γ n env σ (eval (.IfExp t x y pos) env) P :=
 .mk fun A E s φ H R ok lv eo Q k => wpAny_IfExp (ht.run A E s φ H R ok lv eo _ fun b' s1 k1 ok1 e => by
  obtain rfl : b' = b := e
  cases b' with
  | true => exact (hx rfl).run A E s1 φ H R ok1 (lv.kp k1) (eo.kp k1) Q fun V s2 k2 ok2 d => k _ _ (k1.trans k2) ok2 d
  | false => exact (hy rfl).run A E s1 φ H R ok1 (lv.kp k1) (eo.kp k1) Q fun V s2 k2 ok2 d => k _ _ (k1.trans k2) ok2 d)
theorem Ev.or2 {x y : Expr} {pos : Pos} {b : Bool} {P P' : Pred Value} (mP : MonoP P) (h : EvP Γ n env σ (eval x env) P) (ht : Tru Γ n P b) (hb : b = true → ∀ φ H h V, P φ H h V → P' φ H h V) (h' : b = false → EvP Γ n env σ (eval y env) P') : EvP Γ n env σ (eval (.BoolOp .Or [x, y] pos) env) P' :=
 .mk fun A E s φ H R ok lv eo Q k => wpAny_Or2 (h.run A E s φ H R ok lv eo _ fun V s1 k1 ok1 d => ht A E s1 φ H V R ok1 d _ fun t => by
  cases b with
  | true => exact k V _ k1 ok1.toks (hb rfl _ _ _ _ d)
  | false => exact (h' rfl).run A E { s1 with toks := t } φ H R ok1.toks (lv.kp k1) (eo.kp k1) Q fun W s2 k2 ok2 d2 => k W s2 (k1.trans k2) ok2 d2)
theorem Ev.and2 {x y : Expr} {pos : Pos} {b : Bool} {P P' : Pred Value} (h : EvP Γ n env σ (eval x env) P) (ht : Tru Γ n P b) (hb : b = false → ∀ φ H h V, P φ H h V → P' φ H h V) (h' : b = true → EvP Γ n env σ (eval y env) P') : EvP Γ n env σ (eval (.BoolOp .And [x, y] pos) env) P' :=
 .mk fun A E s φ H R ok lv eo Q k => wpAny_And2 (h.run A E s φ H R ok lv eo _ fun V s1 k1 ok1 d => ht A E s1 φ H V R ok1 d _ fun t => by
  cases b with
  | false => exact k V _ k1 ok1.toks (hb rfl _ _ _ _ d)
  | true => exact (h' rfl).run A E { s1 with toks := t } φ H R ok1.toks (lv.kp k1) (eo.kp k1) Q fun W s2 k2 ok2 d2 => k W s2 (k1.trans k2) ok2 d2)
end
end Mine
namespace Mine
theorem Cx.Ok.push {Γ : Cx} {s : Shared} (ok : Γ.Ok s) (o : Obj) {t : Nat} : Γ.Ok { s with heap := s.heap.push o, toks := t } := ok.keeps fun _ _ e => get?_push_of_some o e
theorem Cx.Ok.W0 {Γ : Cx} {s : Shared} (ok : Γ.Ok s) (o : Obj) : Γ.Ok { s with heap := s.heap.push o } := ok.push o
section
variable {Γ : Cx} {n : Nat} {env : Env} {σ : St}
theorem Ev.sub_int {l r : Expr} {pos : Pos} {a b : Int} (ha : Ev Γ n env σ l (.pv (.int a))) (hb : Ev Γ n env σ r (.pv (.int b))) : Ev Γ n env σ (.BinOp l .Sub r pos) (.pv (.int (a - b))) :=
 EvP.both (fun _ _ _ _ h => wpAny_BinOp h) (mR _) ha hb fun V W A E s φ H R ok lv eo c Q k => by
  obtain ⟨d1, d2⟩ := c; cases d1 using Den.i; cases d2 using Den.i; exact PyProof.Rows.sub_int (k _ _ (Kp.refl _) ok.toks (.int _ _))
theorem Ev.mul_int {l r : Expr} {pos : Pos} {a b : Int} (ha : Ev Γ n env σ l (.pv (.int a))) (hb : Ev Γ n env σ r (.pv (.int b))) (hm : IntMulOk a b) : Ev Γ n env σ (.BinOp l .Mult r pos) (.pv (.int (a * b))) :=
 EvP.both (fun _ _ _ _ h => wpAny_BinOp h) (mR _) ha hb fun V W A E s φ H R ok lv eo c Q k => by
  obtain ⟨d1, d2⟩ := c; cases d1 using Den.i; cases d2 using Den.i; exact PyProof.Rows.mul_int (k _ _ (Kp.refl _) ok.toks (.int _ _)) hm
theorem Ev.fdiv {l r : Expr} {pos : Pos} {a b : Int} (ha : Ev Γ n env σ l (.pv (.int a))) (hb : Ev Γ n env σ r (.pv (.int b))) (h0 : b ≠ 0) (h1 : b.natAbs < 2 ^ 200) : Ev Γ n env σ (.BinOp l .FloorDiv r pos) (.pv (.int (a.fdiv b))) :=
 EvP.both (fun _ _ _ _ h => wpAny_BinOp h) (mR _) ha hb fun V W A E s φ H R ok lv eo c Q k => by
  obtain ⟨d1, d2⟩ := c; cases d1 using Den.i; cases d2 using Den.i; exact PyProof.Rows.floordiv_int h0 (k _ _ (Kp.refl _) ok.toks (.int _ _)) (.inl (PyProof.noPylong_of_log2 (Nat.lt_trans ((Nat.log2_lt (by lia)).mpr h1) (by lia))))
theorem Ev.fmod {l r : Expr} {pos : Pos} {a b : Int} (ha : Ev Γ n env σ l (.pv (.int a))) (hb : Ev Γ n env σ r (.pv (.int b))) (h0 : b ≠ 0) : Ev Γ n env σ (.BinOp l .Mod r pos) (.pv (.int (a.fmod b))) :=
 EvP.both (fun _ _ _ _ h => wpAny_BinOp h) (mR _) ha hb fun V W A E s φ H R ok lv eo c Q k => by
  obtain ⟨d1, d2⟩ := c; cases d1 using Den.i; cases d2 using Den.i; exact PyProof.Rows.mod_int h0 (k _ _ (Kp.refl _) ok.toks (.int _ _))
theorem Ev.pow {l r : Expr} {pos : Pos} {a b : Int} (ha : Ev Γ n env σ l (.pv (.int a))) (hb : Ev Γ n env σ r (.pv (.int b))) (h0 : 0 ≤ b) (h1 : b ≤ 1000) (h2 : a.natAbs < 100) : Ev Γ n env σ (.BinOp l .Pow r pos) (.pv (.int (a ^ b.toNat))) :=
 EvP.both (fun _ _ _ _ h => wpAny_BinOp h) (mR _) ha hb fun V W A E s φ H R ok lv eo c Q k => by
  obtain ⟨d1, d2⟩ := c; cases d1 using Den.i; cases d2 using Den.i; exact pow_int_small h0 (by lia) (by lia) (k _ _ (Kp.refl _) ok.toks (.int _ _))
theorem Ev.neg {x : Expr} {pos : Pos} {a : Int} (ha : Ev Γ n env σ x (.pv (.int a))) : Ev Γ n env σ (.UnaryOp .USub x pos) (.pv (.int (-a))) :=
 EvP.one (fun _ _ _ _ h => wpAny_UnaryOp h) ha fun V A E s φ H R ok lv eo c Q k => by
  cases c using Den.i; exact neg_int (k _ _ (Kp.refl _) ok.toks (.int _ _))
theorem Ev.add_str {l r : Expr} {pos : Pos} {a b : List Nat} (ha : Ev Γ n env σ l (.pv (.str a))) (hb : Ev Γ n env σ r (.pv (.str b))) (hz : a.length + b.length ≤ 2 ^ 24) : Ev Γ n env σ (.BinOp l .Add r pos) (.pv (.str (a ++ b))) :=
 EvP.both (fun _ _ _ _ h => wpAny_BinOp h) (mR _) ha hb fun V W A E s φ H R ok lv eo c Q k => by
  obtain ⟨d1, d2⟩ := c; cases d1 using Den.s; cases d2 using Den.s
  refine PyProof.Rows.add_str (fun t' tk => k _ _ (Kp.refl _) ok.toks ?_) (by simpa [Str.length, sizeLine] using hz)
  haveI : ((⟨a.toArray⟩ : Str) ++ ⟨b.toArray⟩) = ⟨(a ++ b).toArray⟩ := by
   show Str.append _ _ = _
   simp [Str.append]
  rw [this]; exact .str _ _
theorem Ev.add_list {l r : Expr} {pos : Pos} {a b : List PV} (ha : EvL Γ n env σ l a) (hb : EvL Γ n env σ r b) (hz : a.length + b.length ≤ 2 ^ 24) : Ev Γ n env σ (.BinOp l .Add r pos) (.pv (.list (a ++ b))) :=
 EvP.both (fun _ _ _ _ h => wpAny_BinOp h) (mL _) ha hb fun V W A E s φ H R ok lv eo c Q k => by
  obtain ⟨⟨x, vs, rfl, ⟨i, hl⟩, hd⟩, ⟨y, ws, rfl, ⟨j, hl'⟩, hd'⟩⟩ := c
  haveI h1 := hd.length; haveI h2 := hd'.length
  simp only [length_toList] at h1 h2
  refine PySem.P.add_list hl hl' (k _ _ (Kp.push _ _) (ok.W0 _) (.list lv.size (LstAt.new _ _) ?_)) (by simp only [sizeLine]; lia)
  rw [Array.toList_append]
  exact (hd.append hd').kp (Kp.push _ _)
theorem ql1 {α : Type} (xs : Array α) : ∀ (k : Nat) (acc : Array α), ((List.replicate k xs).foldl (fun a b => a ++ b) acc).toList = acc.toList ++ (List.replicate k xs.toList).flatten
 | 0, acc => by simp
 | k + 1, acc => by
  rw [replicate_succ, List.foldl_cons, ql1 xs k, replicate_succ]; simp
theorem Dens.rep {H : List Addr} {h : Heap} {Vs : List Value} {vs : List PV} (d : Dens H h Vs vs) : ∀ k, Dens H h (List.replicate k Vs).flatten (List.replicate k vs).flatten
 | 0 => .nil
 | k + 1 => by dsimp only [replicate_succ, replicate_succ]; exact d.append (d.rep k)
theorem Ev.mul_list {l r : Expr} {pos : Pos} {a : List PV} {x : Int} (ha : EvL Γ n env σ l a) (hb : Ev Γ n env σ r (.pv (.int x))) (hx : -(2 ^ 40) ≤ x ∧ x ≤ 2 ^ 40) (hz : a.length * x.toNat ≤ 2 ^ 24) : Ev Γ n env σ (.BinOp l .Mult r pos) (.pv (.list (List.replicate x.toNat a).flatten)) :=
 EvP.both (fun _ _ _ _ h => wpAny_BinOp h) (mL _) ha hb fun V W A E s φ H R ok lv eo c Q k => by
  obtain ⟨⟨y, vs, rfl, ⟨i, hl⟩, hd⟩, d2⟩ := c
  cases d2 using Den.i
  haveI h1 := hd.length
  simp only [length_toList] at h1
  haveI hx1 := hx.1; haveI hx2 := hx.2
  refine wpAny_binaryOp_repeat_ref (T := "list") (U := "int") (by decide) ⟨_, hl, rfl⟩ (fun s' => PySem.typeIs_int s' x _) noFill_list_mul F.fills_int_mul F.slot_int_rmul repeat_list F.slot_int_index.lookup
   (call_meets F.slot_int_rmul (PySem.typeIs_int s x _) F.entry_int_rmul (F.args_int_rmul_2 _ _) (int___rmul___int_list x _ y vs i)
    ⟨hl, rfl, ⟨_, hl, rfl⟩, call_meets F.slot_list_mul ⟨_, hl, rfl⟩ F.entry_list_mul (F.args_list_mul_2 _ _)
     (lm_list_mul_any y vs i none #[] x _ (by simp [Builtin.List.listFitsIndex]; lia) (by rw [h1]; lia) (by simp [Builtin.List.listTooLong, sizeLine]; rw [h1]; lia))
     ⟨hl, k _ _ (Kp.push _ _) (ok.W0 _) (.list lv.size (LstAt.new _ _) ?_)⟩⟩)
  by_cases e : vs.isEmpty = true
  ·haveI hv : vs = #[] := by simpa using e
   subst hv
   have : a = [] := by cases a <;> simp_all
   subst this
   simp [List.flatten_replicate_nil]
   exact .nil
  rw [if_neg e, ql1]
  simpa using (hd.rep x.toNat).kp (Kp.push _ _)
theorem EvP.sub {value slice : Expr} {pos : Pos} {Po Pi P : Pred Value} (mo : MonoP Po) (ho : EvP Γ n env σ (eval value env) Po) (hi : EvP Γ n env σ (eval slice env) Pi)
  (hf : ∀ V W, Stp Γ n env σ (subscriptTail value slice V W) (fun φ H h => Po φ H h V ∧ Pi φ H h W) P) : EvP Γ n env σ (eval (.Subscript value slice pos) env) P :=
 EvP.both (f := fun o i => subscriptTail value slice o i) (fun _ _ _ _ h => Subscript_ h) mo ho hi hf
theorem Ev.item_str {value slice : Expr} {pos : Pos} {x : List Nat} {i : Int} {c : Nat} (ho : Ev Γ n env σ value (.pv (.str x))) (hi : Ev Γ n env σ slice (.pv (.int i)))
  (hr : -(2 ^ 60) ≤ i ∧ i ≤ 2 ^ 60) (hc : (seqIndex? i x.length).bind (x[·]?) = some c)
  (hs : ∀ o i, subscripted slice false o i = operate [o, i] (getItem o i) := by intro _ _; rfl) : Ev Γ n env σ (.Subscript value slice pos) (.pv (.str [c])) :=
 EvP.sub (mR _) ho hi fun V W A E s φ H R ok lv eo cc Q k => by
  obtain ⟨d1, d2⟩ := cc; cases d1 using Den.s; cases d2 using Den.i
  refine tail_any (T := "str") rfl F.slot_str_getitem.lookup (PyProof.Rows.getItem_str (c := c) ?_ ?_ (k _ _ (Kp.refl _) ok.toks (.str [c] _))) (hs _ _)
  ·simp; lia
  simpa [Str.length] using hc
theorem Ev.item_list {value slice : Expr} {pos : Pos} {xs : List PV} {i : Int} {v : PV} (ho : EvL Γ n env σ value xs) (hi : Ev Γ n env σ slice (.pv (.int i)))
  (h0 : 0 ≤ i) (h1 : i ≤ 2 ^ 60) (hc : xs[i.toNat]? = some v)
  (hs : ∀ o i, subscripted slice false o i = operate [o, i] (getItem o i) := by intro _ _; rfl) : Ev Γ n env σ (.Subscript value slice pos) (.pv v) :=
 EvP.sub (mL _) ho hi fun V W A E s φ H R ok lv eo cc Q k => by
  obtain ⟨⟨a, vs, rfl, hl, hd⟩, d2⟩ := cc; cases d2 using Den.i
  obtain ⟨V', hV, dV⟩ := hd.get hc
  exact tail_any (T := "list") hl.isList.typeIs F.slot_list_getitem.lookup (wpAny_getItem_list hl.isList h0 (by lia) (by simpa using hV) (k _ _ (Kp.refl _) ok dV)) (hs _ _)
end
structure EnvS (env : Env) (sc : Scope) : Prop where
 scope : env.scope = sc
 kind : sc.kind = .function
 globals : env.globals = mainGlobals
 builtins : env.builtins = builtinsNs
 cells : ∀ x, sc.names.lookup x = some .cell ∨ sc.names.lookup x = some .free → ∃ c, env.cells.lookup x = some c
theorem EnvS.g {env : Env} {sc : Scope} (x : EnvS env sc) : EnvG env := ⟨by rw [x.scope]; exact x.kind, x.globals, x.builtins⟩
inductive PArgs (φ : Nat → Addr) (H : List Addr) (h : Heap) : List (Pred Value) → List Value → Prop
 | nil : PArgs φ H h [] []
 | cons {P : Pred Value} {Ps : List (Pred Value)} {V : Value} {Vs : List Value} : P φ H h V → PArgs φ H h Ps Vs → PArgs φ H h (P :: Ps) (V :: Vs)
theorem PArgs.cn {φ : Nat → Addr} {H : List Addr} {h : Heap} {P : Pred Value} {Ps : List (Pred Value)} {motive : (V : List Value) → PArgs φ H h (P :: Ps) V → Prop} (cons : ∀ {v vs} (a : P φ H h v) (b : PArgs φ H h Ps vs), motive (v :: vs) (.cons a b)) {V : List Value} (d : PArgs φ H h (P :: Ps) V) : motive V d := by cases d; apply cons <;> assumption
theorem PArgs.nl {φ : Nat → Addr} {H : List Addr} {h : Heap} {motive : (V : List Value) → PArgs φ H h [] V → Prop} (nil : motive [] .nil) {V : List Value} (d : PArgs φ H h [] V) : motive V d := by cases d; exact nil
noncomputable def PA (Ps : List (Pred Value)) : Pred (List Value) := fun φ H h Vs => PArgs φ H h Ps Vs
noncomputable def pvs (xs : List PV) : List (Pred Value) := xs.map fun v => PR (.pv v)
theorem PArgs.dens {φ : Nat → Addr} {H : List Addr} {h : Heap} {xs : List PV} {Vs : List Value} (d : PArgs φ H h (pvs xs) Vs) : Dens H h Vs xs := by
 induction xs generalizing Vs with
 | nil =>
  replace d : PArgs φ H h [] Vs := d
  cases d using PArgs.nl; exact .nil
 | cons x xs ih =>
  replace d : PArgs φ H h (PR (.pv x) :: pvs xs) Vs := d
  cases d using PArgs.cn with | cons a b => exact .cons a (ih b)
theorem PArgs.one {φ : Nat → Addr} {H : List Addr} {h : Heap} {P : Pred Value} {Vs : List Value} (x : PArgs φ H h [P] Vs) : ∃ V, Vs = [V] ∧ P φ H h V := by
 cases x using PArgs.cn with | cons a b => cases b using PArgs.nl; exact ⟨_, rfl, a⟩
theorem PArgs.two {φ : Nat → Addr} {H : List Addr} {h : Heap} {P P' : Pred Value} {Vs : List Value} (x : PArgs φ H h [P, P'] Vs) : ∃ V W, Vs = [V, W] ∧ P φ H h V ∧ P' φ H h W := by
 cases x using PArgs.cn with | cons a b => obtain ⟨W, rfl, d⟩ := b.one; exact ⟨_, _, rfl, a, d⟩
theorem PArgs.three {φ : Nat → Addr} {H : List Addr} {h : Heap} {P P' P'' : Pred Value} {Vs : List Value} (x : PArgs φ H h [P, P', P''] Vs) : ∃ V W X, Vs = [V, W, X] ∧ P φ H h V ∧ P' φ H h W ∧ P'' φ H h X := by
 cases x using PArgs.cn with | cons a b => obtain ⟨W, X, rfl, d, d'⟩ := b.two; exact ⟨_, _, _, rfl, a, d, d'⟩
section
variable {Γ : Cx} {n : Nat} {env : Env} {σ : St} {sc : Scope}
noncomputable abbrev EvS (Γ : Cx) (n : Nat) (env : Env) (σ : St) (pos : Pos) (es : List Expr) (Ps : List (Pred Value)) : Prop := EvP Γ n env σ (spliced (backTo pos (starEach es env))) (PA Ps)
theorem EvS.nil {pos : Pos} : EvS Γ n env σ pos [] [] := .mk fun A E s φ H R ok lv eo Q k => wpAny_items_nil (k _ _ (Kp.refl _) ok .nil)
theorem EvS.cons {pos : Pos} {e : Expr} {es : List Expr} {P : Pred Value} {Ps : List (Pred Value)} (mP : MonoP P) (h : EvP Γ n env σ (eval e env) P) (hs : EvS Γ n env σ pos es Ps)
  (he : ∀ env, starEach (e :: es) env = (false, eval e env) :: starEach es env := by intro _; rfl) : EvS Γ n env σ pos (e :: es) (P :: Ps) :=
 .mk fun A E s φ H R ok lv eo Q k => wpAny_items_cons (h.run A E s φ H R ok lv eo _ fun V s1 k1 ok1 d => hs.run A E s1 φ H R ok1 (lv.kp k1) (eo.kp k1) _ fun Vs s2 k2 ok2 ds => k _ _ (k1.trans k2) ok2 (.cons (mP _ _ _ _ _ k2 d) ds)) (he env)
theorem Ev.list {es : List Expr} {pos : Pos} {xs : List PV} (h : EvS Γ n env σ pos es (pvs xs)) (hz : xs.length ≤ 2 ^ 24) : Ev Γ n env σ (.List es pos) (.pv (.list xs)) :=
 .mk fun A E s φ H R ok lv eo Q k => wpAny_List (h.run A E s φ H R ok lv eo _ fun Vs s1 k1 ok1 d => by
  have dd := PArgs.dens d
  have := dd.length
  refine ⟨by simp only [sizeLine]; lia, k _ _ (k1.trans (Kp.push _ _)) (ok1.W0 _) (.list (lv.kp k1).size (LstAt.new _ _) ?_)⟩
  exact dd.kp (Kp.push _ _))
theorem Ev.tup {es : List Expr} {c : Nat} {pos : Pos} {xs : List PV} (h : EvS Γ n env σ pos es (pvs xs)) (hz : xs.length ≤ 2 ^ 24) : Ev Γ n env σ (.Tuple es c pos) (.pv (.tup xs)) :=
 .mk fun A E s φ H R ok lv eo Q k => wpAny_Tuple (h.run A E s φ H R ok lv eo _ fun Vs s1 k1 ok1 d => by
  have dd := PArgs.dens d
  have := dd.length
  refine ⟨by simp only [sizeLine]; lia, k _ _ (k1.trans (Kp.push _ _)) (ok1.W0 _) (.tup (lv.kp k1).size (TupAt.new _ _) ?_)⟩
  exact dd.kp (Kp.push _ _))
theorem Ev.global {x : Str} {pos : Pos} {v : Value} (G : EnvS env sc) (hx : sc.names.lookup x = some .globalImplicit) (hg : Γ.mg x = some v) (hd : (x == ("__debug__" : Str)) = false) : EvP Γ n env σ (eval (.Name x pos) env) fun _ _ _ V => V = v :=
 .mk fun A E s φ H R ok lv eo Q k => Name_function_global G.g.kind (by unfold Env.kindOf; rw [G.scope]; exact hx)
  (loadGlobal_global (by rw [G.globals]; exact ns_kp Γ.g ok.kb) hg (k _ _ (Kp.refl _) ok rfl)) hd
theorem Ev.builtin {x : Str} {pos : Pos} {v : Value} (G : EnvS env sc) (hx : sc.names.lookup x = some .globalImplicit) (hg : Γ.mg x = none) (hb : bootBuiltins x = some v) (hn : x ≠ "__name__") (hd : (x == ("__debug__" : Str)) = false) : EvP Γ n env σ (eval (.Name x pos) env) fun _ _ _ V => V = v :=
 .mk fun A E s φ H R ok lv eo Q k => Name_function_global G.g.kind (by unfold Env.kindOf; rw [G.scope]; exact hx)
  (loadGlobal_builtin (by rw [G.globals]; exact ns_kp Γ.g ok.kb) hg (by rw [G.builtins]; exact ns_kp Γ.b ok.kb) ((Γ.builtins x hn).trans hb) (k _ _ (Kp.refl _) ok rfl)) hd
noncomputable def CallB (Γ : Cx) (n : Nat) (env : Env) (σ : St) (f : Value) (Ps : List (Pred Value)) (P : Pred Value) : Prop :=
 ∀ Vs : List Value, Stp Γ n env σ (call f Vs) (fun φ H h => PArgs φ H h Ps Vs) P
theorem Ev.T2 {x : Str} {p pos : Pos} {id : String} {e : Expr} {es : List Expr} {Ps : List (Pred Value)} {P : Pred Value} (hf : EvP Γ n env σ (eval (.Name x p) env) fun _ _ _ V => V = .builtin id) (ha : EvS Γ n env σ pos (e :: es) Ps) (hc : CallB Γ n env σ (.builtin id) Ps P)
  (he : ∀ env, starEach (e :: es) env = (false, eval e env) :: starEach es env := by intro _; rfl) (hp : ∀ env, (backTo pos (starEach es env)).any (·.1) = false := by intro _; rfl) : EvP Γ n env σ (eval (.Call (.Name x p) (e :: es) [] pos) env) P :=
 .mk fun A E s φ H R ok lv eo Q k => wpAny_Call_Name_kw (hf.run A E s φ H R ok lv eo _ fun V s1 k1 ok1 hV => by
  subst hV
  exact PyProof.Rows.callWith_builtin1 (ha.run A E s1 φ H R ok1 (lv.kp k1) (eo.kp k1) _ fun Vs s2 k2 ok2 ds => hc Vs A E s2 φ H R ok2 (lv.kp (k1.trans k2)) (eo.kp (k1.trans k2)) ds Q fun V s3 k3 ok3 d => k V s3 ((k1.trans k2).trans k3) ok3 d) (he env) (hp env))
theorem Ev.R0 {x : Str} {p pos : Pos} {T : String} {e : Expr} {es : List Expr} {Ps : List (Pred Value)} {P : Pred Value} (hf : EvP Γ n env σ (eval (.Name x p) env) fun _ _ _ V => V = .type T) (ha : EvS Γ n env σ pos (e :: es) Ps) (hc : CallB Γ n env σ (.type T) Ps P)
  (he : ∀ env, starEach (e :: es) env = (false, eval e env) :: starEach es env := by intro _; rfl) (hp : ∀ env, (backTo pos (starEach es env)).any (·.1) = false := by intro _; rfl) : EvP Γ n env σ (eval (.Call (.Name x p) (e :: es) [] pos) env) P :=
 .mk fun A E s φ H R ok lv eo Q k => wpAny_Call_Name_kw (hf.run A E s φ H R ok lv eo _ fun V s1 k1 ok1 hV => by
  subst hV
  exact PyProof.Rows.callWith_type1 (ha.run A E s1 φ H R ok1 (lv.kp k1) (eo.kp k1) _ fun Vs s2 k2 ok2 ds => hc Vs A E s2 φ H R ok2 (lv.kp (k1.trans k2)) (eo.kp (k1.trans k2)) ds Q fun V s3 k3 ok3 d => k V s3 ((k1.trans k2).trans k3) ok3 d) (he env) (hp env))
noncomputable abbrev Cx.on (Γ : Cx) (k : List Addr) : Cx := { Γ with stk := k }
noncomputable def FSpec (Γ : Cx) (n : Nat) (f : Addr) (xs : List PV) (r : PV) : Prop :=
 ∀ (k : List Addr) (A : Around) (s : Shared) (H : List Addr) (Vs : List Value), Room (Γ.on k) A n → (Γ.on k).Ok s → Live H s.heap → Dens H s.heap Vs xs →
  ∀ R : Result → Shared → Prop, (∀ V s', Kp s.heap s'.heap → (Γ.on k).Ok s' → Den H s'.heap V r → R (.ok (.ret V)) s') → codeAny (model Γ.prog Γ.w) A (.call (.ref f) ⟨Vs, []⟩) R s
theorem FSpec.on {Γ : Cx} {n : Nat} {f : Addr} {xs : List PV} {r : PV} (F : FSpec Γ n f xs r) {k : List Addr} : FSpec (Γ.on k) n f xs r := F
theorem Ev.O5 {x : Str} {p pos : Pos} {f : Addr} {o : Obj} {fd : FuncData} {e : Expr} {es : List Expr} {xs : List PV} {r : PV} (hf : EvP Γ n env σ (eval (.Name x p) env) fun _ _ _ V => V = .ref f)
  (ho : Γ.hB.get? f = some o) (hd : o.data = .func fd) (F : FSpec Γ n f xs r) (ha : EvS Γ n env σ pos (e :: es) (pvs xs))
  (he : ∀ env, starEach (e :: es) env = (false, eval e env) :: starEach es env := by intro _; rfl) : Ev Γ n env σ (.Call (.Name x p) (e :: es) [] pos) (.pv r) :=
 .mk fun A E s φ H R ok lv eo Q k => wpAny_Call_Name_kw (hf.run A E s φ H R ok lv eo _ fun V s1 k1 ok1 hV => by
  subst hV
  exact callWith_def hd (ha.run A E s1 φ H R ok1 (lv.kp k1) (eo.kp k1) _ fun Vs s2 k2 ok2 ds => ⟨ok2.base _ _ ho (q52 (q40 hd)), wpAny_call (F Γ.stk A s2 H Vs R ok2 (lv.kp (k1.trans k2)) (PArgs.dens ds) _ fun V s3 k3 ok3 d => k V s3 ((k1.trans k2).trans k3) ok3 d)⟩) (he env))
theorem CallB.len_str {x : List Nat} (hx : x.length < 2 ^ 60) : CallB Γ n env σ (.builtin "len") [PR (.pv (.str x))] (PR (.pv (.int x.length))) := fun Vs A E s φ H R ok lv eo c Q k => by
 obtain ⟨_, rfl, a⟩ := c.one; cases a using Den.s
 refine PyProof.Rows.len_str (by simp only [Str.length, size_toArray]; lia) (k _ _ (Kp.refl _) ok.toks ?_)
 dsimp only [Str.length, size_toArray]
 exact .int _ _
theorem CallB.len_list {xs : List PV} (hx : xs.length < 2 ^ 60) : CallB Γ n env σ (.builtin "len") [PL xs] (PR (.pv (.int xs.length))) := fun Vs A E s φ H R ok lv eo c Q k => by
 obtain ⟨_, rfl, l, vs, rfl, hl, hd⟩ := c.one
 have := hd.length
 simp only [length_toList] at this
 refine PyProof.Rows.len_list hl.isList (by lia) (k _ _ (Kp.refl _) ok.toks ?_)
 rw [this]; exact .int _ _
theorem CallB.chr {i : Int} (h0 : 0 ≤ i) (h1 : i ≤ 1114111) : CallB Γ n env σ (.builtin "chr") [PR (.pv (.int i))] (PR (.pv (.str [i.toNat]))) := fun Vs A E s φ H R ok lv eo c Q k => by
 obtain ⟨_, rfl, a⟩ := c.one; cases a using Den.i
 exact PyProof.Rows.chr_of_range h0 h1 (k _ _ (Kp.refl _) ok.toks (.str [i.toNat] _))
theorem CallB.range1 {b : Int} : CallB Γ n env σ (.type "range") [PR (.pv (.int b))] (PR (.pv (.rng 0 b))) := fun Vs A E s φ H R ok lv eo c Q k => by
 obtain ⟨_, rfl, a⟩ := c.one; cases a using Den.i
 refine PySem.call_range_1 (k _ _ (Kp.push _ _) (ok.push _) (.rng lv.size ⟨_, _, _, get?_push_size _ rfl⟩))
theorem CallB.Y1 {a b : Int} : CallB Γ n env σ (.type "range") [PR (.pv (.int a)), PR (.pv (.int b))] (PR (.pv (.rng a b))) := fun Vs A E s φ H R ok lv eo c Q k => by
 obtain ⟨_, _, rfl, a, b⟩ := c.two; cases a; cases b
 refine PySem.call_range_2 (k _ _ (Kp.push _ _) (ok.push _) (.rng lv.size ⟨_, _, _, get?_push_size _ rfl⟩))
end
noncomputable def lowAt (n : Nat) (lo : Option Int) : Nat := lo.elim 0 (clipAt n)
noncomputable def q61 (n : Nat) (hi : Option Int) : Nat := hi.elim n (clipAt n)
noncomputable def cut {α : Type} (lo hi : Option Int) (xs : List α) : List α := (xs.drop (lowAt xs.length lo)).take (q61 xs.length hi - lowAt xs.length lo)
theorem z20 (n : Nat) (i : Int) : clipAt n i ≤ n := by
 unfold clipAt
 exact Int.toNat_le.mpr (Int.max_le.mpr ⟨natCast_nonneg n, Int.min_le_right _ _⟩)
theorem z01 (n : Nat) (hi : Option Int) : q61 n hi ≤ n := by cases hi <;> simp [q61, z20]
theorem qk1 (x : List Nat) (t : Tok) (l u : Option (Int × Tok)) : slicePicked ⟨x.toArray⟩ l u none = (List.range (q61 x.length (u.map (·.1)) - lowAt x.length (l.map (·.1)))).map (lowAt x.length (l.map (·.1)) + ·) := by
 rw [← sliceRange_one]
 haveI e := sliceBounds_plain (l.map (·.1)) (u.map (·.1)) x.length
 show sliceRange (sliceBounds (l.map (·.1)) (u.map (·.1)) none x.length).1 (sliceBounds (l.map (·.1)) (u.map (·.1)) none x.length).2.1 1 = _
 rw [e]; rfl
theorem z92 (x : List Nat) (t : Tok) (l u : Option (Int × Tok)) {s : Shared} {Q : Value → Shared → Prop} (hz : x.length ≤ 2 ^ 24)
  (h : ∀ t' k, Q (.str ⟨(cut (l.map (·.1)) (u.map (·.1)) x).toArray⟩ t') { s with toks := k }) : (sliceMade ⟨x.toArray⟩ t l u none).post Q s := by
 unfold sliceMade
 have hp : List.filterMap (fun k => (x.toArray)[k]?) (slicePicked ⟨x.toArray⟩ l u none) = cut (l.map (·.1)) (u.map (·.1)) x := by
  rw [qk1 x t, pick_run]; rfl
 split
 ·rename_i c
  simp only [qk1 x t, Str.length, size_toArray, and_eq_true, beq_iff_eq, length_map, length_range] at c
  haveI h1 := z01 x.length (u.map (·.1))
  have e1 : lowAt x.length (l.map (·.1)) = 0 ∨ x.length = 0 := by lia
  haveI e : cut (l.map (·.1)) (u.map (·.1)) x = x := by
   unfold cut
   rcases e1 with e1 | e1
   ·haveI c2 := c.2; rw [e1]; rw [e1] at c2; rw [drop_zero]; exact take_of_length_le (by lia)
   haveI : x = [] := length_eq_zero_iff.mp e1
   subst this; simp
  have := h t s.toks
  rw [e] at this
  exact this
 show Made.post (.str _) Q s
 rw [hp]
 refine ⟨?_, h _ _⟩
 haveI : (cut (l.map (·.1)) (u.map (·.1)) x).length ≤ x.length := by unfold cut; simp; lia
 simp only [Str.length, size_toArray, sizeLine]; lia
noncomputable def PPart (k : Option Int) : Pred Value := fun _ _ _ V => IsPart V k
noncomputable def PSl (a b c : Option Int) : Pred Value := fun _ _ h V => ∃ sl vl vu vs, V = .ref sl ∧ h.IsSliceOf sl vl vu vs ∧ IsPart vl a ∧ IsPart vu b ∧ IsPart vs c
theorem qf6 {V : Value} {k : Option Int} (h : IsPart V k) : ∃ p : Option (Int × Tok), V = partValue p ∧ p.map (·.1) = k := by
 cases h with
 | none => exact ⟨none, rfl, rfl⟩
 | int i t => exact ⟨some (i, t), rfl, rfl⟩
section
variable {Γ : Cx} {n : Nat} {env : Env} {σ : St} {sc : Scope}
noncomputable abbrev EvPart (Γ : Cx) (n : Nat) (env : Env) (σ : St) (e : Option Expr) (k : Option Int) : Prop := EvP Γ n env σ (evalPart e env) (PPart k)
theorem EvPart.no : EvPart Γ n env σ none none := .mk fun A E s φ H R ok lv eo Q k => by
 rw [evalPart_none]; exact wpAny_pure (k _ _ (Kp.refl _) ok .none)
theorem EvPart.yes {e : Expr} {i : Int} (h : Ev Γ n env σ e (.pv (.int i))) : EvPart Γ n env σ (some e) (some i) := .mk fun A E s φ H R ok lv eo Q k => by
 rw [evalPart_some]; exact h.run A E s φ H R ok lv eo Q fun V s' k1 ok1 d => k V s' k1 ok1 (by cases d using Den.i; exact .int _ _)
theorem EvSl {lo hi st : Option Expr} {p : Pos} {a b c : Option Int} (ha : EvPart Γ n env σ lo a) (hb : EvPart Γ n env σ hi b) (hc : EvPart Γ n env σ st c) : EvP Γ n env σ (eval (.Slice lo hi st p) env) (PSl a b c) :=
 .mk fun A E s φ H R ok lv eo Q k => wpAny_Slice (ha.run A E s φ H R ok lv eo _ fun V1 s1 k1 ok1 d1 => hb.run A E s1 φ H R ok1 (lv.kp k1) (eo.kp k1) _ fun V2 s2 k2 ok2 d2 => hc.run A E s2 φ H R ok2 (lv.kp (k1.trans k2)) (eo.kp (k1.trans k2)) _ fun V3 s3 k3 ok3 d3 =>
  k _ _ (((k1.trans k2).trans k3).trans (Kp.push _ _)) (ok3.W0 _) ⟨_, _, _, _, rfl, Heap.IsSliceOf.new _ _ _ _, d1, d2, d3⟩)
theorem Ev.cut_str {value : Expr} {lo hi : Option Expr} {p pos : Pos} {x : List Nat} {a b : Option Int} (ho : Ev Γ n env σ value (.pv (.str x))) (ha : EvPart Γ n env σ lo a) (hb : EvPart Γ n env σ hi b) (hz : x.length ≤ 2 ^ 24) :
  Ev Γ n env σ (.Subscript value (.Slice lo hi none p) pos) (.pv (.str (cut a b x))) :=
 EvP.sub (mR _) ho (EvSl ha hb .no) fun V W A E s φ H R ok lv eo cc Q k => by
  obtain ⟨d1, sl, vl, vu, vs, rfl, hs, pa, pb, pc⟩ := cc; cases d1 using Den.s
  obtain ⟨p1, rfl, rfl⟩ := qf6 pa; obtain ⟨p2, rfl, rfl⟩ := qf6 pb; cases pc
  exact tail_any (T := "str") rfl F.slot_str_getitem.lookup (wpAny_getItem_str_slice (st := none) hs rfl (z92 x _ p1 p2 hz fun t' j => k _ _ (Kp.refl _) ok.toks (.str _ _))) rfl
theorem qu5 (vs : Array Value) (lo hi : Option Int) : (slicePick vs lo hi none).toList = cut lo hi vs.toList := by
 rw [slicePick_plain]; simp [cut, lowAt, q61]
theorem Dens.cut {H : List Addr} {h : Heap} {Vs : List Value} {vs : List PV} (d : Dens H h Vs vs) (lo hi : Option Int) : Dens H h (cut lo hi Vs) (cut lo hi vs) := by
 unfold Mine.cut; rw [d.length]; exact (d.drop _).take _
theorem Ev.O3 {value : Expr} {lo hi : Option Expr} {p pos : Pos} {xs : List PV} {a b : Option Int} (ho : EvL Γ n env σ value xs) (ha : EvPart Γ n env σ lo a) (hb : EvPart Γ n env σ hi b) (hz : xs.length ≤ 2 ^ 24) :
  Ev Γ n env σ (.Subscript value (.Slice lo hi none p) pos) (.pv (.list (cut a b xs))) :=
 EvP.sub (mL _) ho (EvSl ha hb .no) fun V W A E s φ H R ok lv eo cc Q k => by
  obtain ⟨⟨l, vs, rfl, hl, hd⟩, sl, vl, vu, v3, rfl, hs, pa, pb, pc⟩ := cc
  have := hd.length
  simp only [length_toList] at this
  refine tail_any (T := "list") hl.isList.typeIs F.slot_list_getitem.lookup (wpAny_getItem_list_slice hl.isList hs pa pb pc (by simp) (k _ _ (Kp.push _ _) (ok.W0 _) (.list lv.size (LstAt.new _ _) ?_)) (by simp only [sizeLine]; lia)) rfl
  rw [qu5]
  exact (hd.cut a b).kp (Kp.push _ _)
theorem Ev.T9 {value st : Expr} {lo hi : Option Expr} {p pos : Pos} {xs : List PV} {a b : Option Int} {c : Int} (ho : EvL Γ n env σ value xs) (ha : EvPart Γ n env σ lo a) (hb : EvPart Γ n env σ hi b) (hc : Ev Γ n env σ st (.pv (.int c))) (h0 : c ≠ 0) (hz : xs.length ≤ 2 ^ 24)
  {ys : List PV} (hy : ((sliceRange (sliceBounds a b (some c) xs.length).1 (sliceBounds a b (some c) xs.length).2.1 (sliceBounds a b (some c) xs.length).2.2).filterMap (xs[·]?)) = ys) :
  Ev Γ n env σ (.Subscript value (.Slice lo hi (some st) p) pos) (.pv (.list ys)) :=
 EvP.sub (mL _) ho (EvSl ha hb (.yes hc)) fun V W A E s φ H R ok lv eo cc Q k => by
  obtain ⟨⟨l, vs, rfl, hl, hd⟩, sl, vl, vu, v3, rfl, hs, pa, pb, pc⟩ := cc
  have := hd.length
  simp only [length_toList] at this
  refine tail_any (T := "list") hl.isList.typeIs F.slot_list_getitem.lookup (wpAny_getItem_list_slice hl.isList hs pa pb pc (by simpa using h0) (k _ _ (Kp.push _ _) (ok.W0 _) (.list lv.size (LstAt.new _ _) ?_)) (by simp only [sizeLine]; lia)) rfl
  subst hy
  haveI key : ∀ is : List Nat, Dens H s.heap (is.filterMap (vs[·]?)) (is.filterMap (xs[·]?)) := by
   intro is
   induction is with
   | nil => exact .nil
   | cons i is ih =>
    dsimp only [List.filterMap_cons]
    cases e : vs[i]? with
    | none =>
     have : xs[i]? = none := by
      rw [List.getElem?_eq_none_iff]; rw [Array.getElem?_eq_none_iff] at e; lia
     rw [this]; exact ih
    | some V =>
     obtain ⟨v, hv, dv⟩ := hd.R3 (i := i) (V := V) (by simpa using e)
     rw [hv]; exact .cons dv ih
  have := (key (sliceRange (sliceBounds a b (some c) xs.length).1 (sliceBounds a b (some c) xs.length).2.1 (sliceBounds a b (some c) xs.length).2.2)).kp (Kp.push s.heap { cls := .type "list", data := .seq (slicePick vs a b (some c)) })
  refine (show (slicePick vs a b (some c)).toList = _ from ?_) ▸ this
  unfold slicePick
  simp [‹vs.size = xs.length›]
end
theorem q49 {a b : String} (h : ofString a = ofString b) : a = b := by
 rw [Str.ofString_eq_toList, Str.ofString_eq_toList] at h
 injection h with h
 haveI h2 : a.toList.map Char.toNat = b.toList.map Char.toNat := by simpa using congrArg Array.toList h
 haveI h3 : a.toList = b.toList := List.map_inj_right (fun x y e => Char.toNat_inj.mp e) |>.mp h2
 exact String.toList_inj.mp h3
noncomputable def FK (M : List Addr) (h h' : Heap) : Prop := ∀ b o, b ∉ M → h.get? b = some o → h'.get? b = some o
theorem FK.refl (M : List Addr) (h : Heap) : FK M h h := fun _ _ _ e => e
theorem FK.trans {M : List Addr} {h₁ h₂ h₃ : Heap} (x : FK M h₁ h₂) (y : FK M h₂ h₃) : FK M h₁ h₃ := fun b o m e => y b o m (x b o m e)
theorem FK.kpH {M : List Addr} {h h' : Heap} (x : FK M h h') : KpH M h h' := fun b o m e _ => .of (x b o m e)
theorem FK.same {M : List Addr} {a : Addr} {h h' : Heap} (x : SameBut a h h') (ha : a ∈ M) : FK M h h' := fun b o m e => (x.2 b fun q => m (q ▸ ha)).trans e
theorem KpH.refl (M : List Addr) (h : Heap) : KpH M h h := fun _ _ _ e _ => .of e
theorem KpH.trans {M : List Addr} {h₁ h₂ h₃ : Heap} (x : KpH M h₁ h₂) (y : KpH M h₂ h₃) : KpH M h₁ h₃ := fun b o m e t => (x b o m e t).trans fun o' e' t' => y b o' m e' (t'.trans t)
theorem KpH.kp {M : List Addr} {h₀ h h' : Heap} (k : KpH M h h') (hm : ∀ a ∈ M, h₀.get? a = none) (k0 : Kp h₀ h) : Kp h₀ h' := fun b o e t => (k0 b o e t).trans fun o' e' t' => k b o' (fun m => by rw [hm b m] at e; cases e) e' (t'.trans t)
theorem Cx.Ok.new {Γ : Cx} {s : Shared} (ok : Γ.Ok s) {a : Addr} (h : s.heap.get? a = none) : Γ.hB.get? a = none := by
 by_cases e : Γ.hB.get? a = none
 ·exact e
 exact absurd h (ok.all a e)
noncomputable def Wr (env : Env) (M : List Addr) (h : Heap) (x : String) : Prop :=
 (env.kindOf (ofString x) = some .local ∧ env.locals ∈ M ∧ ∃ m, h.Ns env.locals m) ∨
 (env.kindOf (ofString x) = some .cell ∧ ∃ c v, env.cells.lookup (ofString x) = some c ∧ c ∈ M ∧ h.IsCell c v ∧ ∀ y, env.cells.lookup y = some c → y = ofString x)
noncomputable def Sm (env : Env) (xs : List String) (h h' : Heap) : Prop := ∀ y V, y ∉ xs → At env h y V → At env h' y V
theorem Sm.trans {env : Env} {xs : List String} {h₁ h₂ h₃ : Heap} (a : Sm env xs h₁ h₂) (b : Sm env xs h₂ h₃) : Sm env xs h₁ h₃ := fun y V n x => b y V n (a y V n x)
theorem Sm.mono {env : Env} {xs ys : List String} {h h' : Heap} (a : Sm env xs h h') (s : ∀ x ∈ xs, x ∈ ys) : Sm env ys h h' := fun y V n x => a y V (fun m => n (s _ m)) x
noncomputable def q88 (env : Env) (M : List Addr) (h h' : Heap) : Prop := ∀ y, Wr env M h y → Wr env M h' y
theorem Wr.kp {env : Env} {M : List Addr} {h h' : Heap} {x : String} (w : Wr env M h x) (k : Kp h h') : Wr env M h' x :=
 w.imp (fun ⟨a, b, m, hn⟩ => ⟨a, b, m, ns_kp hn k⟩) fun ⟨a, c, v, hc, hm, hv, u⟩ => ⟨a, c, v, hc, hm, q81 hv k, u⟩
structure LvK (h h' : Heap) : Prop where
 lv : ∀ a, (∃ o, h.get? a = some o ∧ isTab o = false) → ∃ o, h'.get? a = some o ∧ isTab o = false
 fr : ∀ a, (∃ o, h.get? a = some o ∧ isFr o = true) → ∃ o, h'.get? a = some o ∧ isFr o = true
theorem q14 {o : Obj} (h : isFr o = true) : isTab o = false := qb1 (di_fl h)
theorem Live.O1 {H : List Addr} {h : Heap} (l : Live H h) {a : Addr} {o : Obj} (e : h.get? a = some o) (t : isTab o = true) : a ∉ H := fun m => by
 obtain ⟨o', e', t'⟩ := l a m; rw [e] at e'; cases e'; rw [t] at t'; cases t'
theorem LvK.refl (h : Heap) : LvK h h := ⟨fun _ x => x, fun _ x => x⟩
theorem LvK.trans {h₁ h₂ h₃ : Heap} (x : LvK h₁ h₂) (y : LvK h₂ h₃) : LvK h₁ h₃ := ⟨fun a z => y.lv a (x.lv a z), fun a z => y.fr a (x.fr a z)⟩
theorem LvK.of {h h' : Heap} (k : Kp h h') : LvK h h' := ⟨fun a ⟨o, e, t⟩ => let ⟨_, e'⟩ := (k _ _ e t).sl; ⟨_, e', t⟩, fun a ⟨o, e, t⟩ => let ⟨_, e'⟩ := (k _ _ e (q14 t)).sl; ⟨_, e', t⟩⟩
theorem LvK.live {h h' : Heap} (x : LvK h h') {H : List Addr} (l : Live H h) : Live H h' := fun a ha => x.lv a (l a ha)
theorem LvK.same {h h' : Heap} {a : Addr} (x : SameBut a h h') (ha : ∃ o, h'.get? a = some o ∧ isTab o = false) (hf : ∀ o, h.get? a = some o → isFr o = true → ∃ o', h'.get? a = some o' ∧ isFr o' = true) : LvK h h' := ⟨fun b ⟨o, e, t⟩ => by
  by_cases q : b = a
  ·exact q ▸ ha
  ·exact ⟨o, (x.2 b q).trans e, t⟩, fun b ⟨o, e, t⟩ => by
  by_cases q : b = a
  ·subst q; exact hf o e t
  exact ⟨o, (x.2 b q).trans e, t⟩⟩
theorem Cx.Ok.fk {Γ : Cx} {s : Shared} (ok : Γ.Ok s) {M : List Addr} {h' : Heap} {t : Nat} (k : FK M s.heap h') (hm : ∀ a ∈ M, Γ.hB.get? a = none) (ht : ∀ a o, s.heap.get? a = some o → isTab o = true → a ∉ M) (lk : ∀ a ∈ Γ.stk, (∃ o, s.heap.get? a = some o ∧ isFr o = true) → ∃ o, h'.get? a = some o ∧ isFr o = true) : Γ.Ok { s with heap := h', toks := t } :=
 ⟨fun b o e t => k b o (fun m => by rw [hm b m] at e; cases e) (ok.base b o e t), fun p hp => (ok.tabs p hp).keep fun b o e t => k b o (ht b o e t) e, ok.gens, ok.os, fun b hb => by
  obtain ⟨o, ho⟩ := ne_none_iff_exists'.mp (ok.all b hb)
  rw [show ({ s with heap := h', toks := t } : Shared).heap = h' from rfl, k _ _ (fun m => hb (hm b m)) ho]; simp, fun L hL => lk L hL (ok.frs L hL), ok.off, fun b o e t => k b o (fun m => by rw [hm b m] at e; cases e) (ok.old b o e t)⟩
theorem nt_ns {h : Heap} {a : Addr} {m} (x : h.Ns a m) : ∃ o, h.get? a = some o ∧ isTab o = false := let ⟨o, es, ep, ho, hd, _⟩ := x; ⟨o, ho, q41 hd⟩
theorem LvK.lst {h h' : Heap} {a : Addr} {vs vs'} (x : SameBut a h h') (l : LstAt h a vs) (l' : LstAt h' a vs') : LvK h h' := .same x l'.some fun o e t => by
 obtain ⟨n, e'⟩ := l; rw [e'] at e; cases e; cases t
theorem fr_ns {h : Heap} {a : Addr} {m} (x : h.Ns a m) : ∃ o, h.get? a = some o ∧ isFr o = true := let ⟨o, es, ep, ho, hd, _⟩ := x; ⟨o, ho, qk7 hd⟩
theorem q65 {h : Heap} {a : Addr} {v} (x : h.IsCell a v) : ∃ o, h.get? a = some o ∧ isTab o = false := let ⟨o, ho, hd⟩ := x; ⟨o, ho, q10 hd⟩
theorem q30 {h : Heap} {a c : Addr} {m v} (x : h.Ns a m) (y : h.IsCell c v) : a ≠ c := fun e => by
 obtain ⟨o, es, ep, ho, hd, _⟩ := x; obtain ⟨o', ho', hd'⟩ := y
 subst e; rw [ho] at ho'; cases ho'; rw [hd] at hd'; cases hd'
theorem qa8 {Md : Model} {A : Around} {E : Value → Shared → Prop} {s : Shared} {env : Env} {M : List Addr} {x : String} {V : Value} {Q : Unit → Shared → Prop} (hk : env.scope.kind = .function) (w : Wr env M s.heap x)
  (h : ∀ h' t, FK M s.heap h' → LvK s.heap h' → At env h' x V → Sm env [x] s.heap h' → q88 env M s.heap h' → Q () { s with heap := h', toks := t }) : wpAny Md A (storeName env (ofString x) V) Q E s := by
 rcases w with ⟨e, hL, m, hn⟩ | ⟨e, c, v, hc, hm, hv, u⟩
 ·refine wpAny_storeName_local e hn (fun h' hn' hs => h h' _ (FK.same hs hL) (.same hs (nt_ns hn') fun _ _ _ => fr_ns hn') (.inl ⟨e, _, hn', by simp⟩) (fun y W hy a => ?_) (fun y w' => ?_)) (hk ▸ rfl)
  ·rcases a with ⟨e', m', hn2, hm2⟩ | ⟨e', c, hc, hv⟩
   ·refine .inl ⟨e', _, hn', ?_⟩
    haveI hy' : ofString y ≠ ofString x := fun q => hy ((q49 q) ▸ .head _)
    haveI : m (ofString y) = m' (ofString y) := by
     obtain ⟨o, es, ep, ho, hd, _, hf⟩ := hn
     obtain ⟨o', es', ep', ho', hd', _, hf'⟩ := hn2
     rw [ho] at ho'; cases ho'; rw [hd] at hd'; cases hd'
     rw [← hf, ← hf']
    simp [hy', this, hm2]
   exact .inr ⟨e', c, hc, hv.sameBut hs (q30 hn hv).symm⟩
  rcases w' with ⟨e', hL', m', hn2⟩ | ⟨e', c, v, hc, hm, hv, u⟩
  ·exact .inl ⟨e', hL', _, hn'⟩
  exact .inr ⟨e', c, v, hc, hm, hv.sameBut hs (q30 hn hv).symm, u⟩
 refine wpAny_storeName_cell hk e hc hv fun h' hv' hs => h h' _ (FK.same hs hm) (.same hs (q65 hv') fun o e t => by obtain ⟨o', e', d'⟩ := hv; cases e'.symm.trans e; rw [q21 d'] at t; nomatch t) (.inr ⟨.inl e, c, hc, hv'⟩) (fun y W hy a => ?_) (fun y w' => ?_)
 ·rcases a with ⟨e', m', hn2, hm2⟩ | ⟨e', c', hc', hv2⟩
  ·exact .inl ⟨e', m', hn2.sameBut hs (q30 hn2 hv), hm2⟩
  refine .inr ⟨e', c', hc', hv2.sameBut hs fun q => hy ?_⟩
  subst q
  rw [q49 (u _ hc')]; exact .head _
 rcases w' with ⟨e', hL', m', hn2⟩ | ⟨e', c', v', hc', hm', hv2, u'⟩
 ·exact .inl ⟨e', hL', m', hn2.sameBut hs (q30 hn2 hv)⟩
 by_cases q : c' = c
 ·subst q; exact .inr ⟨e', _, _, hc', hm', hv', u'⟩
 exact .inr ⟨e', c', v', hc', hm', hv2.sameBut hs q, u'⟩
noncomputable def Ats (env : Env) (h : Heap) : List String → List Value → Prop
 | [], [] => True
 | x :: xs, V :: Vs => At env h x V ∧ Ats env h xs Vs
 | _, _ => False
theorem qw4 {Md : Model} {A : Around} {E : Value → Shared → Prop} {env : Env} {M : List Addr} (hk : env.scope.kind = .function) : ∀ (xs : List String) (ps : List Pos) (Vs : List Value) (s : Shared) (Q : Unit → Shared → Prop), xs.length = Vs.length → ps.length = xs.length → xs.Nodup → (∀ x ∈ xs, Wr env M s.heap x) →
  (∀ h' t, FK M s.heap h' → LvK s.heap h' → Ats env h' xs Vs → Sm env xs s.heap h' → q88 env M s.heap h' → Q () { s with heap := h', toks := t }) →
  wpAny Md A (assignInOrder ((xs.zip ps).map fun p => assign (.Name (ofString p.1) p.2) env) Vs) Q E s := by
 intro xs
 induction xs with
 | nil =>
  intro ps Vs s Q hl _ _ _ h
  cases Vs with
  | nil =>
   exact wpAny_pure (h s.heap s.toks (FK.refl _ _) (LvK.refl _) trivial (fun _ _ _ a => a) fun _ w => w)
  | cons _ _ => simp at hl
 | cons x xs ih =>
  intro ps Vs s Q hl hp hn hw h
  cases Vs with
  | nil => simp at hl
  | cons V Vs =>
   cases ps with
   | nil => simp at hp
   | cons p ps =>
    show wpAny Md A (do holding Vs (assign (.Name (ofString x) p) env V); assignInOrder _ Vs) Q E s
    refine wpAny_bind (wpAny_holding (wpAny_assign_Name (qa8 hk (hw x (.head _)) fun h1 t1 f1 l1 a1 s1 w1 => ?_)))
    have hn' := List.nodup_cons.mp hn
    refine ih ps Vs { s with heap := h1, toks := t1 } Q (by simpa using hl) (by simpa using hp) hn'.2 (fun y hy => w1 y (hw y (.tail _ hy))) fun h2 t2 f2 l2 a2 s2 w2 => ?_
    refine h h2 t2 (f1.trans f2) (l1.trans l2) ⟨s2 _ _ hn'.1 a1, a2⟩ ?_ fun y w => w2 y (w1 y w)
    exact (s1.mono fun y hy => by cases hy with | head => exact .head _ | tail _ h => cases h).trans (s2.mono fun y hy => .tail _ hy)
section
variable {prog : Program} {w : World} {A : Around} {E : Value → Shared → Prop} {s : Shared}
theorem ql7 {it t : Addr} {items : Array Value} (hne : t ≠ it) : ∀ (n i : Nat) (s : Shared) (Q : List Value → Shared → Prop), s.heap.IsListIter it t i → s.heap.IsList t items → i + n ≤ items.size →
  (∀ h', h'.IsListIter it t (i + n) → SameBut it s.heap h' → Q ((items.toList.drop i).take n) { s with heap := h' }) → wpAny (model prog w) A (draw (.ref it) n) Q E s
 | 0, i, s, Q, hit, _, _, hQ => by
  show wpAny _ _ (pure []) Q E s
  exact wpAny_pure (by simpa using hQ s.heap hit (SameBut.refl ..))
 | n + 1, i, s, Q, hit, ht, hle, hQ => by
  have hlt : i < items.size := by lia
  show wpAny _ _ (pyNext (.ref it) >>= _) Q E s
  refine wpAny_bind (wpAny_pyNext_list_item hit ht (x := items[i]) (by simp [hlt]) fun h₁ hit₁ hs₁ => ?_)
  refine wpAny_bind (wpAny_holding (ql7 hne n (i + 1) _ _ hit₁ (ht.extBut hs₁.extBut hne) (by lia) fun h₂ hit₂ hs₂ => wpAny_pure ?_))
  haveI hd : items.toList.drop i = items[i] :: items.toList.drop (i + 1) := by simp [drop_eq_getElem_cons, hlt]
  have := hQ h₂ (by rw [show i + (n + 1) = i + 1 + n by lia]; exact hit₂) (hs₁.trans hs₂)
  rw [hd, List.take_succ_cons] at this
  exact this
theorem qa3 {t : Addr} {items : Array Value} {Q : List Value → Shared → Prop} (hh : A.handled = none) (ht : s.heap.IsList t items)
  (hQ : ∀ h', Heap.ExtBut s.heap.objs.size s.heap h' → Q items.toList { s with heap := h' }) : wpAny (model prog w) A (unpackItems (.ref t) items.size none) Q E s := by
 have hlt : t ≠ s.heap.objs.size := by obtain ⟨o, ho, _⟩ := ht; exact Nat.ne_of_lt (lt_size ho)
 unfold unpackItems
 refine wpAny_bind ?_
 unfold notIterableAtAll
 refine wpAny_bind (wpAny_specialOf ht.typeIs F.slot_list_iter.lookup ?_)
 refine wpAny_pure ?_
 dsimp only [false_eq_true, if_false]
 refine wpAny_bind (wpAny_holding (wpAny_pyIter_list ht ?_))
 refine wpAny_bind (wpAny_holding (ql7 hlt items.size 0 _ _ ⟨_, get?_push_size _ rfl, rfl, rfl⟩ (ht.push _) (by lia) fun h₁ hit₁ hs₁ => ?_))
 have hall : List.take items.size (List.drop 0 items.toList) = items.toList := by
  rw [drop_zero]; exact take_of_length_le (by simp)
 rw [hall, if_neg (by simp)]
 have ht₁ : h₁.IsList t items := (ht.push _).extBut hs₁.extBut hlt
 refine wpAny_bind (wpAny_holding (wpAny_pyNext_list_end hh hit₁ ht₁ (by simp) fun h₂ he₂ => ?_))
 dsimp only [Option.isSome_none, false_eq_true, if_false]
 exact wpAny_pure (hQ h₂ fun b o hb e => he₂ b o hb (hs₁.extBut b o hb (get?_push_of_some _ e)))
end
inductive Tgt : Expr → List String → Prop
 | name (x : String) (p : Pos) : Tgt (.Name (ofString x) p) [x]
 | tup (xs : List String) (ps : List Pos) (k : Nat) (pos : Pos) : ps.length = xs.length → Tgt (.Tuple ((xs.zip ps).map fun p => .Name (ofString p.1) p.2) k pos) xs
noncomputable def Unp (H : List Addr) (h : Heap) (V : Value) : Expr → List PV → Prop
 | .Tuple .., its => ∃ T vals, V = .ref T ∧ (h.IsTuple T vals ∨ h.IsList T vals) ∧ Dens H h vals.toList its
 | _, its => ∃ y, its = [y] ∧ Den H h V y
theorem q13 (env : Env) : ∀ (l : List (String × Pos)), assignEach (l.map fun p => .Name (ofString p.1) p.2) env = l.map fun p => (false, assign (.Name (ofString p.1) p.2) env)
 | [] => rfl
 | p :: l => by
  rw [map_cons, map_cons, ← q13 env l]; rfl
theorem qh5 {α : Type} (l : List (Bool × α)) (h : ∀ p ∈ l, p.1 = false) : l.findIdx? (·.1) = none := by
 rw [List.findIdx?_eq_none_iff]; intro p hp; exact h p hp
theorem qe1 {prog : Program} {w : World} {A : Around} {E : Value → Shared → Prop} {s : Shared} {env : Env} {M H : List Addr} {tgt : Expr} {xs : List String} {V : Value} {its : List PV} {Q : Unit → Shared → Prop}
  (hk : env.scope.kind = .function) (hh : A.handled = none) (T : Tgt tgt xs) (hn : xs.Nodup) (hw : ∀ x ∈ xs, Wr env M s.heap x) (hl : its.length = xs.length) (u : Unp H s.heap V tgt its) (hm : s.heap.objs.size ∉ M)
  (h : ∀ h' t Vs, FK M s.heap h' → LvK s.heap h' → Ats env h' xs Vs → Dens H s.heap Vs its → Sm env xs s.heap h' → q88 env M s.heap h' → Q () { s with heap := h', toks := t }) : wpAny (model prog w) A (assign tgt env V) Q E s := by
 cases T with
 | name x p =>
  obtain ⟨y, rfl, d⟩ := u
  exact wpAny_assign_Name (qa8 hk (hw x (.head _)) fun h' t f lk a sm wk => h h' t [V] f lk ⟨a, trivial⟩ (.cons d .nil) sm wk)
 | tup _ ps k pos hp =>
  obtain ⟨T, vals, rfl, ht, d⟩ := u
  have hsz : vals.size = xs.length := by rw [← hl, ← d.length]; simp
  rw [arm_assign_Tuple]
  refine wpAny_bind (wpAny_standAt ?_)
  haveI hlen : (assignEach ((xs.zip ps).map fun p => Expr.Name (ofString p.1) p.2) env).length = vals.size := by
   rw [q13, length_map, List.length_zip]; lia
  haveI hst : (assignEach ((xs.zip ps).map fun p => Expr.Name (ofString p.1) p.2) env).findIdx? (·.1) = none := by
   rw [q13]; apply qh5; intro p hp; simp only [mem_map] at hp; obtain ⟨_, _, rfl⟩ := hp; rfl
  haveI go : ∀ h1, Heap.ExtBut s.heap.objs.size s.heap h1 → wpAny (model prog w) A (assignInOrder ((assignEach ((xs.zip ps).map fun p => Expr.Name (ofString p.1) p.2) env).map (·.2)) vals.toList) Q E { s with heap := h1 } := by
   intro h1 e1
   have k1 : ∀ b o, s.heap.get? b = some o → h1.get? b = some o := fun b o e => e1 b o (Nat.ne_of_lt (lt_size e)) e
   rw [q13, map_map]
   refine qw4 hk xs ps vals.toList { s with heap := h1 } Q (by simpa using hsz.symm) hp hn (fun x hx => (hw x hx).kp (.of k1)) fun h' t f lk a sm wk => ?_
   refine h h' t vals.toList (fun b o m e => f b o m (k1 b o e)) ((LvK.of (.of k1)).trans lk) a d (fun y W n a => sm y W n (a.kp (.of k1))) fun y w => wk y (w.kp (.of k1))
  unfold unpack
  rw [hlen, hst]
  refine wpAny_bind (wpAny_holding ?_)
  rcases ht with ht | ht
  ·exact wpAny_unpackItems_tuple hh ht fun h1 e1 => go h1 e1
  exact qa3 hh ht fun h1 e1 => go h1 e1
structure Itr (prog : Program) (w : World) (A : Around) (hpre : Heap) (H : List Addr) (tgt : Expr) (I : Addr) (fp wr : List Addr) (its : List (List PV)) (S : Nat → Heap → Prop) : Prop where
 sub : ∀ b ∈ wr, b ∈ fp
 fresh : ∀ b ∈ wr, hpre.get? b = none
 live : ∀ i h, S i h → ∀ b ∈ wr, ∃ o, h.get? b = some o ∧ isLo o = false
 frame : ∀ i h h', S i h → (∀ b ∈ fp, ∀ o, h.get? b = some o → h'.get? b = some o) → S i h'
 item : ∀ i (s : Shared) (E : Value → Shared → Prop) (x : List PV) (Q : Option Value → Shared → Prop) (H' : List Addr), its[i]? = some x → S i s.heap → (∀ a ∈ H', a ∈ H ∨ Nw hpre a) → KpH H hpre s.heap →
  (∀ v h1 t1, FK wr s.heap h1 → (∀ (E' : Value → Shared → Prop) (Q' : Unit → Shared → Prop), (∀ h2, FK wr h1 h2 → S (i + 1) h2 → Unp H' h2 v tgt x → Q' () { s with heap := h2, toks := t1 }) →
   wpAny (model prog w) A (letOwnedTupleGo tgt (.ref I) v) Q' E' { s with heap := h1, toks := t1 }) → Q (some v) { s with heap := h1, toks := t1 }) → wpAny (model prog w) A (pyNext (.ref I)) Q E s
 done : ∀ (s : Shared) (E : Value → Shared → Prop) (Q : Option Value → Shared → Prop), S its.length s.heap → (∀ h' t, FK wr s.heap h' → Q none { s with heap := h', toks := t }) → wpAny (model prog w) A (pyNext (.ref I)) Q E s
 self : ∀ i (s : Shared) (E : Value → Shared → Prop) (Q : Value → Shared → Prop), S i s.heap → Q (.ref I) s → wpAny (model prog w) A (pyIter (.ref I)) Q E s
structure EvI (Γ : Cx) (n : Nat) (env : Env) (σ : St) (e : Expr) (tgt : Expr) (its : List (List PV)) : Prop where
 run : ∀ (A : Around) (E : Value → Shared → Prop) (s : Shared) (φ : Nat → Addr) (H : List Addr), Room Γ A n → Γ.Ok s → Live H s.heap → EnvOK env φ H σ s.heap → ∀ Q : Value → Shared → Prop,
  (∀ I s' fp wr S hpre, Kp s.heap hpre → Kp hpre s'.heap → Γ.Ok s' → (∀ b ∈ wr, Γ.hB.get? b = none) → (∀ a, s'.heap.get? a = none → hpre.get? a = none) → Itr Γ.prog Γ.w A hpre H tgt I fp wr its S → S 0 s'.heap → (∀ b ∈ fp, b ∉ H ∧ ∃ o, s'.heap.get? b = some o ∧ isLo o = false) → Q (.ref I) s') →
  wpAny (model Γ.prog Γ.w) A (eval e env) (fun x s₁ => wpAny (model Γ.prog Γ.w) A (pyIter x) Q E s₁) E s
theorem q50 (h : Heap) (o : Obj) : ∀ a, (h.push o).get? a = none → h.get? a = none := fun a e => by
 cases q : h.get? a with
 | none => rfl
 | some o' => rw [get?_push_of_some o q] at e; nomatch e
theorem Itr.ofWalks {prog : Program} {w : World} {A : Around} {hpre : Heap} {H : List Addr} {x : String} {p : Pos} {I : Addr} {fp wr : List Addr} {xs : List PV} {S : Nat → Heap → Prop} {P : Nat → Value → Prop}
  (W : Walks prog w A I fp wr xs.length P S) (fresh : ∀ b ∈ wr, hpre.get? b = none) (live : ∀ i h, S i h → ∀ b ∈ wr, ∃ o, h.get? b = some o ∧ isLo o = false) (hP : ∀ i v y, P i v → xs[i]? = some y → Den H hpre v y) :
  Itr prog w A hpre H (.Name (ofString x) p) I fp wr (xs.map fun y => [y]) S where
 sub := W.sub
 fresh := fresh
 live := live
 frame := W.frame
 item i s E x' Q H' hx st sub k h := by
  rw [getElem?_map] at hx
  obtain ⟨y, hy, rfl⟩ := map_eq_some_iff.mp hx
  haveI hlt : i < xs.length := (List.getElem?_eq_some_iff.mp hy).1
  refine W.item i s Q E hlt st fun v h' tk hv st' hk => h v h' tk (fun b o m e => hk b o m e) fun E' Q' q => ?_
  refine wpAny_of_eq (a := ()) rfl (q h' (FK.refl _ _) st' ⟨y, rfl, ?_⟩)
  haveI kk : KpH H hpre h' := fun b o m e t => (k b o m e t).trans fun o' e' _ => .of (hk b o' (fun m => by rw [fresh b m] at e; nomatch e) e')
  exact (hP i v y hv hy).kpN kk sub
 done s E Q st h := W.done s Q E (by simpa using st) fun h' tk hk => h h' tk fun b o m e => hk b o m e
 self i s E Q st h := W.self i s Q E st h
section
variable {Γ : Cx} {n : Nat} {env : Env} {σ : St} {sc : Scope}
theorem EvI.list {e : Expr} {x : String} {p : Pos} {xs : List PV} (he : Ev Γ n env σ e (.pv (.list xs))) : EvI Γ n env σ e (.Name (ofString x) p) (xs.map fun y => [y]) :=
 .mk fun A E s φ H R ok lv eo Q k => he.run A E s φ H R ok lv eo _ fun V s1 k1 ok1 d => by
  cases d using Den.l with
  | @list a vs ha hl hd =>
   have hne : a ≠ s1.heap.objs.size := by obtain ⟨_, e⟩ := hl; exact Nat.ne_of_lt (lt_size e)
   have hlen := hd.length
   simp only [length_toList] at hlen
   refine wpAny_pyIter_list hl.isList (k s1.heap.objs.size _ [s1.heap.objs.size, a] [s1.heap.objs.size] (fun i h => h.IsListIter s1.heap.objs.size a i ∧ h.IsList a vs) s1.heap k1 (Kp.push _ _) (ok1.W0 _) (fun b hb => ok1.new (by simp only [mem_singleton] at hb; subst hb; exact q00 _)) (q50 _ _) ?_ ⟨⟨_, get?_push_size _ rfl, rfl, rfl⟩, hl.isList.push _⟩ ?_)
   ·have W := Walks.list (prog := Γ.prog) (w := Γ.w) R.handled s1.heap.objs.size a hne vs
    rw [hlen] at W
    refine Itr.ofWalks W (fun b hb => ?_) (fun i h st b hb => ?_) fun i v y hv hy => ?_
    ·simp only [mem_singleton] at hb; subst hb; exact q00 _
    ·simp only [mem_singleton] at hb; subst hb; obtain ⟨⟨o, ho, hc, hfd⟩, _⟩ := st; exact ⟨o, ho, q03 hc hfd⟩
    obtain ⟨V, hV, dV⟩ := hd.get hy
    have : V = v := by rw [← getElem?_toList] at hv; rw [hv] at hV; exact (Option.some.inj hV).symm
    exact this ▸ dV
   intro b hb
   simp only [mem_cons, not_mem_nil, or_false] at hb
   rcases hb with rfl | rfl
   ·exact ⟨(lv.kp k1).size, _, get?_push_size _ rfl, rfl⟩
   exact ⟨ha, (hl.kp (Kp.push _ _)).lo⟩
end
theorem qe2 {prog : Program} {w : World} {A : Around} {E : Value → Shared → Prop} {s : Shared} {l : Addr} {vs : Array Value} {x : Value} {Q : Value → Shared → Prop} (hl : LstAt s.heap l vs) (hz : vs.size ≤ 2 ^ 24)
  (h : ∀ h', SameBut l s.heap h' → LstAt h' l (vs.push x) → Q .none { s with heap := h' }) : wpAny (model prog w) A (call (.builtin "list.append") [.ref l, x]) Q E s := by
 obtain ⟨k, hk⟩ := hl
 refine call_meets F.slot_list_append ⟨_, hk, rfl⟩ F.entry_list_append (F.args_list_append_2 _ _) (PySem.list_append l vs k x (by simp only [sizeLine]; exact hz)) ⟨hk, ?_⟩
 exact h _ (SameBut.update ..) ⟨_, PySem.IsL.update hk _⟩
structure Blk (Γ : Cx) (env : Env) (M : List Addr) (D : Addr) : Prop where
 apart : D ∉ M
 off : ∀ a ∈ D :: M, Γ.hB.get? a = none
 kind : env.scope.kind = .function
 loc : env.locals ∈ M
noncomputable def EmitOK (Γ : Cx) (n : Nat) (env : Env) (M : List Addr) (D : Addr) (σ : St) (t : Sem Unit) (xs ns : List String) (ys : List PV) : Prop :=
 ∀ (A : Around) (E : Value → Shared → Prop) (s : Shared) (φ : Nat → Addr) (H : List Addr) (vs : Array Value) (zs : List PV), Room Γ A n → Γ.Ok s → Live (D :: M ++ H) s.heap → EnvOK env φ (D :: M ++ H) σ s.heap → (∀ x ∈ ns, Wr env M s.heap x) →
  LstAt s.heap D vs → Dens (D :: M ++ H) s.heap vs.toList zs → zs.length + ys.length ≤ 2 ^ 24 →
  ∀ Q : Unit → Shared → Prop, (∀ s' vs', KpH (D :: M) s.heap s'.heap → Γ.Ok s' → Live (D :: M ++ H) s'.heap → Sm env xs s.heap s'.heap → q88 env M s.heap s'.heap → LstAt s'.heap D vs' → Dens (D :: M ++ H) s'.heap vs'.toList (zs ++ ys) → Q () s') → wpAny (model Γ.prog Γ.w) A t Q E s
theorem FK.frw {wr : List Addr} {h h' : Heap} (f : FK wr h h') (l : ∀ b ∈ wr, ∃ o, h.get? b = some o ∧ isLo o = false) : ∀ a, (∃ o, h.get? a = some o ∧ isFr o = true) → ∃ o, h'.get? a = some o ∧ isFr o = true := fun a ⟨o, e, t⟩ => by
 by_cases m : a ∈ wr
 ·obtain ⟨o', e', t'⟩ := l a m
  rw [e'] at e; cases e; rw [lof t'] at t; cases t
 exact ⟨o, f a o m e, t⟩
theorem LvK.fkw {wr : List Addr} {h h' : Heap} (f : FK wr h h') (l : ∀ b ∈ wr, ∃ o, h.get? b = some o ∧ isLo o = false) (l' : ∀ b ∈ wr, ∃ o, h'.get? b = some o ∧ isLo o = false) : LvK h h' := by
 refine ⟨fun a ⟨o, e, t⟩ => ?_, fun a ⟨o, e, t⟩ => ?_⟩
 ·by_cases m : a ∈ wr
  ·obtain ⟨o', e', t'⟩ := l' a m; exact ⟨o', e', (lot t')⟩
  exact ⟨o, f a o m e, t⟩
 by_cases m : a ∈ wr
 ·obtain ⟨o', e', t'⟩ := l a m
  rw [e'] at e; cases e; rw [(lof t')] at t; cases t
 exact ⟨o, f a o m e, t⟩
theorem z93 {M H : List Addr} {a : Addr} {h h' : Heap} (lv : Live H h) (hs : SameBut a h h') (ha : ∃ o, h'.get? a = some o ∧ isTab o = false) : Live H h' := fun b hb => by
 by_cases e : b = a
 ·exact e ▸ ha
 obtain ⟨o, ho, ht⟩ := lv b hb; exact ⟨o, (hs.2 b e).trans ho, ht⟩
theorem EmitOK.elt {Γ : Cx} {n : Nat} {env : Env} {M : List Addr} {D : Addr} {σ : St} {e : Expr} {y : PV} {ns : List String} (B : Blk Γ env M D) (h : Ev Γ n env σ e (.pv y)) : EmitOK Γ n env M D σ (do let _ ← call (.builtin "list.append") [.ref D, ← eval e env]) [] ns [y] :=
 fun A E s φ H vs zs R ok lv eo _ hl hd hz Q k => by
  refine wpAny_bind (h.run A E s φ (D :: M ++ H) R ok lv eo _ fun V s1 k1 ok1 d => wpAny_bind ?_)
  have hl1 := hl.kp k1
  haveI hlen := hd.length
  simp only [length_toList] at hlen
  refine qe2 hl1 (by simp at hz; lia) fun h' hs hl' => wpAny_pure (k { s1 with heap := h' } (vs.push V) ?_ ?_ ?_ ?_ ?_ hl' ?_)
  ·exact (k1.toH _).trans (FK.same hs (.head _)).kpH
  ·exact ok1.fk (FK.same hs (.head M)) B.off (fun a o e t m => (lv.kp k1).O1 e t (mem_append_left _ m)) fun a _ => (LvK.lst hs hl1 hl').fr a
  ·exact z93 (M := D :: M) (lv.kp k1) hs hl'.some
  ·intro x V' _ a
   haveI a1 := a.kp k1
   rcases a1 with ⟨e1, m, hn, hm⟩ | ⟨e1, c, hc, hv⟩
   ·refine .inl ⟨e1, m, hn.sameBut hs fun q => ?_, hm⟩
    obtain ⟨o, es, ep, ho, hdd, _⟩ := hn; obtain ⟨i, hi⟩ := hl1
    rw [q, hi] at ho; cases ho; cases hdd
   refine .inr ⟨e1, c, hc, hv.sameBut hs fun q => ?_⟩
   obtain ⟨o, ho, hdd⟩ := hv; obtain ⟨i, hi⟩ := hl1
   rw [q, hi] at ho; cases ho; cases hdd
  ·intro x w
   have w1 := w.kp k1
   rcases w1 with ⟨e1, hL, m, hn⟩ | ⟨e1, c, v, hc, hm, hv, u⟩
   ·refine .inl ⟨e1, hL, m, hn.sameBut hs fun q => ?_⟩
    obtain ⟨o, es, ep, ho, hdd, _⟩ := hn; obtain ⟨i, hi⟩ := hl1
    rw [q, hi] at ho; cases ho; cases hdd
   refine .inr ⟨e1, c, v, hc, hm, hv.sameBut hs fun q => ?_, u⟩
   obtain ⟨o, ho, hdd⟩ := hv; obtain ⟨i, hi⟩ := hl1
   rw [q, hi] at ho; cases ho; cases hdd
  haveI kk : KpH (D :: M ++ H) s1.heap h' := fun b o m e t => (FK.same hs (.head M)).kpH b o (fun q => m (mem_append_left _ q)) e t
  rw [toList_push]
  exact ((hd.kp k1).kpH kk fun _ h => .inl h).append (.cons (Den.kpH kk (fun _ h => .inl h) d) .nil)
noncomputable def q57 (p : Pos) (tgt : Expr) (ifs : List Expr) (inner : Sem Unit) (it : Value) (env : Env) (c : Code) : Sem Fin := do
 standAt p
 match ← pyNext it with
 | none => pure (.done .next)
 | some v =>
  letOwnedTupleGo tgt it v
  assign tgt env v
  let mut ok := true
  for c in ifs do
   if ok then ok ← isTrue c env (eval c env)
  if ok then inner
  again c
noncomputable abbrev q39 (ifs : List Expr) (env : Env) : Sem Bool := forIn ifs true fun c r => if r = true then do let ok ← isTrue c env (eval c env); pure (ForInStep.yield ok) else pure (ForInStep.yield r)
theorem Evb.Y0 {Γ : Cx} {n : Nat} {env : Env} {σ : St} : EvP Γ n env σ (q39 [] env) (PB true) := .mk fun A E s φ H R ok lv eo Q k => wpAny_tests_nil (k _ _ (Kp.refl _) ok rfl)
theorem Evb.U7 {Γ : Cx} {n : Nat} {env : Env} {σ : St} {c : Expr} {b : Bool} (h : Evb Γ n env σ c b) : EvP Γ n env σ (q39 [c] env) (PB b) := .mk fun A E s φ H R ok lv eo Q k => wpAny_tests_one (h.run A E s φ H R ok lv eo Q k)
theorem EnvOK.step {env : Env} {φ : Nat → Addr} {H : List Addr} {σ : St} {h h' : Heap} {xs : List String} {M : List Addr} (eo : EnvOK env φ H σ h) (k : KpH M h h') (hM : ∀ a ∈ M, a ∈ H) (sm : Sm env xs h h') (hx : ∀ p ∈ σ.v, p.1 ∉ xs) (ho : ∀ k ys, (k, ys) ∈ σ.o → φ k ∉ M)
  (ha : ∀ r k, (r, RV.app k) ∈ σ.v → φ k ∉ M) (hc : ∀ x c, env.cells.lookup x = some c → ∃ v, h'.IsCell c v) : EnvOK env φ H σ h' where
 vars x r m := by
  obtain ⟨V, a, d⟩ := eo.vars x r m
  refine ⟨V, sm x V (hx _ m) a, ?_⟩
  cases r with
  | pv v => exact Den.kpH (fun b o n e t => k b o (fun q => n (hM _ q)) e t) (fun _ h => .inl h) d
  | ptr j => exact d
  | eqa j c => exact d
  | app j =>
   obtain ⟨b, e, hb, hg⟩ := d
   exact ⟨b, e, hb, k b _ (fun q => hb (hM _ q)) hg rfl⟩
 own j ys m := by
  obtain ⟨hm, vs, ⟨i, hl⟩, hd⟩ := eo.own j ys m
  exact ⟨hm, vs, ⟨i, k _ _ (ho j ys m) hl rfl⟩, hd.kpH (fun b o n e t => k b o (fun q => n (hM _ q)) e t) fun _ h => .inl h⟩
 cells := hc
theorem qr9 {env : Env} {φ : Nat → Addr} {H : List Addr} {h : Heap} {xs : List String} {Vs : List Value} {its : List PV} (a : Ats env h xs Vs) (d : Dens H h Vs its) : ∀ x r, (x, r) ∈ (xs.zip its).map (fun p => (p.1, RV.pv p.2)) → ∃ V, At env h x V ∧ DenR φ H h V r := by
 induction xs generalizing Vs its with
 | nil => exact fun _ _ m => nomatch m
 | cons y ys ih =>
  cases its with
  | nil => exact fun _ _ m => nomatch m
  | cons i its =>
   cases d using Dens.cn with | cons d ds =>
   intro x r m
   rcases mem_cons.mp m with e | m
   ·cases e; exact ⟨_, a.1, d⟩
   exact ih a.2 ds x r m
noncomputable def pvSt (l : List (String × PV)) : St := ⟨l.map fun p => (p.1, RV.pv p.2), []⟩
theorem pvSt.mem {l : List (String × PV)} {x : String} {r : RV} (h : (x, r) ∈ (pvSt l).v) : ∃ v, r = .pv v ∧ (x, v) ∈ l := by
 simp only [pvSt, mem_map] at h
 obtain ⟨p, hp, e⟩ := h; cases e; exact ⟨_, rfl, hp⟩
theorem pvSt.mem' {l : List (String × PV)} {x : String} {v : PV} (h : (x, v) ∈ l) : (x, RV.pv v) ∈ (pvSt l).v := by
 simp only [pvSt, mem_map]; exact ⟨_, h, rfl⟩
theorem EnvOK.U9 {env : Env} {φ : Nat → Addr} {H : List Addr} {l : List (String × PV)} {h : Heap} (hv : ∀ x v, (x, v) ∈ l → ∃ V, At env h x V ∧ Den H h V v) (hc : ∀ x c, env.cells.lookup x = some c → ∃ v, h.IsCell c v) : EnvOK env φ H (pvSt l) h where
 vars x r m := by obtain ⟨v, rfl, hm⟩ := pvSt.mem m; exact hv x v hm
 own k ys m := by cases m
 cells := hc
theorem EnvOK.pv {env : Env} {φ : Nat → Addr} {H : List Addr} {l : List (String × PV)} {h : Heap} (e : EnvOK env φ H (pvSt l) h) {x : String} {v : PV} (m : (x, v) ∈ l) : ∃ V, At env h x V ∧ Den H h V v := e.vars x _ (pvSt.mem' m)
theorem zd6 {env : Env} {H : List Addr} {h : Heap} {xs : List String} {Vs : List Value} {its : List PV} (a : Ats env h xs Vs) (d : Dens H h Vs its) : ∀ x v, (x, v) ∈ xs.zip its → ∃ V, At env h x V ∧ Den H h V v := by
 induction xs generalizing Vs its with
 | nil => exact fun _ _ m => nomatch m
 | cons y ys ih =>
  cases its with
  | nil => exact fun _ _ m => nomatch m
  | cons i its =>
   cases d using Dens.cn with | cons d ds =>
   intro x r m
   rcases mem_cons.mp m with e | m
   ·cases e; exact ⟨_, a.1, d⟩
   exact ih a.2 ds x r m
theorem ns_fk {h h' : Heap} {M : List Addr} {a : Addr} {m} (x : h.Ns a m) (k : FK M h h') (ha : a ∉ M) : h'.Ns a m :=
 let ⟨o, es, ep, ho, r⟩ := x; ⟨o, es, ep, k _ _ ha ho, r⟩
theorem q71 {h h' : Heap} {M : List Addr} {a : Addr} {v} (x : h.IsCell a v) (k : FK M h h') (ha : a ∉ M) : h'.IsCell a v :=
 let ⟨o, ho, r⟩ := x; ⟨o, k _ _ ha ho, r⟩
theorem Wr.fk {env : Env} {M W : List Addr} {h h' : Heap} {x : String} (w : Wr env M h x) (k : FK W h h') (d : ∀ a ∈ M, a ∉ W) : Wr env M h' x :=
 w.imp (fun ⟨a, b, m, hn⟩ => ⟨a, b, m, ns_fk hn k (d _ b)⟩) fun ⟨a, c, v, hc, hm, hv, u⟩ => ⟨a, c, v, hc, hm, q71 hv k (d _ hm), u⟩
theorem At.fk {env : Env} {W : List Addr} {h h' : Heap} {x : String} {V : Value} (a : At env h x V) (k : FK W h h') (dL : env.locals ∉ W) (dc : ∀ y c, env.cells.lookup y = some c → c ∉ W) : At env h' x V :=
 a.imp (fun ⟨e, m, hn, hm⟩ => ⟨e, m, ns_fk hn k dL, hm⟩) fun ⟨e, c, hc, hv⟩ => ⟨e, c, hc, q71 hv k (dc _ _ hc)⟩
noncomputable def outs {α : Type} (its : List α) (tb : α → Bool) (ys : α → List PV) : List PV := its.flatMap fun x => if tb x then ys x else []
theorem qx9 {α : Type} {its : List α} {tb : α → Bool} {ys : α → List PV} {i : Nat} {x : α} (h : its[i]? = some x) : outs (its.take (i + 1)) tb ys = outs (its.take i) tb ys ++ if tb x then ys x else [] := by
 unfold outs; rw [take_add_one, h]; simp
theorem qh1 {α : Type} {its : List α} {tb : α → Bool} {ys : α → List PV} {i : Nat} : (outs (its.take i) tb ys).length ≤ (outs its tb ys).length := by
 unfold outs
 conv => rhs; rw [← take_append_drop i its]
 rw [List.flatMap_append, length_append]; lia
structure LInv (Γ : Cx) (env : Env) (φ : Nat → Addr) (M H : List Addr) (D : Addr) (l : List (String × PV)) (xs ns : List String) (wr : List Addr) (h₀ : Heap) (zs : List PV) (st : Heap → Prop) (s' : Shared) : Prop where
 ok : Γ.Ok s'
 live : Live (D :: M ++ H) s'.heap
 wrt : ∀ x ∈ ns, Wr env M s'.heap x
 acc : ∃ vs, LstAt s'.heap D vs ∧ Dens (D :: M ++ H) s'.heap vs.toList zs
 st : st s'.heap
 kph : KpH (D :: M ++ wr) h₀ s'.heap
 sm : Sm env xs h₀ s'.heap
 wk : q88 env M h₀ s'.heap
 eo : EnvOK env φ (D :: M ++ H) (pvSt l) s'.heap
noncomputable def OwnC (env : Env) (M : List Addr) (ns : List String) : Prop := ∀ x c, env.cells.lookup x = some c → c ∈ M → ∃ y ∈ ns, x = ofString y ∧ env.kindOf x = some .cell
theorem OwnC.live {env : Env} {M : List Addr} {ns : List String} (o : OwnC env M ns) {h : Heap} (w : ∀ y ∈ ns, Wr env M h y) : ∀ x c, env.cells.lookup x = some c → c ∈ M → ∃ v, h.IsCell c v := fun x c e m => by
 obtain ⟨y, hy, rfl, hk⟩ := o x c e m
 rcases w y hy with ⟨e', _⟩ | ⟨_, c', v, hc, _, hv, _⟩
 ·rw [hk] at e'; nomatch e'
 cases e.symm.trans hc; exact ⟨v, hv⟩
theorem EnvOK.sub {env : Env} {φ : Nat → Addr} {H : List Addr} {l l' : List (String × PV)} {h : Heap} (e : EnvOK env φ H (pvSt l) h) (s : ∀ p ∈ l', p ∈ l) : EnvOK env φ H (pvSt l') h := .U9 (fun x v m => e.pv (s _ m)) e.cells
theorem qz1 {Γ : Cx} {n : Nat} {A : Around} {env : Env} {φ : Nat → Addr} {M H H0 : List Addr} {D I : Addr} {elt : Expr} {gens : List Comprehension} {scope : Scope} {pos p : Pos} {d : Nat} {tgt : Expr} {ifs : List Expr} {t : Sem Unit}
  {l : List (String × PV)} {xs xs' ns : List String} {α : Type} {its : List α} {cv : α → List PV} {ys : α → List PV} {tb : α → Bool} {hpre : Heap} {fp wr : List Addr} {S : Nat → Heap → Prop} {s : Shared} {zs : List PV} {R : Result → Shared → Prop}
  (B : Blk Γ env M D) (hturn : compTurn (.ListComp elt gens scope pos) d (.ref I) (.ref D) env = q57 p tgt ifs t (.ref I) env (.compLoop (.ListComp elt gens scope pos) d (.ref I) (.ref D) env))
  (T : Tgt tgt xs) (hn : xs.Nodup) (hl : ∀ p ∈ l, p.1 ∉ xs) (hl' : ∀ p ∈ l, p.1 ∉ xs') (hxn : ∀ x ∈ xs, x ∈ ns) (hi : ∀ x ∈ its, (cv x).length = xs.length) (oc : OwnC env M ns)
  (ht : ∀ x ∈ its, EvP Γ n env (pvSt (xs.zip (cv x) ++ l)) (q39 ifs env) (PB (tb x)))
  (hb : ∀ x ∈ its, tb x = true → EmitOK Γ n env M D (pvSt (xs.zip (cv x) ++ l)) t xs' ns (ys x))
  (Rm : Room Γ A n) (W : Itr Γ.prog Γ.w A hpre H0 tgt I fp wr (its.map cv) S) (hH : ∀ a ∈ D :: M ++ H, a ∈ H0 ∨ hpre.get? a = none) (hwH : ∀ b ∈ wr, b ∈ H) (hwM : ∀ a ∈ D :: M, a ∉ wr) (hfp : ∀ b ∈ fp, b ∉ D :: M ∧ ∃ o, s.heap.get? b = some o ∧ isLo o = false)
  (hL : env.locals ∉ wr) (hC : ∀ x c, env.cells.lookup x = some c → c ∉ wr) (hB : ∀ b ∈ wr, Γ.hB.get? b = none) (hp0 : KpH H0 hpre s.heap)
  (i0 : LInv Γ env φ M H D l (xs ++ xs') ns wr s.heap zs (S 0) s) (hz : zs.length + (outs its tb ys).length ≤ 2 ^ 24)
  (hR : ∀ s' h1 t1, LInv Γ env φ M H D l (xs ++ xs') ns wr s.heap (zs ++ outs its tb ys) (S its.length) s' → FK wr s'.heap h1 → R (.ok .next) { s' with heap := h1, toks := t1 }) :
  codeAny (model Γ.prog Γ.w) A (.compLoop (.ListComp elt gens scope pos) d (.ref I) (.ref D) env) R s := by
 refine codeAny_loop rfl (fun k s' => ∃ i, i ≤ its.length ∧ k = its.length + 1 - i ∧ LInv Γ env φ M H D l (xs ++ xs') ns wr s.heap (zs ++ outs (its.take i) tb ys) (S i) s') (fun k s' hI => ?_) (its.length + 1) ⟨0, zero_le _, rfl, by simpa [outs] using i0⟩
 obtain ⟨i, hile, rfl, J⟩ := hI
 show wpAny _ A ((compTurn (.ListComp elt gens scope pos) d (.ref I) (.ref D) env).onRaise (fun x => do noteFrame x env; theTreesLotGoes x)) _ _ s'
 refine wpAny_noted ?_
 rw [hturn]
 unfold q57
 refine wpAny_bind (wpAny_standAt (wpAny_bind ?_))
 haveI kpre : KpH H0 hpre s'.heap := fun b o m e t => (hp0 b o m e t).trans fun o' e' t' => J.kph b o' (fun q => by
  rcases mem_append.mp q with q | q
  ·rcases hH b (mem_append_left _ q) with q | q
   ·exact m q
   cases q.symm.trans e
  rw [W.fresh b q] at e; nomatch e) e' (t'.trans t)
 cases hx : its[i]? with
 | none =>
  haveI : i = its.length := le_antisymm hile (by simpa using hx)
  subst this
  refine W.done s' _ _ (by rw [length_map]; exact J.st) fun h1 t1 f1 => wpAny_pure ?_
  rw [take_length] at J
  exact hR s' h1 t1 J f1
 | some x =>
  haveI hlt : i < its.length := (List.getElem?_eq_some_iff.mp hx).1
  haveI hxm : x ∈ its := mem_of_getElem? hx
  refine W.item i s' _ (cv x) _ (D :: M ++ H) (by rw [getElem?_map, hx]; rfl) J.st (fun a m => (hH a m).imp id Nw.none) kpre fun v h1 t1 f1 cont => wpAny_bind (cont _ _ fun h2 f2 st2 u2 => wpAny_bind ?_)
  have f12 : FK wr s'.heap h2 := f1.trans f2
  haveI tabsw : ∀ a o, s'.heap.get? a = some o → isTab o = true → a ∉ wr := fun a o e t hm => by
   obtain ⟨o', h4, h5⟩ := W.live i _ J.st _ hm
   cases e.symm.trans h4; rw [lot h5] at t; cases t
  haveI lk12 : LvK s'.heap h2 := .fkw f12 (W.live _ _ J.st) (W.live _ _ st2)
  haveI ok2 : Γ.Ok { s' with heap := h2, toks := t1 } := J.ok.fk f12 hB tabsw fun a _ => lk12.fr a
  have lv2 : Live (D :: M ++ H) h2 := fun a ha => by
   by_cases hw : a ∈ wr
   ·obtain ⟨o, ho, ht⟩ := W.live _ _ st2 a hw; exact ⟨o, ho, (lot ht)⟩
   obtain ⟨o, ho, ht⟩ := J.live a ha; exact ⟨o, f12 _ _ hw ho, ht⟩
  haveI sz2 : h2.objs.size ∉ M := fun hm => lv2.size (mem_append_left _ (mem_cons_of_mem _ hm))
  have wr2 : ∀ y ∈ ns, Wr env M h2 y := fun y hy => (J.wrt y hy).fk f12 fun a ha => hwM a (mem_cons_of_mem _ ha)
  refine qe1 (s := { s' with heap := h2, toks := t1 }) (M := M) B.kind Rm.handled T hn (fun y hy => wr2 y (hxn y hy)) (hi x hxm) u2 sz2 fun h3 t3 Vs f3 lk3 a3 d3 sm3 wk3 => ?_
  have wr3 : ∀ y ∈ ns, Wr env M h3 y := fun y hy => wk3 y (wr2 y hy)
  haveI ok3 : Γ.Ok { s' with heap := h3, toks := t3 } := ok2.fk f3 (fun a ha => B.off a (mem_cons_of_mem _ ha)) (fun a o e t m => lv2.O1 e t (mem_append_left _ (mem_cons_of_mem _ m))) fun a _ => lk3.fr a
  have lv3 : Live (D :: M ++ H) h3 := lk3.live lv2
  have k23 : KpH (D :: M ++ H) h2 h3 := fun b o m e t => .of (f3 b o (fun q => m (mem_append_left _ (mem_cons_of_mem _ q))) e)
  have k12 : KpH (D :: M ++ H) s'.heap h2 := fun b o m e t => .of (f12 b o (fun q => m (mem_append_right _ (hwH _ q))) e)
  have cells3 : ∀ y c, env.cells.lookup y = some c → ∃ v, h3.IsCell c v := fun y c e => by
   by_cases m : c ∈ M
   ·exact oc.live wr3 y c e m
   obtain ⟨v, hv⟩ := J.eo.cells y c e
   exact ⟨v, q71 (q71 hv f12 (hC _ _ e)) f3 m⟩
  have at3 : ∀ y V, y ∉ xs → At env s'.heap y V → At env h3 y V := fun y V hy a => sm3 y V hy (a.fk f12 hL hC)
  have eo3 : EnvOK env φ (D :: M ++ H) (pvSt (xs.zip (cv x) ++ l)) h3 := .U9 (fun y v m => by
   rcases mem_append.mp m with m | m
   ·exact zd6 a3 (d3.kpH k23 fun _ h => .inl h) y v m
   obtain ⟨V, a, dd⟩ := J.eo.pv m
   exact ⟨V, at3 y V (hl _ m) a, (dd.kpH k12 fun _ h => .inl h).kpH k23 fun _ h => .inl h⟩) cells3
  have st3 : S (i + 1) h3 := W.frame _ _ _ st2 fun b hb o e => f3 b o (fun q => (hfp b hb).1 (mem_cons_of_mem _ q)) e
  obtain ⟨vs0, hD0, dD0⟩ := J.acc
  have hD3 : LstAt h3 D vs0 := by
   obtain ⟨j, hj⟩ := hD0
   exact ⟨j, f3 _ _ B.apart (f12 _ _ (hwM _ (.head _)) hj)⟩
  have dD3 : Dens (D :: M ++ H) h3 vs0.toList (zs ++ outs (its.take i) tb ys) := (dD0.kpH k12 fun _ h => .inl h).kpH k23 fun _ h => .inl h
  have kph3 : KpH (D :: M ++ wr) s.heap h3 := fun b o m e t => by
   exact (J.kph b o m e t).trans fun o' e1 _ => .of (f3 _ _ (fun q => m (mem_append_left _ (mem_cons_of_mem _ q))) (f12 _ _ (fun q => m (mem_append_right _ q)) e1))
  haveI sm03 : Sm env (xs ++ xs') s.heap h3 := fun y V hy a => at3 y V (fun q => hy (mem_append_left _ q)) (J.sm y V hy a)
  haveI wk03 : q88 env M s.heap h3 := fun y w => wk3 y ((J.wk y w).fk f12 fun a ha => hwM a (mem_cons_of_mem _ ha))
  have eo3l : EnvOK env φ (D :: M ++ H) (pvSt l) h3 := eo3.sub fun p hp => mem_append_right _ hp
  clear f1 f2 cont k12 at3
  refine wpAny_bind ((ht x hxm).run A _ { s' with heap := h3, toks := t3 } φ (D :: M ++ H) Rm ok3 lv3 eo3 _ fun b s4 k4 ok4 hb4 => ?_)
  have hbx : b = tb x := hb4
  subst hbx
  haveI nt : ∀ c ∈ fp, ∃ o, h3.get? c = some o ∧ isLo o = false := fun c hc => by
   by_cases hw : c ∈ wr
   ·exact W.live _ _ st3 c hw
   obtain ⟨m, o, ho, ht⟩ := hfp c hc
   exact ⟨o, (kph3 _ _ (fun q => (mem_append.mp q).elim m hw) ho (lot ht)).lo ht, ht⟩
  have fin : ∀ s5 vs5, KpH (D :: M) s4.heap s5.heap → Γ.Ok s5 → Live (D :: M ++ H) s5.heap → Sm env xs' s4.heap s5.heap → q88 env M s4.heap s5.heap → LstAt s5.heap D vs5 → Dens (D :: M ++ H) s5.heap vs5.toList (zs ++ outs (its.take (i + 1)) tb ys) →
    ∃ m, m < its.length + 1 - i ∧ ∃ i, i ≤ its.length ∧ m = its.length + 1 - i ∧ LInv Γ env φ M H D l (xs ++ xs') ns wr s.heap (zs ++ outs (its.take i) tb ys) (S i) s5 := by
   intro s5 vs5 k5 ok5 lv5 sm5 wk5 hD5 dD5
   haveI wr5 : ∀ y ∈ ns, Wr env M s5.heap y := fun y hy => wk5 y ((wr3 y hy).kp k4)
   refine ⟨its.length + 1 - (i + 1), by lia, i + 1, hlt, rfl, ok5, lv5, wr5, ⟨vs5, hD5, dD5⟩, ?_, ?_, ?_, ?_, ?_⟩
   ·refine W.frame _ _ _ st3 fun c hc o e => ?_
    obtain ⟨o', e', t'⟩ := nt c hc
    haveI : o' = o := by have := e'.symm.trans e; exact Option.some.inj this
    subst this
    exact (k5 _ _ (hfp c hc).1 ((k4 _ _ e (lot t')).lo t') (lot t')).lo t'
   ·exact fun c o m e t => ((kph3 c o m e t).trans fun o' e' t' => k4 _ _ e' (t'.trans t)).trans fun o' e' t' => k5 _ _ (fun q => m (mem_append_left _ q)) e' (t'.trans t)
   ·exact fun y V hy a => sm5 y V (fun q => hy (mem_append_right _ q)) ((sm03 y V hy a).kp k4)
   ·exact fun y w => wk5 y ((wk03 y w).kp k4)
   refine (eo3l.kp k4).step (xs := xs') k5 (fun a ha => mem_append_left _ ha) sm5 (fun p hp => ?_) (fun _ _ m => by cases m) (fun r k m => ?_) fun y c e => ?_
   ·obtain ⟨v, _, m⟩ := pvSt.mem (x := p.1) (r := p.2) hp
    exact hl' _ m
   ·obtain ⟨_, q, _⟩ := pvSt.mem m; cases q
   by_cases m : c ∈ D :: M
   ·rcases mem_cons.mp m with rfl | m
    ·obtain ⟨v, o, ho, hd⟩ := cells3 y _ e
     obtain ⟨j, hj⟩ := hD3
     cases ho.symm.trans hj; cases hd
    exact oc.live wr5 y c e m
   obtain ⟨v, o, ho, hd⟩ := cells3 y c e
   exact ⟨v, o, (k5 _ _ m ((k4 _ _ ho (q10 hd)).eq (q21 hd)) (q10 hd)).eq (q21 hd), hd⟩
  have hzi : outs (its.take (i + 1)) tb ys = outs (its.take i) tb ys ++ if tb x then ys x else [] := qx9 hx
  cases hbx : tb x with
  | false =>
   refine wpAny_pure ⟨rfl, fin s4 vs0 (KpH.refl _ _) ok4 (lv3.kp k4) (fun _ _ _ a => a) (fun _ w => w) (hD3.kp k4) ?_⟩
   rw [hzi, hbx]; simpa using dD3.kp k4
  | true =>
   rw [hbx] at hzi; simp only [if_true] at hzi
   haveI hlen : (zs ++ outs (its.take i) tb ys).length + (ys x).length ≤ 2 ^ 24 := by
    have := qh1 (its := its) (tb := tb) (ys := ys) (i := i + 1)
    rw [hzi, length_append] at this
    rw [length_append]; lia
   refine wpAny_bind (hb x hxm hbx A _ s4 φ H vs0 _ Rm ok4 (lv3.kp k4) (eo3.kp k4) (fun y hy => (wr3 y hy).kp k4) (hD3.kp k4) (dD3.kp k4) hlen _ fun s5 vs5 k5 ok5 lv5 sm5 wk5 hD5 dD5 => wpAny_pure ⟨rfl, fin s5 vs5 k5 ok5 lv5 sm5 wk5 hD5 ?_⟩)
   rw [hzi, ← append_assoc]; exact dD5
theorem q84 {prog : Program} {w : World} {A : Around} {R : Result → Shared → Prop} {s : Shared} {elt : Expr} {g0 g : Comprehension} {rest : List Comprehension} {scope : Scope} {pos : Pos} {it acc : Value} {env : Env} (hg : g.is_async = 0)
  (h0 : codeAny (model prog w) A (.compLoop (.ListComp elt (g0 :: g :: rest) scope pos) 1 it acc env) R s)
  (h : wpAny (model prog w) A (pyIter it) (fun it' s' => codeAny (model prog w) A (.compLoop (.ListComp elt (g0 :: g :: rest) scope pos) 1 it' acc env) R s')
   (notedBy (model prog w) A env fun x s' => R (.error x) s') s) :
  codeAny (model prog w) A (.compStart (.ListComp elt (g0 :: g :: rest) scope pos) 1 it acc env) R s := by
 obtain ⟨target, iter, ifs, asy⟩ := g
 cases hg
 refine codeAny_of_tree ?_
 show wpAny _ _ ((compStart (.ListComp elt (g0 :: ⟨target, iter, ifs, 0⟩ :: rest) scope pos) 1 it acc env).onRaise (fun x => do noteFrame x env; standAt theWindowsPlace)) _ _ s
 refine wpAny_notedAt ?_
 unfold compStart
 show wpAny _ _ (ask >>= _) _ _ s
 refine wpAny_bind (wpAny_askSetting (wpAny_ite ?_))
 split
 ·first
   | exact wpAny_bind (wpAny_pure (wpAny_pure (And.intro rfl h0)))
   | exact wpAny_pure (And.intro rfl h0)
 refine wpAny_bind (wpAny_rule ?_)
 show wpAny _ _ (standAt iter.pos >>= _) _ _ s
 exact wpAny_bind (wpAny_standAt (wpAny_bind (wpAny_mono h (fun it' s' h' => wpAny_pure (And.intro rfl h')) fun _ _ x => x)))
noncomputable def nestT (e : Expr) (g : Comprehension) (acc : Value) (env : Env) : Sem Unit := do
 let x ← eval g.iter env
 standAt g.iter.pos
 let x ← foldedSetIterable g.iter env x
 let _ ← runOwn (.compStart e 1 (← holding [x] (pyIter x)) acc env) env
theorem EmitOK.nest {Γ : Cx} {n : Nat} {env : Env} {M : List Addr} {D : Addr} {elt : Expr} {g0 g : Comprehension} {scope : Scope} {pos : Pos} {l : List (String × PV)} {xs xs' ns : List String} {α : Type} {its : List α} {cv : α → List PV} {ys : α → List PV} {tb : α → Bool}
  {t : Sem Unit} {p : Pos} (B : Blk Γ env M D) (hg : g.is_async = 0) (hs : ∀ x, foldedSetIterable g.iter env x = pure x)
  (hturn : ∀ I, compTurn (.ListComp elt [g0, g] scope pos) 1 (.ref I) (.ref D) env = q57 p g.target g.ifs t (.ref I) env (.compLoop (.ListComp elt [g0, g] scope pos) 1 (.ref I) (.ref D) env))
  (hI : EvI Γ n env (pvSt l) g.iter g.target (its.map cv)) (T : Tgt g.target xs) (hn : xs.Nodup) (hl : ∀ p ∈ l, p.1 ∉ xs) (hl' : ∀ p ∈ l, p.1 ∉ xs') (hxn : ∀ x ∈ xs, x ∈ ns) (hi : ∀ x ∈ its, (cv x).length = xs.length) (oc : OwnC env M ns)
  (ht : ∀ x ∈ its, EvP Γ n env (pvSt (xs.zip (cv x) ++ l)) (q39 g.ifs env) (PB (tb x)))
  (hb : ∀ x ∈ its, tb x = true → EmitOK Γ n env M D (pvSt (xs.zip (cv x) ++ l)) t xs' ns (ys x)) :
  EmitOK Γ n env M D (pvSt l) (nestT (.ListComp elt [g0, g] scope pos) g (.ref D) env) (xs ++ xs') ns (outs its tb ys) :=
 fun A E s φ H vs zs R ok lv eo hw hl0 hd hz Q k => by
  unfold nestT
  refine wpAny_bind (wpAny_mono (hI.run A _ s φ (D :: M ++ H) R ok lv eo (fun V s' => ?_) ?_) (fun x s1 h1 => wpAny_bind (wpAny_standAt (wpAny_bind (wpAny_of_eq (hs x) (wpAny_bind (wpAny_holding (wpAny_mono h1 (fun it s2 h2 => ?_) fun _ _ h' => h'))))))) fun _ _ h' => h')
  ·exact wpAny (model Γ.prog Γ.w) A (do let _ ← runOwn (.compStart (.ListComp elt [g0, g] scope pos) 1 V (.ref D) env) env) Q E s'
  rotate_left
  ·exact h2
  intro I s1 fp wr S hpre kp0 kp1 ok1 hwB hnp W st fpH
  haveI lvp : Live (D :: M ++ H) hpre := lv.kp kp0
  have wn : ∀ a, (∃ o, hpre.get? a = some o ∧ isTab o = false) → a ∉ wr := fun a ⟨o, ho, _⟩ hm => by rw [W.fresh a hm] at ho; nomatch ho
  have hMw : ∀ a ∈ D :: M, a ∉ wr := fun a ha => wn a (lvp a (mem_append_left _ ha))
  have subH : ∀ a, a ∈ D :: M ++ (wr ++ H) → a ∈ D :: M ++ H ∨ hpre.get? a = none := fun a ha => by
   rcases mem_append.mp ha with h | h
   ·exact .inl (mem_append_left _ h)
   rcases mem_append.mp h with h | h
   ·exact .inr (W.fresh a h)
   exact .inl (mem_append_right _ h)
  have eop := eo.kp kp0
  haveI eo1 : EnvOK env φ (D :: M ++ (wr ++ H)) (pvSt l) s1.heap := .U9 (fun x v m => by
   obtain ⟨V, a, d⟩ := eop.pv m
   exact ⟨V, a.kp kp1, d.kpH (kp1.toH _) subH⟩) (eop.kp kp1).cells
  haveI lv1 : Live (D :: M ++ (wr ++ H)) s1.heap := fun a ha => by
   rcases mem_append.mp ha with h | h
   ·exact lv.kp (kp0.trans kp1) a (mem_append_left _ h)
   rcases mem_append.mp h with h | h
   ·obtain ⟨o, ho, ht⟩ := W.live _ _ st a h; exact ⟨o, ho, lot ht⟩
   exact lv.kp (kp0.trans kp1) a (mem_append_right _ h)
  have k01 := kp0.trans kp1
  haveI dD1 : Dens (D :: M ++ (wr ++ H)) s1.heap vs.toList zs := (hd.kp kp0).kpH (kp1.toH _) subH
  refine wpAny_bind (wpAny_runOwn ?_)
  haveI loop : codeAny (model Γ.prog Γ.w) A (.compLoop (.ListComp elt [g0, g] scope pos) 1 (.ref I) (.ref D) env) (fun r s' => match r with | .ok f => wpAny (model Γ.prog Γ.w) A (pure ()) Q E s' | .error e => cameBackBy (model Γ.prog Γ.w) A env E e s') s1 := by
   refine qz1 (H := wr ++ H) (H0 := D :: M ++ H) (φ := φ) B (hturn I) T hn hl hl' hxn hi oc ht hb R W (fun a ha => subH a ha) (fun b hb => mem_append_left _ hb) hMw (fun b hb => ⟨fun q => (fpH b hb).1 (mem_append_left _ q), (fpH b hb).2⟩)
    (hMw _ (mem_cons_of_mem _ B.loc)) (fun x c e => wn c (q65 (eop.cells x c e).choose_spec)) hwB (kp1.toH _)
    ⟨ok1, lv1, fun x hx => (hw x hx).kp k01, ⟨vs, hl0.kp k01, dD1⟩, st, KpH.refl _ _, fun _ _ _ a => a, fun _ w => w, eo1⟩ hz fun s' h1 t1 J f1 => wpAny_pure ?_
   obtain ⟨vs', hD', dD'⟩ := J.acc
   haveI tabsw : ∀ a o, s'.heap.get? a = some o → isTab o = true → a ∉ wr := fun a o e t hm => by
    obtain ⟨o', h4, h5⟩ := W.live _ _ J.st _ hm
    cases e.symm.trans h4; rw [lot h5] at t; cases t
   haveI wHM : ∀ a ∈ D :: M ++ H, a ∉ wr := fun a ha => wn a (lvp a ha)
   refine k { s' with heap := h1, toks := t1 } vs' (fun b o m e t => (k01 _ _ e t).trans fun o' e' t' => (J.kph b o' (fun q => ?_) e' (t'.trans t)).trans fun o2 e2 _ => .of (f1 _ _ ?_ e2)) (J.ok.fk f1 hwB tabsw (fun a _ => f1.frw (W.live _ _ J.st) a)) (fun a ha => ?_) (fun y V hy a => ?_) (fun y w => ?_) ?_ ?_
   ·rcases mem_append.mp q with q | q
    ·exact m q
    obtain ⟨_, e0⟩ := (kp0 _ _ e t).sl
    exact wn b ⟨_, e0, t⟩ q
   ·obtain ⟨_, e0⟩ := (kp0 _ _ e t).sl
    exact wn b ⟨_, e0, t⟩
   ·obtain ⟨o, ho, ht⟩ := J.live a ((mem_append.mp ha).elim (fun h => mem_append_left _ h) fun h => mem_append_right _ (mem_append_right _ h))
    exact ⟨o, f1 _ _ (wHM a ha) ho, ht⟩
   ·exact (J.sm y V hy (a.kp k01)).fk f1 (hMw _ (mem_cons_of_mem _ B.loc)) fun x c e => wn c (q65 (eop.cells x c e).choose_spec)
   ·exact (J.wk y (w.kp k01)).fk f1 fun a ha => hMw a (mem_cons_of_mem _ ha)
   ·obtain ⟨j, hj⟩ := hD'; exact ⟨j, f1 _ _ (hMw _ (.head _)) hj⟩
   refine dD'.kpH (fun b o m e t => .of (f1 b o (fun q => m ?_) e)) fun a ha => .inl ?_
   ·exact mem_append_right _ (mem_append_left _ q)
   rcases mem_append.mp ha with h | h
   ·exact mem_append_left _ h
   exact mem_append_right _ (mem_append_right _ h)
  exact q84 hg loop (W.self 0 _ _ _ st loop)
noncomputable def relab (scope sc : Scope) : Scope :=
 { scope with names := scope.names.map fun (n, k) => if (k == .free && sc.kind == .function && sc.names.lookup n == some .cell) then (n, .cell) else (n, k) }
theorem qj8 (names : List (Str × NameKind)) (f : Str → NameKind → NameKind) (g : Str × NameKind → Str × NameKind) (hg : ∀ n k, g (n, k) = (n, f n k)) (x : Str) : (names.map g).lookup x = (names.lookup x).map (f x) := by
 induction names with
 | nil => rfl
 | cons p r ih =>
  obtain ⟨n, k⟩ := p
  rw [map_cons, hg, lookup_cons, lookup_cons, ih]
  cases h : x == n with
  | true => rw [beq_iff_eq.mp h]; rfl
  | false => rfl
theorem qq5 (scope sc : Scope) (x : Str) : (relab scope sc).names.lookup x = (scope.names.lookup x).map fun k => if (k == .free && sc.kind == .function && sc.names.lookup x == some .cell) then .cell else k :=
 qj8 scope.names (fun n k => if (k == .free && sc.kind == .function && sc.names.lookup n == some .cell) then .cell else k) _ (fun n k => by by_cases c : (k == NameKind.free && sc.kind == .function && sc.names.lookup n == some NameKind.cell) = true <;> simp only [c, if_true, if_false, false_eq_true]) x
noncomputable def clo (cells : List (Str × Addr)) : List (Str × NameKind) → List (Str × Addr) → List (Str × Addr)
 | [], acc => acc
 | (n, k) :: r, acc => if k == .free then clo cells r ((n, ((cells.lookup n).getD 0)) :: acc) else clo cells r acc
theorem qi1 {scope : Scope} {env : Env} (h : ∀ p ∈ scope.names, p.2 = .free → ∃ c, env.cells.lookup p.1 = some c) : closureFor scope env = pure (clo env.cells scope.names []) := by
 unfold closureFor
 haveI : ∀ (names : List (Str × NameKind)) (acc : List (Str × Addr)), (∀ p ∈ names, p.2 = .free → ∃ c, env.cells.lookup p.1 = some c) →
   (do
    let mut cs := acc
    for (name, kind) in names do
     if kind == .free then cs := (name, ← cellOf env name) :: cs
    return cs : Sem (List (Str × Addr))) = pure (clo env.cells names acc) := by
  intro names
  induction names with
  | nil => intro acc _; rfl
  | cons p r ih =>
   intro acc hp
   obtain ⟨n, k⟩ := p
   haveI hr := fun acc => ih acc fun q hq => hp q (mem_cons_of_mem _ hq)
   simp only [forIn_cons] at hr ⊢
   unfold clo
   by_cases hk : (k == NameKind.free) = true
   ·obtain ⟨c, hc⟩ := hp (n, k) (.head _) (by simpa using hk)
    rw [if_pos hk]
    simp only [hk, if_true, cellOf, hc, Option.getD_some, pure_bind]
    exact hr _
   rw [if_neg hk]
   simp only [hk, pure_bind]
   exact hr _
 exact this scope.names [] h
theorem z19 {cells : List (Str × Addr)} {names : List (Str × NameKind)} {acc : List (Str × Addr)} {x : Str} {c : Addr} (h : (x, c) ∈ clo cells names acc) : (x, c) ∈ acc ∨ ((x, NameKind.free) ∈ names ∧ c = (cells.lookup x).getD 0) := by
 induction names generalizing acc with
 | nil => exact .inl h
 | cons p r ih =>
  obtain ⟨n, k⟩ := p
  unfold clo at h
  split at h
  ·rename_i hk
   rcases ih h with h | ⟨h, e⟩
   ·rcases mem_cons.mp h with h | h
    ·cases h; haveI : k = .free := by simpa using hk
     subst this; exact .inr ⟨.head _, rfl⟩
    exact .inl h
   exact .inr ⟨.tail _ h, e⟩
  rcases ih h with h | ⟨h, e⟩
  ·exact .inl h
  exact .inr ⟨.tail _ h, e⟩
theorem qi2 {cells : List (Str × Addr)} : ∀ {names : List (Str × NameKind)} {acc : List (Str × Addr)} {x : Str} {c : Addr}, (x, c) ∈ acc → (x, c) ∈ clo cells names acc
 | [], acc, x, c, h => h
 | (n, k) :: r, acc, x, c, h => by
  unfold clo
  split
  ·exact qi2 (mem_cons_of_mem _ h)
  exact qi2 h
theorem za7 {cells : List (Str × Addr)} {names : List (Str × NameKind)} {acc : List (Str × Addr)} {x : Str} (h : (x, NameKind.free) ∈ names) : (x, (cells.lookup x).getD 0) ∈ clo cells names acc := by
 induction names generalizing acc with
 | nil => nomatch h
 | cons p r ih =>
  obtain ⟨n, k⟩ := p
  unfold clo
  rcases mem_cons.mp h with e | h
  ·cases e; simp only [beq_self_eq_true, if_true]; exact qi2 (.head _)
  split
  ·exact ih h
  exact ih h
theorem q06 {α : Type} {x : Str} {l : List (Str × α)} {c : α} (h : (x, c) ∈ l) : ∃ c', l.lookup x = some c' ∧ (x, c') ∈ l := by
 induction l generalizing c with
 | nil => nomatch h
 | cons p r ih =>
  obtain ⟨n, v⟩ := p
  dsimp only [lookup_cons]
  cases hb : x == n with
  | true => exact ⟨v, rfl, by rw [beq_iff_eq.mp hb]; exact .head _⟩
  | false =>
   rcases mem_cons.mp h with e | h
   ·cases e; simp at hb
   obtain ⟨c', h1, h2⟩ := ih h; exact ⟨c', h1, .tail _ h2⟩
theorem qu8 {cells : List (Str × Addr)} {names : List (Str × NameKind)} {x : Str} {c : Addr} (h : (x, NameKind.free) ∈ names) (hc : cells.lookup x = some c) : (clo cells names []).lookup x = some c := by
 obtain ⟨c', h1, h2⟩ := q06 (za7 (cells := cells) (acc := []) h)
 rcases z19 h2 with h2 | ⟨_, e⟩
 ·cases h2
 rw [h1, e, hc]; rfl
theorem q08 : ∀ (names : List (Str × NameKind)) (n : Nat) (acc : List (Str × Addr)), cellsFrom n names acc = cellsFrom n names [] ++ acc
 | [], n, acc => rfl
 | (x, k) :: r, n, acc => by
  unfold cellsFrom
  split
  ·rw [q08 r _ (_ :: acc), q08 r _ [_]]; simp
  exact q08 r n acc
theorem q85 {names : List (Str × NameKind)} {n : Nat} {x : Str} {c : Addr} (h : (x, c) ∈ cellsFrom n names []) : (x, NameKind.cell) ∈ names := by
 induction names generalizing n with
 | nil => nomatch h
 | cons p r ih =>
  obtain ⟨y, k⟩ := p
  unfold cellsFrom at h
  split at h
  ·rename_i hk
   rw [q08] at h
   rcases mem_append.mp h with h | h
   ·exact .tail _ (ih h)
   simp only [mem_singleton] at h; cases h
   haveI : k = .cell := by simpa using hk
   subst this; exact .head _
  exact .tail _ (ih h)
theorem q25 {names : List (Str × NameKind)} {n : Nat} {x : Str} (h : (x, NameKind.cell) ∈ names) : ∃ c, (x, c) ∈ cellsFrom n names [] := by
 induction names generalizing n with
 | nil => nomatch h
 | cons p r ih =>
  obtain ⟨y, k⟩ := p
  unfold cellsFrom
  rcases mem_cons.mp h with e | h
  ·cases e; simp only [beq_self_eq_true, if_true]; rw [q08]; exact ⟨n, mem_append_right _ (.head _)⟩
  split
  ·obtain ⟨c, hc⟩ := ih (n := n + 1) h
   exact ⟨c, by rw [q08]; exact mem_append_left _ hc⟩
  exact ih h
theorem q79 {α : Type} {x : Str} {l r : List (Str × α)} (h : l.lookup x = none) : (l ++ r).lookup x = r.lookup x := by
 induction l with
 | nil => rfl
 | cons p l ih =>
  obtain ⟨n, v⟩ := p
  dsimp only [lookup_cons] at h
  dsimp only [cons_append, lookup_cons]
  cases hb : x == n with
  | true => rw [hb] at h; nomatch h
  | false => rw [hb] at h; exact ih h
theorem q28 {α : Type} {x : Str} {v : α} : ∀ {l r : List (Str × α)}, l.lookup x = some v → (l ++ r).lookup x = some v
 | (n, v) :: l, r, h => by
  dsimp only [lookup_cons] at h
  dsimp only [cons_append, lookup_cons]
  cases hb : x == n with
  | true => rw [hb] at h; exact h
  | false => rw [hb] at h; exact q28 h
structure CompOK (scope sc : Scope) (ns : List String) : Prop where
 kind : scope.kind = .function
 locals : ∀ p ∈ scope.names, p.2 = .local → scope.names.lookup p.1 = some .local
 cells : ∀ p ∈ scope.names, p.2 = .cell → scope.names.lookup p.1 = some .cell
 frees : ∀ p ∈ scope.names, p.2 = .free → scope.names.lookup p.1 = some .free ∧ (sc.names.lookup p.1 = some .cell ∨ sc.names.lookup p.1 = some .free)
 own : ∀ p ∈ scope.names, p.2 = .cell → ∃ y ∈ ns, p.1 = ofString y
 targets : ∀ y ∈ ns, scope.names.lookup (ofString y) = some .local ∨ scope.names.lookup (ofString y) = some .cell
 dot : scope.names.lookup (ofString ".0") = some .local
noncomputable def cEnv (scope : Scope) (env : Env) (L : Addr) : Env :=
 { scope := relab scope env.scope, locals := L, globals := env.globals, cells := cellsFrom (L + 1) scope.names (clo env.cells scope.names []), qual := env.qual, func := none, code := env.code, frame := env.frame, builtins := env.builtins }
theorem q66 {Md : Model} {A : Around} {E : Value → Shared → Prop} {s : Shared} {scope : Scope} {env : Env} {cl : List (Str × Addr)} {Q : Env → Shared → Prop}
  (h : ∀ e : Env, { e with scope := relab scope env.scope } = ({ scope := relab scope env.scope, locals := s.heap.objs.size, globals := env.globals, cells := cellsFrom (s.heap.objs.size + 1) scope.names cl, qual := env.qual, func := none, code := env.code, frame := env.frame, builtins := env.builtins } : Env) → e.locals = s.heap.objs.size →
   Q e { s with heap := pushCells (s.heap.push { cls := .type "dict", data := .dict #[] }) scope.names }) :
  wpAny Md A (newFunctionEnv scope env.globals cl [] env.qual none .none (some env)) Q E s := by
 simp only [newFunctionEnv, Option.isSome_some, if_true]
 refine wpAny_bind (wpAny_alloc ?_)
 refine wpAny_bind (wpAny_layCells _ (fun name kind cells => by cases hkc : kind == NameKind.cell <;> simp [hkc]) _ _ _ _ ?_)
 rw [show ({ s with heap := s.heap.push { cls := .type "dict", data := .dict #[] } } : Shared).heap.objs.size = s.heap.objs.size + 1 from Heap.size_push ..]
 refine wpAny_bind (wpAny_pure (wpAny_pure (h _ rfl rfl)))
structure Laid (h h4 : Heap) (scope : Scope) (env : Env) (D L : Addr) (own : List (Str × Addr)) : Prop where
 keep : ∀ b o, h.get? b = some o → h4.get? b = some o
 lst : LstAt h4 D #[]
 ns : ∃ m, h4.Ns L m
 cells : ∀ x c, (x, c) ∈ own → h4.IsCell c none ∧ L + 1 ≤ c
 apart : own.Pairwise fun x y => x.2 ≠ y.2
 hD : D = h.objs.size
 hL : L = D + 1
 hown : own = cellsFrom (L + 1) scope.names []
theorem z49 (h : Heap) (scope : Scope) (env : Env) : Laid h (pushCells ((h.push { cls := .type "list", dict := none, data := .seq ([] : List Value).toArray }).push { cls := .type "dict", data := .dict #[] }) scope.names) scope env h.objs.size (h.objs.size + 1) (cellsFrom (h.objs.size + 1 + 1) scope.names []) := by
 haveI sz : (h.push { cls := .type "list", dict := none, data := .seq ([] : List Value).toArray }).objs.size = h.objs.size + 1 := Heap.size_push ..
 have ok := cellsFrom_ok scope.names ((h.push { cls := .type "list", dict := none, data := .seq ([] : List Value).toArray }).push { cls := .type "dict", data := .dict #[] }) (h.objs.size + 1 + 1) [] ⟨fun _ _ hm => (nomatch hm), List.Pairwise.nil⟩ (by rw [Heap.size_push, sz]; exact Nat.le_refl _)
 rw [Heap.size_push, sz] at ok
 refine ⟨fun b o e => pushCells_keeps _ _ b o (get?_push_of_some _ (get?_push_of_some _ e)), ⟨0, pushCells_keeps _ _ _ _ (get?_push_of_some _ (get?_push_size _ rfl))⟩, ⟨fun _ => none, ?_⟩, fun x c hm => ok.empty x c hm, ok.apart, rfl, rfl, rfl⟩
 have := Heap.Ns.new (h.push { cls := .type "list", dict := none, data := .seq ([] : List Value).toArray }) (.type "dict")
 rw [sz] at this
 exact this.keeps (pushCells_keeps _ _)
section
variable {Γ : Cx} {n : Nat} {env : Env} {σ : St} {sc scope : Scope} {ns : List String} {h h4 : Heap} {D L : Addr} {own : List (Str × Addr)}
theorem qi4 (Y : Laid h h4 scope env D L own) : (cEnv scope env L).cells = own ++ clo env.cells scope.names [] := by
 rw [Y.hown]; exact q08 _ _ _
theorem q86 (Y : Laid h h4 scope env D L own) (G : EnvS env sc) (C : CompOK scope sc ns) {x : Str} {c : Addr} (e : (cEnv scope env L).cells.lookup x = some c) : (x, c) ∈ own ∨ ((x, NameKind.free) ∈ scope.names ∧ env.cells.lookup x = some c) := by
 rw [qi4 Y] at e
 rcases mem_append.mp (mem_of_lookup e) with h | h
 ·exact .inl h
 rcases z19 h with h | ⟨h, q⟩
 ·nomatch h
 obtain ⟨c', hc'⟩ := G.cells x (C.frees _ h rfl).2
 exact .inr ⟨h, by rw [q, hc']; rfl⟩
theorem qq6 (Y : Laid h h4 scope env D L own) (C : CompOK scope sc ns) {x : Str} {c : Addr} (m : (x, c) ∈ own) : scope.names.lookup x = some .cell := by
 rw [Y.hown] at m; exact C.cells _ (q85 m) rfl
theorem z73 (Y : Laid h h4 scope env D L own) (C : CompOK scope sc ns) {x : Str} {c : Addr} (m : (x, c) ∈ own) : ∃ c', (cEnv scope env L).cells.lookup x = some c' ∧ (x, c') ∈ own := by
 obtain ⟨c', h1, h2⟩ := q06 m
 exact ⟨c', by rw [qi4 Y]; exact q28 h1, h2⟩
theorem z22 (Y : Laid h h4 scope env D L own) (C : CompOK scope sc ns) {x : Str} {c : Addr} (m : scope.names.lookup x = some .free) (e : env.cells.lookup x = some c) : (cEnv scope env L).cells.lookup x = some c := by
 rw [qi4 Y, q79]
 ·exact qu8 (mem_of_lookup m) e
 cases q : own.lookup x with
 | none => rfl
 | some c => rw [qq6 Y C (mem_of_lookup q)] at m; nomatch m
theorem qp6 (x : Str) : (cEnv scope env L).kindOf x = (scope.names.lookup x).map fun k => if (k == .free && env.scope.kind == .function && env.kindOf x == some .cell) then .cell else k := qq5 scope env.scope x
theorem q87 {x : Str} (e : scope.names.lookup x = some .local) : (cEnv scope env L).kindOf x = some .local := by rw [qp6, e]; rfl
theorem qa1 {x : Str} (e : scope.names.lookup x = some .cell) : (cEnv scope env L).kindOf x = some .cell := by rw [qp6, e]; rfl
theorem zb0 (Y : Laid h h4 scope env D L own) (G : EnvS env sc) (C : CompOK scope sc ns) : EnvS (cEnv scope env L) (relab scope sc) where
 scope := G.scope ▸ rfl
 kind := C.kind
 globals := G.globals
 builtins := G.builtins
 cells x hx := by
  rw [qq5] at hx
  cases q : scope.names.lookup x with
  | none => rw [q] at hx; rcases hx with h | h <;> cases h
  | some k =>
   rw [q] at hx
   cases k with
   | cell => obtain ⟨c, hc⟩ := q25 (n := L + 1) (mem_of_lookup q); obtain ⟨c', h1, _⟩ := z73 Y C (Y.hown ▸ hc); exact ⟨c', h1⟩
   | free => obtain ⟨c, hc⟩ := G.cells x (C.frees _ (mem_of_lookup q) rfl).2; exact ⟨c, z22 Y C q hc⟩
   | _ => rcases hx with h | h <;> cases h
theorem ce_at (Y : Laid h h4 scope env D L own) (G : EnvS env sc) (C : CompOK scope sc ns) {x : String} {V : Value} (f : scope.names.lookup (ofString x) = some .free) {h' : Heap} (a : At env h' x V) : At (cEnv scope env L) h' x V := by
 haveI fk := (C.frees _ (mem_of_lookup f) rfl).2
 have ek : env.kindOf (ofString x) = sc.names.lookup (ofString x) := by unfold Env.kindOf; rw [G.scope]
 rcases a with ⟨e, _⟩ | ⟨e, c, hc, hv⟩
 ·rw [ek] at e; rcases fk with h | h <;> (rw [h] at e; nomatch e)
 refine .inr ⟨?_, c, z22 Y C f hc, hv⟩
 rw [qp6, f]
 have hf : (env.scope.kind == .function) = true := by rw [G.scope, G.kind]; rfl
 rcases e with e | ⟨e, e'⟩
 ·left; rw [e, hf]; rfl
 right; rw [e, hf]; exact ⟨rfl, e'⟩
noncomputable def ownM (L : Addr) (own : List (Str × Addr)) : List Addr := L :: own.map (·.2)
theorem geL (Y : Laid h h4 scope env D L own) : h.objs.size ≤ L := by rw [Y.hL, Y.hD]; exact le_succ _
theorem z88 (Y : Laid h h4 scope env D L own) {a : Addr} (ha : a ∈ D :: ownM L own) : h.objs.size ≤ a := by
 rcases mem_cons.mp ha with q | ha
 ·rw [q, Y.hD]; exact Nat.le_refl _
 rcases mem_cons.mp ha with q | ha
 ·rw [q]; exact geL Y
 obtain ⟨⟨x, c⟩, hm, rfl⟩ := mem_map.mp ha
 exact Nat.le_trans (geL Y) (Nat.le_of_succ_le (Y.cells x c hm).2)
theorem D_own (Y : Laid h h4 scope env D L own) : D ∉ ownM L own := fun hm => by
 rcases mem_cons.mp hm with q | q
 ·have := Y.hL; rw [← q] at this; exact absurd this (Nat.ne_of_lt (lt_succ_self _))
 obtain ⟨⟨x, c⟩, hx, q⟩ := mem_map.mp q
 haveI h3 := (Y.cells x c hx).2
 have q' : c = D := q
 rw [Y.hL, q'] at h3
 exact absurd h3 (Nat.not_le.mpr (lt_succ_of_lt (lt_succ_self _)))
theorem qh0 (Y : Laid h h4 scope env D L own) {a : Addr} (ha : a ∈ D :: ownM L own) : h.get? a = none := get?_none_of_le (z88 Y ha)
theorem za9 (Y : Laid h h4 scope env D L own) (G : EnvS env sc) (C : CompOK scope sc ns) (hc : ∀ x c, env.cells.lookup x = some c → ∃ o, h.get? c = some o) : OwnC (cEnv scope env L) (ownM L own) ns := fun x c e m => by
 rcases q86 Y G C e with q | ⟨_, q⟩
 ·haveI q' := qq6 Y C q
  obtain ⟨y, hy, e⟩ := C.own _ (mem_of_lookup q') rfl
  exact ⟨y, hy, e, qa1 q'⟩
 obtain ⟨o, ho⟩ := hc x c q
 rw [qh0 Y (mem_cons_of_mem _ m)] at ho; nomatch ho
theorem ce_wr (Y : Laid h h4 scope env D L own) (G : EnvS env sc) (C : CompOK scope sc ns) (hc : ∀ x c, env.cells.lookup x = some c → ∃ o, h.get? c = some o) {y : String} (hy : scope.names.lookup (ofString y) = some .local ∨ scope.names.lookup (ofString y) = some .cell) : Wr (cEnv scope env L) (ownM L own) h4 y := by
 rcases hy with e | e
 ·exact .inl ⟨q87 e, .head _, Y.ns⟩
 obtain ⟨c, hm⟩ := q25 (n := L + 1) (mem_of_lookup e)
 obtain ⟨c', h1, h2⟩ := z73 Y C (Y.hown ▸ hm)
 refine .inr ⟨qa1 e, c', none, h1, mem_cons_of_mem _ (mem_map.mpr ⟨_, h2, rfl⟩), (Y.cells _ _ h2).1, fun z ez => ?_⟩
 rcases q86 Y G C ez with q | ⟨_, q⟩
 ·exact name_of_addr Y.apart q h2
 obtain ⟨o, ho⟩ := hc z c' q
 rw [qh0 Y (mem_cons_of_mem _ (mem_cons_of_mem _ (mem_map.mpr ⟨_, h2, rfl⟩)))] at ho; nomatch ho
end
noncomputable def Newly (h : Heap) (H : List Addr) (a : Addr) : Prop := a ∉ H ∧ ∀ o, h.get? a = some o → isTab o = true
theorem ql9 {Γ : Cx} {n : Nat} {env : Env} {σ : St} {sc scope : Scope} {elt : Expr} {g : Comprehension} {gs : List Comprehension} {pos p : Pos} {xs xs' ns : List String} {α : Type} {its : List α} {cv : α → List PV} {ys : α → List PV} {tb : α → Bool} {t : Env → Addr → Sem Unit} {l : List (String × PV)}
  (G : EnvS env sc) (C : CompOK scope sc ns) (hdot : ".0" ∈ ns) (hI : EvI Γ n env σ g.iter g.target (its.map cv)) (T : Tgt g.target xs) (hn : xs.Nodup) (hl0 : ∀ p ∈ l, (p.1, RV.pv p.2) ∈ σ.v ∧ scope.names.lookup (ofString p.1) = some .free) (hxn : ∀ x ∈ xs, x ∈ ns) (hxn' : ∀ x ∈ xs', x ∈ ns)
  (hi : ∀ x ∈ its, (cv x).length = xs.length) (hz : (outs its tb ys).length ≤ 2 ^ 24) (hg : g.is_async = 0)
  (hturn : ∀ cenv D I, compTurn (.ListComp elt (g :: gs) scope pos) 0 (.ref I) (.ref D) cenv = q57 p g.target g.ifs (t cenv D) (.ref I) cenv (.compLoop (.ListComp elt (g :: gs) scope pos) 0 (.ref I) (.ref D) cenv))
  (hin : ∀ cenv D M, EnvS cenv (relab scope sc) → Blk Γ cenv M D → OwnC cenv M ns → ∀ x ∈ its, EvP Γ n cenv (pvSt (xs.zip (cv x) ++ l)) (q39 g.ifs cenv) (PB (tb x)) ∧ (tb x = true → EmitOK Γ n cenv M D (pvSt (xs.zip (cv x) ++ l)) (t cenv D) xs' ns (ys x)))
  {A : Around} {E : Value → Shared → Prop} {s : Shared} {φ : Nat → Addr} {H : List Addr} (R : Room Γ A n) (ok : Γ.Ok s) (lv : Live H s.heap) (eo : EnvOK env φ H σ s.heap) {post : Value → Addr → Result → Shared → Prop}
  (hpost : ∀ D L s' vs, Kp s.heap s'.heap → Γ.Ok s' → Newly s.heap H D → Newly s.heap H L → D ≠ L → Γ.hB.get? L = none → True → (∃ m, s'.heap.Ns L m) → LstAt s'.heap D vs → Dens (L :: H) s'.heap vs.toList (outs its tb ys) → post (.ref D) L (.ok .next) s') :
  wpAny (model Γ.prog Γ.w) A (eval g.iter env) (fun x s₁ => wpAny (model Γ.prog Γ.w) A (pyIter x) (fun it s₂ => wpAny (model Γ.prog Γ.w) A (newList []) (fun acc s₃ => wpAny (model Γ.prog Γ.w) A (newFunctionEnv scope env.globals (clo env.cells scope.names []) [] env.qual none .none (some env)) (fun cenv s₄ =>
   codeAny (model Γ.prog Γ.w) A (.compStart (.ListComp elt (g :: gs) scope pos) 0 it acc { cenv with scope := relabel scope env }) (post acc cenv.locals) s₄) E s₃) E s₂) E s₁) E s := by
 refine hI.run A E s φ H R ok lv eo _ fun I s1 fp wr S hpre kp0 kp1 ok1 hwB hnp W st fpH => ?_
 refine wpAny_newObj_type (q66 fun e he heL => ?_)
 have Y := z49 s1.heap scope env
 rw [show ({ s1 with heap := s1.heap.push { cls := .type "list", dict := none, data := .seq ([] : List Value).toArray } } : Shared).heap.objs.size = s1.heap.objs.size + 1 from Heap.size_push ..] at he heL
 haveI he' : { e with scope := relabel scope env } = cEnv scope env (s1.heap.objs.size + 1) := he
 rw [he', heL]
 show codeAny _ _ _ _ { s1 with heap := pushCells ((s1.heap.push { cls := .type "list", dict := none, data := .seq ([] : List Value).toArray }).push { cls := .type "dict", data := .dict #[] }) scope.names }
 generalize pushCells ((s1.heap.push { cls := .type "list", dict := none, data := .seq ([] : List Value).toArray }).push { cls := .type "dict", data := .dict #[] }) scope.names = h4 at Y ⊢
 generalize cellsFrom (s1.heap.objs.size + 1 + 1) scope.names [] = own at Y
 generalize hL : s1.heap.objs.size + 1 = L at Y he' heL ⊢
 generalize hD : s1.heap.objs.size = D at Y hL ⊢
 clear he he' heL
 have k01 := kp0.trans kp1
 haveI eop := eo.kp kp0
 haveI eo1 := eo.kp k01
 have hc1 : ∀ x c, env.cells.lookup x = some c → ∃ o, s1.heap.get? c = some o := fun x c q => let ⟨v, o, ho, _⟩ := eo1.cells x c q; ⟨o, ho⟩
 have wn : ∀ a, (∃ o, hpre.get? a = some o ∧ isTab o = false) → a ∉ wr := fun a ⟨o, ho, _⟩ hm => by rw [W.fresh a hm] at ho; nomatch ho
 haveI wl : ∀ a ∈ wr, ∃ o, s1.heap.get? a = some o ∧ isLo o = false := W.live _ _ st
 have newM : ∀ a ∈ D :: ownM L own, s1.heap.get? a = none := fun a ha => qh0 Y ha
 have oldN : ∀ a, (∃ o, s1.heap.get? a = some o) → a ∉ D :: ownM L own := fun a ⟨o, ho⟩ hm => by rw [newM a hm] at ho; exact absurd ho.symm (some_ne_none _)
 have hMw : ∀ a ∈ D :: ownM L own, a ∉ wr := fun a ha hw => by obtain ⟨o, ho, _⟩ := wl a hw; rw [newM a ha] at ho; exact absurd ho.symm (some_ne_none _)
 have subH : ∀ a, a ∈ D :: ownM L own ++ (wr ++ H) → a ∈ H ∨ hpre.get? a = none := fun a ha => by
  rcases mem_append.mp ha with h | h
  ·exact .inr (hnp _ (newM a h))
  rcases mem_append.mp h with h | h
  ·exact .inr (W.fresh a h)
  exact .inl h
 haveI k14 : Kp s1.heap h4 := .of Y.keep
 haveI kp4 : Kp hpre h4 := kp1.trans k14
 haveI kp04 : Kp s.heap h4 := k01.trans k14
 haveI ok4 : Γ.Ok { s1 with heap := h4 } := ok1.keeps Y.keep
 have st4 : S 0 h4 := W.frame _ _ _ st fun b hb o e => Y.keep b o e
 have B : Blk Γ (cEnv scope env L) (ownM L own) D := by
  exact ⟨D_own Y, fun a ha => ok1.new (newM a ha), C.kind, .head _⟩
 have lv4 : Live (D :: ownM L own ++ (wr ++ H)) h4 := fun a ha => by
  rcases mem_append.mp ha with h | h
  ·rcases mem_cons.mp h with rfl | h
   ·exact Y.lst.some
   rcases mem_cons.mp h with rfl | h
   ·exact nt_ns Y.ns.choose_spec
   obtain ⟨⟨x, c⟩, hx, rfl⟩ := mem_map.mp h
   exact q65 (Y.cells x c hx).1
  rcases mem_append.mp h with h | h
  ·obtain ⟨o, ho, ht⟩ := W.live _ _ st4 a h; exact ⟨o, ho, lot ht⟩
  exact lv.kp kp04 a h
 have ce4 : ∀ x c, (cEnv scope env L).cells.lookup x = some c → ∃ v, h4.IsCell c v := fun x c e => by
  rcases q86 Y G C e with q | ⟨_, q⟩
  ·exact ⟨_, (Y.cells x c q).1⟩
  obtain ⟨v, hv⟩ := eo.cells x c q; exact ⟨v, q81 hv kp04⟩
 have hCw : ∀ x c, (cEnv scope env L).cells.lookup x = some c → c ∉ wr := fun x c e => by
  rcases q86 Y G C e with q | ⟨_, q⟩
  ·exact hMw c (mem_cons_of_mem _ (mem_cons_of_mem _ (mem_map.mpr ⟨_, q, rfl⟩)))
  exact wn c (q65 (eop.cells x c q).choose_spec)
 have eo4 : EnvOK (cEnv scope env L) φ (D :: ownM L own ++ (wr ++ H)) (pvSt l) h4 := .U9 (fun x v m => by
  obtain ⟨m1, m2⟩ := hl0 _ m
  obtain ⟨V, a, d⟩ := eop.vars _ _ m1
  exact ⟨V, ce_at Y G C m2 (a.kp kp4), Den.kpH (kp4.toH _) subH d⟩) ce4
 have wr4 : ∀ y ∈ ns, Wr (cEnv scope env L) (ownM L own) h4 y := fun y hy => ce_wr Y G C hc1 (C.targets y hy)
 have oc := za9 Y G C hc1
 haveI hin' := hin (cEnv scope env L) D (ownM L own) (zb0 Y G C) B oc
 haveI lnot : ∀ p ∈ l, ∀ y ∈ ns, p.1 ≠ y := fun p hp y hy e => by
  have := (hl0 p hp).2
  rw [e] at this
  rcases C.targets y hy with h | h <;> (rw [h] at this; nomatch this)
 haveI loop : codeAny (model Γ.prog Γ.w) A (.compLoop (.ListComp elt (g :: gs) scope pos) 0 (.ref I) (.ref D) (cEnv scope env L)) (post (.ref D) L) { s1 with heap := h4 } := by
  refine qz1 (H := wr ++ H) (H0 := H) (φ := φ) (zs := []) B (hturn _ D I) T hn (fun p hp hx => lnot p hp _ (hxn _ hx) rfl) (fun p hp hx => lnot p hp _ (hxn' _ hx) rfl) hxn hi oc (fun x hx => (hin' x hx).1) (fun x hx => (hin' x hx).2) R W subH (fun b hb => mem_append_left _ hb) hMw
   (fun b hb => ?_) (hMw _ (mem_cons_of_mem _ (.head _))) hCw hwB (kp4.toH _) ⟨ok4, lv4, wr4, ⟨#[], Y.lst, .nil⟩, st4, KpH.refl _ _, fun _ _ _ a => a, fun _ w => w, eo4⟩ (by simpa using hz) fun s' h1 t1 J f1 => ?_
  ·obtain ⟨_, o, ho, ht⟩ := fpH b hb
   exact ⟨oldN b ⟨o, ho⟩, o, Y.keep _ _ ho, ht⟩
  obtain ⟨vs', hD', dD'⟩ := J.acc
  haveI tabsw : ∀ a o, s'.heap.get? a = some o → isTab o = true → a ∉ wr := fun a o e t hm => by
   obtain ⟨o', h4, h5⟩ := W.live _ _ J.st _ hm
   rw [e] at h4; cases h4; rw [lot h5] at t; cases t
  haveI hDm : D ∈ D :: ownM L own := .head _
  have hLm : L ∈ D :: ownM L own := mem_cons_of_mem _ (.head _)
  have snone : ∀ a ∈ D :: ownM L own, Newly s.heap H a := fun a ha => by
   refine ⟨fun hm => ?_, fun o ho => ?_⟩
   ·obtain ⟨o, ho, ht⟩ := lv a hm
    obtain ⟨_, this⟩ := (k01 _ _ ho ht).sl; rw [newM a ha] at this; cases this
   cases ht : isTab o with
   | true => rfl
   | false => obtain ⟨_, this⟩ := (k01 _ _ ho ht).sl; rw [newM a ha] at this; cases this
  refine hpost D L { s' with heap := h1, toks := t1 } vs' (fun b o e t => (kp04 _ _ e t).trans fun o' e' t' => (J.kph b o' (fun q => ?_) e' (t'.trans t)).trans fun o2 e2 _ => .of (f1 _ _ (wn b (let ⟨_, e0⟩ := (kp0 _ _ e t).sl; ⟨_, e0, t⟩)) e2)) (J.ok.fk f1 hwB tabsw fun a _ => f1.frw (W.live _ _ J.st) a) (snone _ hDm) (snone _ hLm) (fun q => B.apart (q ▸ .head _)) (B.off _ hLm) trivial ?_ ?_ ?_
  ·rcases mem_append.mp q with q | q
   ·obtain ⟨_, e0⟩ := (k01 _ _ e t).sl; exact oldN b ⟨_, e0⟩ q
   obtain ⟨_, e0⟩ := (kp0 _ _ e t).sl; exact wn b ⟨_, e0, t⟩ q
  ·rcases J.wrt _ hdot with ⟨_, _, m, hm⟩ | ⟨e, _⟩
   ·exact ⟨m, ns_fk hm f1 (hMw _ hLm)⟩
   rw [q87 C.dot] at e; nomatch e
  ·obtain ⟨j, hj⟩ := hD'; exact ⟨j, f1 _ _ (hMw _ hDm) hj⟩
  refine dD'.kpH (fun b o m e t => .of (f1 b o (fun q => m ?_) e)) fun a ha => .inl ?_
  ·exact mem_append_right _ (mem_append_left _ q)
  rcases mem_cons.mp ha with rfl | ha
  ·exact mem_append_left _ hLm
  exact mem_append_right _ (mem_append_right _ ha)
 obtain ⟨tgt, iter, ifs, asy⟩ := g
 cases hg
 exact codeAny_compStart_list loop (W.self 0 _ _ _ st4 loop)
theorem Kp.sameBut {h h₁ h₂ : Heap} {H : List Addr} {a : Addr} (k : Kp h h₁) (hs : SameBut a h₁ h₂) (n : Newly h H a) : Kp h h₂ := fun b o e t => (k b o e t).trans fun o' e' _ => .of ((hs.2 b (fun q => by subst q; rw [n.2 o e] at t; nomatch t)).trans e')
theorem EnvS.closes {env : Env} {sc scope : Scope} {ns : List String} (G : EnvS env sc) (C : CompOK scope sc ns) : closureFor scope env = pure (clo env.cells scope.names []) :=
 qi1 fun p hp hf => G.cells _ (C.frees _ hp hf).2
theorem Ev.comp0 {Γ : Cx} {n : Nat} {env : Env} {σ : St} {sc scope : Scope} {elt : Expr} {g : Comprehension} {gs : List Comprehension} {pos p : Pos} {xs xs' ns : List String} {α : Type} {its : List α} {cv : α → List PV} {ys : α → List PV} {tb : α → Bool} {t : Env → Addr → Sem Unit} {l : List (String × PV)}
  (G : EnvS env sc) (C : CompOK scope sc ns) (hdot : ".0" ∈ ns) (hI : EvI Γ n env σ g.iter g.target (its.map cv)) (T : Tgt g.target xs) (hn : xs.Nodup) (hl0 : ∀ p ∈ l, (p.1, RV.pv p.2) ∈ σ.v ∧ scope.names.lookup (ofString p.1) = some .free) (hxn : ∀ x ∈ xs, x ∈ ns) (hxn' : ∀ x ∈ xs', x ∈ ns)
  (hi : ∀ x ∈ its, (cv x).length = xs.length) (hz : (outs its tb ys).length ≤ 2 ^ 24) (hg : g.is_async = 0) (hs : ∀ x, foldedSetIterable g.iter env x = pure x)
  (hturn : ∀ cenv D I, compTurn (.ListComp elt (g :: gs) scope pos) 0 (.ref I) (.ref D) cenv = q57 p g.target g.ifs (t cenv D) (.ref I) cenv (.compLoop (.ListComp elt (g :: gs) scope pos) 0 (.ref I) (.ref D) cenv))
  (hin : ∀ cenv D M, EnvS cenv (relab scope sc) → Blk Γ cenv M D → OwnC cenv M ns → ∀ x ∈ its, EvP Γ n cenv (pvSt (xs.zip (cv x) ++ l)) (q39 g.ifs cenv) (PB (tb x)) ∧ (tb x = true → EmitOK Γ n cenv M D (pvSt (xs.zip (cv x) ++ l)) (t cenv D) xs' ns (ys x))) :
  Ev Γ n env σ (.ListComp elt (g :: gs) scope pos) (.pv (.list (outs its tb ys))) := .mk fun A E s φ H R ok lv eo Q k => by
 obtain ⟨tgt, iter, ifs, asy⟩ := g
 cases hg
 rw [eval_ListComp]
 refine wpAny_comprehension_free (use := none) rfl hs (G.closes C) C.kind C.locals (ql9 (g := ⟨tgt, iter, ifs, 0⟩) (post := fun acc L => compPost (model Γ.prog Γ.w) A E none Q acc L) G C hdot hI T hn hl0 hxn hxn' hi hz rfl hturn hin R ok lv eo
  fun D L s' vs k1 ok1 nD nL hDL hBL htL hm hl hd => ?_)
 obtain ⟨m, hm⟩ := hm
 refine ⟨m, hm, fun h' hs' => k _ _ (k1.sameBut hs' nL) (ok1.fk (M := [L]) (FK.same hs' (.head _)) (fun a ha => by simp only [mem_singleton] at ha; subst ha; exact hBL) (fun a o e t q => by simp only [mem_singleton] at q; subst q; obtain ⟨o', e', t'⟩ := nt_ns hm; rw [e] at e'; cases e'; rw [t] at t'; cases t') fun a ha ⟨o, e, t⟩ => ⟨o, (hs'.2 a fun q => by subst q; obtain ⟨o0, e0, t0⟩ := ok.frs _ ha; have t1 := nL.2 _ e0; rw [q14 t0] at t1; cases t1).trans e, t⟩) ?_⟩
 obtain ⟨j, hj⟩ := hl
 exact .list nD.1 ⟨j, (hs'.2 _ hDL).trans hj⟩ (hd.kpH (fun b o m e t => .of ((hs'.2 b fun q => m (q ▸ .head _)).trans e)) fun a ha => .inl (.tail _ ha))
section
variable {prog : Program} {w : World} {A : Around} {hpre : Heap} {H : List Addr} {I : Addr} {fp wr : List Addr} {S : Nat → Heap → Prop}
theorem Itr.T7 {xs : List String} {ps : List Pos} {k : Nat} {pos : Pos} {its : List (List PV)} {Pt : Nat → Array Value → Prop} {Mid : Nat → Addr → Heap → Prop} (W : WalksT prog w A I fp wr its.length Pt S Mid)
  (fresh : ∀ b ∈ wr, hpre.get? b = none) (live : ∀ i h, S i h → ∀ b ∈ wr, ∃ o, h.get? b = some o ∧ isLo o = false) (hP : ∀ i vals y, Pt i vals → its[i]? = some y → Dens H hpre vals.toList y) (es : List Expr) :
  Itr prog w A hpre H (.Tuple es k pos) I fp wr its S where
 sub := W.sub
 fresh := fresh
 live := live
 frame := W.frame
 item i s E x Q H' hx st sub k h := by
  haveI hlt : i < its.length := (List.getElem?_eq_some_iff.mp hx).1
  refine W.item i s Q E hlt st fun T vals h' tk hp _ ht hm hk => h (.ref T) h' tk (fun b o m e => hk b o m e) fun E' Q' q => ?_
  refine W.go es _ _ i T _ Q' E' hm fun h2 st2 hk2 => q h2 (fun b o m e => hk2 b o m e) st2 ?_
  obtain ⟨o, ho, r⟩ := ht
  refine ⟨T, vals, rfl, .inl ⟨o, hk2 _ _ (W.apart i T _ hm) ho, r⟩, ?_⟩
  haveI kk : KpH H hpre h2 := fun b o m e t => (k b o m e t).trans fun o' e' _ => .of (hk2 b o' (fun m => by rw [fresh b m] at e; cases e) (hk b o' (fun m => by rw [fresh b m] at e; cases e) e'))
  exact (hP i vals x hp hx).kpN kk sub
 done s E Q st h := W.done s Q E st fun h' tk hk => h h' tk fun b o m e => hk b o m e
 self i s E Q st h := W.self i s Q E st h
theorem Itr.ofWalksU {es : List Expr} {k : Nat} {pos : Pos} {its : List (List PV)} {P : Nat → Value → Prop} (W : Walks prog w A I fp wr its.length P S)
  (fresh : ∀ b ∈ wr, hpre.get? b = none) (live : ∀ i h, S i h → ∀ b ∈ wr, ∃ o, h.get? b = some o ∧ isLo o = false) (hP : ∀ i v y, P i v → its[i]? = some y → Den H hpre v (.tup y) ∨ Den H hpre v (.list y))
  (nt : ∀ i h, S i h → ∃ o, h.get? I = some o ∧ ∃ T, o.cls = .type T ∧ ["enumerate", "zip", "dict_itemiterator", "dict_reverseitemiterator", "odict_iterator", "itertools.zip_longest", "itertools.pairwise"].contains T = false) :
  Itr prog w A hpre H (.Tuple es k pos) I fp wr its S where
 sub := W.sub
 fresh := fresh
 live := live
 frame := W.frame
 item i s E x Q H' hx st sub k h := by
  haveI hlt : i < its.length := (List.getElem?_eq_some_iff.mp hx).1
  refine W.item i s Q E hlt st fun v h' tk hp st' hk => h v h' tk (fun b o m e => hk b o m e) fun E' Q' q => ?_
  have kk : KpH H hpre h' := fun b o m e t => (k b o m e t).trans fun o' e' _ => .of (hk b o' (fun m => by rw [fresh b m] at e; cases e) e')
  haveI u : ∃ T, v = .ref T ∧ ∃ vals, (h'.IsTuple T vals ∨ h'.IsList T vals) ∧ Dens H' h' vals.toList x := by
   rcases hP i v x hp hx with d | d
   ·cases d using Den.t with | tup ha hl hd => exact ⟨_, rfl, _, .inl (qd3 hl kk ha).T6, hd.kpN kk sub⟩
   cases d using Den.l with | list ha hl hd => exact ⟨_, rfl, _, .inr (qf7 hl kk ha).isList, hd.kpN kk sub⟩
  obtain ⟨T, rfl, vals, ht, d⟩ := u
  obtain ⟨o, ho, C, hc, hn⟩ := nt _ _ st'
  have fin := q h' (FK.refl _ _) st' ⟨T, vals, rfl, ht, d⟩
  unfold letOwnedTupleGo
  refine wpAny_bind (wpAny_load ho ?_)
  rw [hc]
  split
  ·rename_i hnn _
   cases hnn
   rw [hn]
   exact wpAny_pure fin
  exact wpAny_pure fin
 done s E Q st h := W.done s Q E st fun h' tk hk => h h' tk fun b o m e => hk b o m e
 self i s E Q st h := W.self i s Q E st h
end
noncomputable def CallI (Γ : Cx) (n : Nat) (f : Value) (Ps : List (Pred Value)) (tgt : Expr) (its : List (List PV)) : Prop :=
 ∀ (Vs : List Value) (A : Around) (E : Value → Shared → Prop) (s : Shared) (φ : Nat → Addr) (H : List Addr), Room Γ A n → Γ.Ok s → Live H s.heap → PArgs φ H s.heap Ps Vs → ∀ Q : Value → Shared → Prop,
  (∀ I s' fp wr S, Kp s.heap s'.heap → Γ.Ok s' → (∀ b ∈ wr, Γ.hB.get? b = none) → (∀ a, s'.heap.get? a = none → s.heap.get? a = none) → Itr Γ.prog Γ.w A s.heap H tgt I fp wr its S → S 0 s'.heap → (∀ b ∈ fp, b ∉ H ∧ ∃ o, s'.heap.get? b = some o ∧ isLo o = false) → Q (.ref I) s') →
  wpAny (model Γ.prog Γ.w) A (call f Vs) (fun x s₁ => wpAny (model Γ.prog Γ.w) A (pyIter x) Q E s₁) E s
noncomputable def NoOwn (P : Pred Value) : Prop := ∀ φ H h V, P φ H h V → ∃ v, Den H h V v
section
variable {Γ : Cx} {n : Nat} {env : Env} {σ : St} {sc : Scope}
theorem EvI.R0 {x : Str} {p pos : Pos} {T : String} {e : Expr} {es : List Expr} {Ps : List (Pred Value)} {tgt : Expr} {its : List (List PV)} (hf : EvP Γ n env σ (eval (.Name x p) env) fun _ _ _ V => V = .type T) (ha : EvS Γ n env σ pos (e :: es) Ps) (hc : CallI Γ n (.type T) Ps tgt its)
  (he : ∀ env, starEach (e :: es) env = (false, eval e env) :: starEach es env := by intro _; rfl) (hp : ∀ env, (backTo pos (starEach es env)).any (·.1) = false := by intro _; rfl) : EvI Γ n env σ (.Call (.Name x p) (e :: es) [] pos) tgt its :=
 .mk fun A E s φ H R ok lv eo Q k => wpAny_Call_Name_kw (hf.run A E s φ H R ok lv eo _ fun V s1 k1 ok1 hV => by
  subst hV
  exact PyProof.Rows.callWith_type1 (ha.run A E s1 φ H R ok1 (lv.kp k1) (eo.kp k1) _ fun Vs s2 k2 ok2 ds => hc Vs A E s2 φ H R ok2 (lv.kp (k1.trans k2)) ds Q fun I s' fp wr S k3 ok3 hw hn W st fpH => k I s' fp wr S s2.heap (k1.trans k2) k3 ok3 hw hn W st fpH) (he env) (hp env))
theorem q51 {h h' : Heap} (k : ∀ b o, h.get? b = some o → h'.get? b = some o) : ∀ a, h'.get? a = none → h.get? a = none := fun a q => by
 cases e : h.get? a with
 | none => rfl
 | some o => rw [k _ _ e] at q; cases q
noncomputable def rngL (a b : Int) : List Int := (List.range (b - a).toNat).map fun (i : Nat) => a + (i : Int)
theorem EvI.rng {e : Expr} {x : String} {p : Pos} {a b : Int} (he : Ev Γ n env σ e (.pv (.rng a b))) (h0 : -(2 ^ 61) ≤ a ∧ a < 2 ^ 61) (h1 : -(2 ^ 61) ≤ b ∧ b < 2 ^ 61) : EvI Γ n env σ e (.Name (ofString x) p) ((rngL a b).map fun i => [.int i]) :=
 .mk fun A E s φ H R ok lv eo Q k => he.run A E s φ H R ok lv eo _ fun V s1 k1 ok1 d => by
  cases d using Den.r with
  | @rng r ha hr =>
   obtain ⟨t, u, v, ho⟩ := hr
   refine wpAny_pyIter_range ho (small_one (by lia) (by lia) (by lia) (by lia)) (k s1.heap.objs.size _ [s1.heap.objs.size] [s1.heap.objs.size] (fun i h => IsRangeIter h s1.heap.objs.size (a + (i : Nat) * 1) (((b - a).toNat : Int) - (i : Nat)) 1) s1.heap k1 (Kp.push _ _) (ok1.W0 _) ?_ (q50 _ _) ?_ ?_ ?_)
   ·intro c hc; simp only [mem_singleton] at hc; subst hc; exact ok1.new (q00 _)
   ·haveI hlen : (b - a).toNat = ((rngL a b).map PV.int).length := by simp [rngL]
    haveI W := Walks.range (prog := Γ.prog) (w := Γ.w) R.handled s1.heap.objs.size a 1 (b - a).toNat
    haveI e2 : ((rngL a b).map fun i => [PV.int i]) = ((rngL a b).map PV.int).map fun y => [y] := by simp
    rw [e2]
    haveI W' : Walks Γ.prog Γ.w A s1.heap.objs.size [s1.heap.objs.size] [s1.heap.objs.size] ((rngL a b).map PV.int).length (fun i v => ∃ t, v = .int (a + i * 1) t) (fun i h => IsRangeIter h s1.heap.objs.size (a + (i : Nat) * 1) (((b - a).toNat : Int) - (i : Nat)) 1) := by
     rw [← hlen]; exact W
    refine Itr.ofWalks W' (fun c hc => by simp only [mem_singleton] at hc; subst hc; exact q00 _) (fun i h st c hc => by simp only [mem_singleton] at hc; subst hc; exact ⟨_, st, rfl⟩) fun i v y hv hy => ?_
    obtain ⟨t, rfl⟩ := hv
    haveI : y = .int (a + i) := by
     simp only [rngL, map_map, getElem?_map] at hy
     obtain ⟨j, hj, rfl⟩ := map_eq_some_iff.mp hy
     obtain ⟨_, hj⟩ := List.getElem?_eq_some_iff.mp hj
     simp at hj; subst hj; rfl
    subst this
    rw [Int.mul_one]; exact .int _ _
   ·have e3 : a + ((0 : Nat) : Int) * 1 = a := by simp
    have e4 : (((b - a).toNat : Int) - ((0 : Nat) : Int)) = Builtin.Range.rangeSize a b 1 := by rw [rangeSize_one]; split <;> lia
    show IsRangeIter _ _ _ _ _
    rw [e3, e4]; exact get?_push_size _ rfl
   intro c hc; simp only [mem_singleton] at hc; subst hc; exact ⟨(lv.kp k1).size, _, get?_push_size _ rfl, rfl⟩
theorem EvI.str {e : Expr} {x : String} {p : Pos} {cs : List Nat} (he : Ev Γ n env σ e (.pv (.str cs))) : EvI Γ n env σ e (.Name (ofString x) p) (cs.map fun c => [.str [c]]) :=
 .mk fun A E s φ H R ok lv eo Q k => he.run A E s φ H R ok lv eo _ fun V s1 k1 ok1 d => by
  cases d using Den.s with
  | str t =>
   haveI e2 : (cs.map fun c => [PV.str [c]]) = (cs.map fun c => PV.str [c]).map fun y => [y] := by simp
   haveI hP : ∀ i v y, SignAt ⟨List.toArray cs⟩ i v → (cs.map fun c => PV.str [c])[i]? = some y → Den H s1.heap v y := fun i v y hv hy => by
    obtain ⟨c, u, hc, rfl⟩ := hv
    simp only [getElem?_map] at hy
    obtain ⟨j, hj, rfl⟩ := map_eq_some_iff.mp hy
    haveI : c = j := by rw [← getElem?_toList, List.toList_toArray, hj] at hc; exact (Option.some.inj hc).symm
    subst this; exact .str [c] u
   haveI fin : ∀ (o : Obj) (S : Nat → Heap → Prop), Walks Γ.prog Γ.w A s1.heap.objs.size [s1.heap.objs.size] [s1.heap.objs.size] cs.length (SignAt ⟨List.toArray cs⟩) S → S 0 (s1.heap.push o) → isLo o = false → o.isFreed = false → (∀ i h, S i h → ∃ o, h.get? s1.heap.objs.size = some o ∧ isLo o = false) →
     Q (.ref s1.heap.objs.size) { s1 with heap := s1.heap.push o } := by
    intro o S W st ht hf live
    refine k s1.heap.objs.size _ [s1.heap.objs.size] [s1.heap.objs.size] S s1.heap k1 (Kp.push _ _) (ok1.W0 _) ?_ (q50 _ _) ?_ st ?_
    ·intro c hc; simp only [mem_singleton] at hc; subst hc; exact ok1.new (q00 _)
    ·rw [e2]
     haveI W' : Walks Γ.prog Γ.w A s1.heap.objs.size [s1.heap.objs.size] [s1.heap.objs.size] (cs.map fun c => PV.str [c]).length (SignAt ⟨List.toArray cs⟩) S := by rw [length_map]; exact W
     exact Itr.ofWalks W' (fun c hc => by simp only [mem_singleton] at hc; subst hc; exact q00 _) (fun i h st c hc => by simp only [mem_singleton] at hc; subst hc; exact live i h st) hP
    intro c hc; simp only [mem_singleton] at hc; subst hc; exact ⟨(lv.kp k1).size, _, get?_push_size _ hf, ht⟩
   haveI hsz : (⟨List.toArray cs⟩ : Str).cps.size = cs.length := by simp
   cases ha : (⟨List.toArray cs⟩ : Str).cps.all (· < 128)
   ·refine wpAny_pyIter_wide ha (fin _ (fun i h => h.IsStrIter s1.heap.objs.size "str_iterator" ⟨List.toArray cs⟩ t i) ?_ ⟨_, get?_push_size _ rfl, rfl, rfl⟩ rfl rfl fun i h st => ?_)
    ·have := Walks.strWide (prog := Γ.prog) (w := Γ.w) R.handled s1.heap.objs.size ⟨List.toArray cs⟩ t
     rw [hsz] at this; exact this
    obtain ⟨o, ho, hc, hfd⟩ := st; exact ⟨o, ho, q03 hc hfd⟩
   refine wpAny_pyIter_ascii ha (fin _ (fun i h => h.IsStrIter s1.heap.objs.size "str_ascii_iterator" ⟨List.toArray cs⟩ t i) ?_ ⟨_, get?_push_size _ rfl, rfl, rfl⟩ rfl rfl fun i h st => ?_)
   ·have := Walks.strAscii (prog := Γ.prog) (w := Γ.w) R.handled s1.heap.objs.size ⟨List.toArray cs⟩ t
    rw [hsz] at this; exact this
   obtain ⟨o, ho, hc, hfd⟩ := st; exact ⟨o, ho, q03 hc hfd⟩
theorem EvI.rows {e : Expr} {es : List Expr} {j : Nat} {pos : Pos} {xs : List PV} {its : List (List PV)} (he : Ev Γ n env σ e (.pv (.list xs))) (hx : xs = its.map PV.list ∨ xs = its.map PV.tup) : EvI Γ n env σ e (.Tuple es j pos) its :=
 .mk fun A E s φ H R ok lv eo Q k => he.run A E s φ H R ok lv eo _ fun V s1 k1 ok1 d => by
  cases d using Den.l with
  | @list a vs ha hl hd =>
   have hne : a ≠ s1.heap.objs.size := by obtain ⟨_, e⟩ := hl; exact Nat.ne_of_lt (lt_size e)
   have hlen := hd.length
   simp only [length_toList] at hlen
   have hxl : xs.length = its.length := by rcases hx with h | h <;> simp [h]
   refine wpAny_pyIter_list hl.isList (k s1.heap.objs.size _ [s1.heap.objs.size, a] [s1.heap.objs.size] (fun i h => h.IsListIter s1.heap.objs.size a i ∧ h.IsList a vs) s1.heap k1 (Kp.push _ _) (ok1.W0 _) (fun b hb => ok1.new (by simp only [mem_singleton] at hb; subst hb; exact q00 _)) (q50 _ _) ?_ ⟨⟨_, get?_push_size _ rfl, rfl, rfl⟩, hl.isList.push _⟩ ?_)
   ·haveI W := Walks.list (prog := Γ.prog) (w := Γ.w) R.handled s1.heap.objs.size a hne vs
    rw [hlen, hxl] at W
    refine Itr.ofWalksU W (fun b hb => ?_) (fun i h st b hb => ?_) (fun i v y hv hy => ?_) fun i h st => ?_
    ·simp only [mem_singleton] at hb; subst hb; exact q00 _
    ·simp only [mem_singleton] at hb; subst hb; obtain ⟨⟨o, ho, hc, hfd⟩, _⟩ := st; exact ⟨o, ho, q03 hc hfd⟩
    ·haveI hv' : vs.toList[i]? = some v := by rw [getElem?_toList]; exact hv
     obtain ⟨z, hz, dz⟩ := hd.R3 hv'
     rcases hx with h | h
     ·right; rw [h, getElem?_map, hy] at hz; cases hz; exact dz
     left; rw [h, getElem?_map, hy] at hz; cases hz; exact dz
    obtain ⟨⟨o, ho, hc, hfd⟩, _⟩ := st; exact ⟨o, ho, "list_iterator", hc, by decide⟩
   intro b hb
   simp only [mem_cons, not_mem_nil, or_false] at hb
   rcases hb with rfl | rfl
   ·exact ⟨(lv.kp k1).size, _, get?_push_size _ rfl, rfl⟩
   exact ⟨ha, (hl.kp (Kp.push _ _)).lo⟩
theorem CallI.enum {xs : List PV} {es : List Expr} {j : Nat} {pos : Pos} : CallI Γ n (.type "enumerate") [PR (.pv (.list xs))] (.Tuple es j pos) (xs.zipIdx.map fun p => [.int p.2, p.1]) := fun Vs A E s φ H R ok lv ds Q k => by
 obtain ⟨V, rfl, d⟩ := ds.one
 cases d using Den.l with
 | @list a vs ha hl hd =>
  have hlen := hd.length
  simp only [length_toList] at hlen
  have hlt : a < s.heap.objs.size := by obtain ⟨_, e⟩ := hl; exact lt_size e
  refine call_enumerate_list hl.isList fun h' he hit hsz hk => ?_
  refine wpAny_pyIter_enum he ?_
  haveI W := WalksT.enumerate (prog := Γ.prog) (w := Γ.w) R.handled (s.heap.objs.size + 1) s.heap.objs.size a (succ_ne_self _) (Nat.ne_of_lt (lt_succ_of_lt hlt)) (Nat.ne_of_lt hlt) vs
  have nw : ∀ b ∈ [s.heap.objs.size + 1, s.heap.objs.size], s.heap.get? b = none := fun b hb => get?_none_of_le (by
   simp only [mem_cons, not_mem_nil, or_false] at hb
   rcases hb with rfl | rfl
   ·exact le_succ _
   exact Nat.le_refl _)
  have hll : vs.size = (xs.zipIdx.map fun p => [PV.int p.2, p.1]).length := by simp [hlen]
  rw [hll] at W
  refine k (s.heap.objs.size + 1) { s with heap := h' } _ _ _ (Kp.of hk) (ok.keeps hk) (fun b hb => ok.new (nw b hb)) (q51 hk) (Itr.T7 W nw ?_ ?_ es (ps := []) (xs := [])) ⟨⟨_, he⟩, hit, ⟨_, hk _ _ hl.choose_spec, rfl, _, rfl⟩⟩ ?_
  ·intro i h st b hb
   obtain ⟨⟨old, he⟩, hi, _⟩ := st
   simp only [mem_cons, not_mem_nil, or_false] at hb
   rcases hb with rfl | rfl
   ·exact ⟨_, he, rfl⟩
   obtain ⟨o, ho, hc, hfd⟩ := hi; exact ⟨o, ho, q03 hc hfd⟩
  ·intro i vals y hp hy
   obtain ⟨t, x, hx, rfl⟩ := hp
   rw [getElem?_map] at hy
   obtain ⟨q, hq, rfl⟩ := map_eq_some_iff.mp hy
   haveI hx' : vs.toList[i]? = some x := by rw [getElem?_toList]; exact hx
   obtain ⟨z, hz, dz⟩ := hd.R3 hx'
   haveI : q = (z, i) := by
    rw [List.getElem?_zipIdx, hz] at hq; simpa using hq.symm
   subst this
   exact .cons (.int _ _) (.cons dz .nil)
  intro b hb
  simp only [mem_cons, not_mem_nil, or_false] at hb
  rcases hb with rfl | rfl | rfl
  ·exact ⟨lv.fresh (nw _ (by simp)), _, he, rfl⟩
  ·obtain ⟨o, ho, hc, hfd⟩ := hit
   exact ⟨lv.fresh (nw _ (by simp)), o, ho, q03 hc hfd⟩
  exact ⟨ha, (hl.kp (Kp.of hk)).lo⟩
theorem CallI.zip {xs ys : List PV} {es : List Expr} {j : Nat} {pos : Pos} : CallI Γ n (.type "zip") [PR (.pv (.list xs)), PR (.pv (.list ys))] (.Tuple es j pos) ((xs.zip ys).map fun p => [p.1, p.2]) := fun Vs A E s φ H R ok lv ds Q k => by
 obtain ⟨V, V', rfl, d, d'⟩ := ds.two
 cases d using Den.l with
 | @list a vs ha hl hd => cases d' using Den.l with
  | @list a' vs' ha' hl' hd' =>
  haveI hlen := hd.length
  haveI hlen' := hd'.length
  simp only [length_toList] at hlen hlen'
  have hlt : a < s.heap.objs.size := by obtain ⟨_, e⟩ := hl; exact lt_size e
  have hlt' : a' < s.heap.objs.size := by obtain ⟨_, e⟩ := hl'; exact lt_size e
  refine call_zip_2 hl.isList hl'.isList fun h' hz hTI hTO h1 h2 hsz hk => ?_
  refine wpAny_pyIter_zip hz ?_
  generalize hm : s.heap.objs.size = m at *
  have W := WalksT.zip2 (prog := Γ.prog) (w := Γ.w) R.handled (m + 4) (m + 2) (m + 3) m (m + 1) a a' (by constructor <;> (intro q; exact absurd (show (_ : Nat) = _ from q) (by first | lia | (simp only [Addr] at *; lia)))) vs vs'
  have nw : ∀ b ∈ [m + 4, m + 3, m, m + 1], s.heap.get? b = none := fun b hb => get?_none_of_le (by
   rw [hm]; simp only [mem_cons, not_mem_nil, or_false] at hb; rcases hb with rfl | rfl | rfl | rfl <;> simp)
  have hll : min vs.size vs'.size = ((xs.zip ys).map fun p => [p.1, p.2]).length := by simp [hlen, hlen']
  rw [hll] at W
  refine k (m + 4) { s with heap := h' } _ _ _ (Kp.of hk) (ok.keeps hk) (fun b hb => ok.new (nw b hb)) (q51 hk) (Itr.T7 W nw ?_ ?_ es (ps := []) (xs := [])) ⟨hz, hTI, ⟨_, _, hTO⟩, h1, h2, (hl.kp (Kp.of hk)).isList, (hl'.kp (Kp.of hk)).isList⟩ ?_
  ·intro i h st b hb
   obtain ⟨hz, hTI, ⟨_, _, hTO⟩, h1, h2, _⟩ := st
   simp only [mem_cons, not_mem_nil, or_false] at hb
   rcases hb with rfl | rfl | rfl | rfl
   ·exact ⟨_, hz, rfl⟩
   ·exact ⟨_, hTO, rfl⟩
   ·obtain ⟨o, ho, hc, hfd⟩ := h1; exact ⟨o, ho, q03 hc hfd⟩
   obtain ⟨o, ho, hc, hfd⟩ := h2; exact ⟨o, ho, q03 hc hfd⟩
  ·intro i vals y hp hy
   obtain ⟨x, x', hx, hx', rfl⟩ := hp
   rw [getElem?_map] at hy
   obtain ⟨q, hq, rfl⟩ := map_eq_some_iff.mp hy
   rw [← getElem?_toList] at hx hx'
   obtain ⟨z, hz, dz⟩ := hd.R3 hx
   obtain ⟨z', hz', dz'⟩ := hd'.R3 hx'
   haveI : q = (z, z') := by
    rw [List.getElem?_zip_eq_some] at hq
    rw [hz, hz'] at hq
    exact Prod.ext (Option.some.inj hq.1).symm (Option.some.inj hq.2).symm
   subst this
   exact .cons dz (.cons dz' .nil)
  intro b hb
  simp only [mem_cons, not_mem_nil, or_false] at hb
  haveI nw' : s.heap.get? (m + 2) = none := get?_none_of_le (by rw [hm]; simp)
  rcases hb with rfl | rfl | rfl | rfl | rfl | rfl | rfl
  ·exact ⟨lv.fresh (nw _ (by simp)), _, hz, rfl⟩
  ·exact ⟨lv.fresh nw', _, hTI, rfl⟩
  ·exact ⟨lv.fresh (nw _ (by simp)), _, hTO, rfl⟩
  ·obtain ⟨o, ho, hc, hfd⟩ := h1
   exact ⟨lv.fresh (nw _ (by simp)), o, ho, q03 hc hfd⟩
  ·obtain ⟨o, ho, hc, hfd⟩ := h2
   exact ⟨lv.fresh (nw _ (by simp)), o, ho, q03 hc hfd⟩
  ·exact ⟨ha, (hl.kp (Kp.of hk)).lo⟩
  exact ⟨ha', (hl'.kp (Kp.of hk)).lo⟩
end
theorem Nw.Y2 {h : Heap} {a : Addr} (n : Nw h a) {H : List Addr} (l : Live H h) : a ∉ H := fun m => by
 obtain ⟨o, ho, ht⟩ := l a m; rw [n o ho] at ht; exact absurd ht.symm Bool.false_ne_true
theorem Nw.size (h : Heap) : Nw h h.objs.size := fun o e => by rw [q00] at e; nomatch e
theorem Nw.kp {h h' : Heap} {a : Addr} (k : Kp h h') (n : Nw h' a) : Nw h a := fun o e => by
 cases t : isTab o with
 | true => rfl
 | false => obtain ⟨sl, e'⟩ := (k _ _ e t).sl; haveI q : isTab { o with slots := sl } = true := n _ e'; haveI q' : isTab o = true := q; rw [q'] at t; cases t
structure Fr (Γ : Cx) (env : Env) (ns : List String) (φ : Nat → Addr) (Mw Lo H : List Addr) (σ : St) (s : Shared) : Prop where
 ok : Γ.Ok s
 live : Live (Mw ++ Lo ++ H) s.heap
 eo : EnvOK env φ (Mw ++ Lo ++ H) σ s.heap
 wr : ∀ x ∈ ns, Wr env Mw s.heap x
 off : ∀ a ∈ Mw ++ Lo, Γ.hB.get? a = none
 own : ∀ k ys, (k, ys) ∈ σ.o → φ k ∈ Lo
 inj : ∀ k ys j zs, (k, ys) ∈ σ.o → (j, zs) ∈ σ.o → φ k = φ j → k = j
 dis : ∀ a ∈ Lo, a ∉ Mw ∧ a ∉ H
 oc : OwnC env Mw ns
 loc : env.locals ∈ Mw
 kind : env.scope.kind = .function
structure Gr (Mw Lo Lo' : List Addr) (h h' : Heap) : Prop where
 new : ∀ a ∈ Lo', a ∈ Lo ∨ Nw h a
 kp : KpH (Mw ++ Lo) h h'
 lv : LvK h h'
section
variable {Γ : Cx} {env : Env} {ns : List String} {φ : Nat → Addr} {Mw Lo Lo' Lo'' H : List Addr} {σ σ' : St} {s s' : Shared} {h h' h'' : Heap}
theorem Gr.refl (Mw Lo : List Addr) (h : Heap) : Gr Mw Lo Lo h h := ⟨fun _ m => .inl m, KpH.refl _ _, LvK.refl _⟩
theorem Gr.of (k : Kp h h') : Gr Mw Lo Lo h h' := ⟨fun _ m => .inl m, k.toH _, LvK.of k⟩
theorem Gr.trans (x : Gr Mw Lo Lo' h h') (y : Gr Mw Lo' Lo'' h' h'') : Gr Mw Lo Lo'' h h'' where
 new a m := by
  rcases y.new a m with m | n
  ·exact x.new a m
  exact .inr fun o e => by
   cases t : isTab o with
   | true => rfl
   | false =>
    obtain ⟨o', e', t'⟩ := x.lv.lv a ⟨o, e, t⟩
    rw [n o' e'] at t'; cases t'
 kp b o m e t := (x.kp b o m e t).trans fun o' e' t' => y.kp b o' (fun q => by
  rcases mem_append.mp q with q | q
  ·exact m (mem_append_left _ q)
  rcases x.new b q with q | q
  ·exact m (mem_append_right _ q)
  rw [q o e] at t; cases t) e' (t'.trans t)
 lv := x.lv.trans y.lv
theorem Fr.kp (F : Fr Γ env ns φ Mw Lo H σ s) (k : Kp s.heap s'.heap) (ok : Γ.Ok s') : Fr Γ env ns φ Mw Lo H σ s' :=
 ⟨ok, F.live.kp k, F.eo.kp k, fun x m => (F.wr x m).kp k, F.off, F.own, F.inj, F.dis, F.oc, F.loc, F.kind⟩
theorem Fr.tabs (F : Fr Γ env ns φ Mw Lo H σ s) : ∀ a o, s.heap.get? a = some o → isTab o = true → a ∉ Mw ++ Lo := fun a o e t m => F.live.O1 e t (mem_append_left _ m)
theorem Fr.weak (F : Fr Γ env ns φ Mw Lo H σ s) {v' : List (String × RV)} (hv : ∀ p ∈ v', p ∈ σ.v) : Fr Γ env ns φ Mw Lo H ⟨v', σ.o⟩ s :=
 ⟨F.ok, F.live, ⟨fun x r m => F.eo.vars x r (hv _ m), F.eo.own, F.eo.cells⟩, F.wr, F.off, F.own, F.inj, F.dis, F.oc, F.loc, F.kind⟩
inductive AF where
 | nx
 | bk
 | ct
 | rt (v : PV)
noncomputable def FlR (H : List Addr) (h : Heap) : Flow → AF → Prop
 | .next, .nx => True
 | .brk, .bk => True
 | .cont, .ct => True
 | .ret V, .rt v => Den H h V v
 | _, _ => False
structure Ex (Γ : Cx) (τ n : Nat) (env : Env) (ns : List String) (σ : St) (t : Sem Flow) (K : AF → St → Prop) : Prop where
 run : ∀ (A : Around) (E : Value → Shared → Prop) (s : Shared) (φ : Nat → Addr) (Mw Lo H : List Addr), Room Γ A n → Fr Γ env ns φ Mw Lo H σ s → τ ≤ s.toks → ∀ Q : Flow → Shared → Prop,
  (∀ fl s' af σ' φ' Lo', K af σ' → Fr Γ env ns φ' Mw Lo' H σ' s' → Gr Mw Lo Lo' s.heap s'.heap → FlR (Mw ++ Lo' ++ H) s'.heap fl af → τ ≤ s'.toks → Q fl s') → wpAny (model Γ.prog Γ.w) A t Q E s
theorem Ex.mk' {τ n : Nat} {K : AF → St → Prop} {t : Sem Flow} (h : ∀ (A : Around) (E : Value → Shared → Prop) (s : Shared) (φ : Nat → Addr) (Mw Lo H : List Addr), Room Γ A n → Fr Γ env ns φ Mw Lo H σ s → τ ≤ s.toks → ∀ Q : Flow → Shared → Prop,
  (∀ fl s' af σ' φ' Lo', K af σ' → Fr Γ env ns φ' Mw Lo' H σ' s' → Gr Mw Lo Lo' s.heap s'.heap → FlR (Mw ++ Lo' ++ H) s'.heap fl af → Q fl s') → wpAny (model Γ.prog Γ.w) A t Q E s) : Ex Γ τ n env ns σ t K :=
 ⟨fun A E s φ Mw Lo H R F τ0 Q q => wpAny_mono (wpAny_toks_of τ0 (h A E s φ Mw Lo H R F τ0 (fun fl s' => τ ≤ s'.toks → Q fl s') fun fl s' af σ' φ' Lo' c F' g' fr tk => q fl s' af σ' φ' Lo' c F' g' fr tk)) (fun _ _ x => x.2 x.1) fun _ _ x => x.2⟩
variable {τ n : Nat} {K K' : AF → St → Prop} {t : Sem Flow} {sc : Scope}
theorem Ex.mono (h : Ex Γ τ n env ns σ t K) (k : ∀ a σ', K a σ' → K' a σ') : Ex Γ τ n env ns σ t K' := .mk' fun A E s φ Mw Lo H R F τ0 Q q => h.run A E s φ Mw Lo H R F τ0 Q fun fl s' af σ' φ' Lo' c F' g' fr _ => q fl s' af σ' φ' Lo' (k _ _ c) F' g' fr
theorem Ex.nil (h : K .nx σ) : Ex Γ τ n env ns σ (execs [] env) K := .mk' fun A E s φ Mw Lo H R F τ0 Q q => wpAny_pure (q .next s .nx σ φ Lo h F (Gr.refl _ _ _) trivial)
noncomputable def thenK (Γ : Cx) (τ n : Nat) (env : Env) (ns : List String) (rest : List Stmt) (K : AF → St → Prop) : AF → St → Prop
 | .nx, σ' => Ex Γ τ n env ns σ' (execs rest env) K
 | a, σ' => K a σ'
theorem Ex.cons {st : Stmt} {rest : List Stmt} (h : Ex Γ τ n env ns σ (exec st env) (thenK Γ τ n env ns rest K)) : Ex Γ τ n env ns σ (execs (st :: rest) env) K := .mk' fun A E s φ Mw Lo H R F τ0 Q q => by
 rw [execs_cons]
 refine wpAny_bind (h.run A E s φ Mw Lo H R F τ0 _ fun fl s1 af σ1 φ1 Lo1 c F1 g1 fr τ1 => ?_)
 cases af with
 | nx =>
  cases fl with
  | next => exact c.run A E s1 φ1 Mw Lo1 H R F1 τ1 Q fun fl s' af σ' φ' Lo' c F' g' fr' _ => q fl s' af σ' φ' Lo' c F' (g1.trans g') fr'
  | _ => exact fr.elim
 | bk => cases fl with
  | brk => exact wpAny_pure (q _ _ .bk _ _ _ c F1 g1 fr)
  | _ => exact fr.elim
 | ct => cases fl with
  | cont => exact wpAny_pure (q _ _ .ct _ _ _ c F1 g1 fr)
  | _ => exact fr.elim
 | rt v => cases fl with
  | ret V => exact wpAny_pure (q _ _ (.rt v) _ _ _ c F1 g1 fr)
  | _ => exact fr.elim
theorem Fr.ev {α : Type} {ta : Sem α} {P : Pred α} (F : Fr Γ env ns φ Mw Lo H σ s) {A : Around} (R : Room Γ A n) {E : Value → Shared → Prop} (h : EvP Γ n env σ ta P) {Q : α → Shared → Prop}
  (k : ∀ V s1, Kp s.heap s1.heap → Fr Γ env ns φ Mw Lo H σ s1 → P φ (Mw ++ Lo ++ H) s1.heap V → Q V s1) : wpAny (model Γ.prog Γ.w) A ta Q E s :=
 h.run A E s φ (Mw ++ Lo ++ H) R F.ok F.live F.eo Q fun V s1 k1 ok1 d => k V s1 k1 (F.kp k1 ok1) d
theorem Fr.evt {α : Type} {ta : Sem α} {P : Pred α} (F : Fr Γ env ns φ Mw Lo H σ s) {A : Around} (R : Room Γ A n) {E : Value → Shared → Prop} (τ0 : τ ≤ s.toks) (h : EvP Γ n env σ ta P) {Q : α → Shared → Prop}
  (k : ∀ V s1, Kp s.heap s1.heap → Fr Γ env ns φ Mw Lo H σ s1 → P φ (Mw ++ Lo ++ H) s1.heap V → τ ≤ s1.toks → Q V s1) : wpAny (model Γ.prog Γ.w) A ta Q E s :=
 wpAny_mono (wpAny_toks_of τ0 (F.ev R h (Q := fun V s1 => τ ≤ s1.toks → Q V s1) fun V s1 k1 F1 d tk => k V s1 k1 F1 d tk)) (fun _ _ x => x.2 x.1) fun _ _ x => x.2
inductive Keep (xs : List String) : List (String × RV) → List (String × RV) → Prop
 | nil {l} : Keep xs l []
 | take {x : String} {r : RV} {l l' : List (String × RV)} : x ∉ xs → Keep xs l l' → Keep xs ((x, r) :: l) ((x, r) :: l')
 | drop {p : String × RV} {l l' : List (String × RV)} : Keep xs l l' → Keep xs (p :: l) l'
theorem Keep.mem {xs : List String} {l l' : List (String × RV)} (k : Keep xs l l') : ∀ p ∈ l', p ∈ l ∧ p.1 ∉ xs := by
 induction k with
 | nil => exact fun _ m => nomatch m
 | take h _ ih =>
  intro p m
  rcases mem_cons.mp m with rfl | m
  ·exact ⟨.head _, h⟩
  exact (ih p m).imp (.tail _) id
 | drop _ ih => exact fun p m => (ih p m).imp (.tail _) id
inductive KeepO (k : Nat) : List (Nat × List PV) → List (Nat × List PV) → Prop
 | nil {l} : KeepO k l []
 | take {j : Nat} {xs : List PV} {l l' : List (Nat × List PV)} : (j == k) = false → KeepO k l l' → KeepO k ((j, xs) :: l) ((j, xs) :: l')
 | drop {p : Nat × List PV} {l l' : List (Nat × List PV)} : KeepO k l l' → KeepO k (p :: l) l'
theorem KeepO.mem {k : Nat} {l l' : List (Nat × List PV)} (q : KeepO k l l') : ∀ p ∈ l', p ∈ l ∧ p.1 ≠ k := by
 induction q with
 | nil => exact fun _ m => nomatch m
 | take h _ ih =>
  intro p m
  rcases mem_cons.mp m with rfl | m
  ·exact ⟨.head _, by simpa using h⟩
  exact (ih p m).imp (.tail _) id
 | drop _ ih => exact fun p m => (ih p m).imp (.tail _) id
theorem EnvOK.store {H : List Addr} (eo : EnvOK env φ H σ h) {xs : List String} {new rest : List (String × RV)} (kr : Keep xs σ.v rest) (f : FK Mw h h') (hM : ∀ a ∈ Mw, a ∈ H) (sm : Sm env xs h h') (ho : ∀ k ys, (k, ys) ∈ σ.o → φ k ∉ Mw)
  (hn : ∀ x r, (x, r) ∈ new → ∃ V, At env h' x V ∧ DenR φ H h' V r) (hc : ∀ x c, env.cells.lookup x = some c → ∃ v, h'.IsCell c v) : EnvOK env φ H ⟨new ++ rest, σ.o⟩ h' where
 vars x r m := by
  rcases mem_append.mp m with m | m
  ·exact hn x r m
  obtain ⟨m1, m2⟩ := kr.mem _ m
  obtain ⟨V, a, d⟩ := eo.vars x r m1
  refine ⟨V, sm x V m2 a, ?_⟩
  cases r with
  | pv v => exact Den.kpH (fun b o n e t => .of (f b o (fun q => n (hM _ q)) e)) (fun _ h => .inl h) d
  | ptr j => exact d
  | eqa j c => exact d
  | app j =>
   obtain ⟨b, e, hb, hg⟩ := d
   exact ⟨b, e, hb, f b _ (fun q => hb (hM _ q)) hg⟩
 own j ys m := by
  obtain ⟨hm, vs, ⟨i, hl⟩, hd⟩ := eo.own j ys m
  exact ⟨hm, vs, ⟨i, f _ _ (ho j ys m) hl⟩, hd.kpH (fun b o n e t => .of (f b o (fun q => n (hM _ q)) e)) fun _ h => .inl h⟩
 cells := hc
theorem DenR.fk {r : RV} {V : Value} {H : List Addr} (d : DenR φ H h V r) (f : FK Mw h h') (hM : ∀ a ∈ Mw, a ∈ H) : DenR φ H h' V r := by
 cases r with
 | pv v => exact Den.kpH (fun b o n e t => .of (f b o (fun q => n (hM _ q)) e)) (fun _ h => .inl h) d
 | ptr j => exact d
 | eqa j c => exact d
 | app j =>
  obtain ⟨b, e, hb, hg⟩ := d
  exact ⟨b, e, hb, f b _ (fun q => hb (hM _ q)) hg⟩
theorem Fr.stored (F : Fr Γ env ns φ Mw Lo H σ s) {xs : List String} {new rest : List (String × RV)} {h' : Heap} {t : Nat} (kr : Keep xs σ.v rest) (f : FK Mw s.heap h') (lk : LvK s.heap h') (sm : Sm env xs s.heap h') (wk : q88 env Mw s.heap h')
  (hn : ∀ x r, (x, r) ∈ new → ∃ V, At env h' x V ∧ DenR φ (Mw ++ Lo ++ H) h' V r) : Fr Γ env ns φ Mw Lo H ⟨new ++ rest, σ.o⟩ { s with heap := h', toks := t } := by
 haveI hM : ∀ a ∈ Mw, a ∈ Mw ++ Lo ++ H := fun a m => mem_append_left _ (mem_append_left _ m)
 haveI wr' : ∀ x ∈ ns, Wr env Mw h' x := fun x m => wk x (F.wr x m)
 refine ⟨F.ok.fk f (fun a m => F.off a (mem_append_left _ m)) (fun a o e t m => F.tabs a o e t (mem_append_left _ m)) fun a _ => lk.fr a, lk.live F.live, F.eo.store kr f hM sm (fun k ys m q => (F.dis _ (F.own k ys m)).1 q) hn fun y c e => ?_, wr', F.off, F.own, F.inj, F.dis, F.oc, F.loc, F.kind⟩
 by_cases m : c ∈ Mw
 ·exact F.oc.live wr' y c e m
 obtain ⟨v, hv⟩ := F.eo.cells y c e; exact ⟨v, q71 hv f m⟩
theorem Gr.fk (f : FK Mw h h') (lk : LvK h h') : Gr Mw Lo Lo h h' := ⟨fun _ m => .inl m, fun b o m e t => .of (f b o (fun q => m (mem_append_left _ q)) e), lk⟩
theorem Fr.storeName (F : Fr Γ env ns φ Mw Lo H σ s) {A : Around} {E : Value → Shared → Prop} {x : String} {V : Value} {r : RV} {rest : List (String × RV)} (hx : x ∈ ns) (kr : Keep [x] σ.v rest) (d : DenR φ (Mw ++ Lo ++ H) s.heap V r) {Q : Unit → Shared → Prop}
  (k : ∀ s', Fr Γ env ns φ Mw Lo H ⟨(x, r) :: rest, σ.o⟩ s' → Gr Mw Lo Lo s.heap s'.heap → Q () s') : wpAny (model Γ.prog Γ.w) A (storeName env (ofString x) V) Q E s := by
 refine qa8 F.kind (F.wr x hx) fun h' t f lk a sm wk => k { s with heap := h', toks := t } (F.stored (new := [(x, r)]) kr f lk sm wk fun y q m => ?_) (Gr.fk f lk)
 simp only [mem_singleton] at m
 cases m
 exact ⟨V, a, d.fk f fun a m => mem_append_left _ (mem_append_left _ m)⟩
theorem Ex.assign {x : String} {p pos : Pos} {e : Expr} {r : RV} {rest : List (String × RV)} (h : Ev Γ n env σ e r) (hx : x ∈ ns) (kr : Keep [x] σ.v rest) (k : K .nx ⟨(x, r) :: rest, σ.o⟩)
  (hs : swapsWith e (some (.Name (ofString x) p)) pos.line env = pure false) : Ex Γ τ n env ns σ (exec (.Assign [.Name (ofString x) p] e pos) env) K := .mk' fun A E s φ Mw Lo H R F τ0 Q q => by
 refine wpAny_Assign_Name (F.ev R h fun V s1 k1 F1 d => F1.storeName hx kr d fun s' F' g' => q .next s' .nx _ φ Lo k F' ((Gr.of k1).trans g') trivial) hs
theorem Ex.aug {x : String} {p pos : Pos} {op : Operator} {e : Expr} {a b : Int} {c : Int} {rest : List (String × RV)} (hm : (x, RV.pv (.int a)) ∈ σ.v) (h : Ev Γ n env σ e (.pv (.int b))) (hop : op = .Add ∧ c = a + b) (hx : x ∈ ns) (kr : Keep [x] σ.v rest) (k : K .nx ⟨(x, .pv (.int c)) :: rest, σ.o⟩) :
  Ex Γ τ n env ns σ (exec (.AugAssign (.Name (ofString x) p) op e pos) env) K := .mk' fun A E s φ Mw Lo H R F τ0 Q q => by
 obtain ⟨rfl, rfl⟩ := hop
 obtain ⟨V, at0, d0⟩ := F.eo.vars _ _ hm
 refine wpAny_AugAssign_Name (q02 F.kind at0 (F.ev R h fun W s1 k1 F1 d => ?_))
 haveI d0' : Den (Mw ++ Lo ++ H) s.heap V (.int a) := d0
 haveI d' : Den (Mw ++ Lo ++ H) s1.heap W (.int b) := d
 cases d0' using Den.i; cases d' using Den.i
 refine wpAny_iadd_int ?_
 haveI F2 : Fr Γ env ns φ Mw Lo H σ { s1 with toks := s1.toks + 1 } := F1.kp (Kp.refl _) F1.ok.toks
 exact F2.storeName hx kr (r := .pv (.int (a + b))) (.int _ _) fun s' F' g' => q .next s' .nx _ φ Lo k F' ((Gr.of k1).trans g') trivial
theorem Ex.ite {c : Expr} {b : Bool} {body orelse : List Stmt} {pos : Pos} (h : Evb Γ n env σ c b) (ht : b = true → Ex Γ τ n env ns σ (execs body env) K) (hf : b = false → Ex Γ τ n env ns σ (execs orelse env) K) : Ex Γ τ n env ns σ (exec (.If c body orelse pos) env) K := .mk' fun A E s φ Mw Lo H R F τ0 Q q => by
 refine wpAny_If (F.evt R τ0 h fun b' s1 k1 F1 d τ1 => ?_)
 have d' : b' = b := d
 subst d'
 cases b' with
 | true => exact (ht rfl).run A E s1 φ Mw Lo H R F1 τ1 Q fun fl s' af σ' φ' Lo' c F' g' fr _ => q fl s' af σ' φ' Lo' c F' ((Gr.of k1).trans g') fr
 | false => exact (hf rfl).run A E s1 φ Mw Lo H R F1 τ1 Q fun fl s' af σ' φ' Lo' c F' g' fr _ => q fl s' af σ' φ' Lo' c F' ((Gr.of k1).trans g') fr
theorem Ex.ret {e : Expr} {v : PV} {pos : Pos} (h : Ev Γ n env σ e (.pv v)) (k : K (.rt v) σ) : Ex Γ τ n env ns σ (exec (.Return (some e) pos) env) K := .mk' fun A E s φ Mw Lo H R F τ0 Q q =>
 wpAny_Return_some (F.ev R h fun V s1 k1 F1 d => q (.ret V) s1 (.rt v) σ φ Lo k F1 (Gr.of k1) d)
theorem Ex.brk {pos : Pos} (k : K .bk σ) : Ex Γ τ n env ns σ (exec (.Break pos) env) K := .mk' fun A E s φ Mw Lo H R F τ0 Q q => by
 rw [arm_exec_Break]
 exact wpAny_bind (wpAny_standAt (wpAny_pure (q .brk s .bk σ φ Lo k F (Gr.refl _ _ _) trivial)))
theorem Ex.assert {c : Expr} {m : Option Expr} {pos : Pos} (h : Evb Γ n env σ c true) (k : K .nx σ) : Ex Γ τ n env ns σ (exec (.Assert c m pos) env) K := .mk' fun A E s φ Mw Lo H R F τ0 Q q =>
 wpAny_Assert_holds (F.ev R h fun b s1 k1 F1 d => ⟨d, q .next s1 .nx σ φ Lo k F1 (Gr.of k1) trivial⟩)
theorem Ex.while {c : Expr} {body : List Stmt} {pos : Pos} (I : Nat → St → Prop)
  (turn : ∀ m σ1, I m σ1 → ∃ b, Evb Γ n env σ1 c b ∧ (b = false → K .nx σ1) ∧ (b = true → Ex Γ τ n env ns σ1 (execs body env) fun af σ2 => match af with
   | .nx => ∃ m', m' < m ∧ I m' σ2
   | .ct => ∃ m', m' < m ∧ I m' σ2
   | .bk => K .nx σ2
   | .rt v => K (.rt v) σ2))
  (m : Nat) (h0 : I m σ) : Ex Γ τ n env ns σ (exec (.While c body [] pos) env) K := .mk' fun A E s φ Mw Lo H R F τ0 Q q => by
 refine wpAny_While (codeAny_whileLoop (fun m s' => ∃ σ1 φ1 Lo1, I m σ1 ∧ Fr Γ env ns φ1 Mw Lo1 H σ1 s' ∧ Gr Mw Lo Lo1 s.heap s'.heap ∧ τ ≤ s'.toks) (fun m s' hI => ?_) m ⟨σ, φ, Lo, h0, F, Gr.refl _ _ _, τ0⟩)
 obtain ⟨σ1, φ1, Lo1, i1, F1, g1, τ1⟩ := hI
 obtain ⟨b, hb, hf, ht⟩ := turn m σ1 i1
 refine F1.evt R τ1 hb fun b' s2 k2 F2 d τ2 => ?_
 have d' : b' = b := d
 subst d'
 cases b' with
 | false =>
  dsimp only [false_eq_true, if_false]
  exact wpAny_pure (q .next s2 .nx σ1 φ1 Lo1 (hf rfl) F2 (g1.trans (Gr.of k2)) trivial)
 | true =>
  dsimp only [if_true]
  refine (ht rfl).run A _ s2 φ1 Mw Lo1 H R F2 τ2 _ fun fl s3 af σ3 φ3 Lo3 c3 F3 g3 fr τ3 => ?_
  have g := (g1.trans (Gr.of k2)).trans g3
  cases af with
  | nx => cases fl with
   | next => obtain ⟨m', hm, i3⟩ := c3; exact ⟨m', hm, σ3, φ3, Lo3, i3, F3, g, τ3⟩
   | _ => exact fr.elim
  | ct => cases fl with
   | cont => obtain ⟨m', hm, i3⟩ := c3; exact ⟨m', hm, σ3, φ3, Lo3, i3, F3, g, τ3⟩
   | _ => exact fr.elim
  | bk => cases fl with
   | brk => exact q .next s3 .nx σ3 φ3 Lo3 c3 F3 g trivial
   | _ => exact fr.elim
  | rt v => cases fl with
   | ret V => exact q (.ret V) s3 (.rt v) σ3 φ3 Lo3 c3 F3 g fr
   | _ => exact fr.elim
end
theorem qm7 {α β : Type} {M : Model} {A : Around} {E : Value → Shared → Prop} {s : Shared} {t : Sem α} {f : α → Sem β} {Q : β → Shared → Prop} {n : Nat} (hn : n ≤ s.toks) (h : wpAny M A t (fun x s₁ => wpAny M A (f x) (fun y s₂ => n ≤ s₂.toks → Q y s₂) E s₁) E s) :
  wpAny M A t (fun x s₁ => wpAny M A (f x) Q E s₁) E s :=
 wpAny_mono (wpAny_toks_of hn h) (fun _ _ x => wpAny_mono (wpAny_toks_of x.1 x.2) (fun _ _ y => y.2 y.1) fun _ _ y => y.2) fun _ _ x => x.2
theorem DenR.kpH {φ : Nat → Addr} {H H' : List Addr} {h h' : Heap} {V : Value} {r : RV} (k : KpH H h h') (sub : ∀ a, a ∈ H' → a ∈ H ∨ h.get? a = none) (d : DenR φ H h V r) : DenR φ H' h' V r := by
 cases r with
 | pv v => exact Den.kpH k sub d
 | ptr j => exact d
 | eqa j c => exact d
 | app j =>
  obtain ⟨b, e, hb, hg⟩ := d
  refine ⟨b, e, fun m => ?_, k b _ hb hg rfl⟩
  rcases sub b m with m | m
  ·exact hb m
  rw [m] at hg; exact absurd hg.symm (some_ne_none _)
section
variable {Γ : Cx} {env : Env} {ns : List String} {φ : Nat → Addr} {Mw Lo Lo' Lo'' H : List Addr} {σ σ' : St} {s s' : Shared} {h h' h'' : Heap}
variable {τ n : Nat} {K K' : AF → St → Prop} {t : Sem Flow} {sc : Scope}
noncomputable def Turn (Γ : Cx) (τ n : Nat) (env : Env) (ns : List String) (body : List Stmt) (xs : List String) (its : List (List PV)) (I : Nat → St → Prop) (K : AF → St → Prop) : Prop :=
 ∀ i x σ1, its[i]? = some x → I i σ1 → ∃ rest, Keep xs σ1.v rest ∧ Ex Γ τ n env ns ⟨(xs.zip x).map (fun p => (p.1, RV.pv p.2)) ++ rest, σ1.o⟩ (execs body env) fun af σ2 => match af with
  | .nx => I (i + 1) σ2
  | .ct => I (i + 1) σ2
  | .bk => K .nx σ2
  | .rt v => K (.rt v) σ2
structure FInv (Γ : Cx) (env : Env) (ns : List String) (Mw Lo0 H wr fp : List Addr) (h0 : Heap) (st : Heap → Prop) (σ1 : St) (s' : Shared) (φ1 : Nat → Addr) (Lo1 : List Addr) : Prop where
 fr : Fr Γ env ns φ1 Mw Lo1 (wr ++ H) σ1 s'
 st : st s'.heap
 fpx : ∀ b ∈ fp, b ∉ Mw ++ Lo1 ∧ ∃ o, s'.heap.get? b = some o ∧ isLo o = false
 new : ∀ a ∈ Lo1, a ∈ Lo0 ∨ Nw h0 a
 kp : KpH (Mw ++ Lo0 ++ wr) h0 s'.heap
 lv : LvK h0 s'.heap
theorem Ex.for {iter tgt : Expr} {body : List Stmt} {pos : Pos} {its : List (List PV)} {xs : List String} (I : Nat → St → Prop) (hI : EvI Γ n env σ iter tgt its) (T : Tgt tgt xs) (hn : xs.Nodup) (hxn : ∀ x ∈ xs, x ∈ ns) (hi : ∀ x ∈ its, x.length = xs.length)
  (h0 : I 0 σ) (turn : Turn Γ τ n env ns body xs its I K) (done : ∀ σ1, I its.length σ1 → K .nx σ1) (hs : ∀ x, foldedSetIterable iter env x = pure x := by intro _; rfl) :
  Ex Γ τ n env ns σ (exec (.For tgt iter body [] pos) env) K := .mk' fun A E s φ Mw Lo H R F τ0 Q q => by
 rw [arm_exec_For]
 refine wpAny_bind (wpAny_standAt (wpAny_bind (wpAny_mono (qm7 (Q := fun V s' => wpAny (model Γ.prog Γ.w) A (runOwn (.forLoop tgt V body [] env) env) Q E s') τ0 (hI.run A _ s φ (Mw ++ Lo ++ H) R F.ok F.live F.eo _ ?_)) (fun x s1 h1 => wpAny_bind (wpAny_of_eq (hs x) (wpAny_bind (wpAny_standAt (wpAny_bind (wpAny_holding (wpAny_mono h1 (fun it s2 h2 => ?_) fun _ _ h' => h'))))))) fun _ _ h' => h')))
 rotate_left
 ·exact h2
 intro It s1 fp wr S hpre kp0 kp1 ok1 hwB hnp W st fpH τ1
 have k01 := kp0.trans kp1
 haveI lvp := F.live.kp kp0
 have wn : ∀ a, (∃ o, hpre.get? a = some o ∧ isTab o = false) → a ∉ wr := fun a ⟨o, ho, _⟩ hm => by rw [W.fresh a hm] at ho; nomatch ho
 have hidw : ∀ a ∈ Mw ++ Lo ++ H, a ∉ wr := fun a ha => wn a (lvp a ha)
 haveI eop := F.eo.kp kp0
 have cellw : ∀ x c, env.cells.lookup x = some c → c ∉ wr := fun x c e => wn c (q65 (eop.cells x c e).choose_spec)
 have subH : ∀ a, a ∈ Mw ++ Lo ++ (wr ++ H) → a ∈ Mw ++ Lo ++ H ∨ hpre.get? a = none := fun a ha => by
  rcases mem_append.mp ha with h | h
  ·exact .inl (mem_append_left _ h)
  rcases mem_append.mp h with h | h
  ·exact .inr (W.fresh a h)
  exact .inl (mem_append_right _ h)
 haveI lv1 : Live (Mw ++ Lo ++ (wr ++ H)) s1.heap := fun a ha => by
  rcases mem_append.mp ha with h | h
  ·exact F.live.kp k01 a (mem_append_left _ h)
  rcases mem_append.mp h with h | h
  ·obtain ⟨o, ho, ht⟩ := W.live _ _ st a h; exact ⟨o, ho, lot ht⟩
  exact F.live.kp k01 a (mem_append_right _ h)
 haveI F1 : Fr Γ env ns φ Mw Lo (wr ++ H) σ s1 := by
  refine ⟨ok1, lv1, ⟨fun x r m => ?_, fun k ys m => ?_, (F.eo.kp k01).cells⟩, fun x m => (F.wr x m).kp k01, F.off, F.own, F.inj, fun a m => ⟨(F.dis a m).1, fun q => ?_⟩, F.oc, F.loc, F.kind⟩
  ·obtain ⟨V, a, d⟩ := eop.vars x r m
   exact ⟨V, a.kp kp1, d.kpH (kp1.toH _) subH⟩
  ·obtain ⟨hm, vs, hl, hd⟩ := eop.own k ys m
   exact ⟨mem_append_left _ (mem_append_right _ (F.own k ys m)), vs, hl.kp kp1, hd.kpH (kp1.toH _) subH⟩
  rcases mem_append.mp q with q | q
  ·exact hidw a (mem_append_left _ (mem_append_right _ m)) q
  exact (F.dis a m).2 q
 haveI J0 : FInv Γ env ns Mw Lo H wr fp s1.heap (S 0) σ s1 φ Lo := ⟨F1, st, fun b hb => ⟨fun m => (fpH b hb).1 (mem_append_left _ m), (fpH b hb).2⟩, fun _ m => .inl m, KpH.refl _ _, LvK.refl _⟩
 have back : ∀ σ1 s' φ1 Lo1 h1 t1 i, FInv Γ env ns Mw Lo H wr fp s1.heap (S i) σ1 s' φ1 Lo1 → FK wr s'.heap h1 → Fr Γ env ns φ1 Mw Lo1 H σ1 { s' with heap := h1, toks := t1 } ∧ Gr Mw Lo Lo1 s.heap h1 ∧ (∀ V v, Den (Mw ++ Lo1 ++ (wr ++ H)) s'.heap V v → Den (Mw ++ Lo1 ++ H) h1 V v) := by
  intro σ1 s' φ1 Lo1 h1 t1 i J f1
  haveI tabsw : ∀ a o, s'.heap.get? a = some o → isTab o = true → a ∉ wr := fun a o e t hm => by
   obtain ⟨o', h4, h5⟩ := W.live _ _ J.st _ hm
   rw [e] at h4; cases h4; rw [lot h5] at t; cases t
  have kf : KpH (Mw ++ Lo1 ++ (wr ++ H)) s'.heap h1 := fun b o m e t => .of (f1 b o (fun q => m (mem_append_right _ (mem_append_left _ q))) e)
  have sub2 : ∀ a, a ∈ Mw ++ Lo1 ++ H → a ∈ Mw ++ Lo1 ++ (wr ++ H) ∨ s'.heap.get? a = none := fun a ha => .inl (by
   rcases mem_append.mp ha with h | h
   ·exact mem_append_left _ h
   exact mem_append_right _ (mem_append_right _ h))
  have low : ∀ a ∈ Lo1, a ∉ wr := fun a m q => (J.fr.dis a m).2 (mem_append_left _ q)
  have mww : ∀ a ∈ Mw, a ∉ wr := fun a m => hidw a (mem_append_left _ (mem_append_left _ m))
  have hHw : ∀ a ∈ H, a ∉ wr := fun a m => hidw a (mem_append_right _ m)
  refine ⟨⟨J.fr.ok.fk f1 hwB tabsw fun a _ => f1.frw (W.live _ _ J.st) a, fun a ha => ?_, ⟨fun x r m => ?_, fun k ys m => ?_, fun x c e => ?_⟩, fun x m => (J.fr.wr x m).fk f1 mww, J.fr.off, J.fr.own, J.fr.inj, fun a m => ⟨(J.fr.dis a m).1, fun q => (J.fr.dis a m).2 (mem_append_right _ q)⟩, J.fr.oc, J.fr.loc, J.fr.kind⟩, ⟨fun a m => ?_, fun b o m e t => ?_, ⟨fun a x => ?_, fun a x => ?_⟩⟩, fun V v d => d.kpH kf sub2⟩
  ·obtain ⟨o, ho, ht⟩ := J.fr.live a ((sub2 a ha).elim id fun e => by
    rcases mem_append.mp ha with h | h
    ·exact mem_append_left _ h
    exact mem_append_right _ (mem_append_right _ h))
   refine ⟨o, f1 _ _ ?_ ho, ht⟩
   rcases mem_append.mp ha with h | h
   ·rcases mem_append.mp h with h | h
    ·exact mww a h
    exact low a h
   exact hHw a h
  ·obtain ⟨V, a, d⟩ := J.fr.eo.vars x r m
   exact ⟨V, a.fk f1 (mww _ F.loc) cellw, d.kpH kf sub2⟩
  ·obtain ⟨hm, vs, ⟨j, hl⟩, hd⟩ := J.fr.eo.own k ys m
   exact ⟨mem_append_left _ (mem_append_right _ (J.fr.own k ys m)), vs, ⟨j, f1 _ _ (low _ (J.fr.own k ys m)) hl⟩, hd.kpH kf sub2⟩
  ·obtain ⟨v, hv⟩ := J.fr.eo.cells x c e; exact ⟨v, q71 hv f1 (cellw x c e)⟩
  ·rcases J.new a m with m | m
   ·exact .inl m
   exact .inr (m.kp k01)
  ·have hw := wn b (let ⟨_, e0⟩ := (kp0 _ _ e t).sl; ⟨_, e0, t⟩)
   exact (k01 _ _ e t).trans fun o' e' t' => (J.kp b o' (fun q => (mem_append.mp q).elim m hw) e' (t'.trans t)).trans fun o2 e2 _ => .of (f1 _ _ hw e2)
  ·obtain ⟨o, e, t⟩ := x
   have hw := wn a (let ⟨_, e0⟩ := (kp0 _ _ e t).sl; ⟨_, e0, t⟩)
   obtain ⟨o', e', t'⟩ := J.lv.lv a ((LvK.of k01).lv a ⟨o, e, t⟩)
   exact ⟨o', f1 _ _ hw e', t'⟩
  obtain ⟨o, e, t⟩ := x
  have hw := wn a (let ⟨_, e0⟩ := (kp0 _ _ e (q14 t)).sl; ⟨_, e0, q14 t⟩)
  obtain ⟨o', e', t'⟩ := J.lv.fr a ((LvK.of k01).fr a ⟨o, e, t⟩)
  exact ⟨o', f1 _ _ hw e', t'⟩
 refine wpAny_runOwn (codeAny_forLoop_any (fun m s' => ∃ i σ1 φ1 Lo1, i ≤ its.length ∧ m = its.length + 1 - i ∧ I i σ1 ∧ FInv Γ env ns Mw Lo H wr fp s1.heap (S i) σ1 s' φ1 Lo1 ∧ τ ≤ s'.toks) (fun m s' hIv => ?_) (its.length + 1) ⟨0, σ, φ, Lo, zero_le _, rfl, h0, J0, τ1⟩)
 obtain ⟨i, σ1, φ1, Lo1, hile, rfl, hIi, J, τJ⟩ := hIv
 cases hx : its[i]? with
 | none =>
  haveI : i = its.length := le_antisymm hile (by simpa using hx)
  subst this
  refine W.done s' _ _ J.st fun h1 t1 f1 => wpAny_pure ?_
  obtain ⟨Fb, Gb, _⟩ := back σ1 s' φ1 Lo1 h1 t1 _ J f1
  exact q .next _ .nx σ1 φ1 Lo1 (done σ1 hIi) Fb Gb trivial
 | some x =>
  haveI hlt : i < its.length := (List.getElem?_eq_some_iff.mp hx).1
  obtain ⟨rest, kr, body1⟩ := turn i x σ1 hx hIi
  haveI kpre : KpH (Mw ++ Lo ++ H) hpre s'.heap := fun b o m e t => (kp1 _ _ e t).trans fun o' e' t' => J.kp b o' (fun q => by
   rcases mem_append.mp q with q | q
   ·exact m (mem_append_left _ q)
   rw [W.fresh b q] at e; nomatch e) e' (t'.trans t)
  haveI subI : ∀ a, a ∈ Mw ++ Lo1 ++ (wr ++ H) → a ∈ Mw ++ Lo ++ H ∨ Nw hpre a := fun a ha => by
   rcases mem_append.mp ha with h | h
   ·rcases mem_append.mp h with h | h
    ·exact .inl (mem_append_left _ (mem_append_left _ h))
    rcases J.new a h with h | h
    ·exact .inl (mem_append_left _ (mem_append_right _ h))
    exact .inr (h.kp kp1)
   rcases mem_append.mp h with h | h
   ·exact .inr (Nw.none (W.fresh a h))
   exact .inl (mem_append_right _ h)
  refine wpAny_with_toks τJ ?_
  refine W.item i s' _ x _ (Mw ++ Lo1 ++ (wr ++ H)) hx J.st subI kpre fun v h1 t1 f1 cont τ2 => cont _ _ fun h2 f2 st2 u2 => ?_
  have f12 : FK wr s'.heap h2 := f1.trans f2
  have tabsw : ∀ a o, s'.heap.get? a = some o → isTab o = true → a ∉ wr := fun a o e t hm => by
   obtain ⟨o', h4, h5⟩ := W.live _ _ J.st _ hm
   rw [e] at h4; cases h4; rw [lot h5] at t; cases t
  have low : ∀ a ∈ Lo1, a ∉ wr := fun a m q => (J.fr.dis a m).2 (mem_append_left _ q)
  have mww : ∀ a ∈ Mw, a ∉ wr := fun a m => hidw a (mem_append_left _ (mem_append_left _ m))
  haveI hHw : ∀ a ∈ H, a ∉ wr := fun a m => hidw a (mem_append_right _ m)
  have kf : KpH (Mw ++ Lo1 ++ (wr ++ H)) s'.heap h2 := fun b o m e t => .of (f12 b o (fun q => m (mem_append_right _ (mem_append_left _ q))) e)
  have lv2 : Live (Mw ++ Lo1 ++ (wr ++ H)) h2 := fun a ha => by
   by_cases hw : a ∈ wr
   ·obtain ⟨o, ho, ht⟩ := W.live _ _ st2 a hw; exact ⟨o, ho, lot ht⟩
   obtain ⟨o, ho, ht⟩ := J.fr.live a ha; exact ⟨o, f12 _ _ hw ho, ht⟩
  have F2 : Fr Γ env ns φ1 Mw Lo1 (wr ++ H) σ1 { s' with heap := h2, toks := t1 } := by
   refine ⟨J.fr.ok.fk f12 hwB tabsw fun a _ => f12.frw (W.live _ _ J.st) a, lv2, ⟨fun x r m => ?_, fun k ys m => ?_, fun x c e => ?_⟩, fun x m => (J.fr.wr x m).fk f12 mww, J.fr.off, J.fr.own, J.fr.inj, J.fr.dis, J.fr.oc, J.fr.loc, J.fr.kind⟩
   ·obtain ⟨V, a, d⟩ := J.fr.eo.vars x r m
    exact ⟨V, a.fk f12 (mww _ F.loc) cellw, d.kpH kf fun _ h => .inl h⟩
   ·obtain ⟨hm, vs, ⟨j, hl⟩, hd⟩ := J.fr.eo.own k ys m
    exact ⟨hm, vs, ⟨j, f12 _ _ (low _ (J.fr.own k ys m)) hl⟩, hd.kpH kf fun _ h => .inl h⟩
   obtain ⟨v, hv⟩ := J.fr.eo.cells x c e; exact ⟨v, q71 hv f12 (cellw x c e)⟩
  refine wpAny_with_toks (s := { s' with heap := h2, toks := t1 }) τ2 ?_
  refine qe1 (s := { s' with heap := h2, toks := t1 }) (M := Mw) F.kind R.handled T hn (fun y hy => F2.wr y (hxn y hy)) (hi x (mem_of_getElem? hx)) u2 (fun m => lv2.size (mem_append_left _ (mem_append_left _ m))) fun h3 t3 Vs f3 lk3 a3 d3 sm3 wk3 τ3 => ?_
  haveI k23 : KpH (Mw ++ Lo1 ++ (wr ++ H)) h2 h3 := fun b o m e t => .of (f3 b o (fun q => m (mem_append_left _ (mem_append_left _ q))) e)
  haveI F3 : Fr Γ env ns φ1 Mw Lo1 (wr ++ H) ⟨(xs.zip x).map (fun p => (p.1, RV.pv p.2)) ++ rest, σ1.o⟩ { s' with heap := h3, toks := t3 } := by
   refine Fr.stored (s := { s' with heap := h2, toks := t1 }) (xs := xs) (t := t3) F2 kr f3 lk3 sm3 wk3 fun y r m => ?_
   exact qr9 a3 (d3.kpH k23 fun _ h => .inl h) y r m
  have st3 : S (i + 1) h3 := W.frame _ _ _ st2 fun b hb o e => f3 b o (fun q => (J.fpx b hb).1 (mem_append_left _ q)) e
  have nt3 : ∀ b ∈ fp, ∃ o, h3.get? b = some o ∧ isLo o = false := fun b hb => by
   by_cases hw : b ∈ wr
   ·exact W.live _ _ st3 b hw
   obtain ⟨m, o, ho, ht⟩ := J.fpx b hb
   exact ⟨o, f3 _ _ (fun q => m (mem_append_left _ q)) (f12 _ _ hw ho), ht⟩
  have lk03 : LvK s1.heap h3 := J.lv.trans ((LvK.fkw f12 (W.live _ _ J.st) (W.live _ _ st2)).trans lk3)
  haveI k03 : KpH (Mw ++ Lo ++ wr) s1.heap h3 := fun b o m e t => (J.kp b o m e t).trans fun o' e' _ => .of (f3 _ _ (fun q => m (mem_append_left _ (mem_append_left _ q))) (f12 _ _ (fun q => m (mem_append_right _ q)) e'))
  refine body1.run A _ _ φ1 Mw Lo1 (wr ++ H) R F3 τ3 _ fun fl s5 af σ5 φ5 Lo5 c5 F5 g5 fr5 τ5 => ?_
  have J5 : FInv Γ env ns Mw Lo H wr fp s1.heap (S (i + 1)) σ5 s5 φ5 Lo5 := by
   haveI nl : ∀ b ∈ fp, b ∉ Mw ++ Lo5 := fun b hb q => by
    rcases mem_append.mp q with q | q
    ·exact (J.fpx b hb).1 (mem_append_left _ q)
    rcases g5.new b q with q | q
    ·exact (J.fpx b hb).1 (mem_append_right _ q)
    obtain ⟨o, ho, ht⟩ := nt3 b hb
    have := q o ho; rw [lot ht] at this; cases this
   refine ⟨F5, W.frame _ _ _ st3 fun b hb o e => ?_, fun b hb => ⟨nl b hb, let ⟨o, e, t⟩ := nt3 b hb; ⟨o, (g5.kp b o (J.fpx b hb).1 e (lot t)).lo t, t⟩⟩, fun a m => ?_, fun b o m e t => ?_, lk03.trans g5.lv⟩
   ·obtain ⟨o', e', t'⟩ := nt3 b hb
    haveI : o' = o := Option.some.inj (e'.symm.trans e)
    subst this
    exact (g5.kp b _ (J.fpx b hb).1 e (lot t')).lo t'
   ·rcases g5.new a m with m | m
    ·exact J.new a m
    exact .inr fun o e => by
     cases t : isTab o with
     | true => rfl
     | false =>
      obtain ⟨o', e', t'⟩ := lk03.lv a ⟨o, e, t⟩
      rw [m o' e'] at t'; cases t'
   refine (k03 b o m e t).trans fun o' e' t' => g5.kp b o' (fun q => ?_) e' (t'.trans t)
   rcases mem_append.mp q with q | q
   ·exact m (mem_append_left _ (mem_append_left _ q))
   rcases J.new b q with q | q
   ·exact m (mem_append_left _ (mem_append_right _ q))
   rw [q o e] at t; cases t
  haveI leave := fun h1 t1 (f1 : FK wr s5.heap h1) => back σ5 s5 φ5 Lo5 h1 t1 _ J5 f1
  cases af with
  | nx => cases fl with
   | next => exact ⟨its.length + 1 - (i + 1), by omega, i + 1, σ5, φ5, Lo5, hlt, rfl, c5, J5, τ5⟩
   | _ => exact fr5.elim
  | ct => cases fl with
   | cont => exact ⟨its.length + 1 - (i + 1), by omega, i + 1, σ5, φ5, Lo5, hlt, rfl, c5, J5, τ5⟩
   | _ => exact fr5.elim
  | bk => cases fl with
   | brk =>
    obtain ⟨Fb, Gb, _⟩ := leave s5.heap s5.toks (FK.refl _ _)
    exact q .next s5 .nx σ5 φ5 Lo5 c5 Fb Gb trivial
   | _ => exact fr5.elim
  | rt v => cases fl with
   | ret V =>
    obtain ⟨Fb, Gb, dv⟩ := leave s5.heap s5.toks (FK.refl _ _)
    exact q (.ret V) s5 (.rt v) σ5 φ5 Lo5 c5 Fb Gb (dv V v fr5)
   | _ => exact fr5.elim
end
theorem z68 : isSubtype (.type "list") (.type "list") = pure true := by rw [isSubtype_type]; kernel_rfl
noncomputable def mwObj (a : Addr) : Obj := { cls := .type "method-wrapper", data := .fields #[.builtin "list.__contains__", .ref a] }
theorem md_slot : Slot "method_descriptor" "__get__" "method_descriptor.__get__" :=
 .of (owner := "method_descriptor") (n := "__get__") (by rw [typeLookup_type, builtinLookup_eq_fast]; kernel_rfl) (by decide +kernel) (by decide +kernel) (by decide +kernel)
  (by first | exact .inl (by decide +kernel) | exact .inr (by decide +kernel)) (by rw [isSubtype_type]; kernel_rfl)
theorem zc3 : typeLookup (.type "method_descriptor") "__set__" = pure none := am_miss_of_fast (by decide +kernel)
theorem zc4 : typeLookup (.type "method_descriptor") "__delete__" = pure none := am_miss_of_fast (by decide +kernel)
theorem z46 : entryFor table "method_descriptor.__get__" = some Builtin.«method_descriptor.__get__» := entryFor_of_tree (by kernel_rfl)
theorem z91 (a b c : Value) : argsOk "method_descriptor.__get__" ⟨[a, b, c], []⟩ := by unfold argsOk; kernel_rfl
theorem wd_slot : Slot "wrapper_descriptor" "__get__" "wrapper_descriptor.__get__" :=
 .of (owner := "wrapper_descriptor") (n := "__get__") (by rw [typeLookup_type, builtinLookup_eq_fast]; kernel_rfl) (by decide +kernel) (by decide +kernel) (by decide +kernel)
  (by first | exact .inl (by decide +kernel) | exact .inr (by decide +kernel)) (by rw [isSubtype_type]; kernel_rfl)
theorem zb4 : typeLookup (.type "wrapper_descriptor") "__set__" = pure none := am_miss_of_fast (by decide +kernel)
theorem zb5 : typeLookup (.type "wrapper_descriptor") "__delete__" = pure none := am_miss_of_fast (by decide +kernel)
theorem z31 : entryFor table "wrapper_descriptor.__get__" = some Builtin.«wrapper_descriptor.__get__» := entryFor_of_tree (by kernel_rfl)
theorem z75 (a b c : Value) : argsOk "wrapper_descriptor.__get__" ⟨[a, b, c], []⟩ := by unfold argsOk; kernel_rfl
theorem lc_slot : Slot "list" "__contains__" "list.__contains__" :=
 .of (owner := "list") (n := "__contains__") (by rw [typeLookup_type, builtinLookup_eq_fast]; kernel_rfl) (by decide +kernel) (by decide +kernel) (by decide +kernel)
  (by first | exact .inl (by decide +kernel) | exact .inr (by decide +kernel)) (by rw [isSubtype_type]; kernel_rfl)
theorem qz2 : typeOf (.builtin "list.__contains__") = pure (.type "wrapper_descriptor") := by show builtinType _ = _; rw [builtinType_eq_fast]; kernel_rfl
theorem qn8 (a : Addr) (xs : Array Value) (k : Nat) :
  Meets (Builtin.«method_descriptor.__get__» ⟨[.builtin "list.append", .ref a, .type "list"], []⟩) (fun A R s => s.heap.get? a = some { cls := .type "list", dict := none, data := .seq xs k, slots := #[] } ∧ R (.ok (.ret (.ref s.heap.objs.size))) { s with heap := s.heap.push (qg1 a)}) :=
 Meets.of_wp fun prog w A R s hs => by
  obtain ⟨hp, g, d, tk, os⟩ := s
  obtain ⟨hx, hs⟩ := hs
  have hT : (⟨hp, g, d, tk, os⟩ : Shared).TypeIs (.ref a) "list" := ⟨_, hx, rfl⟩
  have hsub := z68
  unfold Builtin.«method_descriptor.__get__»
  repeat (any_goals (first | assumption | wp_step))
  rw [show (".".intercalate ("list.append".cutAt '.').dropLast) = "list" by decide +kernel]
  repeat (any_goals (first | assumption | wp_step))
  exact ⟨_, rfl, hs⟩
theorem qn7 (a : Addr) (xs : Array Value) (k : Nat) :
  Meets (Builtin.«wrapper_descriptor.__get__» ⟨[.builtin "list.__contains__", .ref a, .type "list"], []⟩) (fun A R s => s.heap.get? a = some { cls := .type "list", dict := none, data := .seq xs k, slots := #[] } ∧ R (.ok (.ret (.ref s.heap.objs.size))) { s with heap := s.heap.push (mwObj a)}) :=
 Meets.of_wp fun prog w A R s hs => by
  obtain ⟨hp, g, d, tk, os⟩ := s
  obtain ⟨hx, hs⟩ := hs
  have hT : (⟨hp, g, d, tk, os⟩ : Shared).TypeIs (.ref a) "list" := ⟨_, hx, rfl⟩
  have hsub := z68
  unfold Builtin.«wrapper_descriptor.__get__»
  repeat (any_goals (first | assumption | wp_step))
  rw [show (".".intercalate ("list.__contains__".cutAt '.').dropLast) = "list" by decide +kernel]
  repeat (any_goals (first | assumption | wp_step))
  exact ⟨_, rfl, hs⟩
theorem qc9 (a : Addr) (xs : Array Value) (k : Nat) (u : Tok) :
  Meets (Builtin.«object.__getattribute__» ⟨[.ref a, .str "append" u], []⟩) (fun A R s => s.heap.get? a = some { cls := .type "list", dict := none, data := .seq xs k, slots := #[] } ∧ R (.ok (.ret (.ref s.heap.objs.size))) { s with heap := s.heap.push (qg1 a)}) :=
 Meets.of_wp fun prog w A R s hs => by
  obtain ⟨hp, g, d, tk, os⟩ := s
  obtain ⟨hx, hs⟩ := hs
  have hT : (⟨hp, g, d, tk, os⟩ : Shared).TypeIs (.ref a) "list" := ⟨_, hx, rfl⟩
  have f1 := slot_list_append.lookup
  have f2 := type_list_append
  have f3 := md_slot.lookup
  have f4 := zc3
  have f5 := zc4
  unfold Builtin.«object.__getattribute__»
  repeat (any_goals (first | assumption | ((with_reducible show wpAny _ _ (call (Value.builtin "method_descriptor.__get__") _ _) _ _ _); refine call_meets md_slot type_list_append z46 (z91 _ _ _) (qn8 a xs k) ⟨hx, ?_⟩) | wp_step))
  exact wpAny_pure ⟨_, rfl, hs⟩
theorem q94 (a : Addr) (xs : Array Value) (k : Nat) (u : Tok) :
  Meets (Builtin.«object.__getattribute__» ⟨[.ref a, .str "__contains__" u], []⟩) (fun A R s => s.heap.get? a = some { cls := .type "list", dict := none, data := .seq xs k, slots := #[] } ∧ R (.ok (.ret (.ref s.heap.objs.size))) { s with heap := s.heap.push (mwObj a)}) :=
 Meets.of_wp fun prog w A R s hs => by
  obtain ⟨hp, g, d, tk, os⟩ := s
  obtain ⟨hx, hs⟩ := hs
  have hT : (⟨hp, g, d, tk, os⟩ : Shared).TypeIs (.ref a) "list" := ⟨_, hx, rfl⟩
  have f1 := lc_slot.lookup
  have f2 := qz2
  have f3 := wd_slot.lookup
  have f4 := zb4
  have f5 := zb5
  unfold Builtin.«object.__getattribute__»
  repeat (any_goals (first | assumption | ((with_reducible show wpAny _ _ (call (Value.builtin "wrapper_descriptor.__get__") _ _) _ _ _); refine call_meets wd_slot qz2 z31 (z75 _ _ _) (qn7 a xs k) ⟨hx, ?_⟩) | wp_step))
  exact wpAny_pure ⟨_, rfl, hs⟩
theorem qe7 {prog : Program} {w : World} {A : Around} {E : Value → Shared → Prop} {s : Shared} {a : Addr} {xs : Array Value} {k : Nat} {Q : Value → Shared → Prop}
  (hx : s.heap.get? a = some { cls := .type "list", dict := none, data := .seq xs k, slots := #[] }) (h : ∀ t, Q (.ref s.heap.objs.size) { s with heap := s.heap.push (qg1 a), toks := t }) :
  wpAny (model prog w) A (getAttr (.ref a) "append" true) Q E s := by
 obtain ⟨hp, g, d, tk, os⟩ := s
 have hT : ∀ tk', (⟨hp, g, d, tk', os⟩ : Shared).TypeIs (.ref a) "list" := fun _ => ⟨_, hx, rfl⟩
 have f3 := F.slot_list_getattribute.lookup
 have f4 := F.slot_list_getattribute.bind (.ref a)
 have f5 := am_list_getattr_none
 unfold getAttr getAttrBy
 repeat (any_goals (first | assumption | exact hT _ | ((with_reducible show wpAny _ _ (call (Value.builtin "list.__getattribute__") _ _) _ _ _); refine call_meets F.slot_list_getattribute (hT _) am_entry_list_getattribute (F.args_list_getattribute_2 _ _) (qc9 a xs k _) ⟨hx, ?_⟩) | wp_step))
 exact wpAny_pure (h _)
theorem qd1 : isSubtype (.type "list") (.type "module") = pure false := by rw [isSubtype_type]; kernel_rfl
theorem q97 {M : Model} {A : Around} {E : Value → Shared → Prop} {s : Shared} {a : Addr} {xs : Array Value} {k : Nat} {x : Value} {Q : Unit → Shared → Prop}
  (hx : s.heap.get? a = some { cls := .type "list", dict := none, data := .seq xs k, slots := #[] }) (h : Q () s) : wpAny M A (checkBoundCall "list.append" ⟨[.ref a, x], []⟩) Q E s := by
 have hT : s.TypeIs (.ref a) "list" := ⟨_, hx, rfl⟩
 have hn := qd1
 unfold checkBoundCall
 repeat (any_goals (first | assumption | wp_step))
theorem z63 {prog : Program} {w : World} {A : Around} {E : Value → Shared → Prop} {s : Shared} {b a : Addr} {vs : Array Value} {x : Value} {Q : Value → Shared → Prop} (hb : s.heap.get? b = some (qg1 a)) (hl : LstAt s.heap a vs) (hz : vs.size ≤ 2 ^ 24)
  (h : ∀ h', SameBut a s.heap h' → LstAt h' a (vs.push x) → Q .none { s with heap := h' }) : wpAny (model prog w) A (call (.ref b) [x]) Q E s := by
 obtain ⟨k, hk⟩ := hl
 refine wpAny_call (codeAny_of_tree ?_)
 show wpAny _ A.in1 (callAny (.ref b) ⟨[x], []⟩) _ _ s
 unfold callAny
 refine wpAny_bind (wpAny_load hb ?_)
 show wpAny _ A.in1 (do checkBoundCall "list.append" ⟨[.ref a, x], []⟩; pure (← again (.builtin "list.append" ⟨[.ref a, x], []⟩))) _ _ s
 refine wpAny_bind (q97 hk ?_)
 refine wpAny_bind (wpAny_pure (wpAny_pure ⟨plainId_quiet F.slot_list_append.plain _, codeAny_builtin F.entry_list_append ?_⟩))
 dsimp only [Around.under_plainId F.slot_list_append.plain _]
 have := PySem.list_append a vs k x (by simp only [sizeLine]; exact hz) prog w A (wants Q E) s ⟨hk, h _ (SameBut.update ..) ⟨_, PySem.IsL.update hk _⟩⟩
 exact this
theorem qm1 {M : Model} {A : Around} {E : Value → Shared → Prop} {s : Shared} {env : Env} {pos : Pos} {b : Addr} {φa : Addr} {e : Expr} {Q : Value → Shared → Prop}
  (h : wpAny M A (eval e env) (fun v s₁ => s₁.heap.get? b = some (qg1 φa) ∧ wpAny M A (call (.ref b) [v]) Q E s₁) E s)
  (he : starEach [e] env = [(false, eval e env)]) (hp : backTo pos [(false, eval e env)] = [(false, eval e env)]) :
  wpAny M A (callWith pos (.ref b) [] (backTo pos (starEach [e] env)) []) Q E s := by
 rw [he, hp]
 unfold callWith
 refine wpAny_bind (wpAny_holding (Calls.evalArgs_plain (Calls.spliced_cons (wpAny_mono h (fun v s₁ h₁ => Calls.spliced_nil ?_) fun _ _ x => x))))
 refine wpAny_bind (wpAny_standAt ?_)
 obtain ⟨hb, hc⟩ := h₁
 dsimp only [any_cons, List.any_nil, Bool.or_false]
 refine wpAny_bind ?_
 refine wpAny_bind (wpAny_load hb ?_)
 show wpAny _ _ (pure Keeper.machine) _ _ s₁
 refine wpAny_pure ?_
 refine wpAny_bind ?_
 refine wpAny_mono hc (fun r s₂ hr => wpAny_bind (wpAny_holding (wpAny_point (wpAny_pure hr)))) fun _ _ x => x
structure EvF (Γ : Cx) (n : Nat) (env : Env) (σ : St) (t : Sem Value) (xs : List PV) : Prop where
 run : ∀ (A : Around) (E : Value → Shared → Prop) (s : Shared) (φ : Nat → Addr) (H : List Addr), Room Γ A n → Γ.Ok s → Live H s.heap → EnvOK env φ H σ s.heap → ∀ Q : Value → Shared → Prop,
  (∀ a vs s', Kp s.heap s'.heap → Γ.Ok s' → Nw s.heap a → Γ.hB.get? a = none → LstAt s'.heap a vs → Dens (a :: H) s'.heap vs.toList xs → Q (.ref a) s') → wpAny (model Γ.prog Γ.w) A t Q E s
section
variable {Γ : Cx} {τ n : Nat} {env : Env} {σ : St} {sc : Scope} {ns : List String} {K : AF → St → Prop} {φ : Nat → Addr} {Mw Lo H : List Addr} {s : Shared}
theorem EvF.list {es : List Expr} {pos : Pos} {xs : List PV} (h : EvS Γ n env σ pos es (pvs xs)) (hz : xs.length ≤ 2 ^ 24) : EvF Γ n env σ (eval (.List es pos) env) xs :=
 .mk fun A E s φ H R ok lv eo Q k => wpAny_List (h.run A E s φ H R ok lv eo _ fun Vs s1 k1 ok1 d => by
  have dd := PArgs.dens d
  have := dd.length
  refine ⟨by simp only [sizeLine]; omega, k s1.heap.objs.size _ { s1 with heap := _ } (k1.trans (Kp.push _ _)) (ok1.W0 _) ((Nw.size _).kp k1) (ok1.new (q00 _)) (LstAt.new _ _) ?_⟩
  refine dd.kpH ((Kp.push _ _).toH _) fun a m => ?_
  rcases mem_cons.mp m with rfl | m
  ·exact .inr (q00 _)
  exact .inl m)
noncomputable def RV.key : RV → Option Nat
 | .pv _ => none
 | .ptr k => some k
 | .app k => some k
 | .eqa k _ => some k
theorem DenR.phi {H : List Addr} {h : Heap} {φ' : Nat → Addr} {r : RV} {V : Value} (e : ∀ k, r.key = some k → φ' k = φ k) (d : DenR φ H h V r) : DenR φ' H h V r := by
 cases r with
 | pv v => exact d
 | ptr k => exact d.trans (by rw [e k rfl])
 | eqa k c => exact (e k rfl).trans d
 | app k => obtain ⟨b, e1, e2, e3⟩ := d; exact ⟨b, e1, e2, by rw [e k rfl]; exact e3⟩
theorem Keep.self {xs : List String} {l l' : List (String × RV)} (k : Keep xs l l') : Keep xs l' l' := by
 induction k with
 | nil => exact .nil
 | take h _ ih => exact .take h ih
 | drop _ ih => exact ih
theorem Fr.O8 (F : Fr Γ env ns φ Mw Lo H σ s) {s' : Shared} (k1 : Kp s.heap s'.heap) (ok1 : Γ.Ok s') {a : Addr} {vs : Array Value} {xs : List PV} (k : Nat) (nw : Nw s.heap a) (hB : Γ.hB.get? a = none) (hl : LstAt s'.heap a vs) (hd : Dens (a :: (Mw ++ Lo ++ H)) s'.heap vs.toList xs)
  (hk : σ.v.all (fun p => p.2.key != some k) = true) (hko : σ.o.all (fun p => p.1 != k) = true) : ∃ φ', φ' k = a ∧ (∀ j, j ≠ k → φ' j = φ j) ∧ Fr Γ env ns φ' Mw (a :: Lo) H ⟨σ.v, (k, xs) :: σ.o⟩ s' ∧ Gr Mw Lo (a :: Lo) s.heap s'.heap := by
 have F1 := F.kp k1 ok1
 have na : a ∉ Mw ++ Lo ++ H := nw.Y2 F.live
 simp only [all_eq_true] at hk hko
 have aw : a ∉ Mw := fun m => na (mem_append_left _ (mem_append_left _ m))
 have al : a ∉ Lo := fun m => na (mem_append_left _ (mem_append_right _ m))
 have ah : a ∉ H := fun m => na (mem_append_right _ m)
 have sub : ∀ b, b ∈ Mw ++ (a :: Lo) ++ H → b = a ∨ b ∈ Mw ++ Lo ++ H := fun b m => by
  simp only [mem_append, mem_cons] at m ⊢
  rcases m with (m | m | m) | m <;> simp [m]
 have sub' : ∀ b, b ∈ Mw ++ (a :: Lo) ++ H → b ∈ a :: (Mw ++ Lo ++ H) := fun b m => mem_cons.mpr (sub b m)
 have ks : KpH (Mw ++ Lo ++ H) s.heap s'.heap := k1.toH _
 have subN : ∀ b, b ∈ Mw ++ (a :: Lo) ++ H → b ∈ Mw ++ Lo ++ H ∨ Nw s.heap b := fun b m => (sub b m).elim (fun e => .inr (e ▸ nw)) .inl
 have old : ∀ {V r}, DenR φ (Mw ++ Lo ++ H) s.heap V r → DenR φ (Mw ++ (a :: Lo) ++ H) s'.heap V r := by
  intro V r d
  cases r with
  | pv v => exact Den.kpN ks subN d
  | ptr j => exact d
  | eqa j c => exact d
  | app j =>
   obtain ⟨b, e1, e2, e3⟩ := d
   refine ⟨b, e1, fun m => ?_, ks b _ e2 e3 rfl⟩
   rcases subN b m with m | m
   ·exact e2 m
   cases m _ e3
 refine ⟨fun j => if j = k then a else φ j, if_pos rfl, fun j e => if_neg e, ⟨F1.ok, fun b m => ?_, ⟨fun y r m => ?_, fun j ys m => ?_, F1.eo.cells⟩, F1.wr, fun b m => ?_, fun j ys m => ?_, fun j ys i zs m1 m2 e => ?_, fun b m => ?_, F1.oc, F1.loc, F1.kind⟩, ⟨fun b m => ?_, fun b o m e t => k1 b o e t, LvK.of k1⟩⟩
 ·rcases sub b m with rfl | m
  ·exact hl.some
  exact F1.live b m
 ·obtain ⟨V, av, d⟩ := F.eo.vars y r m
  refine ⟨V, av.kp k1, (old d).phi fun j ej => if_neg fun ejk => ?_⟩
  have := hk _ m
  rw [show (y, r).2.key = r.key from rfl, ej, ejk] at this
  simp at this
 ·rcases mem_cons.mp m with e | m
  ·cases e
   rw [if_pos rfl]
   exact ⟨mem_append_left _ (mem_append_right _ (.head _)), vs, hl, hd.kpH (KpH.refl _ _) fun b m => .inl (sub' b m)⟩
  have jk : j ≠ k := by have := hko _ m; simpa using this
  obtain ⟨hm, ws, hw, hwd⟩ := F.eo.own j ys m
  rw [if_neg jk]
  exact ⟨mem_append_left _ (mem_append_right _ (mem_cons_of_mem _ (F.own j ys m))), ws, hw.kp k1, hwd.kpN ks subN⟩
 ·simp only [mem_append, mem_cons] at m
  rcases m with m | m | m
  ·exact F.off b (mem_append_left _ m)
  ·exact m ▸ hB
  exact F.off b (mem_append_right _ m)
 ·rcases mem_cons.mp m with e | m
  ·cases e; rw [if_pos rfl]; exact .head _
  have jk : j ≠ k := by have := hko _ m; simpa using this
  rw [if_neg jk]; exact .tail _ (F.own j ys m)
 ·rcases mem_cons.mp m1 with e1 | m1
  ·cases e1
   rcases mem_cons.mp m2 with e2 | m2
   ·cases e2; rfl
   have ik : i ≠ k := by have := hko _ m2; simpa using this
   rw [if_pos rfl, if_neg ik] at e
   exact absurd (e ▸ F.own i zs m2) al
  have jk : j ≠ k := by have := hko _ m1; simpa using this
  rcases mem_cons.mp m2 with e2 | m2
  ·cases e2
   rw [if_pos rfl, if_neg jk] at e
   exact absurd (e ▸ F.own j ys m1) al
  have ik : i ≠ k := by have := hko _ m2; simpa using this
  rw [if_neg jk, if_neg ik] at e
  exact F.inj j ys i zs m1 m2 e
 ·rcases mem_cons.mp m with rfl | m
  ·exact ⟨aw, ah⟩
  exact F.dis b m
 rcases mem_cons.mp m with rfl | m
 ·exact .inr nw
 exact .inl m
theorem Ex.U6 (k : Nat) {x : String} {p pos : Pos} {e : Expr} {xs : List PV} {rest : List (String × RV)} (h : EvF Γ n env σ (eval e env) xs) (hx : x ∈ ns) (kr : Keep [x] σ.v rest) (hk : rest.all (fun p => p.2.key != some k) = true) (hko : σ.o.all (fun p => p.1 != k) = true)
  (c : K .nx ⟨(x, .ptr k) :: rest, (k, xs) :: σ.o⟩) (hs : swapsWith e (some (.Name (ofString x) p)) pos.line env = pure false) : Ex Γ τ n env ns σ (exec (.Assign [.Name (ofString x) p] e pos) env) K := .mk' fun A E s φ Mw Lo H R F τ0 Q q => by
 have F0 : Fr Γ env ns φ Mw Lo H ⟨rest, σ.o⟩ s := F.weak fun p m => (kr.mem p m).1
 refine wpAny_Assign_Name (h.run A E s φ (Mw ++ Lo ++ H) R F.ok F.live F.eo _ fun a vs s1 k1 ok1 nw hB hl hd => ?_) hs
 obtain ⟨φ', e1, _, F1, G1⟩ := F0.O8 k1 ok1 k nw hB hl hd hk hko
 exact F1.storeName hx kr.self (r := .ptr k) (by show Value.ref a = Value.ref (φ' k); rw [e1]) fun s3 F3 G3 => q .next s3 .nx _ φ' _ c F3 (G1.trans G3) trivial
theorem Fr.R9 (F : Fr Γ env ns φ Mw Lo H σ s) {k : Nat} {xs ys : List PV} {orest : List (Nat × List PV)} {h' : Heap} {vs : Array Value} {t : Nat} (ho : (k, xs) ∈ σ.o) (ko : KeepO k σ.o orest) (hs : SameBut (φ k) s.heap h') (hl : LstAt h' (φ k) vs) (hd : Dens (Mw ++ Lo ++ H) s.heap vs.toList ys) :
  Fr Γ env ns φ Mw Lo H ⟨σ.v, (k, ys) :: orest⟩ { s with heap := h', toks := t } ∧ Gr Mw Lo Lo s.heap h' := by
 have hk := F.own k xs ho
 have hkm : φ k ∈ Mw ++ Lo ++ H := mem_append_left _ (mem_append_right _ hk)
 have kk : KpH (Mw ++ Lo ++ H) s.heap h' := fun b o m e t => .of ((hs.2 b fun q => m (q ▸ hkm)).trans e)
 have lk : LvK s.heap h' := let ⟨_, _, l0, _⟩ := F.eo.own k xs ho; .lst hs l0 hl
 have fk : FK [φ k] s.heap h' := FK.same hs (.head _)
 have nd : ∀ {a : Addr}, a ∈ Mw → a ≠ φ k := fun m q => (F.dis _ hk).1 (q ▸ m)
 refine ⟨⟨F.ok.fk fk (fun a m => by simp only [mem_singleton] at m; subst m; exact F.off _ (mem_append_right _ hk)) (fun a o e t m => by simp only [mem_singleton] at m; exact F.tabs a o e t (m ▸ mem_append_right _ hk)) fun a _ => lk.fr a, lk.live F.live, ⟨fun x r m => ?_, fun j zs m => ?_, fun x c e => ?_⟩, fun x m => ?_, F.off, fun j zs m => ?_, fun j zs i ws m1 m2 e => ?_, F.dis, F.oc, F.loc, F.kind⟩, ⟨fun _ m => .inl m, fun b o m e t => .of ((hs.2 b fun q => m (q ▸ mem_append_right _ hk)).trans e), lk⟩⟩
 ·obtain ⟨V, a, d⟩ := F.eo.vars x r m
  refine ⟨V, ?_, d.kpH kk fun _ h => .inl h⟩
  rcases a with ⟨e1, m, hn, hm⟩ | ⟨e1, c, hc, hv⟩
  ·exact .inl ⟨e1, m, hn.sameBut hs (nd F.loc), hm⟩
  refine .inr ⟨e1, c, hc, hv.sameBut hs fun q => ?_⟩
  obtain ⟨_, vs0, ⟨i, hi⟩, _⟩ := F.eo.own k xs ho
  obtain ⟨o, ho', hdd⟩ := hv
  rw [q, hi] at ho'; cases ho'; cases hdd
 ·rcases mem_cons.mp m with e | m
  ·cases e; exact ⟨hkm, vs, hl, hd.kpH kk fun _ h => .inl h⟩
  obtain ⟨m1, m2⟩ := ko.mem _ m
  obtain ⟨hm, ws, ⟨i, hi⟩, hw⟩ := F.eo.own j zs m1
  refine ⟨hm, ws, ⟨i, (hs.2 _ fun q => m2 (F.inj j zs k xs m1 ho q)).trans hi⟩, hw.kpH kk fun _ h => .inl h⟩
 ·obtain ⟨v, o, ho', hdd⟩ := F.eo.cells x c e
  refine ⟨v, o, (hs.2 c fun q => ?_).trans ho', hdd⟩
  obtain ⟨_, vs0, ⟨i, hi⟩, _⟩ := F.eo.own k xs ho
  rw [q, hi] at ho'; cases ho'; cases hdd
 ·exact (F.wr x m).fk fk fun a m q => nd m (by simpa using q)
 ·rcases mem_cons.mp m with e | m
  ·cases e; exact hk
  exact F.own j zs (ko.mem _ m).1
 have g : ∀ {j zs}, (j, zs) ∈ (k, ys) :: orest → ∃ zs', (j, zs') ∈ σ.o := fun {j zs} m => by
  rcases mem_cons.mp m with e | m
  ·cases e; exact ⟨_, ho⟩
  exact ⟨_, (ko.mem _ m).1⟩
 obtain ⟨_, m1⟩ := g m1; obtain ⟨_, m2⟩ := g m2
 exact F.inj _ _ _ _ m1 m2 e
end
section
variable {Γ : Cx} {τ n : Nat} {env : Env} {σ : St} {sc : Scope} {ns : List String} {K : AF → St → Prop} {φ : Nat → Addr} {Mw Lo H : List Addr} {s : Shared}
theorem Ev.appAttr {x : String} {p pos : Pos} {k : Nat} {xs : List PV} (G : EnvG env) (hm : (x, RV.ptr k) ∈ σ.v) (ho : (k, xs) ∈ σ.o) (hd : (ofString x == ("__debug__" : Str)) = false := by decide)
  (he : eval (.Attribute (.Name (ofString x) p) (ofString "append") pos) env = (do
   let o ← eval (.Name (ofString x) p) env
   standAt pos.atName
   let r ← holding [o] (getAttr o (ofString "append") true)
   letTemporaryGo (.Name (ofString x) p) o r
   pure r) := by with_unfolding_all rfl) : Ev Γ n env σ (.Attribute (.Name (ofString x) p) (ofString "append") pos) (.app k) :=
 .mk fun A E s φ H R ok lv eo Q q => by
  refine PyProof.Rows.Attribute_Name_ ?_ he
  obtain ⟨V, a, d⟩ := eo.vars _ _ hm
  obtain ⟨hk, vs, ⟨i, hl⟩, _⟩ := eo.own _ _ ho
  refine wpAny_Name (q02 G.kind a ?_) hd
  haveI d' : V = .ref (φ k) := d
  subst d'
  exact qe7 hl fun t => q _ _ (Kp.push _ _) (ok.push _) ⟨s.heap.objs.size, rfl, lv.size, get?_push_size _ rfl⟩
theorem Ex.append {x : String} {p apos pos pos' : Pos} {e : Expr} {k : Nat} {xs : List PV} {v : PV} {orest : List (Nat × List PV)} (G : EnvG env) (hm : (x, RV.ptr k) ∈ σ.v) (ho : (k, xs) ∈ σ.o) (ko : KeepO k σ.o orest) (h : Ev Γ n env σ e (.pv v)) (hz : xs.length ≤ 2 ^ 24)
  (c : K .nx ⟨σ.v, (k, xs ++ [v]) :: orest⟩)
  (hline : (apos.endLine == pos.line) = true) (hstar : ∀ env, starEach [e] env = [(false, eval e env)] := by intro _; rfl)
  (hs : swapsWith (.Call (.Attribute (.Name (ofString x) p) (ofString "append") apos) [e] [] pos) none pos'.line env = pure false := by rfl) (hd : (ofString x == ("__debug__" : Str)) = false := by decide) :
  Ex Γ τ n env ns σ (exec (.Expr (.Call (.Attribute (.Name (ofString x) p) (ofString "append") apos) [e] [] pos) pos') env) K := .mk' fun A E s φ Mw Lo H R F τ0 Q q => by
 have hi : interactive env = false := by unfold interactive; rw [G.kind]; rfl
 refine wpAny_Expr_any ?_ hi hs
 obtain ⟨V, a, d⟩ := F.eo.vars _ _ hm
 have d' : V = .ref (φ k) := d
 subst d'
 obtain ⟨hk, vs, ⟨i, hl⟩, hd0⟩ := F.eo.own _ _ ho
 refine wpAny_Call_append rfl (by rw [hstar]; rfl) hline (by rw [hstar]; rfl) (wpAny_Name (q02 G.kind a ⟨φ k, vs, rfl, ⟨_, _, hl, rfl, rfl, rfl⟩, ?_⟩) hd)
 refine F.ev R h fun V s1 k1 F1 dv => ?_
 obtain ⟨_, vs1, hl1, hd1⟩ := F1.eo.own _ _ ho
 have hlen := hd1.length
 simp only [length_toList] at hlen
 refine qe2 hl1 (by lia) fun h' hs' hl' => ?_
 obtain ⟨F2, G2⟩ := F1.R9 (t := s1.toks) ho ko hs' hl' (ys := xs ++ [v]) (by rw [toList_push]; exact hd1.append (.cons dv .nil))
 exact q .next { s1 with heap := h' } .nx _ φ Lo c F2 ((Gr.of k1).trans G2) trivial
theorem Ex.add {x : String} {p pos pos' : Pos} {e : Expr} {k : Nat} {xs : List PV} {v : PV} {orest : List (Nat × List PV)} (G : EnvG env) (hm : (x, RV.app k) ∈ σ.v) (ho : (k, xs) ∈ σ.o) (ko : KeepO k σ.o orest) (h : Ev Γ n env σ e (.pv v)) (hz : xs.length ≤ 2 ^ 24)
  (c : K .nx ⟨σ.v, (k, xs ++ [v]) :: orest⟩) (hstar : ∀ env, starEach [e] env = [(false, eval e env)] := by intro _; rfl)
  (hs : swapsWith (.Call (.Name (ofString x) p) [e] [] pos) none pos'.line env = pure false := by rfl) (hd : (ofString x == ("__debug__" : Str)) = false := by decide) :
  Ex Γ τ n env ns σ (exec (.Expr (.Call (.Name (ofString x) p) [e] [] pos) pos') env) K := .mk' fun A E s φ Mw Lo H R F τ0 Q q => by
 have hi : interactive env = false := by unfold interactive; rw [G.kind]; rfl
 refine wpAny_Expr_any ?_ hi hs
 obtain ⟨V, a, b, rfl, hb, hg⟩ := F.eo.vars _ _ hm
 refine wpAny_Call_Name_kw (wpAny_Name (q02 G.kind a ?_) hd)
 refine qm1 (φa := φ k) ?_ (hstar env) rfl
 refine F.ev R h fun V s1 k1 F1 dv => ⟨k1 _ _ hg rfl, ?_⟩
 obtain ⟨_, vs1, hl1, hd1⟩ := F1.eo.own _ _ ho
 have hlen := hd1.length
 simp only [length_toList] at hlen
 refine z63 (k1 _ _ hg rfl) hl1 (by lia) fun h' hs' hl' => ?_
 obtain ⟨F2, G2⟩ := F1.R9 (t := s1.toks) ho ko hs' hl' (ys := xs ++ [v]) (by rw [toList_push]; exact hd1.append (.cons dv .nil))
 exact q .next { s1 with heap := h' } .nx _ φ Lo c F2 ((Gr.of k1).trans G2) trivial
theorem Ex.extend {x : String} {p apos pos pos' : Pos} {e : Expr} {k : Nat} {xs ys : List PV} {orest : List (Nat × List PV)} (G : EnvG env) (hm : (x, RV.ptr k) ∈ σ.v) (ho : (k, xs) ∈ σ.o) (ko : KeepO k σ.o orest) (h : Ev Γ n env σ e (.pv (.list ys))) (hz : xs.length + ys.length ≤ 2 ^ 24)
  (c : K .nx ⟨σ.v, (k, xs ++ ys) :: orest⟩)
  (hline : (apos.endLine == pos.line) = true) (hstar : ∀ env, starEach [e] env = [(false, eval e env)] := by intro _; rfl)
  (hs : swapsWith (.Call (.Attribute (.Name (ofString x) p) (ofString "extend") apos) [e] [] pos) none pos'.line env = pure false := by rfl) (hd : (ofString x == ("__debug__" : Str)) = false := by decide) :
  Ex Γ τ n env ns σ (exec (.Expr (.Call (.Attribute (.Name (ofString x) p) (ofString "extend") apos) [e] [] pos) pos') env) K := .mk' fun A E s φ Mw Lo H R F τ0 Q q => by
 have hi : interactive env = false := by unfold interactive; rw [G.kind]; rfl
 refine wpAny_Expr_any ?_ hi hs
 obtain ⟨V, a, d⟩ := F.eo.vars _ _ hm
 have d' : V = .ref (φ k) := d
 subst d'
 obtain ⟨hk, vs, ⟨i, hl⟩, hd0⟩ := F.eo.own _ _ ho
 refine wpAny_Call_method_lateS rfl (by rw [hstar]; rfl) hline (wpAny_Name (q02 G.kind a ⟨"list", "list.extend", PySem.F.plainAttrs_list, PySem.F.slot_list_extend, PySem.F.type_list_extend, ⟨_, hl, rfl⟩, fun a e => by cases e; exact ⟨_, hl, rfl⟩, ?_⟩) hd)
 rw [hstar]
 refine Calls.callWith_builtin rfl (Calls.evalArgs_plain (Calls.spliced_cons (F.ev R h fun V s1 k1 F1 dv => Calls.spliced_nil ?_)))
 obtain ⟨_, vs1, ⟨j, hl1⟩, hd1⟩ := F1.eo.own _ _ ho
 have hlen := hd1.length
 simp only [length_toList] at hlen
 cases dv using Den.l with
 | @list b ws hb hlb hdb =>
  obtain ⟨j2, hlb⟩ := hlb
  have hlen2 := hdb.length
  simp only [length_toList] at hlen2
  refine call_meets PySem.F.slot_list_extend ⟨_, hl1, rfl⟩ PySem.F.entry_list_extend (PySem.F.args_list_extend_2 _ _) (AutoSeq1.list_extend_list_list_0 _ vs1 j b ws j2 (by intro hh; simp [Builtin.List.listTooLong, sizeLine] at hh; lia) (by simp only [sizeLine]; lia) (by simp only [sizeLine]; lia)) ⟨hl1, hlb, ?_⟩
  obtain ⟨F2, G2⟩ := F1.R9 (t := s1.toks) ho ko (SameBut.update _ _ _) ⟨_, PySem.IsL.update hl1 (fun x => x ++ ws)⟩ (ys := xs ++ ys) (by rw [Array.toList_append]; exact hd1.append hdb)
  exact q .next _ .nx _ φ Lo c F2 ((Gr.of k1).trans G2) trivial
inductive Frz (k : Nat) (xs : List PV) : List (String × RV) → List (String × RV) → Prop
 | nil {l} : Frz k xs l []
 | sub {x : String} {l l' : List (String × RV)} : Frz k xs l l' → Frz k xs ((x, .ptr k) :: l) ((x, .pv (.list xs)) :: l')
 | take {x : String} {r : RV} {l l' : List (String × RV)} : (r.key != some k) = true → Frz k xs l l' → Frz k xs ((x, r) :: l) ((x, r) :: l')
 | drop {p : String × RV} {l l' : List (String × RV)} : Frz k xs l l' → Frz k xs (p :: l) l'
theorem Frz.mem {k : Nat} {xs : List PV} {l l' : List (String × RV)} (q : Frz k xs l l') : ∀ x r, (x, r) ∈ l' → ((x, r) ∈ l ∧ r.key ≠ some k) ∨ (r = .pv (.list xs) ∧ (x, RV.ptr k) ∈ l) := by
 induction q with
 | nil => exact fun _ _ m => nomatch m
 | sub _ ih =>
  intro x r m
  rcases mem_cons.mp m with e | m
  ·cases e; exact .inr ⟨rfl, .head _⟩
  exact (ih x r m).imp (And.imp_left (.tail _)) (And.imp_right (.tail _))
 | take h _ ih =>
  intro x r m
  rcases mem_cons.mp m with e | m
  ·cases e; exact .inl ⟨.head _, by simpa using h⟩
  exact (ih x r m).imp (And.imp_left (.tail _)) (And.imp_right (.tail _))
 | drop _ ih => exact fun x r m => (ih x r m).imp (And.imp_left (.tail _)) (And.imp_right (.tail _))
theorem Fr.freeze (F : Fr Γ env ns φ Mw Lo H σ s) {k : Nat} {xs : List PV} {v' : List (String × RV)} {orest : List (Nat × List PV)} (ho : (k, xs) ∈ σ.o) (kf : Frz k xs σ.v v') (ko : KeepO k σ.o orest) :
  Fr Γ env ns φ Mw (Lo.filter fun a => a != φ k) H ⟨v', orest⟩ s ∧ Gr Mw Lo (Lo.filter fun a => a != φ k) s.heap s.heap := by
 have sl : ∀ a ∈ Lo.filter (fun a => a != φ k), a ∈ Lo ∧ a ≠ φ k := fun a m => by
  obtain ⟨m1, m2⟩ := mem_filter.mp m; exact ⟨m1, by simpa using m2⟩
 have sub : ∀ a, a ∈ Mw ++ Lo.filter (fun a => a != φ k) ++ H → a ∈ Mw ++ Lo ++ H := fun a m => by
  rcases mem_append.mp m with m | m
  ·rcases mem_append.mp m with m | m
   ·exact mem_append_left _ (mem_append_left _ m)
   exact mem_append_left _ (mem_append_right _ (sl a m).1)
  exact mem_append_right _ m
 have hk := F.own k xs ho
 have nk : φ k ∉ Mw ++ Lo.filter (fun a => a != φ k) ++ H := fun m => by
  rcases mem_append.mp m with m | m
  ·rcases mem_append.mp m with m | m
   ·exact (F.dis _ hk).1 m
   exact (sl _ m).2 rfl
  exact (F.dis _ hk).2 m
 refine ⟨⟨F.ok, fun a m => F.live a (sub a m), ⟨fun x r m => ?_, fun j ys m => ?_, F.eo.cells⟩, F.wr, fun a m => ?_, fun j ys m => ?_, fun j ys i zs m1 m2 e => F.inj j ys i zs (ko.mem _ m1).1 (ko.mem _ m2).1 e, fun a m => F.dis a (sl a m).1, F.oc, F.loc, F.kind⟩, ⟨fun a m => .inl (sl a m).1, KpH.refl _ _, LvK.refl _⟩⟩
 ·rcases kf.mem x r m with ⟨m2, _⟩ | ⟨rfl, m2⟩
  ·obtain ⟨V, a, d⟩ := F.eo.vars x r m2
   exact ⟨V, a, d.kpH (KpH.refl _ _) fun b h => .inl (sub b h)⟩
  obtain ⟨V, a, d⟩ := F.eo.vars x _ m2
  haveI d' : V = .ref (φ k) := d
  subst d'
  obtain ⟨_, vs, hl, hd⟩ := F.eo.own k xs ho
  exact ⟨_, a, .list nk hl (hd.kpH (KpH.refl _ _) fun b h => .inl (sub b h))⟩
 ·obtain ⟨m1, m2⟩ := ko.mem _ m
  obtain ⟨hm, vs, hl, hd⟩ := F.eo.own j ys m1
  refine ⟨mem_append_left _ (mem_append_right _ (mem_filter.mpr ⟨F.own j ys m1, ?_⟩)), vs, hl, hd.kpH (KpH.refl _ _) fun b h => .inl (sub b h)⟩
  haveI : φ j ≠ φ k := fun e => m2 (F.inj j ys k xs m1 ho e)
  simpa using this
 ·rcases mem_append.mp m with m | m
  ·exact F.off a (mem_append_left _ m)
  exact F.off a (mem_append_right _ (sl a m).1)
 obtain ⟨m1, m2⟩ := ko.mem _ m
 haveI : φ j ≠ φ k := fun e => m2 (F.inj j ys k xs m1 ho e)
 exact mem_filter.mpr ⟨F.own j ys m1, by simpa using this⟩
theorem Ex.freeze {t : Sem Flow} {k : Nat} {xs : List PV} {v' : List (String × RV)} {orest : List (Nat × List PV)} (ho : (k, xs) ∈ σ.o) (kf : Frz k xs σ.v v') (ko : KeepO k σ.o orest) (h : Ex Γ τ n env ns ⟨v', orest⟩ t K) : Ex Γ τ n env ns σ t K := .mk' fun A E s φ Mw Lo H R F τ0 Q q => by
 obtain ⟨F1, G1⟩ := F.freeze ho kf ko
 exact h.run A E s φ Mw _ H R F1 τ0 Q fun fl s' af σ' φ' Lo' c F' g' fr _ => q fl s' af σ' φ' Lo' c F' (G1.trans g') fr
theorem Fr.moved (F : Fr Γ env ns φ Mw Lo H σ s) {xs : List String} {new rest : List (String × RV)} {s' : Shared} (kr : Keep xs σ.v rest) (f : KpH Mw s.heap s'.heap) (lk : LvK s.heap s'.heap) (sm : Sm env xs s.heap s'.heap) (wk : q88 env Mw s.heap s'.heap) (ok : Γ.Ok s')
  (hn : ∀ x r, (x, r) ∈ new → ∃ V, At env s'.heap x V ∧ DenR φ (Mw ++ Lo ++ H) s'.heap V r) : Fr Γ env ns φ Mw Lo H ⟨new ++ rest, σ.o⟩ s' := by
 have wr' : ∀ x ∈ ns, Wr env Mw s'.heap x := fun x m => wk x (F.wr x m)
 have kk : KpH (Mw ++ Lo ++ H) s.heap s'.heap := fun b o m e t => f b o (fun q => m (mem_append_left _ (mem_append_left _ q))) e t
 refine ⟨ok, lk.live F.live, ⟨fun x r m => ?_, fun j ys m => ?_, fun y c e => ?_⟩, wr', F.off, F.own, F.inj, F.dis, F.oc, F.loc, F.kind⟩
 ·rcases mem_append.mp m with m | m
  ·exact hn x r m
  obtain ⟨m1, m2⟩ := kr.mem _ m
  obtain ⟨V, a, d⟩ := F.eo.vars x r m1
  exact ⟨V, sm x V m2 a, d.kpH kk fun _ h => .inl h⟩
 ·obtain ⟨hm, vs, ⟨i, hl⟩, hd⟩ := F.eo.own j ys m
  exact ⟨hm, vs, ⟨i, f _ _ (F.dis _ (F.own j ys m)).1 hl rfl⟩, hd.kpH kk fun _ h => .inl h⟩
 by_cases m : c ∈ Mw
 ·exact F.oc.live wr' y c e m
 obtain ⟨v, o, ho, hd⟩ := F.eo.cells y c e; exact ⟨v, o, (f _ _ m ho (q10 hd)).eq (q21 hd), hd⟩
theorem Ex.unpack {tgt : Expr} {xs : List String} {pos : Pos} {e : Expr} {its : List PV} {rest : List (String × RV)} (h : Ev Γ n env σ e (.pv (.tup its))) (T : Tgt tgt xs) (hn : xs.Nodup) (hx : ∀ x ∈ xs, x ∈ ns) (hl : its.length = xs.length) (kr : Keep xs σ.v rest)
  (k : K .nx ⟨(xs.zip its).map (fun p => (p.1, RV.pv p.2)) ++ rest, σ.o⟩) (hT : ∃ es j p, tgt = .Tuple es j p) (he : ∀ env, exec (.Assign [tgt] e pos) env = (do
   standAt pos
   let v ← eval e env
   PySem.assign tgt env v
   pure .next)) : Ex Γ τ n env ns σ (exec (.Assign [tgt] e pos) env) K := .mk' fun A E s φ Mw Lo H R F τ0 Q q => by
 rw [he]
 refine wpAny_bind (wpAny_standAt (wpAny_bind (F.ev R h fun V s1 k1 F1 d => wpAny_bind ?_)))
 have u : Unp (Mw ++ Lo ++ H) s1.heap V tgt its := by
  obtain ⟨es, j, p, rfl⟩ := hT
  cases d using Den.t with | @tup a vs ha ht hd => exact ⟨a, vs, rfl, .inl ht.T6, hd⟩
 refine qe1 (M := Mw) F.kind R.handled T hn (fun y hy => F1.wr y (hx y hy)) hl u (fun m => F1.live.size (mem_append_left _ (mem_append_left _ m))) fun h3 t3 Vs f3 lk3 a3 d3 sm3 wk3 => wpAny_pure ?_
 haveI k13 : KpH (Mw ++ Lo ++ H) s1.heap h3 := fun b o m e t => .of (f3 b o (fun q => m (mem_append_left _ (mem_append_left _ q))) e)
 exact q .next _ .nx _ φ Lo k (F1.stored (xs := xs) (t := t3) kr f3 lk3 sm3 wk3 fun y r m => qr9 a3 (d3.kpH k13 fun _ h => .inl h) y r m) ((Gr.of k1).trans (Gr.fk f3 lk3)) trivial
theorem Ex.Y7 {x : String} {xp spos : Pos} {scope : Scope} {elt : Expr} {g : Comprehension} {gs : List Comprehension} {pos p : Pos} {xs xs' cns : List String} {α : Type} {its : List α} {cv : α → List PV} {ys : α → List PV} {tb : α → Bool} {t : Env → Addr → Sem Unit} {l : List (String × PV)} {rest : List (String × RV)}
  (hx : x ∈ ns) (kr : Keep [x] σ.v rest) (c : K .nx ⟨(x, .pv (.list (outs its tb ys))) :: rest, σ.o⟩) (hsw : swapsWith (.ListComp elt (g :: gs) scope pos) (some (.Name (ofString x) xp)) spos.line env = pure true)
  (G : EnvS env sc) (C : CompOK scope sc cns) (hdot : ".0" ∈ cns) (hI : EvI Γ n env σ g.iter g.target (its.map cv)) (T : Tgt g.target xs) (hn : xs.Nodup) (hl0 : ∀ p ∈ l, (p.1, RV.pv p.2) ∈ σ.v ∧ scope.names.lookup (ofString p.1) = some .free) (hxn : ∀ x ∈ xs, x ∈ cns) (hxn' : ∀ x ∈ xs', x ∈ cns)
  (hi : ∀ x ∈ its, (cv x).length = xs.length) (hz : (outs its tb ys).length ≤ 2 ^ 24) (hg : g.is_async = 0) (hs : ∀ x, foldedSetIterable g.iter env x = pure x)
  (hturn : ∀ cenv D I, compTurn (.ListComp elt (g :: gs) scope pos) 0 (.ref I) (.ref D) cenv = q57 p g.target g.ifs (t cenv D) (.ref I) cenv (.compLoop (.ListComp elt (g :: gs) scope pos) 0 (.ref I) (.ref D) cenv))
  (hin : ∀ cenv D M, EnvS cenv (relab scope sc) → Blk Γ cenv M D → OwnC cenv M cns → ∀ x ∈ its, EvP Γ n cenv (pvSt (xs.zip (cv x) ++ l)) (q39 g.ifs cenv) (PB (tb x)) ∧ (tb x = true → EmitOK Γ n cenv M D (pvSt (xs.zip (cv x) ++ l)) (t cenv D) xs' cns (ys x))) :
  Ex Γ τ n env ns σ (exec (.Assign [.Name (ofString x) xp] (.ListComp elt (g :: gs) scope pos) spos) env) K := .mk' fun A E s φ Mw Lo H R F τ0 Q q => by
 rw [exec_Assign_Name_used _ _ _ _ hsw]
 refine wpAny_bind (wpAny_standAt (wpAny_bind ?_))
 obtain ⟨tgt, iter, ifs, asy⟩ := g
 cases hg
 show wpAny _ A (do let _ ← comprehension (.ListComp elt (⟨tgt, iter, ifs, 0⟩ :: gs) scope pos) scope env _ (newList []) false (eval iter env) (some (PySem.assign (.Name (ofString x) xp) env))) _ _ s
 refine wpAny_bind (wpAny_comprehension_free (use := some (PySem.assign (.Name (ofString x) xp) env)) rfl hs (G.closes C) C.kind C.locals (ql9 (g := ⟨tgt, iter, ifs, 0⟩) (H := Mw ++ Lo ++ H) (post := fun acc L => compPost (model Γ.prog Γ.w) A E (some (PySem.assign (.Name (ofString x) xp) env)) _ acc L) G C hdot hI T hn hl0 hxn hxn' hi hz rfl hturn hin R F.ok F.live F.eo
  fun D L s' vs k1 ok1 nD nL hDL hBL htL hm hl hd => ?_))
 obtain ⟨m, hm⟩ := hm
 have F1 := F.kp k1 ok1
 haveI d1 : Den (Mw ++ Lo ++ H) s'.heap (.ref D) (.list (outs its tb ys)) := .list nD.1 hl (hd.kpH (KpH.refl _ _) fun a ha => .inl (.tail _ ha))
 show wpAny _ A (PySem.assign (.Name (ofString x) xp) env (.ref D)) _ _ s'
 refine wpAny_assign_Name (qa8 F.kind (F1.wr x hx) fun h' t f lk a sm wk => ?_)
 have hM : ∀ a ∈ Mw, a ∈ Mw ++ Lo ++ H := fun a m => mem_append_left _ (mem_append_left _ m)
 have Lw : L ∉ Mw := fun m => nL.1 (hM _ m)
 refine ⟨m, ns_fk hm f Lw, fun h'' hs'' => wpAny_pure (wpAny_pure ?_)⟩
 have ks : KpH Mw s.heap h'' := fun b o m e t => (k1 b o e t).trans fun o' e' _ => .of ((hs''.2 b fun q => by subst q; rw [nL.2 o e] at t; nomatch t).trans (f b o' m e'))
 have f3 : FK [L] h' h'' := FK.same hs'' (.head _)
 have lks : LvK s.heap h'' := by
  refine ⟨fun b hb => ?_, fun b hb => ?_⟩
  ·obtain ⟨o, e, t⟩ := lk.lv b ((LvK.of k1).lv b hb)
   exact ⟨o, (hs''.2 b fun q => by subst q; obtain ⟨o', e', t'⟩ := hb; rw [nL.2 o' e'] at t'; cases t').trans e, t⟩
  obtain ⟨o, e, t⟩ := lk.fr b ((LvK.of k1).fr b hb)
  exact ⟨o, (hs''.2 b fun q => by subst q; obtain ⟨o', e', t'⟩ := hb; haveI t2 := q14 t'; rw [nL.2 o' e'] at t2; nomatch t2).trans e, t⟩
 have cl : ∀ y c, env.cells.lookup y = some c → c ∉ [L] := fun y c e q => by
  simp only [mem_singleton] at q; subst q
  obtain ⟨v, o, ho, hdd⟩ := F.eo.cells y _ e
  have := nL.2 o ho; rw [q10 hdd] at this; cases this
 have ll : env.locals ∉ [L] := fun q => by simp only [mem_singleton] at q; exact Lw (q ▸ F.loc)
 haveI aw : ∀ a ∈ Mw, a ∉ [L] := fun a m q => by simp only [mem_singleton] at q; exact Lw (q ▸ m)
 haveI F3 : Fr Γ env ns φ Mw Lo H ⟨[(x, RV.pv (.list (outs its tb ys)))] ++ rest, σ.o⟩ { s' with heap := h'', toks := t } := by
  refine F.moved (xs := [x]) (s' := { s' with heap := h'', toks := t }) kr ks lks (fun y V hy a => (sm y V hy (a.kp k1)).fk f3 ll cl) (fun y w => (wk y (w.kp k1)).fk f3 aw) ?_ fun y r m => ?_
  ·exact (F1.ok.fk (t := t) f (fun a m => F.off a (mem_append_left _ m)) (fun a o e t m => F1.tabs a o e t (mem_append_left _ m)) fun a _ => lk.fr a).fk (s := { s' with heap := h', toks := t }) f3 (fun a m => by simp only [mem_singleton] at m; subst m; exact hBL) (fun a o e t m => by simp only [mem_singleton] at m; subst m; obtain ⟨o', e', t'⟩ := nt_ns (ns_fk hm f Lw); rw [show h'.get? a = some o from e] at e'; cases e'; rw [t] at t'; cases t') fun a ha _ => lks.fr a (F.ok.frs a ha)
  simp only [mem_singleton] at m
  cases m
  refine ⟨_, a.fk f3 ll cl, ?_⟩
  haveI hd2 : Dens (L :: (Mw ++ Lo ++ H)) h' vs.toList (outs its tb ys) := hd.kpH (fun b o m e t => .of (f b o (fun q => m (.tail _ (hM _ q))) e)) fun _ h => .inl h
  obtain ⟨j, hj⟩ := hl
  exact Den.list nD.1 ⟨j, (hs''.2 _ hDL).trans (f _ _ (fun q => nD.1 (hM _ q)) hj)⟩ (hd2.kpH (fun b o m e t => .of ((hs''.2 b fun q => m (q ▸ .head _)).trans e)) fun a ha => .inl (.tail _ ha))
 refine q .next _ .nx _ φ Lo c F3 ⟨fun _ m => .inl m, fun b o m e t => ks b o (fun q => m (mem_append_left _ q)) e t, lks⟩ trivial
end
structure FunOK (sc : Scope) (ps ns : List String) : Prop where
 kind : sc.kind = .function
 cells : ∀ p ∈ sc.names, p.2 = .cell → sc.names.lookup p.1 = some .cell
 nofree : ∀ p ∈ sc.names, p.2 ≠ .free
 own : ∀ p ∈ sc.names, p.2 = .cell → ∃ y ∈ ns, p.1 = ofString y
 targets : ∀ y ∈ ns, sc.names.lookup (ofString y) = some .local ∨ sc.names.lookup (ofString y) = some .cell
 params : ∀ x ∈ ps, x ∈ ns
 nodup : ps.Nodup
theorem qm2 (k : Str → Option NameKind) {n : Str} : ∀ (b : List (Str × Value)) (m : Str → Option Value), (∀ p ∈ b, p.1 ≠ n) → bindL k b m n = m n
 | [], m, _ => rfl
 | (x, v) :: r, m, h => by
  unfold bindL
  rw [qm2 k r _ fun p hp => h p (.tail _ hp)]
  have : n ≠ x := fun e => h _ (.head _) e.symm
  split <;> simp [this]
theorem qm3 (k : Str → Option NameKind) {n : Str} : ∀ (b : List (Str × Value)) (m : Str → Option Value), (∀ p ∈ b, p.1 ≠ n) → bindC k b m n = m n
 | [], m, _ => rfl
 | (x, v) :: r, m, h => by
  unfold bindC
  rw [qm3 k r _ fun p hp => h p (.tail _ hp)]
  have : n ≠ x := fun e => h _ (.head _) e.symm
  split <;> simp [this]
theorem z26 (k : Str → Option NameKind) : ∀ (ps : List String) (Vs : List Value) (xs : List PV) (H : List Addr) (h : Heap) (m cm : Str → Option Value), ps.Nodup → Dens H h Vs xs → ∀ x v, (x, v) ∈ ps.zip xs → ∃ V, Den H h V v ∧ (k (ofString x) = some .local → bindL k ((ps.map ofString).zip Vs) m (ofString x) = some V) ∧ (k (ofString x) ≠ some .local → bindC k ((ps.map ofString).zip Vs) cm (ofString x) = some V) := by
 intro ps
 induction ps with
 | nil => exact fun _ _ _ _ _ _ _ _ _ _ mm => nomatch mm
 | cons p ps ih =>
  intro Vs xs H h m cm nd dd x v mm
  cases xs with
  | nil => nomatch mm
  | cons y ys =>
   cases dd using Dens.cn with | @cons V Vs d ds =>
   have nd' := List.nodup_cons.mp nd
   simp only [zip_cons_cons, mem_cons, map_cons] at mm ⊢
   rcases mm with e | mm
   ·cases e
    have out : ∀ q ∈ (ps.map ofString).zip Vs, q.1 ≠ ofString p := fun q hq e => by
     have := (of_mem_zip (show (q.1, q.2) ∈ _ from hq)).1
     obtain ⟨y, hy, e2⟩ := mem_map.mp this
     exact nd'.1 (q49 (e2.trans e) ▸ hy)
    refine ⟨V, d, fun e => ?_, fun e => ?_⟩
    ·unfold bindL; rw [qm2 k _ _ out]; simp [e]
    unfold bindC; rw [qm3 k _ _ out]; simp [e]
   obtain ⟨W, dW, h1, h2⟩ := ih _ _ H h (if k (ofString p) = some .local then fun y => if y = ofString p then some V else m y else m) (if k (ofString p) = some .local then cm else fun y => if y = ofString p then some V else cm y) nd'.2 ds x v mm
   exact ⟨W, dW, h1, h2⟩
noncomputable def CodeQ (env : Env) (fd : FuncData) : Prop := env.code = fd.code ∧ env.qual = fd.qualname ++ ".<locals>."
theorem FSpec.intro0 {Γ : Cx} {n : Nat} {f : Addr} {o : Obj} {fd : FuncData} {body : List Stmt} {ps ns : List String} {xs : List PV} {r : PV} {c : Addr} {oc : Obj} {cvs : Array Value} {t : Tok} (C : FunOK fd.scope ps ns)
  (ho : Γ.hB.get? f = some o) (hd : o.data = .func fd) (hbody : fd.body = .stmts body) (hclo : fd.closure = []) (hg : fd.globals = mainGlobals) (hbi : fd.builtins = builtinsNs)
  (hc : fd.code = .ref c) (hcg : Γ.hB.get? c = some oc) (hct : isTb oc = false) (hcd : oc.data = .fields cvs) (hc1 : cvs[1]? = some (.str fd.qualname t))
  (hbind : ∀ Vs : List Value, Vs.length = ps.length → bindArgs fd ⟨Vs, []⟩ = pure ((ps.map ofString).zip Vs)) (hlen : xs.length = ps.length)
  (hco : fd.scope.isCoroutine = false) (hgen : fd.scope.isGenerator = false)
  (h : ∀ kf env, EnvS env fd.scope → CodeQ env fd → Ex (Γ.on kf) 0 n env ns (pvSt (ps.zip xs)) (execs body env) fun af _ => af = .rt r) : FSpec Γ (n + 1) f xs r := fun kf A s H Vs Rm ok lv ds R k => by
 haveI dl := ds.length
 have tabs : ∀ {b o}, Γ.hB.get? b = some o → isTb o = false → isFr o = false → s.heap.get? b = some o := fun e t t' => ok.base _ _ e t
 refine codeAny_call_cells (o := o) Rm.dq (tabs ho (q52 (q40 hd)) (qk6 hd)) hd (q16 Γ.nolimit ok.kb) ⟨c, oc, cvs, t, hc, tabs hcg hct (q07 hcd), hcd, hc1⟩ hbody (hbind Vs (by lia)) hclo (fun x hx => ?_) (fun s1 I => ?_) hco hgen C.kind
 ·haveI hx1 := (of_mem_zip (show (x.1, x.2) ∈ _ from hx)).1
  obtain ⟨y, hy, e⟩ := mem_map.mp hx1
  rcases C.targets y (C.params y hy) with q | q
  ·rw [e] at q; exact .inl q
  rw [e] at q
  obtain ⟨c', hc'⟩ := q25 (n := s.heap.objs.size + 1) (mem_of_lookup q)
  obtain ⟨c2, h2, _⟩ := q06 hc'
  exact .inr ⟨q, by rw [h2]; rfl⟩
 obtain ⟨⟨⟨h1, tk, rfl⟩, hns, keep, hfresh⟩, hcell, hap, habove⟩ := I
 generalize he : callEnvC fd s.heap.objs.size f = env at *
 have esc : env.scope = fd.scope := he ▸ rfl
 have ecl : env.cells = cellsFrom (s.heap.objs.size + 1) fd.scope.names [] := he ▸ rfl
 have elo : env.locals = s.heap.objs.size := by rw [← he]; rfl
 have ek : ∀ x, env.kindOf x = fd.scope.names.lookup x := fun x => by unfold Env.kindOf; rw [esc]
 have hcl : ∀ x, fd.scope.names.lookup x = some .cell → ∃ c, env.cells.lookup x = some c := fun x q => by
  obtain ⟨c', hc'⟩ := q25 (n := s.heap.objs.size + 1) (mem_of_lookup q)
  obtain ⟨c2, h2, _⟩ := q06 hc'
  exact ⟨c2, by rw [ecl]; exact h2⟩
 have G : EnvS env fd.scope := ⟨esc, C.kind, by rw [← he]; exact hg, by rw [← he]; exact hbi, fun x q => by
  rcases q with q | q
  ·exact hcl x q
  exact absurd rfl (C.nofree _ (mem_of_lookup q))⟩
 haveI up : ∀ b o, s.heap.get? b = some o → h1.get? b = some o := keep
 let Mw := env.locals :: env.cells.map (fun p => (env.cells.lookup p.1).getD 0)
 have cm : ∀ a, a ∈ env.cells.map (fun p => (env.cells.lookup p.1).getD 0) → ∃ x, env.cells.lookup x = some a := fun a q => by
  obtain ⟨⟨x, c'⟩, hx, e⟩ := mem_map.mp q
  obtain ⟨c2, h2, _⟩ := q06 hx
  rw [show (env.cells.lookup (x, c').1) = env.cells.lookup x from rfl, h2] at e
  exact ⟨x, by rw [h2, ← e]; rfl⟩
 have mc : ∀ x c', env.cells.lookup x = some c' → c' ∈ Mw := fun x c' e => .tail _ (mem_map.mpr ⟨_, mem_of_lookup e, by rw [show (env.cells.lookup (x, c').1) = env.cells.lookup x from rfl, e]; rfl⟩)
 have newM : ∀ a ∈ Mw, s.heap.get? a = none := fun a ha => get?_none_of_le (by
  rcases mem_cons.mp ha with q | q
  ·rw [q]; exact hfresh
  obtain ⟨x, hx⟩ := cm a q
  exact Nat.le_trans hfresh (Nat.le_of_lt (habove x a (mem_of_lookup hx))))
 have cellK : ∀ x c', (x, c') ∈ env.cells → fd.scope.names.lookup x = some .cell := fun x c' m => by
  rw [ecl] at m; exact C.cells _ (q85 m) rfl
 have wr : ∀ x ∈ ns, Wr env Mw h1 x := fun x hx => by
  rcases C.targets x hx with q | q
  ·exact .inl ⟨(ek _).trans q, .head _, _, hns⟩
  obtain ⟨c', hc'⟩ := hcl _ q
  exact .inr ⟨(ek _).trans q, c', _, hc', mc _ _ hc', hcell _ _ hc', fun y ey => name_of_addr hap (mem_of_lookup ey) (mem_of_lookup hc')⟩
 haveI k01 : Kp s.heap h1 := .of up
 have ok1 : (Γ.on (env.locals :: kf)).Ok { s with heap := h1, toks := tk } := by
  have q := ok.keeps (t := tk) up
  refine ⟨q.base, q.tabs, q.gens, q.os, q.all, fun L hL => ?_, fun L hL => ?_, q.old⟩
  ·rcases mem_cons.mp hL with rfl | hL
   ·exact fr_ns hns
   exact q.frs L hL
  rcases mem_cons.mp hL with rfl | hL
  ·exact ok.new ((elo) ▸ q00 _)
  exact q.off L hL
 have subM : ∀ a, a ∈ Mw ++ [] ++ H → a ∈ H ∨ s.heap.get? a = none := fun a ha => by
  rw [append_nil] at ha
  rcases mem_append.mp ha with q | q
  ·exact .inr (newM a q)
  exact .inl q
 have F : Fr (Γ.on (env.locals :: kf)) env ns (fun _ => 0) Mw [] H (pvSt (ps.zip xs)) { s with heap := h1, toks := tk } := by
  refine ⟨ok1, fun a ha => ?_, .U9 (fun x v m => ?_) fun x c' e => ⟨_, hcell x c' e⟩, wr, fun a ha => ok.new (newM a (by simpa using ha)), (fun k ys m => by cases m), (fun k ys j zs m => by cases m), (fun a m => by cases m), fun x c' e m => ?_, .head _, by rw [esc]; exact C.kind⟩
  ·rw [append_nil] at ha
   rcases mem_append.mp ha with q | q
   ·rcases mem_cons.mp q with q | q
    ·rw [q]; exact nt_ns hns
    obtain ⟨x, hx⟩ := cm a q
    exact q65 (hcell _ _ hx)
   exact lv.kp k01 a q
  ·obtain ⟨V, dV, hL, hC⟩ := z26 env.kindOf ps Vs xs H s.heap (fun _ => none) (fun _ => none) C.nodup ds x v m
   refine ⟨V, ?_, dV.kpH (k01.toH _) subM⟩
   haveI hxp : x ∈ ps := (of_mem_zip m).1
   rcases C.targets x (C.params x hxp) with q | q
   ·exact .inl ⟨(ek _).trans q, _, hns, hL ((ek _).trans q)⟩
   obtain ⟨c', hc'⟩ := hcl _ q
   refine .inr ⟨.inl ((ek _).trans q), c', hc', ?_⟩
   have := hcell _ _ hc'
   rw [hC (by rw [ek, q]; decide)] at this
   exact this
  have q := cellK x c' (mem_of_lookup e)
  obtain ⟨y, hy, e2⟩ := C.own _ (mem_of_lookup q) rfl
  exact ⟨y, hy, e2, (ek _).trans q⟩
 haveI Rm' : Room (Γ.on (env.locals :: kf)) (A.deeper env) n := ⟨by
  obtain ⟨l, e1, e2, e3⟩ := Rm.frames
  refine ⟨env :: l, Around.frames_deeper e1, ?_, fun e m => ?_⟩
  ·rw [map_cons, map_cons, e2]
   haveI : env.frame = some env.locals := he ▸ rfl
   rw [this]
  rcases mem_cons.mp m with rfl | m
  ·rw [esc, C.kind]; decide
  exact e3 e m, Rm.handled, by have := Rm.depth; show A.depth + 1 + _ ≤ 900; lia, by have := Rm.units; show A.units + _ + _ + _ ≤ 9900; lia⟩
 refine (h (env.locals :: kf) env G ((he) ▸ ⟨rfl, rfl⟩)).run (A.deeper env) _ _ _ Mw [] H Rm' F (zero_le _) _ fun fl s2 af σ2 φ2 Lo2 c2 F2 g2 fr _ => ?_
 subst c2
 cases fl with
 | ret V =>
  haveI hv : Den (Mw ++ Lo2 ++ H) s2.heap V r := fr
  refine k V s2 (fun b o e t => g2.kp b o (fun q => ?_) (up _ _ e) t) ⟨F2.ok.base, F2.ok.tabs, F2.ok.gens, F2.ok.os, F2.ok.all, fun L hL => F2.ok.frs L (.tail _ hL), fun L hL => F2.ok.off L (.tail _ hL), F2.ok.old⟩ (hv.kpH (KpH.refl _ _) fun a m => .inl (mem_append_right _ m))
  rw [append_nil] at q
  rw [newM b q] at e; nomatch e
 | _ => exact fr.elim
theorem FSpec.intro {Γ : Cx} {n : Nat} {f : Addr} {o : Obj} {fd : FuncData} {body : List Stmt} {ps ns : List String} {xs : List PV} {r : PV} {c : Addr} {oc : Obj} {cvs : Array Value} {t : Tok} (C : FunOK fd.scope ps ns)
  (ho : Γ.hB.get? f = some o) (hd : o.data = .func fd) (hbody : fd.body = .stmts body) (hclo : fd.closure = []) (hg : fd.globals = mainGlobals) (hbi : fd.builtins = builtinsNs)
  (hc : fd.code = .ref c) (hcg : Γ.hB.get? c = some oc) (hct : isTb oc = false) (hcd : oc.data = .fields cvs) (hc1 : cvs[1]? = some (.str fd.qualname t))
  (hbind : ∀ Vs : List Value, Vs.length = ps.length → bindArgs fd ⟨Vs, []⟩ = pure ((ps.map ofString).zip Vs)) (hlen : xs.length = ps.length)
  (hco : fd.scope.isCoroutine = false) (hgen : fd.scope.isGenerator = false)
  (h : ∀ kf env, EnvS env fd.scope → Ex (Γ.on kf) 0 n env ns (pvSt (ps.zip xs)) (execs body env) fun af _ => af = .rt r) : FSpec Γ (n + 1) f xs r :=
 FSpec.intro0 C ho hd hbody hclo hg hbi hc hcg hct hcd hc1 hbind hlen hco hgen fun kf env G _ => h kf env G
theorem q76 {α : Type} (its : List α) (tb : α → Bool) (f : α → PV) : outs its tb (fun x => [f x]) = (its.filter tb).map f := by
 unfold outs
 induction its with
 | nil => rfl
 | cons x r ih => cases h : tb x <;> simp [h, ih]
theorem z43 {α : Type} (its : List α) (ys : α → List PV) : outs its (fun _ => true) ys = its.flatMap ys := by unfold outs; simp
theorem q60 {α : Type} {its : List α} {tb : α → Bool} {f : α → PV} (h : its.length ≤ 2 ^ 24) : ((its.filter tb).map f).length ≤ 2 ^ 24 := by
 rw [length_map]; exact Nat.le_trans (length_filter_le _ _) h
noncomputable abbrev eltT (elt : Expr) (cenv : Env) (D : Addr) : Sem Unit := do let _ ← call (.builtin "list.append") [.ref D, ← eval elt cenv]
theorem turn1 (elt tgt iter : Expr) (ifs : List Expr) (scope : Scope) (pos : Pos) (cenv : Env) (D I : Addr) :
  compTurn (.ListComp elt [⟨tgt, iter, ifs, 0⟩] scope pos) 0 (.ref I) (.ref D) cenv = q57 iter.pos tgt ifs (eltT elt cenv D) (.ref I) cenv (.compLoop (.ListComp elt [⟨tgt, iter, ifs, 0⟩] scope pos) 0 (.ref I) (.ref D) cenv) := by rfl
theorem z77 (elt tgt iter tgt' iter' : Expr) (ifs ifs' : List Expr) (scope : Scope) (pos : Pos) (cenv : Env) (it acc : Value) :
  compTurn (.ListComp elt [⟨tgt, iter, ifs, 0⟩, ⟨tgt', iter', ifs', 0⟩] scope pos) 0 it acc cenv = (do
   standAt iter.pos
   match ← pyNext it with
   | none => pure (.done .next)
   | some v =>
    letOwnedTupleGo tgt it v
    assign tgt cenv v
    let mut ok := true
    for c in ifs do
     if ok then ok ← isTrue c cenv (eval c cenv)
    if ok then
     let x ← eval iter' cenv
     standAt iter'.pos
     let x ← foldedSetIterable iter' cenv x
     let _ ← runOwn (.compStart (.ListComp elt [⟨tgt, iter, ifs, 0⟩, ⟨tgt', iter', ifs', 0⟩] scope pos) 1 (← holding [x] (pyIter x)) acc cenv) cenv
    again (.compLoop (.ListComp elt [⟨tgt, iter, ifs, 0⟩, ⟨tgt', iter', ifs', 0⟩] scope pos) 0 it acc cenv)) := by rfl
theorem zb8 (elt tgt iter tgt' iter' : Expr) (ifs ifs' : List Expr) (scope : Scope) (pos : Pos) (cenv : Env) (D I : Addr) :
  compTurn (.ListComp elt [⟨tgt, iter, ifs, 0⟩, ⟨tgt', iter', ifs', 0⟩] scope pos) 0 (.ref I) (.ref D) cenv = q57 iter.pos tgt ifs (nestT (.ListComp elt [⟨tgt, iter, ifs, 0⟩, ⟨tgt', iter', ifs', 0⟩] scope pos) ⟨tgt', iter', ifs', 0⟩ (.ref D) cenv) (.ref I) cenv (.compLoop (.ListComp elt [⟨tgt, iter, ifs, 0⟩, ⟨tgt', iter', ifs', 0⟩] scope pos) 0 (.ref I) (.ref D) cenv) := by
 rw [z77]
 unfold q57 nestT
 simp only [bind_assoc, pure_bind]
 try rfl
theorem zb7 (elt : Expr) (g0 : Comprehension) (tgt iter : Expr) (ifs : List Expr) (scope : Scope) (pos : Pos) (cenv : Env) (D I : Addr) :
  compTurn (.ListComp elt [g0, ⟨tgt, iter, ifs, 0⟩] scope pos) 1 (.ref I) (.ref D) cenv = q57 iter.pos tgt ifs (eltT elt cenv D) (.ref I) cenv (.compLoop (.ListComp elt [g0, ⟨tgt, iter, ifs, 0⟩] scope pos) 1 (.ref I) (.ref D) cenv) := by rfl
section
variable {Γ : Cx} {τ n : Nat} {env : Env} {σ : St} {sc scope : Scope} {ns : List String} {K : AF → St → Prop} {α β : Type}
theorem Ev.Y3 {elt tgt iter : Expr} {ifs : List Expr} {pos : Pos} {xs : List String} {its : List α} {cv : α → List PV} {tb : α → Bool} {f : α → PV} {l : List (String × PV)}
  (G : EnvS env sc) (C : CompOK scope sc (".0" :: xs)) (hI : EvI Γ n env σ iter tgt (its.map cv)) (T : Tgt tgt xs) (hn : xs.Nodup) (hl0 : ∀ p ∈ l, (p.1, RV.pv p.2) ∈ σ.v ∧ scope.names.lookup (ofString p.1) = some .free)
  (hi : ∀ x ∈ its, (cv x).length = xs.length) (hz : its.length ≤ 2 ^ 24) (hs : ∀ x, foldedSetIterable iter env x = pure x)
  (hin : ∀ cenv, EnvS cenv (relab scope sc) → ∀ x ∈ its, EvP Γ n cenv (pvSt (xs.zip (cv x) ++ l)) (q39 ifs cenv) (PB (tb x)) ∧ (tb x = true → Ev Γ n cenv (pvSt (xs.zip (cv x) ++ l)) elt (.pv (f x)))) :
  Ev Γ n env σ (.ListComp elt [⟨tgt, iter, ifs, 0⟩] scope pos) (.pv (.list ((its.filter tb).map f))) := by
 rw [← q76]
 exact Ev.comp0 (p := iter.pos) (xs' := []) (t := fun cenv D => eltT elt cenv D) (l := l) G C (.head _) hI T hn hl0 (fun x h => .tail _ h) (fun _ h => by cases h) hi (by rw [q76]; exact q60 hz) rfl hs
  (fun cenv D I => turn1 elt tgt iter ifs scope pos cenv D I) fun cenv D M Gc B oc x hx => ⟨(hin cenv Gc x hx).1, fun hb => .elt B ((hin cenv Gc x hx).2 hb)⟩
theorem Ex.Y3 {x : String} {xp spos : Pos} {elt tgt iter : Expr} {ifs : List Expr} {pos : Pos} {xs : List String} {its : List α} {cv : α → List PV} {tb : α → Bool} {f : α → PV} {l : List (String × PV)} {rest : List (String × RV)}
  (hx : x ∈ ns) (kr : Keep [x] σ.v rest) (c : K .nx ⟨(x, .pv (.list ((its.filter tb).map f))) :: rest, σ.o⟩) (hsw : swapsWith (.ListComp elt [⟨tgt, iter, ifs, 0⟩] scope pos) (some (.Name (ofString x) xp)) spos.line env = pure true)
  (G : EnvS env sc) (C : CompOK scope sc (".0" :: xs)) (hI : EvI Γ n env σ iter tgt (its.map cv)) (T : Tgt tgt xs) (hn : xs.Nodup) (hl0 : ∀ p ∈ l, (p.1, RV.pv p.2) ∈ σ.v ∧ scope.names.lookup (ofString p.1) = some .free)
  (hi : ∀ x ∈ its, (cv x).length = xs.length) (hz : its.length ≤ 2 ^ 24) (hs : ∀ x, foldedSetIterable iter env x = pure x)
  (hin : ∀ cenv, EnvS cenv (relab scope sc) → ∀ x ∈ its, EvP Γ n cenv (pvSt (xs.zip (cv x) ++ l)) (q39 ifs cenv) (PB (tb x)) ∧ (tb x = true → Ev Γ n cenv (pvSt (xs.zip (cv x) ++ l)) elt (.pv (f x)))) :
  Ex Γ τ n env ns σ (exec (.Assign [.Name (ofString x) xp] (.ListComp elt [⟨tgt, iter, ifs, 0⟩] scope pos) spos) env) K := by
 rw [← q76] at c
 exact Ex.Y7 (p := iter.pos) (xs' := []) (t := fun cenv D => eltT elt cenv D) (l := l) hx kr c hsw G C (.head _) hI T hn hl0 (fun x h => .tail _ h) (fun _ h => by cases h) hi (by rw [q76]; exact q60 hz) rfl hs
  (fun cenv D I => turn1 elt tgt iter ifs scope pos cenv D I) fun cenv D M Gc B oc x hx => ⟨(hin cenv Gc x hx).1, fun hb => .elt B ((hin cenv Gc x hx).2 hb)⟩
theorem Ev.comp2 {elt tgt iter tgt' iter' : Expr} {pos : Pos} {xs xs' : List String} {its : List α} {its' : α → List β} {cv : α → List PV} {cv' : β → List PV} {f : α → β → PV} {l : List (String × PV)}
  (G : EnvS env sc) (C : CompOK scope sc (".0" :: (xs ++ xs'))) (hI : EvI Γ n env σ iter tgt (its.map cv)) (T : Tgt tgt xs) (T' : Tgt tgt' xs') (hn : xs.Nodup) (hn' : xs'.Nodup) (hd : ∀ x ∈ xs, x ∉ xs') (hl0 : ∀ p ∈ l, (p.1, RV.pv p.2) ∈ σ.v ∧ scope.names.lookup (ofString p.1) = some .free)
  (hi : ∀ x ∈ its, (cv x).length = xs.length) (hi' : ∀ x ∈ its, ∀ y ∈ its' x, (cv' y).length = xs'.length) (hz : (its.flatMap fun x => (its' x).map (f x)).length ≤ 2 ^ 24) (hs : ∀ env x, foldedSetIterable iter env x = pure x) (hs' : ∀ env x, foldedSetIterable iter' env x = pure x)
  (hin : ∀ cenv, EnvS cenv (relab scope sc) → ∀ x ∈ its, EvI Γ n cenv (pvSt (xs.zip (cv x) ++ l)) iter' tgt' ((its' x).map cv') ∧ ∀ y ∈ its' x, Ev Γ n cenv (pvSt (xs'.zip (cv' y) ++ (xs.zip (cv x) ++ l))) elt (.pv (f x y))) :
  Ev Γ n env σ (.ListComp elt [⟨tgt, iter, [], 0⟩, ⟨tgt', iter', [], 0⟩] scope pos) (.pv (.list (its.flatMap fun x => (its' x).map (f x)))) := by
 haveI e : (its.flatMap fun x => (its' x).map (f x)) = outs its (fun _ => true) fun x => outs (its' x) (fun _ => true) fun y => [f x y] := by
  rw [z43]; congr 1; funext x; rw [q76, List.filter_eq_self.mpr (fun _ _ => rfl)]
 rw [e]
 refine Ev.comp0 (p := iter.pos) (xs' := xs' ++ []) (ns := ".0" :: (xs ++ xs')) (t := fun cenv D => nestT (.ListComp elt [⟨tgt, iter, [], 0⟩, ⟨tgt', iter', [], 0⟩] scope pos) ⟨tgt', iter', [], 0⟩ (.ref D) cenv) (l := l) G C (.head _) hI T hn hl0 (fun x h => .tail _ (mem_append_left _ h)) (fun x h => .tail _ (mem_append_right _ (by simpa using h))) hi ((e) ▸ hz) rfl (hs env)
  (fun cenv D I => zb8 elt tgt iter tgt' iter' [] [] scope pos cenv D I) fun cenv D M Gc B oc x hx => ⟨Evb.Y0, fun _ => ?_⟩
 obtain ⟨h1, h2⟩ := hin cenv Gc x hx
 refine EmitOK.nest (p := iter'.pos) (g := ⟨tgt', iter', [], 0⟩) B rfl (hs' cenv) (fun I => zb7 elt ⟨tgt, iter, [], 0⟩ tgt' iter' [] scope pos cenv D I) h1 T' hn' ?_ (fun _ _ h => by cases h) (fun y h => .tail _ (mem_append_right _ h)) (hi' x hx) oc (fun y hy => Evb.Y0) fun y hy _ => .elt B (h2 y hy)
 intro p hp hx'
 rcases mem_append.mp hp with q | q
 ·exact hd _ (of_mem_zip q).1 hx'
 have := (hl0 p q).2
 rcases C.targets _ (List.Mem.tail _ (mem_append_right xs hx')) with t | t <;> (rw [t] at this; nomatch this)
end
theorem q46 {i : Int} {n : Nat} (h0 : 0 ≤ i) (h1 : i < n) : seqIndex? i n = some i.toNat := by
 unfold seqIndex?
 haveI : ¬ i < 0 := by lia
 simp only [this, if_false, h0, h1, decide_true, Bool.and_self, if_true]
theorem q35 (a : Int) {b : Int} (h : 0 < b) : 0 ≤ a.fmod b := Int.fmod_nonneg_of_pos _ h
theorem q23 (a : Int) {b : Int} (h : 0 < b) : a.fmod b < b := Int.fmod_lt_of_pos _ h
noncomputable def cs (s : String) : List Nat := s.toList.map Char.toNat
theorem ofS (s : String) : ofString s = ⟨(cs s).toArray⟩ := by rw [Str.ofString_eq_toList]; rfl
theorem Ev.strS {Γ : Cx} {n : Nat} {env : Env} {σ : St} {s : String} {k : Nat} {pos : Pos} : Ev Γ n env σ (.Constant (.str (ofString s)) k pos) (.pv (.str (cs s))) := Ev.str (ofS s)
theorem FSpec.introK {Γ : Cx} {n : Nat} {K : Frag} {f : Addr} {fd : FuncData} {body : List Stmt} {ps ns : List String} {xs : List PV} {r : PV} {c : Addr} {cvs : Array Value} {t : Tok} (KX : K.In Γ.hB) (e1 : (K.lookup f).map Obj.data = some (.func fd)) (hbody : fd.body = .stmts body)
  (hc : fd.code = .ref c) (e2 : (K.lookup c).map (fun o => (isTb o, o.data)) = some (false, .fields cvs)) (hc1 : cvs[1]? = some (.str fd.qualname t)) (C : FunOK fd.scope ps ns)
  (hbind : ∀ Vs : List Value, Vs.length = ps.length → bindArgs fd ⟨Vs, []⟩ = pure ((ps.map ofString).zip Vs)) (hlen : xs.length = ps.length)
  (hclo : fd.closure = []) (hg : fd.globals = mainGlobals) (hbi : fd.builtins = builtinsNs) (hco : fd.scope.isCoroutine = false) (hgen : fd.scope.isGenerator = false)
  (h : ∀ kf env, EnvS env fd.scope → Ex (Γ.on kf) 0 n env ns (pvSt (ps.zip xs)) (execs body env) fun af _ => af = .rt r) : FSpec Γ (n + 1) f xs r := by
 obtain ⟨o, ho, hd⟩ := map_eq_some_iff.mp e1
 obtain ⟨oc, hoc, hcd⟩ := map_eq_some_iff.mp e2
 exact FSpec.intro C (KX _ _ ho) hd hbody hclo hg hbi hc (KX _ _ hoc) (congrArg Prod.fst hcd) (congrArg Prod.snd hcd) hc1 hbind hlen hco hgen h
inductive Caps (scope : Scope) (σ : St) : List (String × PV) → Prop
 | nil : Caps scope σ []
 | cons {x : String} {v : PV} {l : List (String × PV)} : (x, RV.pv v) ∈ σ.v → scope.names.lookup (ofString x) = some .free → Caps scope σ l → Caps scope σ ((x, v) :: l)
theorem Caps.all {scope : Scope} {σ : St} {l : List (String × PV)} (c : Caps scope σ l) : ∀ p ∈ l, (p.1, RV.pv p.2) ∈ σ.v ∧ scope.names.lookup (ofString p.1) = some .free := by
 induction c with
 | nil => exact fun _ m => nomatch m
 | cons a b _ ih =>
  intro p m
  rcases mem_cons.mp m with rfl | m
  ·exact ⟨a, b⟩
  exact ih p m
theorem EvS.consR {Γ : Cx} {n : Nat} {env : Env} {σ : St} {pos : Pos} {e : Expr} {es : List Expr} {v : PV} {vs : List PV} (h : Ev Γ n env σ e (.pv v)) (hs : EvS Γ n env σ pos es (pvs vs))
  (he : ∀ env, starEach (e :: es) env = (false, eval e env) :: starEach es env := by intro _; rfl) : EvS Γ n env σ pos (e :: es) (pvs (v :: vs)) := EvS.cons (mR _) h hs he
theorem EvS.nilR {Γ : Cx} {n : Nat} {env : Env} {σ : St} {pos : Pos} : EvS Γ n env σ pos [] (pvs []) := EvS.nil
section
variable {Γ : Cx} {τ n : Nat} {env : Env} {σ : St} {sc scope : Scope} {ns : List String} {K : AF → St → Prop} {α β : Type}
theorem Ev.O4 {elt tgt iter : Expr} {pos : Pos} {xs : List String} {its : List α} {cv : α → List PV} {f : α → PV} {l : List (String × PV)}
  (G : EnvS env sc) (C : CompOK scope sc (".0" :: xs)) (hl0 : Caps scope σ l) (T : Tgt tgt xs) (hn : xs.Nodup) (hi : ∀ x, (cv x).length = xs.length) (hI : EvI Γ n env σ iter tgt (its.map cv))
  (hz : its.length ≤ 2 ^ 24) (hin : ∀ cenv, EnvS cenv (relab scope sc) → ∀ x ∈ its, Ev Γ n cenv (pvSt (xs.zip (cv x) ++ l)) elt (.pv (f x))) (hs : ∀ x, foldedSetIterable iter env x = pure x := by intro _; rfl) :
  Ev Γ n env σ (.ListComp elt [⟨tgt, iter, [], 0⟩] scope pos) (.pv (.list (its.map f))) := by
 have := Ev.Y3 (tb := fun _ => true) (f := f) (elt := elt) (pos := pos) G C hI T hn hl0.all (fun x _ => hi x) hz hs fun cenv Gc x hx => ⟨Evb.Y0, fun _ => hin cenv Gc x hx⟩
 rwa [List.filter_eq_self.mpr (fun _ _ => rfl)] at this
theorem Ev.Q9 {elt tgt iter c : Expr} {pos : Pos} {xs : List String} {its : List α} {cv : α → List PV} {tb : α → Bool} {f : α → PV} {l : List (String × PV)}
  (G : EnvS env sc) (C : CompOK scope sc (".0" :: xs)) (hl0 : Caps scope σ l) (T : Tgt tgt xs) (hn : xs.Nodup) (hi : ∀ x, (cv x).length = xs.length) (hI : EvI Γ n env σ iter tgt (its.map cv))
  (hz : its.length ≤ 2 ^ 24) (ht : ∀ cenv, EnvS cenv (relab scope sc) → ∀ x ∈ its, Evb Γ n cenv (pvSt (xs.zip (cv x) ++ l)) c (tb x)) (hin : ∀ cenv, EnvS cenv (relab scope sc) → ∀ x ∈ its, tb x = true → Ev Γ n cenv (pvSt (xs.zip (cv x) ++ l)) elt (.pv (f x))) (hs : ∀ x, foldedSetIterable iter env x = pure x := by intro _; rfl) :
  Ev Γ n env σ (.ListComp elt [⟨tgt, iter, [c], 0⟩] scope pos) (.pv (.list ((its.filter tb).map f))) :=
 Ev.Y3 (tb := tb) (f := f) (elt := elt) (pos := pos) G C hI T hn hl0.all (fun x _ => hi x) hz hs fun cenv Gc x hx => ⟨Evb.U7 (ht cenv Gc x hx), fun h => hin cenv Gc x hx h⟩
theorem Ex.O4 {x : String} {xp spos : Pos} {elt tgt iter : Expr} {pos : Pos} {xs : List String} {its : List α} {cv : α → List PV} {f : α → PV} {l : List (String × PV)} {rest : List (String × RV)}
  (G : EnvS env sc) (hx : x ∈ ns) (kr : Keep [x] σ.v rest) (C : CompOK scope sc (".0" :: xs)) (hl0 : Caps scope σ l) (T : Tgt tgt xs) (hn : xs.Nodup) (hi : ∀ x, (cv x).length = xs.length) (hI : EvI Γ n env σ iter tgt (its.map cv))
  (hz : its.length ≤ 2 ^ 24) (hin : ∀ cenv, EnvS cenv (relab scope sc) → ∀ x ∈ its, Ev Γ n cenv (pvSt (xs.zip (cv x) ++ l)) elt (.pv (f x))) (hsw : swapsWith (.ListComp elt [⟨tgt, iter, [], 0⟩] scope pos) (some (.Name (ofString x) xp)) spos.line env = pure true)
  (c : K .nx ⟨(x, .pv (.list (its.map f))) :: rest, σ.o⟩) (hs : ∀ x, foldedSetIterable iter env x = pure x := by intro _; rfl) :
  Ex Γ τ n env ns σ (exec (.Assign [.Name (ofString x) xp] (.ListComp elt [⟨tgt, iter, [], 0⟩] scope pos) spos) env) K := by
 refine Ex.Y3 (tb := fun _ => true) (f := f) hx kr ?_ hsw G C hI T hn hl0.all (fun x _ => hi x) hz hs fun cenv Gc x hx => ⟨Evb.Y0, fun _ => hin cenv Gc x hx⟩
 rwa [List.filter_eq_self.mpr (fun _ _ => rfl)]
theorem Ex.Q9 {x : String} {xp spos : Pos} {elt tgt iter t : Expr} {pos : Pos} {xs : List String} {its : List α} {cv : α → List PV} {tb : α → Bool} {f : α → PV} {l : List (String × PV)} {rest : List (String × RV)}
  (G : EnvS env sc) (hx : x ∈ ns) (kr : Keep [x] σ.v rest) (C : CompOK scope sc (".0" :: xs)) (hl0 : Caps scope σ l) (T : Tgt tgt xs) (hn : xs.Nodup) (hi : ∀ x, (cv x).length = xs.length) (hI : EvI Γ n env σ iter tgt (its.map cv))
  (hz : its.length ≤ 2 ^ 24) (ht : ∀ cenv, EnvS cenv (relab scope sc) → ∀ x ∈ its, Evb Γ n cenv (pvSt (xs.zip (cv x) ++ l)) t (tb x)) (hin : ∀ cenv, EnvS cenv (relab scope sc) → ∀ x ∈ its, tb x = true → Ev Γ n cenv (pvSt (xs.zip (cv x) ++ l)) elt (.pv (f x))) (hsw : swapsWith (.ListComp elt [⟨tgt, iter, [t], 0⟩] scope pos) (some (.Name (ofString x) xp)) spos.line env = pure true)
  (c : K .nx ⟨(x, .pv (.list ((its.filter tb).map f))) :: rest, σ.o⟩) (hs : ∀ x, foldedSetIterable iter env x = pure x := by intro _; rfl) :
  Ex Γ τ n env ns σ (exec (.Assign [.Name (ofString x) xp] (.ListComp elt [⟨tgt, iter, [t], 0⟩] scope pos) spos) env) K :=
 Ex.Y3 (tb := tb) (f := f) hx kr c hsw G C hI T hn hl0.all (fun x _ => hi x) hz hs fun cenv Gc x hx => ⟨Evb.U7 (ht cenv Gc x hx), fun h => hin cenv Gc x hx h⟩
theorem qf0 {x : Str} {xp : Pos} {elt : Expr} {gs : List Comprehension} {pos : Pos} {l : Nat} (G : EnvS env sc) (h : (sc.names.lookup x == some .local && xp.line == pos.line && !(scope.names.any fun (n, k) => n == x && (k == .local || k == .cell))) = true) :
  swapsWith (.ListComp elt gs scope pos) (some (.Name x xp)) l env = pure true := by
 haveI hk : (env.blockKind == .function) = true := by unfold Env.blockKind; rw [G.scope, G.kind]; rfl
 show (pure (env.blockKind == .function && env.kindOf x == some .local && xp.line == pos.line && !(scope.names.any fun (n, k) => n == x && (k == .local || k == .cell))) : Sem Bool) = pure true
 rw [hk, show env.kindOf x = sc.names.lookup x by unfold Env.kindOf; rw [G.scope], Bool.true_and, h]
end
theorem FSpec.introS {Γ : Cx} {n : Nat} {K : Frag} {f : Addr} {fd : FuncData} {body : List Stmt} {ps ns : List String} {xs : List PV} {r : PV} {c : Addr} {cvs : Array Value} {t : Tok} {v : List (String × RV)} (KX : K.In Γ.hB) (e1 : (K.lookup f).map Obj.data = some (.func fd)) (hbody : fd.body = .stmts body)
  (hc : fd.code = .ref c) (e2 : (K.lookup c).map (fun o => (isTb o, o.data)) = some (false, .fields cvs)) (hc1 : cvs[1]? = some (.str fd.qualname t)) (C : FunOK fd.scope ps ns)
  (hbind : ∀ Vs : List Value, Vs.length = ps.length → bindArgs fd ⟨Vs, []⟩ = pure ((ps.map ofString).zip Vs)) (hlen : xs.length = ps.length)
  (hrest : fd.closure = [] ∧ fd.globals = mainGlobals ∧ fd.builtins = builtinsNs ∧ fd.scope.isCoroutine = false ∧ fd.scope.isGenerator = false) (hv : (pvSt (ps.zip xs)).v = v)
  (h : ∀ kf env, EnvS env fd.scope → Ex (Γ.on kf) 0 n env ns ⟨v, []⟩ (execs body env) fun af _ => af = .rt r) : FSpec Γ (n + 1) f xs r := by
 subst hv
 exact FSpec.introK KX e1 hbody hc e2 hc1 C hbind hlen hrest.1 hrest.2.1 hrest.2.2.1 hrest.2.2.2.1 hrest.2.2.2.2 h
section
variable {Γ : Cx} {τ n : Nat} {env : Env} {σ : St} {sc scope : Scope} {ns : List String} {K : AF → St → Prop} {α β : Type} {more : List Stmt}
theorem S.asg {x : String} {p pos : Pos} {e : Expr} {r : RV} {rest : List (String × RV)} (hx : x ∈ ns) (hs : swapsWith e (some (.Name (ofString x) p)) pos.line env = pure false) (kr : Keep [x] σ.v rest) (h : Ev Γ n env σ e r)
  (k : Ex Γ τ n env ns ⟨(x, r) :: rest, σ.o⟩ (execs more env) K) : Ex Γ τ n env ns σ (execs (.Assign [.Name (ofString x) p] e pos :: more) env) K :=
 Ex.cons (Ex.assign h hx kr k hs)
theorem S.aug {x : String} {p pos : Pos} {e : Expr} {a b : Int} {rest : List (String × RV)} (hx : x ∈ ns) (hm : (x, RV.pv (.int a)) ∈ σ.v) (kr : Keep [x] σ.v rest) (h : Ev Γ n env σ e (.pv (.int b)))
  (k : Ex Γ τ n env ns ⟨(x, .pv (.int (a + b))) :: rest, σ.o⟩ (execs more env) K) : Ex Γ τ n env ns σ (execs (.AugAssign (.Name (ofString x) p) .Add e pos :: more) env) K :=
 Ex.cons (Ex.aug hm h ⟨rfl, rfl⟩ hx kr k)
theorem S.own (k : Nat) {x : String} {p pos : Pos} {e : Expr} {xs : List PV} {rest : List (String × RV)} (hx : x ∈ ns) (hs : swapsWith e (some (.Name (ofString x) p)) pos.line env = pure false) (kr : Keep [x] σ.v rest) (hk : rest.all (fun p => p.2.key != some k) = true) (hko : σ.o.all (fun p => p.1 != k) = true) (h : EvF Γ n env σ (eval e env) xs)
  (c : Ex Γ τ n env ns ⟨(x, .ptr k) :: rest, (k, xs) :: σ.o⟩ (execs more env) K) : Ex Γ τ n env ns σ (execs (.Assign [.Name (ofString x) p] e pos :: more) env) K :=
 Ex.cons (Ex.U6 k h hx kr hk hko c hs)
theorem S.app {x : String} {p apos pos pos' : Pos} {e : Expr} {k : Nat} {xs : List PV} {v : PV} {orest : List (Nat × List PV)} (G : EnvG env) (hline : (apos.endLine == pos.line) = true) (hs : swapsWith (.Call (.Attribute (.Name (ofString x) p) (ofString "append") apos) [e] [] pos) none pos'.line env = pure false) (hstar : ∀ env, starEach [e] env = [(false, eval e env)]) (hd : (ofString x == ("__debug__" : Str)) = false)
  (hm : (x, RV.ptr k) ∈ σ.v) (ho : (k, xs) ∈ σ.o) (ko : KeepO k σ.o orest) (h : Ev Γ n env σ e (.pv v)) (hz : xs.length ≤ 2 ^ 24) (c : Ex Γ τ n env ns ⟨σ.v, (k, xs ++ [v]) :: orest⟩ (execs more env) K) :
  Ex Γ τ n env ns σ (execs (.Expr (.Call (.Attribute (.Name (ofString x) p) (ofString "append") apos) [e] [] pos) pos' :: more) env) K := Ex.cons (Ex.append G hm ho ko h hz c hline hstar hs hd)
theorem S.add {x : String} {p pos pos' : Pos} {e : Expr} {k : Nat} {xs : List PV} {v : PV} {orest : List (Nat × List PV)} (G : EnvG env) (hs : swapsWith (.Call (.Name (ofString x) p) [e] [] pos) none pos'.line env = pure false) (hstar : ∀ env, starEach [e] env = [(false, eval e env)]) (hd : (ofString x == ("__debug__" : Str)) = false)
  (hm : (x, RV.app k) ∈ σ.v) (ho : (k, xs) ∈ σ.o) (ko : KeepO k σ.o orest) (h : Ev Γ n env σ e (.pv v)) (hz : xs.length ≤ 2 ^ 24) (c : Ex Γ τ n env ns ⟨σ.v, (k, xs ++ [v]) :: orest⟩ (execs more env) K) :
  Ex Γ τ n env ns σ (execs (.Expr (.Call (.Name (ofString x) p) [e] [] pos) pos' :: more) env) K := Ex.cons (Ex.add G hm ho ko h hz c hstar hs hd)
theorem S.ext {x : String} {p apos pos pos' : Pos} {e : Expr} {k : Nat} {xs ys : List PV} {orest : List (Nat × List PV)} (G : EnvG env) (hline : (apos.endLine == pos.line) = true) (hs : swapsWith (.Call (.Attribute (.Name (ofString x) p) (ofString "extend") apos) [e] [] pos) none pos'.line env = pure false) (hstar : ∀ env, starEach [e] env = [(false, eval e env)]) (hd : (ofString x == ("__debug__" : Str)) = false)
  (hm : (x, RV.ptr k) ∈ σ.v) (ho : (k, xs) ∈ σ.o) (ko : KeepO k σ.o orest) (h : Ev Γ n env σ e (.pv (.list ys))) (hz : xs.length + ys.length ≤ 2 ^ 24) (c : Ex Γ τ n env ns ⟨σ.v, (k, xs ++ ys) :: orest⟩ (execs more env) K) :
  Ex Γ τ n env ns σ (execs (.Expr (.Call (.Attribute (.Name (ofString x) p) (ofString "extend") apos) [e] [] pos) pos' :: more) env) K := Ex.cons (Ex.extend G hm ho ko h hz c hline hstar hs hd)
theorem S.ret {e : Expr} {v : PV} {pos : Pos} (h : Ev Γ n env σ e (.pv v)) (k : K (.rt v) σ) : Ex Γ τ n env ns σ (execs (.Return (some e) pos :: more) env) K := Ex.cons (Ex.ret h k)
theorem S.assert {c : Expr} {m : Option Expr} {pos : Pos} (h : Evb Γ n env σ c true) (k : Ex Γ τ n env ns σ (execs more env) K) : Ex Γ τ n env ns σ (execs (.Assert c m pos :: more) env) K := Ex.cons (Ex.assert h k)
theorem S.brk {pos : Pos} (k : K .bk σ) : Ex Γ τ n env ns σ (execs (.Break pos :: more) env) K := Ex.cons (Ex.brk k)
theorem S.ite {c : Expr} {b : Bool} {body orelse : List Stmt} {pos : Pos} (h : Evb Γ n env σ c b) (ht : b = true → Ex Γ τ n env ns σ (execs body env) (thenK Γ τ n env ns more K)) (hf : b = false → Ex Γ τ n env ns σ (execs orelse env) (thenK Γ τ n env ns more K)) :
  Ex Γ τ n env ns σ (execs (.If c body orelse pos :: more) env) K := Ex.cons (Ex.ite h ht hf)
theorem S.nil (k : Ex Γ τ n env ns σ (execs more env) K) : Ex Γ τ n env ns σ (execs [] env) (thenK Γ τ n env ns more K) := Ex.nil k
theorem S.unp {tgt : Expr} {xs : List String} {pos : Pos} {e : Expr} {its : List PV} {rest : List (String × RV)} (T : Tgt tgt xs) (hn : xs.Nodup) (hx : ∀ x ∈ xs, x ∈ ns) (kr : Keep xs σ.v rest) (hT : ∃ es j p, tgt = .Tuple es j p) (h : Ev Γ n env σ e (.pv (.tup its))) (hl : its.length = xs.length)
  (he : ∀ env, exec (.Assign [tgt] e pos) env = (do
   standAt pos
   let v ← eval e env
   PySem.assign tgt env v
   pure .next)) (k : Ex Γ τ n env ns ⟨(xs.zip its).map (fun p => (p.1, RV.pv p.2)) ++ rest, σ.o⟩ (execs more env) K) : Ex Γ τ n env ns σ (execs (.Assign [tgt] e pos :: more) env) K := Ex.cons (Ex.unpack h T hn hx hl kr k hT he)
end
structure E (Γ : Cx) (n : Nat) (env : Env) (σ : St) (e : Expr) (r : RV) : Prop where
 run : Ev Γ n env σ e r
structure EL (Γ : Cx) (n : Nat) (env : Env) (σ : St) (e : Expr) (xs : List PV) : Prop where
 run : EvL Γ n env σ e xs
structure B (Γ : Cx) (n : Nat) (env : Env) (σ : St) (e : Expr) (b : Bool) : Prop where
 run : Evb Γ n env σ e b
structure EA (Γ : Cx) (n : Nat) (env : Env) (σ : St) (pos : Pos) (es : List Expr) (vs : List PV) : Prop where
 run : EvS Γ n env σ pos es (pvs vs)
structure EP (Γ : Cx) (n : Nat) (env : Env) (σ : St) (e : Option Expr) (k : Option Int) : Prop where
 run : EvPart Γ n env σ e k
structure EF (Γ : Cx) (n : Nat) (env : Env) (σ : St) (e : Expr) (xs : List PV) : Prop where
 run : EvF Γ n env σ (eval e env) xs
section
variable {Γ : Cx} {n : Nat} {env : Env} {σ : St} {sc scope : Scope} {ns : List String} {α β : Type}
theorem E.int {i : Int} {k : Nat} {pos : Pos} : E Γ n env σ (.Constant (.int i) k pos) (.pv (.int i)) := ⟨Ev.int⟩
theorem E.str {s : String} {k : Nat} {pos : Pos} : E Γ n env σ (.Constant (.str (ofString s)) k pos) (.pv (.str (cs s))) := ⟨Ev.strS⟩
theorem E.bool {b : Bool} {k : Nat} {pos : Pos} : E Γ n env σ (.Constant (.bool b) k pos) (.pv (.bool b)) := ⟨Ev.bool⟩
theorem E.none {k : Nat} {pos : Pos} : E Γ n env σ (.Constant .none k pos) (.pv .none) := ⟨Ev.U4⟩
theorem E.var {x : String} {pos : Pos} {r : RV} (G : EnvS env sc) (hm : (x, r) ∈ σ.v) (hd : (ofString x == ("__debug__" : Str)) = false) : E Γ n env σ (.Name (ofString x) pos) r := ⟨Ev.var G.g hm hd⟩
theorem E.add {l r : Expr} {pos : Pos} {a b : Int} (ha : E Γ n env σ l (.pv (.int a))) (hb : E Γ n env σ r (.pv (.int b))) : E Γ n env σ (.BinOp l .Add r pos) (.pv (.int (a + b))) := ⟨Ev.add_int ha.run hb.run⟩
theorem E.sub {l r : Expr} {pos : Pos} {a b : Int} (ha : E Γ n env σ l (.pv (.int a))) (hb : E Γ n env σ r (.pv (.int b))) : E Γ n env σ (.BinOp l .Sub r pos) (.pv (.int (a - b))) := ⟨Ev.sub_int ha.run hb.run⟩
theorem E.mul {l r : Expr} {pos : Pos} {a b : Int} (ha : E Γ n env σ l (.pv (.int a))) (hb : E Γ n env σ r (.pv (.int b))) (hm : IntMulOk a b) : E Γ n env σ (.BinOp l .Mult r pos) (.pv (.int (a * b))) := ⟨Ev.mul_int ha.run hb.run hm⟩
theorem E.fdiv {l r : Expr} {pos : Pos} {a b : Int} (ha : E Γ n env σ l (.pv (.int a))) (hb : E Γ n env σ r (.pv (.int b))) (h0 : b ≠ 0) (h1 : b.natAbs < 2 ^ 200) : E Γ n env σ (.BinOp l .FloorDiv r pos) (.pv (.int (a.fdiv b))) := ⟨Ev.fdiv ha.run hb.run h0 h1⟩
theorem E.fmod {l r : Expr} {pos : Pos} {a b : Int} (ha : E Γ n env σ l (.pv (.int a))) (hb : E Γ n env σ r (.pv (.int b))) (h0 : b ≠ 0) : E Γ n env σ (.BinOp l .Mod r pos) (.pv (.int (a.fmod b))) := ⟨Ev.fmod ha.run hb.run h0⟩
theorem E.pow {l r : Expr} {pos : Pos} {a b : Int} (ha : E Γ n env σ l (.pv (.int a))) (hb : E Γ n env σ r (.pv (.int b))) (h0 : 0 ≤ b) (h1 : b ≤ 1000) (h2 : a.natAbs < 100) : E Γ n env σ (.BinOp l .Pow r pos) (.pv (.int (a ^ b.toNat))) := ⟨Ev.pow ha.run hb.run h0 h1 h2⟩
theorem E.neg {x : Expr} {pos : Pos} {a : Int} (ha : E Γ n env σ x (.pv (.int a))) : E Γ n env σ (.UnaryOp .USub x pos) (.pv (.int (-a))) := ⟨Ev.neg ha.run⟩
theorem E.adds {l r : Expr} {pos : Pos} {a b : List Nat} (ha : E Γ n env σ l (.pv (.str a))) (hb : E Γ n env σ r (.pv (.str b))) (hz : a.length + b.length ≤ 2 ^ 24) : E Γ n env σ (.BinOp l .Add r pos) (.pv (.str (a ++ b))) := ⟨Ev.add_str ha.run hb.run hz⟩
theorem E.addl {l r : Expr} {pos : Pos} {a b : List PV} (ha : EL Γ n env σ l a) (hb : EL Γ n env σ r b) (hz : a.length + b.length ≤ 2 ^ 24) : E Γ n env σ (.BinOp l .Add r pos) (.pv (.list (a ++ b))) := ⟨Ev.add_list ha.run hb.run hz⟩
theorem E.mull {l r : Expr} {pos : Pos} {a : List PV} {x : Int} (ha : EL Γ n env σ l a) (hb : E Γ n env σ r (.pv (.int x))) (hx : -(2 ^ 40) ≤ x ∧ x ≤ 2 ^ 40) (hz : a.length * x.toNat ≤ 2 ^ 24) : E Γ n env σ (.BinOp l .Mult r pos) (.pv (.list (List.replicate x.toNat a).flatten)) := ⟨Ev.mul_list ha.run hb.run hx hz⟩
theorem EL.of {e : Expr} {xs : List PV} (h : E Γ n env σ e (.pv (.list xs))) : EL Γ n env σ e xs := ⟨EvL.of_list h.run⟩
theorem EL.own {x : String} {pos : Pos} {j : Nat} {xs : List PV} (G : EnvS env sc) (hm : (x, RV.ptr j) ∈ σ.v) (ho : (j, xs) ∈ σ.o) (hd : (ofString x == ("__debug__" : Str)) = false) : EL Γ n env σ (.Name (ofString x) pos) xs := ⟨EvL.own G.g hm ho hd⟩
theorem E.items {value slice : Expr} {pos : Pos} {x : List Nat} {i : Int} {c : Nat} (ho : E Γ n env σ value (.pv (.str x))) (hi : E Γ n env σ slice (.pv (.int i))) (hr : -(2 ^ 60) ≤ i ∧ i ≤ 2 ^ 60) (hc : (seqIndex? i x.length).bind (x[·]?) = some c)
  (hs : ∀ o i, subscripted slice false o i = operate [o, i] (getItem o i) := by intro _ _; rfl) : E Γ n env σ (.Subscript value slice pos) (.pv (.str [c])) := ⟨Ev.item_str ho.run hi.run hr hc hs⟩
theorem E.Q2 {value slice : Expr} {pos : Pos} {xs : List PV} {i : Int} {v : PV} (ho : EL Γ n env σ value xs) (hi : E Γ n env σ slice (.pv (.int i))) (h0 : 0 ≤ i) (h1 : i ≤ 2 ^ 60) (hc : xs[i.toNat]? = some v)
  (hs : ∀ o i, subscripted slice false o i = operate [o, i] (getItem o i) := by intro _ _; rfl) : E Γ n env σ (.Subscript value slice pos) (.pv v) := ⟨Ev.item_list ho.run hi.run h0 h1 hc hs⟩
theorem EP.no : EP Γ n env σ Option.none Option.none := ⟨EvPart.no⟩
theorem EP.yes {e : Expr} {i : Int} (h : E Γ n env σ e (.pv (.int i))) : EP Γ n env σ (some e) (some i) := ⟨EvPart.yes h.run⟩
theorem E.cuts {value : Expr} {lo hi : Option Expr} {p pos : Pos} {x : List Nat} {a b : Option Int} (ho : E Γ n env σ value (.pv (.str x))) (ha : EP Γ n env σ lo a) (hb : EP Γ n env σ hi b) (hz : x.length ≤ 2 ^ 24) : E Γ n env σ (.Subscript value (.Slice lo hi Option.none p) pos) (.pv (.str (cut a b x))) := ⟨Ev.cut_str ho.run ha.run hb.run hz⟩
theorem E.cutl {value : Expr} {lo hi : Option Expr} {p pos : Pos} {xs : List PV} {a b : Option Int} (ho : EL Γ n env σ value xs) (ha : EP Γ n env σ lo a) (hb : EP Γ n env σ hi b) (hz : xs.length ≤ 2 ^ 24) : E Γ n env σ (.Subscript value (.Slice lo hi Option.none p) pos) (.pv (.list (cut a b xs))) := ⟨Ev.O3 ho.run ha.run hb.run hz⟩
theorem E.cutstep {value st : Expr} {lo hi : Option Expr} {p pos : Pos} {xs : List PV} {a b : Option Int} {c : Int} (ho : EL Γ n env σ value xs) (ha : EP Γ n env σ lo a) (hb : EP Γ n env σ hi b) (hc : E Γ n env σ st (.pv (.int c))) (h0 : c ≠ 0) (hz : xs.length ≤ 2 ^ 24) :
  E Γ n env σ (.Subscript value (.Slice lo hi (some st) p) pos) (.pv (.list ((sliceRange (sliceBounds a b (some c) xs.length).1 (sliceBounds a b (some c) xs.length).2.1 (sliceBounds a b (some c) xs.length).2.2).filterMap (xs[·]?)))) := ⟨Ev.T9 ho.run ha.run hb.run hc.run h0 hz rfl⟩
theorem EA.nil {pos : Pos} : EA Γ n env σ pos [] [] := ⟨EvS.nilR⟩
theorem EA.cons {pos : Pos} {e : Expr} {es : List Expr} {v : PV} {vs : List PV} (h : E Γ n env σ e (.pv v)) (hs : EA Γ n env σ pos es vs) (he : ∀ env, starEach (e :: es) env = (false, eval e env) :: starEach es env) : EA Γ n env σ pos (e :: es) (v :: vs) := ⟨EvS.consR h.run hs.run he⟩
theorem E.list {es : List Expr} {pos : Pos} {xs : List PV} (h : EA Γ n env σ pos es xs) (hz : xs.length ≤ 2 ^ 24) : E Γ n env σ (.List es pos) (.pv (.list xs)) := ⟨Ev.list h.run hz⟩
theorem E.tup {es : List Expr} {c : Nat} {pos : Pos} {xs : List PV} (h : EA Γ n env σ pos es xs) (hz : xs.length ≤ 2 ^ 24) : E Γ n env σ (.Tuple es c pos) (.pv (.tup xs)) := ⟨Ev.tup h.run hz⟩
theorem EF.list {es : List Expr} {pos : Pos} {xs : List PV} (h : EA Γ n env σ pos es xs) (hz : xs.length ≤ 2 ^ 24) : EF Γ n env σ (.List es pos) xs := ⟨EvF.list h.run hz⟩
theorem E.ife {t x y : Expr} {pos : Pos} {b : Bool} {r : RV} (ht : B Γ n env σ t b) (hx : b = true → E Γ n env σ x r) (hy : b = false → E Γ n env σ y r) : E Γ n env σ (.IfExp t x y pos) r := ⟨Ev.ife ht.run (fun h => (hx h).run) fun h => (hy h).run⟩
theorem E.ors {x y : Expr} {pos : Pos} {a b : List Nat} (h : E Γ n env σ x (.pv (.str a))) (hz : a.length < 2 ^ 60) (h' : a = [] → E Γ n env σ y (.pv (.str b))) : E Γ n env σ (.BoolOp .Or [x, y] pos) (.pv (.str (if a = [] then b else a))) :=
 ⟨Ev.or2 (mR _) h.run (Tru.str hz) (fun hb φ H h V d => by
   haveI : a ≠ [] := by intro e; subst e; exact absurd hb Bool.false_ne_true
   rw [if_neg this]; exact d) fun hb => by
  haveI : a = [] := by cases a with | nil => rfl | cons => exact absurd hb.symm Bool.false_ne_true
  rw [if_pos this]; exact (h' this).run⟩
theorem B.eqi {l r : Expr} {pos : Pos} {a b : Int} (ha : E Γ n env σ l (.pv (.int a))) (hb : E Γ n env σ r (.pv (.int b))) (hm : behindInMarks .Eq r = false) : B Γ n env σ (.Compare l [.Eq] [r] pos) (a == b) := ⟨Evb.cmp (mR _) Cmp.eq_int ha.run hb.run hm⟩
theorem B.nei {l r : Expr} {pos : Pos} {a b : Int} (ha : E Γ n env σ l (.pv (.int a))) (hb : E Γ n env σ r (.pv (.int b))) (hm : behindInMarks .NotEq r = false) : B Γ n env σ (.Compare l [.NotEq] [r] pos) (a != b) := ⟨Evb.cmp (mR _) Cmp.ne_int ha.run hb.run hm⟩
theorem B.lti {l r : Expr} {pos : Pos} {a b : Int} (ha : E Γ n env σ l (.pv (.int a))) (hb : E Γ n env σ r (.pv (.int b))) (hm : behindInMarks .Lt r = false) : B Γ n env σ (.Compare l [.Lt] [r] pos) (decide (a < b)) := ⟨Evb.cmp (mR _) Cmp.lt_int ha.run hb.run hm⟩
theorem B.gti {l r : Expr} {pos : Pos} {a b : Int} (ha : E Γ n env σ l (.pv (.int a))) (hb : E Γ n env σ r (.pv (.int b))) (hm : behindInMarks .Gt r = false) : B Γ n env σ (.Compare l [.Gt] [r] pos) (decide (b < a)) := ⟨Evb.cmp (mR _) Cmp.gt_int ha.run hb.run hm⟩
theorem B.lei {l r : Expr} {pos : Pos} {a b : Int} (ha : E Γ n env σ l (.pv (.int a))) (hb : E Γ n env σ r (.pv (.int b))) (hm : behindInMarks .LtE r = false) : B Γ n env σ (.Compare l [.LtE] [r] pos) (decide (a ≤ b)) := ⟨Evb.cmp (mR _) Cmp.le_int ha.run hb.run hm⟩
theorem B.gei {l r : Expr} {pos : Pos} {a b : Int} (ha : E Γ n env σ l (.pv (.int a))) (hb : E Γ n env σ r (.pv (.int b))) (hm : behindInMarks .GtE r = false) : B Γ n env σ (.Compare l [.GtE] [r] pos) (decide (b ≤ a)) := ⟨Evb.cmp (mR _) Cmp.ge_int ha.run hb.run hm⟩
theorem B.eqs {l r : Expr} {pos : Pos} {a b : List Nat} (ha : E Γ n env σ l (.pv (.str a))) (hb : E Γ n env σ r (.pv (.str b))) (hm : behindInMarks .Eq r = false) : B Γ n env σ (.Compare l [.Eq] [r] pos) (a == b) := ⟨Evb.cmp (mR _) Cmp.eq_str ha.run hb.run hm⟩
theorem B.nes {l r : Expr} {pos : Pos} {a b : List Nat} (ha : E Γ n env σ l (.pv (.str a))) (hb : E Γ n env σ r (.pv (.str b))) (hm : behindInMarks .NotEq r = false) : B Γ n env σ (.Compare l [.NotEq] [r] pos) (a != b) := ⟨Evb.cmp (mR _) Cmp.ne_str ha.run hb.run hm⟩
theorem B.lts {l r : Expr} {pos : Pos} {a b : List Nat} (ha : E Γ n env σ l (.pv (.str a))) (hb : E Γ n env σ r (.pv (.str b))) (hm : behindInMarks .Lt r = false) : B Γ n env σ (.Compare l [.Lt] [r] pos) (decide (a < b)) := ⟨Evb.cmp (mR _) Cmp.lt_str ha.run hb.run hm⟩
theorem B.gts {l r : Expr} {pos : Pos} {a b : List Nat} (ha : E Γ n env σ l (.pv (.str a))) (hb : E Γ n env σ r (.pv (.str b))) (hm : behindInMarks .Gt r = false) : B Γ n env σ (.Compare l [.Gt] [r] pos) (decide (b < a)) := ⟨Evb.cmp (mR _) Cmp.gt_str ha.run hb.run hm⟩
theorem B.eqt (t : Ty) {l r : Expr} {pos : Pos} {v w : PV} (ha : E Γ n env σ l (.pv v)) (hb : E Γ n env σ r (.pv w)) (hv : HasTy t v) (hw : HasTy t w) (ht : t.depth ≤ 8) (hm : behindInMarks .Eq r = false) : B Γ n env σ (.Compare l [.Eq] [r] pos) (eqp t v w) := ⟨Evb.cmp (mR _) (Cmp.eq_ty hv hw ht) ha.run hb.run hm⟩
theorem B.net (t : Ty) {l r : Expr} {pos : Pos} {v w : PV} (ha : E Γ n env σ l (.pv v)) (hb : E Γ n env σ r (.pv w)) (hv : HasTy t v) (hw : HasTy t w) (ht : t.depth ≤ 8) (hm : behindInMarks .NotEq r = false) : B Γ n env σ (.Compare l [.NotEq] [r] pos) (!eqp t v w) := ⟨Evb.cmp (mR _) (Cmp.ne_ty hv hw ht) ha.run hb.run hm⟩
theorem E.eqt (t : Ty) {l r : Expr} {pos : Pos} {v w : PV} (ha : E Γ n env σ l (.pv v)) (hb : E Γ n env σ r (.pv w)) (hv : HasTy t v) (hw : HasTy t w) (ht : t.depth ≤ 8) (hm : behindInMarks .Eq r = false) : E Γ n env σ (.Compare l [.Eq] [r] pos) (.pv (.bool (eqp t v w))) := ⟨Ev.cmp (mR _) (Cmp.eq_ty hv hw ht) ha.run hb.run hm⟩
theorem E.eqi {l r : Expr} {pos : Pos} {a b : Int} (ha : E Γ n env σ l (.pv (.int a))) (hb : E Γ n env σ r (.pv (.int b))) (hm : behindInMarks .Eq r = false) : E Γ n env σ (.Compare l [.Eq] [r] pos) (.pv (.bool (a == b))) := ⟨Ev.cmp (mR _) Cmp.eq_int ha.run hb.run hm⟩
theorem E.eqs {l r : Expr} {pos : Pos} {a b : List Nat} (ha : E Γ n env σ l (.pv (.str a))) (hb : E Γ n env σ r (.pv (.str b))) (hm : behindInMarks .Eq r = false) : E Γ n env σ (.Compare l [.Eq] [r] pos) (.pv (.bool (a == b))) := ⟨Ev.cmp (mR _) Cmp.eq_str ha.run hb.run hm⟩
theorem B.inl (t : Ty) {l r : Expr} {pos : Pos} {x : PV} {xs : List PV} (ha : E Γ n env σ l (.pv x)) (hb : EL Γ n env σ r xs) (hx : HasTy t x) (hxs : ∀ y ∈ xs, HasTy t y) (ht : t.depth ≤ 8) (hm : behindInMarks .In r = false) : B Γ n env σ (.Compare l [.In] [r] pos) (xs.any fun v => eqp t v x) := ⟨Evb.cmp (mR _) (Cmp.in_list hx hxs ht) ha.run hb.run hm⟩
theorem E.inl (t : Ty) {l r : Expr} {pos : Pos} {x : PV} {xs : List PV} (ha : E Γ n env σ l (.pv x)) (hb : EL Γ n env σ r xs) (hx : HasTy t x) (hxs : ∀ y ∈ xs, HasTy t y) (ht : t.depth ≤ 8) (hm : behindInMarks .In r = false) : E Γ n env σ (.Compare l [.In] [r] pos) (.pv (.bool (xs.any fun v => eqp t v x))) := ⟨Ev.cmp (mR _) (Cmp.in_list hx hxs ht) ha.run hb.run hm⟩
theorem B.O0 (t : Ty) {l r : Expr} {pos : Pos} {x : PV} {xs : List PV} (ha : E Γ n env σ l (.pv x)) (hb : EL Γ n env σ r xs) (hx : HasTy t x) (hxs : ∀ y ∈ xs, HasTy t y) (ht : t.depth ≤ 8) (hm : behindInMarks .NotIn r = false) : B Γ n env σ (.Compare l [.NotIn] [r] pos) (!xs.any fun v => eqp t v x) := ⟨Evb.cmp (mR _) (Cmp.Y4 hx hxs ht) ha.run hb.run hm⟩
theorem B.int (t : Ty) {l r : Expr} {pos : Pos} {x : PV} {xs : List PV} (ha : E Γ n env σ l (.pv x)) (hb : E Γ n env σ r (.pv (.tup xs))) (hx : HasTy t x) (hxs : ∀ y ∈ xs, HasTy t y) (ht : t.depth ≤ 8) (hm : behindInMarks .In r = false) : B Γ n env σ (.Compare l [.In] [r] pos) (xs.any fun v => eqp t v x) := ⟨Evb.cmp (mR _) (Cmp.in_tup hx hxs ht) ha.run hb.run hm⟩
theorem B.isnotO {l r : Expr} {pos : Pos} {a b : Nat} (ha : E Γ n env σ l (.pv (.obj a))) (hb : E Γ n env σ r (.pv (.obj b))) (hm : behindInMarks .IsNot r = false) : B Γ n env σ (.Compare l [.IsNot] [r] pos) (a != b) := ⟨Evb.cmp (mR _) Cmp.U3 ha.run hb.run hm⟩
theorem B.isnotS {l r : Expr} {pos : Pos} {a : List Nat} {b : Nat} (ha : E Γ n env σ l (.pv (.str a))) (hb : E Γ n env σ r (.pv (.obj b))) (hm : behindInMarks .IsNot r = false) : B Γ n env σ (.Compare l [.IsNot] [r] pos) true := ⟨Evb.cmp (mR _) Cmp.U2 ha.run hb.run hm⟩
theorem B.not {x : Expr} {pos : Pos} {b : Bool} (h : B Γ n env σ x b) : B Γ n env σ (.UnaryOp .Not x pos) (!b) := ⟨Evb.not h.run⟩
theorem B.Y8 {pos : Pos} : B Γ n env σ (.BoolOp .And [] pos) true := ⟨Evb.and_nil⟩
theorem B.or0 {pos : Pos} : B Γ n env σ (.BoolOp .Or [] pos) false := ⟨Evb.or_nil⟩
theorem B.and {x : Expr} {rest : List Expr} {pos : Pos} {b c : Bool} (h : B Γ n env σ x b) (h' : b = true → B Γ n env σ (.BoolOp .And rest pos) c) : B Γ n env σ (.BoolOp .And (x :: rest) pos) (b && c) := ⟨Evb.and h.run fun e => (h' e).run⟩
theorem B.or {x : Expr} {rest : List Expr} {pos : Pos} {b c : Bool} (h : B Γ n env σ x b) (h' : b = false → B Γ n env σ (.BoolOp .Or rest pos) c) : B Γ n env σ (.BoolOp .Or (x :: rest) pos) (b || c) := ⟨Evb.or h.run fun e => (h' e).run⟩
theorem B.ofBool {e : Expr} {b : Bool} (h : E Γ n env σ e (.pv (.bool b))) (he : isTrue e env (eval e env) = (do let v ← eval e env; standAt e.pos; holding [v] (truthy v))) : B Γ n env σ e b := ⟨Evb.val h.run Tru.bool he⟩
theorem B.ofStr {e : Expr} {x : List Nat} (h : E Γ n env σ e (.pv (.str x))) (hz : x.length < 2 ^ 60) (he : isTrue e env (eval e env) = (do let v ← eval e env; standAt e.pos; holding [v] (truthy v))) : B Γ n env σ e (!x.isEmpty) := ⟨Evb.val h.run (Tru.str hz) he⟩
theorem B.ofList {e : Expr} {xs : List PV} (h : EL Γ n env σ e xs) (hz : xs.length < 2 ^ 60) (he : isTrue e env (eval e env) = (do let v ← eval e env; standAt e.pos; holding [v] (truthy v))) : B Γ n env σ e (!xs.isEmpty) := ⟨Evb.val h.run (Tru.list hz) he⟩
structure BN (Γ : Cx) (env : Env) (sc : Scope) (x : Str) (v : Value) : Prop where
 G : EnvS env sc
 kind : sc.names.lookup x = some .globalImplicit
 free : Γ.mg x = Option.none
 boot : bootBuiltins x = some v
 n1 : x ≠ "__name__"
 n2 : (x == ("__debug__" : Str)) = false
theorem BN.ev {x : Str} {v : Value} (b : BN Γ env sc x v) {pos : Pos} : EvP Γ n env σ (eval (.Name x pos) env) fun _ _ _ V => V = v := Ev.builtin b.G b.kind b.free b.boot b.n1 b.n2
theorem E.len_str {x : Str} {p pos : Pos} {e : Expr} {a : List Nat} (b : BN Γ env sc x (.builtin "len")) (ha : E Γ n env σ e (.pv (.str a))) (hz : a.length < 2 ^ 60) (he : ∀ env, starEach [e] env = (false, eval e env) :: starEach [] env) : E Γ n env σ (.Call (.Name x p) [e] [] pos) (.pv (.int a.length)) :=
 ⟨Ev.T2 b.ev (EvS.cons (mR _) ha.run EvS.nil he) (CallB.len_str hz) he⟩
theorem E.len_list {x : Str} {p pos : Pos} {e : Expr} {a : List PV} (b : BN Γ env sc x (.builtin "len")) (ha : EL Γ n env σ e a) (hz : a.length < 2 ^ 60) (he : ∀ env, starEach [e] env = (false, eval e env) :: starEach [] env) : E Γ n env σ (.Call (.Name x p) [e] [] pos) (.pv (.int a.length)) :=
 ⟨Ev.T2 b.ev (EvS.cons (mL _) ha.run EvS.nil he) (CallB.len_list hz) he⟩
theorem E.chr {x : Str} {p pos : Pos} {e : Expr} {i : Int} (b : BN Γ env sc x (.builtin "chr")) (ha : E Γ n env σ e (.pv (.int i))) (h0 : 0 ≤ i) (h1 : i ≤ 1114111) (he : ∀ env, starEach [e] env = (false, eval e env) :: starEach [] env) : E Γ n env σ (.Call (.Name x p) [e] [] pos) (.pv (.str [i.toNat])) :=
 ⟨Ev.T2 b.ev (EvS.cons (mR _) ha.run EvS.nil he) (CallB.chr h0 h1) he⟩
theorem E.range1 {x : Str} {p pos : Pos} {e : Expr} {i : Int} (b : BN Γ env sc x (.type "range")) (ha : E Γ n env σ e (.pv (.int i))) (he : ∀ env, starEach [e] env = (false, eval e env) :: starEach [] env) : E Γ n env σ (.Call (.Name x p) [e] [] pos) (.pv (.rng 0 i)) :=
 ⟨Ev.R0 b.ev (EvS.cons (mR _) ha.run EvS.nil he) CallB.range1 he⟩
theorem E.Y1 {x : Str} {p pos : Pos} {e e' : Expr} {i j : Int} (b : BN Γ env sc x (.type "range")) (ha : E Γ n env σ e (.pv (.int i))) (hb : E Γ n env σ e' (.pv (.int j))) (he : ∀ env, starEach [e, e'] env = (false, eval e env) :: starEach [e'] env) (he' : ∀ env, starEach [e'] env = (false, eval e' env) :: starEach [] env) : E Γ n env σ (.Call (.Name x p) [e, e'] [] pos) (.pv (.rng i j)) :=
 ⟨Ev.R0 b.ev (EvS.cons (mR _) ha.run (EvS.cons (mR _) hb.run EvS.nil he') he) CallB.Y1 he (fun env => by rw [he']; rfl)⟩
structure DN (Γ : Cx) (env : Env) (sc : Scope) (x : Str) (f : Addr) : Prop where
 G : EnvS env sc
 kind : sc.names.lookup x = some .globalImplicit
 at_ : Γ.mg x = some (.ref f)
 n2 : (x == ("__debug__" : Str)) = false
 fn : ∃ o fd, Γ.hB.get? f = some o ∧ o.data = .func fd
theorem E.call {x : Str} {p pos : Pos} {f : Addr} {e : Expr} {es : List Expr} {xs : List PV} {r : PV} (b : DN Γ env sc x f) (F : FSpec Γ n f xs r) (ha : EA Γ n env σ pos (e :: es) xs)
  (he : ∀ env, starEach (e :: es) env = (false, eval e env) :: starEach es env) : E Γ n env σ (.Call (.Name x p) (e :: es) [] pos) (.pv r) := by
 obtain ⟨o, fd, ho, hd⟩ := b.fn
 exact ⟨Ev.O5 (Ev.global b.G b.kind b.at_ b.n2) ho hd F ha.run he⟩
theorem I.T1 {e : Expr} {x : String} {p : Pos} {as : List α} {c : α → PV} (he : E Γ n env σ e (.pv (.list (as.map c)))) : EvI Γ n env σ e (.Name (ofString x) p) (as.map fun y => [c y]) := by
 have := EvI.list (x := x) (p := p) he.run
 rwa [map_map] at this
theorem I.str {e : Expr} {x : String} {p : Pos} {a : List Nat} (he : E Γ n env σ e (.pv (.str a))) : EvI Γ n env σ e (.Name (ofString x) p) (a.map fun c => [.str [c]]) := EvI.str he.run
theorem I.rng {e : Expr} {x : String} {p : Pos} {a b : Int} (he : E Γ n env σ e (.pv (.rng a b))) (h0 : -(2 ^ 61) ≤ a ∧ a < 2 ^ 61) (h1 : -(2 ^ 61) ≤ b ∧ b < 2 ^ 61) : EvI Γ n env σ e (.Name (ofString x) p) ((rngL a b).map fun i => [.int i]) := EvI.rng he.run h0 h1
theorem I.R1 {e : Expr} {es : List Expr} {j : Nat} {pos : Pos} {its : List (List PV)} (he : E Γ n env σ e (.pv (.list (its.map .list)))) : EvI Γ n env σ e (.Tuple es j pos) its := EvI.rows he.run (.inl rfl)
theorem I.enum {x : Str} {p pos tpos : Pos} {e : Expr} {es : List Expr} {j : Nat} {xs : List PV} (b : BN Γ env sc x (.type "enumerate")) (ha : E Γ n env σ e (.pv (.list xs))) (he : ∀ env, starEach [e] env = (false, eval e env) :: starEach [] env) : EvI Γ n env σ (.Call (.Name x p) [e] [] pos) (.Tuple es j tpos) (xs.zipIdx.map fun p => [.int p.2, p.1]) :=
 EvI.R0 b.ev (EvS.cons (mR _) ha.run EvS.nil he) CallI.enum he
theorem I.zip {x : Str} {p pos tpos : Pos} {e e' : Expr} {es : List Expr} {j : Nat} {xs ys : List PV} (b : BN Γ env sc x (.type "zip")) (ha : E Γ n env σ e (.pv (.list xs))) (hb : E Γ n env σ e' (.pv (.list ys))) (he : ∀ env, starEach [e, e'] env = (false, eval e env) :: starEach [e'] env) (he' : ∀ env, starEach [e'] env = (false, eval e' env) :: starEach [] env) :
  EvI Γ n env σ (.Call (.Name x p) [e, e'] [] pos) (.Tuple es j tpos) ((xs.zip ys).map fun p => [p.1, p.2]) :=
 EvI.R0 b.ev (EvS.cons (mR _) ha.run (EvS.cons (mR _) hb.run EvS.nil he') he) CallI.zip he (fun env => by rw [he']; rfl)
theorem E.comp {elt tgt iter : Expr} {pos : Pos} {xs : List String} {its : List α} {cv : α → List PV} {f : α → PV} {l : List (String × PV)}
  (G : EnvS env sc) (C : CompOK scope sc (".0" :: xs)) (hl0 : Caps scope σ l) (T : Tgt tgt xs) (hn : xs.Nodup) (hi : ∀ x, (cv x).length = xs.length) (hI : EvI Γ n env σ iter tgt (its.map cv))
  (hz : its.length ≤ 2 ^ 24) (hin : ∀ cenv, EnvS cenv (relab scope sc) → ∀ x ∈ its, E Γ n cenv (pvSt (xs.zip (cv x) ++ l)) elt (.pv (f x))) (hs : ∀ x, foldedSetIterable iter env x = pure x := by intro _; rfl) :
  E Γ n env σ (.ListComp elt [⟨tgt, iter, [], 0⟩] scope pos) (.pv (.list (its.map f))) := ⟨Ev.O4 G C hl0 T hn hi hI hz (fun c g x hx => (hin c g x hx).run) hs⟩
theorem E.Q9 {elt tgt iter c : Expr} {pos : Pos} {xs : List String} {its : List α} {cv : α → List PV} {tb : α → Bool} {f : α → PV} {l : List (String × PV)}
  (G : EnvS env sc) (C : CompOK scope sc (".0" :: xs)) (hl0 : Caps scope σ l) (T : Tgt tgt xs) (hn : xs.Nodup) (hi : ∀ x, (cv x).length = xs.length) (hI : EvI Γ n env σ iter tgt (its.map cv))
  (hz : its.length ≤ 2 ^ 24) (ht : ∀ cenv, EnvS cenv (relab scope sc) → ∀ x ∈ its, B Γ n cenv (pvSt (xs.zip (cv x) ++ l)) c (tb x)) (hin : ∀ cenv, EnvS cenv (relab scope sc) → ∀ x ∈ its, tb x = true → E Γ n cenv (pvSt (xs.zip (cv x) ++ l)) elt (.pv (f x))) (hs : ∀ x, foldedSetIterable iter env x = pure x := by intro _; rfl) :
  E Γ n env σ (.ListComp elt [⟨tgt, iter, [c], 0⟩] scope pos) (.pv (.list ((its.filter tb).map f))) := ⟨Ev.Q9 G C hl0 T hn hi hI hz (fun c g x hx => (ht c g x hx).run) (fun c g x hx hb => (hin c g x hx hb).run) hs⟩
end
structure X (Γ : Cx) (τ n : Nat) (env : Env) (ns : List String) (σ : St) (b : List Stmt) (K : AF → St → Prop) : Prop where
 run : Ex Γ τ n env ns σ (execs b env) K
noncomputable def kx (Γ : Cx) (τ n : Nat) (env : Env) (ns : List String) (more : List Stmt) (K : AF → St → Prop) : AF → St → Prop
 | .nx, σ => X Γ τ n env ns σ more K
 | a, σ => K a σ
noncomputable def kl (next : St → Prop) (K : AF → St → Prop) : AF → St → Prop
 | .nx, σ => next σ
 | .ct, σ => next σ
 | .bk, σ => K .nx σ
 | .rt v, σ => K (.rt v) σ
section
variable {Γ : Cx} {τ n : Nat} {env : Env} {σ : St} {sc scope : Scope} {ns : List String} {K : AF → St → Prop} {α β : Type} {more : List Stmt}
theorem qz3 {a : AF} {s : St} (h : kx Γ τ n env ns more K a s) : thenK Γ τ n env ns more K a s := by
 cases a with
 | nx => exact (show X _ _ _ _ _ _ _ _ from h).run
 | _ => exact h
theorem X.asg {x : String} {p pos : Pos} {e : Expr} {r : RV} {rest : List (String × RV)} (hx : x ∈ ns) (hs : swapsWith e (some (.Name (ofString x) p)) pos.line env = pure false) (kr : Keep [x] σ.v rest) (h : E Γ n env σ e r)
  (k : X Γ τ n env ns ⟨(x, r) :: rest, σ.o⟩ more K) : X Γ τ n env ns σ (.Assign [.Name (ofString x) p] e pos :: more) K := ⟨S.asg hx hs kr h.run k.run⟩
theorem X.aug {x : String} {p pos : Pos} {e : Expr} {a b : Int} {rest : List (String × RV)} (hx : x ∈ ns) (hm : (x, RV.pv (.int a)) ∈ σ.v) (kr : Keep [x] σ.v rest) (h : E Γ n env σ e (.pv (.int b)))
  (k : X Γ τ n env ns ⟨(x, .pv (.int (a + b))) :: rest, σ.o⟩ more K) : X Γ τ n env ns σ (.AugAssign (.Name (ofString x) p) .Add e pos :: more) K := ⟨S.aug hx hm kr h.run k.run⟩
theorem X.own (k : Nat) {x : String} {p pos : Pos} {e : Expr} {xs : List PV} {rest : List (String × RV)} (hx : x ∈ ns) (hs : swapsWith e (some (.Name (ofString x) p)) pos.line env = pure false) (kr : Keep [x] σ.v rest) (hk : rest.all (fun p => p.2.key != some k) = true) (hko : σ.o.all (fun p => p.1 != k) = true) (h : EF Γ n env σ e xs)
  (c : X Γ τ n env ns ⟨(x, .ptr k) :: rest, (k, xs) :: σ.o⟩ more K) : X Γ τ n env ns σ (.Assign [.Name (ofString x) p] e pos :: more) K := ⟨S.own k hx hs kr hk hko h.run c.run⟩
theorem X.app {x : String} {p apos pos pos' : Pos} {e : Expr} {k : Nat} {xs : List PV} {v : PV} {orest : List (Nat × List PV)} (G : EnvS env sc) (hline : (apos.endLine == pos.line) = true) (hs : swapsWith (.Call (.Attribute (.Name (ofString x) p) (ofString "append") apos) [e] [] pos) none pos'.line env = pure false) (hstar : ∀ env, starEach [e] env = [(false, eval e env)]) (hd : (ofString x == ("__debug__" : Str)) = false)
  (hm : (x, RV.ptr k) ∈ σ.v) (ho : (k, xs) ∈ σ.o) (ko : KeepO k σ.o orest) (h : E Γ n env σ e (.pv v)) (hz : xs.length ≤ 2 ^ 24) (c : X Γ τ n env ns ⟨σ.v, (k, xs ++ [v]) :: orest⟩ more K) :
  X Γ τ n env ns σ (.Expr (.Call (.Attribute (.Name (ofString x) p) (ofString "append") apos) [e] [] pos) pos' :: more) K := ⟨S.app G.g hline hs hstar hd hm ho ko h.run hz c.run⟩
theorem X.add {x : String} {p pos pos' : Pos} {e : Expr} {k : Nat} {xs : List PV} {v : PV} {orest : List (Nat × List PV)} (G : EnvS env sc) (hs : swapsWith (.Call (.Name (ofString x) p) [e] [] pos) none pos'.line env = pure false) (hstar : ∀ env, starEach [e] env = [(false, eval e env)]) (hd : (ofString x == ("__debug__" : Str)) = false)
  (hm : (x, RV.app k) ∈ σ.v) (ho : (k, xs) ∈ σ.o) (ko : KeepO k σ.o orest) (h : E Γ n env σ e (.pv v)) (hz : xs.length ≤ 2 ^ 24) (c : X Γ τ n env ns ⟨σ.v, (k, xs ++ [v]) :: orest⟩ more K) :
  X Γ τ n env ns σ (.Expr (.Call (.Name (ofString x) p) [e] [] pos) pos' :: more) K := ⟨S.add G.g hs hstar hd hm ho ko h.run hz c.run⟩
theorem X.ext {x : String} {p apos pos pos' : Pos} {e : Expr} {k : Nat} {xs ys : List PV} {orest : List (Nat × List PV)} (G : EnvS env sc) (hline : (apos.endLine == pos.line) = true) (hs : swapsWith (.Call (.Attribute (.Name (ofString x) p) (ofString "extend") apos) [e] [] pos) none pos'.line env = pure false) (hstar : ∀ env, starEach [e] env = [(false, eval e env)]) (hd : (ofString x == ("__debug__" : Str)) = false)
  (hm : (x, RV.ptr k) ∈ σ.v) (ho : (k, xs) ∈ σ.o) (ko : KeepO k σ.o orest) (h : E Γ n env σ e (.pv (.list ys))) (hz : xs.length + ys.length ≤ 2 ^ 24) (c : X Γ τ n env ns ⟨σ.v, (k, xs ++ ys) :: orest⟩ more K) :
  X Γ τ n env ns σ (.Expr (.Call (.Attribute (.Name (ofString x) p) (ofString "extend") apos) [e] [] pos) pos' :: more) K := ⟨S.ext G.g hline hs hstar hd hm ho ko h.run hz c.run⟩
theorem X.ret {e : Expr} {v : PV} {pos : Pos} (h : E Γ n env σ e (.pv v)) (k : K (.rt v) σ) : X Γ τ n env ns σ (.Return (some e) pos :: more) K := ⟨S.ret h.run k⟩
theorem X.assert {c : Expr} {m : Option Expr} {pos : Pos} (h : B Γ n env σ c true) (k : X Γ τ n env ns σ more K) : X Γ τ n env ns σ (.Assert c m pos :: more) K := ⟨S.assert h.run k.run⟩
theorem X.brk {pos : Pos} (k : K .bk σ) : X Γ τ n env ns σ (.Break pos :: more) K := ⟨S.brk k⟩
theorem X.nil (k : K .nx σ) : X Γ τ n env ns σ [] K := ⟨Ex.nil k⟩
theorem X.ite {c : Expr} {b : Bool} {body orelse : List Stmt} {pos : Pos} (h : B Γ n env σ c b) (ht : b = true → X Γ τ n env ns σ body (kx Γ τ n env ns more K)) (hf : b = false → X Γ τ n env ns σ orelse (kx Γ τ n env ns more K)) :
  X Γ τ n env ns σ (.If c body orelse pos :: more) K := ⟨S.ite h.run (fun e => (ht e).run.mono fun _ _ q => qz3 q) fun e => (hf e).run.mono fun _ _ q => qz3 q⟩
theorem X.unp {es : List Expr} {j : Nat} {tp : Pos} {xs : List String} {pos : Pos} {e : Expr} {its : List PV} {rest : List (String × RV)} (T : Tgt (.Tuple es j tp) xs) (hn : xs.Nodup) (hx : ∀ x ∈ xs, x ∈ ns) (kr : Keep xs σ.v rest) (h : E Γ n env σ e (.pv (.tup its))) (hl : its.length = xs.length)
  (he : ∀ env, exec (.Assign [.Tuple es j tp] e pos) env = (do
   standAt pos
   let v ← eval e env
   PySem.assign (.Tuple es j tp) env v
   pure .next)) (k : X Γ τ n env ns ⟨(xs.zip its).map (fun p => (p.1, RV.pv p.2)) ++ rest, σ.o⟩ more K) : X Γ τ n env ns σ (.Assign [.Tuple es j tp] e pos :: more) K := ⟨S.unp T hn hx kr ⟨es, j, tp, rfl⟩ h.run hl he k.run⟩
theorem X.freeze {b : List Stmt} {k : Nat} {xs : List PV} {v' : List (String × RV)} {orest : List (Nat × List PV)} (ho : (k, xs) ∈ σ.o) (kf : Frz k xs σ.v v') (ko : KeepO k σ.o orest) (h : X Γ τ n env ns ⟨v', orest⟩ b K) : X Γ τ n env ns σ b K := ⟨Ex.freeze ho kf ko h.run⟩
theorem X.while {c : Expr} {body : List Stmt} {pos : Pos} (I : Nat → St → Prop) (m : Nat) (h0 : I m σ)
  (turn : ∀ m σ1, I m σ1 → ∃ b, B Γ n env σ1 c b ∧ (b = false → X Γ τ n env ns σ1 more K) ∧ (b = true → X Γ τ n env ns σ1 body (kl (fun σ2 => ∃ m', m' < m ∧ I m' σ2) (kx Γ τ n env ns more K)))) :
  X Γ τ n env ns σ (.While c body [] pos :: more) K := by
 refine ⟨Ex.cons (Ex.while I (fun m σ1 i => ?_) m h0)⟩
 obtain ⟨b, hb, hf, ht⟩ := turn m σ1 i
 refine ⟨b, hb.run, fun e => (hf e).run, fun e => (ht e).run.mono fun a s q => ?_⟩
 cases a with
 | nx => exact q
 | ct => exact q
 | bk => exact (show X _ _ _ _ _ _ _ _ from q).run
 | rt v => exact q
theorem X.for {iter tgt : Expr} {body : List Stmt} {pos : Pos} {its : List (List PV)} {xs : List String} (I : Nat → St → Prop) (T : Tgt tgt xs) (hn : xs.Nodup) (hxn : ∀ x ∈ xs, x ∈ ns) (hI : EvI Γ n env σ iter tgt its) (hi : ∀ x ∈ its, x.length = xs.length)
  (h0 : I 0 σ) (turn : ∀ i x σ1, its[i]? = some x → I i σ1 → ∃ rest, Keep xs σ1.v rest ∧ X Γ τ n env ns ⟨(xs.zip x).map (fun p => (p.1, RV.pv p.2)) ++ rest, σ1.o⟩ body (kl (I (i + 1)) (kx Γ τ n env ns more K))) (done : ∀ σ1, I its.length σ1 → X Γ τ n env ns σ1 more K)
  (hs : ∀ x, foldedSetIterable iter env x = pure x) : X Γ τ n env ns σ (.For tgt iter body [] pos :: more) K := by
 refine ⟨Ex.cons (Ex.for I hI T hn hxn hi h0 (fun i x σ1 hx hi => ?_) (fun σ1 h => (done σ1 h).run) hs)⟩
 obtain ⟨rest, kr, b⟩ := turn i x σ1 hx hi
 refine ⟨rest, kr, b.run.mono fun a s q => ?_⟩
 cases a with
 | nx => exact q
 | ct => exact q
 | bk => exact (show X _ _ _ _ _ _ _ _ from q).run
 | rt v => exact q
theorem X.comp {x : String} {xp spos : Pos} {elt tgt iter : Expr} {pos : Pos} {xs : List String} {its : List α} {cv : α → List PV} {f : α → PV} {l : List (String × PV)} {rest : List (String × RV)}
  (G : EnvS env sc) (hx : x ∈ ns) (kr : Keep [x] σ.v rest) (C : CompOK scope sc (".0" :: xs)) (hl0 : Caps scope σ l) (T : Tgt tgt xs) (hn : xs.Nodup) (hi : ∀ x, (cv x).length = xs.length) (hI : EvI Γ n env σ iter tgt (its.map cv))
  (hz : its.length ≤ 2 ^ 24) (hin : ∀ cenv, EnvS cenv (relab scope sc) → ∀ x ∈ its, E Γ n cenv (pvSt (xs.zip (cv x) ++ l)) elt (.pv (f x))) (hsw : (sc.names.lookup (ofString x) == some .local && xp.line == pos.line && !(scope.names.any fun (n, k) => n == ofString x && (k == .local || k == .cell))) = true)
  (c : X Γ τ n env ns ⟨(x, .pv (.list (its.map f))) :: rest, σ.o⟩ more K) (hs : ∀ x, foldedSetIterable iter env x = pure x := by intro _; rfl) :
  X Γ τ n env ns σ (.Assign [.Name (ofString x) xp] (.ListComp elt [⟨tgt, iter, [], 0⟩] scope pos) spos :: more) K :=
 ⟨Ex.cons (Ex.O4 G hx kr C hl0 T hn hi hI hz (fun c g x hx => (hin c g x hx).run) (qf0 G hsw) c.run hs)⟩
theorem X.Q9 {x : String} {xp spos : Pos} {elt tgt iter t : Expr} {pos : Pos} {xs : List String} {its : List α} {cv : α → List PV} {tb : α → Bool} {f : α → PV} {l : List (String × PV)} {rest : List (String × RV)}
  (G : EnvS env sc) (hx : x ∈ ns) (kr : Keep [x] σ.v rest) (C : CompOK scope sc (".0" :: xs)) (hl0 : Caps scope σ l) (T : Tgt tgt xs) (hn : xs.Nodup) (hi : ∀ x, (cv x).length = xs.length) (hI : EvI Γ n env σ iter tgt (its.map cv))
  (hz : its.length ≤ 2 ^ 24) (ht : ∀ cenv, EnvS cenv (relab scope sc) → ∀ x ∈ its, B Γ n cenv (pvSt (xs.zip (cv x) ++ l)) t (tb x)) (hin : ∀ cenv, EnvS cenv (relab scope sc) → ∀ x ∈ its, tb x = true → E Γ n cenv (pvSt (xs.zip (cv x) ++ l)) elt (.pv (f x))) (hsw : (sc.names.lookup (ofString x) == some .local && xp.line == pos.line && !(scope.names.any fun (n, k) => n == ofString x && (k == .local || k == .cell))) = true)
  (c : X Γ τ n env ns ⟨(x, .pv (.list ((its.filter tb).map f))) :: rest, σ.o⟩ more K) (hs : ∀ x, foldedSetIterable iter env x = pure x := by intro _; rfl) :
  X Γ τ n env ns σ (.Assign [.Name (ofString x) xp] (.ListComp elt [⟨tgt, iter, [t], 0⟩] scope pos) spos :: more) K :=
 ⟨Ex.cons (Ex.Q9 G hx kr C hl0 T hn hi hI hz (fun c g x hx => (ht c g x hx).run) (fun c g x hx hb => (hin c g x hx hb).run) (qf0 G hsw) c.run hs)⟩
end
theorem FSpec.O2 {Γ : Cx} {n : Nat} {K : Frag} {f : Addr} {fd : FuncData} {body : List Stmt} {ps ns : List String} {xs : List PV} {r : PV} {c : Addr} {cvs : Array Value} {t : Tok} {v : List (String × RV)} (KX : K.In Γ.hB) (e1 : (K.lookup f).map Obj.data = some (.func fd)) (hbody : fd.body = .stmts body)
  (hc : fd.code = .ref c) (e2 : (K.lookup c).map (fun o => (isTb o, o.data)) = some (false, .fields cvs)) (hc1 : cvs[1]? = some (.str fd.qualname t)) (C : FunOK fd.scope ps ns)
  (hbind : ∀ Vs : List Value, Vs.length = ps.length → bindArgs fd ⟨Vs, []⟩ = pure ((ps.map ofString).zip Vs)) (hlen : xs.length = ps.length)
  (hrest : fd.closure = [] ∧ fd.globals = mainGlobals ∧ fd.builtins = builtinsNs ∧ fd.scope.isCoroutine = false ∧ fd.scope.isGenerator = false) (hv : (pvSt (ps.zip xs)).v = v)
  (h : ∀ kf env, EnvS env fd.scope → X (Γ.on kf) 0 n env ns ⟨v, []⟩ body fun af _ => af = .rt r) : FSpec Γ (n + 1) f xs r :=
 FSpec.introS KX e1 hbody hc e2 hc1 C hbind hlen hrest hv fun kf env G => (h kf env G).run
noncomputable def S (x : List Nat) : Str := ⟨x.toArray⟩
theorem S_len (x : List Nat) : (S x).length = x.length := by simp [S, Str.length]
theorem S_app (x y : List Nat) : S (x ++ y) = S x ++ S y := by
 show (⟨_⟩ : Str) = ⟨_⟩
 congr 1; simp [S]
noncomputable def jn (sep : List Nat) : List (List Nat) → List Nat
 | [] => []
 | [a] => a
 | a :: b :: r => a ++ sep ++ jn sep (b :: r)
theorem qq7 (sep : List Nat) : ∀ (ts : List (List Nat)), Str.join (S sep) (ts.map S) = S (jn sep ts)
 | [] => rfl
 | [a] => rfl
 | a :: b :: r => by
  haveI ih := qq7 sep (b :: r)
  simp only [map_cons] at ih ⊢
  rw [show Str.join (S sep) (S a :: S b :: r.map S) = S a ++ S sep ++ Str.join (S sep) (S b :: r.map S) from rfl, ih, ← S_app, ← S_app]
  rfl
theorem z79 {H : List Addr} {h : Heap} {Vs : List Value} {ts : List (List Nat)} (d : Dens H h Vs (ts.map PV.str)) : ∃ l : List (Str × Tok), Vs = strValues l ∧ l.map (·.1) = ts.map S := by
 induction ts generalizing Vs with
 | nil => cases d using Dens.nl; exact ⟨[], rfl, rfl⟩
 | cons a r ih =>
  cases d using Dens.cn with | cons d ds =>
  obtain ⟨l, e1, e2⟩ := ih ds
  cases d using Den.s with
  | str t => exact ⟨(S a, t) :: l, congrArg _ e1, congrArg _ e2⟩
section
variable {Γ : Cx} {n : Nat} {env : Env} {σ : St} {sc scope : Scope} {ns : List String} {α β : Type}
theorem Ev.U8 {o e : Expr} {es : List Expr} {name : Str} {apos pos : Pos} {id : String} {x : List Nat} {Ps : List (Pred Value)} {P : Pred Value} (ho : Ev Γ n env σ o (.pv (.str x))) (ha : EvS Γ n env σ pos (e :: es) Ps) (slot : Slot "str" name id) (ty : typeOf (.builtin id) = pure (.type "method_descriptor"))
  (hc : CallB Γ n env σ (.builtin id) (PR (.pv (.str x)) :: Ps) P) (hbase : attributeBase o name env (eval o env) = eval o env) (hline : (apos.endLine == pos.line) = true)
  (hfew : ((backTo pos (starEach (e :: es) env)).all (fun x => !x.1) && (backToKw pos (keywordEach [] env)).all (fun x => x.1.isSome) && decide ((e :: es).length + ([] : List Keyword).length + (if ([] : List Keyword).isEmpty then 0 else 1) < 30)) = true)
  (he : starEach (e :: es) env = (false, eval e env) :: starEach es env) (hp : (backTo pos (starEach (e :: es) env)).any (·.1) = false) :
  EvP Γ n env σ (eval (.Call (.Attribute o name apos) (e :: es) [] pos) env) P :=
 .mk fun A E s φ H R ok lv eo Q k => by
  refine wpAny_Call_method_lateS hbase hfew hline (ho.run A E s φ H R ok lv eo _ fun V s1 k1 ok1 d => ⟨"str", id, F.plainAttrs_str, slot, ty, ?_, ?_, ?_⟩)
  ·cases d using Den.s; rfl
  ·intro a ea; subst ea; cases d using Den.s
  refine Calls.callWith_builtin hp ?_
  rw [show backTo pos (starEach (e :: es) env) = (false, eval e env) :: backTo pos (starEach es env) by rw [he]; rfl]
  refine Calls.evalArgs_plain ?_
  rw [show (false, eval e env) :: backTo pos (starEach es env) = backTo pos (starEach (e :: es) env) by rw [he]; rfl]
  exact ha.run A E s1 φ H R ok1 (lv.kp k1) (eo.kp k1) _ fun Vs s2 k2 ok2 ds => hc (V :: Vs) A E s2 φ H R ok2 (lv.kp (k1.trans k2)) (eo.kp (k1.trans k2)) (.cons (mR _ _ _ _ _ _ k2 d) ds) Q fun W s3 k3 ok3 d3 => k W s3 ((k1.trans k2).trans k3) ok3 d3
theorem CallB.join {sep : List Nat} {ts : List (List Nat)} (hz : (ts.map List.length).sum + ts.length * sep.length ≤ 2 ^ 24) : CallB Γ n env σ (.builtin "str.join") [PR (.pv (.str sep)), PL (ts.map .str)] (PR (.pv (.str (jn sep ts)))) := fun Vs A E s φ H R ok lv eo c Q k => by
 obtain ⟨V, W, rfl, a, l, vs, rfl, hl, hd⟩ := c.two
 cases a using Den.s with
 | str t =>
  obtain ⟨lt, e1, e2⟩ := z79 hd
  refine SC.join (x := S sep) (D := l) (l := lt) (texts := ts.map S) ?_ e2 ?_ fun t' j => k _ _ (Kp.refl _) ok.toks ?_
  ·rw [← e1]; exact hl.isList
  ·unfold JoinOk
   rw [StrLaws.joinTotal]
   haveI h1 : ((ts.map S).map (·.length)) = ts.map List.length := by
    rw [map_map]; exact map_congr_left fun a _ => S_len a
   rw [h1, length_map, S_len]
   rw [show Builtin.Str.tooLong ((ts.map List.length).sum + ts.length * sep.length) = false from decide_eq_false (by simp only [sizeLine]; lia)]; rfl
  haveI : Txt.join (S sep) (ts.map S) = S (jn sep ts) := by
   unfold Txt.join
   rw [StrLaws.glued_eq_join, qq7]
  rw [this]; exact .str _ _
theorem E.join {o e : Expr} {apos pos : Pos} {sep : List Nat} {ts : List (List Nat)} (ho : E Γ n env σ o (.pv (.str sep))) (ha : EL Γ n env σ e (ts.map .str)) (hz : (ts.map List.length).sum + ts.length * sep.length ≤ 2 ^ 24) (hbase : attributeBase o (ofString "join") env (eval o env) = eval o env) (hline : (apos.endLine == pos.line) = true) (he : ∀ env, starEach [e] env = [(false, eval e env)]) :
  E Γ n env σ (.Call (.Attribute o (ofString "join") apos) [e] [] pos) (.pv (.str (jn sep ts))) :=
 ⟨Ev.U8 ho.run (EvS.cons (mL _) ha.run EvS.nil (fun env => he env)) F.slot_str_join F.type_str_join (CallB.join hz) hbase hline (by rw [he]; rfl) (he env) (by rw [he]; rfl)⟩
noncomputable def cnt (x y : List Nat) : Int := Txt.count (S x) (S y)
theorem qg4 {x : Str} {xp : Pos} {elt : Expr} {gs : List Comprehension} {pos : Pos} {l : Nat} (G : EnvS env sc) (h : (sc.names.lookup x == some .local && xp.line == pos.line && !(scope.names.any fun (n, k) => n == x && (k == .local || k == .cell))) = false) :
  swapsWith (.ListComp elt gs scope pos) (some (.Name x xp)) l env = pure false := by
 haveI hk : (env.blockKind == .function) = true := by unfold Env.blockKind; rw [G.scope, G.kind]; rfl
 show (pure (env.blockKind == .function && env.kindOf x == some .local && xp.line == pos.line && !(scope.names.any fun (n, k) => n == x && (k == .local || k == .cell))) : Sem Bool) = pure false
 rw [hk, show env.kindOf x = sc.names.lookup x by unfold Env.kindOf; rw [G.scope], Bool.true_and, h]
theorem X.compC {τ : Nat} {K : AF → St → Prop} {more : List Stmt} {x : String} {p pos pos' : Pos} {elt : Expr} {gs : List Comprehension} {r : RV} {rest : List (String × RV)} (G : EnvS env sc) (hx : x ∈ ns) (hs : (sc.names.lookup (ofString x) == some .local && p.line == pos'.line && !(scope.names.any fun (n, k) => n == ofString x && (k == .local || k == .cell))) = false) (kr : Keep [x] σ.v rest)
  (h : E Γ n env σ (.ListComp elt gs scope pos') r) (k : X Γ τ n env ns ⟨(x, r) :: rest, σ.o⟩ more K) : X Γ τ n env ns σ (.Assign [.Name (ofString x) p] (.ListComp elt gs scope pos') pos :: more) K :=
 X.asg hx (qg4 G hs) kr h k
end
inductive HasV (v : List (String × RV)) : List (String × RV) → Prop
 | nil : HasV v []
 | cons {p : String × RV} {l : List (String × RV)} : p ∈ v → HasV v l → HasV v (p :: l)
inductive HasO (o : List (Nat × List PV)) : List (Nat × List PV) → Prop
 | nil : HasO o []
 | cons {p : Nat × List PV} {l : List (Nat × List PV)} : p ∈ o → HasO o l → HasO o (p :: l)
theorem HasV.mem {v l : List (String × RV)} (h : HasV v l) : ∀ p ∈ l, p ∈ v := by
 induction h with
 | nil => exact fun _ m => nomatch m
 | cons a _ ih => exact fun p m => (mem_cons.mp m).elim (fun e => e ▸ a) (ih p)
theorem HasO.mem {v l : List (Nat × List PV)} (h : HasO v l) : ∀ p ∈ l, p ∈ v := by
 induction h with
 | nil => exact fun _ m => nomatch m
 | cons a _ ih => exact fun p m => (mem_cons.mp m).elim (fun e => e ▸ a) (ih p)
structure Has (s σ : St) : Prop where
 v : HasV σ.v s.v
 o : HasO σ.o s.o
section
variable {Γ : Cx} {τ n : Nat} {env : Env} {σ s1 : St} {sc scope : Scope} {ns : List String} {K : AF → St → Prop} {α β ι : Type} {more : List Stmt}
theorem EnvOK.has {φ : Nat → Addr} {H : List Addr} {h : Heap} (eo : EnvOK env φ H σ h) (a : Has s1 σ) : EnvOK env φ H s1 h :=
 ⟨fun x r m => eo.vars x r (a.v.mem _ m), fun k ys m => eo.own k ys (a.o.mem _ m), eo.cells⟩
theorem EvP.has {α : Type} {t : Sem α} {P : Pred α} (a : Has s1 σ) (h : EvP Γ n env s1 t P) : EvP Γ n env σ t P := .mk fun A E s φ H R ok lv eo Q k => h.run A E s φ H R ok lv (eo.has a) Q k
theorem B.has {c : Expr} {b : Bool} (a : Has s1 σ) (h : B Γ n env s1 c b) : B Γ n env σ c b := ⟨h.run.has a⟩
theorem Fr.has {φ : Nat → Addr} {Mw Lo H : List Addr} {s : Shared} (F : Fr Γ env ns φ Mw Lo H σ s) (a : Has s1 σ) : Fr Γ env ns φ Mw Lo H s1 s :=
 ⟨F.ok, F.live, F.eo.has a, F.wr, F.off, fun k ys m => F.own k ys (a.o.mem _ m), fun k ys j zs m1 m2 e => F.inj k ys j zs (a.o.mem _ m1) (a.o.mem _ m2) e, F.dis, F.oc, F.loc, F.kind⟩
theorem X.has {b : List Stmt} (a : Has s1 σ) (h : X Γ τ n env ns s1 b K) : X Γ τ n env ns σ b K :=
 ⟨.mk' fun A E s φ Mw Lo H R F τ0 Q q => h.run.run A E s φ Mw Lo H R (F.has a) τ0 Q fun fl s' af σ' φ' Lo' c F' g' fr _ => q fl s' af σ' φ' Lo' c F' g' fr⟩
theorem X.R2 {c : Expr} {body : List Stmt} {pos : Pos} (st : ι → St) (J : ι → Prop) (μ : ι → Nat) (i0 : ι) (h0 : Has (st i0) σ) (j0 : J i0)
  (turn : ∀ i, J i → ∃ b, B Γ n env (st i) c b ∧ (b = false → X Γ τ n env ns (st i) more K) ∧ (b = true → X Γ τ n env ns (st i) body (kl (fun σ2 => ∃ i', J i' ∧ μ i' < μ i ∧ Has (st i') σ2) (kx Γ τ n env ns more K)))) :
  X Γ τ n env ns σ (.While c body [] pos :: more) K := by
 refine X.while (fun m σ1 => ∃ i, J i ∧ μ i = m ∧ Has (st i) σ1) (μ i0) ⟨i0, j0, rfl, h0⟩ fun m σ1 ⟨i, ji, hm, hi⟩ => ?_
 obtain ⟨b, hb, hf, ht⟩ := turn i ji
 refine ⟨b, hb.has hi, fun e => (hf e).has hi, fun e => ?_⟩
 refine ⟨((ht e).has hi).run.mono fun a s q => ?_⟩
 cases a with
 | nx => obtain ⟨i', j', hlt, h'⟩ := q; exact ⟨μ i', hm ▸ hlt, i', j', rfl, h'⟩
 | ct => obtain ⟨i', j', hlt, h'⟩ := q; exact ⟨μ i', hm ▸ hlt, i', j', rfl, h'⟩
 | _ => exact q
theorem q68 (xs : List String) : ∀ (l : List (String × RV)), Keep xs l (l.filter fun p => !xs.contains p.1)
 | [] => .nil
 | (x, r) :: l => by
  by_cases h : xs.contains x = true
  ·rw [List.filter_cons_of_neg (by rw [h]; exact Bool.noConfusion)]; exact .drop (q68 xs l)
  rw [List.filter_cons_of_pos (by simpa using h)]
  exact .take (by simpa using h) (q68 xs l)
theorem X.forM {iter tgt : Expr} {body : List Stmt} {pos : Pos} {its : List (List PV)} {xs : List String} (st : ι → St) (J : Nat → ι → Prop) (T : Tgt tgt xs) (hn : xs.Nodup) (hxn : ∀ x ∈ xs, x ∈ ns) (hI : EvI Γ n env σ iter tgt its) (hi : ∀ x ∈ its, x.length = xs.length)
  (hst : ∀ i, ∀ p ∈ (st i).v, p.1 ∉ xs) (i0 : ι) (h0 : Has (st i0) σ) (j0 : J 0 i0)
  (turn : ∀ k x i, its[k]? = some x → J k i → X Γ τ n env ns ⟨(xs.zip x).map (fun p => (p.1, RV.pv p.2)) ++ (st i).v, (st i).o⟩ body (kl (fun σ2 => ∃ i', J (k + 1) i' ∧ Has (st i') σ2) (kx Γ τ n env ns more K)))
  (done : ∀ i, J its.length i → X Γ τ n env ns (st i) more K) (hs : ∀ x, foldedSetIterable iter env x = pure x) : X Γ τ n env ns σ (.For tgt iter body [] pos :: more) K := by
 refine X.for (fun k σ1 => ∃ i, J k i ∧ Has (st i) σ1) T hn hxn hI hi ⟨i0, j0, h0⟩ (fun k x σ1 hx ⟨i, ji, hi⟩ => ?_) (fun σ1 ⟨i, ji, hi⟩ => (done i ji).has hi) hs
 refine ⟨_, q68 xs σ1.v, X.has ?_ (turn k x i hx ji)⟩
 refine ⟨?_, hi.o⟩
 haveI : ∀ l : List (String × RV), (∀ p ∈ l, p ∈ (xs.zip x).map (fun p => (p.1, RV.pv p.2)) ++ σ1.v.filter fun p => !xs.contains p.1) → HasV ((xs.zip x).map (fun p => (p.1, RV.pv p.2)) ++ σ1.v.filter fun p => !xs.contains p.1) l := by
  intro l
  induction l with
  | nil => intro _; exact .nil
  | cons p l ih => intro h; exact .cons (h p (.head _)) (ih fun q hq => h q (.tail _ hq))
 refine this _ fun p hp => ?_
 rcases mem_append.mp hp with m | m
 ·exact mem_append_left _ m
 exact mem_append_right _ (mem_filter.mpr ⟨hi.v.mem p m, by simpa using hst i p m⟩)
end
theorem qw7 (a b : Nat) : (([a] : List Nat) < [b]) ↔ a < b := by
 rw [List.cons_lt_cons_iff]
 constructor
 ·rintro (h | ⟨_, h⟩)
  ·exact h
  cases h
 exact .inl
section
variable {Γ : Cx} {n : Nat} {env : Env} {σ : St} {sc scope : Scope} {ns : List String} {α β : Type}
theorem Evb.chain {l r1 r2 : Expr} {op1 op2 : CmpOp} {pos : Pos} {Pa Pb Pc : Pred Value} {b c : Bool} (ma : MonoP Pa) (mb : MonoP Pb) (ha : EvP Γ n env σ (eval l env) Pa) (hb : EvP Γ n env σ (eval r1 env) Pb) (c1 : Cmp Γ n op1 Pa Pb b) (hc : b = true → EvP Γ n env σ (eval r2 env) Pc) (c2 : Cmp Γ n op2 Pb Pc c)
  (hm : lastMarks [op1, op2] [r1, r2] = false) : Evb Γ n env σ (.Compare l [op1, op2] [r1, r2] pos) (b && c) :=
 .mk fun A E s φ H R ok lv eo Q k => by
  refine isTrue_chain (ha.run A E s φ H R ok lv eo _ fun V s1 k1 ok1 d1 => test_link ?_) hm
  refine hb.run A E s1 φ H R ok1 (lv.kp k1) (eo.kp k1) _ fun W s2 k2 ok2 d2 => ?_
  refine c1 A E s2 φ H V W R ok2 (ma _ _ _ _ _ k2 d1) d2 _ (wpAny_truthy_bool ?_)
  cases b with
  | false => exact k _ _ (k1.trans k2) ok2 rfl
  | true =>
   refine test_last ((hc rfl).run A E s2 φ H R ok2 (lv.kp (k1.trans k2)) (eo.kp (k1.trans k2)) _ fun X s3 k3 ok3 d3 => ?_)
   exact c2 A E s3 φ H W X R ok3 (mb _ _ _ _ _ k3 d2) d3 _ (wpAny_truthy_bool (k _ _ ((k1.trans k2).trans k3) ok3 rfl))
theorem B.between {l r1 r2 : Expr} {pos : Pos} {a b c : Nat} (ha : E Γ n env σ l (.pv (.str [a]))) (hb : E Γ n env σ r1 (.pv (.str [b]))) (hc : E Γ n env σ r2 (.pv (.str [c]))) (hm : lastMarks [.LtE, .LtE] [r1, r2] = false) :
  B Γ n env σ (.Compare l [.LtE, .LtE] [r1, r2] pos) (decide (a ≤ b) && decide (b ≤ c)) := by
 haveI e : ∀ x y : Nat, (!decide (([y] : List Nat) < [x])) = decide (x ≤ y) := fun x y => by
  rw [decide_eq_decide.mpr (qw7 y x)]
  by_cases h : x ≤ y
  ·rw [decide_eq_false (by lia), decide_eq_true h]; rfl
  rw [decide_eq_true (by lia), decide_eq_false h]; rfl
 have := Evb.chain (pos := pos) (mR _) (mR _) ha.run hb.run Cmp.le_str (fun _ => hc.run) Cmp.le_str hm
 rw [e, e] at this
 exact ⟨this⟩
theorem B.lt1 {l r : Expr} {pos : Pos} {a b : Nat} (ha : E Γ n env σ l (.pv (.str [a]))) (hb : E Γ n env σ r (.pv (.str [b]))) (hm : behindInMarks .Lt r = false) : B Γ n env σ (.Compare l [.Lt] [r] pos) (decide (a < b)) := by
 have := B.lts (pos := pos) ha hb hm
 haveI e : decide (([a] : List Nat) < [b]) = decide (a < b) := decide_eq_decide.mpr (qw7 a b)
 rwa [e] at this
theorem B.neb {l r : Expr} {pos : Pos} {a b : Bool} (ha : E Γ n env σ l (.pv (.bool a))) (hb : E Γ n env σ r (.pv (.bool b))) (hm : behindInMarks .NotEq r = false) : B Γ n env σ (.Compare l [.NotEq] [r] pos) (a != b) := by
 have := B.net .bool (pos := pos) ha hb trivial trivial (by decide) hm
 haveI e : (!eqp .bool (.bool a) (.bool b)) = (a != b) := rfl
 rwa [e] at this
end
section
variable {Γ : Cx} {τ n : Nat} {env : Env} {σ : St} {ns : List String} {K : AF → St → Prop}
theorem qh6 {M : Model} {A : Around} {E : Value → Shared → Prop} {s : Shared} {st : Stmt} {env : Env} {Q : Flow → Shared → Prop} (h : wpAny M A (execs [st] env) Q E s) : wpAny M A (exec st env) Q E s := fun Γ p hΓ => by
 have := h Γ p hΓ
 rw [execs_cons, Sem.wp_bind'] at this
 refine Sem.wp_mono M Γ _ (fun f p' s' q => ?_) (fun _ _ _ q => q) _ _ this
 cases f with
 | next => rw [execs_nil, Sem.wp_pure'] at q; exact q
 | _ => dsimp only [Sem.wp_pure'] at q; exact q
theorem X.cut {st : Stmt} {more : List Stmt} (P : St → Prop) (h1 : X Γ τ n env ns σ [st] (fun a s => a = .nx ∧ P s)) (h2 : ∀ s, P s → X Γ τ n env ns s more K) : X Γ τ n env ns σ (st :: more) K := by
 refine ⟨Ex.cons (.mk fun A E s φ Mw Lo H R F τ0 Q q => qh6 (h1.run.run A E s φ Mw Lo H R F τ0 Q fun fl s' af σ' φ' Lo' c F' g' fr τ' => q fl s' af σ' φ' Lo' ?_ F' g' fr τ'))⟩
 obtain ⟨rfl, hp⟩ := c
 exact (h2 _ hp).run
theorem X.end {more : List Stmt} (k : X Γ τ n env ns σ more K) : X Γ τ n env ns σ [] (kx Γ τ n env ns more K) := X.nil k
theorem X.W6 {next : St → Prop} (k : next σ) : X Γ τ n env ns σ [] (kl next K) := X.nil k
end
section
variable {Γ : Cx} {τ n : Nat} {env : Env} {σ : St} {ns : List String} {K : AF → St → Prop} {more : List Stmt}
theorem X.U5 {x : String} {p pos : Pos} {e : Expr} {a b : Int} {c : Int} {rest : List (String × RV)} (hx : x ∈ ns) (hm : (x, RV.pv (.int a)) ∈ σ.v) (kr : Keep [x] σ.v rest) (h : E Γ n env σ e (.pv (.int b))) (hc : a + b = c)
  (k : X Γ τ n env ns ⟨(x, .pv (.int c)) :: rest, σ.o⟩ more K) : X Γ τ n env ns σ (.AugAssign (.Name (ofString x) p) .Add e pos :: more) K := by
 subst hc; exact X.aug hx hm kr h k
end
theorem sat {x : List Nat} {i : Nat} {c : Nat} (h : x[i]? = some c) : (seqIndex? (i : Int) x.length).bind (x[·]?) = some c := by
 obtain ⟨hlt, _⟩ := List.getElem?_eq_some_iff.mp h
 rw [q46 (by lia) (by lia), toNat_natCast]; exact h
structure ZAp (z TI TO i1 i2 : Addr) (f1 f2 : List Addr) : Prop where
 TIz : TI ≠ z
 TOz : TO ≠ z
 i1z : i1 ≠ z
 i2z : i2 ≠ z
 TITO : TI ≠ TO
 TIi1 : TI ≠ i1
 TIi2 : TI ≠ i2
 TOi1 : TO ≠ i1
 TOi2 : TO ≠ i2
 i12 : i1 ≠ i2
 zf1 : z ∉ f1
 Tf1 : TO ∉ f1
 if1 : i2 ∉ f1
 zf2 : z ∉ f2
 Tf2 : TO ∉ f2
 if2 : i1 ∉ f2
section
variable {prog : Program} {w : World} {A : Around} {E : Value → Shared → Prop} {s : Shared}
theorem Draws.same {it : Addr} {fp : List Addr} {n : Nat} {P : Nat → Value → Prop} {St : Nat → Heap → Prop} (D : Draws prog w A it fp n P St) {i : Nat} {c : Addr} {h h' : Heap} (st : St i h) (hs : Heap.ExtBut c h h') (hc : c ∉ fp) : St i h' :=
 D.frame _ _ _ st fun b hb o e => hs b o (fun q => hc (q ▸ hb)) e
theorem qv2 {z TI TO i1 i2 : Addr} {f1 f2 : List Addr} {n1 n2 k : Nat} {P1 P2 : Nat → Value → Prop} {S1 S2 : Nat → Heap → Prop} {a b : Value} {Q : Value → Shared → Prop} (D : ZAp z TI TO i1 i2 f1 f2)
  (D1 : Draws prog w A i1 f1 n1 P1 S1) (D2 : Draws prog w A i2 f2 n2 P2 S2)
  (hz : IsZip s.heap z TI TO .none) (hTI : IsPair s.heap TI (.ref i1) (.ref i2)) (hTO : IsPair s.heap TO a b)
  (h1 : S1 k s.heap) (h2 : S2 k s.heap) (hk1 : k < n1) (hk2 : k < n2)
  (hQ : ∀ h' tk x y, P1 k x → P2 k y → IsZip h' z TI TO (rawInt s.heap.objs.size) → IsPair h' TO x y → S1 (k + 1) h' → S2 (k + 1) h' → IsPair h' s.heap.objs.size x y → h'.objs.size = s.heap.objs.size + 1 →
   (∀ c o, c ≠ z → c ≠ TO → c ≠ i1 → c ≠ i2 → s.heap.get? c = some o → h'.get? c = some o) → Q (.ref s.heap.objs.size) { s with heap := h', toks := tk }) :
  wpAny (model prog w) A (Builtin.«zip.__next__» ⟨[.ref z], []⟩) (fun fin s' => ∃ v, fin = .done (.ret v) ∧ Q v s') E s := by
 obtain ⟨hp, g, d, tk0, os⟩ := s
 show wpAny _ _ (field (.ref z) 2 >>= _) _ _ _
 refine wpAny_bind (wpAny_field hz rfl (x := .bool false) rfl ?_)
 show wpAny _ _ (field (.ref z) 3 >>= _) _ _ _
 refine wpAny_bind (wpAny_field hz rfl (x := .ref TI) rfl ?_)
 refine wpAny_bind (wpAny_seqItems hTI rfl ?_)
 show wpAny _ _ (Builtin.SmallTypes.ownedTupleIsFree (.ref z) >>= _) _ _ _
 refine wpAny_bind ?_
 unfold Builtin.SmallTypes.ownedTupleIsFree
 refine wpAny_bind (wpAny_field hz rfl (x := .none) rfl (wpAny_pure ?_))
 dsimp only [if_true]
 refine wpAny_bind (wpAny_rule ?_)
 refine wpAny_bind (wpAny_field hz rfl (x := .ref TO) rfl ?_)
 refine wpAny_bind (wpAny_setField_rec hz (by simp) fun h₁ hz₁ hs₁ => ?_)
 replace hz₁ : IsZip h₁ z TI TO .ellipsis := hz₁
 replace hs₁ : SameBut z hp h₁ := hs₁
 refine wpAny_bind ?_
 simp only [List.zipIdx_cons, List.zipIdx_nil, forIn_cons, forIn_nil]
 refine wpAny_bind (wpAny_bind (wpAny_onRaise ?_))
 show wpAny _ _ (Builtin.SmallTypes.nextOf (.ref i1) >>= _) _ _ _
 refine wpAny_bind (D1.item k _ _ _ hk1 (Draws.same D1 h1 hs₁.extBut D.zf1) fun x h₂ tk1 hx h1₂ hs₂ => wpAny_pure ?_)
 replace hs₂ : SameBut i1 h₁ h₂ := hs₂
 have hTO₂ : IsPair h₂ TO a b := hs₂.extBut _ _ D.TOi1 (hs₁.extBut _ _ D.TOz hTO)
 refine wpAny_bind (wpAny_seqItems hTO₂ rfl ?_)
 refine wpAny_bind (wpAny_updateSeq_pair hTO₂ fun h₃ hTO₃ hs₃ => ?_)
 replace hTO₃ : IsPair h₃ TO x b := hTO₃
 replace hs₃ : SameBut TO h₂ h₃ := hs₃
 refine wpAny_bind (wpAny_letGo (wpAny_pure ?_))
 refine wpAny_bind (wpAny_bind (wpAny_onRaise ?_))
 show wpAny _ _ (Builtin.SmallTypes.nextOf (.ref i2) >>= _) _ _ _
 refine wpAny_bind (D2.item k _ _ _ hk2 (Draws.same D2 (Draws.same D2 (Draws.same D2 h2 hs₁.extBut D.zf2) hs₂.extBut D.if2) hs₃.extBut D.Tf2) fun y h₄ tk2 hy h2₄ hs₄ => wpAny_pure ?_)
 replace hs₄ : SameBut i2 h₃ h₄ := hs₄
 have hTO₄ : IsPair h₄ TO x b := hs₄.extBut _ _ D.TOi2 hTO₃
 refine wpAny_bind (wpAny_seqItems hTO₄ rfl ?_)
 refine wpAny_bind (wpAny_updateSeq_pair hTO₄ fun h₅ hTO₅ hs₅ => ?_)
 replace hTO₅ : IsPair h₅ TO x y := hTO₅
 replace hs₅ : SameBut TO h₄ h₅ := hs₅
 refine wpAny_bind (wpAny_letGo (wpAny_pure (wpAny_pure ?_)))
 refine wpAny_bind (wpAny_seqItems hTO₅ rfl ?_)
 refine wpAny_bind (wpAny_newTuple ?_)
 have hsz : h₅.objs.size = hp.objs.size := by rw [hs₅.1, hs₄.1, hs₃.1, hs₂.1, hs₁.1]
 have hz₅ : IsZip h₅ z TI TO .ellipsis := hs₅.extBut _ _ D.TOz.symm (hs₄.extBut _ _ D.i2z.symm (hs₃.extBut _ _ D.TOz.symm (hs₂.extBut _ _ D.i1z.symm hz₁)))
 have hk₅ : ∀ c o, c ≠ z → c ≠ TO → c ≠ i1 → c ≠ i2 → hp.get? c = some o → h₅.get? c = some o := fun c o c1 c2 c3 c4 e =>
  hs₅.extBut _ _ c2 (hs₄.extBut _ _ c4 (hs₃.extBut _ _ c2 (hs₂.extBut _ _ c3 (hs₁.extBut _ _ c1 e))))
 have h1₅ : S1 (k + 1) h₅ := Draws.same D1 (Draws.same D1 (Draws.same D1 h1₂ hs₃.extBut D.Tf1) hs₄.extBut D.if1) hs₅.extBut D.Tf1
 have h2₅ : S2 (k + 1) h₅ := Draws.same D2 h2₄ hs₅.extBut D.Tf2
 have hzlt : z < h₅.objs.size := lt_size hz₅
 show wpAny _ _ (Builtin.SmallTypes.ownedTupleHandOut (.ref z) (.ref h₅.objs.size) >>= _) _ _ _
 refine wpAny_bind ?_
 unfold Builtin.SmallTypes.ownedTupleHandOut
 have hz₆ : IsZip (h₅.push { cls := .type "tuple", data := .seq #[x, y] }) z TI TO .ellipsis := get?_push_of_some _ hz₅
 refine wpAny_bind (wpAny_setField_rec hz₆ (by simp) fun h₇ hz₇ hs₇ => ?_)
 replace hz₇ : IsZip h₇ z TI TO (rawInt h₅.objs.size) := hz₇
 refine wpAny_setField_rec hz₇ (by simp) fun h₈ hz₈ hs₈ => ?_
 replace hz₈ : IsZip h₈ z TI TO (rawInt h₅.objs.size) := hz₈
 have up : ∀ c o, c ≠ z → h₅.get? c = some o → h₈.get? c = some o := fun c o c1 e => hs₈.extBut _ _ c1 (hs₇.extBut _ _ c1 (get?_push_of_some _ e))
 have hT₈ : IsPair h₈ h₅.objs.size x y := hs₈.extBut _ _ (ne_of_gt hzlt) (hs₇.extBut _ _ (ne_of_gt hzlt) (get?_push_size _ rfl))
 haveI hz8 : h₈.objs.size = h₅.objs.size + 1 := by rw [hs₈.1, hs₇.1, Heap.size_push]
 rw [hsz] at hz₈ hT₈ hz8
 refine wpAny_pure ⟨_, rfl, ?_⟩
 show Q (.ref h₅.objs.size) _
 rw [hsz]
 exact hQ h₈ _ x y hx hy hz₈ (up _ _ D.TOz hTO₅) (D1.frame _ _ _ h1₅ fun b hb o e => up b o (fun q => D.zf1 (q ▸ hb)) e) (D2.frame _ _ _ h2₅ fun b hb o e => up b o (fun q => D.zf2 (q ▸ hb)) e) hT₈ hz8 fun c o c1 c2 c3 c4 e => up c o c1 (hk₅ c o c1 c2 c3 c4 e)
theorem z30 {z TI TO i1 i2 : Addr} {f1 f2 : List Addr} {n1 n2 : Nat} {P1 P2 : Nat → Value → Prop} {S1 S2 : Nat → Heap → Prop} {a b : Value} {Q : Fin → Shared → Prop} (D : ZAp z TI TO i1 i2 f1 f2)
  (D1 : Draws prog w A i1 f1 n1 P1 S1) (D2 : Draws prog w A i2 f2 n2 P2 S2)
  (hz : IsZip s.heap z TI TO .none) (hTI : IsPair s.heap TI (.ref i1) (.ref i2)) (hTO : IsPair s.heap TO a b)
  (h1 : S1 (min n1 n2) s.heap) (h2 : S2 (min n1 n2) s.heap)
  (hE : ∀ h' tk e, (∀ c o, c ≠ z → c ≠ TO → c ≠ i1 → c ≠ i2 → s.heap.get? c = some o → h'.get? c = some o) → (∃ o, h'.get? e = some o ∧ o.cls = .type "StopIteration") → E (.ref e) { s with heap := h', toks := tk }) :
  wpAny (model prog w) A (Builtin.«zip.__next__» ⟨[.ref z], []⟩) Q E s := by
 obtain ⟨hp, g, d, tk0, os⟩ := s
 show wpAny _ _ (field (.ref z) 2 >>= _) _ _ _
 refine wpAny_bind (wpAny_field hz rfl (x := .bool false) rfl ?_)
 show wpAny _ _ (field (.ref z) 3 >>= _) _ _ _
 refine wpAny_bind (wpAny_field hz rfl (x := .ref TI) rfl ?_)
 refine wpAny_bind (wpAny_seqItems hTI rfl ?_)
 show wpAny _ _ (Builtin.SmallTypes.ownedTupleIsFree (.ref z) >>= _) _ _ _
 refine wpAny_bind ?_
 unfold Builtin.SmallTypes.ownedTupleIsFree
 refine wpAny_bind (wpAny_field hz rfl (x := .none) rfl (wpAny_pure ?_))
 dsimp only [if_true]
 refine wpAny_bind (wpAny_rule ?_)
 refine wpAny_bind (wpAny_field hz rfl (x := .ref TO) rfl ?_)
 refine wpAny_bind (wpAny_setField_rec hz (by simp) fun h₁ hz₁ hs₁ => ?_)
 replace hz₁ : IsZip h₁ z TI TO .ellipsis := hz₁
 replace hs₁ : SameBut z hp h₁ := hs₁
 refine wpAny_bind ?_
 simp only [List.zipIdx_cons, List.zipIdx_nil, forIn_cons, forIn_nil]
 refine wpAny_bind (wpAny_bind (wpAny_onRaise ?_))
 show wpAny _ _ (Builtin.SmallTypes.nextOf (.ref i1) >>= _) _ _ _
 by_cases hc : n1 ≤ n2
 ·rw [Nat.min_eq_left hc] at h1
  refine wpAny_bind (D1.done _ _ _ (Draws.same D1 h1 hs₁.extBut D.zf1) fun h₂ e hs₂ he => ?_)
  replace hs₂ : Heap.ExtBut i1 h₁ h₂ := hs₂
  obtain ⟨oe, hoe, hce⟩ := he
  have hz₂ : IsZip h₂ z TI TO .ellipsis := hs₂ _ _ D.i1z.symm hz₁
  have hez : e ≠ z := fun x => by subst x; rw [hz₂] at hoe; cases hoe; simp at hce
  refine wpAny_setField_rec hz₂ (by simp) fun h₃ _ hs₃ => hE h₃ _ e (fun c o c1 _ c3 _ x => hs₃.extBut _ _ c1 (hs₂ _ _ c3 (hs₁.extBut _ _ c1 x))) ⟨oe, hs₃.extBut _ _ hez hoe, hce⟩
 haveI hc' : n2 < n1 := Nat.lt_of_not_le hc
 rw [Nat.min_eq_right (Nat.le_of_lt hc')] at h1 h2
 refine wpAny_bind (D1.item n2 _ _ _ hc' (Draws.same D1 h1 hs₁.extBut D.zf1) fun x h₂ tk1 hx h1₂ hs₂ => wpAny_pure ?_)
 replace hs₂ : SameBut i1 h₁ h₂ := hs₂
 have hTO₂ : IsPair h₂ TO a b := hs₂.extBut _ _ D.TOi1 (hs₁.extBut _ _ D.TOz hTO)
 refine wpAny_bind (wpAny_seqItems hTO₂ rfl ?_)
 refine wpAny_bind (wpAny_updateSeq_pair hTO₂ fun h₃ hTO₃ hs₃ => ?_)
 replace hs₃ : SameBut TO h₂ h₃ := hs₃
 refine wpAny_bind (wpAny_letGo (wpAny_pure ?_))
 refine wpAny_bind (wpAny_bind (wpAny_onRaise ?_))
 show wpAny _ _ (Builtin.SmallTypes.nextOf (.ref i2) >>= _) _ _ _
 refine wpAny_bind (D2.done _ _ _ (Draws.same D2 (Draws.same D2 (Draws.same D2 h2 hs₁.extBut D.zf2) hs₂.extBut D.if2) hs₃.extBut D.Tf2) fun h₄ e hs₄ he => ?_)
 replace hs₄ : Heap.ExtBut i2 h₃ h₄ := hs₄
 obtain ⟨oe, hoe, hce⟩ := he
 have hz₄ : IsZip h₄ z TI TO .ellipsis := hs₄ _ _ D.i2z.symm (hs₃.extBut _ _ D.TOz.symm (hs₂.extBut _ _ D.i1z.symm hz₁))
 have hez : e ≠ z := fun x => by subst x; rw [hz₄] at hoe; cases hoe; simp at hce
 refine wpAny_setField_rec hz₄ (by simp) fun h₅ _ hs₅ => hE h₅ _ e (fun c o c1 c2 c3 c4 x => hs₅.extBut _ _ c1 (hs₄ _ _ c4 (hs₃.extBut _ _ c2 (hs₂.extBut _ _ c3 (hs₁.extBut _ _ c1 x))))) ⟨oe, hs₅.extBut _ _ hez hoe, hce⟩
end
section
variable {prog : Program} {w : World} {A : Around} {E : Value → Shared → Prop} {s : Shared}
theorem WalksT.zipD (hh : A.handled = none) (z TI TO i1 i2 : Addr) (f1 f2 : List Addr) (D : ZAp z TI TO i1 i2 f1 f2) {n1 n2 : Nat} {P1 P2 : Nat → Value → Prop} {S1 S2 : Nat → Heap → Prop}
  (D1 : Draws prog w A.in1 i1 f1 n1 P1 S1) (D2 : Draws prog w A.in1 i2 f2 n2 P2 S2) (l1 : ∀ i h, S1 i h → ∃ o, h.get? i1 = some o) (l2 : ∀ i h, S2 i h → ∃ o, h.get? i2 = some o) :
  WalksT prog w A z (z :: TI :: TO :: i1 :: i2 :: (f1 ++ f2)) [z, TO, i1, i2] (min n1 n2)
   (fun i vals => ∃ x y, P1 i x ∧ P2 i y ∧ vals = #[x, y])
   (fun i h => IsZip h z TI TO .none ∧ IsPair h TI (.ref i1) (.ref i2) ∧ (∃ a b, IsPair h TO a b) ∧ S1 i h ∧ S2 i h)
   (fun i T h => IsZip h z TI TO (rawInt T) ∧ IsPair h TI (.ref i1) (.ref i2) ∧ (∃ a b, IsPair h TO a b) ∧ S1 (i + 1) h ∧ S2 (i + 1) h ∧ T ≠ z ∧ T ≠ TO ∧ T ≠ i1 ∧ T ≠ i2) where
 sub := fun c hc => by simp at hc ⊢; rcases hc with rfl | rfl | rfl | rfl <;> simp
 frame := fun i h h' hst hk => by
  obtain ⟨hz, hTI, ⟨a, b, hTO⟩, h1, h2⟩ := hst
  exact ⟨hk z (by simp) _ hz, hk TI (by simp) _ hTI, ⟨a, b, hk TO (by simp) _ hTO⟩, D1.frame _ _ _ h1 fun b hb o e => hk b (by simp [hb]) o e, D2.frame _ _ _ h2 fun b hb o e => hk b (by simp [hb]) o e⟩
 item := fun i s Q E hi hst hQ => by
  obtain ⟨hz, hTI, ⟨a, b, hTO⟩, h1, h2⟩ := hst
  haveI hix : i < n1 := Nat.lt_of_lt_of_le hi (Nat.min_le_left ..)
  haveI hiy : i < n2 := Nat.lt_of_lt_of_le hi (Nat.min_le_right ..)
  have hT : s.TypeIs (.ref z) "zip" := ⟨_, hz, rfl⟩
  have lt : ∀ {c o}, s.heap.get? c = some o → s.heap.objs.size ≠ c := fun e => ne_of_gt (lt_size e)
  unfold pyNext
  refine wpAny_bind (wpAny_attempt (wpAny_callSpecial?_slot (name := ofString "__next__") hT F.slot_zip_next
   (wpAny_call_entry F.slot_zip_next hT F.entry_zip_next
    (qv2 D D1 D2 hz hTI hTO h1 h2 hix hiy fun h' tk x y hx hy a1 a2 a3 a4 a5 a6 hk => wpAny_pure ?_) (F.args_zip_next_1 _))))
  refine hQ s.heap.objs.size #[x, y] h' tk ⟨_, _, hx, hy, rfl⟩ (Nat.le_refl _) ⟨_, a5, rfl, _, rfl⟩ ⟨a1, hk _ _ D.TIz D.TITO D.TIi1 D.TIi2 hTI, ⟨_, _, a2⟩, a3, a4, lt hz, lt hTO, ?_, ?_⟩ ?_
  ·obtain ⟨o, e⟩ := l1 _ _ h1; exact lt e
  ·obtain ⟨o, e⟩ := l2 _ _ h2; exact lt e
  exact fun c o hc e => hk c o (fun x => hc (by simp [x])) (fun x => hc (by simp [x])) (fun x => hc (by simp [x])) (fun x => hc (by simp [x])) e
 go := fun elts k pos i T s Q E hm hQ => by
  obtain ⟨hz, hTI, ⟨a, b, hTO⟩, h1, h2, _⟩ := hm
  refine wpAny_letOwnedTupleGo_zip hz fun h' hz' hs' => hQ h' ⟨hz', hs'.extBut _ _ D.TIz hTI, ⟨a, b, hs'.extBut _ _ D.TOz hTO⟩, Draws.same D1 h1 hs'.extBut D.zf1, Draws.same D2 h2 hs'.extBut D.zf2⟩ fun c o hc e => hs'.extBut _ _ (fun x => hc (by simp [x])) e
 apart := fun i T h hm hT => by
  obtain ⟨_, _, _, _, _, t1, t2, t3, t4⟩ := hm
  simp at hT
  rcases hT with rfl | rfl | rfl | rfl
  ·exact t1 rfl
  ·exact t2 rfl
  ·exact t3 rfl
  exact t4 rfl
 done := fun s Q E hst hQ => by
  obtain ⟨hz, hTI, ⟨a, b, hTO⟩, h1, h2⟩ := hst
  have hT : s.TypeIs (.ref z) "zip" := ⟨_, hz, rfl⟩
  unfold pyNext
  refine wpAny_bind (wpAny_attempt (wpAny_callSpecial?_slot (name := ofString "__next__") hT F.slot_zip_next
   (wpAny_call_entry F.slot_zip_next hT F.entry_zip_next (z30 D D1 D2 hz hTI hTO h1 h2 fun h' tk e hk he => ?_) (F.args_zip_next_1 _))))
  obtain ⟨o, ho, hc⟩ := he
  refine wpAny_bind (wpAny_isInstance (T := "StopIteration") (b := true) ⟨o, ho, hc⟩ isSubtype_stop ?_)
  exact wpAny_pure (hQ h' tk fun c o hc e => hk c o (fun x => hc (by simp [x])) (fun x => hc (by simp [x])) (fun x => hc (by simp [x])) (fun x => hc (by simp [x])) e)
 self := fun i s Q E hst hQ => wpAny_pyIter_zip hst.1 hQ
end
noncomputable abbrev zsO (tn : String) (x : Str) (t : Tok) : Obj := { cls := .type tn, data := .fields #[.str x t, .int 0 0] }
noncomputable abbrev zs1 (h : Heap) (o : Obj) : Heap := h.push o
noncomputable abbrev zs2 (h : Heap) (o : Obj) (l2 : Addr) : Heap := (zs1 h o).push { cls := .type "list_iterator", data := .fields #[.ref l2, .int 0 0] }
noncomputable abbrev zs3 (h : Heap) (o : Obj) (l2 : Addr) : Heap := (zs2 h o l2).push { cls := .type "tuple", data := .seq #[.ref h.objs.size, .ref (zs1 h o).objs.size] }
noncomputable abbrev zs4 (h : Heap) (o : Obj) (l2 : Addr) : Heap := (zs3 h o l2).push { cls := .type "tuple", data := .seq #[.none, .none] }
noncomputable abbrev zs5 (h : Heap) (o : Obj) (l2 : Addr) : Heap := (zs4 h o l2).push { cls := .type "zip", data := .fields #[.none, .bool false, .bool false, .ref (zs2 h o l2).objs.size, .ref (zs3 h o l2).objs.size] }
theorem qe6 (V : Value) (o : Obj) (l2 : Addr) (ys : Array Value) (hV : ∀ (prog : Program) (w : World) (A : Around) (Q : Value → Shared → Prop) (E : Value → Shared → Prop) (s : Shared), Q (.ref s.heap.objs.size) { s with heap := s.heap.push o } → wpAny (model prog w) A (pyIter V) Q E s) :
  Meets (Builtin.«zip.__new__» ⟨[.type "zip", V, .ref l2], []⟩) (fun _ R s => s.heap.IsList l2 ys ∧
   R (.ok (.ret (.ref (zs4 s.heap o l2).objs.size))) { s with heap := zs5 s.heap o l2 }) :=
 .of_wp fun prog w A R s h => by
  obtain ⟨hp, g, d, tk, os⟩ := s; obtain ⟨hl2, h⟩ := h
  haveI hsub := sub_zip
  haveI hL2 : Heap.IsList (Shared.heap ⟨hp.push o, g, d, tk, os⟩) l2 ys := Heap.IsList.push hl2 _
  haveI hV' := fun A Q E s => hV prog w A Q E s
  wp_walk using hV', wpAny_pyIter_list hL2
  exact ⟨_, rfl, h⟩
section
variable {prog : Program} {w : World} {A : Around} {E : Value → Shared → Prop} {s : Shared}
theorem z23 {V : Value} {o : Obj} {l2 : Addr} {ys : Array Value} {Q : Value → Shared → Prop} (hf : o.isFreed = false) (hl2 : s.heap.IsList l2 ys)
  (hV : ∀ (prog : Program) (w : World) (A : Around) (Q : Value → Shared → Prop) (E : Value → Shared → Prop) (s : Shared), Q (.ref s.heap.objs.size) { s with heap := s.heap.push o } → wpAny (model prog w) A (pyIter V) Q E s)
  (h : ∀ h', IsZip h' (s.heap.objs.size + 4) (s.heap.objs.size + 2) (s.heap.objs.size + 3) .none → IsPair h' (s.heap.objs.size + 2) (.ref s.heap.objs.size) (.ref (s.heap.objs.size + 1)) →
   IsPair h' (s.heap.objs.size + 3) .none .none → h'.get? s.heap.objs.size = some o → h'.IsListIter (s.heap.objs.size + 1) l2 0 → h'.objs.size = s.heap.objs.size + 5 →
   (∀ c o, s.heap.get? c = some o → h'.get? c = some o) → Q (.ref (s.heap.objs.size + 4)) { s with heap := h' }) :
  wpAny (model prog w) A (call (.type "zip") [V, .ref l2]) Q E s := by
 refine callType_new F.called_zip (by decide) (F.typeCall_zip_2 _ _) (F.newCall_zip_2 _ _) (fun obj => F.args_object_init_3 obj _ _) F.entry_zip_new
  (qe6 V o l2 ys hV) ⟨hl2, ?_⟩
 haveI z1 : (zs1 s.heap o).objs.size = s.heap.objs.size + 1 := Heap.size_push ..
 have z2 : (zs2 s.heap o l2).objs.size = s.heap.objs.size + 2 := by rw [Heap.size_push, z1]
 have z3 : (zs3 s.heap o l2).objs.size = s.heap.objs.size + 3 := by rw [Heap.size_push, z2]
 have z4 : (zs4 s.heap o l2).objs.size = s.heap.objs.size + 4 := by rw [Heap.size_push, z3]
 haveI z5 : (zs5 s.heap o l2).objs.size = s.heap.objs.size + 5 := by rw [Heap.size_push, z4]
 haveI g5 : (zs5 s.heap o l2).get? (zs4 s.heap o l2).objs.size = some _ := get?_push_size _ rfl
 haveI g4 : (zs5 s.heap o l2).get? (zs3 s.heap o l2).objs.size = some _ := get?_push_of_some _ (get?_push_size _ rfl)
 haveI g3 : (zs5 s.heap o l2).get? (zs2 s.heap o l2).objs.size = some _ := get?_push_of_some _ (get?_push_of_some _ (get?_push_size _ rfl))
 haveI g2 : (zs5 s.heap o l2).get? (zs1 s.heap o).objs.size = some _ := get?_push_of_some _ (get?_push_of_some _ (get?_push_of_some _ (get?_push_size _ rfl)))
 haveI g1 : (zs5 s.heap o l2).get? s.heap.objs.size = some o := get?_push_of_some _ (get?_push_of_some _ (get?_push_of_some _ (get?_push_of_some _ (get?_push_size _ hf))))
 show _ ∧ _
 rw [z2, z3, z4] at g5
 rw [z1, z2] at g3
 rw [z3] at g4
 rw [z1] at g2
 rw [z4]
 exact ⟨⟨_, g5, rfl⟩, h _ g5 g3 g4 g1 ⟨_, g2, rfl, rfl⟩ z5 fun c o x =>
  get?_push_of_some _ (get?_push_of_some _ (get?_push_of_some _ (get?_push_of_some _ (get?_push_of_some _ x))))⟩
end
section
variable {Γ : Cx} {n : Nat} {env : Env} {σ : St} {sc : Scope}
theorem CallI.zipS {a : List Nat} {ys : List PV} {es : List Expr} {j : Nat} {pos : Pos} : CallI Γ n (.type "zip") [PR (.pv (.str a)), PR (.pv (.list ys))] (.Tuple es j pos) ((a.zip ys).map fun p => [.str [p.1], p.2]) := fun Vs A E s φ H R ok lv ds Q k => by
 obtain ⟨V, V', rfl, d, d'⟩ := ds.two
 cases d using Den.s with
 | str t => cases d' using Den.l with
  | @list a' vs' ha' hl' hd' =>
  haveI hlen' := hd'.length
  simp only [length_toList] at hlen'
  have hlt' : a' < s.heap.objs.size := by obtain ⟨_, e⟩ := hl'; exact lt_size e
  haveI hsz : (⟨List.toArray a⟩ : Str).cps.size = a.length := by simp
  haveI fin : ∀ (tn : String) (hni : isLo (zsO tn ⟨List.toArray a⟩ t) = false)
    (D1 : ∀ it, Draws Γ.prog Γ.w A.in1 it [it] (⟨List.toArray a⟩ : Str).cps.size (fun i v => ∃ c u, (⟨List.toArray a⟩ : Str).cps[i]? = some c ∧ v = .str ⟨#[c]⟩ u) (fun i h => h.IsStrIter it tn ⟨List.toArray a⟩ t i))
    (htab : ∀ (o : Obj) (v : Array Value), o.cls = .type tn → o.data = .fields v → isLo o = false)
    (hV : ∀ (prog : Program) (w : World) (A : Around) (Q : Value → Shared → Prop) (E : Value → Shared → Prop) (s : Shared), Q (.ref s.heap.objs.size) { s with heap := s.heap.push (zsO tn ⟨List.toArray a⟩ t) } → wpAny (model prog w) A (pyIter (.str ⟨List.toArray a⟩ t)) Q E s),
    wpAny (model Γ.prog Γ.w) A (call (.type "zip") [.str ⟨List.toArray a⟩ t, .ref a']) (fun x s₁ => wpAny (model Γ.prog Γ.w) A (pyIter x) Q E s₁) E s := by
   intro tn hni D1 htab hV
   refine z23 rfl hl'.isList hV fun h' hz hTI hTO h1 h2 hsz1 hk => ?_
   refine wpAny_pyIter_zip hz ?_
   generalize hm : s.heap.objs.size = m at *
   have D2 := Draws.list (prog := Γ.prog) (w := Γ.w) (A := A.in1) R.handled (m + 1) a' (by simp only [Addr] at *; lia) vs'
   have W := WalksT.zipD (prog := Γ.prog) (w := Γ.w) R.handled (m + 4) (m + 2) (m + 3) m (m + 1) [m] [m + 1, a'] (by constructor <;> (simp only [Addr, mem_cons, not_mem_nil, or_false] at *; lia)) (D1 m) D2 (D1 m).live D2.live
   have nw : ∀ b ∈ [m + 4, m + 3, m, m + 1], s.heap.get? b = none := fun b hb => get?_none_of_le (by
    rw [hm]; simp only [mem_cons, not_mem_nil, or_false] at hb; rcases hb with rfl | rfl | rfl | rfl <;> simp)
   have hll : min (⟨List.toArray a⟩ : Str).cps.size vs'.size = ((a.zip ys).map fun p => [PV.str [p.1], p.2]).length := by simp [hlen']
   rw [hll] at W
   refine k (m + 4) { s with heap := h' } _ _ _ (Kp.of hk) (ok.keeps hk) (fun b hb => ok.new (nw b hb)) (q51 hk) (Itr.T7 W nw ?_ ?_ es (ps := []) (xs := [])) ⟨hz, hTI, ⟨_, _, hTO⟩, ⟨_, h1, rfl, rfl⟩, h2, (hl'.kp (Kp.of hk)).isList⟩ ?_
   ·intro i h st b hb
    obtain ⟨hz, hTI, ⟨_, _, hTO⟩, h1, h2, _⟩ := st
    simp only [mem_cons, not_mem_nil, or_false] at hb
    rcases hb with rfl | rfl | rfl | rfl
    ·exact ⟨_, hz, rfl⟩
    ·exact ⟨_, hTO, rfl⟩
    ·obtain ⟨o, ho, hc, hfd⟩ := h1; exact ⟨o, ho, htab o _ hc hfd⟩
    obtain ⟨o, ho, hc, hfd⟩ := h2; exact ⟨o, ho, q03 hc hfd⟩
   ·intro i vals y hp hy
    obtain ⟨x, x', ⟨c, u, hx, rfl⟩, hx', rfl⟩ := hp
    rw [getElem?_map] at hy
    obtain ⟨q, hq, rfl⟩ := map_eq_some_iff.mp hy
    rw [← getElem?_toList] at hx hx'
    obtain ⟨z', hz', dz'⟩ := hd'.R3 hx'
    haveI : q = (c, z') := by
     rw [List.getElem?_zip_eq_some] at hq
     rw [hz'] at hq
     have h2 : a[i]? = some c := hx
     rw [h2] at hq
     exact Prod.ext (Option.some.inj hq.1).symm (Option.some.inj hq.2).symm
    subst this
    exact .cons (.str [c] u) (.cons dz' .nil)
   intro b hb
   simp only [cons_append, nil_append, mem_cons, not_mem_nil, or_false] at hb
   have nw' : s.heap.get? (m + 2) = none := get?_none_of_le (by rw [hm]; simp)
   rcases hb with rfl | rfl | rfl | rfl | rfl | rfl | rfl | rfl
   ·exact ⟨lv.fresh (nw _ (by simp)), _, hz, rfl⟩
   ·exact ⟨lv.fresh nw', _, hTI, rfl⟩
   ·exact ⟨lv.fresh (nw _ (by simp)), _, hTO, rfl⟩
   ·exact ⟨lv.fresh (nw _ (by simp)), _, h1, hni⟩
   ·obtain ⟨o, ho, hc, hfd⟩ := h2
    exact ⟨lv.fresh (nw _ (by simp)), o, ho, q03 hc hfd⟩
   ·exact ⟨lv.fresh (nw _ (by simp)), _, h1, hni⟩
   ·obtain ⟨o, ho, hc, hfd⟩ := h2
    exact ⟨lv.fresh (nw _ (by simp)), o, ho, q03 hc hfd⟩
   exact ⟨ha', (hl'.kp (Kp.of hk)).lo⟩
  cases hasc : (⟨List.toArray a⟩ : Str).cps.all (· < 128)
  ·exact fin "str_iterator" rfl (fun it => Draws.strWide (A := A.in1) R.handled it _ t) (fun o v hc hfd => q03 hc hfd) fun prog w A Q E s h => wpAny_pyIter_wide hasc h
  exact fin "str_ascii_iterator" rfl (fun it => Draws.strAscii (A := A.in1) R.handled it _ t) (fun o v hc hfd => q03 hc hfd) fun prog w A Q E s h => wpAny_pyIter_ascii hasc h
theorem I.zipS {x : Str} {p pos tpos : Pos} {e e' : Expr} {es : List Expr} {j : Nat} {a : List Nat} {ys : List PV} (b : BN Γ env sc x (.type "zip")) (ha : E Γ n env σ e (.pv (.str a))) (hb : E Γ n env σ e' (.pv (.list ys))) (he : ∀ env, starEach [e, e'] env = (false, eval e env) :: starEach [e'] env) (he' : ∀ env, starEach [e'] env = (false, eval e' env) :: starEach [] env) :
  EvI Γ n env σ (.Call (.Name x p) [e, e'] [] pos) (.Tuple es j tpos) ((a.zip ys).map fun p => [.str [p.1], p.2]) :=
 EvI.R0 b.ev (EvS.cons (mR _) ha.run (EvS.cons (mR _) hb.run EvS.nil he') he) CallI.zipS he (fun env => by rw [he']; rfl)
end
noncomputable def fndS (x y : Str) (i j : Int) : Int := match Builtin.Str.occurrences x y (fromIndex x.length i) (min (fromIndex x.length j) x.length) 1 with | k :: _ => (k : Int) | [] => -1
theorem qo6 (x y : Str) (i j : Int) (t u v r : Tok) : Gives (Builtin.«str.find» ⟨[.str x t, .str y u, .int i v, .int j r], []⟩) (.int (fndS x y i j)) := by
 show Gives (match Builtin.Str.occurrences x y (fromIndex x.length i) (min (fromIndex x.length j) x.length) 1 with | k :: _ => retInt k | [] => (do rule "str.find.not-found"; retInt (-1))) _
 unfold fndS
 cases Builtin.Str.occurrences x y (fromIndex x.length i) (min (fromIndex x.length j) x.length) 1 with
 | nil => exact .rule (.of_eq rfl)
 | cons k _ => exact .of_eq rfl
theorem z83 {prog : Program} {w : World} {A : Around} {E : Value → Shared → Prop} {s : Shared} {x y : Str} {t u v r : Tok} {i j : Int} {Q : Value → Shared → Prop} (hq : Q (.int (fndS x y i j) s.toks) { s with toks := s.toks + 1 }) :
  wpAny (model prog w) A (call (.builtin "str.find") [.str x t, .str y u, .int i v, .int j r]) Q E s :=
 call_gives F.slot_str_find (typeIs_str _ _ _) F.entry_str_find (F.args_str_find_4 _ _ _ _) (qo6 x y i j t u v r) hq
noncomputable def fnd (x y : List Nat) (i j : Int) : Int := fndS (S x) (S y) i j
section
variable {Γ : Cx} {n : Nat} {env : Env} {σ : St} {sc scope : Scope} {ns : List String} {α β : Type}
theorem PArgs.four {φ : Nat → Addr} {H : List Addr} {h : Heap} {P Q R T : Pred Value} {Vs : List Value} (c : PArgs φ H h [P, Q, R, T] Vs) : ∃ a b c d, Vs = [a, b, c, d] ∧ P φ H h a ∧ Q φ H h b ∧ R φ H h c ∧ T φ H h d := by
 cases c using PArgs.cn with | cons p c => obtain ⟨_, _, _, rfl, q, r, t⟩ := c.three; exact ⟨_, _, _, _, rfl, p, q, r, t⟩
theorem CallB.Y9 {x y : List Nat} {i j : Int} : CallB Γ n env σ (.builtin "str.find") [PR (.pv (.str x)), PR (.pv (.str y)), PR (.pv (.int i)), PR (.pv (.int j))] (PR (.pv (.int (fnd x y i j)))) := fun Vs A E s φ H R ok lv eo c Q k => by
 obtain ⟨V, W, I, J, rfl, a1, a2, a3, a4⟩ := PArgs.four c
 cases a1 using Den.s; cases a2 using Den.s; cases a3 using Den.i; cases a4 using Den.i
 exact z83 (k _ _ (Kp.refl _) ok.toks (.int _ _))
theorem E.Y9 {o e e2 e3 : Expr} {apos pos : Pos} {x y : List Nat} {i j : Int} (ho : E Γ n env σ o (.pv (.str x))) (ha : EA Γ n env σ pos [e, e2, e3] [.str y, .int i, .int j]) (hbase : attributeBase o (ofString "find") env (eval o env) = eval o env) (hline : (apos.endLine == pos.line) = true)
  (he : ∀ env, starEach [e, e2, e3] env = (false, eval e env) :: starEach [e2, e3] env) (he2 : ∀ env, starEach [e2, e3] env = [(false, eval e2 env), (false, eval e3 env)]) :
  E Γ n env σ (.Call (.Attribute o (ofString "find") apos) [e, e2, e3] [] pos) (.pv (.int (fnd x y i j))) :=
 ⟨Ev.U8 ho.run ha.run F.slot_str_find F.type_str_find CallB.Y9 hbase hline (by rw [he, he2]; rfl) (he env) (by rw [he, he2]; rfl)⟩
end
section
variable {Γ : Cx} {τ n : Nat} {env : Env} {σ : St} {sc scope : Scope} {ns : List String} {α β : Type}
structure EvT (Γ : Cx) (τ n : Nat) (env : Env) (σ : St) {α : Type} (t : Sem α) (P : (Nat → Addr) → List Addr → Heap → α → Prop) : Prop where
 run : ∀ (A : Around) (E : Value → Shared → Prop) (s : Shared) (φ : Nat → Addr) (H : List Addr), Room Γ A n → Γ.Ok s → Live H s.heap → EnvOK env φ H σ s.heap → τ ≤ s.toks →
  ∀ Q : α → Shared → Prop, (∀ V s', Kp s.heap s'.heap → Γ.Ok s' → P φ H s'.heap V → τ ≤ s'.toks → Q V s') → wpAny (model Γ.prog Γ.w) A t Q E s
theorem EvT.mk' {α : Type} {t : Sem α} {P : Pred α} (h : ∀ (A : Around) (E : Value → Shared → Prop) (s : Shared) (φ : Nat → Addr) (H : List Addr), Room Γ A n → Γ.Ok s → Live H s.heap → EnvOK env φ H σ s.heap → τ ≤ s.toks →
  ∀ Q : α → Shared → Prop, (∀ V s', Kp s.heap s'.heap → Γ.Ok s' → P φ H s'.heap V → Q V s') → wpAny (model Γ.prog Γ.w) A t Q E s) : EvT Γ τ n env σ t P :=
 ⟨fun A E s φ H R ok lv eo t0 Q k => wpAny_mono (wpAny_toks_of t0 (h A E s φ H R ok lv eo t0 (fun V s' => τ ≤ s'.toks → Q V s') fun V s' k1 ok1 d tk => k V s' k1 ok1 d tk)) (fun _ _ x => x.2 x.1) fun _ _ x => x.2⟩
theorem EvT.of {α : Type} {t : Sem α} {P : Pred α} (h : EvP Γ n env σ t P) : EvT Γ τ n env σ t P := .mk' fun A E s φ H R ok lv eo t0 Q k => h.run A E s φ H R ok lv eo Q k
theorem q04 {M : Model} {A : Around} {E : Value → Shared → Prop} {s : Shared} {x : Str} {k : Nat} {pos : Pos} {Q : Value → Shared → Prop} (h : Q (.str x s.toks) { s with toks := s.toks + 1 }) : wpAny M A (eval (.Constant (.str x) k pos) env) Q E s := fun _ _ _ => h
noncomputable def rpl (x y z : List Nat) : List Nat := (Txt.replace (S x) (S y) (S z)).cps.toList
theorem S_rpl (x y z : List Nat) : S (rpl x y z) = Txt.replace (S x) (S y) (S z) := by
 show (⟨_⟩ : Str) = _
 unfold rpl
 dsimp only [Array.toArray_toList]
theorem EvT.replace {o : Expr} {k1 k2 : Nat} {p1 p2 apos pos : Pos} {x y z : List Nat} {y' z' : Str} (ht : 1 ≤ τ) (ho : EvT Γ τ n env σ (eval o env) (PR (.pv (.str x)))) (hy : y' = S y) (hz : z' = S z) (hyz : (S y == S z) = false) (hb : x.length + (x.length + 1) * z.length ≤ 16777216)
  (hbase : attributeBase o (ofString "replace") env (eval o env) = eval o env) (hline : (apos.endLine == pos.line) = true) :
  EvT Γ τ n env σ (eval (.Call (.Attribute o (ofString "replace") apos) [.Constant (.str y') k1 p1, .Constant (.str z') k2 p2] [] pos) env) (PR (.pv (.str (rpl x y z)))) :=
 .mk' fun A E s φ H R ok lv eo t0 Q k => by
  subst hy; subst hz
  refine wpAny_Call_method_lateS hbase rfl hline (ho.run A E s φ H R ok lv eo t0 _ fun V s1 e1 ok1 d t1 => ⟨"str", "str.replace", F.plainAttrs_str, F.slot_str_replace, F.type_str_replace, ?_, ?_, ?_⟩)
  ·cases d using Den.s; rfl
  ·intro a ea; subst ea; cases d using Den.s
  refine Calls.callWith_builtin rfl ?_
  refine Calls.evalArgs_plain ?_
  refine wpAny_items_cons (q04 (wpAny_items_cons (q04 (wpAny_items_nil ?_)) rfl)) rfl
  cases d using Den.s with
  | str t =>
   refine SC.replace (by show s1.toks ≠ 0; lia) (by show s1.toks + 1 ≠ 0; lia) (by show s1.toks ≠ s1.toks + 1; lia) hyz ?_ fun t' j => k _ _ e1 ok1.toks ?_
   ·haveI e2 : (⟨x.toArray⟩ : Str).length = x.length := S_len x
    rw [e2, S_len]; exact hb
   haveI : Txt.replace ⟨x.toArray⟩ (S y) (S z) = S (rpl x y z) := (S_rpl x y z).symm
   rw [this]; exact .str _ _
end
section
variable {Γ : Cx} {τ n : Nat} {env : Env} {σ : St} {sc scope : Scope} {ns : List String} {α β : Type} {K : AF → St → Prop} {more : List Stmt}
structure ET (Γ : Cx) (τ n : Nat) (env : Env) (σ : St) (e : Expr) (r : RV) : Prop where
 run : EvT Γ τ n env σ (eval e env) (PR r)
theorem ET.of {e : Expr} {r : RV} (h : E Γ n env σ e r) : ET Γ τ n env σ e r := ⟨EvT.of h.run⟩
theorem ET.replace {o : Expr} {k1 k2 : Nat} {p1 p2 apos pos : Pos} {x : List Nat} {y z : String} (ht : 1 ≤ τ) (ho : ET Γ τ n env σ o (.pv (.str x))) (hyz : (S (cs y) == S (cs z)) = false) (hb : x.length + (x.length + 1) * (cs z).length ≤ 16777216)
  (hbase : attributeBase o (ofString "replace") env (eval o env) = eval o env) (hline : (apos.endLine == pos.line) = true) :
  ET Γ τ n env σ (.Call (.Attribute o (ofString "replace") apos) [.Constant (.str (ofString y)) k1 p1, .Constant (.str (ofString z)) k2 p2] [] pos) (.pv (.str (rpl x (cs y) (cs z)))) :=
 ⟨EvT.replace ht ho.run (ofS y) (ofS z) hyz hb hbase hline⟩
theorem Ex.assignT {x : String} {p pos : Pos} {e : Expr} {r : RV} {rest : List (String × RV)} (h : EvT Γ τ n env σ (eval e env) (PR r)) (hx : x ∈ ns) (kr : Keep [x] σ.v rest) (k : K .nx ⟨(x, r) :: rest, σ.o⟩)
  (hs : swapsWith e (some (.Name (ofString x) p)) pos.line env = pure false) : Ex Γ τ n env ns σ (exec (.Assign [.Name (ofString x) p] e pos) env) K := .mk' fun A E s φ Mw Lo H R F τ0 Q q => by
 refine wpAny_Assign_Name (h.run A E s φ (Mw ++ Lo ++ H) R F.ok F.live F.eo τ0 _ fun V s1 k1 ok1 d τ1 => ?_) hs
 haveI F1 := F.kp k1 ok1
 exact F1.storeName hx kr d fun s' F' g' => q .next s' .nx _ φ Lo k F' ((Gr.of k1).trans g') trivial
theorem X.asgT {x : String} {p pos : Pos} {e : Expr} {r : RV} {rest : List (String × RV)} (hx : x ∈ ns) (hs : swapsWith e (some (.Name (ofString x) p)) pos.line env = pure false) (kr : Keep [x] σ.v rest) (h : ET Γ τ n env σ e r)
  (k : X Γ τ n env ns ⟨(x, r) :: rest, σ.o⟩ more K) : X Γ τ n env ns σ (.Assign [.Name (ofString x) p] e pos :: more) K := ⟨Ex.cons (Ex.assignT h.run hx kr k.run hs)⟩
end
section
variable {Γ : Cx} {τ n : Nat} {env : Env} {σ : St} {sc scope : Scope} {ns : List String} {α β : Type} {K : AF → St → Prop} {more : List Stmt}
theorem X.swap2 {a b : String} {pa pb : Pos} {j k' ki : Nat} {tp vp ip pos : Pos} {i : Int} {e : Expr} {v : PV} {r1 r2 : List (String × RV)} (ha : a ∈ ns) (hb : b ∈ ns)
  (kr1 : Keep [b] σ.v r1) (kr2 : Keep [a] ((b, RV.pv v) :: r1) r2) (h : E Γ n env σ e (.pv v))
  (he : ∀ env, starEach [.Constant (.int i) ki ip, e] env = (false, eval (.Constant (.int i) ki ip) env) :: starEach [e] env) (he2 : ∀ env, starEach [e] env = (false, eval e env) :: starEach [] env)
  (hs : swapsWithSole [.Tuple [.Name (ofString a) pa, .Name (ofString b) pb] j tp] (.Tuple [.Constant (.int i) ki ip, e] k' vp) pos.line env = pure false)
  (hw : swappedStores [.Tuple [.Name (ofString a) pa, .Name (ofString b) pb] j tp] (.Tuple [.Constant (.int i) ki ip, e] k' vp) env = pure (some [ofString a, ofString b]))
  (k : X Γ 1 n env ns ⟨(a, .pv (.int i)) :: r2, σ.o⟩ more K) :
  X Γ τ n env ns σ (.Assign [.Tuple [.Name (ofString a) pa, .Name (ofString b) pb] j tp] (.Tuple [.Constant (.int i) ki ip, e] k' vp) pos :: more) K := by
 refine ⟨.mk' fun A E s φ Mw Lo H R F τ0 Q q => ?_⟩
 rw [execs_cons]
 refine wpAny_bind (Assign_Tuple_swapped (names := [ofString a, ofString b]) (wpAny_Tuple (wpAny_items_cons (wpAny_Constant_int (wpAny_items_cons ?_ (he2 env))) (he env))) hs hw)
 haveI F0 : Fr Γ env ns φ Mw Lo H σ { s with toks := s.toks + 1 } := F.kp (Kp.refl _) F.ok.toks
 refine F0.evt (τ := 1) R (by show 1 ≤ s.toks + 1; lia) h.run fun V s1 k1 F1 d τ1 => ?_
 refine wpAny_items_nil ?_
 refine ⟨by simp [sizeLine], ?_⟩
 haveI F2 : Fr Γ env ns φ Mw Lo H σ { s1 with heap := s1.heap.push { cls := .type "tuple", data := .seq #[.int i s.toks, V] } } := F1.kp (Kp.push _ _) (F1.ok.W0 _)
 refine wpAny_unpackItems_tuple (items := #[.int i s.toks, V]) R.handled (TupAt.new _ _).T6 fun h3 e3 => ?_
 have keep3 : ∀ c o, (s1.heap.push { cls := .type "tuple", data := .seq #[.int i s.toks, V] }).get? c = some o → h3.get? c = some o := fun c o e => e3 c o (Nat.ne_of_lt (lt_size e)) e
 haveI F3 : Fr Γ env ns φ Mw Lo H σ { s1 with heap := h3 } := F2.kp (Kp.of keep3) (F2.ok.keeps keep3)
 haveI d3 : DenR φ (Mw ++ Lo ++ H) h3 V (.pv v) := mR _ _ _ _ _ _ ((Kp.push _ _).trans (Kp.of keep3)) d
 haveI k03 : Kp s.heap h3 := k1.trans ((Kp.push _ _).trans (Kp.of keep3))
 refine wpAny_mono (wpAny_toks_of (n := 1) (show 1 ≤ s1.toks from τ1) (wpAny_assignInOrder_more (Q := fun _ s' => ∃ F' : Fr Γ env ns φ Mw Lo H ⟨(a, .pv (.int i)) :: r2, σ.o⟩ s', Gr Mw Lo Lo s.heap s'.heap) (bindName_ (F3.storeName hb kr1 d3 fun s4 F4 g4 => wpAny_assignInOrder_more (bindName_ (F4.storeName ha kr2 (r := .pv (.int i)) (.int _ _) fun s5 F5 g5 => wpAny_assignInOrder_none ⟨F5, ((Gr.of k03).trans g4).trans g5⟩)))))) (fun _ s5 x => ?_) fun _ _ x => x.2
 obtain ⟨t5, F5, g5⟩ := x
 refine k.run.run A E s5 φ Mw Lo H R F5 t5 Q fun fl s' af σ' φ' Lo' c F' g' fr t6 => q fl s' af σ' φ' Lo' c F' (g5.trans g') fr
end
section
variable {Γ : Cx} {τ n : Nat} {env : Env} {σ : St} {sc scope : Scope} {ns : List String} {α β : Type}
theorem Ev.Y6 {value slice : Expr} {pos : Pos} {xs : List PV} {i : Int} {v : PV} (ho : EvL Γ n env σ value xs) (hi : Ev Γ n env σ slice (.pv (.int i)))
  (h0 : i < 0) (h1 : -(2 ^ 60) ≤ i) (h2 : -(xs.length : Int) ≤ i) (hc : xs[(i + xs.length).toNat]? = some v)
  (hs : ∀ o i, subscripted slice false o i = operate [o, i] (getItem o i) := by intro _ _; rfl) : Ev Γ n env σ (.Subscript value slice pos) (.pv v) :=
 EvP.sub (mL _) ho hi fun V W A E s φ H R ok lv eo cc Q k => by
  obtain ⟨⟨a, vs, rfl, hl, hd⟩, d2⟩ := cc; cases d2 using Den.i
  obtain ⟨V', hV, dV⟩ := hd.get hc
  haveI hlen := hd.length
  simp only [length_toList] at hlen
  exact tail_any (T := "list") hl.isList.typeIs F.slot_list_getitem.lookup (wpAny_getItem_list_neg hl.isList h0 (by rw [hlen]; exact h2) (by lia) (by rw [hlen]; simpa using hV) (k _ _ (Kp.refl _) ok dV)) (hs _ _)
theorem E.Y5 {value slice : Expr} {pos : Pos} {xs : List PV} {i : Int} {v : PV} (ho : EL Γ n env σ value xs) (hi : E Γ n env σ slice (.pv (.int i))) (h0 : i < 0) (h1 : -(2 ^ 60) ≤ i) (h2 : -(xs.length : Int) ≤ i) (hc : xs[(i + xs.length).toNat]? = some v)
  (hs : ∀ o i, subscripted slice false o i = operate [o, i] (getItem o i) := by intro _ _; rfl) : E Γ n env σ (.Subscript value slice pos) (.pv v) := ⟨Ev.Y6 ho.run hi.run h0 h1 h2 hc hs⟩
end
section
variable {Γ : Cx} {τ n : Nat} {env : Env} {σ : St} {sc scope : Scope} {ns : List String} {α β : Type}
noncomputable def PV' (v : Value) : Pred Value := fun _ _ _ V => V = v
theorem mV (v : Value) : MonoP (PV' v) := fun _ _ _ _ _ _ h => h
theorem CallB.isStr {a : List Nat} : CallB Γ n env σ (.builtin "isinstance") [PR (.pv (.str a)), PV' (.type "str")] (PR (.pv (.bool true))) := fun Vs A E s φ H R ok lv eo c Q k => by
 obtain ⟨V, W, rfl, d, e⟩ := c.two
 haveI e' : W = .type "str" := e
 subst e'
 cases d using Den.s
 exact IsiPair.str_str (k _ _ (Kp.refl _) ok (.bool true))
theorem E.isStr {x x' : Str} {p p' pos : Pos} {e : Expr} {a : List Nat} (b : BN Γ env sc x (.builtin "isinstance")) (b' : BN Γ env sc x' (.type "str")) (ha : E Γ n env σ e (.pv (.str a))) (he : ∀ env, starEach [e, .Name x' p'] env = (false, eval e env) :: starEach [.Name x' p'] env) (he' : ∀ env, starEach [.Name x' p'] env = (false, eval (.Name x' p') env) :: starEach [] env) :
  E Γ n env σ (.Call (.Name x p) [e, .Name x' p'] [] pos) (.pv (.bool true)) :=
 ⟨Ev.T2 b.ev (EvS.cons (mR _) ha.run (EvS.cons (mV _) b'.ev EvS.nil he') he) CallB.isStr he (fun env => by rw [he']; rfl)⟩
end
section
variable {Γ : Cx} {τ n : Nat} {env : Env} {σ : St} {sc scope : Scope} {ns : List String} {α β : Type}
theorem Cmp.is_obj {a : Nat} : Cmp Γ n .Is (PR (.pv (.obj a))) (PR (.pv (.obj a))) true := fun A E s φ H V W R ok d1 d2 Q h => by
 cases d1 using Den.o with | obj ha ho => cases d2 using Den.o with | obj hb hp =>
 show wpAny _ _ (do return .bool (← isSame (.ref a) (.ref a))) Q E s
 exact wpAny_bind (PySem.wpAny_isSame_ref_self (wpAny_pure h))
theorem B.isO {l r : Expr} {pos : Pos} {a : Nat} (ha : E Γ n env σ l (.pv (.obj a))) (hb : E Γ n env σ r (.pv (.obj a))) (hm : behindInMarks .Is r = false) : B Γ n env σ (.Compare l [.Is] [r] pos) true := ⟨Evb.cmp (mR _) Cmp.is_obj ha.run hb.run hm⟩
end
theorem qt4 {prog : Program} {w : World} {A : Around} {E : Value → Shared → Prop} {s : Shared} {l : Addr} {vs : Array Value} {k : Int} {t : Tok} {v : Value} {Q : Unit → Shared → Prop} (hl : LstAt s.heap l vs) (h0 : 0 ≤ k) (hfit : k < 2 ^ 63) (hn : k < vs.size)
  (hQ : ∀ h', SameBut l s.heap h' → LstAt h' l (vs.setIfInBounds k.toNat v) → Q () { s with heap := h' }) : wpAny (model prog w) A (setItem (.ref l) (.int k t) v) Q E s := by
 obtain ⟨n, ho⟩ := id hl
 have hL := hl.isList
 unfold setItem
 try with_reducible refine wpAny_holding ?_
 first | refine wpAny_bind (wpAny_pure ?_) | skip
 refine wpAny_bind (wpAny_sequenceKey hL.typeIs (by decide) ?_)
 refine wpAny_bind (wpAny_callSpecial?_slot (name := ofString "__setitem__") hL.typeIs slot_list_setitem
  (wpAny_call_entry slot_list_setitem hL.typeIs entry_list_setitem ?_ (args_list_setitem _ _ _)))
 show wpAny _ _ (Builtin.List.listSubscript? (.int k t) >>= _) _ _ s
 refine wpAny_bind (wpAny_listSubscript_int (fitsIndex_of h0 hfit) ?_)
 clear hfit
 obtain ⟨j, rfl⟩ := Int.eq_ofNat_of_zero_le h0
 have hj : j < vs.size := by omega
 have hx' : vs[j]? = some vs[j] := Array.getElem?_eq_getElem hj
 show wpAny _ _ ((seqItemAt l j >>= fun r => pure (r.map (j, ·))) >>= _) _ _ s
 refine wpAny_bind (wpAny_bind (wpAny_seqItemAt ho rfl (wpAny_pure ?_)))
 rw [hx']
 show wpAny _ _ (setSeqItemAt l j v >>= _) _ _ s
 have hfin : LstAt (s.heap.update l (Obj.mapSeq (·.setIfInBounds j v))) l (vs.setIfInBounds j v) :=
  ⟨_, Heap.get?_update_self _ ho rfl⟩
 refine wpAny_bind (wpAny_setSeqItemAt ho rfl ?_)
 first
  | exact wpAny_bind (wpAny_pure (wpAny_pure ⟨.none, rfl, wpAny_pure (hQ _ (SameBut.update ..) hfin)⟩))
  | exact wpAny_pure ⟨.none, rfl, wpAny_pure (hQ _ (SameBut.update ..) hfin)⟩
theorem Dens.set {H : List Addr} {h : Heap} {V : Value} {v : PV} (d : Den H h V v) {Vs : List Value} {xs : List PV} (j : Nat) (r : Dens H h Vs xs) : Dens H h (Vs.set j V) (xs.set j v) :=
 r.ind (M := fun Vs xs => ∀ j, Dens H h (Vs.set j V) (xs.set j v)) (fun _ => .nil) (fun a b ih j => by
  cases j with
  | zero => exact .cons d b
  | succ j => exact .cons a (ih j)) j
section
variable {Γ : Cx} {τ n : Nat} {env : Env} {σ : St} {sc scope : Scope} {ns : List String} {α β : Type} {K : AF → St → Prop} {more : List Stmt}
theorem Ex.put {x : String} {p pos pos' : Pos} {e i : Expr} {k : Nat} {xs : List PV} {v : PV} {z : Int} {orest : List (Nat × List PV)} (G : EnvG env) (hm : (x, RV.ptr k) ∈ σ.v) (ho : (k, xs) ∈ σ.o) (ko : KeepO k σ.o orest) (h : Ev Γ n env σ e (.pv v)) (hi : Ev Γ n env σ i (.pv (.int z))) (h0 : 0 ≤ z) (h1 : z < xs.length) (hz : xs.length ≤ 2 ^ 24)
  (c : K .nx ⟨σ.v, (k, xs.set z.toNat v) :: orest⟩) (hs : swapsWith e (some (.Subscript (.Name (ofString x) p) i pos')) pos.line env = pure false) (hd : (ofString x == ("__debug__" : Str)) = false) :
  Ex Γ τ n env ns σ (exec (.Assign [.Subscript (.Name (ofString x) p) i pos'] e pos) env) K := .mk' fun A E s φ Mw Lo H R F τ0 Q q => by
 refine wpAny_Assign_Subscript ?_ hs
 refine F.ev R h fun V s1 k1 F1 dv => ?_
 obtain ⟨W, a, d⟩ := F1.eo.vars _ _ hm
 haveI d' : W = .ref (φ k) := d
 subst d'
 refine wpAny_Name (q02 G.kind a ?_) hd
 refine F1.ev R hi fun I s2 k2 F2 di => ?_
 obtain ⟨_, vs2, hl2, hd2⟩ := F2.eo.own _ _ ho
 haveI hlen := hd2.length
 simp only [length_toList] at hlen
 haveI di' : Den (Mw ++ Lo ++ H) s2.heap I (.int z) := di
 cases di' using Den.i
 refine qt4 hl2 h0 (by lia) (by lia) fun h' hs' hl' => ?_
 obtain ⟨F3, G3⟩ := F2.R9 (t := s2.toks) ho ko hs' hl' (ys := xs.set z.toNat v) (by rw [Array.toList_setIfInBounds]; exact Dens.set (dv.kp k2) _ hd2)
 exact q .next { s2 with heap := h' } .nx _ φ Lo c F3 ((Gr.of (k1.trans k2)).trans G3) trivial
theorem X.put {x : String} {p pos pos' : Pos} {e i : Expr} {k : Nat} {xs : List PV} {v : PV} {z : Int} {orest : List (Nat × List PV)} (G : EnvS env sc) (hm : (x, RV.ptr k) ∈ σ.v) (ho : (k, xs) ∈ σ.o) (ko : KeepO k σ.o orest) (h : E Γ n env σ e (.pv v)) (hi : E Γ n env σ i (.pv (.int z))) (h0 : 0 ≤ z) (h1 : z < xs.length) (hz : xs.length ≤ 2 ^ 24)
  (hs : swapsWith e (some (.Subscript (.Name (ofString x) p) i pos')) pos.line env = pure false) (hd : (ofString x == ("__debug__" : Str)) = false)
  (c : X Γ τ n env ns ⟨σ.v, (k, xs.set z.toNat v) :: orest⟩ more K) : X Γ τ n env ns σ (.Assign [.Subscript (.Name (ofString x) p) i pos'] e pos :: more) K :=
 ⟨Ex.cons (Ex.put G.g hm ho ko h.run hi.run h0 h1 hz c.run hs hd)⟩
end
theorem qa6 {prog : Program} {w : World} {A : Around} {E : Value → Shared → Prop} {s : Shared} {a : Addr} {xs : Array Value} {k : Nat} {Q : Value → Shared → Prop}
  (hx : s.heap.get? a = some { cls := .type "list", dict := none, data := .seq xs k, slots := #[] }) (h : ∀ t, Q (.ref s.heap.objs.size) { s with heap := s.heap.push (mwObj a), toks := t }) :
  wpAny (model prog w) A (getAttr (.ref a) "__contains__" true) Q E s := by
 obtain ⟨hp, g, d, tk, os⟩ := s
 haveI hT : ∀ tk', (⟨hp, g, d, tk', os⟩ : Shared).TypeIs (.ref a) "list" := fun _ => ⟨_, hx, rfl⟩
 haveI f3 := F.slot_list_getattribute.lookup
 haveI f4 := F.slot_list_getattribute.bind (.ref a)
 haveI f5 := am_list_getattr_none
 unfold getAttr getAttrBy
 repeat (any_goals (first | assumption | exact hT _ | ((with_reducible show wpAny _ _ (call (Value.builtin "list.__getattribute__") _ _) _ _ _); refine call_meets F.slot_list_getattribute (hT _) am_entry_list_getattribute (F.args_list_getattribute_2 _ _) (q94 a xs k _) ⟨hx, ?_⟩) | wp_step))
 exact wpAny_pure (h _)
theorem q70 {M : Model} {A : Around} {E : Value → Shared → Prop} {s : Shared} {a : Addr} {xs : Array Value} {k : Nat} {x : Value} {Q : Unit → Shared → Prop}
  (hx : s.heap.get? a = some { cls := .type "list", dict := none, data := .seq xs k, slots := #[] }) (h : Q () s) : wpAny M A (checkBoundCall "list.__contains__" ⟨[.ref a, x], []⟩) Q E s := by
 haveI hT : s.TypeIs (.ref a) "list" := ⟨_, hx, rfl⟩
 haveI hn := qd1
 unfold checkBoundCall
 repeat (any_goals (first | assumption | wp_step))
theorem zb1 {prog : Program} {w : World} {A : Around} {E : Value → Shared → Prop} {s : Shared} {b a : Addr} {vs : Array Value} {x : Value} {Q : Value → Shared → Prop} (e : Value → Bool) (hb : s.heap.get? b = some (mwObj a)) (hl : LstAt s.heap a vs)
  (he : ∀ y, y ∈ vs → PySem.SeqAt.EqAt A.in1 s y x (e y)) (h : Q (.bool (vs.any e)) s) : wpAny (model prog w) A (call (.ref b) [x]) Q E s := by
 obtain ⟨k, hk⟩ := hl
 refine wpAny_call (codeAny_of_tree ?_)
 show wpAny _ A.in1 (callAny (.ref b) ⟨[x], []⟩) _ _ s
 unfold callAny
 refine wpAny_bind (wpAny_load hb ?_)
 show wpAny _ A.in1 (do checkBoundCall "list.__contains__" ⟨[.ref a, x], []⟩; pure (← again (.builtin "list.__contains__" ⟨[.ref a, x], []⟩))) _ _ s
 refine wpAny_bind (q70 hk ?_)
 refine wpAny_bind (wpAny_pure (wpAny_pure ⟨plainId_quiet F.slot_list_contains.plain _, codeAny_builtin F.entry_list_contains ?_⟩))
 dsimp only [Around.under_plainId F.slot_list_contains.plain _]
 exact PySem.SeqAt.list_containsAt a vs k none #[] x e prog w A (wants Q E) s ⟨hk, he, h⟩
theorem qv1 (a : Value) : argsOk "iter" ⟨[a], []⟩ := by unfold argsOk; kernel_rfl
theorem qp5 : entryFor table "iter" = some Builtin.«iter» := entryFor_of_fast (by kernel_rfl)
theorem qg0 (a : Value) : argsOk "next" ⟨[a], []⟩ := by unfold argsOk; kernel_rfl
theorem z25 {prog : Program} {w : World} {A : Around} {E : Value → Shared → Prop} {s : Shared} {l : Addr} {vs : Array Value} {Q : Value → Shared → Prop} (hl : s.heap.IsList l vs)
  (h : Q (.ref s.heap.objs.size) { s with heap := s.heap.push { cls := .type "list_iterator", data := .fields #[.ref l, .int 0 0] } }) : wpAny (model prog w) A (call (.builtin "iter") [.ref l]) Q E s := by
 refine call_function_entry (by decide +kernel) (by decide +kernel) qp5 (qv1 _) ?_
 unfold Builtin.«iter»
 refine wpAny_bind (m := someArgs "iter" 1 2 _) (wpAny_of_eq (a := [Value.ref l]) (by first | rfl | kernel_rfl!) ?_)
 dsimp only
 refine wpAny_bind (wpAny_pyIter_list hl ?_)
 exact wpAny_pure ⟨_, rfl, h⟩
theorem qe9 {prog : Program} {w : World} {A : Around} {E : Value → Shared → Prop} {s : Shared} {it l : Addr} {i : Nat} {vs : Array Value} {x : Value} {Q : Value → Shared → Prop} (hit : s.heap.IsListIter it l i) (hl : s.heap.IsList l vs) (hx : vs[i]? = some x)
  (hQ : ∀ h', h'.IsListIter it l (i + 1) → SameBut it s.heap h' → Q x { s with heap := h' }) : wpAny (model prog w) A (call (.builtin "next") [.ref it]) Q E s := by
 refine call_function_entry (by decide +kernel) (by decide +kernel) PySem.W.kdk_entry_next (qg0 _) ?_
 unfold Builtin.«next»
 refine wpAny_bind (m := someArgs "next" 1 2 _) (wpAny_of_eq (a := [Value.ref it]) (by first | rfl | kernel_rfl!) ?_)
 dsimp only
 refine wpAny_bind (wpAny_specialOf (name := ofString "__next__") hit.typeIs slot_listiter_next.lookup ?_)
 refine wpAny_ite_split (fun hab => absurd hab (by decide)) (fun _ => ?_)
 obtain ⟨o, ho, hc, hd⟩ := id hit
 obtain ⟨ol, hol, _, nl, hdl⟩ := hl
 refine wpAny_bind (wpAny_callSpecial?_slot (name := ofString "__next__") hit.typeIs slot_listiter_next
  (wpAny_call_entry slot_listiter_next hit.typeIs entry_listiter_next ?_ (args_listiter_next _)))
 show wpAny _ _ (field (.ref it) 0 >>= _) _ _ s
 refine wpAny_bind (wpAny_field ho hd (x := .ref l) rfl ?_)
 show wpAny _ _ (if (Value.ref l == Value.none) = true then _ else _) _ _ s
 rw [if_neg (show ¬ ((Value.ref l == Value.none) = true) from Bool.false_ne_true)]
 show wpAny _ _ (field (.ref it) 1 >>= _) _ _ s
 refine wpAny_bind (wpAny_field ho hd (x := .int i 0) rfl ?_)
 show wpAny _ _ (seqItems? (.ref l) >>= _) _ _ s
 refine wpAny_bind (wpAny_seqItems hol hdl ?_)
 simp only [toNat_natCast, hx]
 refine wpAny_bind (wpAny_setField ho hd (by simp) (wpAny_pure ⟨x, rfl, wpAny_pure ⟨_, rfl, hQ _ ?_ (SameBut.update ..)⟩⟩))
 exact ⟨_, Heap.get?_update_self _ ho (Obj.isFreed_of_fields (Obj.data_mapFields hd _)), (Obj.cls_mapFields ..).trans hc, by
  rw [Obj.data_mapFields hd]; simp [rawInt]⟩
theorem qi5 {prog : Program} {w : World} {A : Around} {E : Value → Shared → Prop} {s : Shared} {it l : Addr} {i : Nat} {vs : Array Value} {Q : Value → Shared → Prop} (hh : A.handled = none) (hit : s.heap.IsListIter it l i) (hl : s.heap.IsList l vs) (hx : vs[i]? = none)
  (hE : ∀ h1 h' e, SameBut it s.heap h1 → Heap.MadeExcOf h1 h' e (.type "StopIteration") [] → E (.ref e) { s with heap := h' }) : wpAny (model prog w) A (call (.builtin "next") [.ref it]) Q E s := by
 refine call_function_entry (by decide +kernel) (by decide +kernel) PySem.W.kdk_entry_next (qg0 _) ?_
 unfold Builtin.«next»
 refine wpAny_bind (m := someArgs "next" 1 2 _) (wpAny_of_eq (a := [Value.ref it]) (by first | rfl | kernel_rfl!) ?_)
 dsimp only
 refine wpAny_bind (wpAny_specialOf (name := ofString "__next__") hit.typeIs slot_listiter_next.lookup ?_)
 refine wpAny_ite_split (fun hab => absurd hab (by decide)) (fun _ => ?_)
 obtain ⟨o, ho, hc, hd⟩ := id hit
 obtain ⟨ol, hol, _, nl, hdl⟩ := hl
 refine wpAny_bind (wpAny_callSpecial?_slot (name := ofString "__next__") hit.typeIs slot_listiter_next
  (wpAny_call_entry slot_listiter_next hit.typeIs entry_listiter_next ?_ (args_listiter_next _)))
 show wpAny _ _ (field (.ref it) 0 >>= _) _ _ s
 refine wpAny_bind (wpAny_field ho hd (x := .ref l) rfl ?_)
 show wpAny _ _ (if (Value.ref l == Value.none) = true then _ else _) _ _ s
 rw [if_neg (show ¬ ((Value.ref l == Value.none) = true) from Bool.false_ne_true)]
 show wpAny _ _ (field (.ref it) 1 >>= _) _ _ s
 refine wpAny_bind (wpAny_field ho hd (x := .int i 0) rfl ?_)
 show wpAny _ _ (seqItems? (.ref l) >>= _) _ _ s
 refine wpAny_bind (wpAny_seqItems hol hdl ?_)
 simp only [toNat_natCast, hx]
 refine wpAny_bind (wpAny_rule (wpAny_bind (wpAny_setField ho hd (by simp) ?_)))
 show wpAny _ _ (newExc (.type "StopIteration") [] >>= _) _ _ _
 refine wpAny_bind ?_
 simp only [newExc, newTuple]
 refine wpAny_bind (wpAny_newObj_type ?_ (by size_fits))
 refine wpAny_bind (m := firstArgMember _ _) (wpAny_of_eq (a := Value.none) (by first | rfl | (simp only [firstArgMember]; rfl)) ?_)
 refine wpAny_newObj_type ?_ (by size_fits)
 dsimp only [raiseNew]
 refine wpAny_bind (wpAny_handled ?_)
 rw [show A.in1.in1.handled = none from hh]
 refine wpAny_bind (wpAny_pure (wpAny_throw ?_))
 haveI hsz : ∀ (h : Heap) (o1 : Obj), h.get? h.objs.size = none := fun h _ => q00 h
 refine hE (s.heap.update it (Obj.mapFields (·.setIfInBounds 0 Value.none))) _ _ (SameBut.update ..) ⟨fun b o e => get?_push_of_some _ (get?_push_of_some _ e), ?_, _, get?_push_size _ rfl, q00 _, ?_⟩
 ·rw [Heap.size_push]; exact get?_none_of_le (le_succ _)
 exact get?_push_of_some _ (get?_push_size _ rfl)
structure FF (K : Frag) (C fI fT fN pF pI : Addr) : Prop where
 made : makesIn K C = true
 hI : findIn K (.ref C) "__init__" = some (some (.ref fI))
 tI : typeIn K (.ref fI) = some (.type "function")
 hT : findIn K (.ref C) "__iter__" = some (some (.ref fT))
 tT : typeIn K (.ref fT) = some (.type "function")
 hN : findIn K (.ref C) "__next__" = some (some (.ref fN))
 tN : typeIn K (.ref fN) = some (.type "function")
 noLen : findIn K (.ref C) "__len__" = some none
 noHint : findIn K (.ref C) "__length_hint__" = some none
 setA : findIn K (.ref C) "__setattr__" = some (some (.builtin "object.__setattr__"))
 over : plainOver K C = true
 tkF : takerIn K C "_func" = some (some (.ref pF))
 tkI : takerIn K C "_it" = some (some (.ref pI))
 tyF : typeIn K (.ref pF) = some (.type "member_descriptor")
 tyI : typeIn K (.ref pI) = some (.type "member_descriptor")
 slF : slotIn K pF C = some 0
 slI : slotIn K pI C = some 1
 getF : plainGet K C "_func" = true
 getI : plainGet K C "_it" = true
 isC : isClsIn K C = true
 atF : findIn K (.ref C) "_func" = some (some (.ref pF))
 atI : findIn K (.ref C) "_it" = some (some (.ref pI))
 gnF : specialIn K (.ref pF) "__get__" = some (some (.builtin "member_descriptor.__get__"))
 gnI : specialIn K (.ref pI) "__get__" = some (some (.builtin "member_descriptor.__get__"))
 tsF : takesIn K (.ref pF) = some true
 tsI : takesIn K (.ref pI) = some true
 nt : K.all (fun p => !isTb p.2) = true
 keep : keepIn K (.ref C) = true
structure FnAt (hB : Heap) (f : Addr) (fd : FuncData) (body : List Stmt) : Prop where
 here : ∃ o, hB.get? f = some o ∧ o.data = .func fd
 code : ∃ c oc cvs t, fd.code = .ref c ∧ hB.get? c = some oc ∧ isTb oc = false ∧ oc.data = .fields cvs ∧ cvs[1]? = some (.str fd.qualname t)
 body : fd.body = .stmts body
 clo : fd.closure = []
 glob : fd.globals = mainGlobals
 bi : fd.builtins = builtinsNs
 kind : fd.scope.kind = .function
 co : fd.scope.isCoroutine = false
 gen : fd.scope.isGenerator = false
noncomputable def ffObj (C dx b it : Addr) : Obj := { cls := .ref C, dict := some dx, data := .plain, slots := #[some (.ref b), some (.ref it)] }
section
variable {Γ : Cx} {prog : Program} {w : World} {A : Around} {K : Frag} {C fI fT fN pF pI : Addr}
theorem qo8 {s : Shared} {f : Addr} {fd : FuncData} {body : List Stmt} {vals : List Value} {binds : List (Str × Value)} {R : Result → Shared → Prop} (ok : Γ.Ok s) (F : FnAt Γ.hB f fd body) (hroom : A.depth < recursionLimit)
  (hbind : bindArgs fd ⟨vals, []⟩ = pure binds) (hcell : ∀ x ∈ fd.scope.names, x.2 ≠ .cell) (hloc : ∀ x ∈ binds, fd.scope.names.lookup x.1 = some .local)
  (h : ∀ h₀, h₀.Ns s.heap.objs.size (fun x => binds.reverse.lookup x) → (∀ b o, s.heap.get? b = some o → h₀.get? b = some o) →
   wpAny (model prog w) (A.deeper (callEnv fd s.heap.objs.size f)) (execs body (callEnv fd s.heap.objs.size f)) (fun f s' => R (.ok (.ret (match f with | .ret v => v | _ => .none))) s')
    (fun e s' => wpAny (model prog w) (A.deeper (callEnv fd s.heap.objs.size f)) (leaving (callEnv fd s.heap.objs.size f) e) (fun _ s'' => R (.error e) s'') (fun e' s'' => R (.error e') s'') s')
    { s with heap := h₀, toks := s.toks + binds.length }) : codeAny (model prog w) A (.call (.ref f) ⟨vals, []⟩) R s := by
 obtain ⟨o, ho, hd⟩ := F.here
 obtain ⟨c, oc, cvs, t, hc, hcg, hct, hcd, hc1⟩ := F.code
 exact codeAny_call_def hroom (ok.base _ _ ho (q52 (q40 hd))) hd (q16 Γ.nolimit ok.kb) ⟨c, oc, cvs, t, hc, ok.base _ _ hcg hct, hcd, hc1⟩ F.body (BindsTo.of_eq hbind) hcell hloc h F.co F.gen F.kind
theorem qf5 {a : Addr} {o : Obj} : ∀ {l : List (Addr × Obj)}, l.lookup a = some o → (a, o) ∈ l
 | (b, p) :: r, e => by
  dsimp only [lookup_cons] at e
  split at e
  ·rename_i h; cases e; rw [beq_iff_eq.mp h]; exact .head _
  exact .tail _ (qf5 e)
theorem FF.in_ (FC : FF K C fI fT fN pF pI) (KX : K.In Γ.hB) {s : Shared} (ok : Γ.Ok s) : K.In s.heap := fun a o e =>
 ok.base _ _ (KX a o e) (by have := all_eq_true.mp FC.nt _ (show (a, o) ∈ (K : List (Addr × Obj)) from qf5 e); simpa using this)
theorem qn9 {a b c : Str} {x y z : Value} (h1 : (a == b) = false) (h2 : (a == c) = false) (h3 : (b == c) = false) :
  (([(a, x), (b, y), (c, z)] : List (Str × Value)).reverse.lookup a) = some x ∧ (([(a, x), (b, y), (c, z)] : List (Str × Value)).reverse.lookup b) = some y ∧ (([(a, x), (b, y), (c, z)] : List (Str × Value)).reverse.lookup c) = some z := by
 simp [List.lookup, h1, h2, h3]
structure CE (env : Env) (fd : FuncData) (L : Addr) : Prop where
 scope : env.scope = fd.scope
 locals : env.locals = L
 glob : env.globals = mainGlobals
 bi : env.builtins = builtinsNs
 frame : env.frame = some L
 kind : env.scope.kind = .function
 kof : ∀ n, env.kindOf n = fd.scope.names.lookup n
theorem CE.of {hB : Heap} {f L : Addr} {fd : FuncData} {body : List Stmt} (F : FnAt hB f fd body) : CE (callEnv fd L f) fd L :=
 ⟨rfl, rfl, F.glob, F.bi, rfl, F.kind, fun n => rfl⟩
theorem CE.loc {env : Env} {fd : FuncData} {L : Addr} (c : CE env fd L) {M : Model} {A : Around} {E : Value → Shared → Prop} {s : Shared} {x : Str} {v : Value} {m} {pos : Pos} {Q : Value → Shared → Prop} (hn : s.heap.Ns L m) (hk : fd.scope.names.lookup x = some .local) (hv : m x = some v) (h : Q v s) (hd : (x == ("__debug__" : Str)) = false) :
  wpAny M A (eval (.Name x pos) env) Q E s := wpAny_Name (wpAny_loadName_local c.kind ((c.kof x).trans hk) (by rw [c.locals]; exact hn) hv h) hd
theorem CE.O6 {env : Env} {fd : FuncData} {L : Addr} (c : CE env fd L) {M : Model} {A : Around} {E : Value → Shared → Prop} {s : Shared} {x : Str} {v : Value} {pos : Pos} {Q : Value → Shared → Prop} (ok : Kp Γ.hB s.heap) (hk : fd.scope.names.lookup x = some .globalImplicit) (hg : Γ.mg x = none) (hb : bootBuiltins x = some v) (hn : x ≠ "__name__") (h : Q v s) (hd : (x == ("__debug__" : Str)) = false) :
  wpAny M A (eval (.Name x pos) env) Q E s :=
 Name_function_global c.kind ((c.kof x).trans hk) (loadGlobal_builtin (by rw [c.glob]; exact ns_kp Γ.g ok) hg (by rw [c.bi]; exact ns_kp Γ.b ok) ((Γ.builtins x hn).trans hb) h) hd
theorem q69 {h : Heap} {x C dx : Addr} {sl : Array (Option Value)} (hx : h.get? x = some { cls := .ref C, dict := some dx, data := .plain, slots := sl }) (hdx : h.get? dx = some emptyDict) :
  PySem.W.InstAt h x { cls := .ref C, dict := some dx, data := .plain, slots := sl } C (some emptyDict) := ⟨hx, rfl, rfl, hdx⟩
theorem za3 {s : Shared} {fd : FuncData} {R : Result → Shared → Prop} {x dx b l : Addr} {vs : Array Value} (FC : FF K C fI fT fN pF pI) (KX : K.In Γ.hB) (ok : Γ.Ok s)
  (F : FnAt Γ.hB fI fd (bd pC[1]?))
  (hsc : fd.scope.names = [(ofString "self", .local), (ofString "function", .local), (ofString "iterable", .local), (ofString "iter", .globalImplicit)])
  (hbind : ∀ a b c, bindArgs fd ⟨[a, b, c], []⟩ = pure [(ofString "self", a), (ofString "function", b), (ofString "iterable", c)]) (hit : Γ.mg (ofString "iter") = none)
  (hroom : A.depth < recursionLimit) (hx : s.heap.get? x = some (instObj C dx)) (hdx : s.heap.get? dx = some emptyDict) (hxd : x ≠ dx) (hBx : Γ.hB.get? x = none) (hl : s.heap.IsList l vs)
  (hR : ∀ h' tk it, (∀ b o, b ≠ x → s.heap.get? b = some o → h'.get? b = some o) → s.heap.get? it = none → h'.get? x = some (ffObj C dx b it) → h'.IsListIter it l 0 → R (.ok (.ret .none)) { s with heap := h', toks := tk }) :
  codeAny (model Γ.prog Γ.w) A (.call (.ref fI) ⟨[.ref x, .ref b, .ref l], []⟩) R s := by
 replace F : FnAt Γ.hB fI fd [_, _] := F
 refine qo8 ok F hroom (hbind _ _ _) (by rw [hsc]; decide) (fun y hy => ?_) fun h₀ hns keep => ?_
 ·rw [hsc]
  simp only [mem_cons, not_mem_nil, or_false] at hy
  rcases hy with rfl | rfl | rfl <;> rfl
 have ce := CE.of (L := s.heap.objs.size) F
 generalize callEnv fd s.heap.objs.size fI = env at ce ⊢
 obtain ⟨mS, mF, mI⟩ := qn9 (a := ofString "self") (b := ofString "function") (c := ofString "iterable") (x := .ref x) (y := .ref b) (z := .ref l) (by decide) (by decide) (by decide)
 generalize hm : (fun n => List.lookup n ([(ofString "self", Value.ref x), (ofString "function", Value.ref b), (ofString "iterable", Value.ref l)] : List (Str × Value)).reverse) = m at hns
 replace mS : m (ofString "self") = some (.ref x) := by rw [← hm]; exact mS
 replace mF : m (ofString "function") = some (.ref b) := by rw [← hm]; exact mF
 replace mI : m (ofString "iterable") = some (.ref l) := by rw [← hm]; exact mI
 have hxL : x < s.heap.objs.size := lt_size hx
 have F0 : PyProof.Rows.Fr (s.heap.hide x) s.heap.objs.size h₀ m := ⟨hns, fun b o e => keep b o (Heap.of_hide e), Nat.le_of_eq (Heap.hide_size _ _)⟩
 have X0 : K.In (s.heap.hide x) := fun a o e => by
  have ne : a ≠ x := fun z => by have q := KX a o e; rw [z, hBx] at q; cases q
  exact (Heap.hide_ne _ ne).trans (FC.in_ KX ok a o e)
 have N0 : News (s.heap.hide x) s.heap.objs.size h₀ [(x, instObj C dx)] := fun p hp => by
  simp only [mem_singleton] at hp; subst hp
  exact ⟨keep _ _ hx, Nat.ne_of_lt hxL, Heap.hide_self _ _⟩
 have hd0 : (s.heap.hide x).get? dx = some emptyDict := (Heap.hide_ne _ hxd.symm).trans hdx
 have hxne : x ≠ h₀.objs.size := fun q => by have := keep _ _ hx; rw [q, q00] at this; cases this
 rw [execs_cons]
 refine wpAny_bind (plainObj_wpAny_Assign_Attribute ?_ (by rfl))
 refine wpAny_Call_Name_kw (ce.O6 (Γ := Γ) (v := .builtin "iter") (ok.kb.trans (.of keep)) (by rw [hsc]; rfl) hit (by kernel_rfl) (by decide) ?_ (by decide))
 refine PyProof.Rows.callWith_builtin1 (wpAny_items_cons (ce.loc hns (by rw [hsc]; rfl) mI ?_ (by decide)) (by rfl)) (by rfl) (by rfl)
 refine wpAny_items_nil (z25 (s := { s with heap := h₀, toks := _ }) (q80 hl (.of keep)) ?_)
 have F1 := F0.push { cls := .type "list_iterator", data := .fields #[.ref l, .int 0 0] }
 have N1 := N0.push F0 { cls := .type "list_iterator", data := .fields #[.ref l, .int 0 0] }
 refine ce.loc F1.ns (by rw [hsc]; rfl) mS ?_ (by decide)
 refine set_slot (i := 1) (ox' := { cls := .ref C, dict := some dx, data := .plain, slots := #[none, some (.ref h₀.objs.size)] }) F1 X0 N1 (q69 (N1.get (.tail _ (.head _))) (F1.keep _ _ hd0)) FC.setA FC.over FC.tkI FC.tyI FC.slI (by decide) rfl rfl (.tail (fun q => hxne q.symm) (.head fun _ q => by cases q)) fun h2 F2 N2 => ?_
 rw [execs_cons]
 refine wpAny_bind (plainObj_wpAny_Assign_Attribute ?_ (by rfl))
 refine ce.loc F2.ns (by rw [hsc]; rfl) mF (ce.loc F2.ns (by rw [hsc]; rfl) mS ?_ (by decide)) (by decide)
 refine set_slot (i := 0) (ox' := ffObj C dx b h₀.objs.size) F2 X0 N2 (q69 (N2.get (.tail _ (.head _))) (F2.keep _ _ hd0)) FC.setA FC.over FC.tkF FC.tyF FC.slF (by decide) rfl rfl (.tail (fun q => hxne q.symm) (.head fun _ q => by cases q)) fun h3 F3 N3 => ?_
 rw [execs_nil]
 refine wpAny_pure (hR h3 _ h₀.objs.size (fun c o hc e => F3.keep _ _ ((Heap.hide_ne _ hc).trans e)) ?_ (N3.get (.tail _ (.head _))) ⟨_, N3.get (.head _), rfl, rfl⟩)
 cases q : s.heap.get? h₀.objs.size with
 | none => rfl
 | some o => have := keep _ _ q; rw [q00] at this; cases this
end
section
variable {Γ : Cx} {A : Around} {K : Frag} {C fI fT fN pF pI : Addr}
theorem qk9 {n : Nat} (R : Room Γ A n) {s : Shared} (ok : Γ.Ok s) {h : Heap} (keep : ∀ L ∈ Γ.stk, ∀ o, s.heap.get? L = some o → h.get? L = some o) {l : List Env} (e : l.map (·.frame) = Γ.stk.map some) (k : ∀ env ∈ l, env.scope.kind ≠ .module) (base : Heap) (hb : ∀ L ∈ Γ.stk, base.get? L = none) : h.FunFrames base l := by
 have : ∀ (l : List Env) (st : List Addr), (∀ L ∈ st, L ∈ Γ.stk) → l.map (·.frame) = st.map some → (∀ env ∈ l, env.scope.kind ≠ .module) → h.FunFrames base l := by
  intro l
  induction l with
  | nil => intro _ _ _ _; trivial
  | cons env r ih =>
   intro st hs e k
   cases st with
   | nil => cases e
   | cons L st =>
    simp only [map_cons, List.cons.injEq] at e
    obtain ⟨o, ho, hf⟩ := ok.frs L (hs L (.head _))
    refine ⟨k env (.head _), ⟨L, o, e.1, hb L (hs L (.head _)), keep L (hs L (.head _)) o ho, fun vs q => ?_⟩, ih st (fun L m => hs L (.tail _ m)) e.2 fun e m => k e (.tail _ m)⟩
    rw [q07 q] at hf; exact absurd hf Bool.false_ne_true
 exact this l Γ.stk (fun _ m => m) e k
theorem qu6 {M : Model} {E : Value → Shared → Prop} {s : Shared} {env : Env} {k : Nat} {p : Pos} {Q : Value → Shared → Prop} (h : Q .none s) : wpAny M A (eval (.Constant .none k p) env) Q E s := fun _ _ _ => h
theorem qo0 {M : Model} {E : Value → Shared → Prop} {s : Shared} {b : Addr} {Q : Value → Shared → Prop} (h : Q (.bool false) s) : wpAny M A (compareOp .Is (.ref b) .none) Q E s := fun _ _ _ => h
theorem qz7 {M : Model} {E : Value → Shared → Prop} {s : Shared} {b : Addr} {T : String} {Q : Value → Shared → Prop} (h : Q (.bool false) s) : wpAny M A (compareOp .Is (.ref b) (.type T)) Q E s := fun _ _ _ => h
theorem qp9 {M : Model} {A : Around} {E : Value → Shared → Prop} {s : Shared} {env : Env} {pos : Pos} {b : Addr} {φa : Addr} {e : Expr} {Q : Value → Shared → Prop}
  (h : wpAny M A (eval e env) (fun v s₁ => s₁.heap.get? b = some (mwObj φa) ∧ wpAny M A (call (.ref b) [v]) Q E s₁) E s)
  (he : starEach [e] env = [(false, eval e env)]) (hp : backTo pos [(false, eval e env)] = [(false, eval e env)]) :
  wpAny M A (callWith pos (.ref b) [] (backTo pos (starEach [e] env)) []) Q E s := by
 rw [he, hp]
 unfold callWith
 refine wpAny_bind (wpAny_holding (Calls.evalArgs_plain (Calls.spliced_cons (wpAny_mono h (fun v s₁ h₁ => Calls.spliced_nil ?_) fun _ _ x => x))))
 refine wpAny_bind (wpAny_standAt ?_)
 obtain ⟨hb, hc⟩ := h₁
 dsimp only [any_cons, List.any_nil, Bool.or_false]
 refine wpAny_bind ?_
 refine wpAny_bind (wpAny_load hb ?_)
 show wpAny _ _ (pure Keeper.machine) _ _ s₁
 refine wpAny_pure ?_
 refine wpAny_bind ?_
 refine wpAny_mono hc (fun r s₂ hr => wpAny_bind (wpAny_holding (wpAny_point (wpAny_pure hr)))) fun _ _ x => x
theorem qo1 {M : Model} {E : Value → Shared → Prop} {s : Shared} {env : Env} {p : Pos} {Q : Bool → Shared → Prop} (h : Q true s) : wpAny M A (isTrue (.Constant (.bool true) 0 p) env (eval (.Constant (.bool true) 0 p) env)) Q E s :=
 isTrue_plain (fun Γ p' hΓ => wpAny_truthy_bool h)
theorem z98 {n : Nat} {s : Shared} {fd : FuncData} {R : Result → Shared → Prop} {x dx b a it l : Addr} {vs ws : Array Value} {i : Nat} {c : Value → Bool}
  (FC : FF K C fI fT fN pF pI) (KX : K.In Γ.hB) (Rm : Room Γ A (n + 1)) (ok : Γ.Ok s)
  (F : FnAt Γ.hB fN fd (bd pC[3]?))
  (hsc : fd.scope.names = [(ofString "self", .local), (ofString "func", .local), (ofString "item", .local), (ofString "next", .globalImplicit), (ofString "bool", .globalImplicit)])
  (hbind : ∀ a, bindArgs fd ⟨[a], []⟩ = pure [(ofString "self", a)]) (hnext : Γ.mg (ofString "next") = none) (hbool : Γ.mg (ofString "bool") = none)
  (hx : s.heap.get? x = some (ffObj C dx b it)) (hdx : s.heap.get? dx = some emptyDict) (hb : s.heap.get? b = some (mwObj a)) (ha : LstAt s.heap a ws) (hl : s.heap.IsList l vs) (hit : s.heap.IsListIter it l i)
  (dxi : dx ≠ it) (hBi : Γ.hB.get? it = none) (hc : ∀ v ∈ vs, ∃ e : Value → Bool, (∀ (A : Around) (s : Shared) y, y ∈ ws → PySem.SeqAt.EqAt A s y v (e y)) ∧ ws.any e = c v)
  (hItem : ∀ h' tk j v, i ≤ j → vs[j]? = some v → c v = false → (∀ k u, i ≤ k → k < j → vs[k]? = some u → c u = true) → (∀ b o, b ≠ it → s.heap.get? b = some o → h'.get? b = some o) → h'.IsListIter it l (j + 1) → R (.ok (.ret v)) { s with heap := h', toks := tk })
  (hEnd : ∀ h' tk e, (∀ k u, i ≤ k → vs[k]? = some u → c u = true) → (∀ b o, b ≠ it → b ∉ Γ.stk → s.heap.get? b = some o → h'.get? b = some o) → (∀ b ∈ Γ.stk, ∀ o, s.heap.get? b = some o → ∃ sl, h'.get? b = some { o with slots := sl }) →
   (∃ o, h'.get? e = some o ∧ o.cls = .type "StopIteration") → R (.error (.ref e)) { s with heap := h', toks := tk }) :
  codeAny (model Γ.prog Γ.w) A (.call (.ref fN) ⟨[.ref x], []⟩) R s := by
 replace F : FnAt Γ.hB fN fd [_, _] := F
 refine qo8 ok F Rm.dq (hbind _) (by rw [hsc]; decide) (fun y hy => ?_) fun h₀ hns keep => ?_
 ·rw [hsc]
  simp only [mem_cons, not_mem_nil, or_false] at hy
  rcases hy with rfl; rfl
 have ce := CE.of (L := s.heap.objs.size) F
 generalize callEnv fd s.heap.objs.size fN = env at ce ⊢
 generalize hL : s.heap.objs.size = L at ce hns
 have mS : (fun x_1 => List.lookup x_1 ([(ofString "self", Value.ref x)] : List (Str × Value)).reverse) (ofString "self") = some (.ref x) := rfl
 generalize (fun x_1 => List.lookup x_1 ([(ofString "self", Value.ref x)] : List (Str × Value)).reverse) = m at hns mS
 obtain ⟨oi, hoi, hic, hid⟩ := id hit
 have xi : x ≠ it := fun q => by rw [q, hoi] at hx; cases hx; cases hid
 have bi : b ≠ it := fun q => by rw [q, hoi] at hb; cases hb; have := Data.fields.inj hid; cases this
 have ai : a ≠ it := fun q => by obtain ⟨_, e⟩ := ha; rw [q, hoi] at e; cases e; cases hid
 have li : l ≠ it := fun q => by obtain ⟨o, e, hc, k, hd⟩ := hl; rw [q, hoi] at e; cases e; cases hd.symm.trans hid
 have itL : it < L := by rw [← hL]; exact lt_size hoi
 generalize hg : s.heap.hide it = g
 have gk : ∀ c o, c ≠ it → s.heap.get? c = some o → g.get? c = some o := fun c o ne e => by rw [← hg]; exact (Heap.hide_ne _ ne).trans e
 have kg : ∀ c o, g.get? c = some o → s.heap.get? c = some o := fun c o e => by rw [← hg] at e; exact Heap.of_hide e
 have gs : g.objs.size = L := by rw [← hg, Heap.hide_size, hL]
 have F0 : PyProof.Rows.Fr g L h₀ m := ⟨hns, fun c o e => keep c o (kg _ _ e), Nat.le_of_eq gs⟩
 have X0 : K.In g := fun c o e => gk _ _ (fun z => by have q := KX c o e; rw [z, hBi] at q; cases q) (FC.in_ KX ok c o e)
 have gx := gk _ _ xi hx
 have gd := gk _ _ dxi hdx
 have gb := gk _ _ bi hb
 have ga : LstAt g a ws := let ⟨k, e⟩ := ha; ⟨k, gk _ _ ai e⟩
 have gl : g.IsList l vs := let ⟨o, e, r⟩ := hl; ⟨o, gk _ _ li e, r⟩
 have gB : ∀ {h'}, (∀ c o, g.get? c = some o → h'.get? c = some o) → Kp Γ.hB h' := fun {h'} k c o e t => .of (k _ _ (gk _ _ (fun z => by rw [z, hBi] at e; cases e) (ok.base _ _ e (q52 t))))
 have notL : it ≠ L := Nat.ne_of_lt itL
 rw [execs_cons]
 refine wpAny_bind (wpAny_Assign_Name ?_ (by rfl))
 refine Attribute_Name_ (ce.loc F0.ns (by rw [hsc]; rfl) mS ?_ (by decide))
 refine get_slot (i := 0) F0 X0 (q69 (F0.keep _ _ gx) (F0.keep _ _ gd)) FC.getF FC.isC FC.atF FC.gnF FC.tsF FC.slF rfl rfl ?_
 refine wpAny_storeName_local ((ce.kof _).trans (by rw [hsc]; rfl)) ((ce.locals) ▸ F0.ns) (fun h1 hn1 hs1 => ?_) (by rw [ce.kind]; rfl)
 rw [ce.locals] at hn1 hs1
 have F1 := F0.set hn1 hs1
 have it0 : h1.IsListIter it l i := by
  refine ⟨oi, (hs1.2 _ notL).trans (keep _ _ hoi), hic, hid⟩
 rw [execs_cons]
 have mS1 : (fun y => if y = ofString "func" then some (Value.ref b) else m y) (ofString "self") = some (.ref x) := by
  show (if ofString "self" = ofString "func" then _ else _) = _
  rw [if_neg (by decide)]; exact mS
 have mF1 : (fun y => if y = ofString "func" then some (Value.ref b) else m y) (ofString "func") = some (.ref b) := if_pos rfl
 generalize (fun y => if y = ofString "func" then some (Value.ref b) else m y) = m1 at F1 mS1 mF1
 clear hn1 hs1 hns keep F0 mS
 have hE : PassesOwn (model Γ.prog Γ.w) (A.deeper env) env (fun e s' => wpAny (model Γ.prog Γ.w) (A.deeper env) (leaving env e) (fun _ s'' => R (.error e) s'') (fun e' s'' => R (.error e') s'') s') := by passes_own
 refine wpAny_bind (wpAny_While (codeAny_whileLoop (fun k s' => ∃ j h' tk m', s' = { s with heap := h', toks := tk } ∧ k = vs.size + 1 - j ∧ i ≤ j ∧ j ≤ max i vs.size ∧ PyProof.Rows.Fr g L h' m' ∧ m' (ofString "self") = some (.ref x) ∧ m' (ofString "func") = some (.ref b) ∧ h'.IsListIter it l j ∧ (∀ k u, i ≤ k → k < j → vs[k]? = some u → c u = true)) (fun k s' hI => ?_) (vs.size + 1 - i) ⟨i, h1, _, m1, rfl, rfl, Nat.le_refl _, Nat.le_max_left _ _, F1, mS1, mF1, it0, fun k u h1 h2 => absurd h2 (Nat.not_lt.mpr h1)⟩))
 obtain ⟨j, h', tk, m', rfl, rfl, hij, hjm, F', mS', mF', it', hall⟩ := hI
 refine qo1 ?_
 dsimp only [if_true]
 rw [execs_cons]
 have kst : ∀ c o, g.get? c = some o → h'.get? c = some o := F'.keep
 refine wpAny_bind (wpAny_Assign_Name ?_ (by rfl))
 refine wpAny_Call_Name_kw (ce.O6 (Γ := Γ) (v := .builtin "next") (gB kst) (by rw [hsc]; rfl) hnext (by kernel_rfl) (by decide) ?_ (by decide))
 refine PyProof.Rows.callWith_builtin1 (wpAny_items_cons (Attribute_Name_ (ce.loc F'.ns (by rw [hsc]; rfl) mS' ?_ (by decide))) (by rfl)) (by rfl) (by rfl)
 refine get_slot (i := 1) F' X0 (q69 (kst _ _ gx) (kst _ _ gd)) FC.getI FC.isC FC.atI FC.gnI FC.tsI FC.slI rfl rfl ?_
 refine wpAny_items_nil ?_
 cases hv : vs[j]? with
 | none =>
  refine qi5 (s := { s with heap := h', toks := _ }) Rm.handled it' (q80 gl (.of kst)) hv fun h2 h3 e hs2 hm => ?_
  refine hE _ _ ?_
  obtain ⟨l0, e1, e2, e3⟩ := Rm.frames
  have stkL : ∀ c ∈ Γ.stk, c ≠ L := fun c m q => by obtain ⟨o, ho, _⟩ := ok.frs c m; rw [q, ← hL, q00] at ho; exact absurd ho.symm (some_ne_none _)
  have stki : ∀ c ∈ Γ.stk, c ≠ it := fun c m q => by obtain ⟨o, ho, hf⟩ := ok.frs c m; rw [q, hoi] at ho; cases ho; rw [q07 hid] at hf; exact absurd hf Bool.false_ne_true
  have gst : ∀ c ∈ Γ.stk, ∀ o, s.heap.get? c = some o → h2.get? c = some o := fun c m o e => (hs2.2 _ (stki c m)).trans (kst _ _ (gk _ _ (stki c m) e))
  obtain ⟨oL, es, ep, hoL, hdL, _⟩ := F'.ns
  have hfun : h2.FunFrames (hideAll h2 (L :: Γ.stk)) (env :: l0) := by
   refine ⟨by rw [ce.kind]; decide, ⟨L, oL, ce.frame, hideAll_none _ (.head _), (hs2.2 _ notL.symm).trans hoL, fun vs q => by cases hdL.symm.trans q⟩, ?_⟩
   exact qk9 Rm ok gst e2 e3 _ fun c m => hideAll_none _ (.tail _ m)
  refine wpAny_leaves_madeW (base := hideAll h2 (L :: Γ.stk)) (Around.frames_deeper e1) ce.frame (fun c o q => of_hideAll _ q) hfun hm fun h4 t x1 x2 x3 x4 => ?_
  obtain ⟨y1, y2, y3, y4⟩ := x1
  refine hEnd h4 _ e (fun k u h1 h2 => hall k u h1 ?_ h2) (fun c o hci hcs hco => ?_) (fun c m o hco => ?_) ?_
  ·have := (Array.getElem?_eq_some_iff.mp h2).1
   have q : vs.size ≤ j := by simpa using hv
   lia
  ·have cL : c ≠ L := fun q => by rw [q, ← hL, q00] at hco; exact absurd hco.symm (some_ne_none _)
   exact y1 _ _ (hideAll_get _ ((hs2.2 _ hci).trans (kst _ _ (gk _ _ hci hco))) fun m => by
    rcases mem_cons.mp m with m | m
    ·exact cL m
    exact hcs m)
  ·refine x4 c o (hm.keeps _ _ (gst c m o hco)) fun vs q => ?_
   obtain ⟨o', ho', hf'⟩ := ok.frs c m
   rw [hco] at ho'; cases ho'
   rw [q07 q] at hf'; cases hf'
  obtain ⟨oe, vs', T, oT, ts, a1, a2, a3, a4, a5, a6⟩ := y4
  exact ⟨oe, a1, a2.1⟩
 | some v =>
  have hvm : v ∈ vs := mem_of_getElem? (by rw [← getElem?_toList] at hv; exact hv) |> Array.mem_toList_iff.mp
  refine qe9 (s := { s with heap := h', toks := _ }) it' (q80 gl (.of kst)) hv fun h2 it2 hs2 => ?_
  have kst2 : ∀ c o, g.get? c = some o → h2.get? c = some o := fun c o e => (hs2.2 _ fun q => by rw [q, ← hg, Heap.hide_self] at e; cases e).trans (kst _ _ e)
  have ns2 : h2.Ns L m' := F'.ns.sameBut hs2 notL.symm
  refine wpAny_storeName_local (s := { s with heap := h2, toks := _ }) ((ce.kof _).trans (by rw [hsc]; rfl)) ((ce.locals) ▸ ns2) (fun h3 hn3 hs3 => ?_) (by rw [ce.kind]; rfl)
  rw [ce.locals] at hn3 hs3
  have F3 : PyProof.Rows.Fr g L h3 (fun y => if y = ofString "item" then some v else m' y) := (PyProof.Rows.Fr.mk ns2 kst2 (Nat.le_of_eq gs)).set hn3 hs3
  have it3 : h3.IsListIter it l (j + 1) := by obtain ⟨o, ho, r⟩ := it2; exact ⟨o, (hs3.2 _ notL).trans ho, r⟩
  have mS3 : (fun y => if y = ofString "item" then some v else m' y) (ofString "self") = some (.ref x) := by
   show (if ofString "self" = ofString "item" then _ else _) = _
   rw [if_neg (by decide)]; exact mS'
  have mF3 : (fun y => if y = ofString "item" then some v else m' y) (ofString "func") = some (.ref b) := by
   show (if ofString "func" = ofString "item" then _ else _) = _
   rw [if_neg (by decide)]; exact mF'
  have mI3 : (fun y => if y = ofString "item" then some v else m' y) (ofString "item") = some v := if_pos rfl
  generalize (fun y => if y = ofString "item" then some v else m' y) = m3 at F3 mS3 mF3 mI3
  clear hn3 hs3 ns2 kst2 it2 hs2
  rw [execs_cons]
  refine wpAny_bind (wpAny_If ?_)
  refine isTrue_or (wpAny_isTrue_Compare1 (ce.loc F3.ns (by rw [hsc]; rfl) mF3 ?_ (by decide)) (by rfl))
  refine qu6 (qo0 (wpAny_truthy_bool ?_))
  dsimp only [false_eq_true, if_false]
  refine isTrue_or (wpAny_isTrue_Compare1 (ce.loc F3.ns (by rw [hsc]; rfl) mF3 ?_ (by decide)) (by rfl))
  refine ce.O6 (Γ := Γ) (v := .type "bool") (gB F3.keep) (by rw [hsc]; rfl) hbool (by kernel_rfl) (by decide) ?_ (by decide)
  refine qz7 (wpAny_truthy_bool ?_)
  simp only [false_eq_true, if_false]
  refine isTrue_or_nil ?_
  simp only [false_eq_true, if_false]
  rw [execs_cons]
  refine wpAny_bind (wpAny_If (wpAny_isTrue_Not (isTrue_plain ?_)))
  refine wpAny_Call_Name_kw (ce.loc F3.ns (by rw [hsc]; rfl) mF3 ?_ (by decide))
  obtain ⟨ev, hev, hcv⟩ := hc v hvm
  refine qp9 (b := b) (φa := a) (ce.loc F3.ns (by rw [hsc]; rfl) mI3 ⟨F3.keep _ _ gb, zb1 ev (F3.keep _ _ gb) (ga.kp (.of F3.keep)) (fun y hy => hev _ _ y hy) (wpAny_truthy_bool ?_)⟩ (by decide)) rfl rfl
  rw [hcv]
  cases hcc : c v with
  | true =>
   simp only [Bool.not_true, false_eq_true, if_false]
   rw [execs_nil]
   refine wpAny_pure (wpAny_pure ?_)
   try refine wpAny_pure ?_
   have hjv : j < vs.size := (Array.getElem?_eq_some_iff.mp hv).1
   refine ⟨vs.size + 1 - (j + 1), by lia, j + 1, h3, _, m3, rfl, rfl, by lia, by lia, F3, mS3, mF3, it3, fun k u h1 h2 h3 => ?_⟩
   by_cases q : k = j
   ·subst q; cases hv.symm.trans h3; exact hcc
   exact hall k u h1 (by lia) h3
  | false =>
   simp only [Bool.not_false, if_true]
   rw [execs_cons]
   refine wpAny_bind (wpAny_Return_some (ce.loc F3.ns (by rw [hsc]; rfl) mI3 ?_ (by decide)))
   repeat refine wpAny_pure ?_
   refine hItem h3 _ j v hij hv hcc hall (fun c o hci hco => F3.keep _ _ (gk _ _ hci hco)) it3
end
section
variable {Γ : Cx} {A : Around} {K : Frag} {C fI fT fN pF pI : Addr}
theorem Room.in1 {n : Nat} (R : Room Γ A (n + 1)) : Room Γ A.in1 n := ⟨R.frames, R.handled, by have := R.depth; show A.depth + _ ≤ 900; lia, by have := R.units; show A.units + 1 + _ + _ ≤ 9900; lia⟩
theorem za2 {M : Model} {n : Nat} {s : Shared} {fd : FuncData} {E : Value → Shared → Prop} {Q : Value → Shared → Prop} {x : Addr} {ox : Obj} {od : Option Obj} (FC : FF K C fI fT fN pF pI) (KX : K.In Γ.hB) (Rm : Room Γ A (n + 1)) (ok : Γ.Ok s)
  (F : FnAt Γ.hB fT fd (bd pC[2]?)) (hsc : fd.scope.names = [(ofString "self", .local)]) (hbind : ∀ a, bindArgs fd ⟨[a], []⟩ = pure [(ofString "self", a)])
  (I : PySem.W.InstAt s.heap x ox C od) (h : ∀ h' tk, (∀ b o, s.heap.get? b = some o → h'.get? b = some o) → Q (.ref x) { s with heap := h', toks := tk }) : wpAny (model Γ.prog Γ.w) A (pyIter (.ref x)) Q E s := by
 replace F : FnAt Γ.hB fT fd [_] := F
 have X := FC.in_ KX ok
 have fin0 : wpAny (model Γ.prog Γ.w) A (call (.ref fT) [.ref x]) (fun v s' => v = .ref x ∧ (∀ b o, s.heap.get? b = some o → s'.heap.get? b = some o) ∧ Q (.ref x) s') E s := by
  refine wpAny_call (qo8 ok F Rm.dq (hbind _) (by rw [hsc]; decide) (fun y hy => ?_) fun h₀ hns keep => ?_)
  ·rw [hsc]
   simp only [mem_cons, not_mem_nil, or_false] at hy
   rcases hy with rfl; rfl
  have ce := CE.of (L := s.heap.objs.size) F
  generalize callEnv fd s.heap.objs.size fT = env at ce ⊢
  rw [execs_cons]
  refine wpAny_bind (wpAny_Return_some (ce.loc hns (by rw [hsc]; rfl) rfl ?_ (by decide)))
  exact wpAny_pure ⟨rfl, keep, h h₀ _ keep⟩
 have fin : wpAny (model Γ.prog Γ.w) A (call (.ref fT) [.ref x] >>= fun v => pure (some v)) (fun r s' => ∃ v, r = some v ∧ v = .ref x ∧ (∀ b o, s.heap.get? b = some o → s'.heap.get? b = some o) ∧ Q (.ref x) s') E s :=
  wpAny_bind (wpAny_mono fin0 (fun v s' h' => wpAny_pure ⟨v, rfl, h'⟩) fun _ _ z => z)
 have one : ∀ refuse : Sem Value, wpAny (model Γ.prog Γ.w) A (callSpecialIfBoundUnlessNone? (.ref x) "__iter__" refuse) (fun r s' => ∃ v, r = some v ∧ v = .ref x ∧ (∀ b o, s.heap.get? b = some o → s'.heap.get? b = some o) ∧ Q (.ref x) s') E s := by
  intro refuse
  dsimp only [callSpecialIfBoundUnlessNone?, bindSpecialIfBound?]
  refine wpAny_holding (wpAny_bind (wpAny_bind (wpAny_bind (I.type.here ((looks_findIn X FC.hT).here ?_)))))
  refine wpAny_bind (wpAny_askSetting (wpAny_ite ?_))
  have fin2 : wpAny (model Γ.prog Γ.w) A (if (Value.ref fT == Value.none) = true then (refuse >>= fun v => pure (some v)) else (call (.ref fT) [.ref x] >>= fun v => pure (some v))) (fun r s' => ∃ v, r = some v ∧ v = .ref x ∧ (∀ b o, s.heap.get? b = some o → s'.heap.get? b = some o) ∧ Q (.ref x) s') E s := by
   rw [if_neg (show ¬ ((Value.ref fT == Value.none) = true) from Bool.false_ne_true)]
   exact fin
  split
  ·exact wpAny_bind ((bind_fn X _ FC.tT).here (wpAny_pure (by exact fin2)))
  exact wpAny_tryCatch (wpAny_bind ((bind_fn X _ FC.tT).here (wpAny_pure (by exact fin2))))
 unfold pyIter
 refine wpAny_bind (wpAny_bind (I.type.here ((looks_findIn X FC.hT).here ?_)))
 show wpAny _ A (callSpecialIfBoundUnlessNone? (.ref x) "__iter__" _ >>= _) Q E s
 refine wpAny_bind (wpAny_mono (one _) (fun r s' hr => ?_) fun _ _ z => z)
 obtain ⟨v, rfl, rfl, kk, hv⟩ := hr
 have I' : PySem.W.InstAt s'.heap x ox C od := by
  obtain ⟨i1, i2, i3, i4⟩ := I
  refine ⟨kk _ _ i1, i2, i3, ?_⟩
  revert i4
  cases ox.dict <;> cases od <;> intro i4 <;> first | exact kk _ _ i4 | exact i4
 have X' : K.In s'.heap := fun a o e => kk _ _ (X a o e)
 refine wpAny_bind (wpAny_bind (I'.type.here ((looks_findIn X' FC.hN).here ?_)))
 exact wpAny_pure hv
structure FFs (Γ : Cx) (K : Frag) (C fI fT fN pF pI : Addr) : Prop where
 FC : FF K C fI fT fN pF pI
 KX : K.In Γ.hB
 init : ∃ (fd : FuncData), FnAt Γ.hB fI fd (bd pC[1]?) ∧
  fd.scope.names = [(ofString "self", .local), (ofString "function", .local), (ofString "iterable", .local), (ofString "iter", .globalImplicit)] ∧
  ∀ a b c, bindArgs fd ⟨[a, b, c], []⟩ = pure [(ofString "self", a), (ofString "function", b), (ofString "iterable", c)]
 iter : ∃ (fd : FuncData), FnAt Γ.hB fT fd (bd pC[2]?) ∧ fd.scope.names = [(ofString "self", .local)] ∧ ∀ a, bindArgs fd ⟨[a], []⟩ = pure [(ofString "self", a)]
 next : ∃ (fd : FuncData), FnAt Γ.hB fN fd (bd pC[3]?) ∧
  fd.scope.names = [(ofString "self", .local), (ofString "func", .local), (ofString "item", .local), (ofString "next", .globalImplicit), (ofString "bool", .globalImplicit)] ∧
  ∀ a, bindArgs fd ⟨[a], []⟩ = pure [(ofString "self", a)]
 gi : Γ.mg (ofString "iter") = none
 gn : Γ.mg (ofString "next") = none
 gb : Γ.mg (ofString "bool") = none
structure Still (Γ : Cx) (C x dx b a it l : Addr) (vs ws : Array Value) (c : Value → Bool) (s : Shared) : Prop where
 ok : Γ.Ok s
 hx : s.heap.get? x = some (ffObj C dx b it)
 hdx : s.heap.get? dx = some emptyDict
 hb : s.heap.get? b = some (mwObj a)
 ha : LstAt s.heap a ws
 hl : LstAt s.heap l vs
 dxi : dx ≠ it
 hBi : Γ.hB.get? it = none
 hc : ∀ v ∈ vs, ∃ e : Value → Bool, (∀ (A : Around) (s : Shared) y, y ∈ ws → PySem.SeqAt.EqAt A s y v (e y)) ∧ ws.any e = c v
theorem z06 {n : Nat} {s : Shared} {E : Value → Shared → Prop} {Q : Option Value → Shared → Prop} {x dx b a it l : Addr} {vs ws : Array Value} {i : Nat} {c : Value → Bool} (FS : FFs Γ K C fI fT fN pF pI) (Rm : Room Γ A (n + 1)) (S : Still Γ C x dx b a it l vs ws c s) (hit : s.heap.IsListIter it l i)
  (hItem : ∀ h' tk j v, i ≤ j → vs[j]? = some v → c v = false → (∀ k u, i ≤ k → k < j → vs[k]? = some u → c u = true) → (∀ b o, b ≠ it → s.heap.get? b = some o → h'.get? b = some o) → h'.IsListIter it l (j + 1) → Q (some v) { s with heap := h', toks := tk })
  (hEnd : ∀ h' tk, (∀ k u, i ≤ k → vs[k]? = some u → c u = true) → (∀ b o, b ≠ it → b ∉ Γ.stk → s.heap.get? b = some o → h'.get? b = some o) → (∀ b ∈ Γ.stk, ∀ o, s.heap.get? b = some o → ∃ sl, h'.get? b = some { o with slots := sl }) → Q none { s with heap := h', toks := tk }) :
  wpAny (model Γ.prog Γ.w) A (pyNext (.ref x)) Q E s := by
 obtain ⟨fd, F, hsc, hbind⟩ := FS.next
 unfold pyNext
 refine wpAny_bind (wpAny_attempt (special_fn (name := "__next__") (args := []) (FS.FC.in_ FS.KX S.ok) (q69 S.hx S.hdx) FS.FC.hN FS.FC.tN (wpAny_call ?_)))
 refine z98 FS.FC FS.KX Rm S.ok F hsc hbind FS.gn FS.gb S.hx S.hdx S.hb S.ha S.hl.isList hit S.dxi S.hBi S.hc (fun h' tk j v h1 h2 h3 h4 h5 h6 => ?_) fun h' tk e h1 h2 h3 h4 => ?_
 ·exact wpAny_pure (hItem h' tk j v h1 h2 h3 h4 h5 h6)
 obtain ⟨o, ho, hcl⟩ := h4
 refine wpAny_bind (wpAny_isInstance (T := "StopIteration") (b := true) ⟨o, ho, hcl⟩ isSubtype_stop ?_)
 exact wpAny_pure (hEnd h' tk h1 h2 h3)
noncomputable def kept (c : Value → Bool) (vs : List Value) : List Value := vs.filter fun v => !c v
theorem qk5 {c : Value → Bool} {vs : List Value} {i j : Nat} (hij : i ≤ j) (h : ∀ k u, i ≤ k → k < j → vs[k]? = some u → c u = true) : kept c (vs.take j) = kept c (vs.take i) := by
 induction j with
 | zero => rw [Nat.le_zero.mp hij]
 | succ j ih =>
  by_cases e : i = j + 1
  ·rw [e]
  have := ih (by lia) fun k u h1 h2 h3 => h k u h1 (by lia) h3
  rw [← this, take_add_one]
  unfold kept
  rw [filter_append]
  cases q : vs[j]? with
  | none => simp
  | some u => simp [h j u (by lia) (by lia) q]
theorem za0 {x dx b a it l S : Addr} {vs ws : Array Value} {c : Value → Bool} {res : Value} {R : Result → Shared → Prop} {n : Nat} (FS : FFs Γ K C fI fT fN pF pI) (Rm : Room Γ A (n + 2)) (hz : vs.size ≤ 2 ^ 24) (hBS : Γ.hB.get? S = none) :
  ∀ (k i : Nat) (s : Shared) (acc : Array Value), vs.size + 1 - i ≤ k → i ≤ vs.size → Still Γ C x dx b a it l vs ws c s → s.heap.IsListIter it l i → S ≠ it → LstAt s.heap S acc → acc.toList = kept c (vs.toList.take i) → S ≠ a → S ≠ l → S ≠ x → S ≠ b → S ≠ dx →
   (∀ h' tk, (∀ q o, q ≠ it → q ≠ S → q ∉ Γ.stk → s.heap.get? q = some o → h'.get? q = some o) → (∀ q ∈ Γ.stk, ∀ o, s.heap.get? q = some o → ∃ sl, h'.get? q = some { o with slots := sl }) → (∃ vs', LstAt h' S vs' ∧ vs'.toList = kept c vs.toList) → R (.ok (.ret res)) { s with heap := h', toks := tk }) →
   codeAny (model Γ.prog Γ.w) A (.builtin "list.extend.loop" ⟨[.ref S, .ref x, res], []⟩) R s := by
 intro k
 induction k with
 | zero => intro i s acc h1 h2; lia
 | succ k ih =>
  intro i s acc hk hi St hit hSi hS hacc Sa Sl Sx Sb Sd hR
  have stS : S ∉ Γ.stk := fun m => by
   obtain ⟨o, ho, hf⟩ := St.ok.frs S m
   obtain ⟨j, e⟩ := hS; rw [e] at ho; cases ho; exact absurd hf Bool.false_ne_true
  refine codeAny_builtin PySem.F.entry_extend_loop ?_
  rw [Around.under_plainId PySem.F.plain_extend_loop _]
  show wpAny _ A.in1 (pyNext (.ref x) >>= _) _ _ s
  refine wpAny_bind (z06 FS Rm.in1 St hit (fun h' tk j v h1 h2 h3 h4 h5 h6 => ?_) fun h' tk h1 h2 h3 => ?_)
  ·have hj : j < vs.size := (Array.getElem?_eq_some_iff.mp h2).1
   obtain ⟨m, hm⟩ := hS
   have hS' := h5 _ _ hSi hm
   have sz : acc.size ≤ i := by
    have := congrArg List.length hacc
    simp only [length_toList] at this
    rw [this]; unfold kept
    have h1 := length_filter_le (fun v => !c v) (vs.toList.take i)
    have h2 : (vs.toList.take i).length ≤ i := by rw [length_take]; lia
    lia
   show wpAny _ A.in1 (updateSeq S (·.push v) >>= _) _ _ _
   refine wpAny_bind ?_
   have hS2 : ∃ m', (h'.update S (Obj.mapSeq (·.push v))).get? S = some { cls := .type "list", dict := none, data := .seq (acc.push v) m', slots := #[] } := ⟨_, Heap.get?_update_self _ hS' rfl⟩
   refine wpAny_updateSeq hS' rfl (wpAny_pure ⟨plainId_quiet PySem.F.plain_extend_loop _, ?_⟩) (by simp only [sizeLine]; lia) (by show (acc.push v).size ≤ sizeLine + 1; rw [Array.size_push]; simp only [sizeLine]; lia)
   have keep2 : ∀ q o, q ≠ it → q ≠ S → s.heap.get? q = some o → (h'.update S (Obj.mapSeq (·.push v))).get? q = some o := fun q o e1 e2 e => (Heap.get?_update_other _ _ (Ne.symm e2)).trans (h5 _ _ e1 e)
   have it2 : (h'.update S (Obj.mapSeq (·.push v))).IsListIter it l (j + 1) := by
    obtain ⟨o, ho, r⟩ := h6
    exact ⟨o, (Heap.get?_update_other _ _ hSi).trans ho, r⟩
   have ok2 : Γ.Ok { s with heap := h'.update S (Obj.mapSeq (·.push v)), toks := tk } := by
    refine ⟨fun q o e t => ?_, fun p hp => ?_, St.ok.gens, St.ok.os, fun q hq => ?_, fun L hL => ?_, St.ok.off, fun q o e t => keep2 _ _ (fun z => by rw [z, St.hBi] at e; cases e) (fun z => by rw [z, hBS] at e; cases e) (St.ok.old _ _ e t)⟩
    ·exact keep2 _ _ (fun z => by rw [z, St.hBi] at e; cases e) (fun z => by rw [z, hBS] at e; cases e) (St.ok.base _ _ e t)
    ·refine (St.ok.tabs p hp).keep fun q o e1 t => keep2 _ _ (fun z => ?_) (fun z => ?_) e1
     ·obtain ⟨o, ho, hc, hd⟩ := hit; rw [z, ho] at e1; cases e1; rw [lot (q03 hc hd)] at t; cases t
     rw [z, hm] at e1; cases e1; cases t
    ·obtain ⟨o, ho⟩ := ne_none_iff_exists'.mp (St.ok.all q hq)
     show (h'.update S (Obj.mapSeq (·.push v))).get? q ≠ none
     rw [keep2 _ _ (fun z => hq (by rw [z]; exact St.hBi)) (fun z => hq (by rw [z]; exact hBS)) ho]; simp
    obtain ⟨o, ho, hf⟩ := St.ok.frs L hL
    refine ⟨o, keep2 _ _ (fun z => ?_) (fun z => stS (z ▸ hL)) ho, hf⟩
    obtain ⟨o', ho', _, hd⟩ := hit; rw [z, ho'] at ho; cases ho; rw [q07 hd] at hf; exact absurd hf Bool.false_ne_true
   have St2 : Still Γ C x dx b a it l vs ws c { s with heap := h'.update S (Obj.mapSeq (·.push v)), toks := tk } := by
    refine ⟨ok2, ?_, ?_, ?_, ?_, ?_, St.dxi, St.hBi, St.hc⟩
    ·exact keep2 _ _ (fun z => by obtain ⟨o', ho', _, hd⟩ := hit; have := St.hx; rw [z, ho'] at this; cases this; cases hd) Sx.symm St.hx
    ·exact keep2 _ _ St.dxi Sd.symm St.hdx
    ·exact keep2 _ _ (fun z => by obtain ⟨o', ho', _, hd⟩ := hit; have := St.hb; rw [z, ho'] at this; cases this; have := Data.fields.inj hd; cases this) Sb.symm St.hb
    ·obtain ⟨jj, e⟩ := St.ha
     exact ⟨jj, keep2 _ _ (fun z => by obtain ⟨o', ho', _, hd⟩ := hit; rw [z, ho'] at e; cases e; cases hd) Sa.symm e⟩
    obtain ⟨jj, e⟩ := St.hl
    exact ⟨jj, keep2 _ _ (fun z => by obtain ⟨o', ho', _, hd⟩ := hit; rw [z, ho'] at e; cases e; cases hd) Sl.symm e⟩
   refine ih (j + 1) _ (acc.push v) (by lia) (by lia) St2 it2 hSi hS2 ?_ Sa Sl Sx Sb Sd fun h2 tk2 k1 k2 k3 => ?_
   ·have e1 : kept c (vs.toList.take j) = kept c (vs.toList.take i) := qk5 h1 fun k u q1 q2 q3 => h4 k u q1 q2 (by rw [← getElem?_toList]; exact q3)
    rw [toList_push, hacc, ← e1, take_add_one, show vs.toList[j]? = some v by rw [getElem?_toList]; exact h2]
    unfold kept
    rw [filter_append]; simp [h3]
   exact hR h2 tk2 (fun q o e1 e2 e3 e => k1 q o e1 e2 e3 (keep2 q o e1 e2 e)) (fun q m o e => k2 q m o (keep2 q o (fun z => by obtain ⟨o', ho', _, hd⟩ := hit; obtain ⟨o2, ho2, hf2⟩ := St.ok.frs q m; rw [z, ho'] at ho2; cases ho2; rw [q07 hd] at hf2; exact absurd hf2 Bool.false_ne_true) (fun z => stS (z ▸ m)) e)) k3
  refine wpAny_pure (hR h' tk (fun q o e1 e2 e3 e => h2 q o e1 e3 e) h3 ⟨acc, ?_, ?_⟩)
  ·obtain ⟨m, hm⟩ := hS; exact ⟨m, h2 _ _ hSi stS hm⟩
  rw [hacc, ← qk5 (j := vs.toList.length) hi fun k u q1 q2 q3 => h1 k u q1 (by rw [← getElem?_toList]; exact q3), take_length]
end
section
variable {Γ : Cx} {A : Around} {K : Frag} {C fI fT fN pF pI : Addr}
theorem Still.more {x dx b a it l : Addr} {vs ws : Array Value} {c : Value → Bool} {s s' : Shared} (S : Still Γ C x dx b a it l vs ws c s) (ok : Γ.Ok s') (k : ∀ q o, s.heap.get? q = some o → s'.heap.get? q = some o) : Still Γ C x dx b a it l vs ws c s' :=
 ⟨ok, k _ _ S.hx, k _ _ S.hdx, k _ _ S.hb, let ⟨j, e⟩ := S.ha; ⟨j, k _ _ e⟩, let ⟨j, e⟩ := S.hl; ⟨j, k _ _ e⟩, S.dxi, S.hBi, S.hc⟩
theorem qd2 {h h' : Heap} {it l : Addr} {i : Nat} (k : ∀ q o, h.get? q = some o → h'.get? q = some o) (x : h.IsListIter it l i) : h'.IsListIter it l i := let ⟨o, e, r⟩ := x; ⟨o, k _ _ e, r⟩
theorem za1 {x dx b a it l : Addr} {vs ws : Array Value} {c : Value → Bool} {n : Nat} {s : Shared} {E : Value → Shared → Prop} {Q : Value → Shared → Prop} (FS : FFs Γ K C fI fT fN pF pI) (Rm : Room Γ A (n + 5)) (hz : vs.size ≤ 2 ^ 24) (St : Still Γ C x dx b a it l vs ws c s) (hit : s.heap.IsListIter it l 0)
  (h : ∀ h' tk S vs', (∀ q o, q ≠ it → q ∉ Γ.stk → s.heap.get? q = some o → h'.get? q = some o) → (∀ q ∈ Γ.stk, ∀ o, s.heap.get? q = some o → ∃ sl, h'.get? q = some { o with slots := sl }) → s.heap.get? S = none → LstAt h' S vs' → vs'.toList = kept c vs.toList → Q (.ref S) { s with heap := h', toks := tk }) :
  wpAny (model Γ.prog Γ.w) A (call (.type "list") [.ref x]) Q E s := by
 refine callType_codes (Q₁ := fun obj s₁ => obj = .ref s.heap.objs.size ∧ s₁ = { s with heap := s.heap.push { cls := .type "list", data := .seq #[] } }) F.called_list (F.typeCall_list_1 _) F.entry_list_init
  (code_list_new _ ⟨rfl, rfl⟩) fun obj s₁ h₁ => ?_
 obtain ⟨rfl, rfl⟩ := h₁
 generalize hS : s.heap.objs.size = S
 have newS : s.heap.get? S = none := by rw [← hS]; exact q00 _
 have hBS : Γ.hB.get? S = none := St.ok.new newS
 have hS1 : (s.heap.push { cls := .type "list", data := .seq #[] }).get? S = some { cls := .type "list", data := .seq #[] } := by rw [← hS]; exact get?_push_size _ rfl
 have keep1 : ∀ q o, s.heap.get? q = some o → (s.heap.push { cls := .type "list", data := .seq #[] }).get? q = some o := fun q o e => get?_push_of_some _ e
 have ne : ∀ {q o}, s.heap.get? q = some o → S ≠ q := fun e z => by rw [← z, newS] at e; cases e
 obtain ⟨ja, ea⟩ := St.ha
 obtain ⟨jl, el⟩ := St.hl
 have Sa := ne ea; have Sl := ne el; have Sx := ne St.hx; have Sb := ne St.hb; have Sd := ne St.hdx
 have Si : S ≠ it := by obtain ⟨o, e, _⟩ := hit; exact ne e
 refine ⟨⟨_, hS1, rfl⟩, F.args_list_init_2 _ _, ?_⟩
 show wpAny _ A.in1.in1 (do let old ← Builtin.List.listItems (.ref S); Builtin.List.listUpdate (.ref S) (fun _ => #[]); letGo old.toList.reverse; Builtin.List.listExtendWith (.ref S) (.ref x) .none) _ _ _
 refine wpAny_bind ?_
 unfold Builtin.List.listItems
 refine wpAny_bind (wpAny_seqItems hS1 rfl (wpAny_pure ?_))
 show wpAny _ A.in1.in1 (updateSeq S (fun _ => #[]) >>= fun _ => letGo (#[] : Array Value).toList.reverse >>= fun _ => Builtin.List.listExtendWith (.ref S) (.ref x) .none) _ _ _
 refine wpAny_bind (wpAny_updateSeq hS1 rfl ?_)
 have hS2 := Heap.get?_update_self (Obj.mapSeq (fun _ => (#[] : Array Value))) hS1 rfl
 have keep2 : ∀ q o, s.heap.get? q = some o → ((s.heap.push { cls := .type "list", data := .seq #[] }).update S (Obj.mapSeq (fun _ => (#[] : Array Value)))).get? q = some o := fun q o e => (Heap.get?_update_other _ _ (ne e)).trans (keep1 q o e)
 generalize ((s.heap.push { cls := .type "list", data := .seq #[] }).update S (Obj.mapSeq (fun _ => (#[] : Array Value)))) = h2 at hS2 keep2
 refine wpAny_bind (wpAny_letGo ?_)
 have St2 : Still Γ C x dx b a it l vs ws c { s with heap := h2 } := St.more (St.ok.keeps keep2) keep2
 have it2 := qd2 keep2 hit
 have I2 := q69 St2.hx St2.hdx
 have X2 := FS.FC.in_ FS.KX St2.ok
 unfold Builtin.List.listExtendWith
 refine wpAny_bind (I2.type.here ?_)
 have e1 : Builtin.List.listSameRef (.ref S) (.ref x) = false := by simp [Builtin.List.listSameRef, Sx]
 have e2 : (Value.ref C == Value.type "list") = false := rfl
 have e3 : (Value.ref C == Value.type "tuple") = false := rfl
 simp only [e1, e2, e3, Bool.or_false, false_eq_true, if_false]
 obtain ⟨fdT, FT, hscT, hbT⟩ := FS.iter
 refine wpAny_bind (za2 (M := model Γ.prog Γ.w) FS.FC FS.KX (Room.in1 (Room.in1 Rm)) St2.ok FT hscT hbT I2 fun h3 tk keep3 => ?_)
 have keep23 : ∀ q o, s.heap.get? q = some o → h3.get? q = some o := fun q o e => keep3 _ _ (keep2 _ _ e)
 have St3 : Still Γ C x dx b a it l vs ws c { s with heap := h3, toks := tk } := St.more (St.ok.keeps keep23) keep23
 have it3 := qd2 keep3 it2
 have hS3 := keep3 _ _ hS2
 have I3 := q69 St3.hx St3.hdx
 have X3 := FS.FC.in_ FS.KX St3.ok
 refine wpAny_bind (wpAny_holding ?_)
 unfold Builtin.List.listLengthHint
 refine wpAny_bind (wpAny_bind (I3.type.here ((looks_findIn X3 FS.FC.noLen).here ?_)))
 show wpAny _ _ (specialOf (Value.ref x) (ofString "__length_hint__") >>= _) _ _ _
 refine wpAny_bind (wpAny_bind (I3.type.here ((looks_findIn X3 FS.FC.noHint).here ?_)))
 refine wpAny_pure ?_
 show wpAny _ _ (rule "list.extend.makes-room" >>= fun _ => Builtin.List.listTouch (.ref S) >>= fun _ =>
  again (.builtin "list.extend.loop" ⟨[.ref S, .ref x, .none], []⟩)) _ _ _
 refine wpAny_bind (wpAny_rule (wpAny_bind ?_))
 show wpAny _ _ (updateSeq S (·.push .none) >>= fun _ => updateSeq S (·.pop)) _ _ _
 refine wpAny_bind (wpAny_updateSeq hS3 rfl ?_)
 have hS4 := Heap.get?_update_self (Obj.mapSeq (·.push Value.none)) hS3 rfl
 refine wpAny_updateSeq (hz := by seq_fits) hS4 rfl ?_
 have hS5 := Heap.get?_update_self (Obj.mapSeq (·.pop)) hS4 rfl
 have keep5 : ∀ q o, s.heap.get? q = some o → ((h3.update S (Obj.mapSeq (·.push Value.none))).update S (Obj.mapSeq (·.pop))).get? q = some o := fun q o e =>
  (Heap.get?_update_other _ _ (ne e)).trans ((Heap.get?_update_other _ _ (ne e)).trans (keep23 q o e))
 generalize ((h3.update S (Obj.mapSeq (·.push Value.none))).update S (Obj.mapSeq (·.pop))) = h5 at hS5 keep5
 have St5 : Still Γ C x dx b a it l vs ws c { s with heap := h5, toks := tk } := St.more (St.ok.keeps keep5) keep5
 refine wpAny_pure ⟨plainId_quiet PySem.F.plain_extend_loop _, za0 (A := A.in1) (n := n + 2) FS Rm.in1 hz hBS (vs.size + 1) 0 _ #[] (by lia) (zero_le _) St5 (qd2 keep5 hit) Si ⟨_, hS5⟩ (by simp [kept]) Sa Sl Sx Sb Sd fun h6 tk6 k1 k2 k3 => ?_⟩
 obtain ⟨vs', k3, k4⟩ := k3
 exact ⟨rfl, h h6 tk6 S vs' (fun q o z1 z2 e => k1 q o z1 (ne e).symm z2 (keep5 _ _ e)) (fun q m o e => k2 q m o (keep5 _ _ e)) newS k3 k4⟩
end
section
variable {Γ : Cx} {A : Around} {K : Frag} {C fI fT fN pF pI : Addr}
theorem z99 {a l : Addr} {vs ws : Array Value} {c : Value → Bool} {n : Nat} {s : Shared} {E : Value → Shared → Prop} {Q : Value → Shared → Prop} {b : Addr} (FS : FFs Γ K C fI fT fN pF pI) (Rm : Room Γ A (n + 1)) (ok : Γ.Ok s) (hb : s.heap.get? b = some (mwObj a)) (ha : LstAt s.heap a ws) (hl : LstAt s.heap l vs)
  (hc : ∀ v ∈ vs, ∃ e : Value → Bool, (∀ (A : Around) (s : Shared) y, y ∈ ws → PySem.SeqAt.EqAt A s y v (e y)) ∧ ws.any e = c v)
  (h : ∀ x dx it h' tk, (∀ q o, s.heap.get? q = some o → h'.get? q = some o) → s.heap.get? it = none → Still Γ C x dx b a it l vs ws c { s with heap := h', toks := tk } → h'.IsListIter it l 0 → Q (.ref x) { s with heap := h', toks := tk }) :
  wpAny (model Γ.prog Γ.w) A (call (.ref C) [.ref b, .ref l]) Q E s := by
 obtain ⟨hh, g, d, t, os⟩ := s
 obtain ⟨fd, F, hsc, hbind⟩ := FS.init
 have X := FS.FC.in_ FS.KX ok
 refine wpAny_call (make_core (makes_of X FS.FC.made) (looks_findIn X FS.FC.hI) (fun self => bind_fn X self FS.FC.tI) (.inl rfl) ?_)
 have k1 : ∀ q o, hh.get? q = some o → ((hh.push emptyDict).push (instObj C hh.objs.size)).get? q = some o := fun q o e => get?_push_of_some _ (get?_push_of_some _ e)
 have ok1 : Γ.Ok ⟨(hh.push emptyDict).push (instObj C hh.objs.size), g, d, t, os⟩ := ok.keeps k1
 have hx : ((hh.push emptyDict).push (instObj C hh.objs.size)).get? (hh.objs.size + 1) = some (instObj C hh.objs.size) := by
  have := get?_push_size (hh.push emptyDict) (o := instObj C hh.objs.size) rfl
  rwa [Heap.size_push] at this
 have hdx : ((hh.push emptyDict).push (instObj C hh.objs.size)).get? hh.objs.size = some emptyDict := get?_push_of_some _ (get?_push_size _ rfl)
 have xnew : hh.get? (hh.objs.size + 1) = none := get?_none_of_le (le_succ _)
 have dnew : hh.get? hh.objs.size = none := q00 _
 refine za3 FS.FC FS.KX ok1 F hsc hbind FS.gi ?_ hx hdx (succ_ne_self _) (ok.new xnew) (q80 hl.isList (.of k1)) fun h' tk it k2 itn hx' hit => ?_
 ·have := Rm.depth; show A.depth + 1 < _; unfold recursionLimit; lia
 have keep : ∀ q o, hh.get? q = some o → h'.get? q = some o := fun q o e => k2 _ _ (fun z => by subst z; cases xnew.symm.trans e) (k1 _ _ e)
 have itn' : hh.get? it = none := by
  cases q : hh.get? it with
  | none => rfl
  | some o => rw [k1 _ _ q] at itn; cases itn
 refine ⟨rfl, h (hh.objs.size + 1) hh.objs.size it h' tk keep itn' ⟨ok.keeps keep, hx', ?_, keep _ _ hb, ?_, ?_, ?_, ok.new itn', hc⟩ hit⟩
 ·exact k2 _ _ (succ_ne_self _).symm hdx
 ·obtain ⟨j, e⟩ := ha; exact ⟨j, keep _ _ e⟩
 ·obtain ⟨j, e⟩ := hl; exact ⟨j, keep _ _ e⟩
 intro z; rw [← z, hdx] at itn; cases itn
theorem qz4 {H : List Addr} {h : Heap} {c : Value → Bool} {cs : List Nat → Bool} {Vs : List Value} {xs : List (List Nat)} (d : Dens H h Vs (xs.map .str)) (hc : ∀ v x, v ∈ Vs → Den H h v (.str x) → c v = cs x) : Dens H h (kept c Vs) ((xs.filter fun x => !cs x).map .str) := by
 induction xs generalizing Vs with
 | nil => cases d using Dens.nl; exact .nil
 | cons x xs ih =>
  cases d using Dens.cn with | cons d ds =>
  have ih := ih ds fun v x m => hc v x (.tail _ m)
  unfold kept at ih ⊢
  rw [filter_cons, filter_cons, hc _ x (.head _) d]
  split
  ·exact .cons d ih
  exact ih
noncomputable def txtOf : Value → List Nat
 | .str x _ => x.cps.toList
 | _ => []
theorem q73 {H : List Addr} {h : Heap} {V : Value} {x : List Nat} (d : Den H h V (.str x)) : txtOf V = x := by
 cases d using Den.s; simp [txtOf]
variable {n : Nat} {env : Env} {σ : St} {sc : Scope}
theorem E.filter {p1 p2 p3 p4 p5 p6 p7 : Pos} {xs ys : List (List Nat)} (FS : FFs Γ K C fI fT fN pF pI) (G : EnvS env sc) (b : BN Γ env sc (ofString "list") (.type "list")) (hf : sc.names.lookup (ofString "filterfalse") = some .globalImplicit) (gf : Γ.mg (ofString "filterfalse") = some (.ref C))
  (h1 : ("skip", RV.pv (.list (ys.map .str))) ∈ σ.v) (h2 : ("flist", RV.pv (.list (xs.map .str))) ∈ σ.v) (hz : xs.length ≤ 2 ^ 24) :
  E Γ (n + 5) env σ (.Call (.Name (ofString "list") p1) [.Call (.Name (ofString "filterfalse") p2) [.Attribute (.Name (ofString "skip") p3) (ofString "__contains__") p4, .Name (ofString "flist") p5] [] p6] [] p7)
   (.pv (.list ((xs.filter fun x => !ys.any fun y => y == x).map .str))) := by
 refine ⟨.mk fun A E s φ H R ok lv eo Q k => ?_⟩
 refine wpAny_Call_Name_kw (b.ev.run A E s φ H R ok lv eo _ fun V s1 k1 ok1 hV => ?_)
 have hV' : V = .type "list" := hV
 subst hV'
 refine PyProof.Rows.callWith_type1 (wpAny_items_cons ?_ (by rfl)) (by rfl) (by rfl)
 have lv1 := lv.kp k1
 have eo1 := eo.kp k1
 refine wpAny_Call_Name_kw ((Ev.global (Γ := Γ) (n := n + 5) (σ := σ) G hf gf (by decide)).run A E s1 φ H R ok1 lv1 eo1 _ fun V s2 k2 ok2 hV => ?_)
 have hV' : V = .ref C := hV
 subst hV'
 have lv2 := lv1.kp k2
 have eo2 := eo1.kp k2
 refine callWith_K (FS.FC.in_ FS.KX ok2) FS.FC.keep ?_ (by rfl) (by rfl)
 refine wpAny_items_cons (Attribute_Name_ ((Ev.var (Γ := Γ) (n := n + 5) G.g h1 (by decide)).run A E s2 φ H R ok2 lv2 eo2 _ fun V s3 k3 ok3 d3 => ?_)) (by rfl)
 have d3' : Den H s3.heap V (.list (ys.map .str)) := d3
 cases d3' using Den.l with
 | @list a ws ha hla hda =>
 have lv3 := lv2.kp k3
 have eo3 := eo2.kp k3
 obtain ⟨ja, ea⟩ := id hla
 refine qa6 ea fun t4 => ?_
 generalize hb : s3.heap.objs.size = bb
 have k4 : ∀ q o, s3.heap.get? q = some o → (s3.heap.push (mwObj a)).get? q = some o := fun q o e => get?_push_of_some _ e
 have hb4 : (s3.heap.push (mwObj a)).get? bb = some (mwObj a) := by rw [← hb]; exact get?_push_size _ rfl
 generalize hs4 : ({ s3 with heap := s3.heap.push (mwObj a), toks := t4 } : Shared) = s4
 have kk4 : Kp s3.heap s4.heap := by rw [← hs4]; exact .of k4
 have ok4 : Γ.Ok s4 := by rw [← hs4]; exact ok3.keeps k4
 have hb4 : s4.heap.get? bb = some (mwObj a) := by rw [← hs4]; exact hb4
 have lv4 := lv3.kp kk4
 have eo4 := eo3.kp kk4
 refine wpAny_items_cons ((Ev.var (Γ := Γ) (n := n + 5) G.g h2 (by decide)).run A E s4 φ H R ok4 lv4 eo4 _ fun V s5 k5 ok5 d5 => ?_) (by rfl)
 have d5' : Den H s5.heap V (.list (xs.map .str)) := d5
 cases d5' using Den.l with
 | @list l vs hl hll hdl =>
 refine wpAny_items_nil ⟨FS.FC.in_ FS.KX ok5, ?_⟩
 have hda5 : Dens H s5.heap ws.toList (ys.map .str) := (hda.kp kk4).kp k5
 have hla5 : LstAt s5.heap a ws := (hla.kp kk4).kp k5
 have hb5 : s5.heap.get? bb = some (mwObj a) := k5 _ _ hb4 rfl
 have hcs : ∀ v ∈ vs, ∃ e : Value → Bool, (∀ (A : Around) (s : Shared) y, y ∈ ws → PySem.SeqAt.EqAt A s y v (e y)) ∧ ws.any e = ys.any fun y => y == txtOf v := by
  intro v hv
  obtain ⟨i, hi, rfl⟩ := Array.getElem_of_mem hv
  obtain ⟨w, hw, dw⟩ := hdl.R3 (i := i) (V := vs[i]) (by simp [hi])
  rw [getElem?_map] at hw
  obtain ⟨x, hx, rfl⟩ := map_eq_some_iff.mp hw
  rw [q73 dw]
  refine ⟨fun y => txtOf y == x, fun A s y hy => ?_, ?_⟩
  ·obtain ⟨j, hj, rfl⟩ := Array.getElem_of_mem hy
   obtain ⟨w', hw', dw'⟩ := hda5.R3 (i := j) (V := ws[j]) (by simp [hj])
   rw [getElem?_map] at hw'
   obtain ⟨y, hy', rfl⟩ := map_eq_some_iff.mp hw'
   have et := q73 dw'
   show PySem.SeqAt.EqAt A s ws[j] vs[i] (txtOf ws[j] == x)
   rw [et]
   generalize vs[i] = v1 at dw
   generalize ws[j] = v2 at dw'
   clear et
   cases dw using Den.s; cases dw' using Den.s
   rw [← q92]
   exact (PyProof.Rows.eqGives_str _ _ _ _).at A s
  rw [← Array.any_toList]
  have : ∀ (Ws : List Value) (ys : List (List Nat)), Dens H s5.heap Ws (ys.map .str) → Ws.any (fun y => txtOf y == x) = ys.any fun y => y == x := by
   intro Ws ys d
   induction ys generalizing Ws with
   | nil => cases d; rfl
   | cons y ys ih => cases d with | cons d1 d2 => rw [any_cons, any_cons, ih _ d2, q73 d1]
  exact this _ _ hda5
 refine z99 (c := fun v => ys.any fun y => y == txtOf v) FS R ok5 hb5 hla5 hll hcs fun x dx it h6 tk6 k6 it6 St6 hit6 => ?_
 refine wpAny_items_nil ?_
 have hvs : vs.size ≤ 2 ^ 24 := by
  have := hdl.length
  simp only [length_toList, length_map] at this
  lia
 refine za1 FS R hvs St6 hit6 fun h7 tk7 S vs' k7 f7 Sn hS hk => ?_
 have k67 : Kp s5.heap h7 := fun q o e t => by
  by_cases m : q ∈ Γ.stk
  ·obtain ⟨o', ho', hf'⟩ := ok5.frs q m
   rw [e] at ho'; cases ho'
   obtain ⟨sl, hsl⟩ := f7 q m o (k6 _ _ e)
   unfold Sim; rw [hf']; exact ⟨sl, hsl⟩
  exact .of (k7 _ _ (fun z => by rw [z, it6] at e; cases e) m (k6 _ _ e))
 have ok7 : Γ.Ok { s5 with heap := h7, toks := tk7 } := by
  refine ⟨fun q o e t => ?_, fun p hp => ?_, ok5.gens, ok5.os, fun q hq => ?_, fun L hL => ?_, ok5.off, fun q o e t => ?_⟩
  rotate_right
  ·have e5 := ok5.old _ _ e t
   exact k7 _ _ (fun z => by rw [z, it6] at e5; cases e5) (fun m => by rw [ok5.off _ m] at e; cases e) (k6 _ _ e5)
  ·have e5 := ok5.base _ _ e t
   exact k7 _ _ (fun z => by rw [z, it6] at e5; cases e5) (fun m => by rw [ok5.off _ m] at e; cases e) (k6 _ _ e5)
  ·refine (ok5.tabs p hp).keep fun q o e1 t => k7 _ _ (fun z => by rw [z, it6] at e1; cases e1) (fun m => ?_) (k6 _ _ e1)
   obtain ⟨o', ho', hf'⟩ := ok5.frs _ m
   rw [e1] at ho'; cases ho'; rw [q14 hf'] at t; cases t
  ·obtain ⟨o, ho⟩ := ne_none_iff_exists'.mp (ok5.all q hq)
   show h7.get? q ≠ Option.none
   rw [k7 _ _ (fun z => by rw [z, it6] at ho; exact absurd ho.symm (some_ne_none _)) (fun m => hq (ok5.off _ m)) (k6 _ _ ho)]; simp
  obtain ⟨o, ho, hf⟩ := ok5.frs L hL
  obtain ⟨sl, hsl⟩ := f7 L hL o (k6 _ _ ho)
  exact ⟨_, hsl, hf⟩
 have lv5 := lv4.kp k5
 have kall : Kp s.heap h7 := ((((k1.trans k2).trans k3).trans kk4).trans k5).trans k67
 refine k _ _ kall ok7 ?_
 refine .list (fun m => ?_) hS ?_
 ·obtain ⟨o, ho, _⟩ := lv5 S m
  have := k6 _ _ ho
  rw [show ({ s5 with heap := h6, toks := tk6 } : Shared).heap.get? S = Option.none from Sn] at this; cases this
 rw [hk]
 refine qz4 (hdl.kp k67) fun v x m d => ?_
 rw [q73 d]
theorem qp0 {f : Addr} {fd : FuncData} {c : Addr} {cvs : Array Value} {t : Tok} {p1 p2 p3 p4 p5 p6 p7 p8 : Pos} (FS : ∀ k, FFs (Γ.on k) K C fI fT fN pF pI) (e1 : (K.lookup f).map Obj.data = some (.func fd))
  (hbody : fd.body = .stmts [.Return (some (.Call (.Name (ofString "list") p1) [.Call (.Name (ofString "filterfalse") p2) [.Attribute (.Name (ofString "skip") p3) (ofString "__contains__") p4, .Name (ofString "flist") p5] [] p6] [] p7)) p8])
  (hc : fd.code = .ref c) (e2 : (K.lookup c).map (fun o => (isTb o, o.data)) = some (false, .fields cvs)) (hc1 : cvs[1]? = some (.str fd.qualname t)) (hk : fd.scope.kind = .function) (hsc : fd.scope.names = [(ofString "flist", .local), (ofString "skip", .local), (ofString "list", .globalImplicit), (ofString "filterfalse", .globalImplicit)])
  (hbind : ∀ Vs : List Value, Vs.length = 2 → bindArgs fd ⟨Vs, []⟩ = pure ((["flist", "skip"].map ofString).zip Vs))
  (hrest : fd.closure = [] ∧ fd.globals = mainGlobals ∧ fd.builtins = builtinsNs ∧ fd.scope.isCoroutine = false ∧ fd.scope.isGenerator = false)
  (gl : Γ.mg (ofString "list") = none) (gf : Γ.mg (ofString "filterfalse") = some (.ref C)) (xs ys : List (List Nat)) (hz : xs.length ≤ 2 ^ 24) :
  FSpec Γ 6 f [.list (xs.map .str), .list (ys.map .str)] (.list ((xs.filter fun x => !ys.any fun y => y == x).map .str)) := by
 refine FSpec.O2 (FS []).KX (ps := ["flist", "skip"]) (ns := ["flist", "skip"]) (v := [("flist", .pv (.list (xs.map .str))), ("skip", .pv (.list (ys.map .str)))]) e1 hbody hc e2 hc1 ?_ hbind (by rfl) hrest (by rfl) ?_
 ·refine ⟨hk, ?_, ?_, ?_, ?_, ?_, ?_⟩ <;> first | (rw [hsc]; decide +kernel) | decide
 intro kf env G
 refine X.ret (v := .list ((xs.filter fun x => !ys.any fun y => y == x).map .str)) (E.filter (n := 0) (FS kf) G ⟨G, by rw [hsc]; rfl, gl, by kernel_rfl, by decide, by decide⟩ (by rw [hsc]; rfl) gf (.tail _ (.head _)) (.head _) hz) rfl
end
end Mine
namespace Mine
open Builtin.Str
section
variable {prog : Program} {w : World} {A : Around} {E : Value → Shared → Prop} {s : Shared}
theorem q67 {d : Addr} {f : Int → Option Value} {c : Nat} {t : Str} {u : Tok} {Q : Mapped → Shared → Prop} (hm : s.heap.MapOf (PySem.intKind prog w) d f) (hv : f c = some (.str t u)) (h : ∀ tk, Q (.text t) { s with toks := tk }) :
  wpAny (model prog w) A (tableLookup (.ref d) c) Q E s := by
 unfold tableLookup
 refine wpAny_bind (wpAny_attempt (wpAny_bind (wpAny_mkInt ?_)))
 refine wpAny_getItem_of (knd := PySem.intKind prog w) (k := (c : Int)) ?_ hm hv ?_
 ·simp [PySem.intKind, Value.isInt]
 exact wpAny_pure (h _)
theorem qj4 : isSubtype (.type "KeyError") (.type "LookupError") = pure true := by rw [isSubtype_type]; kernel_rfl
theorem qd0 {d : Addr} {f : Int → Option Value} {c : Nat} {Q : Mapped → Shared → Prop} (hm : s.heap.MapOf (PySem.intKind prog w) d f) (hv : f c = none) (hd : (d == sysModules) = false) (hh : A.handled = none) (h : ∀ h' tk, (∀ b o, s.heap.get? b = some o → h'.get? b = some o) → Q .keep { s with heap := h', toks := tk }) :
  wpAny (model prog w) A (tableLookup (.ref d) c) Q E s := by
 unfold tableLookup
 refine wpAny_bind (wpAny_attempt (wpAny_bind (wpAny_mkInt ?_)))
 refine wpAny_getItem_missing_of (knd := PySem.intKind prog w) (k := (c : Int)) ?_ hd hh hm hv fun h' e he => ?_
 ·simp [PySem.intKind, Value.isInt]
 obtain ⟨k1, k2, ob, t, h1, h2, h3⟩ := he
 refine wpAny_bind (wpAny_isInstance (T := "KeyError") (b := true) ⟨ob, h1, h2⟩ qj4 ?_)
 exact wpAny_bind (wpAny_rule (wpAny_pure (h _ _ k1)))
theorem tl0 : tooLong 0 = false := by decide
theorem tl1 : tooLong (0 + 1) = false := by decide
theorem tl2 : tooLong (0 + 2) = false := by decide
theorem qb7 {d : Addr} {f : Int → Option Value} {c : Nat} {t : Str} {u v : Tok} {Q : Value → Shared → Prop} (hm : s.heap.MapOf (PySem.intKind prog w) d f) (hv : f c = some (.str t u)) (ht : t.length = 2) (h : ∀ k tk, Q (.str t k) { s with toks := tk }) :
  wpAny (model prog w) A (call (.builtin "str.translate") [.str ⟨#[c]⟩ v, .ref d]) Q E s := by
 refine wpAny_call_entry F.slot_str_translate (typeIs_str _ _ _) F.entry_str_translate ?_ (F.args_str_translate_2 _ _)
 unfold Builtin.«str.translate»
 refine wpAny_bind (m := strOneArg "translate" _) (wpAny_of_eq (a := (.str ⟨#[c]⟩ v, ⟨#[c]⟩, .ref d)) (by first | rfl | kernel_rfl) ?_)
 dsimp only
 haveI e0 : ((Str.length ⟨#[c]⟩ == 0) = true) = False := by simp [Str.length]
 haveI e1 : ∀ {α : Type} (x y : α), (if (t.length == 1 && t.cps.all fun x => decide (x < 128)) = true then x else y) = y := fun x y => ht ▸ rfl
 have fin : ∀ tk, wpAny (model prog w) A.in1 (retStr ⟨([t] : List Str).reverse.foldl (fun acc p => acc ++ p.cps) #[]⟩) (fun fin s' => ∃ v, fin = .done (.ret v) ∧ Q v s') E { s with toks := tk } := fun tk => by
  haveI : (⟨([t] : List Str).reverse.foldl (fun acc p => acc ++ p.cps) #[]⟩ : Str) = t := by cases t; simp
  rw [this]
  exact wpAny_bind (wpAny_mkStr (wpAny_pure ⟨_, rfl, h _ _⟩))
 simp only [e0, if_false]
 cases hc : (⟨#[c]⟩ : Str).cps.all (· < 128) with
 | true =>
  simp only [forIn_toArray, forIn_cons, forIn_nil, tl0, false_eq_true, if_false, if_true, lookup_nil]
  refine wpAny_bind (wpAny_bind (wpAny_bind (q67 hm hv fun t1 => ?_)))
  simp only [e1]
  refine wpAny_bind (wpAny_pure ?_)
  dsimp only
  refine wpAny_bind (wpAny_rule (wpAny_bind (q67 (s := { s with toks := t1 }) hm hv fun t2 => ?_)))
  refine wpAny_pure (wpAny_pure ?_)
  simp only [ht, tl2, false_eq_true, if_false]
  exact fin _
 | false =>
  simp only [forIn_toArray, forIn_cons, forIn_nil, tl0, false_eq_true, if_false, if_true, lookup_nil]
  refine wpAny_bind (wpAny_bind (wpAny_bind (q67 hm hv fun t1 => ?_)))
  refine wpAny_pure (wpAny_pure ?_)
  simp only [ht, tl2, false_eq_true, if_false]
  exact fin _
theorem qb8 {d : Addr} {f : Int → Option Value} {c : Nat} {v : Tok} {Q : Value → Shared → Prop} (hm : s.heap.MapOf (PySem.intKind prog w) d f) (hv : f c = none) (hd : (d == sysModules) = false) (hh : A.handled = none) (h : ∀ h' k tk, (∀ b o, s.heap.get? b = some o → h'.get? b = some o) → Q (.str ⟨#[c]⟩ k) { s with heap := h', toks := tk }) :
  wpAny (model prog w) A (call (.builtin "str.translate") [.str ⟨#[c]⟩ v, .ref d]) Q E s := by
 refine wpAny_call_entry F.slot_str_translate (typeIs_str _ _ _) F.entry_str_translate ?_ (F.args_str_translate_2 _ _)
 unfold Builtin.«str.translate»
 refine wpAny_bind (m := strOneArg "translate" _) (wpAny_of_eq (a := (.str ⟨#[c]⟩ v, ⟨#[c]⟩, .ref d)) (by first | rfl | kernel_rfl) ?_)
 dsimp only
 have e0 : ((Str.length ⟨#[c]⟩ == 0) = true) = False := by simp [Str.length]
 have fin : ∀ h' tk, (∀ b o, s.heap.get? b = some o → h'.get? b = some o) → wpAny (model prog w) A.in1 (retStr ⟨([⟨#[c]⟩] : List Str).reverse.foldl (fun acc p => acc ++ p.cps) #[]⟩) (fun fin s' => ∃ v, fin = .done (.ret v) ∧ Q v s') E { s with heap := h', toks := tk } := fun h' tk k => by
  haveI : (⟨([⟨#[c]⟩] : List Str).reverse.foldl (fun acc p => acc ++ p.cps) #[]⟩ : Str) = ⟨#[c]⟩ := by simp
  rw [this]
  exact wpAny_bind (wpAny_mkStr (wpAny_pure ⟨_, rfl, h _ _ _ k⟩))
 simp only [e0, if_false]
 cases hc : (⟨#[c]⟩ : Str).cps.all (· < 128) with
 | true =>
  simp only [forIn_toArray, forIn_cons, forIn_nil, tl0, false_eq_true, if_false, if_true, lookup_nil]
  refine wpAny_bind (wpAny_bind (wpAny_bind (qd0 hm hv hd hh fun h1 t1 k1 => ?_)))
  refine wpAny_pure ?_
  dsimp only
  refine wpAny_pure ?_
  dsimp only [tl1, false_eq_true, if_false]
  exact fin _ _ k1
 | false =>
  simp only [forIn_toArray, forIn_cons, forIn_nil, tl0, false_eq_true, if_false, if_true, lookup_nil]
  refine wpAny_bind (wpAny_bind (wpAny_bind (qd0 hm hv hd hh fun h1 t1 k1 => ?_)))
  refine wpAny_pure (wpAny_pure ?_)
  dsimp only [tl1, false_eq_true, if_false]
  exact fin _ _ k1
end
end Mine
namespace Mine
section
variable {Γ : Cx} {τ n : Nat} {env : Env} {σ : St} {sc scope : Scope} {ns : List String} {α β : Type}
noncomputable def TrAt (f : Int → Option Value) (c : Nat) (r : List Nat) : Prop := (∃ u, f c = some (.str (S r) u) ∧ r.length = 2) ∨ (f c = none ∧ r = [c])
theorem CallB.R8 {d : Addr} {f : Int → Option Value} {c : Nat} {r : List Nat} (hm : Γ.hB.MapOf (PySem.intKind Γ.prog Γ.w) d f) (hd : (d == sysModules) = false) (hr : TrAt f c r) :
  CallB Γ n env σ (.builtin "str.translate") [PR (.pv (.str [c])), PV' (.ref d)] (PR (.pv (.str r))) := fun Vs A E s φ H R ok lv eo cc Q k => by
 obtain ⟨V, W, rfl, dv, e⟩ := cc.two
 haveI e' : W = .ref d := e
 subst e'
 have hm' : s.heap.MapOf (PySem.intKind Γ.prog Γ.w) d f := by
  obtain ⟨o, es, ep, ho, hx, hdd, r⟩ := hm
  exact ⟨o, es, ep, ok.base _ _ ho (q52 (q41 hdd)), hx, hdd, r⟩
 cases dv using Den.s with
 | str t =>
 rcases hr with ⟨u, hu, hl⟩ | ⟨hu, rfl⟩
 ·exact qb7 hm' hu (by rw [S_len]; exact hl) fun k' tk => k _ _ (Kp.refl _) ok.toks (.str r k')
 exact qb8 hm' hu hd R.handled fun h' k' tk kk => k _ _ (Kp.of kk) (ok.keeps kk) (.str [c] k')
theorem E.R8 {o : Expr} {x : Str} {p apos pos : Pos} {d : Addr} {f : Int → Option Value} {c : Nat} {r : List Nat} (G : EnvS env sc) (hx : sc.names.lookup x = some .globalImplicit) (hg : Γ.mg x = some (.ref d)) (hdb : (x == ("__debug__" : Str)) = false)
  (hm : Γ.hB.MapOf (PySem.intKind Γ.prog Γ.w) d f) (hd : (d == sysModules) = false) (hr : TrAt f c r)
  (ho : E Γ n env σ o (.pv (.str [c]))) (hbase : attributeBase o (ofString "translate") env (eval o env) = eval o env) (hline : (apos.endLine == pos.line) = true) :
  E Γ n env σ (.Call (.Attribute o (ofString "translate") apos) [.Name x p] [] pos) (.pv (.str r)) :=
 ⟨Ev.U8 (es := []) ho.run (EvS.cons (mV _) (Ev.global G hx hg hdb) EvS.nil (fun _ => rfl)) F.slot_str_translate F.type_str_translate (CallB.R8 hm hd hr) hbase hline (by rfl) (by rfl) (by rfl)⟩
end
theorem qd8 {pos : Pos} {line col : Int} {a b : Tok} {c : Value} (hne : (line == pos.line && col == pos.col) = false) (l : List Value) (h : TriplesOk l) : codeAmong pos (l ++ [.int line a, .int col b, c]) = codeAmong pos l := by
 fun_induction TriplesOk l with
 | case1 =>
  show (if (line == pos.line && col == pos.col) = true then some c else codeAmong pos []) = _
  rw [if_neg (by rw [hne]; decide)]
 | case2 x t y u v r ih =>
  show (if (x == pos.line && y == pos.col) = true then some v else codeAmong pos (r ++ _)) = (if (x == pos.line && y == pos.col) = true then some v else codeAmong pos r)
  rw [ih h]
 | case3 l h1 h2 => exact h.elim
structure BA (Γ : Cx) : Prop where
 at_ : ∃ bm o, Γ.mg (ofString "__builtins__") = some (.ref bm) ∧ bm ≠ builtinsNs ∧ Γ.hB.get? bm = some o ∧ o.cls = .type "module" ∧ o.dict = some builtinsNs ∧ o.data = .plain
noncomputable def lamFn (name qual : Str) (params : Arguments) (body : Expr) (scope : Scope) (pm : Value) (c' : Addr) : FuncData :=
 { name, qualname := qual, params, body := .expr body, scope, globals := mainGlobals, closure := [], defaults := .none, kwdefaults := .none, doc := .none, pyModule := pm, annotations := none, code := .ref c', closureTuple := .none, builtins := builtinsNs }
noncomputable def z69 (name qual : Str) (params : Arguments) (body : Expr) (scope : Scope) (pm : Value) (c' : Addr) : Obj :=
 { cls := .type "function", data := .func (lamFn name qual params body scope pm c') }
section
variable {Γ : Cx} {M : Model} {A : Around} {E : Value → Shared → Prop} {s : Shared}
theorem qy2 {P c' : Addr} {es : List (Pos × Str)} {ps : Array Value} {pos : Pos} {qual : Str} {h' : Heap} {tk : Nat} (ok : Γ.Ok s) (hT : Γ.tabs = [(P, es)]) (hps : s.heap.get? P = some (tabObj ps)) (htr : TriplesOk ps.toList) (hnf : codeAmong pos ps.toList = none)
  (hes : ∀ e ∈ es, e = (pos, qual) ∨ ((pos.line : Int) == e.1.line && (pos.col : Int) == e.1.col) = false)
  (hall : ∀ e ∈ es, codeAmong e.1 ps.toList = none ∨ ∃ c' o vs t, codeAmong e.1 ps.toList = some (.ref c') ∧ s.heap.get? c' = some o ∧ o.cls = .type "code" ∧ o.data = .fields vs ∧ vs[1]? = some (.str e.2 t))
  (hx : Heap.ExtBut P s.heap h') (hP' : h'.get? P = some (tabObj (ps ++ #[rawInt pos.line, rawInt pos.col, .ref c'])))
  (hc' : ∃ o vs t, h'.get? c' = some o ∧ o.cls = .type "code" ∧ o.data = .fields vs ∧ vs[1]? = some (.str qual t)) : Γ.Ok { s with heap := h', toks := tk } ∧ Kp s.heap h' := by
 have hl : (ps ++ #[rawInt pos.line, rawInt pos.col, Value.ref c']).toList = ps.toList ++ [rawInt pos.line, rawInt pos.col, .ref c'] := by simp
 have keep : ∀ b o, s.heap.get? b = some o → isTb o = false → h'.get? b = some o := fun b o e t => hx _ _ (fun q => by subst q; cases hps.symm.trans e; cases t) e
 refine ⟨⟨fun b o e t => keep _ _ (ok.base _ _ e t) t, fun p hp => ?_, ok.gens, ok.os, fun b hb => ?_, fun L hL => ?_, ok.off, fun b o e t => hx _ _ (fun q => t (P, es) (by rw [hT]; exact .head _) q.symm) (ok.old _ _ e t)⟩, fun b o e t => .of (keep _ _ e (q52 t))⟩
 ·rw [hT, mem_singleton] at hp
  subst hp
  refine ⟨_, hP', by rw [hl]; exact TriplesOk_snoc _ _ _ _ htr, fun e he => ?_⟩
  rw [hl]
  rcases hes e he with rfl | hne
  ·obtain ⟨o, vs, t, e1, e2, e3, e4⟩ := hc'
   exact .inr ⟨c', o, vs, t, codeAmong_snoc _ htr hnf, e1, e2, e3, e4⟩
  rw [show [rawInt (pos.line : Int), rawInt (pos.col : Int), Value.ref c'] = [.int pos.line 0, .int pos.col 0, .ref c'] from rfl, qd8 hne _ htr]
  rcases hall e he with q | ⟨c2, o, vs, t, e1, e2, e3, e4, e5⟩
  ·exact .inl q
  exact .inr ⟨c2, o, vs, t, e1, keep _ _ e2 (by unfold isTb; rw [e3]; rfl), e3, e4, e5⟩
 ·obtain ⟨o, ho⟩ := ne_none_iff_exists'.mp (ok.all b hb)
  show h'.get? b ≠ Option.none
  by_cases q : b = P
  ·rw [q, hP']; simp
  rw [hx _ _ q ho]; simp
 obtain ⟨o, ho, hf⟩ := ok.frs L hL
 exact ⟨o, keep _ _ ho (q52 (q14 hf)), hf⟩
theorem z48 {P c : Addr} {es : List (Pos × Str)} {pos : Pos} {params : Arguments} {body : Expr} {scope : Scope} {env : Env} {sc : Scope} {Q : Value → Shared → Prop} (ok : Γ.Ok s) (G : EnvS env sc) (hT : Γ.tabs = [(P, es)]) (he : (pos, env.qual ++ "<lambda>") ∈ es)
  (hes : ∀ e ∈ es, e = (pos, env.qual ++ "<lambda>") ∨ ((pos.line : Int) == e.1.line && (pos.col : Int) == e.1.col) = false)
  (hcode : env.code = .ref c) (C : CodeHd Γ.hB c P) (ba : BA Γ) (hdef : defaultsOf params env = ([], [])) (hcl : closureFor scope env = pure [])
  (h : ∀ f c' pm h' tk, Kp s.heap h' → Γ.Ok { s with heap := h', toks := tk } → s.heap.get? f = none → h'.get? f = some (z69 "<lambda>" (env.qual ++ "<lambda>") params body scope pm c') → h'.CodeRec (.ref c') (env.qual ++ "<lambda>") → Q (.ref f) { s with heap := h', toks := tk }) :
  wpAny M A (eval (.Lambda params body scope pos) env) Q E s := by
 refine kla_eval hdef ?_
 obtain ⟨ps, h1, htr, hall⟩ := ok.tabs (P, es) (by rw [hT]; exact .head _)
 have C' : CodeHd s.heap c P := by
  obtain ⟨o, vs, file, tf, flags, tg, inF, text, tt, e1, e2, r⟩ := C
  exact ⟨o, vs, file, tf, flags, tg, inF, text, tt, ok.base _ _ e1 (by unfold isTb; rw [e2]; rfl), e2, r⟩
 obtain ⟨bm, ob, hbm, hne0, hbo, hcls, hdict, hdata⟩ := ba.at_
 have hbo' : s.heap.get? bm = some ob := ok.base _ _ hbo (by unfold isTb; rw [hcls]; rfl)
 have hg : s.heap.Ns mainGlobals Γ.mg := ns_kp Γ.g ok.kb
 have hgP : mainGlobals ≠ P := fun q => by obtain ⟨o, es', ep, e, hd, _⟩ := hg; rw [q, h1] at e; cases e; cases hd
 have hbP : bm ≠ P := fun q => by rw [q, h1] at hbo'; cases hbo'; cases hcls
 rw [makeFunction_eq]
 simp only [List.zip_nil_right, List.filterMap_nil, List.isEmpty_nil, if_true, pure_bind]
 unfold makeTail
 rw [hcl, G.globals]
 refine wpAny_bind (wpAny_pure ?_)
 dsimp only [List.isEmpty_nil, if_true]
 refine wpAny_bind (wpAny_pure ?_)
 rcases hall _ he with hnf | ⟨c', o, vs, t, hf, e2, e3, e4, e5⟩
 ·refine wpAny_bind (wpAny_functionCodeX hcode (C'.code h1 htr) (C'.tab h1) hnf fun c' h' tk hx hge hlt _ hrec htb htb' => ?_)
  obtain ⟨ok', kp'⟩ := qy2 (tk := tk) ok hT h1 htr hnf hes hall hx htb.2 (by
   obtain ⟨P', _, _, ⟨o, vs, a1, a2, a3, _⟩, _⟩ := htb'
   obtain ⟨c2, o2, vs2, t2, b1, b2, b3, b4⟩ := hrec
   cases b1
   rw [a1] at b2; cases b2
   exact ⟨o, vs2, t2, a1, a2, b3, b4⟩)
  refine wpAny_bind (wpAny_builtinsFor (hg.extBut hx hgP) hbm hne0 (hx _ _ hbP hbo') hcls hdict hdata ?_)
  refine wpAny_bind (wpAny_nsGet (hg.extBut hx hgP) ?_)
  refine wpAny_bind (wpAny_pure (wpAny_newObj_type ?_ (by size_fits)))
  refine h _ c' ((Γ.mg "__name__").getD .none) _ _ (kp'.trans (Kp.push _ _)) (ok'.keeps fun b o e => get?_push_of_some _ e) ?_ (get?_push_size _ rfl) (hrec.keeps fun b o e => get?_push_of_some _ e)
  exact get?_none_of_le (Nat.le_trans hge (Nat.le_of_lt hlt))
 refine wpAny_bind (wpAny_functionCode_hit hcode (C'.code h1 htr) hf ?_)
 refine wpAny_bind (wpAny_builtinsFor hg hbm hne0 hbo' hcls hdict hdata ?_)
 refine wpAny_bind (wpAny_nsGet hg ?_)
 refine wpAny_bind (wpAny_pure (wpAny_newObj_type ?_ (by size_fits)))
 exact h _ c' ((Γ.mg "__name__").getD .none) _ _ (Kp.push _ _) (ok.keeps fun b o e => get?_push_of_some _ e) (q00 _) (get?_push_size _ rfl) ⟨c', o, vs, t, rfl, get?_push_of_some _ e2, e4, e5⟩
end
noncomputable def twinCode : Array Nat := #[14, 14, 4, 1, 1, 9, 0, 64, 0, 1342177280, 0, 0, 0, 0, 0, 17, 0, 13, 11, 9, 0, 64, 0, 1342177280, 0, 0, 0, 0, 0, 17, 1, 1]
noncomputable def q05 (c : Nat) : Bool := c == 38 || c == 126 || c == 124
theorem qv6 (c : Nat) : (decide (c < 256) && (twinCode.getD (5 + (1 + c / 32)) 0).testBit (c % 32)) = q05 c := by
 by_cases h : c < 256
 ·have : ∀ c : Fin 256, (twinCode.getD (5 + (1 + c.val / 32)) 0).testBit (c.val % 32) = q05 c.val := by decide +kernel
  have := this ⟨c, h⟩
  simp only [h, decide_true, Bool.true_and]
  exact this
 have h2 : q05 c = false := by unfold q05; simp; lia
 rw [h2]; simp [h]
theorem qs3 (c : Nat) : (decide (c < 256) && (twinCode.getD (19 + (1 + c / 32)) 0).testBit (c % 32)) = q05 c := by
 by_cases h : c < 256
 ·have : ∀ c : Fin 256, (twinCode.getD (19 + (1 + c.val / 32)) 0).testBit (c.val % 32) = q05 c.val := by decide +kernel
  have := this ⟨c, h⟩
  simp only [h, decide_true, Bool.true_and]
  exact this
 have h2 : q05 c = false := by unfold q05; simp; lia
 rw [h2]; simp [h]
theorem zc9 (c : Nat) (seen : Sre.Seen) : Sre.inSet twinCode c 32 5 true seen = .ok (q05 c, if q05 c then seen.add 9 else (seen.add 9).add 0) := by
 show (if (decide (c < 256) && (twinCode.getD (5 + (1 + c / 32)) 0).testBit (c % 32)) = true then Except.ok (true, seen.add 9) else Sre.inSet twinCode c 31 14 true (seen.add 9)) = _
 rw [qv6]
 cases q05 c <;> rfl
theorem z95 (c : Nat) (seen : Sre.Seen) : Sre.inSet twinCode c 32 19 true seen = .ok (q05 c, if q05 c then seen.add 9 else (seen.add 9).add 0) := by
 show (if (decide (c < 256) && (twinCode.getD (19 + (1 + c / 32)) 0).testBit (c % 32)) = true then Except.ok (true, seen.add 9) else Sre.inSet twinCode c 31 28 true (seen.add 9)) = _
 rw [qs3]
 cases q05 c <;> rfl
noncomputable def q12 (text : Array Nat) (lim : Nat) : Nat → Nat → Option Nat
 | 0, _ => none
 | k + 1, s => if s ≥ lim then none else if q05 (text.getD s 0) then some s else q12 text lim k (s + 1)
theorem q72 (m : Sre.M) (hc : m.code = twinCode) : ∀ (k s : Nat) (seen : Sre.Seen), ∃ seen', Sre.M.admitted m k s seen = .ok (q12 m.text m.lim k s, seen')
 | 0, s, seen => ⟨_, rfl⟩
 | k + 1, s, seen => by
  unfold Sre.M.admitted q12
  by_cases h : s ≥ m.lim
  ·rw [if_pos h, if_pos h]; exact ⟨_, rfl⟩
  rw [if_neg h, if_neg h, hc, show twinCode.size = 32 from rfl, zc9]
  cases ht : q05 (m.text.getD s 0) with
  | true => exact ⟨_, rfl⟩
  | false => exact q72 m hc k (s + 1) _
noncomputable def tm0 (text : Array Nat) (p lim : Nat) : Sre.M := { code := twinCode, text, lim, start := p, lastStart := lim, pc := 15, pos := p, handed := p, marks := #[none, none], seen := ({} : Sre.Seen).add 14 }
theorem qn2 (text : Array Nat) (p lim : Nat) (h : ¬ p < lim) : (Sre.forSearch twinCode text 1 p lim false).outcome = none ∧ (Sre.forSearch twinCode text 1 p lim false).answer = some false ∧ (Sre.forSearch twinCode text 1 p lim false).frames = [] := by
 unfold Sre.forSearch
 have : (decide (p > lim) || decide (lim - p < (Sre.header twinCode).1)) = true := by
  show (decide (p > lim) || decide (lim - p < 1)) = true
  simp; lia
 rw [if_pos this]
 exact ⟨rfl, rfl, rfl⟩
theorem qb9 (text : Array Nat) (p lim : Nat) (h : p < lim) : Sre.forSearch twinCode text 1 p lim false = (tm0 text p lim).attemptFrom p true := by
 unfold Sre.forSearch
 have : (decide (p > lim) || decide (lim - p < (Sre.header twinCode).1)) = false := by
  show (decide (p > lim) || decide (lim - p < 1)) = false
  simp; lia
 rw [if_neg (by rw [this]; decide)]
 rfl
noncomputable def tm1 (text : Array Nat) (p lim s : Nat) (seen : Sre.Seen) : Sre.M :=
 { code := twinCode, text, lim, start := s, lastStart := lim, pc := 15, pos := s, handed := s, marks := #[none, none], frames := [{ wait := .nextStart, pc := 15, pos := s, outermost := true }], weight := 1, seen }
theorem qm4 (text : Array Nat) (p lim s : Nat) (h : q12 text lim (lim + 1 - p) p = some s) : ∃ seen, (tm0 text p lim).attemptFrom p true = tm1 text p lim s seen := by
 obtain ⟨seen, e⟩ := q72 (tm0 text p lim) rfl (lim + 1 - p) p (tm0 text p lim).seen
 refine ⟨seen, ?_⟩
 unfold Sre.M.attemptFrom
 rw [if_neg (show ¬ ((!(tm0 text p lim).hasFirstSet) = true) from (show ¬ ((false : Bool) = true) from Bool.false_ne_true)), show (tm0 text p lim).lim = lim from rfl, e, show (tm0 text p lim).text = text from rfl, show (tm0 text p lim).lim = lim from rfl, h]
 rfl
theorem qm5 (text : Array Nat) (p lim : Nat) (h : q12 text lim (lim + 1 - p) p = none) : ∃ seen, (tm0 text p lim).attemptFrom p true = { tm0 text p lim with seen, answer := some false } := by
 obtain ⟨seen, e⟩ := q72 (tm0 text p lim) rfl (lim + 1 - p) p (tm0 text p lim).seen
 refine ⟨seen, ?_⟩
 unfold Sre.M.attemptFrom
 rw [if_neg (show ¬ ((!(tm0 text p lim).hasFirstSet) = true) from (show ¬ ((false : Bool) = true) from Bool.false_ne_true)), show (tm0 text p lim).lim = lim from rfl, e, show (tm0 text p lim).text = text from rfl, show (tm0 text p lim).lim = lim from rfl, h]
 rfl
theorem z80 (text : Array Nat) (p lim s : Nat) (seen : Sre.Seen) (m : Sre.M) (hm : m.code = twinCode) (h1 : m.text = text) (h2 : m.lim = lim) (h3 : m.pos = s) (h4 : m.pc = 17) (h5 : m.answer = none) (h6 : m.outcome = none) (hs : s < lim) (ht : q05 (text.getD s 0) = true) :
  ∃ seen', m.step = { m with seen := seen', pc := 29, pos := s + 1 } := by
 obtain ⟨code, text', lim', start, lastStart, wholeText, mustAdvance, pc, pos, handed, outermost, marks, lastmark, lastindex, loops, inner, frames, weight, answer, seen0, outcome⟩ := m
 dsimp only at hm h1 h2 h3 h4 h5 h6
 subst hm h1 h2 h3 h4 h5 h6
 refine ⟨((seen0.add 13).add 9), ?_⟩
 haveI e0 : Sre.M.step { code := twinCode, text := text', lim := lim', start := start, lastStart := lastStart, wholeText := wholeText, mustAdvance := mustAdvance, pc := 17, pos := pos, handed := handed, outermost := outermost, marks := marks, lastmark := lastmark, lastindex := lastindex, loops := loops, inner := inner, frames := frames, weight := weight, answer := none, seen := seen0, outcome := none } =
   Sre.M.exec { code := twinCode, text := text', lim := lim', start := start, lastStart := lastStart, wholeText := wholeText, mustAdvance := mustAdvance, pc := 17, pos := pos, handed := handed, outermost := outermost, marks := marks, lastmark := lastmark, lastindex := lastindex, loops := loops, inner := inner, frames := frames, weight := weight, answer := none, seen := seen0, outcome := none } := by
  unfold Sre.M.step
  rfl
 rw [e0]
 unfold Sre.M.exec
 show (if pos ≥ lim' then _ else match Sre.accepts twinCode 17 (text'.getD pos 0) (seen0.add 13) with | .error why => _ | .ok (false, seen) => _ | .ok (true, seen) => _) = _
 rw [if_neg (by lia)]
 haveI : Sre.accepts twinCode 17 (text'.getD pos 0) (seen0.add 13) = .ok (true, (seen0.add 13).add 9) := by
  show Sre.inSet twinCode (text'.getD pos 0) 32 19 true (seen0.add 13) = _
  rw [z95, ht]; rfl
 rw [this]
 rfl
theorem qs2 (text : Array Nat) (p lim s : Nat) (seen : Sre.Seen) (hs : s < lim) (ht : q05 (text.getD s 0) = true) : ∃ m, (tm1 text p lim s seen).runFor 4 = m ∧ m.outcome = none ∧ ∃ m', m.runFor 4 = m' ∧ m'.outcome = some .matched ∧ m'.start = s ∧ m'.handed = s + 1 ∧ m'.marks = #[some s, some (s + 1)] ∧ m'.lastmark = 1 ∧ m'.lastindex = 1 := by
 refine ⟨_, rfl, ?_⟩
 haveI e1 : (tm1 text p lim s seen).step = { tm1 text p lim s seen with marks := #[some s, none], lastmark := 0, pc := 17, seen := seen.add 17 } := rfl
 obtain ⟨seen2, e2⟩ := z80 text p lim s seen { tm1 text p lim s seen with marks := #[some s, none], lastmark := 0, pc := 17, seen := seen.add 17 } rfl rfl rfl rfl rfl rfl rfl hs ht
 haveI e4 : (tm1 text p lim s seen).runFor 4 = { tm1 text p lim s seen with marks := #[some s, some (s + 1)], lastmark := 1, lastindex := 1, pc := 31, pos := s + 1, handed := s + 1, seen := (seen2.add 17).add 1, answer := some true } := by
  show ((((tm1 text p lim s seen).step).runFor 3)) = _
  rw [e1]
  show (Sre.M.step _).runFor 2 = _
  rw [e2]
  kernel_rfl
 rw [e4]
 exact ⟨rfl, _, rfl, rfl, rfl, rfl, rfl, rfl, rfl⟩
end Mine
namespace Mine
open Builtin.Re
theorem q77 {text : Array Nat} {lim k p s : Nat} (h : q12 text lim k p = some s) : p ≤ s ∧ s < lim ∧ q05 (text.getD s 0) = true ∧ ∀ j, p ≤ j → j < s → q05 (text.getD j 0) = false := by
 induction k generalizing p s with
 | zero => nomatch h
 | succ k ih =>
  unfold q12 at h
  split at h
  ·exact absurd h.symm (some_ne_none _)
  split at h
  ·cases h; rename_i h1 h2; exact ⟨Nat.le_refl _, by lia, h2, fun j a b => by lia⟩
  rename_i h1 h2
  obtain ⟨a, b, c, d⟩ := ih h
  refine ⟨by lia, b, c, fun j e f => ?_⟩
  by_cases q : j = p
  ·rw [q]; simpa using h2
  exact d j (by lia) f
theorem q78 {text : Array Nat} {lim : Nat} : ∀ {k p : Nat}, lim ≤ p + k → q12 text lim k p = none → ∀ j, p ≤ j → j < lim → q05 (text.getD j 0) = false
 | 0, p, hk, _, j, a, b => by lia
 | k + 1, p, hk, h, j, a, b => by
  unfold q12 at h
  split at h
  ·lia
  split at h
  ·nomatch h
  rename_i h1 h2
  by_cases q : j = p
  ·rw [q]; simpa using h2
  exact q78 (k := k) (p := p + 1) (by lia) h j (by lia) b
section
variable {M : Model} {A : Around} {E : Value → Shared → Prop} {s : Shared}
theorem q93 {f : Nat → Bool} {g : Nat → String} {Q : Unit → Shared → Prop} (h : Q () s) : ∀ (l : List Nat), wpAny M A (forIn l () fun i _ => do
  if f i = true then do
   rule (g i)
   pure (ForInStep.yield ())
  else pure (ForInStep.yield ())) Q E s
 | [] => by dsimp only [forIn_nil]; exact wpAny_pure h
 | i :: r => by
  rw [forIn_cons]
  refine wpAny_bind ?_
  split
  ·exact wpAny_bind (wpAny_rule (wpAny_pure (q93 h r)))
  exact wpAny_pure (q93 h r)
theorem q48 (n : Nat) (m : Sre.M) : reDrive (n + 1) m = (if (m.runFor 4).outcome.isSome = true then pure (m.runFor 4) else (do rule "sre.turn"; reDrive n (m.runFor 4))) := rfl
theorem z09 {m m1 m2 : Sre.M} {Q : Sre.M → Shared → Prop} (h1 : m.runFor 4 = m1) (n1 : m1.outcome = none) (h2 : m1.runFor 4 = m2) (n2 : m2.outcome.isSome = true) (h : Q m2 s) : wpAny M A (reDrive (2 ^ 64) m) Q E s := by
 rw [show (2 : Nat) ^ 64 = 18446744073709551614 + 1 + 1 from rfl, q48, h1, n1, if_neg (by decide)]
 refine wpAny_bind (wpAny_rule ?_)
 rw [q48, h2, n2, if_pos rfl]
 exact wpAny_pure h
theorem ql6 {m m1 : Sre.M} {Q : Sre.M → Shared → Prop} (h1 : m.runFor 4 = m1) (n1 : m1.outcome.isSome = true) (h : Q m1 s) : wpAny M A (reDrive (2 ^ 64) m) Q E s := by
 rw [show (2 : Nat) ^ 64 = 18446744073709551614 + 1 + 1 from rfl, q48, h1, n1, if_pos rfl]
 exact wpAny_pure h
theorem toEnd {m m2 : Sre.M} {Q : Option Sre.M → Shared → Prop} (hd : ∀ Q' : Sre.M → Shared → Prop, Q' m2 s → wpAny M A (reDrive (2 ^ 64) m) Q' E s)
  (h : (m2.outcome = some .matched ∧ Q (some m2) s) ∨ (m2.outcome = some .failed ∧ Q none s)) : wpAny M A (reRunToEnd m) Q E s := by
 unfold reRunToEnd
 refine wpAny_bind (hd _ ?_)
 refine wpAny_bind (q93 (f := fun i => m2.seen.has i) (g := fun i => Sre.names.getD i "") ?_ _)
 rcases h with ⟨e, h⟩ | ⟨e, h⟩
 ·rw [e]; exact wpAny_pure h
 rw [e]; exact wpAny_pure h
theorem qy3 {t : ReTarget} {p i : Nat} {Q : Option Sre.M → Shared → Prop} (hc : t.code = twinCode) (hg : t.groups = 1) (hn : q12 t.text t.lim (t.lim + 1 - p) p = some i)
  (h : ∀ m : Sre.M, m.start = i → m.handed = i + 1 → m.marks = #[some i, some (i + 1)] → m.lastmark = 1 → m.lastindex = 1 → Q (some m) s) : wpAny M A (reNextFound t p false) Q E s := by
 obtain ⟨a, b, c, _⟩ := q77 hn
 unfold reNextFound
 rw [hc, hg, qb9 _ _ _ (by lia)]
 obtain ⟨seen, e⟩ := qm4 t.text p t.lim i hn
 rw [e]
 obtain ⟨m1, h1, n1, m2, h2, n2, r1, r2, r3, r4, r5⟩ := qs2 t.text p t.lim i seen b c
 exact toEnd (m2 := m2) (fun Q' hq => z09 h1 n1 h2 (by rw [n2]; rfl) hq) (.inl ⟨n2, h m2 r1 r2 r3 r4 r5⟩)
theorem qy4 {t : ReTarget} {p : Nat} {Q : Option Sre.M → Shared → Prop} (hc : t.code = twinCode) (hg : t.groups = 1) (hn : q12 t.text t.lim (t.lim + 1 - p) p = none) (h : Q none s) : wpAny M A (reNextFound t p false) Q E s := by
 unfold reNextFound
 rw [hc, hg]
 by_cases hp : p < t.lim
 ·rw [qb9 _ _ _ hp]
  obtain ⟨seen, e⟩ := qm5 t.text p t.lim hn
  rw [e]
  refine toEnd (m2 := { tm0 t.text p t.lim with seen, answer := some false, outcome := some .failed }) (fun Q' hq => ql6 (by rfl) (by rfl) hq) (.inr ⟨rfl, h⟩)
 obtain ⟨e1, e2, e3⟩ := qn2 t.text p t.lim hp
 generalize Sre.forSearch twinCode t.text 1 p t.lim false = m at e1 e2 e3
 haveI : m.runFor 4 = { m with outcome := some .failed } := by
  obtain ⟨code, text', lim', start, lastStart, wholeText, mustAdvance, pc, pos, handed, outermost, marks, lastmark, lastindex, loops, inner, frames, weight, answer, seen0, outcome⟩ := m
  dsimp only at e1 e2 e3
  subst e1 e2 e3
  rfl
 exact toEnd (m2 := { m with outcome := some .failed }) (fun Q' hq => ql6 this (by rfl) hq) (.inr ⟨rfl, h⟩)
end
end Mine
namespace Mine
open Builtin.Re
theorem qk2 : PlainAttrs "re.Pattern" := ⟨⟨"object.__getattribute__", by rw [typeLookup_type, builtinLookup_eq_fast]; kernel_rfl, by decide +kernel⟩, by rw [typeLookup_type, builtinLookup_eq_fast]; kernel_rfl⟩
theorem qt9 : PlainAttrs "re.Match" := ⟨⟨"object.__getattribute__", by rw [typeLookup_type, builtinLookup_eq_fast]; kernel_rfl, by decide +kernel⟩, by rw [typeLookup_type, builtinLookup_eq_fast]; kernel_rfl⟩
theorem slot_resub : Slot "re.Pattern" "sub" "re.Pattern.sub" :=
 .of (owner := "re.Pattern") (n := "sub") (by rw [typeLookup_type, builtinLookup_eq_fast]; kernel_rfl) (by decide +kernel) (by decide +kernel) (by decide +kernel)
  (by first | exact .inl (by decide +kernel) | exact .inr (by decide +kernel)) (by rw [isSubtype_type]; kernel_rfl)
theorem qs1 : typeOf (.builtin "re.Pattern.sub") = pure (.type "method_descriptor") := by show builtinType _ = _; rw [builtinType_eq_fast]; kernel_rfl
theorem qp4 : entryFor table "re.Pattern.sub" = some Builtin.«re.Pattern.sub» := entryFor_of_tree (by kernel_rfl)
theorem qv0 (a b c : Value) : argsOk "re.Pattern.sub" ⟨[a, b, c], []⟩ := by unfold argsOk; kernel_rfl
theorem q99 : Slot "re.Match" "group" "re.Match.group" :=
 .of (owner := "re.Match") (n := "group") (by rw [typeLookup_type, builtinLookup_eq_fast]; kernel_rfl) (by decide +kernel) (by decide +kernel) (by decide +kernel)
  (by first | exact .inl (by decide +kernel) | exact .inr (by decide +kernel)) (by rw [isSubtype_type]; kernel_rfl)
theorem qi9 : typeOf (.builtin "re.Match.group") = pure (.type "method_descriptor") := by show builtinType _ = _; rw [builtinType_eq_fast]; kernel_rfl
theorem qh8 : entryFor table "re.Match.group" = some Builtin.«re.Match.group» := entryFor_of_tree (by kernel_rfl)
theorem qm6 (a b : Value) : argsOk "re.Match.group" ⟨[a, b], []⟩ := by unfold argsOk; kernel_rfl
theorem qd5 : entryFor table "re.Pattern.sub.loop" = some Builtin.«re.Pattern.sub.loop» := entryFor_of_tree (by kernel_rfl)
theorem qc5 : plainId "re.Pattern.sub.loop" = true := by decide +kernel
noncomputable def qe3 (h : Heap) (f pat : Addr) (text : Str) (i : Nat) : Prop :=
 ∃ u tp a b, h.get? f = some { cls := .type "re.Match", data := .fields #[.str text u, .ref pat, a, b, rawInt 1, .ref tp] } ∧ h.get? tp = some { cls := .type "tuple", data := .seq #[rawInt i, rawInt (i + 1 : Nat), rawInt i, rawInt (i + 1 : Nat)] }
section
variable {prog : Program} {w : World} {A : Around} {E : Value → Shared → Prop} {s : Shared}
theorem qp8 {f pat : Addr} {text : Str} {i : Nat} {t : Tok} {Q : Value → Shared → Prop} (hm : qe3 s.heap f pat text i) (h : ∀ u, Q (.str ⟨text.cps.extract i (i + 1)⟩ u) { s with toks := s.toks + 1 }) :
  wpAny (model prog w) A (call (.builtin "re.Match.group") [.ref f, .int 1 t]) Q E s := by
 obtain ⟨u, tp, a, b, h1, h2⟩ := hm
 refine wpAny_call_entry q99 ⟨_, h1, rfl⟩ qh8 ?_ (qm6 _ _)
 unfold Builtin.«re.Match.group»
 refine wpAny_bind (wpAny_pure ?_)
 dsimp only
 unfold reFound
 refine wpAny_bind (wpAny_bind (wpAny_fieldsOf h1 rfl (wpAny_bind ?_)))
 unfold reRawItems
 refine wpAny_bind (wpAny_seqItems h2 rfl (wpAny_pure (wpAny_pure ?_)))
 haveI hmap : Array.map reRawOf ((some #[rawInt (i : Int), rawInt ((i + 1 : Nat) : Int), rawInt (i : Int), rawInt ((i + 1 : Nat) : Int)]).getD #[]) = #[(i : Int), ((i + 1 : Nat) : Int), (i : Int), ((i + 1 : Nat) : Int)] := by
  simp [reRawOf, rawInt]
 rw [hmap]
 refine wpAny_bind (wpAny_bind ?_)
 refine wpAny_of_eq (a := some 1) rfl ?_
 refine wpAny_bind (m := asIndex _) (wpAny_of_eq (a := 1) rfl ?_)
 refine wpAny_ite_split (fun hab => absurd hab (show ¬ ((decide ((1 : Int) < 0) || decide (2 * (1 : Int) ≥ ((4 : Nat) : Int))) = true) by decide)) (fun _ => ?_)
 refine wpAny_pure ?_
 refine wpAny_bind ?_
 show wpAny _ _ (reGroupText ⟨#[.str text u, .ref pat, a, b, rawInt 1, .ref tp], #[(i : Int), ((i + 1 : Nat) : Int), (i : Int), ((i + 1 : Nat) : Int)]⟩ 1 .none) _ _ _
 unfold reGroupText
 show wpAny _ _ (if (decide ((i : Int) < 0) || decide (((i + 1 : Nat) : Int) < 0)) = true then _ else _) _ _ _
 rw [if_neg (by simp; omega)]
 refine wpAny_bind (m := reTextOf _) (wpAny_of_eq (a := (text.cps, 0)) rfl ?_)
 show wpAny _ _ (mkStr ⟨text.cps.extract i (i + 1)⟩) _ _ _
 refine wpAny_mkStr (wpAny_pure ⟨_, rfl, h _⟩) (by simp only [Str.length, Array.size_extract, sizeLine]; omega)
end
end Mine
namespace Mine
open Builtin.Re
noncomputable def q36 (p1 p2 p3 p4 p5 p6 p7 p8 : Pos) : Expr :=
 .BinOp (.Constant (.str (ofString "\\")) 0 p1) .Add (.BoolOp .Or [.Call (.Attribute (.Name (ofString "_m") p2) (ofString "group") p3) [.Constant (.int 1) 0 p4] [] p5, .Constant (.str (ofString "")) 0 p6] p7) p8
section
variable {Γ : Cx} {A : Around} {s : Shared}
theorem z24 {n : Nat} {E : Value → Shared → Prop} {Q : Value → Shared → Prop} {p1 p2 p3 p4 p5 p6 p7 p8 : Pos} {f fo pat c' : Addr} {qual : Str} {params : Arguments} {scope : Scope} {pm : Value} {text : Str} {i c : Nat} (ok : Γ.Ok s) (Rm : Room Γ A (n + 1)) (hline : (p3.endLine == p5.line) = true)
  (hf : s.heap.get? f = some (z69 "<lambda>" qual params (q36 p1 p2 p3 p4 p5 p6 p7 p8) scope pm c')) (hcd : s.heap.CodeRec (.ref c') qual) (hsc : scope.names = [(ofString "_m", .local)]) (hk : scope.kind = .function) (hco : scope.isCoroutine = false) (hgen : scope.isGenerator = false)
  (hbind : ∀ a, bindArgs (lamFn "<lambda>" qual params (q36 p1 p2 p3 p4 p5 p6 p7 p8) scope pm c') ⟨[a], []⟩ = pure [(ofString "_m", a)]) (hm : qe3 s.heap fo pat text i) (hc : text.cps[i]? = some c)
  (h : ∀ h' u tk, (∀ b o, s.heap.get? b = some o → h'.get? b = some o) → Q (.str (S [92, c]) u) { s with heap := h', toks := tk }) : wpAny (model Γ.prog Γ.w) A (call (.ref f) [.ref fo]) Q E s := by
 refine wpAny_call (kla_callFunE Rm.dq hf rfl hco hgen rfl hcd ?_)
 rw [hbind]
 refine wpAny_pure (wpAny_newFunctionEnv (by show ∀ x ∈ scope.names, x.2 ≠ .cell; rw [hsc]; decide) (fun y hy => ?_) (fun h₁ hns hsb => ⟨(q16 Γ.nolimit ok.kb).fresh _ hsb, ?_⟩) hk)
 ·show scope.names.lookup _ = _
  rw [hsc]
  simp only [mem_cons, not_mem_nil, or_false] at hy
  rcases hy with rfl; rfl
 haveI keep : ∀ b o, s.heap.get? b = some o → h₁.get? b = some o := fun b o e => hsb.extBut b o (Nat.ne_of_lt (lt_size e)) (get?_push_of_some _ e)
 generalize henv : newEnv _ _ _ _ _ _ _ _ _ = env at *
 refine kla_codeExpr ?_
 haveI ek : env.scope.kind = .function := by rw [← henv]; exact hk
 haveI ekm : env.kindOf (ofString "_m") = some .local := by rw [← henv]; show scope.names.lookup _ = _; rw [hsc]; rfl
 haveI elo : env.locals = s.heap.objs.size := by rw [← henv]; rfl
 have hm1 : qe3 h₁ fo pat text i := by
  obtain ⟨u, tp, a, b, e1, e2⟩ := hm
  exact ⟨u, tp, a, b, keep _ _ e1, keep _ _ e2⟩
 unfold q36
 refine wpAny_BinOp (q04 ?_)
 refine wpAny_Or2 ?_
 refine wpAny_Call_method_lateS (by rfl) (by rfl) hline (wpAny_Name (wpAny_loadName_local ek ekm (by rw [elo]; exact hns) (v := .ref fo) (by rfl) ?_) (by decide))
 obtain ⟨u, tp, a, b, e1, e2⟩ := id hm1
 refine ⟨"re.Match", "re.Match.group", qt9, q99, qi9, ⟨_, e1, rfl⟩, fun x hx => ?_, ?_⟩
 ·cases hx; exact ⟨_, e1, rfl⟩
 refine Calls.callWith_builtin (by rfl) (Calls.evalArgs_plain ?_)
 refine wpAny_items_cons (wpAny_Constant_int (wpAny_items_nil ?_)) (by rfl)
 refine qp8 (s := { s with heap := h₁, toks := _ }) hm1 fun u1 => ?_
 have hx : text.cps.extract i (i + 1) = #[c] := by
  obtain ⟨hi, hc'⟩ := Array.getElem?_eq_some_iff.mp hc
  apply Array.ext
  ·simp; lia
  intro j h1 h2; simp at h2; subst h2; simp [hc']
 rw [hx]
 refine PySem.P.truthy_str (by simp [Str.length]) ?_
 have hl1 : ((Str.length ⟨#[c]⟩ : Int) != 0) = true := by simp [Str.length]
 rw [hl1, if_pos rfl]
 refine PyProof.Rows.add_str (fun t' tk => ?_) (by show (ofString "\\").cps.size + 1 ≤ sizeLine; decide)
 haveI e9 : (ofString "\\" ++ (⟨#[c]⟩ : Str)) = S [92, c] := by
  show Str.append _ _ = _
  rfl
 rw [e9]
 exact h h₁ _ _ keep
end
end Mine
namespace Mine
open Builtin.Re
noncomputable def Q4 (l : List Nat) : List Nat := l.flatMap fun c => if q05 c then [92, c] else [c]
theorem qb6 (a b : List Nat) : Q4 (a ++ b) = Q4 a ++ Q4 b := List.flatMap_append ..
theorem qb5 {l : List Nat} (h : ∀ c ∈ l, q05 c = false) : Q4 l = l := by
 induction l with
 | nil => rfl
 | cons c l ih =>
  show (if q05 c then [92, c] else [c]) ++ Q4 l = _
  rw [h c (.head _), ih fun d m => h d (.tail _ m)]; rfl
theorem qj2 (l : List Nat) : (Q4 l).length ≤ 2 * l.length := by
 induction l with
 | nil => exact Nat.le_refl _
 | cons c l ih =>
  show ((if q05 c then [92, c] else [c]) ++ Q4 l).length ≤ _
  dsimp only [length_append, length_cons]
  split <;> simp <;> lia
noncomputable def PatAt (h : Heap) (pat : Addr) : Prop := ∃ o a1 t1 fl tf ct, h.get? pat = some o ∧ o.cls = .type "re.Pattern" ∧ o.dict = none ∧ o.data = .fields #[.str a1 t1, .int fl tf, rawInt 1, .none, .none, .ref ct, rawInt 0] ∧
 ∃ n, h.get? ct = some { cls := .type "tuple", data := .seq (twinCode.map fun k : Nat => rawInt (k : Int)) n }
section
variable {prog : Program} {w : World} {A : Around} {E : Value → Shared → Prop} {s : Shared}
theorem q98 {pat : Addr} {text : Str} {u : Tok} {Q : ReTarget → Shared → Prop} (hp : PatAt s.heap pat) (h : Q { pattern := .ref pat, string := .str text u, code := twinCode, text := text.cps, kind := 0, groups := 1, pos := 0, lim := text.cps.size } s) :
  wpAny (model prog w) A (reWholeTarget (.ref pat) (.str text u)) Q E s := by
 obtain ⟨o, a1, t1, fl, tf, ct, ho, hc, hdn, hd, n, hct⟩ := hp
 unfold reWholeTarget
 refine wpAny_bind (wpAny_fieldsOf ho hd (wpAny_bind (m := reTextOf _) (wpAny_of_eq (a := (text.cps, 0)) rfl ?_)))
 dsimp only
 refine wpAny_ite_split (fun hab => absurd hab (show ¬ (((0 : Nat) == 0 && (0 : Nat) == 1) = true) by decide)) (fun _ => ?_)
 refine wpAny_ite_split (fun hab => absurd hab (show ¬ (((0 : Nat) == 1 && (0 : Nat) == 0) = true) by decide)) (fun _ => ?_)
 refine wpAny_bind (m := reNoCollectionInside _ _) (wpAny_of_eq (a := ()) rfl ?_)
 refine wpAny_bind ?_
 show wpAny _ _ (reRawItems (.ref ct)) _ _ _
 unfold reRawItems
 refine wpAny_bind (wpAny_seqItems hct rfl (wpAny_pure ?_))
 haveI hcode : (Array.map reRawOf ((some (twinCode.map fun k : Nat => rawInt (k : Int))).getD #[])).map (·.toNat) = twinCode := by
  simp [twinCode, reRawOf, rawInt]
 rw [hcode]
 exact wpAny_pure h
theorem PatAt.keep {h h' : Heap} {pat : Addr} (x : PatAt h pat) (k : ∀ b o, h.get? b = some o → isLo o = false → h'.get? b = some o) : PatAt h' pat := by
 obtain ⟨o, a1, t1, fl, tf, ct, ho, hc, hdn, hd, n, hct⟩ := x
 exact ⟨o, a1, t1, fl, tf, ct, k _ _ ho (q03 hc hd), hc, hdn, hd, n, k _ _ hct rfl⟩
theorem qy5 {pat : Addr} {text : Str} {u : Tok} {lim i : Nat} {m : Sre.M} {Q : Value → Shared → Prop} (h1 : m.start = i) (h2 : m.handed = i + 1) (h3 : m.marks = #[some i, some (i + 1)]) (h4 : m.lastmark = 1) (h5 : m.lastindex = 1)
  (h : ∀ f h', (∀ b o, s.heap.get? b = some o → h'.get? b = some o) → qe3 h' f pat text i → Q (.ref f) { s with heap := h' }) : wpAny (model prog w) A (reNewMatch (.ref pat) (.str text u) 1 0 lim m) Q E s := by
 unfold reNewMatch
 haveI e1 : (List.range 1) = [0] := rfl
 rw [e1, h3, h4, h5, h1, h2]
 refine wpAny_ite_split (fun hab => absurd hab ?_) (fun _ => ?_)
 ·simp
 refine wpAny_bind ?_
 refine wpAny_newTuple ?_ (by simp [sizeLine])
 refine wpAny_newObj_type ?_ (by size_fits)
 refine h _ _ (fun b o e => get?_push_of_some _ (get?_push_of_some _ e)) ⟨u, s.heap.objs.size, _, _, get?_push_size _ rfl, ?_⟩
 refine get?_push_of_some _ (get?_push_size _ ?_) |>.trans ?_
 ·rfl
 rfl
end
end Mine
namespace Mine
open Builtin.Re
theorem q95 (ts : List (List Nat)) (x : List Nat) : jn [] (ts ++ [x]) = jn [] ts ++ x := by
 induction ts with
 | nil => simp [jn]
 | cons a ts ih =>
  cases ts with
  | nil => simp [jn]
  | cons b ts =>
   show jn [] (a :: b :: (ts ++ [x])) = _
   rw [show jn [] (a :: b :: (ts ++ [x])) = a ++ [] ++ jn [] (b :: (ts ++ [x])) from rfl, show b :: (ts ++ [x]) = (b :: ts) ++ [x] from rfl, ih]
   simp [jn]
section
variable {Γ : Cx} {A : Around}
noncomputable def z74 (Γ : Cx) (A : Around) (repl : Value) (pat : Addr) (text : Str) (h0 : Heap) (L : Addr) : Prop :=
 ∀ (s' : Shared) (E' : Value → Shared → Prop) (Q' : Value → Shared → Prop) (fo : Addr) (i c : Nat), (∀ b o, b ≠ L → h0.get? b = some o → s'.heap.get? b = some o) → Γ.Ok s' → qe3 s'.heap fo pat text i → text.cps[i]? = some c →
  (∀ h' u tk, (∀ b o, s'.heap.get? b = some o → h'.get? b = some o) → Q' (.str (S [92, c]) u) { s' with heap := h', toks := tk }) → wpAny (model Γ.prog Γ.w) A (call repl [.ref fo]) Q' E' s'
theorem q32 (l : List (Str × Tok)) (x : Str) (u : Tok) : strValues (l ++ [(x, u)]) = strValues l ++ [.str x u] := by simp [strValues]
theorem qc2 {prog : Program} {w : World} {E : Value → Shared → Prop} {s : Shared} {L : Addr} {acc : Array Value} {x : Value} {Q : Unit → Shared → Prop} (hL : ∃ j, s.heap.get? L = some { cls := .type "list", dict := none, data := .seq acc j, slots := #[] }) (hz : acc.size ≤ 2 ^ 24)
  (h : ∀ h', SameBut L s.heap h' → (∃ j, h'.get? L = some { cls := .type "list", dict := none, data := .seq (acc.push x) j, slots := #[] }) → Q () { s with heap := h' }) : wpAny (model prog w) A (updateSeq L fun z => z.push x) Q E s := by
 obtain ⟨j, e⟩ := hL
 refine wpAny_updateSeq e rfl (h _ (SameBut.update ..) ⟨_, Heap.get?_update_self _ e rfl⟩) (by simp only [sizeLine]; lia) (by show (acc.push x).size ≤ sizeLine + 1; rw [Array.size_push]; simp only [sizeLine]; lia)
theorem qy1 {s : Shared} {L : Addr} {acc : Array Value} {h' : Heap} {tk : Nat} (ok : Γ.Ok s) (hL0 : Γ.hB.get? L = none) (hLs : L ∉ Γ.stk) (hL : ∃ j, s.heap.get? L = some { cls := .type "list", dict := none, data := .seq acc j, slots := #[] }) (hs : SameBut L s.heap h') : Γ.Ok { s with heap := h', toks := tk } := by
 obtain ⟨j, e⟩ := hL
 refine ok.fk (M := [L]) (FK.same hs (.head _)) (fun a ha => by simp only [mem_singleton] at ha; subst ha; exact hL0) (fun a o e' t m => ?_) (fun a ha ⟨o, e', f'⟩ => ⟨o, (hs.2 _ fun q => hLs (q ▸ ha)).trans e', f'⟩)
 simp only [mem_singleton] at m; subst m
 rw [e] at e'; cases e'; cases t
theorem z32 {pat L : Addr} {text : List Nat} {u : Tok} {repl : Value} {h0 : Heap} {R : Result → Shared → Prop} (hz : text.length ≤ 2 ^ 20) (hL0 : Γ.hB.get? L = none) (hr : z74 Γ A.in1 repl pat (S text) h0 L) (hLs : L ∉ Γ.stk) :
  ∀ (k p : Nat) (n : Int) (s : Shared) (acc : Array Value) (l : List (Str × Tok)) (ts : List (List Nat)), text.length - p ≤ k → p ≤ text.length → Γ.Ok s → PatAt s.heap pat → (∃ j, s.heap.get? L = some { cls := .type "list", dict := none, data := .seq acc j, slots := #[] }) → acc.toList = strValues l → l.map (·.1) = ts.map S → jn [] ts = Q4 (text.take p) → ts.length ≤ 2 * p →
   (∀ b o, b ≠ L → h0.get? b = some o → s.heap.get? b = some o) →
   (∀ h' tk v, (∀ b o, b ≠ L → s.heap.get? b = some o → h'.get? b = some o) → R (.ok (.ret (.str (S (Q4 text)) v))) { s with heap := h', toks := tk }) →
   codeAny (model Γ.prog Γ.w) A (.builtin "re.Pattern.sub.loop" ⟨[.ref pat, .str (S text) u, repl, rawInt 1, rawInt 0, rawInt n, rawInt p, rawInt p, .bool false, .ref L, .bool false], []⟩) R s := by
 have hsz : (S text).cps.size = text.length := by simp [S]
 have hget : ∀ j : Nat, (S text).cps[j]? = text[j]? := fun j => by simp [S]
 have hgd : ∀ j : Nat, (S text).cps.getD j 0 = text.getD j 0 := fun j => by rw [Array.getD_eq_getD_getElem?, hget, getD_eq_getElem?_getD]
 have hext : ∀ a b : Nat, (⟨(S text).cps.extract a b⟩ : Str) = S ((text.take b).drop a) := fun a b => by
  simp [S, List.extract_eq_take_drop, drop_take]
 haveI size_of : ∀ {acc : Array Value} {l : List (Str × Tok)} {ts : List (List Nat)}, acc.toList = strValues l → l.map (·.1) = ts.map S → acc.size = ts.length := fun {acc l ts} h1 h2 => by
  haveI e1 := congrArg List.length h1
  haveI e2 := congrArg List.length h2
  simp only [length_toList, strValues, length_map] at e1 e2
  lia
 intro k
 induction k using Nat.strongRecOn with
 | ind k ih =>
 intro p n s acc l ts hk hp ok hpat hL hacc hl hj htl h0 hR
 haveI hasz := size_of hacc hl
 refine codeAny_builtin qd5 ?_
 rw [Around.under_plainId qc5 _]
 unfold Builtin.«re.Pattern.sub.loop»
 refine wpAny_bind (q98 hpat ?_)
 dsimp only [rawInt]
 refine wpAny_ite_split (fun hab => absurd hab (by decide)) (fun _ => ?_)
 refine wpAny_bind ?_
 haveI hc0 : (((0 : Int) != 0) && decide (n ≥ 0)) = false := rfl
 rw [hc0]
 dsimp only [false_eq_true, if_false, toNat_natCast]
 haveI hpatL : ∀ {h' : Heap}, (∀ b o, b ≠ L → s.heap.get? b = some o → h'.get? b = some o) → PatAt h' (pat) := fun {h'} kk => by
  obtain ⟨o, a1, t1, fl, tf, ct, ho, hc, hdn, hd, nn, hct⟩ := hpat
  obtain ⟨j, e⟩ := hL
  refine ⟨o, a1, t1, fl, tf, ct, kk _ _ (fun q => ?_) ho, hc, hdn, hd, nn, kk _ _ (fun q => ?_) hct⟩
  ·rw [q, e] at ho; cases ho; cases hd
  rw [q, e] at hct; have := congrArg Obj.cls (Option.some.inj hct); simp at this
 cases hn : q12 (S text).cps (S text).cps.size ((S text).cps.size + 1 - p) p with
 | none =>
  refine qy4 rfl rfl hn ?_
  dsimp only
  haveI hrest : Q4 (text.drop p) = text.drop p := qb5 fun c m => by
   obtain ⟨j, hj1, rfl⟩ := List.getElem_of_mem m
   rw [getElem_drop]
   have hj2 : p + j < text.length := by simp at hj1; lia
   have := q78 (by rw [hsz]; lia) hn (p + j) (by lia) (by rw [hsz]; lia)
   rw [hgd, getD_eq_getElem?_getD, List.getElem?_eq_getElem hj2] at this
   exact this
  have hall : Q4 text = jn [] ts ++ text.drop p := by
   rw [hj, ← hrest, ← qb6, take_append_drop]
  have fin : ∀ h' tk acc' l' (ts' : List (List Nat)), (∃ j, h'.get? L = some { cls := .type "list", dict := none, data := .seq acc' j, slots := #[] }) → acc'.toList = strValues l' → l'.map (·.1) = ts'.map S → jn [] ts' = Q4 text → ts'.length ≤ 2 * p + 1 → (∀ b o, b ≠ L → s.heap.get? b = some o → h'.get? b = some o) →
    wpAny (model Γ.prog Γ.w) A.in1 (do
     let joiner ← reSlice (S text).cps 0 0 0
     let items ← seqItems? (.ref L)
     if (items.getD #[]).isEmpty then (do
      let x ← pure joiner
      ret x) else (do
      let x ← call (.builtin (if ((0 : Nat) == 0) then "str.join" else "bytes.join")) [joiner, .ref L]
      ret x)) (fun fin s' => match fin with | .done f => R (.ok f) s' | .again c' => c'.quiet = true ∧ codeAny (model Γ.prog Γ.w) A c' R s') (fun e s' => R (.error e) s') { s with heap := h', toks := tk } := by
   intro h' tk acc' l' ts' hL' ha' hl' hj' htl' hk'
   obtain ⟨j', ej'⟩ := hL'
   have e0 : (⟨(S text).cps.extract 0 0⟩ : Str) = S [] := by rw [hext]; rfl
   refine wpAny_bind ?_
   show wpAny _ _ (mkStr ⟨(S text).cps.extract 0 0⟩) _ _ _
   rw [e0]
   refine wpAny_mkStr ?_ (by show 0 ≤ sizeLine; lia)
   refine wpAny_bind (wpAny_seqItems ej' rfl ?_)
   haveI hsz' := size_of ha' hl'
   by_cases hemp : acc'.isEmpty = true
   ·haveI : ts' = [] := by
     haveI : acc'.size = 0 := by simpa [Array.isEmpty] using hemp
     exact length_eq_zero_iff.mp (by lia)
    subst this
    rw [show ((some acc').getD #[]) = acc' from rfl, if_pos hemp]
    refine wpAny_pure ?_
    haveI : S [] = S (Q4 text) := hj' ▸ rfl
    rw [this]
    exact hR h' _ _ hk'
   rw [show ((some acc').getD #[]) = acc' from rfl, if_neg hemp]
   have hda : Data.seq acc' j' = Data.seq (strValues l').toArray j' := by rw [← ha']
   refine wpAny_bind (SC.join (x := S []) (D := L) (l := l') (texts := ts'.map S) ⟨_, ej', rfl, j', hda⟩ hl' ?_ fun t' k' => ?_)
   ·unfold JoinOk
    rw [StrLaws.joinTotal]
    have h1 : ((ts'.map S).map (·.length)) = ts'.map List.length := by
     rw [map_map]; exact map_congr_left fun a _ => S_len a
    rw [h1, length_map, S_len]
    have hs : (ts'.map List.length).sum = (jn [] ts').length := by
     haveI : ∀ l : List (List Nat), (jn [] l).length = (l.map List.length).sum := by
      intro l
      induction l with
      | nil => rfl
      | cons a l ih =>
       cases l with
       | nil => simp [jn]
       | cons b l => rw [show jn [] (a :: b :: l) = a ++ [] ++ jn [] (b :: l) from rfl, length_append, ih]; simp
     exact (this _).symm
    rw [hs, hj']
    have := qj2 text
    rw [show Builtin.Str.tooLong ((Q4 text).length + ts'.length * ([] : List Nat).length) = false from decide_eq_false (by simp only [sizeLine, length_nil]; lia)]; rfl
   have : Txt.join (S []) (ts'.map S) = S (Q4 text) := by
    unfold Txt.join
    rw [StrLaws.glued_eq_join, qq7, hj']
   rw [this]
   exact wpAny_pure (hR h' _ _ hk')
  by_cases hlt : p < text.length
  ·rw [if_pos (show p < (S text).cps.size by lia)]
   refine wpAny_bind ?_
   show wpAny _ _ (mkStr ⟨(S text).cps.extract p (S text).cps.size⟩) _ _ _
   rw [hext, hsz, take_length]
   refine wpAny_mkStr ?_ (by rw [S_len, length_drop]; simp only [sizeLine]; lia)
   refine wpAny_bind (qc2 (s := { s with toks := s.toks + 1 }) hL (by lia) fun h' hs hL' => ?_)
   refine fin h' _ _ (l ++ [(S (text.drop p), s.toks)]) (ts ++ [text.drop p]) hL' (by rw [toList_push, hacc, q32]) (by simp [hl]) (by rw [q95, hall]) (by simp; lia) fun b o hb e => (hs.2 _ hb).trans e
  rw [if_neg (show ¬ p < (S text).cps.size by lia)]
  refine fin s.heap s.toks acc l ts hL hacc hl ?_ (by lia) fun b o _ e => e
  rw [hall, List.drop_eq_nil_of_le (by lia), append_nil]
 | some i =>
  obtain ⟨hpi, hil, hti, hbef⟩ := q77 hn
  rw [hsz] at hil
  refine qy3 rfl rfl hn fun m h1 h2 h3 h4 h5 => ?_
  dsimp only
  rw [h1, h2]
  have hil' : i < text.length := hil
  haveI hci : (S text).cps[i]? = some text[i] := by rw [hget, List.getElem?_eq_getElem hil']
  haveI htw : q05 text[i] = true := by rw [hgd, getD_eq_getElem?_getD, List.getElem?_eq_getElem hil'] at hti; exact hti
  haveI hmidp : Q4 ((text.take i).drop p) = (text.take i).drop p := qb5 fun c mm => by
   obtain ⟨j, hj1, rfl⟩ := List.getElem_of_mem mm
   simp only [length_drop, length_take] at hj1
   rw [getElem_drop, List.getElem_take]
   have := hbef (p + j) (by lia) (by lia)
   rw [hgd, getD_eq_getElem?_getD, List.getElem?_eq_getElem (by lia)] at this
   exact this
  haveI htake : Q4 (text.take (i + 1)) = jn [] ts ++ (text.take i).drop p ++ [92, text[i]] := by
   haveI e1 : text.take (i + 1) = text.take p ++ (text.take i).drop p ++ [text[i]] := by
    rw [List.take_succ_eq_append_getElem hil']
    congr 1
    have := take_append_drop p (text.take i)
    rw [List.take_take, Nat.min_eq_left hpi] at this
    exact this.symm
   rw [e1, qb6, qb6, hmidp, hj]
   congr 1
   show (if q05 text[i] then [92, text[i]] else [text[i]]) ++ [] = _
   rw [htw]; rfl
  have mid : ∀ h' tk acc' l' (ts' : List (List Nat)), Γ.Ok { s with heap := h', toks := tk } → (∃ j, h'.get? L = some { cls := .type "list", dict := none, data := .seq acc' j, slots := #[] }) → acc'.toList = strValues l' → l'.map (·.1) = ts'.map S → jn [] ts' = jn [] ts ++ (text.take i).drop p → ts'.length ≤ 2 * i + 1 → (∀ b o, b ≠ L → s.heap.get? b = some o → h'.get? b = some o) →
    wpAny (model Γ.prog Γ.w) A.in1 (do
     let found ← reNewMatch (.ref pat) (.str (S text) u) 1 0 (S text).cps.size m
     let item ← holding [found] (if ((1 : Int) == 1) = true then call repl [found] else do
      let f ← reFound found
      reExpand repl f)
     if (item != .none) = true then do
      updateSeq L fun x => x.push item
      again (.builtin "re.Pattern.sub.loop" ⟨[.ref pat, .str (S text) u, repl, .int 1 0, .int 0 0, .int (n + 1) 0, .int (i + 1 : Nat) 0, .int (i + 1 : Nat) 0, .bool (i + 1 == i), .ref L, .bool false], []⟩)
     else again (.builtin "re.Pattern.sub.loop" ⟨[.ref pat, .str (S text) u, repl, .int 1 0, .int 0 0, .int (n + 1) 0, .int (i + 1 : Nat) 0, .int (i + 1 : Nat) 0, .bool (i + 1 == i), .ref L, .bool false], []⟩))
     (fun fin s' => match fin with | .done f => R (.ok f) s' | .again c' => c'.quiet = true ∧ codeAny (model Γ.prog Γ.w) A c' R s') (fun e s' => R (.error e) s') { s with heap := h', toks := tk } := by
   intro h' tk acc' l' ts' ok' hL' ha' hl' hj' htl' hk'
   refine wpAny_bind (qy5 h1 h2 h3 h4 h5 fun fo h2' hk2 hmo => ?_)
   refine wpAny_bind (wpAny_holding ?_)
   rw [if_pos (show ((1 : Int) == 1) = true from rfl)]
   have ok2 : Γ.Ok { s with heap := h2', toks := tk } := ok'.fk (M := []) (fun b o _ e => hk2 b o e) (fun a ha => by cases ha) (fun a o e' t m => by cases m) (fun a ha ⟨o, e', f'⟩ => ⟨o, hk2 _ _ e', f'⟩)
   refine hr _ _ _ fo i text[i] (fun b o hb e => hk2 _ _ (hk' _ _ hb (h0 _ _ hb e))) ok2 hmo hci fun h3' u3 tk3 hk3 => ?_
   rw [if_pos (show ((Value.str (S [92, text[i]]) u3) != .none) = true from rfl)]
   haveI ok3 : Γ.Ok { s with heap := h3', toks := tk3 } := ok2.fk (M := []) (fun b o _ e => hk3 b o e) (fun a ha => by cases ha) (fun a o e' t m => by cases m) (fun a ha ⟨o, e', f'⟩ => ⟨o, hk3 _ _ e', f'⟩)
   obtain ⟨j', ej'⟩ := hL'
   have hL3 : ∃ j, h3'.get? L = some { cls := .type "list", dict := none, data := .seq acc' j, slots := #[] } := ⟨j', hk3 _ _ (hk2 _ _ ej')⟩
   haveI hsz' := size_of ha' hl'
   refine wpAny_bind (qc2 (s := { s with heap := h3', toks := tk3 }) hL3 (by lia) fun h4' hs4 hL4 => ?_)
   refine wpAny_pure ⟨Code.quiet_builtin _ (by decide +kernel), ?_⟩
   haveI e0 : ((i + 1 == i) : Bool) = false := by simp
   rw [e0]
   have hk4 : ∀ b o, b ≠ L → s.heap.get? b = some o → h4'.get? b = some o := fun b o hb e => (hs4.2 _ hb).trans (hk3 _ _ (hk2 _ _ (hk' _ _ hb e)))
   refine ih (text.length - (i + 1)) (by lia) (i + 1) (n + 1) { s with heap := h4', toks := tk3 } _ (l' ++ [(S [92, text[i]], u3)]) (ts' ++ [[92, text[i]]]) (Nat.le_refl _) (by lia) (qy1 (s := { s with heap := h3', toks := tk3 }) ok3 hL0 hLs hL3 hs4) (hpatL hk4) hL4 (by rw [toList_push, ha', q32]) (by simp [hl']) (by rw [q95, hj', htake]) (by simp; lia) (fun b o hb e => hk4 _ _ hb (h0 _ _ hb e)) fun h5' tk5 v hk5 => ?_
   exact hR h5' tk5 v fun b o hb e => hk5 _ _ hb (hk4 _ _ hb e)
  by_cases hlt : p < i
  ·rw [if_pos hlt]
   refine wpAny_bind ?_
   show wpAny _ _ (mkStr ⟨(S text).cps.extract p i⟩) _ _ _
   rw [hext]
   refine wpAny_mkStr ?_ (by rw [S_len, length_drop, length_take]; simp only [sizeLine]; lia)
   refine wpAny_bind (qc2 (s := { s with toks := s.toks + 1 }) hL (by lia) fun h' hs hL' => ?_)
   refine wpAny_ite_split (fun hab => absurd hab (by decide)) (fun _ => ?_)
   refine mid h' _ _ (l ++ [(S ((text.take i).drop p), s.toks)]) (ts ++ [(text.take i).drop p]) ?_ hL' (by rw [toList_push, hacc, q32]) (by simp [hl]) (by rw [q95]) (by simp; lia) fun b o hb e => (hs.2 _ hb).trans e
   exact qy1 ok hL0 hLs hL hs
  rw [if_neg hlt]
  refine wpAny_ite_split (fun hab => absurd hab (by decide)) (fun _ => ?_)
  haveI hpe : p = i := by lia
  refine mid s.heap s.toks acc l ts ok hL hacc hl ?_ (by lia) fun b o _ e => e
  rw [List.drop_eq_nil_of_le (by simp; lia), append_nil]
end
end Mine
namespace Mine
open Builtin.Re
theorem qe8 : typeLookup (.type "function") "__call__" = pure (some (.builtin "function.__call__")) := by rw [typeLookup_type, builtinLookup_eq_fast]; kernel_rfl
theorem zb9 : isSubtype (.type "str") (.type "bytearray") = pure false := by rw [isSubtype_type]; kernel_rfl
section
variable {Γ : Cx} {A : Around} {s : Shared}
theorem qu9 {n : Nat} {E : Value → Shared → Prop} {Q : Value → Shared → Prop} {pat f : Addr} {o : Obj} {text : List Nat} {u : Tok} (ok : Γ.Ok s) (Rm : Room Γ A (n + 1)) (hp : PatAt s.heap pat) (hf : s.heap.get? f = some o) (hfc : o.cls = .type "function") (hz : text.length ≤ 2 ^ 20)
  (hr : ∀ h' L, h'.get? L = some { cls := .type "list", data := .seq #[] } → s.heap.get? L = none → (∀ b o, s.heap.get? b = some o → h'.get? b = some o) → z74 Γ A.in1 (.ref f) pat (S text) h' L)
  (h : ∀ h' tk v, (∀ b o, s.heap.get? b = some o → h'.get? b = some o) → Q (.str (S (Q4 text)) v) { s with heap := h', toks := tk }) :
  wpAny (model Γ.prog Γ.w) A (call (.builtin "re.Pattern.sub") [.ref pat, .ref f, .str (S text) u]) Q E s := by
 haveI hp' := hp
 obtain ⟨op, a1, t1, fl, tf, ct, hop, hoc, hdn, hd, nn, hct⟩ := hp'
 refine wpAny_call (codeAny_call_builtin slot_resub.plain qp4 (slot_resub.check _ _ _ _ _ _ _ _ ⟨op, hop, hoc⟩ (qv0 _ _ _) ?_))
 unfold Builtin.«re.Pattern.sub» reSubstitute
 dsimp only
 refine wpAny_bind ?_
 refine wpAny_of_eq (a := [some (.ref f), some (.str (S text) u), none]) (by rfl) ?_
 dsimp only
 refine wpAny_bind (wpAny_pure ?_)
 refine wpAny_bind (wpAny_specialOf (T := "function") (r := some (.builtin "function.__call__")) ⟨o, hf, hfc⟩ qe8 ?_)
 dsimp only [Option.isSome_some, if_true]
 refine wpAny_bind (wpAny_pure ?_)
 refine wpAny_bind (wpAny_pure ?_)
 dsimp only
 refine wpAny_bind (wpAny_holding (q98 hp ?_))
 refine wpAny_ite_split (fun _ => ?_) (fun hab => absurd rfl hab)
 refine wpAny_bind ?_
 unfold reNotHeld
 refine wpAny_bind (wpAny_isInstance_val (T := "str") (b := false) (by rfl) zb9 ?_)
 refine wpAny_pure ?_
 refine wpAny_bind (wpAny_newList ?_ (by simp [sizeLine]))
 refine wpAny_pure ⟨Code.quiet_builtin _ (by decide +kernel), ?_⟩
 have hk : ∀ b o, s.heap.get? b = some o → (s.heap.push { cls := .type "list", data := .seq #[] }).get? b = some o := fun b o e => get?_push_of_some _ e
 have hL : s.heap.get? s.heap.objs.size = none := q00 _
 haveI hL' : (s.heap.push { cls := .type "list", data := .seq #[] }).get? s.heap.objs.size = some { cls := .type "list", data := .seq #[] } := get?_push_size _ rfl
 haveI hB : Γ.hB.get? s.heap.objs.size = none := by
  cases q : Γ.hB.get? s.heap.objs.size with
  | none => rfl
  | some o => exact absurd hL (ok.all _ (by rw [q]; simp))
 refine z32 (k := text.length) (ts := []) (l := []) (acc := #[]) hz hB (hr _ _ hL' hL hk) (fun m => ?_) 0 0 _ (sub_le _ _) (zero_le _) (ok.keeps hk) (hp.keep fun b o e _ => hk _ _ e) ⟨_, hL'⟩ rfl rfl rfl (Nat.le_refl _) (fun b o _ e => e) fun h' tk v hk' => ?_
 ·obtain ⟨o2, e2, _⟩ := ok.frs _ m
  cases hL.symm.trans e2
 exact h h' tk v fun b o e => hk' _ _ (fun q => by rw [q, hL] at e; nomatch e) (hk _ _ e)
end
end Mine
namespace Mine
noncomputable def W2 (c : Nat) (z : List Nat) (l : List Nat) : List Nat := l.flatMap fun d => if d = c then z else [d]
theorem qq4 (c : Nat) (z a b : List Nat) : W2 c z (a ++ b) = W2 c z a ++ W2 c z b := List.flatMap_append ..
theorem qc0 {c : Nat} {z : List Nat} : ∀ {l : List Nat}, c ∉ l → W2 c z l = l
 | [], _ => rfl
 | d :: r, h => by
  show (if d = c then z else [d]) ++ W2 c z r = _
  haveI h1 : ¬ d = c := fun e => h (e ▸ mem_cons_self ..)
  rw [if_neg h1, qc0 fun m => h (mem_cons_of_mem _ m)]; rfl
theorem qx1 (c : Nat) (z : List Nat) : W2 c z [c] = z := by simp [W2]
theorem qa9 (c : Nat) (z l : List Nat) : (W2 c z l).length ≤ l.length * (z.length + 1) := by
 induction l with
 | nil => exact zero_le _
 | cons d l ih =>
  show ((if d = c then z else [d]) ++ W2 c z l).length ≤ _
  rw [length_append, length_cons, Nat.succ_mul]
  split
  ·lia
  dsimp only [length_singleton]; lia
theorem qj6 (c : Nat) (z : List Nat) : ∀ parts : List Str, (∀ p ∈ parts, c ∉ p.cps.toList) → W2 c z (Str.join ⟨#[c]⟩ parts).cps.toList = (Str.join (S z) parts).cps.toList
 | [], _ => rfl
 | [p], h => qc0 (h p (mem_singleton.mpr rfl))
 | p :: q :: r, h => by
  haveI ih := qj6 c z (q :: r) fun a ha => h a (mem_cons_of_mem _ ha)
  show W2 c z (p ++ ⟨#[c]⟩ ++ Str.join ⟨#[c]⟩ (q :: r)).cps.toList = (p ++ S z ++ Str.join (S z) (q :: r)).cps.toList
  simp only [Str.cps_append, Array.toList_append]
  rw [qq4, qq4, ih, qc0 (h p (mem_cons_self ..)), qx1]
  rfl
theorem qg6 (x z : List Nat) (c : Nat) : rpl x [c] z = W2 c z x := by
 unfold rpl
 rw [show S [c] = (⟨#[c]⟩ : Str) from rfl, StrLaws.replace_one]
 rw [← qj6 c z _ (StrLaws.split_free (S x) c), StrLaws.join_split]
 rfl
theorem sub_a {n i k : Nat} (h : n - i = k + 1) : n = i + k + 1 := by
 haveI q := Nat.sub_add_cancel (Nat.le_of_lt (Nat.lt_of_sub_eq_succ h))
 rw [h, Nat.add_comm] at q
 exact q.symm
theorem sub_b {n i k : Nat} (h : n - i = k + 1) : n - 1 - k = i := by rw [sub_a h]; exact Nat.add_sub_cancel ..
theorem sub_c {n i k : Nat} (h : n - i = k + 1) : n - (i + 1) = k := by rw [sub_a h, Nat.add_right_comm]; exact Nat.add_sub_cancel_left ..
section
variable {prog : Program} {w : World} {A : Around}
structure GElt (prog : Program) (w : World) (cenv : Env) (x : Str) (elt : Expr) (n₀ : Nat) (P F : Nat → Value → Prop) : Prop where
 run : ∀ (A' : Around) (E' : Value → Shared → Prop) (i : Nat) (v : Value) (s₂ : Shared) (m₂ : Str → Option Value) (Q : Value → Shared → Prop), A'.handled = none → i < n₀ → P i v → s₂.heap.Ns cenv.locals m₂ → m₂ x = some v → 1 ≤ s₂.toks →
  (∀ y tk, F i y → Q y { s₂ with toks := tk }) → wpAny (model prog w) A' (eval elt cenv) Q E' s₂
noncomputable def z05 (C : Addr) (fp wr : List Addr) (n₀ : Nat) (F : Nat → Value → Prop) : Protocol := fun m s₀ v s kap =>
 F (n₀ - 1 - m) v ∧ GenSince C wr s₀ s ∧ 1 ≤ s.toks ∧ ∀ s'' : Shared, (∀ b ∈ C :: fp, ∀ o, s.heap.get? b = some o → s''.heap.get? b = some o) → 1 ≤ s''.toks → kap (.send .none) s''
noncomputable abbrev gEnd (C : Addr) (wr : List Addr) : GenEnd := fun n s₀ r s₁ => r = .ok .next ∧ (n = 0 ∧ GenSince C wr s₀ s₁)
theorem z54 {elt iter : Expr} {x : Str} {px : Pos} {scope : Scope} {pos : Pos} {I : Addr} {fp wr : List Addr} {n₀ : Nat} {P : Nat → Value → Prop} {St₀ : Nat → Heap → Prop} {cenv : Env} {F : Nat → Value → Prop}
  (hh : A.handled = none) (W₀ : ∀ A' : Around, A'.handled = none → Walks prog w A' I fp wr n₀ P St₀)
  (hx : cenv.kindOf x = some .local) (hp : (cenv.scope.kind == .class || (cenv.scope.kind == .module && cenv.locals != cenv.globals)) = false)
  (hco : cenv.scope.isCoroutine = false) (hCf : cenv.locals ∉ fp) (hq : GElt prog w cenv x elt n₀ P F) :
  ∀ (k i : Nat) (s₀ s : Shared) (m : Str → Option Value), n₀ - i = k → i ≤ n₀ → St₀ i s.heap → s.heap.Ns cenv.locals m → GenSince cenv.locals wr s₀ s → 1 ≤ s.toks →
   Seg (model prog w) A (gEnd cenv.locals wr) (z05 cenv.locals fp wr n₀ F) k s₀
    (.compLoop (.GeneratorExp elt [⟨.Name x px, iter, [], 0⟩] scope pos) 0 (.ref I) .none cenv)
    ((model prog w).den (.compLoop (.GeneratorExp elt [⟨.Name x px, iter, [], 0⟩] scope pos) 0 (.ref I) .none cenv)) [] s := by
 haveI hh' : (A.over (.compLoop (.GeneratorExp elt [⟨.Name x px, iter, [], 0⟩] scope pos) 0 (.ref I) .none cenv) []).handled = none := hh
 haveI hCw : cenv.locals ∉ wr := fun h => hCf ((W₀ A hh).sub _ h)
 intro k
 induction k with
 | zero =>
  intro i s₀ s m hk hi hst hn hsince htk
  haveI hin : i = n₀ := by lia
  subst hin
  show Seg _ A _ _ _ s₀ _ ((compTurn (.GeneratorExp elt [⟨.Name x px, iter, [], 0⟩] scope pos) 0 (.ref I) .none cenv).onRaise (leaving cenv)) [] s
  rw [compTurn_gen, Sem.onRaise_eq_wrap]
  refine seg_bind_wrap (wpAny_standAt (seg_bind_wrap ((W₀ _ hh').done s _ _ hst fun h' tk hk' => ?_)))
  exact seg_end (.ok .next) ⟨rfl, rfl, hsince.step fun b o _ hw e => hk' b o hw e⟩
 | succ k ih =>
  intro i s₀ s m hk hi hst hn hsince htk
  have hlt : i < n₀ := Nat.lt_of_sub_eq_succ hk
  show Seg _ A _ _ _ s₀ _ ((compTurn (.GeneratorExp elt [⟨.Name x px, iter, [], 0⟩] scope pos) 0 (.ref I) .none cenv).onRaise (leaving cenv)) [] s
  rw [compTurn_gen, Sem.onRaise_eq_wrap]
  refine seg_bind_wrap (wpAny_standAt (seg_bind_wrap (wpAny_with_toks (n := 1) htk ((W₀ _ hh').item i s _ _ hlt hst fun v h₁ tk₁ hPv hst₁ hk₁ => ?_))))
  intro htk₁
  refine seg_bind_wrap (wpAny_of_eq (rfl : letOwnedTupleGo (.Name x px) (.ref I) v = pure ()) ?_)
  refine seg_bind_wrap (wpAny_assign_Name (wpAny_storeName_local hx (hn.at' fun o e => hk₁ _ o hCw e) (fun h₂ hn₂ hs₂ => ?_) hp))
  have up₂ : ∀ b o, b ≠ cenv.locals → b ∉ wr → s.heap.get? b = some o → h₂.get? b = some o := fun b o hbC hbw e => hs₂.extBut b o hbC (hk₁ b o hbw e)
  have hst₂ : St₀ (i + 1) h₂ := (W₀ A hh).frame _ _ _ hst₁ fun b hb o e => hs₂.extBut b o (fun h => hCf (h ▸ hb)) e
  have hsince₂ : ∀ tk, GenSince cenv.locals wr s₀ { s with heap := h₂, toks := tk } := fun tk => hsince.step up₂
  dsimp only [forIn_nil]
  refine seg_bind_wrap (wpAny_pure ?_)
  simp only [if_true]
  haveI hy : ∀ v, yieldOut cenv v = yieldValue v := fun v => by simp only [yieldOut, hco, false_eq_true, if_false]
  simp only [hy]
  rw [Sem.bind_eq_wrap', Sem.bind_eq_wrap', Sem.wrap_wrap, Sem.wrap_wrap]
  refine seg_wrap (wpAny_with_toks (n := 1) (le_add_left 1 _) (hq.run _ _ i v _ _ _ hh' hlt hPv hn₂ (by simp) (le_add_left 1 _) fun y tk₄ hFy => ?_))
  intro htk₄
  haveI hidx : n₀ - 1 - k = i := sub_b hk
  refine seg_at (seg_yield rfl rfl rfl ⟨by rw [hidx]; exact hFy, hsince₂ tk₄, htk₄, fun s'' hal ht'' => ?_⟩)
  refine seg_again rfl (ih (i + 1) s'' s'' _ (sub_c hk) hlt ((W₀ A hh).frame _ _ _ hst₂ fun b hb o e => hal b (mem_cons_of_mem _ hb) o e)
   (hn₂.at' fun o e => hal _ (mem_cons_self ..) o e) (GenSince.refl _ _ _) ht'')
theorem z04 {elt iter : Expr} {x : Str} {px : Pos} {scope : Scope} {pos : Pos} {I : Addr} {fp wr : List Addr} {n₀ : Nat} {P : Nat → Value → Prop} {St₀ : Nat → Heap → Prop} {cenv : Env} {F : Nat → Value → Prop}
  (hh : A.handled = none) (W₀ : ∀ A' : Around, A'.handled = none → Walks prog w A' I fp wr n₀ P St₀)
  (hx : cenv.kindOf x = some .local) (hp : (cenv.scope.kind == .class || (cenv.scope.kind == .module && cenv.locals != cenv.globals)) = false)
  (hco : cenv.scope.isCoroutine = false) (hCf : cenv.locals ∉ fp) (hq : GElt prog w cenv x elt n₀ P F)
  (s : Shared) (m : Str → Option Value) (hst : St₀ 0 s.heap) (hn : s.heap.Ns cenv.locals m) (htk : 1 ≤ s.toks) :
  Seg (model prog w) A (gEnd cenv.locals wr) (z05 cenv.locals fp wr n₀ F) n₀ s
   (.compStart (.GeneratorExp elt [⟨.Name x px, iter, [], 0⟩] scope pos) 0 (.ref I) .none cenv)
   ((model prog w).den (.compStart (.GeneratorExp elt [⟨.Name x px, iter, [], 0⟩] scope pos) 0 (.ref I) .none cenv)) [] s := by
 haveI hh' : (A.over (.compStart (.GeneratorExp elt [⟨.Name x px, iter, [], 0⟩] scope pos) 0 (.ref I) .none cenv) []).handled = none := hh
 haveI loop := z54 (iter := iter) (px := px) (scope := scope) (pos := pos) hh W₀ hx hp hco hCf hq n₀ 0 s s m (Nat.sub_zero _) (zero_le _) hst hn (GenSince.refl _ _ _) htk
 show Seg _ A _ _ _ s _ ((compStart (.GeneratorExp elt [⟨.Name x px, iter, [], 0⟩] scope pos) 0 (.ref I) .none cenv).onRaise (leaving cenv)) [] s
 unfold compStart
 rw [Sem.onRaise_eq_wrap]
 show Seg _ A _ _ _ s _ ((ask >>= _).wrap _ _ _ _) [] s
 refine seg_bind_wrap (wpAny_askSetting ?_)
 split
 ·exact seg_again rfl loop
 exact seg_bind_wrap (wpAny_rule (seg_bind_wrap (wpAny_standAt (seg_bind_wrap ((W₀ _ hh').self 0 s _ _ hst (seg_again rfl loop))))))
noncomputable def BareG (a b : Array GenState) : Prop := AllBare a → AllBare b
theorem q42 {s : Shared} {g : Nat} {x : GenState} (h : AllBare s.gens) (hx : x.bare = true) : AllBare (s.setGen g x).gens := by
 intro y hy
 obtain ⟨i, hi, rfl⟩ := Array.mem_iff_getElem.mp hy
 dsimp only [Shared.setGen] at hi ⊢
 rw [Array.getElem_setIfInBounds (by simpa using hi)]
 split
 ·exact hx
 exact h _ (Array.getElem_mem ..)
noncomputable def GAt (prog : Program) (w : World) (A : Around) (a : Addr) (g : Nat) (C : Addr) (fp wr : List Addr) (n₀ : Nat) (F : Nat → Value → Prop) (j : Nat) (s : Shared) : Prop :=
 s.heap.IsGen a g ∧ s.heap.NoLimit ∧ 1 ≤ s.toks ∧ ∃ gs, s.gens[g]? = some gs ∧ ∀ s'' : Shared, (∀ b ∈ C :: fp, ∀ o, s.heap.get? b = some o → s''.heap.get? b = some o) → 1 ≤ s''.toks →
  gs.Goes (model prog w) A.in1 (gEnd C wr) (z05 C fp wr n₀ F) (n₀ - j) (.send .none) s''
theorem z03 (hh : A.handled = none) (a : Addr) (g : Nat) (C : Addr) (fp wr : List Addr) (n₀ : Nat) (F : Nat → Value → Prop) (haC : a ≠ C) (haf : a ∉ fp) (hsub : ∀ b ∈ wr, b ∈ fp)
  (hroom : A.depth < recursionLimit) (hcs : cStatics ∈ fp) (hcC : cStatics ≠ C) (hcw : cStatics ∉ wr) : WalksS prog w A a (a :: C :: fp) (C :: wr) BareG n₀ F (GAt prog w A a g C fp wr n₀ F) where
 sub := fun b hb => by
  rcases mem_cons.mp hb with rfl | hb
  ·simp
  exact mem_cons_of_mem _ (mem_cons_of_mem _ (hsub b hb))
 grefl := fun _ h => h
 gtrans := fun _ _ _ x y h => y (x h)
 frame := fun j s h' tk st ht hk =>
  ⟨let ⟨o, nm, qn, ho, r⟩ := st.1; ⟨o, nm, qn, hk a (mem_cons_self ..) o ho, r⟩,
   (let ⟨mc, hns, hnn⟩ := st.2.1; ⟨mc, hns.at' fun o e => hk cStatics (mem_cons_of_mem _ (mem_cons_of_mem _ hcs)) o e, hnn⟩), Nat.le_trans st.2.2.1 ht,
   let ⟨gs, hgs, hgo⟩ := st.2.2.2; ⟨gs, hgs, fun s'' hal => hgo s'' fun b hb o e => hal b hb o (hk b (mem_cons_of_mem _ hb) o e)⟩⟩
 item := fun j s Q E hj st hQ => by
  obtain ⟨hg, hl, ht, gs, hgs, hgo⟩ := st
  obtain ⟨m, hm⟩ : ∃ m, n₀ - j = m + 1 := Nat.exists_eq_succ_of_ne_zero (Nat.sub_ne_zero_of_lt hj)
  rw [hm] at hgo
  refine wpAny_with_toks (Nat.le_refl s.toks) ?_
  refine wpAny_pyNext_genexpQ (P := fun n s₀ s₁ => n = 0 ∧ GenSince C wr s₀ s₁) hh hl hroom hg hgs (hgo _ (fun _ _ _ e => e) ht) (fun v s₁ gs' hb hv => ?_) (fun s₁ hp h' hk => ?_)
  ·obtain ⟨hF, ⟨h₁, tk₁, rfl, hk₁⟩, ht₁, hkap⟩ := hv
   haveI hidx : n₀ - 1 - (m + 1 - 1) = j := sub_b hm
   rw [hidx] at hF
   haveI haw : a ∉ wr := fun h => haf (hsub a h)
   intro htk
   refine hQ v _ hF ⟨let ⟨o, nm, qn, ho, r⟩ := hg; ⟨o, nm, qn, hk₁ a o haC haw ho, r⟩, (let ⟨mc, hns, hnn⟩ := hl; ⟨mc, hns.at' fun o e => hk₁ cStatics o hcC hcw e, hnn⟩), ht₁, gs', setGen_self (gs := .running) (setGen_self hgs), fun s'' hal ht'' => ?_⟩
    ⟨fun b o hb e => hk₁ b o (fun h => hb (h ▸ mem_cons_self ..)) (fun h => hb (mem_cons_of_mem _ h)) e, fun x => q42 (q42 (x := .running) x rfl) hb, rfl, rfl, htk⟩
   have e : n₀ - (j + 1) = m := sub_c hm
   rw [e]
   exact hkap s'' hal ht''
  exact absurd hp.1 (Nat.succ_ne_zero m)
 done := fun s Q E st hQ => by
  obtain ⟨hg, hl, ht, gs, hgs, hgo⟩ := st
  rw [sub_self] at hgo
  refine wpAny_with_toks (Nat.le_refl s.toks) ?_
  refine wpAny_pyNext_genexpQ (P := fun n s₀ s₁ => n = 0 ∧ GenSince C wr s₀ s₁) hh hl hroom hg hgs (hgo _ (fun _ _ _ e => e) ht) (fun v s₁ gs' hb hv => ?_) (fun s₁ hp h' hk => ?_)
  ·obtain ⟨_, _, _, hkap⟩ := hv
   exact False.elim (hkap { s₁ with toks := s₁.toks + 1 } (fun _ _ _ e => e) (le_add_left ..))
  obtain ⟨_, h₁, tk₁, rfl, hk₁⟩ := hp
  intro htk
  exact hQ _ ⟨fun b o hb e => hk b o (hk₁ b o (fun h => hb (h ▸ mem_cons_self ..)) (fun h => hb (mem_cons_of_mem _ h)) e), fun x => q42 (x := .finished) (q42 (x := .running) x rfl) rfl, rfl, rfl, htk⟩
 self := fun _ _ _ _ st hQ => wpAny_pyIter_gen st.1 hQ
end
section
variable {Γ : Cx} {n : Nat} {env : Env} {σ : St} {sc : Scope}
theorem z55 {M : Model} {A : Around} {E : Value → Shared → Prop} {s : Shared} {P c : Addr} {es : List (Pos × Str)} {pos : Pos} {scope : Scope} {qual : Str} {Q : Value → Shared → Prop} (ok : Γ.Ok s) (hT : Γ.tabs = [(P, es)]) (he : (pos, qual) ∈ es)
  (hes : ∀ e ∈ es, e = (pos, qual) ∨ ((pos.line : Int) == e.1.line && (pos.col : Int) == e.1.col) = false)
  (hcode : env.code = .ref c) (C : CodeHd Γ.hB c P)
  (h : ∀ code h' tk, Kp s.heap h' → (∀ b o, b ≠ P → s.heap.get? b = some o → h'.get? b = some o) → Γ.Ok { s with heap := h', toks := tk } → Q code { s with heap := h', toks := tk }) :
  wpAny M A (genexprCode env pos qual scope) Q E s := by
 obtain ⟨ps, h1, htr, hall⟩ := ok.tabs (P, es) (by rw [hT]; exact .head _)
 have C' : CodeHd s.heap c P := by
  obtain ⟨o, vs, file, tf, flags, tg, inF, text, tt, e1, e2, r⟩ := C
  exact ⟨o, vs, file, tf, flags, tg, inF, text, tt, ok.base _ _ e1 (by unfold isTb; rw [e2]; rfl), e2, r⟩
 rcases hall _ he with hnf | ⟨c', o, vs, t, hf, e2, e3, e4, e5⟩
 ·refine wpAny_genexprCodeX hcode (C'.code h1 htr) (C'.tab h1) hnf fun c' h' tk hx hge hlt _ hrec htb htb' => ?_
  obtain ⟨ok', kp'⟩ := qy2 (tk := tk) ok hT h1 htr hnf hes hall hx htb.2 (by
   obtain ⟨P', _, _, ⟨o, vs, a1, a2, a3, _⟩, _⟩ := htb'
   obtain ⟨c2, o2, vs2, t2, b1, b2, b3, b4⟩ := hrec
   cases b1
   cases a1.symm.trans b2
   exact ⟨o, vs2, t2, a1, a2, b3, b4⟩)
  exact h _ _ _ kp' (fun b o hb e => hx _ _ hb e) ok'
 exact wpAny_genexprCode_hit hcode (C'.code h1 htr) hf (h _ s.heap s.toks (Kp.refl _) (fun _ _ _ e => e) ok)
theorem BA.run {M : Model} {A : Around} {E : Value → Shared → Prop} {s : Shared} {Q : Addr → Shared → Prop} {b0 : Addr} (ba : BA Γ) (ok : Γ.Ok s) (h : ∀ a, Q a s) : wpAny M A (builtinsFor mainGlobals b0) Q E s := by
 obtain ⟨bm, ob, hbm, hne0, hbo, hcls, hdict, hdata⟩ := ba.at_
 exact wpAny_builtinsFor (ns_kp Γ.g ok.kb) hbm hne0 (ok.base _ _ hbo (by unfold isTb; rw [hcls]; rfl)) hcls hdict hdata (h _)
end
theorem z11 {H : List Addr} {h : Heap} {vs : List Value} {xs : List (List Nat)} (d : Dens H h vs (xs.map PV.str)) (i : Nat) (v : Value) (e : vs[i]? = some v) : ∃ x t, xs[i]? = some x ∧ v = Value.str (S x) t := by
 obtain ⟨q, hq, dq⟩ := d.R3 e
 rw [getElem?_map] at hq
 obtain ⟨x, hx, rfl⟩ := map_eq_some_iff.mp hq
 cases dq using Den.s with | str t => exact ⟨x, t, hx, rfl⟩
section
variable {Γ : Cx} {n : Nat} {env : Env} {σ : St} {sc : Scope}
theorem Ev.joinGen {P c : Addr} {es : List (Pos × Str)} {sep : List Nat} {sep' : Str} {k0 : Nat} {p0 px gpos apos pos : Pos} {iter elt : Expr} {x : Str} {scope : Scope} {xs : List (List Nat)} {g : List Nat → List Nat}
  (G : EnvS env sc) (hT : Γ.tabs = [(P, es)]) (he : (gpos, env.qual ++ "<genexpr>") ∈ es) (hes : ∀ e ∈ es, e = (gpos, env.qual ++ "<genexpr>") ∨ ((gpos.line : Int) == e.1.line && (gpos.col : Int) == e.1.col) = false)
  (hcode : env.code = .ref c) (C : CodeHd Γ.hB c P) (ba : BA Γ) (hsep : sep' = S sep) (hline : (apos.endLine == pos.line) = true)
  (hco : scope.isCoroutine = false) (hclos : closureFor scope env = pure []) (hcell : ∀ y ∈ scope.names, y.2 ≠ .cell) (h0 : scope.names.lookup (".0" : Str) = some NameKind.local) (hx : scope.names.lookup x = some .local) (hkind : scope.kind = .function)
  (hs : ∀ x, genFold iter env x = pure x) (hi : Ev Γ n env σ iter (.pv (.list (xs.map .str)))) (hz1 : xs.length ≤ sizeLine) (hz2 : ((xs.map g).map List.length).sum + xs.length * sep.length ≤ 16777216)
  (hel : ∀ (A' : Around) (E' : Value → Shared → Prop) (cenv : Env) (y : List Nat) (t : Tok) (s₂ : Shared) (m₂ : Str → Option Value) (Q : Value → Shared → Prop), y ∈ xs → A'.handled = none → cenv.scope = scope → s₂.heap.Ns cenv.locals m₂ → m₂ x = some (.str (S y) t) → 1 ≤ s₂.toks →
   (∀ t' tk, Q (.str (S (g y)) t') { s₂ with toks := tk }) → wpAny (model Γ.prog Γ.w) A' (eval elt cenv) Q E' s₂)
  (hbase : ∀ env, attributeBase (.Constant (.str sep') k0 p0) (ofString "join") env (eval (.Constant (.str sep') k0 p0) env) = eval (.Constant (.str sep') k0 p0) env) :
  Ev Γ n env σ (.Call (.Attribute (.Constant (.str sep') k0 p0) (ofString "join") apos) [.GeneratorExp elt [⟨.Name x px, iter, [], 0⟩] scope gpos] [] pos) (.pv (.str (jn sep (xs.map g)))) :=
 .mk fun A E s φ H R ok lv eo Q k => by
  subst hsep
  refine wpAny_Call_method_lateS (hbase env) rfl hline (q04 ⟨"str", "str.join", F.plainAttrs_str, F.slot_str_join, F.type_str_join, rfl, fun a ea => (nomatch ea), ?_⟩)
  refine Calls.callWith_builtin rfl (Calls.evalArgs_plain ?_)
  show wpAny _ _ (spliced (backTo pos (starEach [.GeneratorExp elt [⟨.Name x px, iter, [], 0⟩] scope gpos] env))) _ _ _
  refine wpAny_items_cons (rest := []) (e := .GeneratorExp elt [⟨.Name x px, iter, [], 0⟩] scope gpos) ?_ (by rfl)
  have hd : A.depth < recursionLimit := by have := R.depth; show A.depth < 1000; lia
  refine wpAny_GeneratorExp_make hco hclos hcell h0 hkind hd ?_ hs
  haveI ok0 : Γ.Ok { s with toks := s.toks + 1 } := ok.toks
  refine hi.run A E _ φ H R ok0 lv eo _ fun V s1 k1 ok1 d => ?_
  cases d using Den.l with
  | @list a vs ha hl hd1 =>
   have hne : a ≠ s1.heap.objs.size := by obtain ⟨_, e⟩ := hl; exact Nat.ne_of_lt (lt_size e)
   haveI hlen := hd1.length
   simp only [length_toList, length_map] at hlen
   refine wpAny_pyIter_list hl.isList ?_
   have ok2 := ok1.W0 { cls := .type "list_iterator", data := .fields #[.ref a, .int 0 0] }
   refine ⟨q16 Γ.nolimit ok2.kb, z55 ok2 hT he hes hcode C fun code h3 tk3 k3 kk3 ok3 => ?_⟩
   rw [G.globals]
   refine ba.run ok3 fun bi => ?_
   intro h4 hn4 hs4
   obtain ⟨ps, hP, _⟩ := ok1.tabs (P, es) (by rw [hT]; exact .head _)
   have hPI : P ≠ s1.heap.objs.size := Nat.ne_of_lt (lt_size hP)
   have haP : a ≠ P := fun q => by obtain ⟨_, e⟩ := hl; rw [q] at e; rw [e] at hP; have := congrArg Obj.cls (Option.some.inj hP); simp [tabObj] at this
   have hit3 : h3.IsListIter s1.heap.objs.size a 0 := ⟨_, kk3 _ _ hPI.symm (get?_push_size _ rfl), rfl, rfl⟩
   have hl3 : h3.IsList a vs := (hl.isList.push _).at fun o e => kk3 _ _ haP e
   generalize hI : s1.heap.objs.size = I at *
   have hIs : I < h3.objs.size := by obtain ⟨o, e, _⟩ := hit3; exact lt_size e
   have has : a < h3.objs.size := by obtain ⟨o, e, _⟩ := hl3; exact lt_size e
   haveI hnl1 := q16 Γ.nolimit ok1.kb
   haveI hnl3 := q16 Γ.nolimit ok3.kb
   have hcI : cStatics < I := by obtain ⟨_, hn, _⟩ := hnl1; rw [← hI]; exact hn.lt
   haveI keep4 : ∀ b o, h3.get? b = some o → h4.get? b = some o := fun b o e => hs4.extBut b o (Nat.ne_of_lt (lt_size e)) (get?_push_of_some _ e)
   have sz4 : h4.objs.size = h3.objs.size + 1 := by rw [hs4.1, Heap.size_push]
   have keep5 : ∀ (o5 : Obj) b o, h3.get? b = some o → (h4.push o5).get? b = some o := fun o5 b o e => get?_push_of_some _ (keep4 b o e)
   refine wpAny_items_nil ?_
   haveI hcC : cStatics ≠ h3.objs.size := Nat.ne_of_lt (Nat.lt_trans hcI hIs)
   have hfp3 : ∀ b ∈ [I, a, cStatics], b < h3.objs.size := fun b hb => by
    simp only [mem_cons, not_mem_nil, or_false] at hb
    rcases hb with rfl | rfl | rfl
    ·exact hIs
    ·exact has
    exact Nat.lt_trans hcI hIs
   have hsub : ∀ b ∈ [I], b ∈ [I, a, cStatics] := fun b hb => by simp only [mem_singleton] at hb; subst hb; exact .head _
   have hW := z03 (prog := Γ.prog) (w := Γ.w) (A := A.in1.in1) R.handled h4.objs.size s1.gens.size h3.objs.size [I, a, cStatics] [I] xs.length (fun i y => ∃ x t, xs[i]? = some x ∧ y = Value.str (S (g x)) t) (by rw [sz4]; exact succ_ne_self _) (fun hm => by have := hfp3 _ hm; rw [sz4] at this; exact absurd this (Nat.not_lt_of_le (le_succ _))) hsub hd (by simp) hcC (fun hm => Nat.ne_of_lt hcI (mem_singleton.mp hm))
   have hwl : ∀ A' : Around, A'.handled = none → Walks Γ.prog Γ.w A' I [I, a, cStatics] [I] xs.length (fun i v => vs[i]? = some v) (fun i h => h.IsListIter I a i ∧ h.IsList a vs) := fun A' hA => by
    have W := Walks.list (prog := Γ.prog) (w := Γ.w) hA I a hne vs
    rw [hlen] at W
    exact W.mono_fp fun b hb => by simp only [mem_cons, not_mem_nil, or_false] at hb ⊢; rcases hb with rfl | rfl <;> simp
   refine SC.joinGen hW (fun i s st => st.1.typeIs) ⟨⟨_, _, _, get?_push_size _ rfl, rfl, rfl, rfl⟩, hnl3.keeps fun b o e => keep5 _ _ _ e, le_add_left 1 _, _, Array.getElem?_push_size .., fun s'' hal ht => ⟨rfl, ?_⟩⟩ (fun b hb => ?_) (.head _) (fun i v hF => ?_) (fun s' l hm hit => ?_) hz1
   ·refine z04 (A := A.in1.in1.in1) (cenv := genEnv scope [] h3.objs.size code bi env) (St₀ := fun i h => h.IsListIter I a i ∧ h.IsList a vs) (P := fun i v => vs[i]? = some v) R.handled hwl hx (by simp [genEnv, hkind]) hco (fun hm => Nat.lt_irrefl _ (hfp3 _ hm)) ?_ s'' _ ?_ (hn4.at' fun o e => hal _ (.head _) o (get?_push_of_some _ e)) ht
    ·exact ⟨fun A' E' i v s₂ m₂ Q hA hi' hv hn hm ht k => by
      obtain ⟨y, t, hy, rfl⟩ := z11 hd1 i v (by rw [getElem?_toList]; exact hv)
      exact hel A' E' _ y t s₂ m₂ Q (mem_of_getElem? hy) hA rfl hn hm ht fun t' tk => k _ _ ⟨y, t', hy, rfl⟩⟩
    exact ⟨hit3.at fun o e => hal I (by simp) o (keep5 _ _ _ e), hl3.at fun o e => hal a (by simp) o (keep5 _ _ _ e)⟩
   ·show b < (h4.push _).objs.size
    rw [Heap.size_push, sz4]
    rcases mem_cons.mp hb with rfl | hb
    ·rw [sz4]; exact lt_succ_self _
    rcases mem_cons.mp hb with rfl | hb
    ·exact lt_succ_of_lt (lt_succ_self _)
    exact lt_succ_of_lt (lt_succ_of_lt (hfp3 _ hb))
   ·obtain ⟨x, t, _, rfl⟩ := hF
    exact ⟨_, _, rfl⟩
   have htx : l.map (·.1) = (xs.map g).map S := by
    obtain ⟨h1, h2⟩ := hit
    simp only [strValues, size_toArray, length_map] at h1
    refine List.ext_getElem (by simp [h1]) fun i hi1 hi2 => ?_
    simp only [length_map] at hi1 hi2
    obtain ⟨x, t, e1, e2⟩ := h2 i (.str l[i].1 l[i].2) (by simp [strValues, hi1])
    haveI e3 : xs[i]? = some xs[i] := List.getElem?_eq_getElem hi2
    rw [e3] at e1; cases e1
    simp only [List.getElem_map]
    injection e2
   rw [htx]
   refine ⟨?_, fun t' j => ?_⟩
   ·unfold JoinOk
    rw [StrLaws.joinTotal]
    haveI h1 : (((xs.map g).map S).map (·.length)) = (xs.map g).map List.length := by
     rw [map_map]; exact map_congr_left fun a _ => S_len a
    rw [h1, length_map, length_map, S_len]
    rw [show Builtin.Str.tooLong (((xs.map g).map List.length).sum + xs.length * sep.length) = false from decide_eq_false (by simp only [sizeLine]; lia)]; rfl
   haveI hjn : Txt.join (S sep) ((xs.map g).map S) = S (jn sep (xs.map g)) := by
    unfold Txt.join
    rw [StrLaws.glued_eq_join, qq7]
   rw [hjn]
   have fk : FK [h3.objs.size, I] h3 s'.heap := fun b o hb e => hm.heap b o hb (keep5 _ _ _ e)
   have n1 : ∀ b ∈ [h3.objs.size, I], s1.heap.get? b = none := fun b hb => by
    simp only [mem_cons, not_mem_nil, or_false] at hb
    rcases hb with rfl | rfl
    ·exact get?_none_of_le (by rw [hI]; exact Nat.le_of_lt hIs)
    exact get?_none_of_le (by rw [hI]; exact Nat.le_refl _)
   have okf := ok3.fk (t := j) fk (fun b hb => ok1.new (n1 b hb)) (fun b o e tt mm => ?_) (fun b hb ⟨o, e, f⟩ => ?_)
   ·refine k _ _ (k1.trans (KpH.kp (h₀ := s1.heap) fk.kpH n1 ((Kp.push _ _).trans k3))) ⟨okf.base, okf.tabs, hm.gens ?_, hm.os.trans ok3.os, okf.all, okf.frs, okf.off, okf.old⟩ (.str _ _)
    exact AllBare.push ok3.gens rfl
   ·simp only [mem_cons, not_mem_nil, or_false] at mm
    rcases mm with rfl | rfl
    ·rw [q00] at e; cases e
    obtain ⟨o2, e2, hc, hfd⟩ := hit3
    rw [show h3.get? b = some o2 from e2] at e; cases e
    rw [lot (q03 hc hfd)] at tt; nomatch tt
   refine ⟨o, fk _ _ (fun mm => ?_) e, f⟩
   simp only [mem_cons, not_mem_nil, or_false] at mm
   rcases mm with rfl | rfl
   ·exact some_ne_none _ ((show h3.get? h3.objs.size = some o from e).symm.trans (q00 h3))
   obtain ⟨o2, e2, hc, hfd⟩ := hit3
   rw [show h3.get? b = some o2 from e2] at e; cases e
   rw [lof (q03 hc hfd)] at f; nomatch f
end
noncomputable def R7 (y : List Nat) : List Nat := W2 45 [92, 45] (W2 92 [92, 92] y)
theorem za5 (y : List Nat) : R7 y = rpl (rpl y [92] [92, 92]) [45] [92, 45] := by rw [qg6, qg6]; rfl
section
variable {prog : Program} {w : World} {A : Around} {E : Value → Shared → Prop} {s : Shared} {env : Env}
theorem qa2 {o : Expr} {k1 k2 : Nat} {p1 p2 apos pos : Pos} {x y z : List Nat} {Q : Value → Shared → Prop} (hyz : (S y == S z) = false) (hb : x.length + (x.length + 1) * z.length ≤ 16777216)
  (hbase : attributeBase o (ofString "replace") env (eval o env) = eval o env) (hline : (apos.endLine == pos.line) = true)
  (h : wpAny (model prog w) A (eval o env) (fun v s₁ => ∃ t, v = .str (S x) t ∧ 1 ≤ s₁.toks ∧ ∀ t' j, 1 ≤ j → Q (.str (S (rpl x y z)) t') { s₁ with toks := j }) E s) :
  wpAny (model prog w) A (eval (.Call (.Attribute o (ofString "replace") apos) [.Constant (.str (S y)) k1 p1, .Constant (.str (S z)) k2 p2] [] pos) env) Q E s := by
 refine wpAny_Call_method_lateS hbase rfl hline (wpAny_mono h (fun v s₁ hv => ?_) fun _ _ e => e)
 obtain ⟨t, rfl, ht, hQ⟩ := hv
 refine ⟨"str", "str.replace", F.plainAttrs_str, F.slot_str_replace, F.type_str_replace, rfl, fun a ea => (nomatch ea), ?_⟩
 refine Calls.callWith_builtin rfl ?_
 refine Calls.evalArgs_plain ?_
 refine wpAny_items_cons (q04 (wpAny_items_cons (q04 (wpAny_items_nil ?_)) rfl)) rfl
 refine wpAny_with_toks (n := 1) (by show 1 ≤ s₁.toks + 1 + 1; lia) ?_
 refine SC.replace (by show s₁.toks ≠ 0; lia) (by show s₁.toks + 1 ≠ 0; lia) (by show s₁.toks ≠ s₁.toks + 1; lia) hyz (by rw [S_len, S_len]; exact hb) fun t' j hj => ?_
 rw [← S_rpl]
 exact hQ t' j hj
theorem za6 {x : String} {k1 k2 k3 k4 : Nat} {px p1 p2 p3 p4 a1 a2 q1 q2 : Pos} {m : Str → Option Value} {y : List Nat} {t : Tok} {Q : Value → Shared → Prop} {s1 s2 s3 s4 : Str} (e1 : s1 = S [92]) (e2 : s2 = S [92, 92]) (e3 : s3 = S [45]) (e4 : s4 = S [92, 45])
  (hl1 : (a1.endLine == q1.line) = true) (hl2 : (a2.endLine == q2.line) = true) (hk : env.scope.kind = .function) (hx : env.scope.names.lookup (ofString x) = some .local) (hd : (ofString x == ("__debug__" : Str)) = false)
  (hn : s.heap.Ns env.locals m) (hm : m (ofString x) = some (.str (S y) t)) (ht : 1 ≤ s.toks) (hy : y.length ≤ 2 ^ 18) (h : ∀ t' tk, Q (.str (S (R7 y)) t') { s with toks := tk }) :
  wpAny (model prog w) A (eval (.Call (.Attribute (.Call (.Attribute (.Name (ofString x) px) (ofString "replace") a1) [.Constant (.str s1) k1 p1, .Constant (.str s2) k2 p2] [] q1) (ofString "replace") a2) [.Constant (.str s3) k3 p3, .Constant (.str s4) k4 p4] [] q2) env) Q E s := by
 subst e1; subst e2; subst e3; subst e4
 have hl : (rpl y [92] [92, 92]).length ≤ 3 * y.length := by
  rw [qg6]
  have := qa9 92 [92, 92] y
  simp only [length_cons, length_nil] at this
  lia
 refine qa2 (x := rpl y [92] [92, 92]) (by decide) (by simp only [length_cons, length_nil]; lia) (by rfl) hl2 ?_
 refine qa2 (x := y) (by decide) (by simp only [length_cons, length_nil]; lia) (by rfl) hl1 ?_
 refine wpAny_Name (wpAny_loadName_local hk hx hn hm ?_) hd
 refine ⟨t, rfl, ht, fun t1 j1 hj1 => ⟨t1, rfl, hj1, fun t2 j2 hj2 => ?_⟩⟩
 have := h t2 j2
 rw [za5] at this
 exact this
end
theorem qn6 : mroOf (.type "object") = pure [.type "object"] := by kernel_rfl
theorem qa0 : typeLookup (.type "object") "__new__" = pure (some (.builtin "object.__new__")) := by rw [typeLookup_type, builtinLookup_eq_fast]; kernel_rfl
theorem qh3 : Slot "object" "__init__" "object.__init__" :=
 .of (owner := "object") (n := "__init__") (by rw [typeLookup_type, builtinLookup_eq_fast]; kernel_rfl) (by decide +kernel) (by decide +kernel) (by decide +kernel)
  (by first | exact .inl (by decide +kernel) | exact .inr (by decide +kernel)) (by rw [isSubtype_type]; kernel_rfl)
theorem qu0 : TypeCalled "object" "object.__new__" "object.__init__" :=
 ⟨by decide +kernel, by decide +kernel, ⟨_, _, qn6⟩, madeBy_type qn6 qa0 (by decide +kernel), by decide +kernel, by rw [isSubtype_type]; kernel_rfl, qh3⟩
theorem qj0 : checkTypeCall "object" ⟨[], []⟩ = pure () := by kernel_rfl
theorem qn5 : checkBuiltinCall "object.__new__" ⟨[.type "object"], []⟩ = pure () := by kernel_rfl
theorem qk8 (obj : Value) : argsOk "object.__init__" ⟨[obj], []⟩ := by
 unfold argsOk; rw [signature?_of (id := "object.__init__") (n := ['_', '_', 't', 'i', 'n', 'i', '_', '_']) (o := ['t', 'c', 'e', 'j', 'b', 'o']) (by kernel_rfl) F.owner_object]; kernel_rfl
theorem qh2 : Meets (Builtin.«object.__new__» ⟨[.type "object"], []⟩) (fun _ R s => R (.ok (.ret (.ref s.heap.objs.size))) { s with heap := s.heap.push { cls := .type "object", data := .plain } }) :=
 .of_wp fun prog w A R s h => by
  obtain ⟨hp, g, d, tk, os⟩ := s
  haveI h0 := madeBy_type qn6 qa0 (by decide +kernel)
  wp_walk
  exact ⟨_, rfl, h⟩
theorem qe5 {self : Value} : Meets (Builtin.«object.__init__» ⟨[self], []⟩) (fun _ R s => R (.ok (.ret .none)) s) := Meets.of_wp fun prog w A R s hs => wpAny_pure ⟨_, rfl, hs⟩
theorem qa4 (a b c : Value) : checkTypeCall "range" ⟨[a, b, c], []⟩ = pure () := by kernel_rfl
theorem qc7 (a b c : Value) : checkBuiltinCall "range.__new__" ⟨[.type "range", a, b, c], []⟩ = pure () := by kernel_rfl
theorem qa5 (obj a b c : Value) : argsOk "object.__init__" ⟨[obj, a, b, c], []⟩ := by
 unfold argsOk; rw [signature?_of (id := "object.__init__") (n := ['_', '_', 't', 'i', 'n', 'i', '_', '_']) (o := ['t', 'c', 'e', 'j', 'b', 'o']) (by kernel_rfl) F.owner_object]; kernel_rfl
section
variable {prog : Program} {w : World} {A : Around} {E : Value → Shared → Prop} {s : Shared}
theorem qp7 {Q : Value → Shared → Prop} (h : Q (.ref s.heap.objs.size) { s with heap := s.heap.push { cls := .type "object", data := .plain } }) : wpAny (model prog w) A (call (.type "object") []) Q E s :=
 callType_meets (Q₁ := fun obj s₁ => s₁.TypeIs obj "object" ∧ Q obj s₁) qu0 qj0 qn5 F.entry_object_new F.entry_object_init qh2 ⟨⟨_, get?_push_size _ rfl, rfl⟩, h⟩
  fun obj s₁ hq => ⟨hq.1, qk8 _, _, qe5, rfl, hq.2⟩
theorem qm0 {a b c : Int} {t u v : Tok} {Q : Value → Shared → Prop} (hc : ¬ (some c == some 0) = true) (hd : Builtin.divisionGoesByPylong (b - a) c = false)
  (h : Q (.ref s.heap.objs.size) { s with heap := s.heap.push { cls := .type "range", data := .fields #[.int a t, .int b u, .int c v] } }) :
  wpAny (model prog w) A (call (.type "range") [.int a t, .int b u, .int c v]) Q E s :=
 callType_new F.called_range (by decide) (qa4 _ _ _) (qc7 _ _ _) (fun obj => qa5 obj _ _ _) F.entry_range_new
  (AutoRange.range___new___type_int_int_int_1 a b c t u v F.called_range.sub hc) ⟨hd, ⟨_, get?_push_size _ rfl, rfl⟩, h⟩
end
theorem qm9 {prog : Program} {w : World} {A : Around} {E : Value → Shared → Prop} {s : Shared} {l : Addr} {vs : Array Value} {k : Int} {t : Tok} {v : Value} {Q : Unit → Shared → Prop} (hl : LstAt s.heap l vs) (h0 : k < 0) (h1 : -(vs.size : Int) ≤ k) (hfit : -(2 ^ 63) ≤ k)
  (hQ : ∀ h', SameBut l s.heap h' → LstAt h' l (vs.setIfInBounds (k + vs.size).toNat v) → Q () { s with heap := h' }) : wpAny (model prog w) A (setItem (.ref l) (.int k t) v) Q E s := by
 obtain ⟨n, ho⟩ := id hl
 haveI hL := hl.isList
 unfold setItem
 try with_reducible refine wpAny_holding ?_
 first | refine wpAny_bind (wpAny_pure ?_) | skip
 refine wpAny_bind (wpAny_sequenceKey hL.typeIs (by decide) ?_)
 refine wpAny_bind (wpAny_callSpecial?_slot (name := ofString "__setitem__") hL.typeIs slot_list_setitem
  (wpAny_call_entry slot_list_setitem hL.typeIs entry_list_setitem ?_ (args_list_setitem _ _ _)))
 show wpAny _ _ (Builtin.List.listSubscript? (.int k t) >>= _) _ _ s
 refine wpAny_bind (wpAny_listSubscript_int (fitsIndex_neg h0 hfit) ?_)
 clear hfit
 haveI hidx := seqIndex_neg h0 h1
 generalize hj : (k + vs.size).toNat = j at *
 haveI hjl : j < vs.size := by lia
 haveI hx' : vs[j]? = some vs[j] := Array.getElem?_eq_getElem hjl
 obtain ⟨i, rfl⟩ : ∃ i : Nat, k = Int.negSucc i := by
  cases k with
  | ofNat n => exact absurd h0 (Int.not_lt.mpr (natCast_nonneg n))
  | negSucc n => exact ⟨n, rfl⟩
 show wpAny _ _ ((Builtin.List.listItems (.ref l) >>= fun xs => pure ((seqIndex? (Int.negSucc i) xs.size).bind fun i => xs[i]?.map (i, ·))) >>= _) _ _ s
 refine wpAny_bind (wpAny_bind ?_)
 show wpAny _ _ (seqItems? (.ref l) >>= _) _ _ s
 refine wpAny_bind (wpAny_seqItems ho rfl (wpAny_pure (wpAny_pure ?_)))
 rw [hidx]
 simp only [Option.bind_some, hx', map_some]
 show wpAny _ _ (setSeqItemAt l j v >>= _) _ _ s
 haveI hfin : LstAt (s.heap.update l (Obj.mapSeq (·.setIfInBounds j v))) l (vs.setIfInBounds j v) :=
  ⟨_, Heap.get?_update_self _ ho rfl⟩
 refine wpAny_bind (wpAny_setSeqItemAt ho rfl ?_)
 first
  | exact wpAny_bind (wpAny_pure (wpAny_pure ⟨.none, rfl, wpAny_pure (hQ _ (SameBut.update ..) hfin)⟩))
  | exact wpAny_pure ⟨.none, rfl, wpAny_pure (hQ _ (SameBut.update ..) hfin)⟩
theorem qu4 {prog : Program} {w : World} {A : Around} {E : Value → Shared → Prop} {s : Shared} {l : Addr} {vs : Array Value} {k : Nat} {t : Tok} {Q : Unit → Shared → Prop} (hl : LstAt s.heap l vs) (hk : k < vs.size) (hz : vs.size ≤ 2 ^ 24)
  (hQ : ∀ h', SameBut l s.heap h' → LstAt h' l (vs.eraseIdxIfInBounds k) → Q () { s with heap := h' }) : wpAny (model prog w) A (delItem (.ref l) (.int k t)) Q E s := by
 obtain ⟨n, ho⟩ := hl
 refine P.delItem_list (n := n) (k := k) ho (fitsIndex_of (by lia) (by lia)) (by rw [q46 (by lia) (by lia), toNat_natCast]) (hQ _ (SameBut.update ..) ⟨_, Heap.get?_update_self _ ho rfl⟩) (by simp only [sizeLine]; lia)
section
variable {Γ : Cx} {τ n : Nat} {env : Env} {σ : St} {sc scope : Scope} {ns : List String} {α β : Type} {K : AF → St → Prop} {more : List Stmt}
theorem qu3 {H : List Addr} {h : Heap} {Vs : List Value} {xs : List PV} (j : Nat) (r : Dens H h Vs xs) : Dens H h (Vs.eraseIdx j) (xs.eraseIdx j) :=
 r.ind (M := fun Vs xs => ∀ j, Dens H h (Vs.eraseIdx j) (xs.eraseIdx j)) (fun _ => .nil) (fun a b ih j => by
  cases j with
  | zero => exact b
  | succ j => exact .cons a (ih j)) j
theorem Ex.del {x : String} {p pos pos' : Pos} {i : Expr} {k : Nat} {xs : List PV} {z : Nat} {orest : List (Nat × List PV)} (G : EnvG env) (hm : (x, RV.ptr k) ∈ σ.v) (ho : (k, xs) ∈ σ.o) (ko : KeepO k σ.o orest) (hi : Ev Γ n env σ i (.pv (.int z))) (h1 : z < xs.length) (hz : xs.length ≤ 2 ^ 24)
  (c : K .nx ⟨σ.v, (k, xs.eraseIdx z) :: orest⟩) (hd : (ofString x == ("__debug__" : Str)) = false) :
  Ex Γ τ n env ns σ (exec (.Delete [.Subscript (.Name (ofString x) p) i pos'] pos) env) K := .mk' fun A E s φ Mw Lo H R F τ0 Q q => by
 refine wpAny_Delete (wpAny_deleteEach_cons (wpAny_delete_Subscript ?_))
 obtain ⟨W, a, d⟩ := F.eo.vars _ _ hm
 have d' : W = .ref (φ k) := d
 subst d'
 refine wpAny_Name (q02 G.kind a ?_) hd
 refine F.ev R hi fun I s2 k2 F2 di => ?_
 obtain ⟨_, vs2, hl2, hd2⟩ := F2.eo.own _ _ ho
 have hlen := hd2.length
 simp only [length_toList] at hlen
 have di' : Den (Mw ++ Lo ++ H) s2.heap I (.int z) := di
 cases di' using Den.i
 refine qu4 hl2 (by lia) (by lia) fun h' hs' hl' => wpAny_deleteEach_nil ?_
 obtain ⟨F3, G3⟩ := F2.R9 (t := s2.toks) ho ko hs' hl' (ys := xs.eraseIdx z) (by rw [Array.toList_eraseIdxIfInBounds]; exact qu3 _ hd2)
 exact q .next { s2 with heap := h' } .nx _ φ Lo c F3 ((Gr.of k2).trans G3) trivial
theorem X.del {x : String} {p pos pos' : Pos} {i : Expr} {k : Nat} {xs : List PV} {z : Nat} {orest : List (Nat × List PV)} (G : EnvS env sc) (hm : (x, RV.ptr k) ∈ σ.v) (ho : (k, xs) ∈ σ.o) (ko : KeepO k σ.o orest) (hi : E Γ n env σ i (.pv (.int z))) (h1 : z < xs.length) (hz : xs.length ≤ 2 ^ 24)
  (hd : (ofString x == ("__debug__" : Str)) = false) (c : X Γ τ n env ns ⟨σ.v, (k, xs.eraseIdx z) :: orest⟩ more K) : X Γ τ n env ns σ (.Delete [.Subscript (.Name (ofString x) p) i pos'] pos :: more) K :=
 ⟨Ex.cons (Ex.del G.g hm ho ko hi.run h1 hz c.run hd)⟩
theorem Ex.augN {x : String} {p pos pos' : Pos} {e i : Expr} {k : Nat} {xs : List PV} {z : Int} {a b : List Nat} {orest : List (Nat × List PV)} (G : EnvG env) (hm : (x, RV.ptr k) ∈ σ.v) (ho : (k, xs) ∈ σ.o) (ko : KeepO k σ.o orest) (hi : Ev Γ n env σ i (.pv (.int z))) (h0 : z < 0) (h1 : -(xs.length : Int) ≤ z) (hz : xs.length ≤ 2 ^ 24)
  (hc : xs[(z + xs.length).toNat]? = some (.str a)) (h : Ev Γ n env σ e (.pv (.str b))) (hab : a.length + b.length ≤ 2 ^ 24) (c : K .nx ⟨σ.v, (k, xs.set (z + xs.length).toNat (.str (a ++ b))) :: orest⟩) (hd : (ofString x == ("__debug__" : Str)) = false)
  (ha : ∀ ov iv new, augStore i ov iv new = (do holding [new, ov, iv] (setItem ov iv new); release [new, ov, iv] []; pure .next)) :
  Ex Γ τ n env ns σ (exec (.AugAssign (.Subscript (.Name (ofString x) p) i pos') .Add e pos) env) K := .mk' fun A E s φ Mw Lo H R F τ0 Q q => by
 refine wpAny_AugAssign_SubscriptAny ?_ ha
 obtain ⟨W, at0, d⟩ := F.eo.vars _ _ hm
 have d' : W = .ref (φ k) := d
 subst d'
 refine wpAny_Name (q02 G.kind at0 ?_) hd
 refine F.ev R hi fun I s2 k2 F2 di => ?_
 obtain ⟨_, vs2, hl2, hd2⟩ := F2.eo.own _ _ ho
 have hlen := hd2.length
 simp only [length_toList] at hlen
 have di' : Den (Mw ++ Lo ++ H) s2.heap I (.int z) := di
 cases di' using Den.i
 obtain ⟨V, hV, dV⟩ := hd2.get hc
 rw [getElem?_toList] at hV
 refine wpAny_getItem_list_neg hl2.isList h0 (by rw [hlen]; exact h1) (by lia) (by rw [hlen]; exact hV) ?_
 refine F2.ev R h fun V4 s4 k4 F4 d4 => ?_
 obtain ⟨_, vs4, hl4, hd4⟩ := F4.eo.own _ _ ho
 haveI hlen4 := hd4.length
 simp only [length_toList] at hlen4
 cases dV using Den.s with
 | str t1 =>
  cases d4 using Den.s with
  | str t2 =>
   refine PyProof.Rows.iadd_str (fun t' tk => ?_) (by simp only [Str.length, size_toArray, sizeLine]; lia)
   haveI hl4' : LstAt ({ s4 with toks := tk } : Shared).heap (φ k) vs4 := hl4
   refine qm9 hl4' h0 (by rw [hlen4]; exact h1) (by lia) fun h' hs' hl' => ?_
   rw [hlen4] at hl'
   haveI es : (⟨a.toArray⟩ : Str) ++ (⟨b.toArray⟩ : Str) = ⟨(a ++ b).toArray⟩ := by show Str.append _ _ = _; simp [Str.append]
   rw [es] at hl'
   obtain ⟨F5, G5⟩ := F4.R9 (t := tk) ho ko hs' hl' (ys := xs.set (z + xs.length).toNat (.str (a ++ b))) (by rw [Array.toList_setIfInBounds]; exact Dens.set (.str _ _) _ hd4)
   exact q .next { s4 with heap := h', toks := tk } .nx _ φ Lo c F5 ((Gr.of (k2.trans k4)).trans G5) trivial
theorem X.augN {x : String} {p pos pos' : Pos} {e i : Expr} {k : Nat} {xs : List PV} {z : Int} {a b : List Nat} {orest : List (Nat × List PV)} (G : EnvS env sc) (hm : (x, RV.ptr k) ∈ σ.v) (ho : (k, xs) ∈ σ.o) (ko : KeepO k σ.o orest) (hi : E Γ n env σ i (.pv (.int z))) (h0 : z < 0) (h1 : -(xs.length : Int) ≤ z) (hz : xs.length ≤ 2 ^ 24)
  (hc : xs[(z + xs.length).toNat]? = some (.str a)) (h : E Γ n env σ e (.pv (.str b))) (hab : a.length + b.length ≤ 2 ^ 24) (hd : (ofString x == ("__debug__" : Str)) = false) (ha : ∀ ov iv new, augStore i ov iv new = (do holding [new, ov, iv] (setItem ov iv new); release [new, ov, iv] []; pure .next))
  (c : X Γ τ n env ns ⟨σ.v, (k, xs.set (z + xs.length).toNat (.str (a ++ b))) :: orest⟩ more K) : X Γ τ n env ns σ (.AugAssign (.Subscript (.Name (ofString x) p) i pos') .Add e pos :: more) K :=
 ⟨Ex.cons (Ex.augN G.g hm ho ko hi.run h0 h1 hz hc h.run hab c.run hd ha)⟩
end
section
variable {Γ : Cx} {τ n : Nat} {env : Env} {σ : St} {sc scope : Scope} {ns : List String} {α β : Type} {K : AF → St → Prop} {more : List Stmt}
noncomputable def T5 (a b : Int) : List Int := (List.range (a - b).toNat).map fun (i : Nat) => a - (i : Int)
noncomputable abbrev PRD (a b : Int) : Pred Value := fun _ _ h V => ∃ r t u v, V = .ref r ∧ IsRange h r a b (-1) t u v
theorem CallB.range3 {a b : Int} : CallB Γ n env σ (.type "range") [PR (.pv (.int a)), PR (.pv (.int b)), PR (.pv (.int (-1)))] (PRD a b) := fun Vs A E s φ H R ok lv eo c Q k => by
 obtain ⟨_, _, _, rfl, a1, a2, a3⟩ := c.three
 cases a1 using Den.i; cases a2 using Den.i; cases a3 using Den.i
 refine qm0 (by decide) (by unfold Builtin.divisionGoesByPylong; rfl) (k _ _ (Kp.push _ _) (ok.W0 _) ⟨_, _, _, _, rfl, get?_push_size _ rfl⟩)
theorem q59 (a b : Int) : Builtin.Range.rangeSize a b (-1) = ((a - b).toNat : Int) := by
 unfold Builtin.Range.rangeSize
 rw [if_neg (by decide)]
 split <;> simp <;> omega
theorem qt1 {a b : Int} (h0 : -(2 ^ 61) ≤ a ∧ a < 2 ^ 61) (h1 : -(2 ^ 61) ≤ b ∧ b < 2 ^ 61) : Builtin.Range.small a b (-1) = true := by
 unfold Builtin.Range.small
 rw [q59]
 simp only [Builtin.Range.rangeFitsLong, and_eq_true, or_eq_true, decide_eq_true_eq, beq_iff_eq, show ¬ ((-1 : Int) > 0) by decide, if_false]
 omega
theorem I.T5 {x : Str} {y : String} {p q pos : Pos} {e e' e'' : Expr} {a b : Int} (bn : BN Γ env sc x (.type "range")) (ha : E Γ n env σ e (.pv (.int a))) (hb : E Γ n env σ e' (.pv (.int b))) (hc : E Γ n env σ e'' (.pv (.int (-1)))) (he : ∀ env, starEach [e, e', e''] env = (false, eval e env) :: starEach [e', e''] env) (he' : ∀ env, starEach [e', e''] env = (false, eval e' env) :: starEach [e''] env) (he'' : ∀ env, starEach [e''] env = (false, eval e'' env) :: starEach [] env)
  (h0 : -(2 ^ 61) ≤ a ∧ a < 2 ^ 61) (h1 : -(2 ^ 61) ≤ b ∧ b < 2 ^ 61) : EvI Γ n env σ (.Call (.Name x p) [e, e', e''] [] pos) (.Name (ofString y) q) ((T5 a b).map fun i => [.int i]) := by
 haveI hcall : EvP Γ n env σ (eval (.Call (.Name x p) [e, e', e''] [] pos) env) (PRD a b) := Ev.R0 bn.ev (EvS.cons (mR _) ha.run (EvS.cons (mR _) hb.run (EvS.cons (mR _) hc.run EvS.nil he'') he') he) CallB.range3 he (fun env => by rw [he', he'']; rfl)
 refine .mk fun A E s φ H R ok lv eo Q k => hcall.run A E s φ H R ok lv eo _ fun V s1 k1 ok1 d => ?_
 obtain ⟨r, t, u, v, rfl, ho⟩ := d
 refine wpAny_pyIter_range ho (qt1 h0 h1) (k s1.heap.objs.size _ [s1.heap.objs.size] [s1.heap.objs.size] (fun i h => IsRangeIter h s1.heap.objs.size (a + (i : Nat) * (-1)) (((a - b).toNat : Int) - (i : Nat)) (-1)) s1.heap k1 (Kp.push _ _) (ok1.W0 _) ?_ (q50 _ _) ?_ ?_ ?_)
 ·intro c hc; simp only [mem_singleton] at hc; subst hc; exact ok1.new (q00 _)
 ·haveI hlen : (a - b).toNat = ((Mine.T5 a b).map PV.int).length := by simp [Mine.T5]
  haveI W := Walks.range (prog := Γ.prog) (w := Γ.w) R.handled s1.heap.objs.size a (-1) (a - b).toNat
  haveI e2 : ((Mine.T5 a b).map fun i => [PV.int i]) = ((Mine.T5 a b).map PV.int).map fun y => [y] := by simp
  rw [e2]
  haveI W' : Walks Γ.prog Γ.w A s1.heap.objs.size [s1.heap.objs.size] [s1.heap.objs.size] ((Mine.T5 a b).map PV.int).length (fun i v => ∃ t, v = .int (a + i * (-1)) t) (fun i h => IsRangeIter h s1.heap.objs.size (a + (i : Nat) * (-1)) (((a - b).toNat : Int) - (i : Nat)) (-1)) := by
   rw [← hlen]; exact W
  refine Itr.ofWalks W' (fun c hc => by simp only [mem_singleton] at hc; subst hc; exact q00 _) (fun i h st c hc => by simp only [mem_singleton] at hc; subst hc; exact ⟨_, st, rfl⟩) fun i v y hv hy => ?_
  obtain ⟨t, rfl⟩ := hv
  haveI : y = .int (a + i * (-1)) := by
   simp only [Mine.T5, map_map, getElem?_map] at hy
   obtain ⟨j, hj, rfl⟩ := map_eq_some_iff.mp hy
   obtain ⟨_, hj⟩ := List.getElem?_eq_some_iff.mp hj
   simp at hj; subst hj
   show PV.int (a - (i : Nat)) = _
   congr 1; omega
  subst this
  exact .int _ _
 ·have e3 : a + ((0 : Nat) : Int) * (-1) = a := by simp
  have e4 : (((a - b).toNat : Int) - ((0 : Nat) : Int)) = Builtin.Range.rangeSize a b (-1) := by rw [q59]; omega
  show IsRangeIter _ _ _ _ _
  rw [e3, e4]; exact get?_push_size _ rfl
 intro c hc; simp only [mem_singleton] at hc; subst hc; exact ⟨(lv.kp k1).size, _, get?_push_size _ rfl, rfl⟩
end
section
variable {Γ : Cx} {τ n : Nat} {env : Env} {σ : St} {sc scope : Scope} {ns : List String} {α β : Type} {K : AF → St → Prop} {more : List Stmt}
theorem E.fmt {e : Expr} {k1 k2 : Nat} {p1 p2 fp pos : Pos} {a b x : List Nat} {a' b' : Str} (ea : a' = S a) (eb : b' = S b) (he : E Γ n env σ e (.pv (.str x))) (hz : a.length + x.length + b.length ≤ 16777216) :
  E Γ n env σ (.JoinedStr [.Constant (.str a') k1 p1, .FormattedValue e (-1) Option.none fp, .Constant (.str b') k2 p2] pos) (.pv (.str (a ++ x ++ b))) := ⟨.mk fun A E s φ H R ok lv eo Q k => by
 subst ea; subst eb
 refine wpAny_JoinedStr ?_
 haveI e1 : evalEach [.Constant (.str (S a)) k1 p1, .FormattedValue e (-1) Option.none fp, .Constant (.str (S b)) k2 p2] env = [eval (.Constant (.str (S a)) k1 p1) env, eval (.FormattedValue e (-1) Option.none fp) env, eval (.Constant (.str (S b)) k2 p2) env] := rfl
 rw [e1]
 haveI l0 : ∀ (u v : Str), (u ++ v).length = u.length + v.length := fun u v => by simp [Str.length, Str.cps_append]
 have l1 : (Str.empty ++ S a).length = a.length := by rw [l0, S_len]; simp [Str.length, Str.empty]
 refine q04 ⟨S a, _, rfl, by rw [l1]; simp only [sizeLine]; lia, ?_⟩
 refine wpAny_FormattedValue_plain (he.run.run A E { s with toks := s.toks + 1 } φ H R (ok.toks) lv eo _ fun V s1 e1 ok1 d => ?_)
 cases d using Den.s with
 | str t =>
  haveI hx : (⟨x.toArray⟩ : Str) = S x := rfl
  rw [hx]
  have l2 : (Str.empty ++ S a ++ S x).length = a.length + x.length := by rw [l0, l1, S_len]
  haveI l3 : (Str.empty ++ S a ++ S x ++ S b).length = a.length + x.length + b.length := by rw [l0, l2, S_len]
  haveI e5 : Str.empty ++ S a ++ S x ++ S b = ⟨(a ++ x ++ b).toArray⟩ := by
   show (⟨_⟩ : Str) = _
   simp [S, Str.empty, Str.cps_append]
  haveI fin : ∀ (tk : Nat) (t' : Tok), ∃ y t, Value.str (S x) t' = .str y t ∧ (Str.empty ++ S a ++ y).length ≤ sizeLine ∧ Joins (model Γ.prog Γ.w) A E [eval (.Constant (.str (S b)) k2 p2) env] (Str.empty ++ S a ++ y) (fun out s₁ => out.length ≤ sizeLine ∧ Q (.str out s₁.toks) { s₁ with toks := s₁.toks + 1 }) { s1 with toks := tk } := fun tk t' => by
   refine ⟨S x, t', rfl, by rw [l2]; simp only [sizeLine]; lia, ?_⟩
   refine q04 ⟨S b, _, rfl, by rw [l3]; simp only [sizeLine]; lia, by rw [l3]; simp only [sizeLine]; lia, ?_⟩
   rw [e5]
   exact k _ _ e1 ok1.toks (.str _ _)
  exact wpAny_formatField_str (fin _ _) (fin _ _) (by rw [S_len]; simp only [sizeLine]; lia)⟩
theorem Ex.obj {x : String} {f : Str} {xp p pos cpos : Pos} {rest : List (String × RV)} (b : BN Γ env sc f (.type "object")) (hx : x ∈ ns) (kr : Keep [x] σ.v rest) (k : ∀ a, K .nx ⟨(x, .pv (.obj a)) :: rest, σ.o⟩) (hs : swapsWith (.Call (.Name f p) [] [] cpos) (some (.Name (ofString x) xp)) pos.line env = pure false) :
  Ex Γ τ n env ns σ (exec (.Assign [.Name (ofString x) xp] (.Call (.Name f p) [] [] cpos) pos) env) K := .mk' fun A E s φ Mw Lo H R F τ0 Q q => by
 refine wpAny_Assign_Name ?_ hs
 refine wpAny_Call_Name_kw (F.ev R b.ev fun V s1 k1 F1 hV => ?_)
 subst hV
 refine PySem.callWith_type rfl (PySem.evalArgs_none ?_)
 refine qp7 ?_
 haveI F2 := F1.kp (s' := { s1 with heap := s1.heap.push { cls := .type "object", data := .plain } }) (Kp.push _ _) (F1.ok.W0 _)
 refine F2.storeName hx kr (r := .pv (.obj s1.heap.objs.size)) (.obj ?_ ⟨_, get?_push_size _ rfl, rfl⟩) fun s' F' g' => q .next s' .nx _ φ Lo (k _) F' ((Gr.of (k1.trans (Kp.push _ _))).trans g') trivial
 exact F1.live.size
theorem X.obj {x : String} {f : Str} {xp p pos cpos : Pos} {rest : List (String × RV)} (b : BN Γ env sc f (.type "object")) (hx : x ∈ ns) (kr : Keep [x] σ.v rest) (hs : swapsWith (.Call (.Name f p) [] [] cpos) (some (.Name (ofString x) xp)) pos.line env = pure false)
  (k : ∀ a, X Γ τ n env ns ⟨(x, .pv (.obj a)) :: rest, σ.o⟩ more K) : X Γ τ n env ns σ (.Assign [.Name (ofString x) xp] (.Call (.Name f p) [] [] cpos) pos :: more) K :=
 ⟨Ex.cons (Ex.obj b hx kr (fun a => (k a).run) hs)⟩
end
theorem FSpec.introC {Γ : Cx} {n : Nat} {K : Frag} {f : Addr} {fd : FuncData} {body : List Stmt} {ps ns : List String} {xs : List PV} {r : PV} {c : Addr} {cvs : Array Value} {t : Tok} {v : List (String × RV)} (KX : K.In Γ.hB) (e1 : (K.lookup f).map Obj.data = some (.func fd)) (hbody : fd.body = .stmts body)
  (hc : fd.code = .ref c) (e2 : (K.lookup c).map (fun o => (isTb o, o.data)) = some (false, .fields cvs)) (hc1 : cvs[1]? = some (.str fd.qualname t)) (C : FunOK fd.scope ps ns)
  (hbind : ∀ Vs : List Value, Vs.length = ps.length → bindArgs fd ⟨Vs, []⟩ = pure ((ps.map ofString).zip Vs)) (hlen : xs.length = ps.length)
  (hrest : fd.closure = [] ∧ fd.globals = mainGlobals ∧ fd.builtins = builtinsNs ∧ fd.scope.isCoroutine = false ∧ fd.scope.isGenerator = false) (hv : (pvSt (ps.zip xs)).v = v)
  (h : ∀ kf env, EnvS env fd.scope → CodeQ env fd → X (Γ.on kf) 0 n env ns ⟨v, []⟩ body fun af _ => af = .rt r) : FSpec Γ (n + 1) f xs r := by
 obtain ⟨o, ho, hd⟩ := map_eq_some_iff.mp e1
 obtain ⟨oc, hoc, hcd⟩ := map_eq_some_iff.mp e2
 subst hv
 exact FSpec.intro0 C (KX _ _ ho) hd hbody hrest.1 hrest.2.1 hrest.2.2.1 hc (KX _ _ hoc) (congrArg Prod.fst hcd) (congrArg Prod.snd hcd) hc1 hbind hlen hrest.2.2.2.1 hrest.2.2.2.2 fun kf env G q => (h kf env G q).run
theorem PatAt.at {h h' : Heap} {pat : Addr} (x : PatAt h pat) (k : ∀ b o, h.get? b = some o → isTb o = false → h'.get? b = some o) : PatAt h' pat := by
 obtain ⟨o, a1, t1, fl, tf, ct, ho, hc, hdn, hd, n, hct⟩ := x
 exact ⟨o, a1, t1, fl, tf, ct, k _ _ ho (by unfold isTb; rw [hc]; rfl), hc, hdn, hd, n, k _ _ hct rfl⟩
section
variable {Γ : Cx} {n : Nat} {env : Env} {σ : St} {sc : Scope}
theorem E.twin {P c pat : Addr} {es : List (Pos × Str)} {f x : String} {fp px apos lpos pos p1 p2 p3 p4 p5 p6 p7 p8 : Pos} {params : Arguments} {scope : Scope} {text : List Nat}
  (G : EnvS env sc) (hT : Γ.tabs = [(P, es)]) (he : (lpos, env.qual ++ "<lambda>") ∈ es) (hes : ∀ e ∈ es, e = (lpos, env.qual ++ "<lambda>") ∨ ((lpos.line : Int) == e.1.line && (lpos.col : Int) == e.1.col) = false)
  (hcode : env.code = .ref c) (C : CodeHd Γ.hB c P) (ba : BA Γ) (hpat : PatAt Γ.hB pat) (hg : Γ.mg (ofString f) = some (.ref pat)) (hk : sc.names.lookup (ofString f) = some .globalImplicit) (hfd : (ofString f == ("__debug__" : Str)) = false)
  (hm : (x, RV.pv (.str text)) ∈ σ.v) (hxd : (ofString x == ("__debug__" : Str)) = false) (hz : text.length ≤ 2 ^ 20) (hline : (apos.endLine == pos.line) = true) (hline2 : (p3.endLine == p5.line) = true)
  (hdef : defaultsOf params env = ([], [])) (hcl : closureFor scope env = pure []) (hsc : scope.names = [(ofString "_m", .local)]) (hsk : scope.kind = .function) (hco : scope.isCoroutine = false) (hgen : scope.isGenerator = false)
  (hbind : ∀ pm c' a, bindArgs (lamFn "<lambda>" (env.qual ++ "<lambda>") params (q36 p1 p2 p3 p4 p5 p6 p7 p8) scope pm c') ⟨[a], []⟩ = pure [(ofString "_m", a)]) :
  E Γ (n + 2) env σ (.Call (.Attribute (.Name (ofString f) fp) (ofString "sub") apos) [.Lambda params (q36 p1 p2 p3 p4 p5 p6 p7 p8) scope lpos, .Name (ofString x) px] [] pos) (.pv (.str (Q4 text))) := ⟨.mk fun A E s φ H R ok lv eo Q k => by
 refine wpAny_Call_method_lateS (by rfl) (by rfl) hline ?_
 refine (Ev.global G hk hg hfd).run A E s φ H R ok lv eo _ fun V s1 k1 ok1 hV => ?_
 subst hV
 haveI hp1 : PatAt s1.heap pat := hpat.at fun b o e t => ok1.base _ _ e t
 obtain ⟨op, a1, t1, fl, tf, ct, hop, hoc, hdn, hd, nn, hct⟩ := id hp1
 refine ⟨"re.Pattern", "re.Pattern.sub", qk2, slot_resub, qs1, ⟨op, hop, hoc⟩, fun a ea => by cases ea; exact ⟨op, hop, hdn⟩, ?_⟩
 refine Calls.callWith_builtin (by rfl) (Calls.evalArgs_plain ?_)
 show wpAny _ _ (spliced (backTo pos (starEach [.Lambda params (q36 p1 p2 p3 p4 p5 p6 p7 p8) scope lpos, .Name (ofString x) px] env))) _ _ _
 refine wpAny_items_cons (rest := [.Name (ofString x) px]) (e := .Lambda params (q36 p1 p2 p3 p4 p5 p6 p7 p8) scope lpos) ?_ (by rfl)
 refine z48 ok1 G hT he hes hcode C ba hdef hcl fun fo c' pm h2 tk2 k2 ok2 hnone hf2 hrec2 => ?_
 refine wpAny_items_cons (rest := []) (e := .Name (ofString x) px) ?_ (by rfl)
 obtain ⟨V, at0, d⟩ := ((eo.kp k1).kp k2).vars _ _ hm
 refine wpAny_Name (q02 G.g.kind at0 (wpAny_items_nil ?_)) hxd
 haveI d' : Den H h2 V (.str text) := d
 cases d' using Den.s with
 | str u =>
  have hp2 : PatAt h2 pat := hpat.at fun b o e t => ok2.base _ _ e t
  refine qu9 (s := { s1 with heap := h2, toks := tk2 }) (n := n + 1) ok2 R hp2 hf2 rfl hz (fun h3 L hL hLn hk3 => ?_) fun h3 tk3 v hk3 => ?_
  ·intro s' E' Q' fo' i cc hks ok' hmo hcc hQ
   have hfL : fo ≠ L := fun q => by rw [q] at hf2; rw [show h2.get? L = Option.none from hLn] at hf2; exact absurd hf2.symm (some_ne_none _)
   refine z24 (n := n) ok' R.in1 hline2 (hks _ _ hfL (hk3 _ _ hf2)) ?_ hsc hsk hco hgen (hbind pm c') hmo hcc hQ
   obtain ⟨c2, o2, vs2, t2, b1, b2, b3, b4⟩ := hrec2
   haveI hcL : c2 ≠ L := fun q => by rw [q] at b2; rw [show h2.get? L = Option.none from hLn] at b2; cases b2
   exact ⟨c2, o2, vs2, t2, b1, hks _ _ hcL (hk3 _ _ b2), b3, b4⟩
  refine k _ _ ((k1.trans k2).trans fun b o e t => .of (hk3 _ _ e)) (ok2.keeps hk3) (.str _ _)⟩
end
theorem qr1 (y : List Nat) : (R7 y).length ≤ 9 * y.length := by
 haveI h1 := qa9 45 [92, 45] (W2 92 [92, 92] y)
 haveI h2 := qa9 92 [92, 92] y
 unfold R7
 simp only [length_cons, length_nil] at h1 h2
 lia
section
variable {Γ : Cx} {n : Nat} {env : Env} {σ : St} {sc : Scope}
theorem qs9 {xs : List (List Nat)} {k : Nat} {f : List Nat → List Nat} (h : ∀ y ∈ xs, (f y).length ≤ k) : ((xs.map f).map List.length).sum ≤ xs.length * k := by
 induction xs with
 | nil => simp
 | cons y ys ih =>
  simp only [map_cons, sum_cons, length_cons, Nat.succ_mul]
  have := h y (.head _)
  have := ih fun z m => h z (.tail _ m)
  lia
theorem E.parts {P c : Addr} {es : List (Pos × Str)} {k0 k1 k2 k3 k4 : Nat} {p0 px gpos apos pos px' p1 p2 p3 p4 a1 a2 q1 q2 pl : Pos} {x l : String} {scope : Scope} {xs : List (List Nat)} {s0 s1 s2 s3 s4 : Str}
  (G : EnvS env sc) (hT : Γ.tabs = [(P, es)]) (he : (gpos, env.qual ++ "<genexpr>") ∈ es) (hes : ∀ e ∈ es, e = (gpos, env.qual ++ "<genexpr>") ∨ ((gpos.line : Int) == e.1.line && (gpos.col : Int) == e.1.col) = false)
  (hcode : env.code = .ref c) (C : CodeHd Γ.hB c P) (ba : BA Γ) (hline : (apos.endLine == pos.line) = true) (hl1 : (a1.endLine == q1.line) = true) (hl2 : (a2.endLine == q2.line) = true)
  (e0 : s0 = S [45]) (e1 : s1 = S [92]) (e2 : s2 = S [92, 92]) (e3 : s3 = S [45]) (e4 : s4 = S [92, 45])
  (hco : scope.isCoroutine = false) (hclos : closureFor scope env = pure []) (hcell : ∀ y ∈ scope.names, y.2 ≠ .cell) (h0 : scope.names.lookup (".0" : Str) = some NameKind.local) (hx : scope.names.lookup (ofString x) = some .local) (hkind : scope.kind = .function)
  (hd : (ofString x == ("__debug__" : Str)) = false) (hm : E Γ n env σ (.Name (ofString l) pl) (.pv (.list (xs.map .str)))) (hz1 : xs.length ≤ 2 ^ 10) (hz2 : ∀ y ∈ xs, y.length ≤ 2 ^ 10) :
  E Γ n env σ (.Call (.Attribute (.Constant (.str s0) k0 p0) (ofString "join") apos) [.GeneratorExp (.Call (.Attribute (.Call (.Attribute (.Name (ofString x) px) (ofString "replace") a1) [.Constant (.str s1) k1 p1, .Constant (.str s2) k2 p2] [] q1) (ofString "replace") a2) [.Constant (.str s3) k3 p3, .Constant (.str s4) k4 p4] [] q2)
   [⟨.Name (ofString x) px', .Name (ofString l) pl, [], 0⟩] scope gpos] [] pos) (.pv (.str (jn [45] (xs.map R7)))) := by
 refine ⟨Ev.joinGen G hT he hes hcode C ba e0 hline hco hclos hcell h0 hx hkind (fun v => by rfl) hm.run (by simp only [sizeLine]; lia) ?_ (fun A' E' cenv y t s₂ m₂ Q hy hA hsc hn hmx ht k => ?_) (fun env => by rfl)⟩
 ·have := qs9 (xs := xs) (k := 9 * 2 ^ 10) (f := R7) fun y hy => Nat.le_trans (qr1 y) (Nat.mul_le_mul_left _ (hz2 y hy))
  haveI h3 : xs.length * (9 * 2 ^ 10) ≤ 2 ^ 10 * (9 * 2 ^ 10) := Nat.mul_le_mul_right _ hz1
  simp only [length_cons, length_nil]
  lia
 exact za6 e1 e2 e3 e4 hl1 hl2 (by rw [hsc]; exact hkind) (by rw [hsc]; exact hx) hd hn hmx ht (Nat.le_trans (hz2 y hy) (by decide)) k
end
end Mine
namespace Mine
open Builtin Builtin.Str StrLaws
theorem S_at (x : List Nat) (i : Nat) : (S x).cps.toList[i]? = x[i]? := by simp [S]
theorem z00 (x : List Nat) (c : Nat) : (!(occurrences (S x) (S [c]) 0 (S x).length 1).isEmpty) = x.contains c := by
 rw [Bool.eq_iff_iff, found_iff]
 haveI hy : S [c] = (⟨#[c]⟩ : Str) := rfl
 rw [hy, contains_iff_mem]
 constructor
 ·rintro ⟨i, h⟩
  have := (subAt_one (S x) c i).mp h
  rw [S_at] at this
  exact mem_of_getElem? this
 intro h
 obtain ⟨i, hi, he⟩ := List.getElem_of_mem h
 refine ⟨i, (subAt_one (S x) c i).mpr ?_⟩
 rw [S_at, List.getElem?_eq_getElem hi, he]
theorem z97 (x : List Nat) (c i j : Nat) (hj : j ≤ x.length) :
  (fnd x [c] i j = -1 ∧ ∀ v, i ≤ v → v < j → x[v]? ≠ some c) ∨
  ∃ k : Nat, fnd x [c] i j = (k : Int) ∧ i ≤ k ∧ k < j ∧ x[k]? = some c ∧ ∀ v, i ≤ v → v < k → x[v]? ≠ some c := by
 haveI hx : (S x).length = x.length := S_len x
 have f1 : ∀ k : Nat, fromIndex (S x).length (k : Int) = k := fun k => by
  unfold fromIndex
  rw [if_neg (by lia)]
  lia
 haveI f2 : min (fromIndex (S x).length (j : Int)) (S x).length = j := by rw [f1, hx]; lia
 have at1 : ∀ v : Nat, StrLaws.At (S x) (S [c]) j v ↔ v < j ∧ x[v]? = some c := fun v => by
  unfold StrLaws.At
  haveI hy : (S [c]).length = 1 := rfl
  rw [hy]
  constructor
  ·rintro ⟨h1, h2⟩
   have := (subAt_one (S x) c v).mp ⟨by rw [hx]; show v + 1 ≤ _; lia, h2⟩
   rw [S_at] at this
   exact ⟨by lia, this⟩
  rintro ⟨h1, h2⟩
  have := (subAt_one (S x) c v).mpr (by rw [S_at]; exact h2)
  exact ⟨by lia, this.2⟩
 unfold fnd fndS
 rw [f1, f2, occ_eq]
 rcases occ_first (S x) (S [c]) j 1 (Nat.le_refl 1) (List.range' i (j + 1 - i)) i (fun a ha => (mem_range'_1.mp ha).1) with ⟨h0, hn⟩ | ⟨pre, a, post, e, h0, ha, hn⟩
 ·rw [h0]
  refine .inl ⟨rfl, fun v h1 h2 he => hn v (by rw [mem_range'_1]; lia) ((at1 v).mpr ⟨h2, he⟩)⟩
 haveI hs := range'_split_from e
 generalize (forIn (List.range' i (j + 1 - i)) ((#[] : Array Nat), i) (occBody (S x) (S [c]) j 1)).run.fst = arr at h0
 have h1 : arr.toList[0]? = some a := by simpa using h0
 cases hL : arr.toList with
 | nil => rw [hL] at h1; nomatch h1
 | cons b t =>
  rw [hL] at h1
  simp at h1
  subst h1
  refine .inr ⟨b, rfl, hs.1, ((at1 b).mp ha).1, ((at1 b).mp ha).2, fun v hv1 hv2 he => hn v (hs.2 v hv1 hv2) ((at1 v).mpr ⟨?_, he⟩)⟩
  have := ((at1 b).mp ha).1
  lia
section
variable {Γ : Cx} {n : Nat} {env : Env} {σ : St}
theorem Cmp.U1 {c : Nat} {x : List Nat} : Cmp Γ n .NotIn (PR (.pv (.str [c]))) (PR (.pv (.str x))) (!x.contains c) := fun A E s φ H V W R ok d1 d2 Q h => by
 cases d1 using Den.s; cases d2 using Den.s
 refine PyProof.Rows.notIn_str ?_
 have := z00 x c
 rw [show (⟨x.toArray⟩ : Str) = S x from rfl, show (⟨[c].toArray⟩ : Str) = S [c] from rfl, this]
 exact h
theorem B.notinC {l r : Expr} {pos : Pos} {c : Nat} {x : List Nat} (ha : E Γ n env σ l (.pv (.str [c]))) (hb : E Γ n env σ r (.pv (.str x))) (hm : behindInMarks .NotIn r = false) : B Γ n env σ (.Compare l [.NotIn] [r] pos) (!x.contains c) := ⟨Evb.cmp (mR _) Cmp.U1 ha.run hb.run hm⟩
end
end Mine
namespace Mine
noncomputable def spc : List Nat := [40, 41, 91, 93, 123, 125, 63, 42, 43, 45, 124, 94, 36, 92, 46, 38, 126, 35, 32, 9, 10, 13, 11, 12]
noncomputable def W5 (c : Nat) : List Nat := if spc.contains c then [92, c] else [c]
noncomputable def entOf (p : Nat × Tok × Tok) : DictEntry := { hash := (p.1 : Int), key := .int (p.1 : Int) p.2.1, val := .str (S [92, p.1]) p.2.2 }
theorem z07 {prog : Program} {w : World} {l : List (Nat × Tok × Tok)} (hl : ∀ p ∈ l, hashInt (p.1 : Int) = (p.1 : Int)) : KeysOf (PySem.intKind prog w) (l.map entOf).toArray := fun e he => by
 obtain ⟨p, hp, rfl⟩ := mem_map.mp (List.mem_toArray.mp he)
 exact ⟨(p.1 : Int), by show ((p.1 : Int) == (p.1 : Int)) = true; simp, (hl p hp).symm⟩
theorem z08 {l : List (Nat × Tok × Tok)} {c : Nat} (hl : l.map (·.1) = spc) : TrAt (fun k => findBy Value.isInt (l.map entOf).toArray k) c (W5 c) := by
 haveI key : ∀ l : List (Nat × Tok × Tok), (c ∈ l.map (·.1) ∧ ∃ u, findBy Value.isInt (l.map entOf).toArray (c : Int) = some (.str (S [92, c]) u)) ∨ (c ∉ l.map (·.1) ∧ findBy Value.isInt (l.map entOf).toArray (c : Int) = none) := by
  intro l
  induction l with
  | nil => exact .inr ⟨by simp, rfl⟩
  | cons p l ih =>
   have e1 : findBy Value.isInt ((p :: l).map entOf).toArray (c : Int) = if (p.1 : Int) == (c : Int) then some (.str (S [92, p.1]) p.2.2) else findBy Value.isInt (l.map entOf).toArray (c : Int) := by
    unfold findBy
    simp only [List.find?_toArray, map_cons, List.find?_cons]
    show (match ((p.1 : Int) == (c : Int)) with | true => some (entOf p) | false => _).map _ = _
    cases ((p.1 : Int) == (c : Int)) <;> rfl
   rw [e1]
   by_cases h : p.1 = c
   ·subst h
    exact .inl ⟨by simp, _, by rw [if_pos (by simp)]⟩
   rw [if_neg (by simp; lia)]
   rcases ih with ⟨a, b⟩ | ⟨a, b⟩
   ·exact .inl ⟨by simp [a], b⟩
   exact .inr ⟨by simp only [map_cons, mem_cons, not_or]; exact ⟨fun e => h e.symm, a⟩, b⟩
 unfold TrAt W5
 rcases key l with ⟨a, u, b⟩ | ⟨a, b⟩
 ·rw [hl] at a
  rw [if_pos (contains_iff_mem.mpr a)]
  exact .inl ⟨u, b, rfl⟩
 rw [hl] at a
 rw [if_neg (fun q => a (contains_iff_mem.mp q))]
 exact .inr ⟨b, rfl⟩
theorem z60 {prog : Program} {w : World} {h : Heap} {d : Addr} {o : Obj} {l : List (Nat × Tok × Tok)} {k : Nat} (ho : h.get? d = some o) (hx : o.ExactDict) (hd : o.data = .dict (l.map entOf).toArray k) (hl : ∀ p ∈ l, hashInt (p.1 : Int) = (p.1 : Int)) :
  h.MapOf (PySem.intKind prog w) d (fun k => findBy Value.isInt (l.map entOf).toArray k) := ⟨o, _, _, ho, hx, hd, z07 hl, fun k => rfl⟩
noncomputable abbrev Part := Option (List Nat)
noncomputable def PTv (a : Nat) : Part → PV
 | none => .obj a
 | some s => .str s
noncomputable def Q5 (r : List Nat) : Nat := if r[0]? = some 33 then 1 else 0
noncomputable def Q3 (r : List Nat) : Nat := Q5 r + if r[Q5 r]? = some 93 then 1 else 0
noncomputable def Q1 (r : List Nat) : Nat := Q3 r + ((r.drop (Q3 r)).takeWhile (· != 93)).length
noncomputable def Q8 (m : Nat) (cur : List Nat) : Option Nat := ((cur.drop m).findIdx? (· == 45)).map (· + m)
noncomputable def Q6 : Nat → Nat → List Nat → List (List Nat) → Option (List (List Nat))
 | 0, _, _, _ => none
 | k + 1, m, cur, acc => match Q8 m cur with
  | some q => Q6 k 2 (cur.drop (q + 1)) (acc ++ [cur.take q])
  | none => if cur = [] then (match acc.getLast? with
    | some l => some (acc.dropLast ++ [l ++ [45]])
    | none => none) else some (acc ++ [cur])
noncomputable def W3 (cs : List (List Nat)) (k : Nat) : Option (List (List Nat)) :=
 match cs[k - 1]?, cs[k]? with
 | some a, some b => match a.getLast?, b.head? with
  | some x, some y => if y < x then some ((cs.set (k - 1) (a.dropLast ++ b.tail)).eraseIdx k) else some cs
  | _, _ => none
 | _, _ => none
noncomputable def Q7 : List Nat → List (List Nat) → Option (List (List Nat))
 | [], cs => some cs
 | k :: ks, cs => (W3 cs k).bind (Q7 ks)
noncomputable def downs (n : Nat) : List Nat := (List.range (n - 1)).map fun i => n - 1 - i
noncomputable def R5 (t : List Nat) : Option (List Nat) :=
 if t.contains 45 then (Q6 (t.length + 1) (if t[0]? = some 33 then 2 else 1) t []).bind fun cs => (Q7 (downs cs.length) cs).map fun ms => jn [45] (ms.map R7)
 else some (W2 92 [92, 92] t)
noncomputable def W8 : List Nat → List Nat
 | [] => []
 | c :: r => if c = 33 then 94 :: r else if c = 94 ∨ c = 91 then 92 :: c :: r else c :: r
noncomputable def W7 (t : List Nat) : List Nat := if t = [] then [40, 63, 33, 41] else if t = [33] then [46] else [91] ++ W8 t ++ [93]
noncomputable def trR : Nat → List Nat → List Part → Option (List Part)
 | 0, _, _ => none
 | k + 1, r, res => match r with
  | [] => some res
  | c :: r =>
   if c = 42 then trR k r (if res.getLast? = some none then res else res ++ [none])
   else if c = 63 then trR k r (res ++ [some [46]])
   else if c = 91 then
    if Q1 r < r.length then (R5 (r.take (Q1 r))).bind fun t => trR k (r.drop (Q1 r + 1)) (res ++ [some (W7 (Q4 t))])
    else trR k r (res ++ [some [92, 91]])
   else trR k r (res ++ [some (W5 c)])
theorem qb3 (n z : Nat) : clipAt n (z : Int) = min z n := by
 unfold clipAt
 rw [if_neg (Int.not_lt.mpr (natCast_nonneg z))]
 rcases Nat.le_total z n with h | h
 ·rw [Nat.min_eq_left h, Int.min_eq_left (ofNat_le.mpr h), Int.max_eq_right (natCast_nonneg _)]; rfl
 rw [Nat.min_eq_right h, Int.min_eq_right (ofNat_le.mpr h), Int.max_eq_right (natCast_nonneg _)]; rfl
theorem qi3 (n k : Nat) : clipAt n (-((k + 1 : Nat) : Int)) = n - (k + 1) := by
 unfold clipAt
 rw [if_pos (Int.neg_neg_of_pos (Int.natCast_pos.mpr (Nat.succ_pos k))), Int.add_comm, ← Int.sub_eq_add_neg, Int.min_eq_left (Int.sub_le_self _ (natCast_nonneg _))]
 rcases Int.le_total 0 ((n : Int) - ((k + 1 : Nat) : Int)) with h | h
 ·rw [Int.max_eq_right h, toNat_sub]
 rw [Int.max_eq_left h, Nat.sub_eq_zero_of_le (ofNat_le.mp (Int.le_of_sub_nonpos h))]; rfl
theorem neg1 (n : Nat) : ((-1 : Int) + (n : Int)).toNat = n - 1 := by rw [Int.add_comm]; exact toNat_sub n 1
theorem q54 {α : Type} (a b : Nat) (xs : List α) : cut (some (a : Int)) (some (b : Int)) xs = (xs.take b).drop a := by
 unfold cut lowAt q61
 show (xs.drop (clipAt xs.length a)).take (clipAt xs.length b - clipAt xs.length a) = _
 rw [qb3, qb3, drop_take]
 by_cases h : a ≤ xs.length
 ·rw [Nat.min_eq_left h]
  by_cases h2 : b ≤ xs.length
  ·rw [Nat.min_eq_left h2]
  rw [Nat.min_eq_right (by lia)]
  rw [take_of_length_le (by simp), take_of_length_le (by simp; lia)]
 rw [drop_of_length_le (l := xs) (i := min a xs.length) (by lia), drop_of_length_le (l := xs) (i := a) (by lia)]; simp
theorem qr6 {α : Type} (xs : List α) : cut none (some (-1)) xs = xs.dropLast := by
 unfold cut lowAt q61
 show (xs.drop 0).take (clipAt xs.length (-1) - 0) = _
 haveI : clipAt xs.length (-1) = xs.length - 1 := qi3 _ 0
 rw [this, drop_zero, Nat.sub_zero, List.dropLast_eq_take]
theorem qw1 {pat : List Nat} {y J v : Nat} (hv : y ≤ v) (hJ : v < J) : ((pat.take J).drop y)[v - y]? = pat[v]? := by
 rw [getElem?_drop, List.getElem?_take]
 rw [if_pos (by lia)]
 congr 1; lia
theorem z15 {m : Nat} {cur : List Nat} (h : ∀ v, m ≤ v → v < cur.length → cur[v]? ≠ some 45) : Q8 m cur = none := by
 unfold Q8
 have : (cur.drop m).findIdx? (· == 45) = none := by
  rw [List.findIdx?_eq_none_iff]
  intro x hx
  obtain ⟨i, hi, rfl⟩ := List.getElem_of_mem hx
  rw [getElem_drop]
  have hi' : m + i < cur.length := by simp at hi; lia
  have := h (m + i) (by lia) hi'
  rw [List.getElem?_eq_getElem hi'] at this
  simpa using this
 rw [this]; rfl
theorem z14 {m q : Nat} {cur : List Nat} (hm : m ≤ q) (hq : cur[q]? = some 45) (h : ∀ v, m ≤ v → v < q → cur[v]? ≠ some 45) : Q8 m cur = some q := by
 unfold Q8
 have hql : q < cur.length := (List.getElem?_eq_some_iff.mp hq).1
 haveI : (cur.drop m).findIdx? (· == 45) = some (q - m) := by
  rw [List.findIdx?_eq_some_iff_getElem]
  refine ⟨by simp; lia, ?_, fun j hj => ?_⟩
  ·rw [getElem_drop]
   haveI : cur[m + (q - m)]? = some 45 := by rw [show m + (q - m) = q by lia]; exact hq
   rw [List.getElem?_eq_getElem (by lia)] at this
   simpa using this
  rw [getElem_drop]
  haveI h2 := h (m + j) (by lia) (by lia)
  rw [List.getElem?_eq_getElem (by lia)] at h2
  simpa using h2
 rw [this]
 show some (q - m + m) = _
 rw [show q - m + m = q by lia]
theorem z61 {pat : List Nat} {y m J : Nat} (hy : y ≤ J) (hJ : J ≤ pat.length) :
  (fnd pat [45] ((y + m : Nat) : Int) J = -1 ∧ Q8 m ((pat.take J).drop y) = none) ∨
  ∃ q, fnd pat [45] ((y + m : Nat) : Int) J = ((y + q : Nat) : Int) ∧ m ≤ q ∧ y + q < J ∧ Q8 m ((pat.take J).drop y) = some q := by
 have hl : ((pat.take J).drop y).length = J - y := by simp; lia
 rcases z97 pat 45 (y + m) J hJ with ⟨h1, h2⟩ | ⟨k, h1, h2, h3, h4, h5⟩
 ·refine .inl ⟨h1, z15 fun v hv hv2 => ?_⟩
  rw [hl] at hv2
  have := h2 (y + v) (by lia) (by lia)
  rw [← qw1 (pat := pat) (y := y) (J := J) (by lia) (by lia)] at this
  rwa [show y + v - y = v by lia] at this
 refine .inr ⟨k - y, by rw [h1, show y + (k - y) = k by lia], by lia, by lia, z14 (by lia) ?_ fun v hv hv2 => ?_⟩
 ·rw [qw1 (by lia) h3]; exact h4
 have := h5 (y + v) (by lia) (by lia)
 rw [← qw1 (pat := pat) (y := y) (J := J) (by lia) (by lia)] at this
 rwa [show y + v - y = v by lia] at this
noncomputable def tot (cs : List (List Nat)) : Nat := (cs.map List.length).sum + cs.length
theorem q38 (a b : List (List Nat)) : tot (a ++ b) = tot a + tot b := by unfold tot; rw [map_append, sum_append, length_append]; lia
theorem q37 (a : List Nat) : tot [a] = a.length + 1 := by simp [tot]
theorem q91 (cs : List (List Nat)) : cs.length ≤ tot cs := le_add_left ..
theorem qg3 {cs : List (List Nat)} {y : List Nat} (h : y ∈ cs) : y.length < tot cs := by
 induction cs with
 | nil => cases h
 | cons a cs ih =>
  have e : tot (a :: cs) = a.length + 1 + tot cs := by show tot ([a] ++ cs) = _; rw [q38, q37]
  rcases mem_cons.mp h with rfl | m
  ·lia
  have := ih m; lia
theorem qu1 {cs : List (List Nat)} {l : List Nat} (h : cs.getLast? = some l) : cs = cs.dropLast ++ [l] := by
 cases cs with
 | nil => exact absurd h.symm (some_ne_none _)
 | cons a r =>
  have := List.dropLast_concat_getLast (l := a :: r) (by simp)
  rw [List.getLast?_eq_some_getLast (by simp)] at h
  rw [← Option.some.inj h]; exact this.symm
theorem z36 {α : Type} {xs : List α} {v : α} (h : xs ≠ []) : xs.set (xs.length - 1) v = xs.dropLast ++ [v] := by
 have := List.dropLast_concat_getLast h
 haveI hl : xs.dropLast.length = xs.length - 1 := List.length_dropLast
 calc xs.set (xs.length - 1) v = (xs.dropLast ++ [xs.getLast h]).set (xs.length - 1) v := by rw [this]
  _ = _ := by rw [List.set_append_right _ _ (by lia), hl, sub_self]; rfl
theorem qc8 {cs c : List (List Nat)} {k : Nat} (h : W3 cs k = some c) : ∃ a b x y, cs[k - 1]? = some a ∧ cs[k]? = some b ∧ a.getLast? = some x ∧ b.head? = some y ∧ c = (if y < x then (cs.set (k - 1) (a.dropLast ++ b.tail)).eraseIdx k else cs) := by
 unfold W3 at h
 cases h1 : cs[k - 1]? with
 | none => rw [h1] at h; exact absurd h.symm (some_ne_none _)
 | some a =>
  cases h2 : cs[k]? with
  | none => rw [h1, h2] at h; exact absurd h.symm (some_ne_none _)
  | some b =>
   rw [h1, h2] at h
   cases h3 : a.getLast? with
   | none => simp [h3] at h
   | some x =>
    cases h4 : b.head? with
    | none => simp [h3, h4] at h
    | some y =>
     simp only [h3, h4] at h
     refine ⟨a, b, x, y, rfl, rfl, h3, h4, ?_⟩
     split at h <;> rename_i q <;> simp only [q, if_true, if_false] <;> exact (Option.some.inj h).symm
theorem qv7 {cs : List (List Nat)} {k : Nat} {b : List Nat} (h : cs[k]? = some b) : tot cs = tot (cs.eraseIdx k) + b.length + 1 := by
 induction cs generalizing k with
 | nil => simp at h
 | cons a cs ih =>
  have e : ∀ l : List (List Nat), tot (a :: l) = a.length + 1 + tot l := fun l => by show tot ([a] ++ l) = _; rw [q38, q37]
  cases k with
  | zero => cases h; rw [e]; simp; lia
  | succ k =>
   have := ih (k := k) (by simpa using h)
   rw [e, List.eraseIdx_cons_succ, e]; lia
theorem z78 {cs : List (List Nat)} {k : Nat} {a v : List Nat} (h : cs[k]? = some a) : tot (cs.set k v) + a.length = tot cs + v.length := by
 induction cs generalizing k with
 | nil => simp at h
 | cons b cs ih =>
  have e : ∀ (b : List Nat) (l : List (List Nat)), tot (b :: l) = b.length + 1 + tot l := fun b l => by show tot ([b] ++ l) = _; rw [q38, q37]
  cases k with
  | zero => cases h; rw [List.set_cons_zero, e, e]; lia
  | succ k =>
   have := ih (k := k) (by simpa using h)
   rw [List.set_cons_succ, e, e]; lia
theorem qf4 {cs c : List (List Nat)} {k : Nat} (hk : 1 ≤ k) (h : W3 cs k = some c) : tot c ≤ tot cs := by
 obtain ⟨a, b, x, y, h1, h2, h3, h4, rfl⟩ := qc8 h
 split
 ·haveI e1 : (cs.set (k - 1) (a.dropLast ++ b.tail))[k]? = some b := by rw [List.getElem?_set_ne (by lia)]; exact h2
  haveI t1 := qv7 e1
  haveI t2 := z78 (v := a.dropLast ++ b.tail) h1
  rw [length_append, List.length_dropLast, List.length_tail, t1] at t2
  refine Nat.le_of_add_le_add_right (b := b.length + 1 + a.length) ?_
  rw [← add_assoc, ← add_assoc, t2]
  exact Nat.add_le_add_left (Nat.le_trans (Nat.add_le_add (sub_le a.length 1) (sub_le b.length 1)) (by rw [Nat.add_comm a.length]; exact Nat.add_le_add_right (le_succ _) _)) _
 exact Nat.le_refl _
theorem qr4 {n i k : Nat} (h : (downs n)[i]? = some k) : 1 ≤ k ∧ k < n := by
 unfold downs at h
 rw [getElem?_map] at h
 obtain ⟨j, hj, rfl⟩ := map_eq_some_iff.mp h
 have q := mem_range.mp (mem_of_getElem? hj)
 exact ⟨Nat.sub_pos_of_lt q, lt_of_le_of_lt (sub_le ..) (Nat.sub_one_lt_of_lt (Nat.lt_of_lt_of_le q (sub_le ..)))⟩
theorem qt5 (n : Nat) : T5 ((n : Int) - 1) 0 = (downs n).map fun k : Nat => (k : Int) := by
 unfold T5 downs
 rw [map_map, show ((n : Int) - 1 - 0).toNat = n - 1 from by rw [Int.sub_zero]; exact toNat_sub n 1]
 refine map_congr_left fun i hi => ?_
 have := mem_range.mp hi
 show (n : Int) - 1 - (i : Int) = ((n - 1 - i : Nat) : Int)
 rw [Int.natCast_sub (Nat.le_of_lt this), Int.natCast_sub (Nat.le_trans (Nat.succ_le_of_lt (lt_of_le_of_lt (zero_le i) this)) (sub_le ..))]; rfl
theorem z62 (r : List Nat) : Q1 r ≤ r.length := by
 have h1 : Q5 r ≤ r.length := by
  unfold Q5
  split
  ·rename_i h; have := (List.getElem?_eq_some_iff.mp h).1; lia
  lia
 have h2 : Q3 r ≤ r.length := by
  unfold Q3
  split
  ·rename_i h; have := (List.getElem?_eq_some_iff.mp h).1; lia
  lia
 unfold Q1
 have := (List.takeWhile_sublist (l := r.drop (Q3 r)) (· != 93)).length_le
 rw [length_drop] at this
 lia
theorem qx0 {pat : List Nat} {j : Nat} (h : j < pat.length ∧ pat[j]? ≠ some 93) : j + ((pat.drop j).takeWhile (· != 93)).length = (j + 1) + ((pat.drop (j + 1)).takeWhile (· != 93)).length := by
 rw [drop_eq_getElem_cons h.1, takeWhile_cons]
 haveI : (pat[j] != 93) = true := by
  have := h.2
  rw [List.getElem?_eq_getElem h.1] at this
  simpa using this
 rw [this]
 simp only [if_true, length_cons]
 lia
theorem qw9 {pat : List Nat} {j : Nat} (h : ¬ (j < pat.length ∧ pat[j]? ≠ some 93)) : j + ((pat.drop j).takeWhile (· != 93)).length = j := by
 by_cases hj : j < pat.length
 ·haveI h93 : pat[j]? = some 93 := Classical.byContradiction fun e => h ⟨hj, e⟩
  rw [drop_eq_getElem_cons hj, takeWhile_cons]
  rw [List.getElem?_eq_getElem hj] at h93
  rw [Option.some.inj h93]
  simp
 rw [drop_of_length_le (by lia)]; simp
theorem qw2 (cs : List (List Nat)) (k : Nat) (v : List Nat) : (cs.map PV.str).set k (.str v) = (cs.set k v).map PV.str := by rw [List.map_set]
theorem qw3 (cs : List (List Nat)) (k : Nat) : (cs.map PV.str).eraseIdx k = (cs.eraseIdx k).map PV.str := by
 induction cs generalizing k with
 | nil => rfl
 | cons a cs ih => cases k with
  | zero => rfl
  | succ k => simp [ih]
section
variable {Γ : Cx} {n : Nat} {env : Env} {σ : St}
theorem E.T8 {l r : Expr} {pos : Pos} {a b c : Int} (ha : E Γ n env σ l (.pv (.int a))) (hb : E Γ n env σ r (.pv (.int b))) (hc : a + b = c) : E Γ n env σ (.BinOp l .Add r pos) (.pv (.int c)) := hc ▸ E.add ha hb
theorem E.subE {l r : Expr} {pos : Pos} {a b c : Int} (ha : E Γ n env σ l (.pv (.int a))) (hb : E Γ n env σ r (.pv (.int b))) (hc : a - b = c) : E Γ n env σ (.BinOp l .Sub r pos) (.pv (.int c)) := hc ▸ E.sub ha hb
theorem E.appA {sc : Scope} {x : String} {p pos : Pos} {k : Nat} {xs : List PV} (G : EnvS env sc) (hm : (x, RV.ptr k) ∈ σ.v) (ho : (k, xs) ∈ σ.o) (hd : (ofString x == ("__debug__" : Str)) = false)
  (he : eval (.Attribute (.Name (ofString x) p) (ofString "append") pos) env = (do
   let o ← eval (.Name (ofString x) p) env
   standAt pos.atName
   let r ← holding [o] (getAttr o (ofString "append") true)
   letTemporaryGo (.Name (ofString x) p) o r
   pure r)) : E Γ n env σ (.Attribute (.Name (ofString x) p) (ofString "append") pos) (.app k) := ⟨Ev.appAttr G.g hm ho hd he⟩
theorem B.atEq {lt1 lt2 : Pos} {ej en e1 ej' er : Expr} {bpos sp : Pos} {pat : List Nat} {j : Nat} {c : Nat} (h1 : E Γ n env σ ej (.pv (.int j))) (h2 : E Γ n env σ en (.pv (.int pat.length))) (h3 : E Γ n env σ e1 (.pv (.str pat))) (h4 : E Γ n env σ ej' (.pv (.int j))) (h5 : E Γ n env σ er (.pv (.str [c]))) (hz : pat.length ≤ 2 ^ 20)
  (hm1 : behindInMarks .Lt en = false) (hm2 : behindInMarks .Eq er = false) (hsub : ∀ o i, subscripted ej' false o i = operate [o, i] (getItem o i)) :
  B Γ n env σ (.BoolOp .And [.Compare ej [.Lt] [en] lt1, .Compare (.Subscript e1 ej' sp) [.Eq] [er] lt2] bpos) (decide (pat[j]? = some c)) := by
 by_cases h : j < pat.length
 ·have hg : pat[j]? = some pat[j] := List.getElem?_eq_getElem h
  have hb := B.and (pos := bpos) (B.lti (pos := lt1) h1 h2 hm1) fun _ => B.and (pos := bpos) (B.eqs (pos := lt2) (a := [pat[j]]) (E.items (pos := sp) h3 h4 (by lia) (sat hg) hsub) h5 hm2) fun _ => B.Y8
  have e : (decide ((j : Int) < (pat.length : Int)) && (([pat[j]] == [c]) && true)) = decide (pat[j]? = some c) := by
   rw [hg]
   have : decide ((j : Int) < (pat.length : Int)) = true := decide_eq_true (by lia)
   rw [this, Bool.true_and, Bool.and_true]
   by_cases q : pat[j] = c
   ·rw [q]; simp
   simp [q]
  exact e ▸ hb
 haveI hg : pat[j]? = Option.none := getElem?_eq_none (by lia)
 haveI hb := B.and (pos := bpos) (c := false) (rest := [.Compare (.Subscript e1 ej' sp) [.Eq] [er] lt2]) (B.lti (pos := lt1) h1 h2 hm1) fun e => absurd e (by rw [decide_eq_false (by lia)]; decide)
 haveI e : (decide ((j : Int) < (pat.length : Int)) && false) = decide (pat[j]? = some c) := by rw [hg]; simp
 exact e ▸ hb
theorem B.atNe {lt1 lt2 : Pos} {ej en e1 ej' er : Expr} {bpos sp : Pos} {pat : List Nat} {j : Nat} {c : Nat} (h1 : E Γ n env σ ej (.pv (.int j))) (h2 : E Γ n env σ en (.pv (.int pat.length))) (h3 : E Γ n env σ e1 (.pv (.str pat))) (h4 : E Γ n env σ ej' (.pv (.int j))) (h5 : E Γ n env σ er (.pv (.str [c]))) (hz : pat.length ≤ 2 ^ 20)
  (hm1 : behindInMarks .Lt en = false) (hm2 : behindInMarks .NotEq er = false) (hsub : ∀ o i, subscripted ej' false o i = operate [o, i] (getItem o i)) :
  B Γ n env σ (.BoolOp .And [.Compare ej [.Lt] [en] lt1, .Compare (.Subscript e1 ej' sp) [.NotEq] [er] lt2] bpos) (decide (j < pat.length ∧ pat[j]? ≠ some c)) := by
 by_cases h : j < pat.length
 ·have hg : pat[j]? = some pat[j] := List.getElem?_eq_getElem h
  have hb := B.and (pos := bpos) (B.lti (pos := lt1) h1 h2 hm1) fun _ => B.and (pos := bpos) (B.nes (pos := lt2) (a := [pat[j]]) (E.items (pos := sp) h3 h4 (by lia) (sat hg) hsub) h5 hm2) fun _ => B.Y8
  have e : (decide ((j : Int) < (pat.length : Int)) && (([pat[j]] != [c]) && true)) = decide (j < pat.length ∧ pat[j]? ≠ some c) := by
   rw [hg]
   have : decide ((j : Int) < (pat.length : Int)) = true := decide_eq_true (by lia)
   rw [this, Bool.true_and, Bool.and_true]
   by_cases q : pat[j] = c
   ·rw [q]; simp
   simp [q, h]
  exact e ▸ hb
 haveI hb := B.and (pos := bpos) (c := false) (rest := [.Compare (.Subscript e1 ej' sp) [.NotEq] [er] lt2]) (B.lti (pos := lt1) h1 h2 hm1) fun e => absurd e (by rw [decide_eq_false (by lia)]; decide)
 haveI e : (decide ((j : Int) < (pat.length : Int)) && false) = decide (j < pat.length ∧ pat[j]? ≠ some c) := by simp [h]
 exact e ▸ hb
end
theorem qd9 : ∀ (k m : Nat) (cur : List Nat) (acc cs : List (List Nat)), Q6 k m cur acc = some cs → tot cs ≤ tot acc + cur.length + 1 := by
 intro k
 induction k with
 | zero => exact fun _ _ _ _ h => nomatch h
 | succ k ih =>
  intro m cur acc cs h
  unfold Q6 at h
  cases hq : Q8 m cur with
  | some q =>
   rw [hq] at h
   have := ih 2 _ _ _ h
   rw [q38, q37, length_take, length_drop] at this
   have hql : q < cur.length := by
    unfold Q8 at hq
    obtain ⟨j, hj, rfl⟩ := map_eq_some_iff.mp hq
    rw [List.findIdx?_eq_some_iff_getElem] at hj
    obtain ⟨hl, _⟩ := hj
    simp at hl; lia
   lia
  | none =>
   rw [hq] at h
   dsimp only at h
   split at h
   ·cases hl : acc.getLast? with
    | none => rw [hl] at h; exact absurd h.symm (some_ne_none _)
    | some l =>
     rw [hl] at h
     cases h
     have := qu1 hl
     haveI e : tot acc = tot acc.dropLast + (l.length + 1) := by rw [this, q38, q37]; simp
     rw [q38, q37, length_append, length_singleton]
     lia
   cases h
   rw [q38, q37]; lia
theorem qf3 : ∀ (ks : List Nat) (cs ms : List (List Nat)), (∀ k ∈ ks, 1 ≤ k) → Q7 ks cs = some ms → tot ms ≤ tot cs
 | [], cs, ms, _, h => by cases h; exact Nat.le_refl _
 | k :: ks, cs, ms, hk, h => by
  unfold Q7 at h
  cases q : W3 cs k with
  | none => rw [q] at h; nomatch h
  | some c =>
   rw [q] at h
   exact Nat.le_trans (qf3 ks c ms (fun j m => hk j (.tail _ m)) h) (qf4 (hk k (.head _)) q)
theorem z10 (n : Nat) : ∀ k ∈ downs n, 1 ≤ k := fun k m => by
 obtain ⟨i, hi, e⟩ := List.getElem_of_mem m
 exact (qr4 (n := n) (i := i) (by rw [List.getElem?_eq_getElem hi, e])).1
theorem qz6 (sep : List Nat) : ∀ l : List (List Nat), (jn sep l).length ≤ (l.map List.length).sum + l.length * sep.length
 | [] => zero_le _
 | [a] => by show a.length ≤ _; simp
 | a :: b :: l => by
  have := qz6 sep (b :: l)
  show (a ++ sep ++ jn sep (b :: l)).length ≤ _
  rw [length_append, length_append, map_cons, sum_cons, length_cons, Nat.succ_mul]
  lia
theorem z57 (ms : List (List Nat)) : ((ms.map R7).map List.length).sum ≤ 9 * tot ms := by
 induction ms with
 | nil => exact zero_le _
 | cons a ms ih =>
  have e : tot (a :: ms) = a.length + 1 + tot ms := by show tot ([a] ++ ms) = _; rw [q38, q37]
  have := qr1 a
  simp only [map_cons, sum_cons]
  lia
theorem z37 {s t : List Nat} (h : R5 s = some t) : t.length ≤ 10 * (s.length + 1) := by
 unfold R5 at h
 split at h
 ·obtain ⟨cl, h1, h2⟩ := Option.bind_eq_some_iff.mp h
  obtain ⟨ms, h3, rfl⟩ := map_eq_some_iff.mp h2
  haveI a1 := qd9 _ _ _ _ _ h1
  haveI a2 := qf3 _ _ _ (z10 _) h3
  haveI a3 := qz6 [45] (ms.map R7)
  haveI a4 := z57 ms
  haveI a5 := q91 ms
  haveI e : tot [] = 0 := rfl
  simp only [length_map, length_singleton] at a3
  lia
 cases h
 have := qa9 92 [92, 92] s
 simp only [length_cons, length_nil] at this
 lia
theorem zc8 {x : List Nat} {c : Nat} (h : x.getLast? = some c) : (seqIndex? (-1) x.length).bind (x[·]?) = some c := by
 rw [List.getLast?_eq_getElem?] at h
 haveI hl := (List.getElem?_eq_some_iff.mp h).1
 rw [seqIndex_neg (by decide) (by lia), neg1]
 exact h
theorem z67 (x y : Nat) : decide (([y] : List Nat) < [x]) = decide (y < x) := by
 rw [StrLaws.lt_cons_cons]; simp
noncomputable def runN (l : List Part) : Nat := (l.takeWhile (·.isSome)).length
noncomputable def txts (l : List Part) : List (List Nat) := l.map (·.getD [])
noncomputable def loopR : Nat → List Part → List (List Nat) → Option (List (List Nat))
 | 0, _, _ => none
 | k + 1, l, acc => match l with
  | [] => some acc
  | some _ :: _ => none
  | none :: r => if r = [] then some (acc ++ [[46, 42]]) else if runN r = 0 then none
   else if r.drop (runN r) = [] then some (acc ++ [[46, 42], jn [] (txts (r.take (runN r)))])
   else loopR k (r.drop (runN r)) (acc ++ [[40, 63, 62, 46, 42, 63] ++ jn [] (txts (r.take (runN r))) ++ [41]])
noncomputable def joinR (l : List Part) : Option (List Nat) := (loopR (l.length + 1) (l.drop (runN l)) (txts (l.take (runN l)))).map fun acc => [40, 63, 115, 58] ++ jn [] acc ++ [41, 92, 90]
theorem qq3 {l : List Part} {i : Nat} {s : List Nat} (h : l[i]? = some (some s)) : i + runN (l.drop i) = (i + 1) + runN (l.drop (i + 1)) := by
 obtain ⟨hi, e⟩ := List.getElem?_eq_some_iff.mp h
 unfold runN
 rw [drop_eq_getElem_cons hi, e, takeWhile_cons]
 simp only [Option.isSome_some, if_true, length_cons]
 lia
theorem qg5 {l : List Part} {i : Nat} (h : ∀ s, l[i]? ≠ some (some s)) : runN (l.drop i) = 0 := by
 unfold runN
 by_cases hi : i < l.length
 ·rw [drop_eq_getElem_cons hi, takeWhile_cons]
  haveI : l[i].isSome = false := by
   cases q : l[i] with
   | none => rfl
   | some s => exact absurd (by rw [List.getElem?_eq_getElem hi, q]) (h s)
  rw [this]; rfl
 rw [drop_of_length_le (by lia)]; rfl
theorem z64 (l : List Part) : runN l ≤ l.length := (List.takeWhile_sublist (l := l) _).length_le
noncomputable def wt (l : List Part) : Nat := (l.map fun p => (p.getD []).length + 10).sum
theorem qi8 (a b : List Part) : wt (a ++ b) = wt a + wt b := by unfold wt; rw [map_append, sum_append]
theorem q62 (p : Part) (l : List Part) : wt (p :: l) = (p.getD []).length + 10 + wt l := by unfold wt; rw [map_cons, sum_cons]
theorem qv3 (l : List Part) : ((txts l).map List.length).sum ≤ wt l := by
 induction l with
 | nil => exact Nat.le_refl _
 | cons p l ih =>
  rw [q62]
  show ((p.getD []).length :: ((txts l).map List.length)).sum ≤ _
  dsimp only [sum_cons]; lia
theorem q56 (l : List (List Nat)) : (jn [] l).length ≤ (l.map List.length).sum := by
 have := qz6 [] l
 simpa using this
theorem qj1 {l : List Part} {i : Nat} {s : List Nat} (h : l[i]? = some (some s)) (b : Nat) (hb : b ≤ i) : txts ((l.take (i + 1)).drop b) = txts ((l.take i).drop b) ++ [s] := by
 obtain ⟨hi, e⟩ := List.getElem?_eq_some_iff.mp h
 unfold txts
 rw [List.take_succ_eq_append_getElem hi, List.drop_append_of_le_length (by simp; lia), map_append, e]
 rfl
section
variable {Γ : Cx} {n : Nat} {env : Env} {σ : St}
theorem B.fixAt {lt1 lt2 : Pos} {ei en e1 ei' er : Expr} {bpos sp : Pos} {l : List Part} {i a : Nat} (h1 : E Γ n env σ ei (.pv (.int i))) (h2 : E Γ n env σ en (.pv (.int l.length))) (h3 : E Γ n env σ e1 (.pv (.list (l.map (PTv a))))) (h4 : E Γ n env σ ei' (.pv (.int i))) (h5 : E Γ n env σ er (.pv (.obj a))) (hz : l.length ≤ 2 ^ 20)
  (hm1 : behindInMarks .Lt en = false) (hm2 : behindInMarks .IsNot er = false) (hsub : ∀ o i, subscripted ei' false o i = operate [o, i] (getItem o i)) :
  B Γ n env σ (.BoolOp .And [.Compare ei [.Lt] [en] lt1, .Compare (.Subscript e1 ei' sp) [.IsNot] [er] lt2] bpos) (l[i]?.bind id).isSome := by
 by_cases h : i < l.length
 ·haveI hlt : decide ((i : Int) < (l.length : Int)) = true := decide_eq_true (by lia)
  have hg : (l.map (PTv a))[((i : Nat) : Int).toNat]? = some (PTv a l[i]) := by rw [toNat_natCast, getElem?_map, List.getElem?_eq_getElem h]; rfl
  cases q : l[i] with
  | none =>
   rw [q] at hg
   have hb := B.and (pos := bpos) (B.lti (pos := lt1) h1 h2 hm1) fun _ => B.and (pos := bpos) (B.isnotO (pos := lt2) (a := a) (b := a) (E.Q2 (pos := sp) (EL.of h3) h4 (by lia) (by lia) hg hsub) h5 hm2) fun _ => B.Y8
   have e : (decide ((i : Int) < (l.length : Int)) && ((a != a) && true)) = (l[i]?.bind id).isSome := by
    rw [hlt, List.getElem?_eq_getElem h, q]; simp
   exact e ▸ hb
  | some s =>
   rw [q] at hg
   haveI hb := B.and (pos := bpos) (B.lti (pos := lt1) h1 h2 hm1) fun _ => B.and (pos := bpos) (B.isnotS (pos := lt2) (a := s) (b := a) (E.Q2 (pos := sp) (EL.of h3) h4 (by lia) (by lia) hg hsub) h5 hm2) fun _ => B.Y8
   have e : (decide ((i : Int) < (l.length : Int)) && (true && true)) = (l[i]?.bind id).isSome := by
    rw [hlt, List.getElem?_eq_getElem h, q]; rfl
   exact e ▸ hb
 have hb := B.and (pos := bpos) (c := false) (rest := [.Compare (.Subscript e1 ei' sp) [.IsNot] [er] lt2]) (B.lti (pos := lt1) h1 h2 hm1) fun e => absurd e (by rw [decide_eq_false (by lia)]; decide)
 have e : (decide ((i : Int) < (l.length : Int)) && false) = (l[i]?.bind id).isSome := by rw [getElem?_eq_none (by lia)]; simp
 exact e ▸ hb
end
theorem qq8 {l : List Part} {i : Nat} (h : (l[i]?.bind id).isSome = true) : ∃ s, l[i]? = some (some s) := by
 cases q : l[i]? with
 | none => rw [q] at h; exact absurd h Bool.false_ne_true
 | some p => cases p with
  | none => rw [q] at h; nomatch h
  | some s => exact ⟨s, rfl⟩
theorem qq9 {l : List Part} {i : Nat} (h : (l[i]?.bind id).isSome = false) : ∀ s, l[i]? ≠ some (some s) := fun s e => by rw [e] at h; exact absurd h.symm Bool.false_ne_true
noncomputable def W1 (x y : List Nat) : List Nat := if x = [33] then [33] else if x = [33, 45] then [91, 45, 33, 93] else y
theorem S_inj {a b : List Nat} : S a = S b ↔ a = b := by
 constructor
 ·intro h
  have := congrArg (fun s : Str => s.cps.toList) h
  simpa [S] using this
 intro h; rw [h]
theorem zb2 (x : List Nat) (a c : Value) : valueAt (merged [] [(S [33], a), (S [33, 45], c)]) (S x) = if x = [33] then some a else if x = [33, 45] then some c else none := by
 haveI e : merged [] [(S [33], a), (S [33, 45], c)] = [(S [33], a), (S [33, 45], c)] := by
  rfl
 rw [e]
 unfold valueAt
 dsimp only [List.find?_cons, List.find?_nil]
 by_cases h1 : x = [33]
 ·subst h1; simp
 by_cases h3 : x = [33, 45]
 ·subst h3; simp [S_inj]
 simp [S_inj, h1, h3, Ne.symm h1, Ne.symm h3, eq_comm]
section
variable {Γ : Cx} {n : Nat} {env : Env} {σ : St} {sc : Scope}
theorem E.bareGet {dpos apos pos q1 q3 q4 q6 p1 p2 p3 b1 b2 b3 : Pos} {a1 a3 a4 a6 k1 k2 : Nat} {xv : String} {x : List Nat} (G : EnvS env sc) (hm : (xv, RV.pv (.str x)) ∈ σ.v) (hd : (ofString xv == ("__debug__" : Str)) = false) (hz : x.length ≤ 2 ^ 20) (hline : (apos.endLine == pos.line) = true) :
  E Γ n env σ (.Call (.Attribute (.Dict [some (.Constant (.str (ofString "!")) a1 q1), some (.Constant (.str (ofString "!-")) a3 q3)] [.Constant (.str (ofString "!")) a4 q4, .Constant (.str (ofString "[-!]")) a6 q6] dpos) (ofString "get") apos) [.Name (ofString xv) p1, .BinOp (.BinOp (.Constant (.str (ofString "[")) k1 p2) .Add (.Name (ofString xv) p3) b1) .Add (.Constant (.str (ofString "]")) k2 b2) b3] [] pos) (.pv (.str (W1 x ([91] ++ x ++ [93])))) := ⟨.mk fun A E s φ H R ok lv eo Q k => by
 refine wpAny_Call_method_lateS (by rfl) (by rfl) hline ?_
 refine wpAny_Dict_walk (knd := strKind Γ.prog Γ.w) rfl rfl (by simp) (by simp) ?_
 refine pairTrees_cons_walk (q04 (q04 (pairTrees_cons_walk (q04 (q04 (pairTrees_nil_walk ?_))))))
 dsimp only
 refine ⟨[(S [33], .str (S [33]) _), (S [33, 45], .str (S [91, 45, 33, 93]) _)], ⟨by rfl, rfl, by rfl, rfl, trivial⟩, Heap.DictOf.new _, fun h' hmd hs => ?_⟩
 haveI keep : ∀ b o, s.heap.get? b = some o → h'.get? b = some o := fun b o e => hs.extBut b o (Nat.ne_of_lt (lt_size e)) (get?_push_of_some _ e)
 haveI hdS : (s.heap.objs.size == sysModules) = false := by
  obtain ⟨_, hn, _⟩ := q16 Γ.nolimit ok.kb
  have h1 : cStatics < s.heap.objs.size := hn.lt
  have h2 : sysModules ≤ cStatics := by decide
  exact beq_eq_false_iff_ne.mpr (ne_of_gt (lt_of_le_of_lt h2 h1))
 refine ⟨"dict", "dict.get", F.plainAttrs_dict, F.slot_dict_get, F.type_dict_get, hmd.typeIs, hmd.mapOf.noDict, ?_⟩
 show wpAny _ _ (callWith pos (.builtin "dict.get") [.ref s.heap.objs.size] [(false, eval (.Name (ofString xv) p1) env), (false, eval (.BinOp (.BinOp (.Constant (.str (ofString "[")) k1 p2) .Add (.Name (ofString xv) p3) b1) .Add (.Constant (.str (ofString "]")) k2 b2) b3) env)] []) _ _ _
 refine wpAny_dict_get2 (knd := strKind Γ.prog Γ.w) hdS ?_
 obtain ⟨V, at0, d⟩ := (eo.kp (Kp.of keep)).vars _ _ hm
 haveI d' : Den H h' V (.str x) := d
 cases d' using Den.s with
 | str u =>
  refine wpAny_Name (q02 G.g.kind at0 ?_) hd
  refine wpAny_BinOp (wpAny_BinOp (q04 (wpAny_Name (q02 G.g.kind at0 ?_) hd)))
  haveI hx : (⟨x.toArray⟩ : Str) = S x := rfl
  rw [hx]
  refine PyProof.Rows.add_str (fun t' tk => ?_) (by rw [S_len, show (ofString "[").length = 1 from rfl]; simp only [sizeLine]; lia)
  refine q04 ?_
  haveI e1 : ofString "[" ++ S x = S ([91] ++ x) := by rw [S_app]; rfl
  rw [e1]
  refine PyProof.Rows.add_str (fun t2 tk2 => ?_) (by rw [S_len, show (ofString "]").length = 1 from rfl]; simp only [sizeLine, length_append, length_singleton]; lia)
  haveI e2 : S ([91] ++ x) ++ ofString "]" = S ([91] ++ x ++ [93]) := by rw [S_app ([91] ++ x)]; rfl
  rw [e2]
  refine ⟨S x, _, by show Value.isStrOf (S x) (.str (S x) u) = true; simp [Value.isStrOf], hmd.mapOf, ?_⟩
  rw [zb2]
  have fin : ∀ (r : List Nat) (t : Tok) (tk : Nat), W1 x ([91] ++ x ++ [93]) = r → Q (.str (S r) t) { s with heap := h', toks := tk } := fun r t tk e => by
   rw [e] at k
   exact k _ _ (Kp.of keep) (ok.keeps keep) (.str r t)
  by_cases h1 : x = [33]
  ·rw [if_pos h1]
   exact fin _ _ _ (by unfold W1; rw [if_pos h1])
  rw [if_neg h1]
  by_cases h3 : x = [33, 45]
  ·rw [if_pos h3]
   exact fin _ _ _ (by unfold W1; rw [if_neg h1, if_pos h3])
  rw [if_neg h3]
  exact fin _ _ _ (by unfold W1; rw [if_neg h1, if_neg h3])⟩
end
theorem qv5 {prog : Program} {w : World} {A : Around} {I : Addr} {fp wr : List Addr} {n : Nat} {P : Nat → Value → Prop} {St : Nat → Heap → Prop} (W : Walks prog w A I fp wr n P St) : WalksS prog w A I fp wr (fun a b => b = a) n P (fun i s => St i s.heap) where
 sub := W.sub
 grefl := fun _ => rfl
 gtrans := fun _ _ _ x y => y.trans x
 frame := fun i s h' tk st _ hk => W.frame i _ _ st hk
 item := fun i s Q E hi st hQ => wpAny_with_toks (Nat.le_refl s.toks) (W.item i s _ _ hi st fun v h' tk hP hst hk htk => hQ v _ hP hst ⟨hk, rfl, rfl, rfl, htk⟩)
 done := fun s Q E st hQ => wpAny_with_toks (Nat.le_refl s.toks) (W.done s _ _ st fun h' tk hk htk => hQ _ ⟨hk, rfl, rfl, rfl, htk⟩)
 self := fun i s Q E st hQ => W.self i s Q E st hQ
theorem z12 {H : List Addr} {h : Heap} {vs : List Value} {xs : List Int} (d : Dens H h vs (xs.map PV.int)) (i : Nat) (v : Value) (e : vs[i]? = some v) : ∃ t, v = Value.int (xs.getD i 0) t := by
 obtain ⟨q, hq, dq⟩ := d.R3 e
 rw [getElem?_map] at hq
 obtain ⟨x, hx, rfl⟩ := map_eq_some_iff.mp hq
 rw [getD_eq_getElem?_getD, hx]
 cases dq using Den.i with | int t => exact ⟨t, rfl⟩
theorem qc4 (xs : List Int) : ∀ n, n ≤ xs.length → preSum (fun i => xs.getD i 0) n = (xs.take n).sum
 | 0, _ => by simp [preSum]
 | n + 1, h => by
  show preSum _ n + xs.getD n 0 = _
  rw [qc4 xs n (by lia), List.take_succ_eq_append_getElem (by lia), sum_append, getD_eq_getElem?_getD, List.getElem?_eq_getElem (by lia)]
  simp
section
variable {Γ : Cx} {n : Nat} {env : Env} {σ : St} {sc : Scope}
theorem CallB.sum {xs : List Int} : CallB Γ n env σ (.builtin "sum") [PR (.pv (.list (xs.map .int)))] (PR (.pv (.int xs.sum))) := fun Vs A E s φ H R ok lv eo c Q k => by
 obtain ⟨V, rfl, d⟩ := c.one
 cases d using Den.l with
 | @list a vs ha hl hd =>
  have hne : a ≠ s.heap.objs.size := by obtain ⟨_, e⟩ := hl; exact Nat.ne_of_lt (lt_size e)
  haveI has : a < s.heap.objs.size := by obtain ⟨_, e⟩ := hl; exact lt_size e
  haveI hlen := hd.length
  simp only [length_toList, length_map] at hlen
  refine call_sum_walkAnyS (wpAny_pyIter_list hl.isList ?_)
  refine ⟨_, [s.heap.objs.size, a], [s.heap.objs.size], _, vs.size, _, _, fun i => xs.getD i 0, rfl, qv5 (Walks.list (A := A.in1) R.handled s.heap.objs.size a hne vs), ⟨⟨_, get?_push_size _ rfl, rfl, rfl⟩, hl.isList.push _⟩, fun b hb => ?_, fun i v hv => z12 hd i v (by rw [getElem?_toList]; exact hv), fun s' t' hm => ?_⟩
  ·show b < (s.heap.push _).objs.size
   rw [Heap.size_push]
   simp only [mem_cons, not_mem_nil, or_false] at hb
   rcases hb with rfl | rfl
   ·exact lt_succ_self _
   exact lt_succ_of_lt has
  rw [hlen, qc4 xs _ (Nat.le_refl _), take_length]
  have keep : ∀ b o, s.heap.get? b = some o → s'.heap.get? b = some o := fun b o e => hm.heap b o (by simp only [mem_singleton]; intro q; rw [q, q00] at e; nomatch e) (get?_push_of_some _ e)
  have okk := ok.keeps (t := s'.toks) keep
  exact k _ _ (Kp.of keep) ⟨okk.base, okk.tabs, by rw [hm.gens]; exact ok.gens, hm.os.trans ok.os, okk.all, okk.frs, okk.off, okk.old⟩ (.int _ _)
theorem E.sum {x : Str} {p pos : Pos} {e : Expr} {xs : List Int} (b : BN Γ env sc x (.builtin "sum")) (ha : E Γ n env σ e (.pv (.list (xs.map .int)))) (he : ∀ env, starEach [e] env = (false, eval e env) :: starEach [] env) : E Γ n env σ (.Call (.Name x p) [e] [] pos) (.pv (.int xs.sum)) :=
 ⟨Ev.T2 b.ev (EvS.cons (mR _) ha.run EvS.nil he) CallB.sum he⟩
end
section
variable {Γ : Cx} {n : Nat} {env : Env} {σ : St}
theorem E.andB {x y : Expr} {pos : Pos} {a b : Bool} (h : E Γ n env σ x (.pv (.bool a))) (h' : a = true → E Γ n env σ y (.pv (.bool b))) : E Γ n env σ (.BoolOp .And [x, y] pos) (.pv (.bool (a && b))) :=
 ⟨Ev.and2 h.run Tru.bool (fun hb φ H h V d => by subst hb; exact d) fun hb => by subst hb; exact (h' rfl).run⟩
end
section
variable {Γ : Cx} {τ n : Nat} {env : Env} {σ : St} {sc : Scope} {ns : List String} {K : AF → St → Prop} {φ : Nat → Addr} {Mw Lo H : List Addr} {s : Shared} {more : List Stmt}
theorem Fr.plus (F : Fr Γ env ns φ Mw Lo H σ s) {x : String} {r r' : RV} (hm : (x, r) ∈ σ.v) (h : ∀ V, DenR φ (Mw ++ Lo ++ H) s.heap V r → DenR φ (Mw ++ Lo ++ H) s.heap V r') : Fr Γ env ns φ Mw Lo H ⟨(x, r') :: σ.v, σ.o⟩ s :=
 ⟨F.ok, F.live, ⟨fun y q m => by
  rcases mem_cons.mp m with e | m
  ·cases e; obtain ⟨V, a, d⟩ := F.eo.vars _ _ hm; exact ⟨V, a, h V d⟩
  exact F.eo.vars y q m, F.eo.own, F.eo.cells⟩, F.wr, F.off, F.own, F.inj, F.dis, F.oc, F.loc, F.kind⟩
theorem Fr.link (F : Fr Γ env ns φ Mw Lo H σ s) {x y : String} {c k : Nat} (hm : (x, RV.pv (.adr c)) ∈ σ.v) (he : (y, RV.eqa k c) ∈ σ.v) : Fr Γ env ns φ Mw Lo H ⟨(x, .ptr k) :: σ.v, σ.o⟩ s :=
 F.plus hm fun V d => by
  obtain ⟨_, _, e⟩ := F.eo.vars _ _ he
  have d' : Den (Mw ++ Lo ++ H) s.heap V (.adr c) := d
  have e' : φ k = c := e
  cases d'; show Value.ref c = Value.ref (φ k); rw [e']
theorem X.link {x y : String} {c k : Nat} {b : List Stmt} (hm : (x, RV.pv (.adr c)) ∈ σ.v) (he : (y, RV.eqa k c) ∈ σ.v) (h : X Γ τ n env ns ⟨(x, .ptr k) :: σ.v, σ.o⟩ b K) : X Γ τ n env ns σ b K :=
 ⟨.mk' fun A E s φ Mw Lo H R F τ0 Q q => h.run.run A E s φ Mw Lo H R (F.link hm he) τ0 Q fun fl s' af σ' φ' Lo' c F' g' fr _ => q fl s' af σ' φ' Lo' c F' g' fr⟩
theorem Fr.tell (F : Fr Γ env ns φ Mw Lo H σ s) {k : Nat} {xs ys : List PV} {orest : List (Nat × List PV)} (ho : (k, xs) ∈ σ.o) (ko : KeepO k σ.o orest) (h : ∀ vs, Dens (Mw ++ Lo ++ H) s.heap vs xs → Dens (Mw ++ Lo ++ H) s.heap vs ys) : Fr Γ env ns φ Mw Lo H ⟨σ.v, (k, ys) :: orest⟩ s :=
 ⟨F.ok, F.live, ⟨F.eo.vars, fun j zs m => by
  rcases mem_cons.mp m with e | m
  ·cases e; obtain ⟨hm, vs, hl, hd⟩ := F.eo.own _ _ ho; exact ⟨hm, vs, hl, h _ hd⟩
  ·exact F.eo.own j zs (ko.mem _ m).1, F.eo.cells⟩, F.wr, F.off, fun j zs m => by
  rcases mem_cons.mp m with e | m
  ·cases e; exact F.own _ _ ho
  ·exact F.own j zs (ko.mem _ m).1, fun j zs i ws m1 m2 e => by
  rcases mem_cons.mp m1 with e1 | m1
  ·cases e1
   rcases mem_cons.mp m2 with e2 | m2
   ·cases e2; rfl
   exact F.inj _ _ i ws ho (ko.mem _ m2).1 e
  rcases mem_cons.mp m2 with e2 | m2
  ·cases e2; exact F.inj j zs _ _ (ko.mem _ m1).1 ho e
  exact F.inj j zs i ws (ko.mem _ m1).1 (ko.mem _ m2).1 e, F.dis, F.oc, F.loc, F.kind⟩
theorem Dens.snoc {H : List Addr} {h : Heap} {pre : List PV} {x y : PV} (f : ∀ V, Den H h V x → Den H h V y) : ∀ {vs : List Value}, Dens H h vs (pre ++ [x]) → Dens H h vs (pre ++ [y]) := by
 induction pre with
 | nil => intro vs d; cases d using Dens.cn with | cons a b => exact .cons (f _ a) b
 | cons p pre ih => intro vs d; cases d using Dens.cn with | cons a b => exact .cons a (ih b)
theorem X.fold {b : List Stmt} {k k0 c : Nat} {y : String} {t : List Nat} {ys pre : List PV} {v' : List (String × RV)} {o1 o2 : List (Nat × List PV)} (he : (y, RV.eqa k c) ∈ σ.v) (ho : (k, ys) ∈ σ.o) (kf : Frz k ys σ.v v') (ko : KeepO k σ.o o1) (ho1 : (k0, pre ++ [.list [.str t, .adr c]]) ∈ o1) (ko1 : KeepO k0 o1 o2)
  (h : X Γ τ n env ns ⟨v', (k0, pre ++ [.list [.str t, .list ys]]) :: o2⟩ b K) : X Γ τ n env ns σ b K :=
 ⟨.mk' fun A E s φ Mw Lo H R F τ0 Q q => by
  obtain ⟨F1, G1⟩ := F.freeze ho kf ko
  obtain ⟨_, _, e⟩ := F.eo.vars _ _ he
  have e' : φ k = c := e
  obtain ⟨_, vs, hl, hd⟩ := F.eo.own _ _ ho
  have hk := F.own k ys ho
  have nk : φ k ∉ Mw ++ Lo.filter (fun a => a != φ k) ++ H := fun m => by
   rcases mem_append.mp m with m | m
   ·rcases mem_append.mp m with m | m
    ·exact (F.dis _ hk).1 m
    simpa using (mem_filter.mp m).2
   exact (F.dis _ hk).2 m
  have sub : ∀ a, a ∈ Mw ++ Lo.filter (fun a => a != φ k) ++ H → a ∈ Mw ++ Lo ++ H := fun a m => by
   rcases mem_append.mp m with m | m
   ·rcases mem_append.mp m with m | m
    ·exact mem_append_left _ (mem_append_left _ m)
    exact mem_append_left _ (mem_append_right _ (mem_filter.mp m).1)
   exact mem_append_right _ m
  have dl : Den (Mw ++ Lo.filter (fun a => a != φ k) ++ H) s.heap (.ref c) (.list ys) := e' ▸ .list nk hl (hd.kpH (KpH.refl _ _) fun b h => .inl (sub b h))
  refine h.run.run A E s φ Mw _ H R (F1.tell ho1 ko1 fun vs d => d.snoc fun V d => ?_) τ0 Q fun fl s' af σ' φ' Lo' c F' g' fr _ => q fl s' af σ' φ' Lo' c F' (G1.trans g') fr
  cases d using Den.l with | list ha hl hd =>
  refine .list ha hl ?_
  cases h : (_ : Array Value).toList using List.rec with
  | nil => rw [h] at hd; cases hd
  | cons V1 r =>
   rw [h] at hd
   cases hd using Dens.cn with | cons a b =>
   cases b using Dens.cn with | cons a2 b2 =>
   refine .cons a (.cons ?_ b2)
   cases a2; exact dl⟩
end
section
variable {Γ : Cx} {τ n : Nat} {env : Env} {σ : St} {sc : Scope} {ns : List String} {K : AF → St → Prop} {φ : Nat → Addr} {Mw Lo H : List Addr} {s : Shared} {more : List Stmt}
theorem z90 {Md : Model} {A : Around} {E : Value → Shared → Prop} {t : String} {kk : Nat} {sp p2 p3 : Pos} {Q : Value → Shared → Prop}
  (h : Q (.ref (s.heap.objs.size + 1)) { s with heap := (s.heap.push { cls := .type "list", data := .seq #[] }).push { cls := .type "list", data := .seq #[.str (ofString t) s.toks, .ref s.heap.objs.size] }, toks := s.toks + 1 }) :
  wpAny Md A (eval (.List [.Constant (.str (ofString t)) kk sp, .List [] p3] p2) env) Q E s := by
 refine wpAny_List (wpAny_items_cons (q04 (wpAny_items_cons (wpAny_List (wpAny_items_nil ⟨by simp [sizeLine], wpAny_items_nil ⟨by simp [sizeLine], ?_⟩⟩)) rfl)) rfl)
 rw [show ((s.heap.push { cls := .type "list", data := .seq ([] : List Value).toArray }).objs.size) = s.heap.objs.size + 1 from Array.size_push _]
 exact h
structure NestAt (h h' : Heap) (c b : Addr) (t : String) : Prop where
 kp : ∀ a o, h.get? a = some o → h'.get? a = some o
 nc : h.get? c = none
 nb : h.get? b = none
 lc : LstAt h' c #[]
 lb : ∃ k, LstAt h' b #[.str (ofString t) k, .ref c]
 ne : b ≠ c
theorem zc1 (h : Heap) (t : String) (k : Tok) : NestAt h ((h.push { cls := .type "list", data := .seq #[] }).push { cls := .type "list", data := .seq #[.str (ofString t) k, .ref h.objs.size] }) h.objs.size (h.objs.size + 1) t := by
 have e : (h.push { cls := .type "list", data := .seq ([] : List Value).toArray }).objs.size = h.objs.size + 1 := Array.size_push _
 have l := LstAt.new (h.push { cls := .type "list", data := .seq ([] : List Value).toArray }) #[.str (ofString t) k, .ref h.objs.size]
 rw [e] at l
 exact ⟨fun a o q => get?_push_of_some _ (get?_push_of_some _ q), q00 h, get?_none_of_le (le_succ _), (LstAt.new h #[]).kp (Kp.push _ _), ⟨k, l⟩, succ_ne_self _⟩
theorem NestAt.den {h h' : Heap} {c b : Addr} {t : String} (N : NestAt h h' c b t) {H : List Addr} (hb : b ∉ H) : Den (c :: H) h' (.ref b) (.list [.str (cs t), .adr c]) := by
 obtain ⟨k, l⟩ := N.lb
 refine .list (fun m => ?_) l (.cons ?_ (.cons (.adr c) .nil))
 ·rcases mem_cons.mp m with e | m
  ·exact N.ne e
  exact hb m
 rw [ofS]; exact .str _ _
theorem qv4 {A : Around} {E : Value → Shared → Prop} {t : String} {kk : Nat} {sp p2 p3 : Pos} (F : Fr Γ env ns φ Mw Lo H σ s) (k : Nat) (hk : σ.v.all (fun p => p.2.key != some k) = true) (hko : σ.o.all (fun p => p.1 != k) = true) {Q : Value → Shared → Prop}
  (h : ∀ c b s' φ', φ' k = c → (∀ j, j ≠ k → φ' j = φ j) → Fr Γ env ns φ' Mw (c :: Lo) H ⟨σ.v, (k, []) :: σ.o⟩ s' → Gr Mw Lo (c :: Lo) s.heap s'.heap → Den (Mw ++ (c :: Lo) ++ H) s'.heap (.ref b) (.list [.str (cs t), .adr c]) → Q (.ref b) s') :
  wpAny (model Γ.prog Γ.w) A (eval (.List [.Constant (.str (ofString t)) kk sp, .List [] p3] p2) env) Q E s := by
 refine z90 ?_
 have N := zc1 s.heap t s.toks
 have ok1 : Γ.Ok { s with heap := (s.heap.push { cls := .type "list", data := .seq #[] }).push { cls := .type "list", data := .seq #[.str (ofString t) s.toks, .ref s.heap.objs.size] }, toks := s.toks + 1 } := F.ok.keeps N.kp
 obtain ⟨φ', e1, e2, F', G'⟩ := F.O8 (s' := { s with heap := (s.heap.push { cls := .type "list", data := .seq #[] }).push { cls := .type "list", data := .seq #[.str (ofString t) s.toks, .ref s.heap.objs.size] }, toks := s.toks + 1 }) (Kp.of N.kp) ok1 k (Nw.none N.nc) (F.ok.new N.nc) N.lc .nil hk hko
 refine h _ _ _ φ' e1 e2 F' G' ?_
 have hb : s.heap.objs.size + 1 ∉ Mw ++ Lo ++ H := (Nw.none N.nb).Y2 F.live
 refine (N.den hb).kpH (KpH.refl _ _) fun a m => .inl ?_
 simp only [mem_append, mem_cons] at m ⊢
 rcases m with (m | m | m) | m <;> simp [m]
theorem Ex.ownN (k0 k1 : Nat) {x y : String} {ry : RV} {p p1 p2 p3 sp pos : Pos} {kk : Nat} {t : String} {rest : List (String × RV)} (hx : x ∈ ns) (kr : Keep [x] σ.v rest) (hne : (k1 == k0) = false)
  (hk0 : rest.all (fun p => p.2.key != some k0) = true) (hk1 : rest.all (fun p => p.2.key != some k1) = true) (hko0 : σ.o.all (fun p => p.1 != k0) = true) (hko1 : σ.o.all (fun p => p.1 != k1) = true) (hy : (y, ry) ∈ rest)
  (hs : swapsWith (.List [.List [.Constant (.str (ofString t)) kk sp, .List [] p3] p2] p1) (some (.Name (ofString x) p)) pos.line env = pure false)
  (c : ∀ c, K .nx ⟨(y, .eqa k1 c) :: (x, .ptr k0) :: rest, (k0, [.list [.str (cs t), .adr c]]) :: (k1, []) :: σ.o⟩) :
  Ex Γ τ n env ns σ (exec (.Assign [.Name (ofString x) p] (.List [.List [.Constant (.str (ofString t)) kk sp, .List [] p3] p2] p1) pos) env) K := .mk' fun A E s φ Mw Lo H R F τ0 Q q => by
 have F0 : Fr Γ env ns φ Mw Lo H ⟨rest, σ.o⟩ s := F.weak fun p m => (kr.mem p m).1
 refine wpAny_Assign_Name (wpAny_List (wpAny_items_cons (qv4 F0 k1 hk1 hko1 fun ca b s1 φ1 e1 e2 F1 G1 d => wpAny_items_nil ⟨by simp [sizeLine], ?_⟩) rfl)) hs
 have hko0' : ((k1, ([] : List PV)) :: σ.o).all (fun p => p.1 != k0) = true := by
  rw [all_cons, hko0, Bool.and_true]; show (!(k1 == k0)) = true; rw [hne]; rfl
 have ok2 : Γ.Ok { s1 with heap := s1.heap.push { cls := .type "list", data := .seq [Value.ref b].toArray } } := F1.ok.W0 _
 obtain ⟨φ2, f1, f2, F2, G2⟩ := F1.O8 (s' := { s1 with heap := s1.heap.push { cls := .type "list", data := .seq [Value.ref b].toArray } }) (Kp.push _ _) ok2 (xs := [.list [.str (cs t), .adr ca]]) k0 (Nw.size _) (F1.ok.new (q00 _)) (LstAt.new _ _)
  (.cons (d.kpN ((Kp.push _ _).toH _) fun a m => (mem_cons.mp m).elim (fun e => .inr (e ▸ Nw.size _)) .inl) .nil) hk0 hko0'
 refine F2.storeName hx kr.self (r := .ptr k0) (show Value.ref _ = Value.ref (φ2 k0) by rw [f1]) fun s3 F3 G3 => ?_
 have hk : φ2 k1 = ca := (f2 k1 fun e => by rw [e, beq_self_eq_true] at hne; cases hne).trans e1
 exact q .next s3 .nx _ φ2 _ (c ca) (F3.plus (r' := .eqa k1 ca) (.tail _ hy) fun V _ => hk) ((G1.trans G2).trans G3) trivial
theorem Ex.O7 (k1 : Nat) {x y : String} {ry : RV} {p apos pos pos' p2 p3 sp : Pos} {kk : Nat} {t : String} {k : Nat} {xs : List PV} {orest : List (Nat × List PV)} (G : EnvG env) (hm : (x, RV.ptr k) ∈ σ.v) (ho : (k, xs) ∈ σ.o) (ko : KeepO k ((k1, []) :: σ.o) orest) (hne : (k1 == k) = false)
  (hk1 : σ.v.all (fun p => p.2.key != some k1) = true) (hko1 : σ.o.all (fun p => p.1 != k1) = true) (hz : xs.length ≤ 2 ^ 24) (hy : (y, ry) ∈ σ.v)
  (hline : (apos.endLine == pos.line) = true) (hd : (ofString x == ("__debug__" : Str)) = false)
  (hs : swapsWith (.Call (.Attribute (.Name (ofString x) p) (ofString "append") apos) [.List [.Constant (.str (ofString t)) kk sp, .List [] p3] p2] [] pos) none pos'.line env = pure false)
  (c : ∀ c, K .nx ⟨(y, .eqa k1 c) :: σ.v, (k, xs ++ [.list [.str (cs t), .adr c]]) :: orest⟩) :
  Ex Γ τ n env ns σ (exec (.Expr (.Call (.Attribute (.Name (ofString x) p) (ofString "append") apos) [.List [.Constant (.str (ofString t)) kk sp, .List [] p3] p2] [] pos) pos') env) K := .mk' fun A E s φ Mw Lo H R F τ0 Q q => by
 have hi : interactive env = false := by unfold interactive; rw [G.kind]; rfl
 refine wpAny_Expr_any ?_ hi hs
 obtain ⟨V, a, d⟩ := F.eo.vars _ _ hm
 have d' : V = .ref (φ k) := d
 subst d'
 obtain ⟨hk, vs, ⟨i, hl⟩, hd0⟩ := F.eo.own _ _ ho
 refine wpAny_Call_append rfl rfl hline rfl (wpAny_Name (q02 G.kind a ⟨φ k, vs, rfl, ⟨_, _, hl, rfl, rfl, rfl⟩, ?_⟩) hd)
 refine qv4 F k1 hk1 hko1 fun ca b s1 φ1 e1 e2 F1 G1 dv => ?_
 have kk1 : k ≠ k1 := fun e => by rw [e, beq_self_eq_true] at hne; cases hne
 obtain ⟨_, vs1, hl1, hd1⟩ := F1.eo.own _ _ (mem_cons_of_mem _ ho)
 have hlen := hd1.length
 simp only [length_toList] at hlen
 rw [← e2 k kk1]
 refine qe2 hl1 (by lia) fun h' hs' hl' => ?_
 obtain ⟨F2, G2⟩ := F1.R9 (t := s1.toks) (mem_cons_of_mem _ ho) ko hs' hl' (ys := xs ++ [.list [.str (cs t), .adr ca]]) (by rw [toList_push]; exact hd1.append (.cons dv .nil))
 exact q .next { s1 with heap := h' } .nx _ φ1 _ (c ca) (F2.plus (r' := .eqa k1 ca) hy fun V _ => e1) (G1.trans G2) trivial
theorem X.ownN (k0 k1 : Nat) {x y : String} {ry : RV} {p p1 p2 p3 sp pos : Pos} {kk : Nat} {t : String} {rest : List (String × RV)} (hx : x ∈ ns) (kr : Keep [x] σ.v rest) (hne : (k1 == k0) = false)
  (hk0 : rest.all (fun p => p.2.key != some k0) = true) (hk1 : rest.all (fun p => p.2.key != some k1) = true) (hko0 : σ.o.all (fun p => p.1 != k0) = true) (hko1 : σ.o.all (fun p => p.1 != k1) = true) (hy : (y, ry) ∈ rest)
  (hs : swapsWith (.List [.List [.Constant (.str (ofString t)) kk sp, .List [] p3] p2] p1) (some (.Name (ofString x) p)) pos.line env = pure false)
  (c : ∀ c, X Γ τ n env ns ⟨(y, .eqa k1 c) :: (x, .ptr k0) :: rest, (k0, [.list [.str (cs t), .adr c]]) :: (k1, []) :: σ.o⟩ more K) :
  X Γ τ n env ns σ (.Assign [.Name (ofString x) p] (.List [.List [.Constant (.str (ofString t)) kk sp, .List [] p3] p2] p1) pos :: more) K := ⟨Ex.cons (Ex.ownN k0 k1 hx kr hne hk0 hk1 hko0 hko1 hy hs fun a => (c a).run)⟩
theorem X.O7 (k1 : Nat) {x y : String} {ry : RV} {p apos pos pos' p2 p3 sp : Pos} {kk : Nat} {t : String} {k : Nat} {xs : List PV} {orest : List (Nat × List PV)} (G : EnvS env sc) (hline : (apos.endLine == pos.line) = true)
  (hs : swapsWith (.Call (.Attribute (.Name (ofString x) p) (ofString "append") apos) [.List [.Constant (.str (ofString t)) kk sp, .List [] p3] p2] [] pos) none pos'.line env = pure false) (hd : (ofString x == ("__debug__" : Str)) = false)
  (hm : (x, RV.ptr k) ∈ σ.v) (ho : (k, xs) ∈ σ.o) (hne : (k1 == k) = false) (ko : KeepO k ((k1, []) :: σ.o) orest)
  (hk1 : σ.v.all (fun p => p.2.key != some k1) = true) (hko1 : σ.o.all (fun p => p.1 != k1) = true) (hz : xs.length ≤ 2 ^ 24) (hy : (y, ry) ∈ σ.v)
  (c : ∀ c, X Γ τ n env ns ⟨(y, .eqa k1 c) :: σ.v, (k, xs ++ [.list [.str (cs t), .adr c]]) :: orest⟩ more K) :
  X Γ τ n env ns σ (.Expr (.Call (.Attribute (.Name (ofString x) p) (ofString "append") apos) [.List [.Constant (.str (ofString t)) kk sp, .List [] p3] p2] [] pos) pos' :: more) K := ⟨Ex.cons (Ex.O7 k1 G.g hm ho ko hne hk1 hko1 hz hy hline hd hs fun a => (c a).run)⟩
theorem X.ghost (k : Nat) {y : String} {r : RV} {b : List Stmt} (hy : (y, r) ∈ σ.v) (h : ∀ a, X Γ τ n env ns ⟨(y, .eqa k a) :: σ.v, σ.o⟩ b K) : X Γ τ n env ns σ b K :=
 ⟨.mk' fun A E s φ Mw Lo H R F τ0 Q q => (h (φ k)).run.run A E s φ Mw Lo H R (F.plus (r' := .eqa k (φ k)) hy fun V _ => rfl) τ0 Q fun fl s' af σ' φ' Lo' c F' g' fr _ => q fl s' af σ' φ' Lo' c F' g' fr⟩
end
end Mine
section
open PySem PySem.W PyProof.Rows
namespace Mine
noncomputable abbrev hdH : Hook := kmHook hdK hdA zd4 [57]
noncomputable def hdV : Program := view PySem.Challenge.pw_ik0025_03 [0, 22]
noncomputable def hdL : List Str := ["_twin_re_1", "translate", "_special_chars_map", "escape", "_translate", "_join_translated_parts", "filterfalse", "_filter", "_law_signs", "_law_edge", "_law_name", "_law_piece", "_law_steps", "_law_takes", "_law_first"].map ofString
noncomputable def hdAt (w : World) : Prop := (openEnds treeTable PySem.Challenge.pw_ik0025_03 w 4210).map (fun s => (openSeen hdV hdL (importedModules PySem.Challenge.pw_ik0025_03.main.body) (fun s => xlAt hdV [] s && recOk [] s) true s, Hook.obs hdH s)) = some (openGood hdV hdL, Hook.val hdH w)
noncomputable def hdQ (w : World) : Prop := (((Fast.tw10274390034422433532 Fast.tw14364793385576792824 (opening PySem.Challenge.pw_ik0025_03) w 4210 (Fast.tw1435165496053646825 (opening PySem.Challenge.pw_ik0025_03)).1 (Fast.tw1435165496053646825 (opening PySem.Challenge.pw_ik0025_03)).2).bind (Fast.tw14289696077712309145 PySem.Challenge.pw_ik0025_03)).bind fun s₀ => match s₀.heap.isNs mainGlobals && s₀.gens.size == 0 with
 | true => (Fast.tw14082659384304107361 Fast.tw14364793385576792824 PySem.Challenge.pw_ik0025_03 w s₀.heap.objs.size (Fast.tw8920871248978507458 s₀.heap mainGlobals "__annotations__") 4210 s₀ (topStub PySem.Challenge.pw_ik0025_03)).bind fun s₁ => match staticsOk (importedModules PySem.Challenge.pw_ik0025_03.main.body) s₀.heap s₁.heap && namesBound PySem.Challenge.pw_ik0025_03 s₁.heap && gensDone s₁ && laidKept s₀.heap s₁.heap with
   | true => some s₁
   | false => none
 | false => none).map (fun s => (Fast.tw4187177175401517315 hdV hdL (importedModules PySem.Challenge.pw_ik0025_03.main.body) (fun s => xlAt hdV [] s && recOk [] s) true s, Hook.obs hdH s)) = some (openGood hdV hdL, Hook.val hdH w)
theorem z96 {w : World} (h : hdQ w) : hdAt w := by
 unfold hdAt openEnds fencedOpening topFrom
 rw [Fast.te14082659384304107361, Fast.te10274390034422433532, Fast.te14364793385576792824, Fast.te1435165496053646825, Fast.te14289696077712309145, Fast.te4187177175401517315, Fast.te8920871248978507458]
 exact h
theorem zd3 (w : World) : hdQ ((w.withFollow "special-get-raises" false).withFollow "comprehension-iter-twice" false) := by unfold hdQ; kernel_rfl
theorem zd1 (w : World) : hdQ ((w.withFollow "special-get-raises" true).withFollow "comprehension-iter-twice" false) := by unfold hdQ; kernel_rfl
theorem zd2 (w : World) : hdQ ((w.withFollow "special-get-raises" false).withFollow "comprehension-iter-twice" true) := by unfold hdQ; kernel_rfl
theorem zd0 (w : World) : hdQ ((w.withFollow "special-get-raises" true).withFollow "comprehension-iter-twice" true) := by unfold hdQ; kernel_rfl
theorem hd_left : LeftO PySem.Challenge.pw_ik0025_03 hdV hdL (fun s => xlAt hdV [] s && recOk [] s) (Hook.obs hdH) (Hook.val hdH) 4210 :=
 fun w => z96 (byRow2 "comprehension-iter-twice" (byRow2 "special-get-raises" (P := fun w => hdQ (w.withFollow "comprehension-iter-twice" false)) zd3 zd1) (byRow2 "special-get-raises" (P := fun w => hdQ (w.withFollow "comprehension-iter-twice" true)) zd2 zd0) w)
end Mine
namespace Mine
noncomputable def isF : Data → Bool
 | .func _ => true
 | _ => false
theorem z53 {d : Data} (h : isF d = true) : ∃ fd, d = .func fd := by
 cases d <;> first | exact ⟨_, rfl⟩ | exact Bool.noConfusion h
noncomputable def isFn (K : Frag) (f : Addr) : Bool := (K.lookup f).elim false fun o => isF o.data
theorem fn_in {Γ : Cx} {K : Frag} {f : Addr} (KX : K.In Γ.hB) (e : isFn K f = true) : ∃ o fd, Γ.hB.get? f = some o ∧ o.data = .func fd := by
 unfold isFn at e
 cases h : K.lookup f with
 | none => rw [h] at e; exact Bool.noConfusion e
 | some o => rw [h] at e; obtain ⟨fd, hd⟩ := z53 e; exact ⟨o, fd, KX _ _ h, hd⟩
theorem FSpec.W4 {Γ : Cx} {n : Nat} {K : Frag} {f : Addr} {nm qn : Str} {pr : Arguments} {body : List Stmt} {sc : Scope} {gl : Addr} {cl : List (Str × Addr)} {df kd dc pm : Value} {an : Option Addr} {ct : Value} {bi : Addr} {ps ns : List String} {xs : List PV} {r : PV} {c : Addr} {cvs : Array Value} {t : Tok} {v : List (String × RV)} (KX : K.In Γ.hB)
  (e1 : (K.lookup f).map Obj.data = some (.func (FuncData.mk nm qn pr (.stmts body) sc gl cl df kd dc pm an (.ref c) ct bi)))
  (e2 : (K.lookup c).map (fun o => (isTb o, o.data)) = some (false, .fields cvs)) (hc1 : cvs[1]? = some (.str qn t)) (C : FunOK sc ps ns)
  (hbind : ∀ Vs : List Value, Vs.length = ps.length → bindArgs (FuncData.mk nm qn pr (.stmts body) sc gl cl df kd dc pm an (.ref c) ct bi) ⟨Vs, []⟩ = pure ((ps.map ofString).zip Vs)) (hlen : xs.length = ps.length)
  (hrest : cl = [] ∧ gl = mainGlobals ∧ bi = builtinsNs ∧ sc.isCoroutine = false ∧ sc.isGenerator = false) (hv : (pvSt (ps.zip xs)).v = v)
  (h : ∀ kf env, EnvS env sc → X (Γ.on kf) 0 n env ns ⟨v, []⟩ body fun af _ => af = .rt r) : FSpec Γ (n + 1) f xs r :=
 FSpec.O2 KX e1 rfl rfl e2 hc1 C hbind hlen hrest hv h
theorem memV {x : String} {r : RV} {l : List (String × RV)} (h : l.lookup x = some r) : (x, r) ∈ l := by
 induction l with
 | nil => cases h
 | cons p l ih =>
  rw [lookup_cons] at h
  split at h
  ·rename_i e; cases h; rw [eq_of_beq e]; exact .head _
  exact .tail _ (ih h)
theorem memO {x : Nat} {r : List PV} {l : List (Nat × List PV)} (h : l.lookup x = some r) : (x, r) ∈ l := by
 induction l with
 | nil => cases h
 | cons p l ih =>
  rw [lookup_cons] at h
  split at h
  ·rename_i e; cases h; rw [eq_of_beq e]; exact .head _
  exact .tail _ (ih h)
theorem HasV.ofL {v : List (String × RV)} : ∀ {l : List (String × RV)}, l.map (fun p => v.lookup p.1) = l.map (fun p => some p.2) → HasV v l
 | [], _ => .nil
 | p :: l, h => by
  rw [map_cons, map_cons] at h
  exact .cons (memV (List.cons.inj h).1) (HasV.ofL (List.cons.inj h).2)
theorem HasO.ofL {v : List (Nat × List PV)} : ∀ {l : List (Nat × List PV)}, l.map (fun p => v.lookup p.1) = l.map (fun p => some p.2) → HasO v l
 | [], _ => .nil
 | p :: l, h => by
  rw [map_cons, map_cons] at h
  exact .cons (memO (List.cons.inj h).1) (HasO.ofL (List.cons.inj h).2)
noncomputable def kindIs (l : List (Str × NameKind)) (x : Str) (k : NameKind) : Bool := decide (l.lookup x = some k)
theorem kindIs.of {l : List (Str × NameKind)} {x : Str} {k : NameKind} (h : kindIs l x k = true) : l.lookup x = some k := of_decide_eq_true h
noncomputable def compB (scope sc : Scope) (ns : List String) : Bool :=
 decide (scope.kind = .function) && (kindIs scope.names (ofString ".0") .local && ((scope.names.all fun p => match p.2 with
  | .local => kindIs scope.names p.1 .local
  | .cell => kindIs scope.names p.1 .cell && ns.any fun y => decide (p.1 = ofString y)
  | .free => kindIs scope.names p.1 .free && (kindIs sc.names p.1 .cell || kindIs sc.names p.1 .free)
  | _ => true) && ns.all fun y => kindIs scope.names (ofString y) .local || kindIs scope.names (ofString y) .cell))
theorem CompOK.ofB {scope sc : Scope} {ns : List String} (h : compB scope sc ns = true) : CompOK scope sc ns := by
 unfold compB at h
 simp only [and_eq_true, all_eq_true] at h
 obtain ⟨h1, h2, h3, h4⟩ := h
 refine ⟨of_decide_eq_true h1, fun p m e => ?_, fun p m e => ?_, fun p m e => ?_, fun p m e => ?_, fun y m => ?_, kindIs.of h2⟩
 ·have := h3 p m; rw [e] at this; exact kindIs.of this
 ·have := h3 p m; rw [e] at this; exact kindIs.of (and_eq_true_iff.mp this).1
 ·have := h3 p m; rw [e] at this
  exact ⟨kindIs.of (and_eq_true_iff.mp this).1, (Bool.or_eq_true_iff.mp (and_eq_true_iff.mp this).2).imp kindIs.of kindIs.of⟩
 ·have := h3 p m; rw [e] at this
  obtain ⟨y, hy, q⟩ := any_eq_true.mp (and_eq_true_iff.mp this).2
  exact ⟨y, hy, of_decide_eq_true q⟩
 exact (Bool.or_eq_true_iff.mp (h4 y m)).imp kindIs.of kindIs.of
noncomputable def funB (sc : Scope) (ps ns : List String) : Bool :=
 decide (sc.kind = .function) && ((sc.names.all fun p => match p.2 with
  | .cell => kindIs sc.names p.1 .cell && ns.any fun y => decide (p.1 = ofString y)
  | .free => false
  | _ => true) && ((ns.all fun y => kindIs sc.names (ofString y) .local || kindIs sc.names (ofString y) .cell) && ((ps.all fun x => ns.contains x) && decide ps.Nodup)))
theorem FunOK.ofB {sc : Scope} {ps ns : List String} (h : funB sc ps ns = true) : FunOK sc ps ns := by
 unfold funB at h
 simp only [and_eq_true, all_eq_true] at h
 obtain ⟨h1, h2, h3, h4, h5⟩ := h
 refine ⟨of_decide_eq_true h1, fun p m e => ?_, fun p m e => ?_, fun p m e => ?_, fun y m => ?_, fun x m => contains_iff_mem.mp (h4 x m), of_decide_eq_true h5⟩
 ·have := h2 p m; rw [e] at this; exact kindIs.of (and_eq_true_iff.mp this).1
 ·have := h2 p m; rw [e] at this; cases this
 ·have := h2 p m; rw [e] at this
  obtain ⟨y, hy, q⟩ := any_eq_true.mp (and_eq_true_iff.mp this).2
  exact ⟨y, hy, of_decide_eq_true q⟩
 exact (Bool.or_eq_true_iff.mp (h3 y m)).imp kindIs.of kindIs.of
theorem lenS {n : Nat} : ∀ {l : List Value}, l.length = n + 1 → ∃ a t, l = a :: t ∧ t.length = n
 | a :: t, h => ⟨a, t, rfl, Nat.succ.inj h⟩
theorem len1 {l : List Value} (h : l.length = 1) : ∃ a, l = [a] := by
 obtain ⟨a, t, rfl, g⟩ := lenS h
 exact ⟨a, congrArg _ (length_eq_zero_iff.mp g)⟩
theorem len2 {l : List Value} (h : l.length = 2) : ∃ a b, l = [a, b] := by
 obtain ⟨a, t, rfl, g⟩ := lenS h
 obtain ⟨b, rfl⟩ := len1 g; exact ⟨a, b, rfl⟩
theorem len3 {l : List Value} (h : l.length = 3) : ∃ a b c, l = [a, b, c] := by
 obtain ⟨a, t, rfl, g⟩ := lenS h
 obtain ⟨b, c, rfl⟩ := len2 g; exact ⟨a, b, c, rfl⟩
theorem sgT {c d : Nat} (h : ([c] == [d]) = true) : c = d := (List.cons.inj (eq_of_beq h)).1
theorem sgF {c d : Nat} (h : ([c] == [d]) = false) : ¬ c = d := fun e => by rw [e, beq_self_eq_true] at h; cases h
@[elab_as_elim] theorem lt2 {P : Nat → Prop} (a : P 0) (b : P 1) {i : Nat} (h : i < 2) : P i := by
 rcases Nat.lt_or_ge i 1 with q | q
 ·rw [Nat.lt_one_iff.mp q]; exact a
 rw [le_antisymm (Nat.le_of_lt_succ h) q]; exact b
@[elab_as_elim] theorem lt3 {P : Nat → Prop} (a : P 0) (b : P 1) (c : P 2) {i : Nat} (h : i < 3) : P i := by
 rcases Nat.lt_or_ge i 2 with q | q
 ·exact lt2 a b q
 rw [le_antisymm (Nat.le_of_lt_succ h) q]; exact c
@[elab_as_elim] theorem lt4 {P : Nat → Prop} (a : P 0) (b : P 1) (c : P 2) (d : P 3) {i : Nat} (h : i < 4) : P i := by
 rcases Nat.lt_or_ge i 3 with q | q
 ·exact lt3 a b c q
 rw [le_antisymm (Nat.le_of_lt_succ h) q]; exact d
theorem qf1 {env : Env} {sc : Scope} {T : List Expr} {V : Expr} {r : Sem (Option (List Str))} (G : EnvS env sc) (h : ∀ e : Env, swappedStores T V { e with scope := sc } = r) : swappedStores T V env = r := by
 have q : env = { env with scope := sc } := by rw [← G.scope]
 rw [q]; exact h env
noncomputable def keepF (xs : List String) : List (String × RV) → List (String × RV)
 | [] => []
 | p :: l => bif xs.contains p.1 then keepF xs l else p :: keepF xs l
theorem Keep.rf {xs : List String} : ∀ {l l' : List (String × RV)}, keepF xs l = l' → Keep xs l l'
 | [], _, h => h ▸ .nil
 | p :: l, l', h => by
  unfold keepF at h
  cases q : xs.contains p.1 with
  | true => rw [q] at h; exact .drop (Keep.rf h)
  | false => rw [q] at h; subst h; exact .take (by simpa using q) (Keep.rf rfl)
def wkLf (s : String) : Lean.Syntax := match s.splitOn ":" with
 | k :: a :: r => .node .none k.toName #[.atom .none a, if r.isEmpty then Lean.mkNullNode else .node .none `Lean.Parser.Tactic.optConfig #[Lean.mkNullNode]]
 | _ => .missing
def wkDs (l : List String) : Lean.Syntax := .node .none `Lean.Parser.Tactic.dsimp #[.atom .none "dsimp", .node .none `Lean.Parser.Tactic.optConfig #[Lean.mkNullNode], Lean.mkNullNode, Lean.mkNullNode #[.atom .none "only"], Lean.mkNullNode #[.atom .none "[", Lean.mkNullNode (l.foldl (fun a n => (if a.isEmpty then a else a.push (.atom .none ",")).push (.node .none `Lean.Parser.Tactic.simpLemma #[Lean.mkNullNode, Lean.mkNullNode, Lean.mkIdent n.toName])) #[]), .atom .none "]"], Lean.mkNullNode]
def wkAt (s : String) : Lean.Syntax := if s.startsWith "%" then wkLf ("Lean.Parser.Tactic." ++ (s.drop 1).toString) else if s.startsWith "@" then wkLf (s.drop 1).toString else if s.startsWith "~" then wkDs ((s.drop 1).toString.splitOn ",") else .node .none `PyProof.Rows.tacticWalk_at_ #[.atom .none "walk_at", Lean.Syntax.mkStrLit s]
def wkSq (l : List Lean.Syntax) : Lean.Syntax := .node .none `Lean.Parser.Tactic.tacticSeq #[.node .none `Lean.Parser.Tactic.tacticSeq1Indented #[Lean.mkNullNode (l.foldl (fun a t => if a.isEmpty then #[t] else (a.push (.atom .none ";")).push t) #[])]]
def wkPar (l : List Lean.Syntax) : Lean.Syntax := .node .none `Lean.Parser.Tactic.paren #[.atom .none "(", wkSq l, .atom .none ")"]
def wkOne (e : String) : List Lean.Syntax := match e.splitOn " " with
 | [] => []
 | n :: ks => (if n == "&" then [] else [.node .none `Lean.Parser.Tactic.apply #[.atom .none "apply", Lean.mkIdent (if n.startsWith "." then (n.drop 1).toString.toName else `Mine ++ n.toName)]]) ++ ks.map wkAt
def wkFst (e : String) : Lean.Syntax := .node .none `Lean.Parser.Tactic.first #[.atom .none "first", Lean.mkNullNode ((e.splitOn "|").map fun a => .node .none `group #[.atom .none "|", wkSq (wkOne a)]).toArray]
def wkTab (s : String) : Option String := if s.contains ' ' then some ("|& " ++ s) else (("rf=>%tacticRfl:rfl;dc=>%decide:decide:;as=>%assumption:assumption;kr=>@tacticKernel_rfl:kernel_rfl;star=|& %intros:intros %tacticRfl:rfl;fs=>star;rs=|& %rotateLeft:rotate_left fs;e=>ev;sd=>side;s=>star;n=>bn;l=>el;p=>ep;m=>mem;vs=>evs;kp=>keep;ko=>keepo;fz=>frz;ck=>cok;cp=>caps;ts=>tst;hs=>has;t=|& e e rf;q=|& e e sd;pp=|& p p sd;asg=|X.asg dc rf kp;asgs=|& asg e;bn=|BN.mk as dc as rf dc dc;mem=|memV rf|memO rf|& mt;mt=*.List.Mem.head|.List.Mem.tail;side=|& %decide:decide:|& %lia:lia:|.Nat.le_of_ble_eq_true rf|& as;cok=|CompOK.ofB kr|FunOK.ofB kr;has=|Has.mk hv ho;hv=|HasV.ofL kr;ho=|HasO.ofL kr;keep=|Keep.rf ~Mine.keepF,List.contains,List.elem,String.reduceBEq,cond;keepo=*KeepO.take rf|KeepO.drop|KeepO.nil;frz=*Frz.sub|Frz.take rf|Frz.drop|Frz.nil;caps=*Caps.nil|Caps.cons m dc;evs=*EA.nil|EA.cons e rs;ep=|EP.no|EP.yes e;el=|EL.own as m m dc|EL.of e;ev=|E.int|E.str|E.bool|E.none|E.var as m dc|E.add e e|E.sub e e|E.neg e|E.fmod q|E.fdiv q sd|E.pow q sd sd|E.mul q|E.list vs sd|E.tup vs sd|E.adds q|E.chr n e sd sd s|E.len_str n e sd s|E.len_list n l sd s|E.range1 n e s|E.cuts e pp|E.cutl l pp|E.addl l l sd;tst=|B.eqi t|B.nei t|B.lti t|B.gti t|B.gei t|B.eqs t|B.nes t|B.lts t|B.gts t|B.isnotO t|B.isnotS t|B.not tst|B.ofBool e rf|B.ofStr e sd rf|B.ofList l sd rf".splitOn ";").find? fun r => r.startsWith (s ++ "=")).map fun r => (r.drop (s.length + 1)).toString
end Mine
namespace Mine
local macro_rules | `(tactic| walk_at $s:str) => match wkTab s.getString with
 | some r =>
  let b := (r.drop 1).toString
  pure (if r.startsWith ">" then wkPar [.node .none `Lean.Parser.Tactic.focus #[.atom .none "focus", wkSq [wkAt b, wkAt "%done:done"]]] else if r.startsWith "*" then .node .none `Lean.Parser.Tactic.tacticRepeat_ #[.atom .none "repeat", wkSq [wkFst b]] else wkFst b)
 | none => Lean.Macro.throwUnsupported
noncomputable def chs (l : List Nat) : PV := .list (l.map fun c => .str [c])
theorem qh9 {α β : Type} (f : α → β) (a b : Option Int) (l : List α) : cut a b (l.map f) = (cut a b l).map f := by
 unfold cut; rw [length_map, map_drop.symm, map_take.symm]
theorem q44 {α : Type} (a b : Option Int) (l : List α) : (cut a b l).length ≤ l.length := by
 unfold cut; rw [length_take, length_drop]; lia
theorem qi6 (l : List Nat) (x : List Nat) : ((l.map fun c => PV.str [c]).any fun v => eqp .str v (.str x)) = l.any fun c => [c] == x := by
 rw [List.any_map]; rfl
theorem q53 (l : List Nat) : ∀ y ∈ (l.map fun c => PV.str [c]), HasTy .str y := fun y hy => by
 obtain ⟨c, _, rfl⟩ := mem_map.mp hy; trivial
theorem qh7 (l : List Int) : eqp (.list .int) (.list (l.map .int)) (.list []) = l.isEmpty := by
 cases l <;> rfl
theorem q31 {α : Type} (z : Nat) (xs : List α) : cut (some (z : Int)) none xs = xs.drop z := by
 unfold cut lowAt q61
 show (xs.drop (clipAt xs.length z)).take (xs.length - clipAt xs.length z) = _
 rw [qb3, take_of_length_le (by rw [length_drop]; lia)]
 by_cases h : z ≤ xs.length
 ·rw [Nat.min_eq_left h]
 rw [Nat.min_eq_right (by lia), drop_of_length_le (Nat.le_refl _), drop_of_length_le (by lia)]
theorem qo7 {α : Type} {l : List α} {k : Nat} {d : α} (h : k < l.length) : l[k]? = some (l.getD k d) := by
 rw [getD_eq_getElem?_getD, List.getElem?_eq_getElem h]; rfl
theorem q19 {α β : Type} (f : α → β) {l : List α} {k : Nat} {d : α} (h : k < l.length) : (l.map f)[k]? = some (f (l.getD k d)) := by
 rw [getElem?_map, qo7 h]; rfl
theorem le24 {n k : Nat} (h : n ≤ k) (hk : k.ble 16777216 = true := by rfl) : n ≤ 2 ^ 24 := Nat.le_trans h (le_of_ble_eq_true hk)
theorem ib {n k : Nat} (h : n ≤ k) (hk : k.ble 16777216 = true := by rfl) : -(2 ^ 60) ≤ (n : Int) ∧ (n : Int) ≤ 2 ^ 60 := ⟨Int.le_trans (by decide) (natCast_nonneg n), Int.le_trans (ofNat_le.mpr (le24 h hk)) (by decide)⟩
theorem predI {n : Nat} (h : 1 ≤ n) : (n : Int) - 1 = ((n - 1 : Nat) : Int) := (Int.ofNat_sub h).symm
noncomputable def R1 : List (List Nat) := ["x!-", "]x-", "^x!", "[x-", "]!-", "x^-", "\\x-", "*x?", "&x|", "x[!"].map cs
noncomputable def q01 (d : Int) : List Nat := (R1.getD (d.fmod 10).toNat []).map fun c => if [c] == cs "x" then (192 + (d.fdiv 10).fmod 50000).toNat else c
theorem z40 (k : Nat) : (R1.getD k []).length ≤ 4 := by
 rw [getD_eq_getElem?_getD]
 match k with
 | 0 | 1 | 2 | 3 | 4 | 5 | 6 | 7 | 8 | 9 => exact le_of_ble_eq_true rfl
 | k + 10 => rw [getElem?_eq_none (by show 10 ≤ _; lia)]; simp
theorem qt2 {Γ : Cx} {P : Params} (KX : (hdK P).In Γ.hB) (d : Int) (bchr : Γ.mg (ofString "chr") = none) : FSpec Γ 6 118 [.int d] (chs (q01 d)) := by
 refine FSpec.W4 KX (ps := ["drawn"]) (ns := ["drawn", "row"]) (v := [("drawn", .pv (.int d))]) (by rfl) (by rfl) (by rfl) ?_ ?_ (by rfl) ⟨rfl, rfl, rfl, rfl, rfl⟩ (by rfl) ?_
 ·walk_at "cok"
 ·intro Vs h
  obtain ⟨a, rfl⟩ := len1 h; rfl
 intro kf env G
 try dsimp only at G
 have l0 := q35 d (b := 10) (by decide)
 have l1 := q23 d (b := 10) (by decide)
 walk_at "asg"
 ·refine E.Q2 (EL.of (xs := R1.map .str) ?_) (i := d.fmod 10) (v := .str (R1.getD (d.fmod 10).toNat [])) ?_ l0 (by lia) ?_
  walk_at "e e"
  exact q19 _ (by show _ < 10; lia)
 refine X.ret (v := chs (q01 d)) ?_ rfl
 have m0 := q35 (d.fdiv 10) (b := 50000) (by decide)
 have m1 := q23 (d.fdiv 10) (b := 50000) (by decide)
 have hl := z40 (d.fmod 10).toNat
 unfold chs q01
 rw [map_map]
 refine E.comp (xs := ["sign"]) (l := [("drawn", .int d)]) (cv := fun c => [.str [c]]) G ?_ ?_ (.name _ _) (by decide) (fun _ => rfl) (I.str ?_) (by lia) fun cenv G' c hc => ?_
 walk_at "ck cp e"
 dsimp only [Function.comp]
 refine E.ife (b := [c] == cs "x") ?_ (fun h => ?_) fun h => ?_
 ·walk_at "tst"
 ·rw [h]; walk_at "ev"
 rw [h]; walk_at "ev"
section
variable {Γ : Cx} {n : Nat} {env : Env} {σ : St}
theorem Cmp.in_str {c : Nat} {x : List Nat} : Cmp Γ n .In (PR (.pv (.str [c]))) (PR (.pv (.str x))) (x.contains c) := fun A E s φ H V W R ok d1 d2 Q h => by
 cases d1 using Den.s; cases d2 using Den.s
 refine PyProof.Rows.in_str ?_
 have := congrArg (!·) (z00 x c)
 rw [show (⟨x.toArray⟩ : Str) = S x from rfl, show (⟨[c].toArray⟩ : Str) = S [c] from rfl, z00 x c]
 exact h
theorem B.inC {l r : Expr} {pos : Pos} {c : Nat} {x : List Nat} (ha : E Γ n env σ l (.pv (.str [c]))) (hb : E Γ n env σ r (.pv (.str x))) (hm : behindInMarks .In r = false) : B Γ n env σ (.Compare l [.In] [r] pos) (x.contains c) := ⟨Evb.cmp (mR _) Cmp.in_str ha.run hb.run hm⟩
end
noncomputable def edgeT (f : Int) (signs marks : List Nat) : List Nat :=
 if f.fmod 5 = 0 then [] else if f.fmod 5 = 4 then [63] else if marks.contains (signs.getD (f.fmod 5 - 1).toNat 0) then [91, signs.getD (f.fmod 5 - 1).toNat 0, 93] else [signs.getD (f.fmod 5 - 1).toNat 0]
noncomputable def edgeS (f : Int) (signs : List Nat) : List (List Nat) :=
 if f.fmod 5 = 0 then [] else if f.fmod 5 = 4 then [signs] else [[signs.getD (f.fmod 5 - 1).toNat 0]]
theorem ql5 {Γ : Cx} {P : Params} (KX : (hdK P).In Γ.hB) (f : Int) (signs marks : List Nat) (hs : signs.length = 3) : FSpec Γ 6 125 [.int f, chs signs, .str marks] (.tup [.str (edgeT f signs marks), .list ((edgeS f signs).map chs)]) := by
 refine FSpec.W4 KX (ps := ["figure", "signs", "marks"]) (ns := ["figure", "signs", "marks", "sign"]) (v := [("figure", .pv (.int f)), ("signs", .pv (chs signs)), ("marks", .pv (.str marks))]) (by rfl) (by rfl) (by rfl) ?_ ?_ (by rfl) ⟨rfl, rfl, rfl, rfl, rfl⟩ (by rfl) ?_
 ·walk_at "cok"
 ·intro Vs h
  obtain ⟨a, b, c, rfl⟩ := len3 h; rfl
 intro kf env G
 try dsimp only at G
 have l0 := q35 f (b := 5) (by decide)
 have l1 := q23 f (b := 5) (by decide)
 refine X.ite (b := f.fmod 5 == 0) ?_ (fun h => ?_) (fun h => ?_)
 ·walk_at "tst"
 ·refine X.ret (v := .tup [.str (edgeT f signs marks), .list ((edgeS f signs).map chs)]) ?_ rfl
  unfold edgeT edgeS
  rw [if_pos (eq_of_beq h), if_pos (eq_of_beq h)]
  walk_at "ev"
 refine X.end ?_
 have n0 : ¬ f.fmod 5 = 0 := fun e => by rw [e] at h; cases h
 refine X.ite (b := f.fmod 5 == 4) ?_ (fun h => ?_) (fun h => ?_)
 ·walk_at "tst"
 ·refine X.ret (v := .tup [.str (edgeT f signs marks), .list ((edgeS f signs).map chs)]) ?_ rfl
  unfold edgeT edgeS
  rw [if_neg n0, if_neg n0, if_pos (eq_of_beq h), if_pos (eq_of_beq h)]
  walk_at "ev"
 refine X.end ?_
 have n4 : ¬ f.fmod 5 = 4 := fun e => by rw [e] at h; cases h
 unfold edgeT edgeS
 rw [if_neg n0, if_neg n0, if_neg n4, if_neg n4]
 have hg := q19 (fun c => PV.str [c]) (l := signs) (k := (f.fmod 5 - 1).toNat) (d := 0) (by lia)
 generalize signs.getD (f.fmod 5 - 1).toNat 0 = c at *
 walk_at "asg"
 ·refine E.Q2 (EL.of (xs := signs.map fun c => .str [c]) ?_) (i := f.fmod 5 - 1) ?_ (by lia) (by lia) hg
  walk_at "e e"
 refine X.ret (v := .tup [.str (if marks.contains c then [91, c, 93] else [c]), .list [.list [.str [c]]]]) ?_ rfl
 refine E.tup (EA.cons (E.ife (b := marks.contains c) (B.inC ?_ ?_ (by rfl)) (fun h => ?_) fun h => ?_) (EA.cons ?_ EA.nil (by intro _; rfl)) (by intro _; rfl)) (le_of_ble_eq_true rfl)
 walk_at "e e"
 ·rw [if_pos h]
  show E _ _ _ _ _ (.pv (.str (cs "[" ++ [c] ++ cs "]")))
  walk_at "ev"
 ·rw [if_neg (by rw [h]; decide)]
  walk_at "ev"
 walk_at "ev"
noncomputable def nmT : List Nat := [4, 3, 5, 2, 4, 3, 5, 1, 4, 0]
noncomputable def nameR (d : Int) (signs : List Nat) : List Nat := (rngL 0 (nmT.getD (d.fmod 10).toNat 0 : Nat)).map fun k => signs.getD (((d.fdiv (10 ^ (k + 1).toNat)).fmod 10).fmod 3).toNat 0
theorem nm_le (k : Nat) : nmT.getD k 0 ≤ 5 := by
 rw [getD_eq_getElem?_getD]
 match k with
 | 0 | 1 | 2 | 3 | 4 | 5 | 6 | 7 | 8 | 9 => exact le_of_ble_eq_true rfl
 | k + 10 => rw [getElem?_eq_none (by show 10 ≤ _; lia)]; simp
theorem qg7 (n : Nat) : (rngL 0 (n : Int)).length = n := by unfold rngL; rw [length_map, length_range]; lia
theorem qj7 {a b k : Int} (h : k ∈ rngL a b) : a ≤ k ∧ k < b := by
 unfold rngL at h
 obtain ⟨q, hq, rfl⟩ := mem_map.mp h
 have := mem_range.mp hq
 lia
theorem z94 (l : List Nat) : jn [] (l.map fun c => [c]) = l := by
 induction l with
 | nil => rfl
 | cons a l ih =>
  cases l with
  | nil => rfl
  | cons b l =>
   show [a] ++ [] ++ jn [] ((b :: l).map fun c => [c]) = _
   rw [ih]; rfl
theorem z34 (l : List Nat) : ((l.map fun c => [c]).map List.length).sum = l.length := by
 induction l with
 | nil => rfl
 | cons a l ih => rw [map_cons, map_cons, sum_cons, ih]; show 0 + 1 + l.length = l.length + 1; lia
theorem qe0 (l : List Nat) : chs l = .list ((l.map fun c => [c]).map .str) := by
 unfold chs; rw [map_map]; rfl
theorem E.joinE {Γ : Cx} {n : Nat} {env : Env} {σ : St} {o e : Expr} {apos pos : Pos} {sep : List Nat} {ts : List (List Nat)} {r : List Nat} (hr : jn sep ts = r) (ho : E Γ n env σ o (.pv (.str sep))) (ha : EL Γ n env σ e (ts.map .str)) (hz : (ts.map List.length).sum + ts.length * sep.length ≤ 2 ^ 24) (hbase : attributeBase o (ofString "join") env (eval o env) = eval o env) (hline : (apos.endLine == pos.line) = true) (he : ∀ env, starEach [e] env = [(false, eval e env)]) :
  E Γ n env σ (.Call (.Attribute o (ofString "join") apos) [e] [] pos) (.pv (.str r)) := hr ▸ E.join ho ha hz hbase hline he
theorem E.joinS {Γ : Cx} {n : Nat} {env : Env} {σ : St} {o e : Expr} {apos pos : Pos} {l : List Nat} (ho : E Γ n env σ o (.pv (.str []))) (ha : E Γ n env σ e (.pv (chs l))) (hz : l.length ≤ 2 ^ 24) (hbase : attributeBase o (ofString "join") env (eval o env) = eval o env) (hline : (apos.endLine == pos.line) = true) (he : ∀ env, starEach [e] env = [(false, eval e env)]) :
  E Γ n env σ (.Call (.Attribute o (ofString "join") apos) [e] [] pos) (.pv (.str l)) :=
 E.joinE (ts := l.map fun c => [c]) (sep := []) (z94 l) ho (EL.of (qe0 l ▸ ha)) (by rw [z34]; simp only [length_nil, mul_zero]; lia) hbase hline he
theorem qy7 {Γ : Cx} {P : Params} (KX : (hdK P).In Γ.hB) (d : Int) (signs : List Nat) (hs : signs.length = 3) (brange : Γ.mg (ofString "range") = none) : FSpec Γ 6 130 [.int d, chs signs] (.str (nameR d signs)) := by
 refine FSpec.W4 KX (ps := ["drawn", "signs"]) (ns := ["drawn", "signs", "size"]) (v := [("drawn", .pv (.int d)), ("signs", .pv (chs signs))]) (by rfl) (by rfl) (by rfl) ?_ ?_ (by rfl) ⟨rfl, rfl, rfl, rfl, rfl⟩ (by rfl) ?_
 ·walk_at "cok"
 ·intro Vs h
  obtain ⟨a, b, rfl⟩ := len2 h; rfl
 intro kf env G
 try dsimp only at G
 have l0 := q35 d (b := 10) (by decide)
 have l1 := q23 d (b := 10) (by decide)
 have hn := nm_le (d.fmod 10).toNat
 have hz : (nameR d signs).length ≤ 5 := by unfold nameR; rw [length_map, qg7]; exact hn
 have hg := q19 (fun m : Nat => PV.int (m : Int)) (l := nmT) (k := (d.fmod 10).toNat) (d := 0) (by show _ < 10; lia)
 unfold nameR at hz ⊢
 generalize nmT.getD (d.fmod 10).toNat 0 = m at *
 walk_at "asg"
 ·refine E.Q2 (EL.of (xs := nmT.map fun m : Nat => PV.int (m : Int)) ?_) (i := d.fmod 10) ?_ l0 (by lia) hg
  walk_at "e e"
 refine X.ret (v := .str ((rngL 0 (m : Int)).map fun k => signs.getD (((d.fdiv (10 ^ (k + 1).toNat)).fmod 10).fmod 3).toNat 0)) ?_ rfl
 refine E.joinS E.str ?_ (by lia) (by rfl) (by rfl) (by intro _; rfl)
 unfold chs
 rw [map_map]
 refine E.comp (its := rngL 0 (m : Int)) (cv := fun k => [.int k]) (xs := ["k"]) (l := [("signs", chs signs), ("drawn", .int d)]) G ?_ ?_ (.name _ _) (by decide) (fun _ => rfl) (I.rng (a := 0) (b := (m : Int)) ?_ (by lia) (by lia)) (by rw [qg7]; lia) fun cenv G' k hk => ?_
 walk_at "ck cp e"
 have hk := qj7 hk
 have hp : (10 : Int) ^ (k + 1).toNat ≠ 0 := Int.pow_ne_zero (by decide)
 have hq : ((10 : Int) ^ (k + 1).toNat).natAbs < 2 ^ 200 := by
  have h8 : (k + 1).toNat ≤ 6 := by lia
  rw [Int.natAbs_pow]
  exact lt_of_le_of_lt (Nat.pow_le_pow_right (by decide) h8) (by decide)
 have m0 := q35 ((d.fdiv (10 ^ (k + 1).toNat)).fmod 10) (b := 3) (by decide)
 have m1 := q23 ((d.fdiv (10 ^ (k + 1).toNat)).fmod 10) (b := 3) (by decide)
 dsimp only [Function.comp]
 refine E.Q2 (EL.of (xs := signs.map fun c => .str [c]) ?_) (i := ((d.fdiv (10 ^ (k + 1).toNat)).fmod 10).fmod 3) ?_ m0 (by lia) (q19 _ (by lia))
 walk_at "e e"
noncomputable def sel (signs : List Nat) (low high : Nat) : List Nat := signs.filter fun s => (decide (low ≤ s) && decide (s ≤ high)) || decide (high < low)
noncomputable def inR (rest : List Nat) (first : Nat) (signs : List Nat) : Nat → Nat → List Nat → Option (Nat × List Nat)
 | 0, _, _ => none
 | k + 1, size, mem =>
  if size ≠ first ∧ rest[size]? = some 93 then some (size, mem)
  else match rest[size]? with
   | none => none
   | some c => let s1 := size + if c = 92 then 2 else 1
    match rest[s1 - 1]?, rest[s1]? with
    | some low, some d => if d = 45 then (match rest[s1 + 1]? with
      | some high => inR rest first signs k (s1 + 2) (mem ++ sel signs low high)
      | none => none) else inR rest first signs k s1 (mem ++ sel signs low low)
    | _, _ => none
noncomputable abbrev SS := List (List Nat × List (List Nat))
noncomputable def stP (p : List Nat × List (List Nat)) : PV := .list [.str p.1, .list (p.2.map chs)]
noncomputable def stepS (signs rest : List Nat) (pre : SS) (t : List Nat) (run : List (List Nat)) : Option (List Nat × SS × List Nat × List (List Nat)) :=
 if cut none (some 6) rest = [40, 63, 62, 46, 42, 63] then some (rest.drop 6, pre ++ [(t, run)], cs "first", [])
 else if cut none (some 2) rest = [46, 42] then some (rest.drop 2, pre ++ [(t, run)], cs "any", [])
 else match rest with
  | [] => none
  | c :: r => if c = 41 then some (r, pre ++ [(t, run)], cs "here", [])
   else if cut none (some 4) (c :: r) = [40, 63, 33, 41] then some ((c :: r).drop 4, pre, t, run ++ [[]])
   else if c = 46 then some (r, pre, t, run ++ [signs])
   else if c = 91 then match r with
    | [] => none
    | b :: _ => let first := if b = 94 then 2 else 1
     match inR (c :: r) first signs ((c :: r).length + 1) first [] with
     | none => none
     | some (size, mem) => some ((c :: r).drop (size + 1), pre, t, run ++ [signs.filter fun s => (mem.any fun c => c == s) != (b == 94)])
   else match (c :: r)[if c = 92 then 1 else 0]? with
    | none => none
    | some d => some ((c :: r).drop (if c = 92 then 2 else 1), pre, t, run ++ [signs.filter fun s => s == d])
noncomputable def q15 (signs : List Nat) : Nat → List Nat → SS → List Nat → List (List Nat) → Option SS
 | 0, _, _, _, _ => none
 | k + 1, rest, pre, t, run => if rest = [] then some (pre ++ [(t, run)]) else match stepS signs rest pre t run with
  | none => none
  | some (r, p, t', ru) => q15 signs k r p t' ru
theorem dropA {p q R z B : Nat} (h : p + q + R ≤ B) (r0 : 0 < R) (z0 : 0 < z) : p + 1 + 0 + (R - z) ≤ B := by omega
theorem dropB {p q R z B : Nat} (h : p + q + R ≤ B) (r0 : 0 < R) (z0 : 0 < z) : p + (q + 1) + (R - z) ≤ B := by omega
theorem qt0 {Γ : Cx} {P : Params} (KX : (hdK P).In Γ.hB) (text signs : List Nat) (res : SS) (k : Nat) (hz : text.length ≤ 2 ^ 16) (hs : signs.length ≤ 10) (hk : q15 signs k (cut (some 4) (some (-3)) text) [] (cs "here") [] = some res) :
  FSpec Γ 6 142 [.str text, chs signs] (.list (res.map stP)) := by
 refine FSpec.W4 KX (ps := ["text", "signs"]) (ns := ["text", "signs", "steps", "rest", "size", "run", "barred", "first", "members", "low", "high"]) (v := [("text", .pv (.str text)), ("signs", .pv (chs signs))]) (by rfl) (by rfl) (by rfl) ?_ ?_ (by rfl) ⟨rfl, rfl, rfl, rfl, rfl⟩ (by rfl) ?_
 ·walk_at "cok"
 ·intro Vs h
  obtain ⟨a, b, rfl⟩ := len2 h; rfl
 intro kf env G
 try dsimp only at G
 have hz2 : text.length ≤ 2 ^ 24 := le24 hz
 have hs24 : signs.length ≤ 2 ^ 24 := le24 hs
 apply X.ownN 0 2 (y := "text") (ry := .pv (.str text))
 walk_at "dc kp rf rf rf rf rf m rf"
 intro c0
 apply X.asg (x := "rest") (r := .pv (.str (cut (some 4) (some (-3)) text)))
 walk_at "dc rf kp"
 ·refine E.cuts ?_ ?_ ?_ hz2
  walk_at "e p p"
 have hc := q44 (some 4) (some (-3)) text
 refine X.R2 (ι := List Nat × SS × List Nat × List (List Nat) × Nat × Nat) (fun i => ⟨[("rest", .pv (.str i.1)), ("signs", .pv (chs signs)), ("text", .eqa 2 i.2.2.2.2.1), ("steps", .ptr 0)], [(0, i.2.1.map stP ++ [.list [.str i.2.2.1, .adr i.2.2.2.2.1]]), (2, i.2.2.2.1.map chs)]⟩)
  (fun i => q15 signs i.2.2.2.2.2 i.1 i.2.1 i.2.2.1 i.2.2.2.1 = some res ∧ i.2.1.length + i.2.2.2.1.length + i.1.length ≤ 2 ^ 16) (fun i => i.1.length) (cut (some 4) (some (-3)) text, [], cs "here", [], c0, k) ?_ ⟨hk, Nat.le_trans (by show 0 + 0 + _ ≤ _; rw [Nat.zero_add]; exact hc) hz⟩ fun i hi => ?_
 ·walk_at "has"
 obtain ⟨rest, pre, t, run, ca, f⟩ := i
 obtain ⟨hr, hlen⟩ := hi
 dsimp only at hr hlen ⊢
 have hlm : (run.map chs).length = run.length := length_map ..
 refine ⟨rest != [], ?_, fun hb => ?_, fun hb => ?_⟩
 ·haveI : cs "" = [] := rfl
  rw [← this]
  walk_at "tst"
 ·haveI : rest = [] := by simpa using hb
  subst this
  have : pre ++ [(t, run)] = res := by
   cases f with
   | zero => exact absurd hr.symm (some_ne_none _)
   | succ f => unfold q15 at hr; rw [if_pos rfl] at hr; exact Option.some.inj hr
  cases this
  apply X.fold (k := 2) (k0 := 0) (y := "text") (c := ca) (t := t) (ys := run.map chs) (pre := pre.map stP)
  walk_at "m m fz ko m ko"
  apply X.freeze (k := 0)
  walk_at "m fz ko"
  refine X.ret ?_ rfl
  rw [map_append]
  walk_at "ev"
 have hne : rest ≠ [] := by simpa using hb
 have hrl : rest.length ≤ 2 ^ 24 := le24 (Nat.le_trans (le_add_left ..) hlen)
 obtain ⟨f, rfl⟩ : ∃ g, f = g + 1 := by
  cases f with
  | zero => exact absurd hr.symm (some_ne_none _)
  | succ g => exact ⟨g, rfl⟩
 unfold q15 at hr
 rw [if_neg hne] at hr
 walk_at "asgs"
 have hpl : (pre.map stP ++ [PV.list [.str t, .adr ca]]).length = pre.length + 1 := by rw [length_append, length_map]; rfl
 walk_at "asg"
 ·refine E.Q2 (v := .adr ca) (xs := [.str t, .adr ca]) (i := 1) (EL.of (E.Y5 (i := -1) (xs := pre.map stP ++ [.list [.str t, .adr ca]]) ?_ ?_ (by decide) (by decide) (by rw [hpl]; exact Int.neg_le_neg (ofNat_le.mpr (succ_le_succ (zero_le _)))) ?_)) ?_ (by decide) (by decide) rfl
  walk_at "l e"
  ·rw [hpl, neg1, Nat.add_sub_cancel, List.getElem?_append_right (by rw [length_map]; exact Nat.le_refl _), length_map, sub_self]; rfl
  walk_at "ev"
 apply X.link (x := "run") (y := "text") (c := ca) (k := 2)
 walk_at "m m"
 refine X.cut (fun s => ∃ (z : Nat) (p' : SS) (t' : List Nat) (r' : List (List Nat)) (c' : Nat), 0 < z ∧ q15 signs f (rest.drop z) p' t' r' = some res ∧ p'.length + r'.length + (rest.drop z).length ≤ 2 ^ 16 ∧
  Has ⟨[("rest", .pv (.str rest)), ("signs", .pv (chs signs)), ("text", .eqa 2 c'), ("steps", .ptr 0), ("size", .pv (.int z))], [(0, p'.map stP ++ [.list [.str t', .adr c']]), (2, r'.map chs)]⟩ s) ?_ fun s hs => ?_
 ·have hil : run.length ≤ 2 ^ 16 := Nat.le_trans (Nat.le_trans (le_add_left run.length pre.length) (le_add_right _ rest.length)) hlen
  have hlm3 : (run.map chs).length ≤ 2 ^ 24 := by rw [hlm]; exact le24 hil
  have dl : ∀ z, (rest.drop z).length = rest.length - z := fun z => length_drop ..
  have rp : 0 < rest.length := List.length_pos_iff.mpr hne
  have hp1 : (pre.map stP ++ [PV.list [.str t, .list (run.map chs)]]).length ≤ 2 ^ 24 := by rw [length_append, length_map]; exact le24 (Nat.le_trans (Nat.add_le_add (le_add_right pre.length run.length) rp) hlen)
  refine X.ite (b := cut none (some 6) rest == cs "(?>.*?") ?_ (fun h => ?_) (fun h => ?_)
  ·walk_at "tst"
  ·haveI h' : cut none (some 6) rest = [40, 63, 62, 46, 42, 63] := eq_of_beq h
   have e : stepS signs rest pre t run = some (rest.drop 6, pre ++ [(t, run)], cs "first", []) := by unfold stepS; rw [if_pos h']
   rw [e] at hr
   apply X.ghost 7 (y := "text") (r := .eqa 2 ca)
   ·walk_at "mem"
   intro a7
   apply X.fold (k := 2) (k0 := 0) (y := "text") (c := ca) (t := t) (ys := run.map chs) (pre := pre.map stP)
   walk_at "m m fz ko m ko"
   apply X.O7 2 (y := "text") (ry := .eqa 7 a7) G
   walk_at "rf rf dc m m rf ko rf rf"
   ·exact hp1
   ·walk_at "mem"
   intro cb
   walk_at "asgs"
   refine X.end ((X.nil ⟨rfl, 6, pre ++ [(t, run)], cs "first", [], cb, by decide, hr, ?_, ?_⟩))
   ·rw [dl, length_append]; exact dropA hlen rp (by decide)
   rw [map_append]
   walk_at "has"
  have n1 : ¬ cut none (some 6) rest = [40, 63, 62, 46, 42, 63] := fun e => by rw [e] at h; exact absurd h.symm Bool.false_ne_true
  refine X.ite (b := cut none (some 2) rest == cs ".*") ?_ (fun h => ?_) (fun h2 => ?_)
  ·walk_at "tst"
  ·haveI h' : cut none (some 2) rest = [46, 42] := eq_of_beq h
   have e : stepS signs rest pre t run = some (rest.drop 2, pre ++ [(t, run)], cs "any", []) := by unfold stepS; rw [if_neg n1, if_pos h']
   rw [e] at hr
   apply X.ghost 7 (y := "text") (r := .eqa 2 ca)
   ·walk_at "mem"
   intro a7
   apply X.fold (k := 2) (k0 := 0) (y := "text") (c := ca) (t := t) (ys := run.map chs) (pre := pre.map stP)
   walk_at "m m fz ko m ko"
   apply X.O7 2 (y := "text") (ry := .eqa 7 a7) G
   walk_at "rf rf dc m m rf ko rf rf"
   ·exact hp1
   ·walk_at "mem"
   intro cb
   walk_at "asgs"
   refine X.end (X.end ((X.nil ⟨rfl, 2, pre ++ [(t, run)], cs "any", [], cb, by decide, hr, ?_, ?_⟩)))
   ·rw [dl, length_append]; exact dropA hlen rp (by decide)
   rw [map_append]
   walk_at "has"
  have n2 : ¬ cut none (some 2) rest = [46, 42] := fun e => by rw [e] at h2; exact absurd h2.symm Bool.false_ne_true
  obtain ⟨c, r, rfl⟩ : ∃ c r, rest = c :: r := by
   cases rest with
   | nil => exact absurd rfl hne
   | cons c r => exact ⟨c, r, rfl⟩
  have g0 : (seqIndex? 0 (c :: r).length).bind ((c :: r)[·]?) = some c := by rw [q46 (by decide) (by simp)]; rfl
  refine X.ite (b := [c] == cs ")") ?_ (fun h3 => ?_) (fun h3 => ?_)
  ·refine B.eqs (E.items (i := 0) (x := c :: r) ?_ ?_ (by decide) g0) ?_ (by rfl)
   walk_at "e e e"
  ·haveI hc : c = 41 := sgT h3
   have e : stepS signs (c :: r) pre t run = some (r, pre ++ [(t, run)], cs "here", []) := by unfold stepS; rw [if_neg n1, if_neg n2]; simp only [hc, if_true]
   rw [e] at hr
   apply X.ghost 7 (y := "text") (r := .eqa 2 ca)
   ·walk_at "mem"
   intro a7
   apply X.fold (k := 2) (k0 := 0) (y := "text") (c := ca) (t := t) (ys := run.map chs) (pre := pre.map stP)
   walk_at "m m fz ko m ko"
   apply X.O7 2 (y := "text") (ry := .eqa 7 a7) G
   walk_at "rf rf dc m m rf ko rf rf"
   ·exact hp1
   ·walk_at "mem"
   intro cb
   refine X.end (X.end (X.end ((X.nil ⟨rfl, 1, pre ++ [(t, run)], cs "here", [], cb, by decide, hr, ?_, ?_⟩))))
   ·rw [dl, length_append]; exact dropA hlen rp (by decide)
   rw [map_append]
   walk_at "has"
  haveI n0 : ¬ c = 41 := sgF h3
  refine X.ite (b := cut none (some 4) (c :: r) == cs "(?!)") ?_ (fun h4 => ?_) (fun h4 => ?_)
  ·walk_at "tst"
  ·have h' : cut none (some 4) (c :: r) = [40, 63, 33, 41] := eq_of_beq h4
   have e : stepS signs (c :: r) pre t run = some ((c :: r).drop 4, pre, t, run ++ [[]]) := by unfold stepS; rw [if_neg n1, if_neg n2]; simp only [if_neg n0, if_pos h']
   rw [e] at hr
   apply X.app (v := .list []) G
   walk_at "dc rf s dc m m ko"
   ·exact E.list EA.nil (by decide)
   ·exact hlm3
   walk_at "asgs"
   refine X.end (X.end (X.end (X.end (X.nil ⟨rfl, 4, pre, t, run ++ [[]], ca, by decide, hr, ?_, ?_⟩))))
   ·rw [dl, length_append, length_singleton]; exact dropB hlen rp (by decide)
   rw [map_append]
   walk_at "has"
  have n4 : ¬ cut none (some 4) (c :: r) = [40, 63, 33, 41] := fun e => by rw [e] at h4; exact absurd h4.symm Bool.false_ne_true
  refine X.ite (b := [c] == cs ".") ?_ (fun h5 => ?_) (fun h5 => ?_)
  ·refine B.eqs (E.items (i := 0) (x := c :: r) ?_ ?_ (by decide) g0) ?_ (by rfl)
   walk_at "e e e"
  ·haveI hc : c = 46 := sgT h5
   have e : stepS signs (c :: r) pre t run = some (r, pre, t, run ++ [signs]) := by unfold stepS; rw [if_neg n1, if_neg n2]; simp only [if_neg n0, if_neg n4]; rw [if_pos hc]
   rw [e] at hr
   apply X.app (v := chs signs) G
   walk_at "dc rf s dc m m ko e"
   ·exact hlm3
   refine X.end (X.end (X.end (X.end (X.end (X.nil ⟨rfl, 1, pre, t, run ++ [signs], ca, by decide, hr, ?_, ?_⟩)))))
   ·rw [dl, length_append, length_singleton]; exact dropB hlen rp (by decide)
   rw [map_append]
   walk_at "has"
  haveI n3 : ¬ c = 46 := sgF h5
  refine X.ite (b := [c] == cs "[") ?_ (fun h6 => ?_) (fun h6 => ?_)
  ·refine B.eqs (E.items (i := 0) (x := c :: r) ?_ ?_ (by decide) g0) ?_ (by rfl)
   walk_at "e e e"
  ·have hc : c = 91 := sgT h6
   subst hc
   obtain ⟨b, r2, rfl⟩ : ∃ b r2, r = b :: r2 := by
    cases r with
    | nil => unfold stepS at hr; rw [if_neg n1, if_neg n2] at hr; simp only [if_neg n0, if_neg n4, if_neg n3, if_true] at hr; cases hr
    | cons b r2 => exact ⟨b, r2, rfl⟩
   generalize hfirst : (if b = 94 then 2 else 1 : Nat) = first at *
   generalize hrest : (91 :: b :: r2 : List Nat) = rest at *
   have e : ∃ zs zm, inR rest first signs (rest.length + 1) first [] = some (zs, zm) ∧ q15 signs f (rest.drop (zs + 1)) pre t (run ++ [signs.filter fun s => (zm.any fun c => c == s) != (b == 94)]) = some res := by
    subst hrest
    unfold stepS at hr
    rw [if_neg n1, if_neg n2] at hr
    simp only [if_neg n4, if_neg n0, if_neg n3, if_true, hfirst] at hr
    cases hin : inR (91 :: b :: r2) first signs ((91 :: b :: r2).length + 1) first [] with
    | none => rw [hin] at hr; exact absurd hr.symm (some_ne_none _)
    | some p => rw [hin] at hr; exact ⟨p.1, p.2, rfl, hr⟩
   obtain ⟨zs, zm, hin, hr2⟩ := e
   clear hr
   haveI g1 : rest[1]? = some b := hrest ▸ rfl
   walk_at "asg"
   ·refine E.eqs (a := [b]) (b := cs "^") (E.items (i := ((1 : Nat) : Int)) (x := rest) ?_ ?_ (by decide) (sat g1)) ?_ (by rfl)
    walk_at "e e e"
   walk_at "asg"
   ·refine E.ife (r := .pv (.int (first : Int))) (b := [b] == cs "^") ?_ (fun h => ?_) fun h => ?_
    ·walk_at "tst"
    ·have : b = 94 := sgT h
     rw [← hfirst, if_pos this]; walk_at "ev"
    have : ¬ b = 94 := sgF h
    rw [← hfirst, if_neg this]; walk_at "ev"
   walk_at "asgs"
   apply X.own 1 (xs := [])
   walk_at "dc rf kp rf rf"
   ·exact EF.list EA.nil (by decide)
   have sing : ∀ a b : Nat, (([a] : List Nat) == [b]) = (a == b) := fun a b => by
    cases h : a == b with
    | true => rw [beq_iff_eq.mp h]; exact beq_self_eq_true _
    | false => simpa using h
   have f12 : 1 ≤ first ∧ first ≤ 2 := by rw [← hfirst]; split <;> decide
   refine X.R2 (ι := Nat × List Nat × Nat) (fun i => ⟨[("size", .pv (.int (i.1 : Int))), ("rest", .pv (.str rest)), ("signs", .pv (chs signs)), ("text", .eqa 2 ca), ("steps", .ptr 0), ("run", .ptr 2), ("first", .pv (.int (first : Int))), ("barred", .pv (.bool ([b] == cs "^"))), ("members", .ptr 1)], [(1, i.2.1.map fun c => .str [c]), (0, pre.map stP ++ [.list [.str t, .adr ca]]), (2, run.map chs)]⟩)
    (fun i => inR rest first signs i.2.2 i.1 i.2.1 = some (zs, zm) ∧ i.2.1.length ≤ 10 * i.1 ∧ 1 ≤ i.1 ∧ i.1 ≤ rest.length + 1) (fun i => i.2.2) (first, [], rest.length + 1) ?_ ⟨hin, zero_le _, f12.1, Nat.le_trans f12.2 (succ_le_succ rp)⟩ fun i hi => ?_
   ·walk_at "has"
   obtain ⟨size, mem, fu⟩ := i
   obtain ⟨hin2, hml, hs1, hs2⟩ := hi
   dsimp only at hin2 hml hs1 hs2 ⊢
   obtain ⟨fu, rfl⟩ : ∃ g, fu = g + 1 := by
    cases fu with
    | zero => exact absurd hin2.symm (some_ne_none _)
    | succ g => exact ⟨g, rfl⟩
   unfold inR at hin2
   haveI hcx : ∃ c', rest[size]? = some c' := by
    cases q : rest[size]? with
    | none => simp [q] at hin2
    | some c' => exact ⟨c', rfl⟩
   obtain ⟨c', hc'⟩ := hcx
   have hlt : size < rest.length := (List.getElem?_eq_some_iff.mp hc').1
   have hlt24 : size ≤ 2 ^ 24 := Nat.le_trans (Nat.le_of_lt hlt) hrl
   haveI hmm : (mem.map fun c => PV.str [c]).length = mem.length := length_map ..
   refine ⟨((size : Int) == (first : Int)) || (([c'] != cs "]") || false), ?_, fun hb => ?_, fun hb => ?_⟩
   ·refine B.or (B.eqi ?_ ?_ (by rfl)) fun _ => B.or (B.nes (E.items (i := (size : Int)) (x := rest) ?_ ?_ (ib hlt24) (sat hc')) ?_ (by rfl)) fun _ => B.or0
    walk_at "e e e e e"
   ·simp only [Bool.or_false, or_eq_false_iff] at hb
    obtain ⟨hb1, hb2⟩ := hb
    haveI hne1 : size ≠ first := fun e => by rw [e] at hb1; simp at hb1
    haveI h93 : c' = 93 := by
     cases q : ([c'] == cs "]") with
     | true => have := eq_of_beq q; cases this; rfl
     | false => unfold bne at hb2; rw [q] at hb2; exact absurd hb2.symm Bool.false_ne_true
    subst h93
    rw [if_pos ⟨hne1, hc'⟩] at hin2
    obtain ⟨rfl, rfl⟩ := Prod.mk.inj (Option.some.inj hin2)
    apply X.freeze (k := 1)
    walk_at "m fz ko"
    apply X.app (v := chs (signs.filter fun s => (mem.any fun c => c == s) != (b == 94))) G
    walk_at "dc rf s dc m m ko"
    ·refine E.Q9 (its := signs) (cv := fun c => [.str [c]]) (xs := ["sign"]) (l := [("members", .list (mem.map fun c => .str [c])), ("barred", .bool ([b] == cs "^"))]) G ?_ ?_ (.name _ _) (by decide) (fun _ => rfl) (I.T1 (c := fun c => .str [c]) ?_) hs24 (fun c2 G2 s hs => ?_) fun c2 G2 s hs hb => ?_
     walk_at "ck cp e"
     ·have e1 : ((mem.any fun c => c == s) != (b == 94)) = (((mem.map fun c => PV.str [c]).any fun v => eqp .str v (.str [s])) != ([b] == cs "^")) := by
       rw [qi6, show ([b] == cs "^") = (b == 94) from sing b 94]
       congr 2; funext c; exact (sing c s).symm
      rw [e1]
      refine B.neb (E.inl .str ?_ (EL.of ?_) trivial (q53 _) (by decide) (by rfl)) ?_ (by rfl)
      walk_at "e e e"
     walk_at "ev"
    ·exact hlm3
    apply X.U5 (c := ((size + 1 : Nat) : Int))
    walk_at "dc m kp e rf"
    refine X.end (X.end (X.end (X.end (X.end (X.end (X.nil ⟨rfl, size + 1, pre, t, run ++ [signs.filter fun s => (mem.any fun c => c == s) != (b == 94)], ca, Nat.succ_pos _, hr2, ?_, ?_⟩))))))
    ·rw [dl, length_append, length_singleton]; exact dropB hlen rp (Nat.succ_pos _)
    rw [map_append]
    walk_at "has"
   have hstop : ¬ (size ≠ first ∧ rest[size]? = some 93) := fun ⟨h1, h2⟩ => by
    rw [hc'] at h2
    cases h2
    haveI : ((size : Int) == (first : Int)) = false := beq_eq_false_iff_ne.mpr fun e => h1 (Int.ofNat.inj e)
    rw [this] at hb
    exact absurd hb (by decide)
   rw [if_neg hstop, hc'] at hin2
   dsimp only at hin2
   generalize hw : (if c' = 92 then 2 else 1 : Nat) = w at hin2
   have w12 : 1 ≤ w ∧ w ≤ 2 := by rw [← hw]; split <;> decide
   haveI hld : ∃ low d, rest[size + w - 1]? = some low ∧ rest[size + w]? = some d := by
    cases q1 : rest[size + w - 1]? with
    | none => rw [q1] at hin2; exact absurd hin2.symm (some_ne_none _)
    | some low =>
     cases q2 : rest[size + w]? with
     | none => rw [q1, q2] at hin2; exact absurd hin2.symm (some_ne_none _)
     | some d => exact ⟨low, d, rfl, rfl⟩
   obtain ⟨low, d, hlow, hd⟩ := hld
   rw [hlow, hd] at hin2
   dsimp only at hin2
   have hdl : size + w < rest.length := (List.getElem?_eq_some_iff.mp hd).1
   apply X.U5 (b := (w : Int)) (c := ((size + w : Nat) : Int))
   walk_at "dc m kp"
   ·refine E.ife (r := .pv (.int (w : Int))) (b := [c'] == cs "\\") ?_ (fun h => ?_) fun h => ?_
    ·refine B.eqs (E.items (i := (size : Int)) (x := rest) ?_ ?_ (ib hlt24) (sat hc')) ?_ (by rfl)
     walk_at "e e e"
    ·have : c' = 92 := sgT h
     rw [← hw, if_pos this]; walk_at "ev"
    have : ¬ c' = 92 := sgF h
    rw [← hw, if_neg this]; walk_at "ev"
   ·rfl
   have ei : ((size + w : Nat) : Int) - 1 = ((size + w - 1 : Nat) : Int) := predI (Nat.le_trans hs1 (le_add_right ..))
   have hsw : size + w ≤ 2 ^ 24 := Nat.le_trans (Nat.le_of_lt hdl) hrl
   walk_at "asg"
   ·refine E.items (i := ((size + w : Nat) : Int) - 1) (x := rest) (c := low) ?_ ?_ (by rw [ei]; exact ib (Nat.le_trans (sub_le ..) hsw)) ((ei) ▸ sat hlow)
    walk_at "e e"
   walk_at "asgs"
   refine X.cut (fun s => ∃ (z hi : Nat), size < z ∧ z ≤ rest.length + 1 ∧ inR rest first signs fu z (mem ++ sel signs low hi) = some (zs, zm) ∧
    Has ⟨[("size", .pv (.int (z : Int))), ("low", .pv (.str [low])), ("high", .pv (.str [hi])), ("rest", .pv (.str rest)), ("signs", .pv (chs signs)), ("text", .eqa 2 ca), ("steps", .ptr 0), ("run", .ptr 2), ("first", .pv (.int (first : Int))), ("barred", .pv (.bool ([b] == cs "^"))), ("members", .ptr 1)], [(1, mem.map fun c => .str [c]), (0, pre.map stP ++ [.list [.str t, .adr ca]]), (2, run.map chs)]⟩ s) ?_ fun s hs => ?_
   ·refine X.ite (b := [d] == cs "-") ?_ (fun h => ?_) fun h => ?_
    ·refine B.eqs (E.items (i := ((size + w : Nat) : Int)) (x := rest) ?_ ?_ (ib hsw) (sat hd)) ?_ (by rfl)
     walk_at "e e e"
    ·haveI : d = 45 := sgT h
     rw [if_pos this] at hin2
     have hh : ∃ hi, rest[size + w + 1]? = some hi := by
      cases q : rest[size + w + 1]? with
      | none => rw [q] at hin2; exact absurd hin2.symm (some_ne_none _)
      | some hi => exact ⟨hi, rfl⟩
     obtain ⟨hi, hhi⟩ := hh
     rw [hhi] at hin2
     dsimp only at hin2
     have hhl : size + w + 1 < rest.length := (List.getElem?_eq_some_iff.mp hhi).1
     apply X.U5 (c := ((size + w + 2 : Nat) : Int))
     walk_at "dc m kp e rf"
     have ej : ((size + w + 2 : Nat) : Int) - 1 = ((size + w + 1 : Nat) : Int) := predI (succ_le_succ (zero_le _))
     walk_at "asg"
     ·refine E.items (i := ((size + w + 2 : Nat) : Int) - 1) (x := rest) (c := hi) ?_ ?_ (by rw [ej]; exact ib (Nat.le_trans (Nat.le_of_lt hhl) hrl)) ((ej) ▸ sat hhi)
      walk_at "e e"
     exact X.end (X.nil ⟨rfl, size + w + 2, hi, lt_of_le_of_lt (le_add_right size w) (lt_succ_of_lt (lt_succ_self _)), le_succ_of_le hhl, hin2, by walk_at "has"⟩)
    have : ¬ d = 45 := sgF h
    rw [if_neg this] at hin2
    exact X.end (X.nil ⟨rfl, size + w, low, Nat.lt_add_of_pos_right w12.1, Nat.le_of_lt (lt_succ_of_lt hdl), hin2, by walk_at "has"⟩)
   obtain ⟨z, hi, hz1, hz3, hin3, hh⟩ := hs
   refine X.has hh ?_
   haveI hsl : (sel signs low hi).length ≤ 10 := Nat.le_trans (length_filter_le _ _) (by assumption)
   apply X.ext (ys := (sel signs low hi).map fun c => .str [c]) G
   walk_at "dc rf s dc m m ko"
   ·refine E.Q9 (its := signs) (cv := fun c => [.str [c]]) (xs := ["sign"]) (l := [("low", .str [low]), ("high", .str [hi])]) G ?_ ?_ (.name _ _) (by decide) (fun _ => rfl) (I.T1 (c := fun c => .str [c]) ?_) hs24 (fun c2 G2 s hs => ?_) fun c2 G2 s hs hb => ?_
    walk_at "ck cp e"
    ·haveI e1 : ((decide (low ≤ s) && decide (s ≤ hi)) || decide (hi < low)) = ((decide (low ≤ s) && decide (s ≤ hi)) || (decide (hi < low) || false)) := by rw [Bool.or_false]
     rw [e1]
     refine B.or (B.between ?_ ?_ ?_ (by rfl)) fun _ => B.or (B.lt1 ?_ ?_ (by rfl)) fun _ => B.or0
     walk_at "e e e e e"
    walk_at "ev"
   ·rw [hmm, length_map]; lia
   refine X.W6 ⟨(z, mem ++ sel signs low hi, fu), ⟨hin3, ?_, Nat.le_trans hs1 (Nat.le_of_lt hz1), hz3⟩, lt_succ_self _, ?_⟩
   ·show (mem ++ sel signs low hi).length ≤ 10 * z
    rw [length_append]; exact Nat.le_trans (Nat.add_le_add hml hsl) (Nat.mul_le_mul_left 10 hz1)
   rw [← map_append]
   walk_at "has"
  haveI n5 : ¬ c = 91 := sgF h6
  generalize hw : (if c = 92 then 2 else 1 : Nat) = w at *
  have w12 : 1 ≤ w ∧ w ≤ 2 := by rw [← hw]; split <;> decide
  have hw1 : (if c = 92 then 1 else 0 : Nat) = w - 1 := by rw [← hw]; split <;> rfl
  haveI hd : ∃ d, (c :: r)[w - 1]? = some d ∧ q15 signs f ((c :: r).drop w) pre t (run ++ [signs.filter fun s => s == d]) = some res := by
   unfold stepS at hr
   rw [if_neg n1, if_neg n2] at hr
   simp only [if_neg n0, if_neg n4, if_neg n3, if_neg n5, hw1, hw] at hr
   cases q : (c :: r)[w - 1]? with
   | none => rw [q] at hr; exact absurd hr.symm (some_ne_none _)
   | some d => rw [q] at hr; exact ⟨d, rfl, hr⟩
  obtain ⟨d, hd1, hr2⟩ := hd
  clear hr
  have ei : ((w : Nat) : Int) - 1 = ((w - 1 : Nat) : Int) := predI w12.1
  walk_at "asg"
  ·refine E.ife (r := .pv (.int (w : Int))) (b := [c] == cs "\\") ?_ (fun h => ?_) fun h => ?_
   ·refine B.eqs (E.items (i := 0) (x := c :: r) ?_ ?_ (by decide) g0) ?_ (by rfl)
    walk_at "e e e"
   ·have : c = 92 := sgT h
    rw [← hw, if_pos this]; walk_at "ev"
   have : ¬ c = 92 := sgF h
   rw [← hw, if_neg this]; walk_at "ev"
  apply X.app (v := chs (signs.filter fun s => s == d)) G
  walk_at "dc rf s dc m m ko"
  ·refine E.Q9 (its := signs) (cv := fun c => [.str [c]]) (xs := ["sign"]) (l := [("rest", .str (c :: r)), ("size", .int (w : Int))]) G ?_ ?_ (.name _ _) (by decide) (fun _ => rfl) (I.T1 (c := fun c => .str [c]) ?_) hs24 (fun c2 G2 s hs => ?_) fun c2 G2 s hs hb => ?_
   walk_at "ck cp e"
   ·have e1 : (s == d) = (([s] : List Nat) == [d]) := by
     cases h : s == d with
     | true => rw [beq_iff_eq.mp h]; exact (beq_self_eq_true _).symm
     | false => symm; simpa using h
    rw [e1]
    refine B.eqs ?_ (E.items (i := ((w : Nat) : Int) - 1) (x := c :: r) (c := d) ?_ ?_ (by rw [ei]; exact ib (Nat.le_trans (sub_le ..) w12.2)) ((ei) ▸ sat hd1)) (by rfl)
    walk_at "e e e"
   walk_at "ev"
  ·exact hlm3
  refine X.end (X.end (X.end (X.end (X.end (X.end (X.nil ⟨rfl, w, pre, t, run ++ [signs.filter fun s => s == d], ca, w12.1, hr2, ?_, ?_⟩))))))
  ·rw [dl, length_append, length_singleton]; exact dropB hlen rp w12.1
  rw [map_append]
  walk_at "has"
 obtain ⟨z, p', t', r', c', hz0, hr', hl', hh⟩ := hs
 refine X.has hh ?_
 walk_at "asgs"
 refine X.W6 ⟨(rest.drop z, p', t', r', c', f), ⟨hr', hl'⟩, ?_, ?_⟩
 ·show (rest.drop z).length < rest.length
  rw [length_drop]; exact Nat.sub_lt (List.length_pos_iff.mpr hne) hz0
 rw [q31]
 walk_at "has"
noncomputable def missR (name : List Nat) (run : List (List Nat)) (p : Int) : List Int := (rngL 0 (run.length : Int)).filter fun k => !((run.getD k.toNat []).any fun c => [c] == [name.getD (p + k).toNat 0])
noncomputable def fitsR (name : List Nat) (run : List (List Nat)) (p : Int) : Bool := decide (p ≤ (name.length : Int) - (run.length : Int)) && ((missR name run p).isEmpty && true)
noncomputable def goOn (w : List Nat) (ps : List Int) : Bool := w != cs "here" && (!ps.isEmpty && true)
noncomputable def q20 (w : List Nat) (ps : List Int) (last : Int) : List Int := if goOn w ps then rngL (ps.headD 0) (last + 1) else ps
noncomputable def q43 (w : List Nat) (fs : List Int) : List Int := if w == cs "first" then cut none (some 1) fs else fs
noncomputable def turnR (name : List Nat) (ps : List Int) (s : List Nat × List (List Nat)) : List Int := (q43 s.1 ((q20 s.1 ps ((name.length : Int) - (s.2.length : Int))).filter (fitsR name s.2))).map fun p => p + (s.2.length : Int)
noncomputable def qc6 (name : List Nat) (steps : SS) : List Int := steps.foldl (turnR name) [0]
noncomputable def q58 (steps : SS) (name : List Nat) : Bool := (qc6 name steps).any fun p => p == (name.length : Int)
theorem qx2 {a b : Int} {m : Nat} (h : b - a ≤ (m : Int)) : (rngL a b).length ≤ m := by unfold rngL; rw [length_map, length_range]; lia
noncomputable def PlOK (name : List Nat) (ps : List Int) : Prop := (∀ p ∈ ps, 0 ≤ p ∧ p ≤ (name.length : Int)) ∧ ps.length ≤ 100
theorem qq0 {name : List Nat} {w : List Nat} {ps : List Int} {last : Int} (h : PlOK name ps) (hn : name.length ≤ 10) (hl : last ≤ (name.length : Int)) : (∀ p ∈ q20 w ps last, 0 ≤ p) ∧ (q20 w ps last).length ≤ 100 := by
 unfold q20
 split
 ·have h0 : 0 ≤ ps.headD 0 := by
   cases ps with
   | nil => exact Int.le_refl _
   | cons a l => exact (h.1 a (.head _)).1
  exact ⟨fun p hp => Int.le_trans h0 (qj7 hp).1, qx2 (by lia)⟩
 exact ⟨fun p hp => (h.1 p hp).1, h.2⟩
theorem first_sub {w : List Nat} {fs : List Int} : (∀ p ∈ q43 w fs, p ∈ fs) ∧ (q43 w fs).length ≤ fs.length := by
 unfold q43
 split
 ·exact ⟨fun p hp => mem_of_mem_drop (List.mem_of_mem_take hp), q44 ..⟩
 exact ⟨fun _ h => h, Nat.le_refl _⟩
theorem z76 {name : List Nat} {ps : List Int} {s : List Nat × List (List Nat)} (h : PlOK name ps) (hn : name.length ≤ 10) : PlOK name (turnR name ps s) := by
 have t := qq0 (w := s.1) (last := (name.length : Int) - (s.2.length : Int)) h hn (by lia)
 unfold turnR
 refine ⟨fun p hp => ?_, ?_⟩
 ·obtain ⟨q, hq, rfl⟩ := mem_map.mp hp
  obtain ⟨m1, m2⟩ := mem_filter.mp (first_sub.1 q hq)
  have := t.1 q m1
  unfold fitsR at m2
  have := of_decide_eq_true (and_eq_true_iff.mp m2).1
  lia
 rw [length_map]
 exact Nat.le_trans first_sub.2 (Nat.le_trans (length_filter_le ..) t.2)
theorem qs5 {Γ : Cx} {P : Params} (KX : (hdK P).In Γ.hB) (steps : SS) (name : List Nat) (hn : name.length ≤ 10) (hr : ∀ p ∈ steps, p.2.length ≤ 2 ^ 20) (blen : Γ.mg (ofString "len") = none) (brange : Γ.mg (ofString "range") = none) :
  FSpec Γ 6 147 [.list (steps.map stP), .str name] (.bool (q58 steps name)) := by
 refine FSpec.W4 KX (ps := ["steps", "name"]) (ns := ["steps", "name", "places", "way", "run", "last", "tries", "fits", "place"]) (v := [("steps", .pv (.list (steps.map stP))), ("name", .pv (.str name))]) (by rfl) (by rfl) (by rfl) ?_ ?_ (by rfl) ⟨rfl, rfl, rfl, rfl, rfl⟩ (by rfl) ?_
 ·walk_at "cok"
 ·intro Vs h
  obtain ⟨a, b, rfl⟩ := len2 h; rfl
 intro kf env G
 try dsimp only at G
 have hnn : name.length ≤ 2 ^ 24 := by lia
 apply X.asg (r := .pv (.list [.int 0]))
 walk_at "dc rf kp"
 ·refine E.list (EA.cons E.int EA.nil (by intro _; rfl)) (by decide)
 have h00 : PlOK name [0] := ⟨fun p hp => by rw [mem_singleton.mp hp]; exact ⟨Int.le_refl _, by lia⟩, by decide⟩
 refine X.forM (ι := List Int) (its := steps.map fun p => [.str p.1, .list (p.2.map chs)]) (xs := ["way", "run"]) (fun ps => ⟨[("name", .pv (.str name)), ("places", .pv (.list (ps.map .int)))], []⟩)
  (fun j ps => ps = qc6 name (steps.take j) ∧ PlOK name ps) (.tup ["way", "run"] [_, _] _ _ rfl) (by decide) (by decide) (I.R1 ?_) ?_ ?_ [0] ?_ ⟨rfl, h00⟩ (fun j x ps hx ht => ?_) (fun ps ht => ?_) ?_
 ·rw [map_map]
  walk_at "ev"
 ·intro x hx
  obtain ⟨y, _, rfl⟩ := mem_map.mp hx
  rfl
 ·intro t p hp
  simp only [mem_cons, not_mem_nil, or_false] at hp
  rcases hp with rfl | rfl <;> simp
 ·walk_at "has"
 ·rw [getElem?_map] at hx
  obtain ⟨⟨w, run⟩, hs, rfl⟩ := map_eq_some_iff.mp hx
  obtain ⟨hps, hok⟩ := ht
  have hrl : run.length ≤ 2 ^ 20 := hr _ (mem_of_getElem? hs)
  have hrm : (run.map chs).length = run.length := length_map ..
  have hrm2 : (run.map chs).length < 2 ^ 60 := by lia
  have hnext : qc6 name (steps.take (j + 1)) = turnR name ps (w, run) := by
   rw [hps, take_add_one, hs]
   unfold qc6
   rw [List.foldl_append]; rfl
  have hok2 := z76 (s := (w, run)) hok hn
  rw [← hnext] at hok2
  have htk := qq0 (w := w) (last := (name.length : Int) - (run.length : Int)) hok hn (by lia)
  unfold turnR at hnext
  dsimp only at hnext
  unfold fitsR at hnext
  dsimp only [List.zip, List.zipWith, List.map, cons_append, nil_append]
  apply X.asg (r := .pv (.int ((name.length : Int) - (run.length : Int))))
  walk_at "dc rf kp"
  ·rw [← hrm]
   walk_at "ev"
  have hl2 : (name.length : Int) - (run.length : Int) ≤ 10 := by lia
  have hl3 : -(2 ^ 20) ≤ (name.length : Int) - (run.length : Int) := by lia
  have hin : ∀ p k : Int, 0 ≤ p → p ≤ (name.length : Int) - (run.length : Int) → 0 ≤ k → k < run.length → (p + k).toNat < name.length := by intros; lia
  generalize (name.length : Int) - (run.length : Int) = last at *
  have hpm : (ps.map PV.int).length = ps.length := length_map ..
  apply X.asg (r := .pv (if goOn w ps then .rng (ps.headD 0) (last + 1) else .list (ps.map .int)))
  walk_at "dc rf kp"
  ·refine E.ife (b := goOn w ps) (B.and (B.nes ?_ ?_ (by rfl)) fun _ => B.and ?_ fun _ => B.Y8) (fun h => ?_) fun h => ?_
   walk_at "e e"
   ·rw [← qh7]
    refine B.net (.list .int) ?_ (E.list EA.nil (by decide)) ?_ ?_ (by decide) (by rfl)
    ·walk_at "ev"
    ·intro y hy
     obtain ⟨p, _, rfl⟩ := mem_map.mp hy; trivial
    intro y hy; cases hy
   ·rw [if_pos h]
    unfold goOn at h
    have hne : ps ≠ [] := fun e => by rw [e] at h; simp at h
    apply E.Y1
    ·walk_at "bn"
    ·refine E.Q2 (EL.of (xs := ps.map .int) ?_) (i := 0) ?_ (by decide) (by decide) ?_
     walk_at "e e"
     cases ps with
     | nil => exact absurd rfl hne
     | cons a l => rfl
    walk_at "e s s"
   rw [if_neg (by rw [h]; decide)]
   walk_at "ev"
  generalize hV : (if goOn w ps then PV.rng (ps.headD 0) (last + 1) else .list (ps.map .int)) = V
  apply X.own 0 (xs := [])
  walk_at "dc rf kp rf rf"
  ·exact EF.list EA.nil (by decide)
  refine X.forM (ι := List Int) (its := (q20 w ps last).map fun i => [.int i]) (xs := ["place"]) (fun fs => ⟨[("name", .pv (.str name)), ("way", .pv (.str w)), ("run", .pv (.list (run.map chs))), ("last", .pv (.int last)), ("fits", .ptr 0)], [(0, fs.map .int)]⟩)
   (fun j fs => fs = ((q20 w ps last).take j).filter fun p => decide (p ≤ last) && ((missR name run p).isEmpty && true)) (.name _ _) (by decide) (by decide) ?_ ?_ ?_ [] ?_ rfl (fun j2 x fs hx2 hf => ?_) (fun fs hf => ?_) ?_
  ·have h0 : 0 ≤ ps.headD 0 ∧ ps.headD 0 ≤ 10 := by
    cases ps with
    | nil => exact ⟨Int.le_refl _, by decide⟩
    | cons a l => have := hok.1 a (.head _); exact ⟨this.1, by show a ≤ 10; lia⟩
   unfold q20
   split at hV
   ·rename_i h
    rw [if_pos h]
    subst hV
    refine I.rng (a := ps.headD 0) (b := last + 1) ?_ (by lia) (by lia)
    walk_at "ev"
   rename_i h
   rw [if_neg h]
   subst hV
   refine I.T1 (c := .int) ?_
   walk_at "ev"
  ·intro x hx
   obtain ⟨y, _, rfl⟩ := mem_map.mp hx
   rfl
  ·intro t p hp
   simp only [mem_cons, not_mem_nil, or_false] at hp
   rcases hp with rfl | rfl | rfl | rfl | rfl <;> simp
  ·walk_at "has"
  ·rw [getElem?_map] at hx2
   obtain ⟨p, hp, rfl⟩ := map_eq_some_iff.mp hx2
   have hp0 := htk.1 p (mem_of_getElem? hp)
   have htake : (q20 w ps last).take (j2 + 1) = (q20 w ps last).take j2 ++ [p] := by rw [take_add_one, hp]; rfl
   have hfl : (fs.map PV.int).length ≤ 2 ^ 24 := by
    rw [length_map, hf]
    have h1 := length_filter_le (fun p => decide (p ≤ last) && ((missR name run p).isEmpty && true)) ((q20 w ps last).take j2)
    have h2 : ((q20 w ps last).take j2).length ≤ (q20 w ps last).length := by rw [length_take]; lia
    lia
   dsimp only [List.zip, List.zipWith, List.map, cons_append, nil_append]
   refine X.ite (b := decide (p ≤ last) && ((missR name run p).isEmpty && true)) ?_ (fun h => ?_) (fun h => ?_)
   ·refine B.and (B.lei ?_ ?_ (by rfl)) fun hle => B.and ?_ fun _ => B.Y8
    walk_at "e e"
    rw [← qh7]
    have hle := of_decide_eq_true hle
    refine B.eqt (.list .int) ?_ (E.list EA.nil (by decide)) ?_ ?_ (by decide) (by rfl)
    ·unfold missR
     refine E.Q9 (its := rngL 0 (run.length : Int)) (cv := fun k => [.int k]) (f := fun k => .int k) (xs := ["k"]) (l := [("name", .str name), ("place", .int p), ("run", .list (run.map chs))]) G ?_ ?_ (.name _ _) (by decide) (fun _ => rfl) (I.rng (a := 0) (b := (run.length : Int)) ?_ (by lia) (by lia)) ?_ (fun c2 G2 k hk => ?_) fun c2 G2 k hk hb => ?_
     walk_at "ck cp"
     ·rw [← hrm]
      walk_at "ev"
     ·rw [qg7]; lia
     ·have hk := qj7 hk
      rw [← qi6]
      refine B.O0 .str (E.items (i := p + k) (x := name) (c := name.getD (p + k).toNat 0) ?_ ?_ (by lia) ?_) (EL.of (E.Q2 (EL.of (xs := run.map chs) ?_) (i := k) ?_ hk.1 (by lia) (q19 _ (by lia)))) trivial (q53 _) (by decide) (by rfl)
      walk_at "e e"
      ·have hlt := hin p k hp0 hle hk.1 hk.2
       have := sat (qo7 (d := 0) hlt)
       rwa [show (((p + k).toNat : Nat) : Int) = p + k by lia] at this
      walk_at "e e"
     walk_at "ev"
    ·intro y hy
     obtain ⟨p, _, rfl⟩ := mem_map.mp hy; trivial
    intro y hy; cases hy
   ·apply X.app (v := .int p) G
    walk_at "dc rf s dc m m ko e"
    ·exact hfl
    refine X.end (X.W6 ⟨fs ++ [p], ?_, ?_⟩)
    ·rw [htake, filter_append, ← hf]
     congr 1
     show _ = List.filter _ [p]
     rw [List.filter_cons_of_pos (p := fun p => decide (p ≤ last) && ((missR name run p).isEmpty && true)) h]; rfl
    rw [map_append]; walk_at "has"
   refine X.end (X.W6 ⟨fs, ?_, ?_⟩)
   ·rw [htake, filter_append, ← hf]
    have : List.filter (fun p => decide (p ≤ last) && ((missR name run p).isEmpty && true)) [p] = [] := by rw [List.filter_cons_of_neg (p := fun p => decide (p ≤ last) && ((missR name run p).isEmpty && true)) (by rw [h]; decide)]; rfl
    rw [this, append_nil]
   walk_at "has"
  ·rw [length_map, take_length] at hf
   rw [← hf] at hnext
   have hfl : fs.length ≤ 100 := by rw [hf]; exact Nat.le_trans (length_filter_le ..) htk.2
   have hfm : (fs.map PV.int).length = fs.length := length_map ..
   apply X.freeze (k := 0)
   walk_at "m fz ko"
   refine X.cut (fun s => Has ⟨[("name", .pv (.str name)), ("run", .pv (.list (run.map chs))), ("fits", .pv (.list ((q43 w fs).map .int)))], []⟩ s) ?_ fun s hs => X.has hs ?_
   ·unfold q43
    refine X.ite (b := w == cs "first") ?_ (fun h => ?_) (fun h => ?_)
    ·walk_at "tst"
    ·rw [if_pos h, ← qh9]
     walk_at "asgs"
     exact X.end (X.nil ⟨rfl, by walk_at "has"⟩)
    rw [if_neg (by rw [h]; decide)]
    exact X.end (X.nil ⟨rfl, by walk_at "has"⟩)
   have hfr := (first_sub (w := w) (fs := fs)).2
   generalize q43 w fs = fr at *
   refine X.comp (its := fr) (cv := fun p => [.int p]) (f := fun p => .int (p + (run.length : Int))) (xs := ["fit"]) (l := [("run", .list (run.map chs))]) (rest := [("name", .pv (.str name)), ("run", .pv (.list (run.map chs))), ("fits", .pv (.list (fr.map .int)))]) G (by decide) ?_ ?_ ?_ (.name _ _) (by decide) (fun _ => rfl) (I.T1 (c := .int) ?_) (by lia) (fun c2 G2 p hp => ?_) (by rfl) ?_
   walk_at "kp ck cp e"
   ·rw [← hrm]
    walk_at "ev"
   refine X.W6 ⟨qc6 name (steps.take (j + 1)), ⟨rfl, hok2⟩, ?_⟩
   rw [hnext, map_map]
   walk_at "has"
  intro _; rfl
 ·obtain ⟨hps, hok⟩ := ht
  rw [length_map, take_length] at hps
  refine X.ret (v := .bool (q58 steps name)) ?_ rfl
  unfold q58
  rw [← hps]
  have e : (ps.any fun p => p == (name.length : Int)) = (ps.map PV.int).any fun v => eqp .int v (.int (name.length : Int)) := by rw [List.any_map]; rfl
  rw [e]
  refine E.inl .int ?_ (EL.of ?_) trivial ?_ (by decide) (by rfl)
  walk_at "e e"
  intro y hy
  obtain ⟨p, _, rfl⟩ := mem_map.mp hy; trivial
 intro _; rfl
theorem ffK (P : Params) : FF (hdK P) 102 84 91 98 103 104 := by constructor <;> rfl
theorem qo9 {K : Frag} {hB : Heap} {f : Addr} {fd : FuncData} {body : List Stmt} {c : Addr} {cvs : Array Value} {t : Tok} (KX : K.In hB) (e1 : (K.lookup f).map Obj.data = some (.func fd)) (hb : fd.body = .stmts body)
  (hc : fd.code = .ref c) (e2 : (K.lookup c).map (fun o => (isTb o, o.data)) = some (false, .fields cvs)) (hc1 : cvs[1]? = some (.str fd.qualname t))
  (hr : fd.closure = [] ∧ fd.globals = mainGlobals ∧ fd.builtins = builtinsNs ∧ fd.scope.kind = .function ∧ fd.scope.isCoroutine = false ∧ fd.scope.isGenerator = false) : FnAt hB f fd body := by
 obtain ⟨o, ho, hd⟩ := map_eq_some_iff.mp e1
 obtain ⟨oc, hoc, hcd⟩ := map_eq_some_iff.mp e2
 exact ⟨⟨o, KX _ _ ho, hd⟩, ⟨c, oc, cvs, t, hc, KX _ _ hoc, congrArg Prod.fst hcd, congrArg Prod.snd hcd, hc1⟩, hb, hr.1, hr.2.1, hr.2.2.1, hr.2.2.2.1, hr.2.2.2.2.1, hr.2.2.2.2.2⟩
theorem ffS {Γ : Cx} {P : Params} (KX : (hdK P).In Γ.hB) (gi : Γ.mg (ofString "iter") = none) (gn : Γ.mg (ofString "next") = none) (gb : Γ.mg (ofString "bool") = none) (k : List Addr) : FFs (Γ.on k) (hdK P) 102 84 91 98 103 104 where
 FC := ffK P
 KX := KX
 init := by
  refine ⟨_, qo9 KX (by rfl) (by rfl) (by rfl) (by rfl) (by rfl) ⟨rfl, rfl, rfl, rfl, rfl, rfl⟩, by rfl, fun a b c => by rfl⟩
 iter := by
  refine ⟨_, qo9 KX (by rfl) (by rfl) (by rfl) (by rfl) (by rfl) ⟨rfl, rfl, rfl, rfl, rfl, rfl⟩, by rfl, fun a => by rfl⟩
 next := by
  refine ⟨_, qo9 KX (by rfl) (by rfl) (by rfl) (by rfl) (by rfl) ⟨rfl, rfl, rfl, rfl, rfl, rfl⟩, by rfl, fun a => by rfl⟩
 gi := gi
 gn := gn
 gb := gb
theorem qd4 {Γ : Cx} {P : Params} (KX : (hdK P).In Γ.hB) (gi : Γ.mg (ofString "iter") = none) (gn : Γ.mg (ofString "next") = none) (gb : Γ.mg (ofString "bool") = none) (gl : Γ.mg (ofString "list") = none) (gf : Γ.mg (ofString "filterfalse") = some (.ref 102)) (xs ys : List (List Nat)) (hz : xs.length ≤ 2 ^ 24) :
  FSpec Γ 6 113 [.list (xs.map .str), .list (ys.map .str)] (.list ((xs.filter fun x => !ys.any fun y => y == x).map .str)) := by
 refine qp0 (ffS KX gi gn gb) (by rfl) (by rfl) (by rfl) (by rfl) (by rfl) (by rfl) (by rfl) (fun Vs h => ?_) ⟨rfl, rfl, rfl, rfl, rfl⟩ gl gf xs ys hz
 obtain ⟨a, b, rfl⟩ := len2 h; rfl
noncomputable def mapL : List (Nat × Tok × Tok) := spc.zipIdx.map fun p => (p.1, 334 + 6 * p.2, 338 + 6 * p.2)
theorem qp1 {n : Nat} {Γ : Cx} {P : Params} (KX : (hdK P).In Γ.hB) (c : Nat) (gi : Γ.mg (ofString "isinstance") = none) (gs : Γ.mg (ofString "str") = none) (gm : Γ.mg (ofString "_special_chars_map") = some (.ref 45)) :
  FSpec Γ (n + 1) 55 [.str [c]] (.str (W5 c)) := by
 refine FSpec.W4 KX (ps := ["pattern"]) (ns := ["pattern"]) (v := [("pattern", .pv (.str [c]))]) (by rfl) (by rfl) (by rfl) ?_ ?_ (by rfl) ⟨rfl, rfl, rfl, rfl, rfl⟩ (by rfl) ?_
 ·walk_at "cok"
 ·intro Vs h
  obtain ⟨a, rfl⟩ := len1 h; rfl
 intro kf env G
 try dsimp only at G
 have hm : (Γ.on kf).hB.MapOf (PySem.intKind (Γ.on kf).prog (Γ.on kf).w) 45 (fun k => findBy Value.isInt (mapL.map entOf).toArray k) :=
  z60 (KX 45 _ (by rfl)) ⟨rfl, rfl, rfl⟩ (k := 24) (by rfl) (by decide)
 apply X.ite
 ·have b1 : BN (Γ.on kf) env _ (ofString "isinstance") (.builtin "isinstance") := ⟨G, by rfl, gi, by rfl, by decide, by decide⟩
  have b2 : BN (Γ.on kf) env _ (ofString "str") (.type "str") := ⟨G, by rfl, gs, by rfl, by decide, by decide⟩
  refine B.ofBool (E.isStr (a := [c]) b1 b2 ?_ ?_ ?_) (by rfl)
  walk_at "e s s"
 ·intro _
  apply X.ret
  ·refine E.R8 (c := c) G (by rfl) gm (by rfl) hm (by rfl) (z08 (by rfl)) ?_ (by rfl) (by rfl)
   walk_at "ev"
  rfl
 intro h; cases h
noncomputable def trEs : List (Pos × Str) := [(⟨62, 37, 62, 98⟩, ofString "_translate" ++ ".<locals>." ++ "<genexpr>"), (⟨63, 39, 63, 76⟩, ofString "_translate" ++ ".<locals>." ++ "<lambda>")]
theorem q26 (d : Nat) (r : List Nat) : W8 (d :: r) = if d = 33 then 94 :: r else if d = 94 ∨ d = 91 then 92 :: d :: r else d :: r := rfl
theorem zb6 {P : Params} {h : Heap} (KX : (hdK P).In h) : PatAt h 36 :=
 have e : (twinCode.map fun k : Nat => rawInt (k : Int)) = #[rawInt 14, rawInt 14, rawInt 4, rawInt 1, rawInt 1, rawInt 9, rawInt 0, rawInt 64, rawInt 0, rawInt 1342177280, rawInt 0, rawInt 0, rawInt 0, rawInt 0, rawInt 0, rawInt 17, rawInt 0, rawInt 13, rawInt 11, rawInt 9, rawInt 0, rawInt 64, rawInt 0, rawInt 1342177280, rawInt 0, rawInt 0, rawInt 0, rawInt 0, rawInt 0, rawInt 17, rawInt 1, rawInt 1] := by simp [twinCode]
 ⟨_, _, _, _, _, 35, KX 36 _ (by rfl), rfl, rfl, rfl, 0, by rw [e]; exact KX 35 _ (by rfl)⟩
theorem trR_s {k c : Nat} {r : List Nat} {res : List Part} (h : c = 42) : trR (k + 1) (c :: r) res = trR k r (if res.getLast? = some none then res else res ++ [none]) := by rw [h]; rfl
theorem trR_q {k c : Nat} {r : List Nat} {res : List Part} (h : c = 63) : trR (k + 1) (c :: r) res = trR k r (res ++ [some [46]]) := by rw [h]; rfl
theorem trR_b {k c : Nat} {r : List Nat} {res : List Part} (h : c = 91) : trR (k + 1) (c :: r) res = if Q1 r < r.length then (R5 (r.take (Q1 r))).bind fun t => trR k (r.drop (Q1 r + 1)) (res ++ [some (W7 (Q4 t))]) else trR k r (res ++ [some [92, 91]]) := by rw [h]; rfl
theorem trR_e {k c : Nat} {r : List Nat} {res : List Part} (n1 : ¬ c = 42) (n2 : ¬ c = 63) (n3 : ¬ c = 91) : trR (k + 1) (c :: r) res = trR k r (res ++ [some (W5 c)]) := (if_neg n1).trans ((if_neg n2).trans (if_neg n3))
theorem trR_n {k : Nat} {a b : List Part} (h : trR (k + 1) [] a = some b) : a = b := Option.some.inj h
theorem qs4 {Γ : Cx} {P : Params} (KX : (hdK P).In Γ.hB) (m : Nat) (pat : List Nat) (a k : Nat) (res : List Part) (hz : pat.length ≤ 2 ^ 9) (hk : trR k pat [] = some res)
  (gi : Γ.mg (ofString "isinstance") = none) (gs : Γ.mg (ofString "str") = none) (gm : Γ.mg (ofString "_special_chars_map") = some (.ref 45)) (gl : Γ.mg (ofString "len") = none) (gr : Γ.mg (ofString "range") = none)
  (ge : Γ.mg (ofString "escape") = some (.ref 55)) (gt : Γ.mg (ofString "_twin_re_1") = some (.ref 36)) (hT : Γ.tabs = [(57, trEs)]) (ba : BA Γ) :
  FSpec Γ (m + 3) 62 [.str pat, .obj a, .str [46]] (.list (res.map (PTv a))) := by
 refine FSpec.introC KX (ps := ["pat", "STAR", "QUESTION_MARK"]) (ns := ["pat", "STAR", "QUESTION_MARK", "res", "add", "i", "n", "c", "j", "stuff", "chunks", "k", "chunk"]) (v := [("pat", .pv (.str pat)), ("STAR", .pv (.obj a)), ("QUESTION_MARK", .pv (.str [46]))]) (by rfl) (by rfl) (by rfl) (by rfl) (by rfl) ?_ ?_ (by rfl) ⟨rfl, rfl, rfl, rfl, rfl⟩ (by rfl) ?_
 ·walk_at "cok"
 ·intro Vs h
  obtain ⟨a, b, c, rfl⟩ := len3 h; rfl
 intro kf env G cq
 try dsimp only at G
 obtain ⟨cq1, cq2⟩ := cq
 apply X.own 0 (xs := [])
 walk_at "dc rf kp rf rf"
 ·exact EF.list EA.nil (by decide)
 walk_at "asg"
 ·apply E.appA G
  walk_at "m m dc"
  with_unfolding_all rfl
 haveI bl : BN (Γ.on kf) env _ (ofString "len") (.builtin "len") := ⟨G, by rfl, gl, by rfl, by decide, by decide⟩
 apply X.swap2 (v := .int (pat.length : Int))
 walk_at "dc dc kp kp"
 ·refine E.len_str bl ?_ (by lia) (by intro _; rfl)
  walk_at "ev"
 walk_at "s s rf"
 ·exact qf1 G fun _ => by kernel_rfl
 have CH : CodeHd Γ.hB 61 57 := codeHd_of_K KX (by rfl)
 haveI hcode : env.code = .ref 61 := cq1
 haveI hqual : env.qual = ofString "_translate" ++ ".<locals>." := cq2
 have hPl : ∀ l : List Part, (l.map (PTv a)).length = l.length := fun l => length_map ..
 refine X.R2 (ι := Nat × List Part × Nat) (fun i => ⟨[("pat", .pv (.str pat)), ("STAR", .pv (.obj a)), ("QUESTION_MARK", .pv (.str [46])), ("res", .ptr 0), ("add", .app 0), ("i", .pv (.int (i.1 : Int))), ("n", .pv (.int (pat.length : Int)))], [(0, i.2.1.map (PTv a))]⟩)
  (fun i => i.1 ≤ pat.length ∧ trR i.2.2 (pat.drop i.1) i.2.1 = some res ∧ i.2.1.length ≤ i.1) (fun i => pat.length - i.1) (0, [], k) ?_ ⟨zero_le _, by rw [drop_zero]; exact hk, Nat.le_refl _⟩ fun i hi => ?_
 ·walk_at "has"
 obtain ⟨z, out, f⟩ := i
 obtain ⟨hz1, hr, hol⟩ := hi
 dsimp only at hz1 hr hol ⊢
 haveI hz2 : pat.length ≤ 2 ^ 24 := by lia
 obtain ⟨f, rfl⟩ : ∃ g, f = g + 1 := by
  cases f with
  | zero => exact absurd hr.symm (some_ne_none _)
  | succ g => exact ⟨g, rfl⟩
 refine ⟨decide ((z : Int) < (pat.length : Int)), ?_, fun hb => ?_, fun hb => ?_⟩
 ·walk_at "tst"
 ·have hze : z = pat.length := by have := of_decide_eq_false hb; lia
  subst hze
  have hres : out = res := by
   rw [drop_length] at hr
   exact trR_n hr
  subst hres
  apply X.assert
  ·haveI : ((pat.length : Int) == (pat.length : Int)) = true := beq_self_eq_true _
   rw [← this]
   walk_at "tst"
  apply X.freeze (k := 0)
  walk_at "m fz ko"
  refine X.ret ?_ rfl
  walk_at "ev"
 have hlt : z < pat.length := by have := of_decide_eq_true hb; lia
 have hdrop : pat.drop z = pat[z] :: pat.drop (z + 1) := drop_eq_getElem_cons hlt
 rw [hdrop] at hr
 haveI hcz : pat[z]? = some pat[z] := List.getElem?_eq_getElem hlt
 generalize hc : pat[z] = c at hr hcz
 have hoz : (out.map (PTv a)).length ≤ 2 ^ 24 := by rw [hPl]; lia
 walk_at "asg"
 ·refine E.items (i := (z : Int)) (x := pat) (c := c) ?_ ?_ (by lia) (sat hcz)
  walk_at "e e"
 walk_at "asg"
 ·refine E.T8 (a := (z : Int)) (b := 1) (c := ((z + 1 : Nat) : Int)) ?_ ?_ rfl
  walk_at "e e"
 refine X.ite (b := [c] == cs "*") ?_ (fun h1 => ?_) (fun h1 => ?_)
 ·walk_at "tst"
 ·have hc2 : c = 42 := sgT h1
  rw [trR_s hc2] at hr
  have hlast : ∀ p, out.getLast? = some p → (out.map (PTv a))[((-1 : Int) + (out.map (PTv a)).length).toNat]? = some (PTv a p) ∧ 1 ≤ out.length := fun p hp => by
   rw [List.getLast?_eq_getElem?] at hp
   haveI hpl := (List.getElem?_eq_some_iff.mp hp).1
   rw [hPl, neg1, getElem?_map, hp]
   exact ⟨rfl, by lia⟩
  refine X.ite (b := decide (out.getLast? ≠ some none)) ?_ (fun hs => ?_) (fun hs => ?_)
  ·cases hlo : out.getLast? with
   | none =>
    haveI ho0 : out = [] := List.getLast?_eq_none_iff.mp hlo
    have e : ((!(!(out.map (PTv a)).isEmpty)) || true) = decide ((none : Option Part) ≠ some none) := by rw [Bool.or_true]; rfl
    rw [← e]
    refine B.or (B.not (B.ofList (EL.own (j := 0) G ?_ ?_ (by decide)) (by rw [hPl]; lia) (by rfl))) fun h => ?_
    walk_at "m m"
    subst ho0; exact absurd h.symm Bool.false_ne_true
   | some p =>
    obtain ⟨hg, h1l⟩ := hlast p hlo
    have he0 : (out.map (PTv a)).isEmpty = false := by
     cases out with
     | nil => simp at h1l
     | cons q r => rfl
    cases p with
    | none =>
     have e : ((!(!(out.map (PTv a)).isEmpty)) || ((a != a) || false)) = decide (some (none : Part) ≠ some none) := by rw [he0]; simp
     rw [← e]
     refine B.or (B.not (B.ofList (EL.own (j := 0) G ?_ ?_ (by decide)) (by rw [hPl]; lia) (by rfl))) fun h => B.or (B.isnotO (a := a) (b := a) (E.Y5 (i := -1) (EL.own (j := 0) G ?_ ?_ (by decide)) ?_ (by decide) (by decide) (by rw [hPl]; lia) hg) ?_ (by rfl)) fun _ => B.or0
     walk_at "m m m m e e"
    | some s =>
     have e : ((!(!(out.map (PTv a)).isEmpty)) || (true || false)) = decide (some (some s : Part) ≠ some none) := by rw [he0]; simp
     rw [← e]
     refine B.or (B.not (B.ofList (EL.own (j := 0) G ?_ ?_ (by decide)) (by rw [hPl]; lia) (by rfl))) fun h => B.or (B.isnotS (a := s) (b := a) (E.Y5 (i := -1) (EL.own (j := 0) G ?_ ?_ (by decide)) ?_ (by decide) (by decide) (by rw [hPl]; lia) hg) ?_ (by rfl)) fun _ => B.or0
     walk_at "m m m m e e"
  ·rw [if_neg (of_decide_eq_true hs)] at hr
   apply X.add (v := .obj a) G
   walk_at "rf s dc m m ko e"
   ·exact hoz
   refine X.end (X.end (X.W6 ⟨(z + 1, out ++ [none], f), ⟨hlt, hr, by rw [length_append, length_singleton]; exact succ_le_succ hol⟩, by dsimp only; exact sub_lt_sub_left hlt (lt_succ_self z), ?_⟩))
   dsimp only
   rw [map_append]
   walk_at "has"
  rw [if_pos (by simpa using hs)] at hr
  refine X.end (X.end (X.W6 ⟨(z + 1, out, f), ⟨hlt, hr, le_succ_of_le hol⟩, by dsimp only; exact sub_lt_sub_left hlt (lt_succ_self z), ?_⟩))
  walk_at "has"
 have n1 : ¬ c = 42 := sgF h1
 refine X.ite (b := [c] == cs "?") ?_ (fun h2 => ?_) (fun h2 => ?_)
 ·walk_at "tst"
 ·have hc2 : c = 63 := sgT h2
  rw [trR_q hc2] at hr
  apply X.add (v := .str [46]) G
  walk_at "rf s dc m m ko e"
  ·exact hoz
  refine X.end (X.end (X.W6 ⟨(z + 1, out ++ [some [46]], f), ⟨hlt, hr, by rw [length_append, length_singleton]; exact succ_le_succ hol⟩, by dsimp only; exact sub_lt_sub_left hlt (lt_succ_self z), ?_⟩))
  dsimp only
  rw [map_append]
  walk_at "has"
 haveI n2 : ¬ c = 63 := sgF h2
 refine X.ite (b := [c] == cs "[") ?_ (fun h3 => ?_) (fun h3 => ?_)
 ·walk_at "tst"
 ·haveI hc3 : c = 91 := sgT h3
  rw [trR_b hc3] at hr
  generalize hrr : pat.drop (z + 1) = r at hr
  have hrat : ∀ v : Nat, r[v]? = pat[z + 1 + v]? := fun v => by rw [← hrr, getElem?_drop]
  have hrl : r.length = pat.length - (z + 1) := by rw [← hrr, length_drop]
  haveI hclose := z62 r
  walk_at "asgs"
  refine X.cut (fun s => Has ⟨[("pat", .pv (.str pat)), ("STAR", .pv (.obj a)), ("QUESTION_MARK", .pv (.str [46])), ("res", .ptr 0), ("add", .app 0), ("i", .pv (.int ((z + 1 : Nat) : Int))), ("n", .pv (.int (pat.length : Int))), ("j", .pv (.int ((z + 1 + Q5 r : Nat) : Int)))], [(0, out.map (PTv a))]⟩ s) ?_ fun s1 hs1 => ?_
  ·refine X.ite (b := decide (pat[z + 1]? = some 33)) (B.atEq ?_ ?_ ?_ ?_ ?_ (by lia) (by rfl) (by rfl) (by intro _ _; rfl)) (fun h => ?_) fun h => ?_
   walk_at "e e e e"
   ·exact E.str
   ·have e1 : Q5 r = 1 := by unfold Q5; rw [hrat, if_pos (of_decide_eq_true h)]
    rw [e1]
    walk_at "asg"
    ·refine E.T8 (a := ((z + 1 : Nat) : Int)) (b := 1) (c := ((z + 1 + 1 : Nat) : Int)) ?_ ?_ rfl
     walk_at "e e"
    refine X.end (X.nil ⟨rfl, ?_⟩)
    walk_at "has"
   have e1 : Q5 r = 0 := by unfold Q5; rw [hrat, if_neg (of_decide_eq_false h)]
   rw [e1]
   refine X.end (X.nil ⟨rfl, ?_⟩)
   walk_at "has"
  refine X.has hs1 ?_
  clear hs1 s1
  refine X.cut (fun s => Has ⟨[("pat", .pv (.str pat)), ("STAR", .pv (.obj a)), ("QUESTION_MARK", .pv (.str [46])), ("res", .ptr 0), ("add", .app 0), ("i", .pv (.int ((z + 1 : Nat) : Int))), ("n", .pv (.int (pat.length : Int))), ("j", .pv (.int ((z + 1 + Q3 r : Nat) : Int)))], [(0, out.map (PTv a))]⟩ s) ?_ fun s1 hs1 => ?_
  ·refine X.ite (b := decide (pat[z + 1 + Q5 r]? = some 93)) (B.atEq ?_ ?_ ?_ ?_ ?_ (by lia) (by rfl) (by rfl) (by intro _ _; rfl)) (fun h => ?_) fun h => ?_
   walk_at "e e e e"
   ·exact E.str
   ·have e1 : Q3 r = Q5 r + 1 := by unfold Q3; rw [hrat, if_pos (of_decide_eq_true h)]
    rw [e1]
    walk_at "asg"
    ·refine E.T8 (a := ((z + 1 + Q5 r : Nat) : Int)) (b := 1) (c := ((z + 1 + (Q5 r + 1) : Nat) : Int)) ?_ ?_ rfl
     walk_at "e e"
    refine X.end (X.nil ⟨rfl, ?_⟩)
    walk_at "has"
   have e1 : Q3 r = Q5 r := by unfold Q3; rw [hrat, if_neg (of_decide_eq_false h)]; rfl
   rw [e1]
   refine X.end (X.nil ⟨rfl, ?_⟩)
   walk_at "has"
  refine X.has hs1 ?_
  clear hs1 s1
  haveI hJ : z + 1 + Q3 r + ((pat.drop (z + 1 + Q3 r)).takeWhile (· != 93)).length = z + 1 + Q1 r := by
   unfold Q1
   rw [← hrr, drop_drop]
   lia
  refine X.R2 (ι := Nat) (fun j => ⟨[("pat", .pv (.str pat)), ("STAR", .pv (.obj a)), ("QUESTION_MARK", .pv (.str [46])), ("res", .ptr 0), ("add", .app 0), ("i", .pv (.int ((z + 1 : Nat) : Int))), ("n", .pv (.int (pat.length : Int))), ("j", .pv (.int (j : Int)))], [(0, out.map (PTv a))]⟩)
   (fun j => j + ((pat.drop j).takeWhile (· != 93)).length = z + 1 + Q1 r) (fun j => pat.length - j) (z + 1 + Q3 r) ?_ hJ fun j hj => ?_
  ·walk_at "has"
  refine ⟨decide (j < pat.length ∧ pat[j]? ≠ some 93), B.atNe ?_ ?_ ?_ ?_ ?_ (by lia) (by rfl) (by rfl) (by intro _ _; rfl), fun hb2 => ?_, fun hb2 => ?_⟩
  walk_at "e e e e"
  ·exact E.str
  rotate_left
  ·have hjc := of_decide_eq_true hb2
   walk_at "asg"
   ·refine E.T8 (a := (j : Int)) (b := 1) (c := ((j + 1 : Nat) : Int)) ?_ ?_ rfl
    walk_at "e e"
   refine X.W6 ⟨j + 1, ?_, sub_lt_sub_left (by lia) (lt_succ_self j), ?_⟩
   ·rw [← qx0 hjc]; exact hj
   walk_at "has"
  haveI hjz := qw9 (of_decide_eq_false hb2)
  rw [hjz] at hj
  subst hj
  clear hjz hb2 hJ
  generalize hN : Q1 r = N at *
  refine X.ite (b := decide ((pat.length : Int) ≤ ((z + 1 + N : Nat) : Int))) ?_ (fun h4 => ?_) (fun h4 => ?_)
  ·walk_at "tst"
  ·haveI hnot : ¬ N < r.length := by have := of_decide_eq_true h4; lia
   rw [if_neg hnot] at hr
   apply X.add (v := .str [92, 91]) G
   walk_at "rf s dc m m ko"
   ·exact E.str
   ·exact hoz
   refine X.end (X.end (X.end (X.end (X.W6 ⟨(z + 1, out ++ [some [92, 91]], f), ⟨hlt, (hrr) ▸ hr, by rw [length_append, length_singleton]; exact succ_le_succ hol⟩, by dsimp only; exact sub_lt_sub_left hlt (lt_succ_self z), ?_⟩))))
   dsimp only
   rw [map_append]
   walk_at "has"
  haveI hyes : N < r.length := by have := of_decide_eq_false h4; lia
  rw [if_pos hyes] at hr
  obtain ⟨t, ht, hr2⟩ : ∃ t, R5 (r.take N) = some t ∧ trR f (r.drop (N + 1)) (out ++ [some (W7 (Q4 t))]) = some res := by
   cases q : R5 (r.take N) with
   | none => rw [q] at hr; exact absurd hr.symm (some_ne_none _)
   | some t => rw [q] at hr; exact ⟨t, rfl, hr⟩
  clear hr
  have hsub : (pat.take (z + 1 + N)).drop (z + 1) = r.take N := by rw [← hrr, drop_take]; congr 1; lia
  generalize hS : r.take N = S0 at *
  have hS0 : S0.length = N := by rw [← hS, length_take]; lia
  haveI hN9 : N ≤ 2 ^ 9 := by lia
  have hcutS : cut (some ((z + 1 : Nat) : Int)) (some ((z + 1 + N : Nat) : Int)) pat = S0 := by rw [q54, hsub]
  apply X.asg (r := .pv (.str S0))
  walk_at "dc rf kp"
  ·rw [← hcutS]
   walk_at "ev"
  refine X.cut (fun s => Has ⟨[("pat", .pv (.str pat)), ("STAR", .pv (.obj a)), ("QUESTION_MARK", .pv (.str [46])), ("res", .ptr 0), ("add", .app 0), ("n", .pv (.int (pat.length : Int))), ("j", .pv (.int ((z + 1 + N : Nat) : Int))), ("stuff", .pv (.str t))], [(0, out.map (PTv a))]⟩ s) ?_ fun s1 hs1 => ?_
  ·refine X.ite (b := !S0.contains 45) (B.notinC (c := 45) ?_ ?_ (by rfl)) (fun h5 => ?_) (fun h5 => ?_)
   ·exact E.str
   ·walk_at "ev"
   ·have h45 : S0.contains 45 = false := by simpa using h5
    haveI hte : t = W2 92 [92, 92] S0 := by
     unfold R5 at ht
     rw [if_neg (by rw [h45]; decide)] at ht
     exact (Option.some.inj ht).symm
    subst hte
    apply X.asgT (r := .pv (.str (W2 92 [92, 92] S0)))
    walk_at "dc rf kp"
    ·rw [← qg6]
     refine ET.replace (x := S0) (y := "\\") (z := "\\\\") (Nat.le_refl 1) (ET.of ?_) (by decide) ?_ (by rfl) (by rfl)
     ·walk_at "ev"
     show S0.length + (S0.length + 1) * 2 ≤ 16777216
     lia
    refine X.end (X.nil ⟨rfl, ?_⟩)
    walk_at "has"
   have h45 : S0.contains 45 = true := by simpa using h5
   obtain ⟨d, S1, hSd⟩ : ∃ d S1, S0 = d :: S1 := by
    cases S0 with
    | nil => exact absurd h45 Bool.false_ne_true
    | cons d S1 => exact ⟨d, S1, rfl⟩
   have hd0 : S0[0]? = some d := by rw [hSd]; rfl
   have hpd : pat[z + 1]? = some d := by
    rw [← hsub] at hd0
    rw [getElem?_drop, List.getElem?_take] at hd0
    split at hd0
    ·exact hd0
    exact absurd hd0.symm (some_ne_none _)
   generalize hm0 : (if S0[0]? = some 33 then 2 else 1 : Nat) = m0 at *
   obtain ⟨cl, ms, hcl, hms, hte⟩ : ∃ cl ms, Q6 (S0.length + 1) m0 S0 [] = some cl ∧ Q7 (downs cl.length) cl = some ms ∧ t = jn [45] (ms.map R7) := by
    unfold R5 at ht
    rw [if_pos h45, hm0] at ht
    cases q : Q6 (S0.length + 1) m0 S0 [] with
    | none => rw [q] at ht; exact absurd ht.symm (some_ne_none _)
    | some cl =>
     rw [q] at ht
     cases q2 : Q7 (downs cl.length) cl with
     | none => simp [q2] at ht
     | some ms => simp [q2] at ht; exact ⟨cl, ms, rfl, q2, ht.symm⟩
   apply X.own 1 (xs := [])
   walk_at "dc rf kp rf rf"
   ·exact EF.list EA.nil (by decide)
   haveI hm12 : 1 ≤ m0 ∧ m0 ≤ 2 := by rw [← hm0]; split <;> decide
   apply X.asg (r := .pv (.int ((z + 1 + m0 : Nat) : Int)))
   walk_at "dc rf kp"
   ·refine E.ife (b := [d] == cs "!") ?_ (fun h => ?_) fun h => ?_
    ·refine B.eqs (E.items (i := ((z + 1 : Nat) : Int)) (x := pat) (c := d) ?_ ?_ (by lia) (sat hpd)) ?_ (by rfl)
     walk_at "e e"
     exact E.str
    ·have e1 : d = 33 := sgT h
     have e2 : m0 = 2 := by rw [← hm0, hd0, e1]; rfl
     rw [e2]
     refine E.T8 (a := ((z + 1 : Nat) : Int)) (b := 2) ?_ ?_ rfl
     walk_at "e e"
    have e1 : ¬ d = 33 := sgF h
    have e2 : m0 = 1 := by rw [← hm0, hd0, if_neg (fun e => e1 (Option.some.inj e))]
    rw [e2]
    refine E.T8 (a := ((z + 1 : Nat) : Int)) (b := 1) ?_ ?_ rfl
    walk_at "e e"
   refine X.cut (fun s => ∃ (y : Nat) (acc : List (List Nat)), z + 1 ≤ y ∧ y ≤ z + 1 + N ∧ tot acc + (z + 1 + N - y) ≤ N ∧
    (if (pat.take (z + 1 + N)).drop y = [] then (match acc.getLast? with | some l => some (acc.dropLast ++ [l ++ [45]]) | none => none) else some (acc ++ [(pat.take (z + 1 + N)).drop y])) = some cl ∧
    Has ⟨[("pat", .pv (.str pat)), ("STAR", .pv (.obj a)), ("QUESTION_MARK", .pv (.str [46])), ("res", .ptr 0), ("add", .app 0), ("n", .pv (.int (pat.length : Int))), ("j", .pv (.int ((z + 1 + N : Nat) : Int))), ("i", .pv (.int (y : Int))), ("chunks", .ptr 1)], [(1, acc.map .str), (0, out.map (PTv a))]⟩ s) ?_ fun s1 hs1 => ?_
   ·refine X.R2 (ι := Nat × Nat × List (List Nat) × Nat) (fun i => ⟨[("pat", .pv (.str pat)), ("STAR", .pv (.obj a)), ("QUESTION_MARK", .pv (.str [46])), ("res", .ptr 0), ("add", .app 0), ("n", .pv (.int (pat.length : Int))), ("j", .pv (.int ((z + 1 + N : Nat) : Int))), ("i", .pv (.int (i.1 : Int))), ("k", .pv (.int ((i.1 + i.2.1 : Nat) : Int))), ("chunks", .ptr 1)], [(1, i.2.2.1.map .str), (0, out.map (PTv a))]⟩)
     (fun i => Q6 i.2.2.2 i.2.1 ((pat.take (z + 1 + N)).drop i.1) i.2.2.1 = some cl ∧ z + 1 ≤ i.1 ∧ i.1 ≤ z + 1 + N ∧ tot i.2.2.1 + (z + 1 + N - i.1) ≤ N) (fun i => z + 1 + N - i.1) (z + 1, m0, [], S0.length + 1) ?_ ⟨by rw [hsub]; exact hcl, Nat.le_refl _, le_add_right .., by show 0 + _ ≤ _; lia⟩ fun i hi => ?_
    ·walk_at "has"
    obtain ⟨y, m1, acc, f1⟩ := i
    obtain ⟨hc1, hy1, hy2, hy3⟩ := hi
    dsimp only at hc1 hy1 hy2 hy3 ⊢
    obtain ⟨f1, rfl⟩ : ∃ g, f1 = g + 1 := by
     cases f1 with
     | zero => exact absurd hc1.symm (some_ne_none _)
     | succ g => exact ⟨g, rfl⟩
    refine ⟨true, B.ofBool E.bool (by rfl), (fun h => by exact absurd h.symm Bool.false_ne_true), fun _ => ?_⟩
    unfold Q6 at hc1
    haveI htl := q91 acc
    have hacl : (acc.map PV.str).length = acc.length := length_map ..
    rcases z61 (pat := pat) (y := y) (m := m1) (J := z + 1 + N) hy2 (by lia) with ⟨q1, q2⟩ | ⟨q, q1, q2, q3, q4⟩
    ·rw [q2] at hc1
     dsimp only at hc1
     apply X.asg (r := .pv (.int (-1)))
     walk_at "dc rf kp"
     ·rw [← q1]
      refine E.Y9 ?_ ?_ (by rfl) (by rfl) (by intro _; rfl) (by intro _; rfl)
      ·walk_at "ev"
      haveI : [45] = cs "-" := rfl
      rw [this]
      walk_at "evs"
     refine X.ite (b := decide ((-1 : Int) < 0)) ?_ (fun _ => ?_) (fun h => by exact absurd h.symm Bool.false_ne_true)
     ·walk_at "tst"
     refine X.brk (X.nil ⟨rfl, y, acc, hy1, hy2, hy3, hc1, ?_⟩)
     walk_at "has"
    rw [q4] at hc1
    dsimp only at hc1
    haveI ht1 : (((pat.take (z + 1 + N)).drop y).take q) = (pat.take (y + q)).drop y := by
     rw [List.take_drop, List.take_take, Nat.min_eq_left (by lia)]
    haveI ht2 : ((pat.take (z + 1 + N)).drop y).drop (q + 1) = (pat.take (z + 1 + N)).drop (y + q + 1) := by
     rw [drop_drop]; congr 1
    rw [ht1, ht2] at hc1
    haveI htq : ((pat.take (y + q)).drop y).length = q := by rw [length_drop, length_take, Nat.min_eq_left (by lia), Nat.add_sub_cancel_left]
    apply X.asg (r := .pv (.int ((y + q : Nat) : Int)))
    walk_at "dc rf kp"
    ·rw [← q1]
     refine E.Y9 ?_ ?_ (by rfl) (by rfl) (by intro _; rfl) (by intro _; rfl)
     ·walk_at "ev"
     haveI : [45] = cs "-" := rfl
     rw [this]
     walk_at "evs"
    refine X.ite (b := decide (((y + q : Nat) : Int) < 0)) ?_ (fun h => ?_) (fun _ => ?_)
    ·walk_at "tst"
    ·have := of_decide_eq_true h; lia
    refine X.end ?_
    apply X.app (v := .str ((pat.take (y + q)).drop y)) G
    walk_at "dc rf s dc m m ko"
    ·rw [← q54]
     walk_at "ev"
    ·rw [hacl]; lia
    apply X.asg (r := .pv (.int ((y + q + 1 : Nat) : Int)))
    walk_at "dc rf kp"
    ·refine E.T8 (a := ((y + q : Nat) : Int)) (b := 1) ?_ ?_ rfl
     walk_at "e e"
    apply X.asg (r := .pv (.int ((y + q + 1 + 2 : Nat) : Int)))
    walk_at "dc rf kp"
    ·refine E.T8 (a := ((y + q : Nat) : Int)) (b := 3) ?_ ?_ rfl
     walk_at "e e"
    refine X.W6 ⟨(y + q + 1, 2, acc ++ [(pat.take (y + q)).drop y], f1), ⟨hc1, by dsimp only; lia, by dsimp only; lia, ?_⟩, by dsimp only; exact sub_lt_sub_left (by lia) (by lia), ?_⟩
    ·dsimp only
     rw [q38, q37, htq]; lia
    dsimp only
    rw [map_append]
    walk_at "has"
   obtain ⟨y, acc, hy1, hy2, hy3, hfin, hs1⟩ := hs1
   refine X.has hs1 ?_
   clear hs1 s1
   haveI htl := q91 acc
   have hacl : (acc.map PV.str).length = acc.length := length_map ..
   have hcul : ((pat.take (z + 1 + N)).drop y).length = z + 1 + N - y := by rw [length_drop, length_take, Nat.min_eq_left (by lia)]
   apply X.asg (r := .pv (.str ((pat.take (z + 1 + N)).drop y)))
   walk_at "dc rf kp"
   ·rw [← q54]
    walk_at "ev"
   generalize hcu : (pat.take (z + 1 + N)).drop y = cu at *
   have hclt : tot cl ≤ N + 1 := by
    have := qd9 _ _ _ _ _ hcl
    have e : tot [] = 0 := rfl
    rw [e, hS0] at this; lia
   refine X.cut (fun s => Has ⟨[("pat", .pv (.str pat)), ("STAR", .pv (.obj a)), ("QUESTION_MARK", .pv (.str [46])), ("res", .ptr 0), ("add", .app 0), ("n", .pv (.int (pat.length : Int))), ("j", .pv (.int ((z + 1 + N : Nat) : Int))), ("chunks", .ptr 1)], [(1, cl.map .str), (0, out.map (PTv a))]⟩ s) ?_ fun s1 hs1 => ?_
   ·refine X.ite (b := !cu.isEmpty) ?_ (fun h => ?_) (fun h => ?_)
    ·walk_at "tst"
    ·have hne : ¬ cu = [] := fun e => by rw [e] at h; exact absurd h Bool.false_ne_true
     rw [if_neg hne] at hfin
     have hcl2 := Option.some.inj hfin
     apply X.app (v := .str cu) G
     walk_at "dc rf s dc m m ko e"
     ·rw [hacl]; lia
     refine X.end (X.nil ⟨rfl, ?_⟩)
     rw [← hcl2, map_append]
     walk_at "has"
    have hnil : cu = [] := by cases cu with
     | nil => rfl
     | cons _ _ => exact absurd h.symm Bool.false_ne_true
    rw [if_pos hnil] at hfin
    obtain ⟨l, hl, hcl2⟩ : ∃ l, acc.getLast? = some l ∧ acc.dropLast ++ [l ++ [45]] = cl := by
     cases q : acc.getLast? with
     | none => rw [q] at hfin; exact absurd hfin.symm (some_ne_none _)
     | some l => rw [q] at hfin; exact ⟨l, rfl, Option.some.inj hfin⟩
    have hl' := hl
    rw [List.getLast?_eq_getElem?] at hl'
    have hal := (List.getElem?_eq_some_iff.mp hl').1
    haveI hidx : ((-1 : Int) + (acc.map PV.str).length).toNat = acc.length - 1 := by rw [hacl]; exact neg1 _
    haveI hll : l.length < tot acc := qg3 (mem_of_getElem? hl')
    apply X.augN (z := -1) (a := l) (b := [45]) G
    walk_at "m m ko e dc"
    ·rw [hacl]; lia
    ·rw [hacl]; lia
    ·rw [hidx, getElem?_map, hl']; rfl
    ·exact E.str
    ·rw [length_singleton]; lia
    ·decide
    ·intros; rfl
    rw [hidx, qw2, z36 (by intro e; rw [e] at hal; simp at hal), hcl2]
    refine X.end (X.nil ⟨rfl, ?_⟩)
    walk_at "has"
   refine X.has hs1 ?_
   clear hs1 s1 hfin hcl
   haveI br : BN (Γ.on kf) env _ (ofString "range") (.type "range") := ⟨G, by rfl, gr, by rfl, by decide, by decide⟩
   haveI hcll := q91 cl
   refine X.forM (ι := List (List Nat)) (its := (downs cl.length).map fun v : Nat => [PV.int (v : Int)]) (xs := ["k"]) (fun c => ⟨[("pat", .pv (.str pat)), ("STAR", .pv (.obj a)), ("QUESTION_MARK", .pv (.str [46])), ("res", .ptr 0), ("add", .app 0), ("n", .pv (.int (pat.length : Int))), ("j", .pv (.int ((z + 1 + N : Nat) : Int))), ("chunks", .ptr 1)], [(1, c.map .str), (0, out.map (PTv a))]⟩)
    (fun i c => Q7 ((downs cl.length).drop i) c = some ms ∧ tot c ≤ N + 1) (.name _ _) (by decide) (by decide) ?_ ?_ ?_ cl ?_ ⟨hms, hclt⟩ (fun i x c hx hc => ?_) (fun c hc => ?_) ?_
   ·have e2 : ((T5 ((cl.length : Int) - 1) 0).map fun i => [PV.int i]) = (downs cl.length).map fun v : Nat => [PV.int (v : Int)] := by rw [qt5, map_map]; rfl
    rw [← e2]
    refine I.T5 (a := (cl.length : Int) - 1) (b := 0) br ?_ ?_ ?_ (by intro _; rfl) (by intro _; rfl) (by intro _; rfl) (by lia) (by decide)
    ·refine E.subE (a := ((cl.map PV.str).length : Int)) (b := 1) (E.len_list bl (EL.own (j := 1) G ?_ ?_ (by decide)) (by rw [length_map]; lia) (by intro _; rfl)) ?_ (by rw [length_map])
     walk_at "m m e"
    walk_at "e e"
   ·intro x hx
    obtain ⟨v, _, rfl⟩ := mem_map.mp hx
    rfl
   ·intro c p hp
    simp only [mem_cons, not_mem_nil, or_false] at hp
    rcases hp with rfl | rfl | rfl | rfl | rfl | rfl | rfl | rfl <;> simp
   ·walk_at "has"
   ·obtain ⟨hmg, htc⟩ := hc
    rw [getElem?_map] at hx
    obtain ⟨v, hv, rfl⟩ := map_eq_some_iff.mp hx
    obtain ⟨hv1, hv2⟩ := qr4 hv
    have hdi : (downs cl.length).drop i = v :: (downs cl.length).drop (i + 1) := by
     obtain ⟨h1, h2⟩ := List.getElem?_eq_some_iff.mp hv
     rw [drop_eq_getElem_cons h1, h2]
    rw [hdi] at hmg
    unfold Q7 at hmg
    obtain ⟨c', hc1, hc2⟩ := Option.bind_eq_some_iff.mp hmg
    obtain ⟨sa, sb, xx, yy, ha, hb', hxx, hyy, hce⟩ := qc8 hc1
    haveI hct := qf4 hv1 hc1
    haveI hcl2 : (c.map PV.str).length = c.length := length_map ..
    haveI htcl := q91 c
    haveI hva : v < c.length := (List.getElem?_eq_some_iff.mp hb').1
    haveI hal := qg3 (mem_of_getElem? ha)
    haveI hbl := qg3 (mem_of_getElem? hb')
    have ga : (c.map PV.str)[((v - 1 : Nat) : Int).toNat]? = some (.str sa) := by rw [toNat_natCast, getElem?_map, ha]; rfl
    have gb : (c.map PV.str)[((v : Nat) : Int).toNat]? = some (.str sb) := by rw [toNat_natCast, getElem?_map, hb']; rfl
    haveI hb0 : sb[0]? = some yy := by rw [← hyy, List.head?_eq_getElem?]
    haveI ev1 : (v : Int) - 1 = ((v - 1 : Nat) : Int) := by lia
    dsimp only [List.zip, List.zipWith, List.map, cons_append, nil_append]
    refine X.ite (b := decide (([yy] : List Nat) < [xx])) (B.gts (a := [xx]) (b := [yy]) (E.items (i := -1) (x := sa) (c := xx) (E.Q2 (i := ((v - 1 : Nat) : Int)) (EL.own (j := 1) G ?_ ?_ (by decide)) (E.subE (a := (v : Int)) (b := 1) ?_ ?_ ev1) (by lia) (by lia) ga) ?_ (by decide) (zc8 hxx)) (E.items (i := ((0 : Nat) : Int)) (x := sb) (c := yy) (E.Q2 (i := (v : Int)) (EL.own (j := 1) G ?_ ?_ (by decide)) ?_ (by lia) (by lia) gb) ?_ (by decide) (sat hb0)) (by rfl)) (fun h => ?_) (fun h => ?_)
    walk_at "m m e e e m m e e"
    ·rw [z67] at h
     rw [if_pos (of_decide_eq_true h)] at hce
     apply X.put (z := ((v - 1 : Nat) : Int)) (v := .str (sa.dropLast ++ sb.tail)) G
     walk_at "m m ko"
     ·rw [← qr6 sa, ← List.drop_one, ← q31]
      refine E.adds (E.cuts (E.Q2 (i := ((v - 1 : Nat) : Int)) (EL.own (j := 1) G ?_ ?_ (by decide)) (E.subE (a := (v : Int)) (b := 1) ?_ ?_ ev1) (by lia) (by lia) ga) EP.no ?_ (by lia)) (E.cuts (E.Q2 (i := (v : Int)) (EL.own (j := 1) G ?_ ?_ (by decide)) ?_ (by lia) (by lia) gb) ?_ EP.no (by lia)) ?_
      walk_at "m m e e"
      ·walk_at "ep"
      walk_at "m m e"
      ·walk_at "ep"
      rw [qr6, q31, List.length_dropLast, length_drop]; exact Nat.le_trans (Nat.add_le_add (sub_le ..) (sub_le ..)) (by lia)
     ·refine E.subE (a := (v : Int)) (b := 1) ?_ ?_ ev1
      walk_at "e e"
     ·lia
     ·rw [hcl2]; lia
     ·rw [hcl2]; lia
     walk_at "rf dc"
     rw [toNat_natCast, qw2]
     apply X.del (z := v) G
     walk_at "m m ko e"
     ·rw [length_map, List.length_set]; exact hva
     ·rw [length_map, List.length_set]; lia
     ·decide
     rw [qw3, ← hce]
     refine X.end (X.W6 ⟨c', ⟨hc2, Nat.le_trans hct htc⟩, ?_⟩)
     walk_at "has"
    rw [z67] at h
    rw [if_neg (of_decide_eq_false h)] at hce
    subst hce
    refine X.end (X.W6 ⟨c', ⟨hc2, htc⟩, ?_⟩)
    walk_at "has"
   ·obtain ⟨hmg, htc⟩ := hc
    haveI hdz : (downs cl.length).drop ((downs cl.length).map fun v : Nat => [PV.int (v : Int)]).length = [] := by rw [length_map, drop_length]
    rw [hdz] at hmg
    haveI hcm : c = ms := by unfold Q7 at hmg; exact Option.some.inj hmg
    subst hcm
    haveI htcl := q91 c
    haveI hqg : env.qual ++ "<genexpr>" = ofString "_translate" ++ ".<locals>." ++ "<genexpr>" := by rw [hqual]
    apply X.freeze (k := 1)
    walk_at "m fz ko"
    apply X.asg (r := .pv (.str (jn [45] (c.map R7))))
    walk_at "dc rf kp"
    ·refine E.parts (Γ := Γ.on kf) (P := 57) (c := 61) (es := trEs) G hT ?_ ?_ hcode CH ⟨ba.at_⟩ (by rfl) (by rfl) (by rfl) (by rfl) (by rfl) (by rfl) (by rfl) (by rfl) (by rfl) (by rfl) (by decide) (by rfl) (by rfl) (by rfl) (by decide) ?_ (by lia) (fun y hy => ?_)
     ·rw [hqg]; exact .head _
     ·rw [hqg]
      intro e he
      simp only [trEs, mem_cons, not_mem_nil, or_false] at he
      rcases he with rfl | rfl
      ·exact .inl rfl
      exact .inr (by rfl)
     ·walk_at "ev"
     have := qg3 hy; lia
    rw [← hte]
    refine X.end (X.nil ⟨rfl, ?_⟩)
    walk_at "has"
   intro _; rfl
  refine X.has hs1 ?_
  clear hs1 s1
  have htl := z37 ht
  have hql : env.qual ++ "<lambda>" = ofString "_translate" ++ ".<locals>." ++ "<lambda>" := by rw [hqual]
  apply X.asg (r := .pv (.str (Q4 t)))
  walk_at "dc rf kp"
  ·refine E.twin (Γ := Γ.on kf) (n := m) (P := 57) (c := 61) (pat := 36) (es := trEs) (text := t) G hT ?_ ?_ hcode CH ⟨ba.at_⟩ (zb6 KX) gt (by rfl) (by decide) ?_ (by decide) (by lia) (by rfl) (by rfl) (by rfl) (by rfl) (by rfl) (by rfl) (by rfl) (by rfl) (fun pm c' v => by rfl)
   ·rw [hql]; exact .tail _ (.head _)
   ·rw [hql]
    intro e he
    simp only [trEs, mem_cons, not_mem_nil, or_false] at he
    rcases he with rfl | rfl
    ·exact .inr (by rfl)
    exact .inl rfl
   walk_at "mem"
  haveI hul := qj2 t
  generalize Q4 t = u at *
  apply X.asg (r := .pv (.int ((z + 1 + N + 1 : Nat) : Int)))
  walk_at "dc rf kp"
  ·refine E.T8 (a := ((z + 1 + N : Nat) : Int)) (b := 1) ?_ ?_ rfl
   walk_at "e e"
  have hnext : (z + 1 + N + 1) ≤ pat.length ∧ trR f (pat.drop (z + 1 + N + 1)) (out ++ [some (W7 u)]) = some res ∧ (out ++ [some (W7 u)]).length ≤ z + 1 + N + 1 := by
   refine ⟨by lia, ?_, by rw [length_append, length_singleton]; lia⟩
   rw [← hr2, ← hrr, drop_drop]
   congr 2
  refine X.ite (b := !(!u.isEmpty)) ?_ (fun h => ?_) (fun h => ?_)
  ·walk_at "tst"
  ·haveI hu : u = [] := by cases u with
    | nil => rfl
    | cons _ _ => exact absurd h Bool.false_ne_true
   have hbr : W7 u = cs "(?!)" := by rw [hu]; rfl
   apply X.add (v := .str (W7 u)) G
   walk_at "rf s dc m m ko"
   ·rw [hbr]; exact E.str
   ·exact hoz
   refine X.end (X.end (X.end (X.end (X.end (X.W6 ⟨(z + 1 + N + 1, out ++ [some (W7 u)], f), hnext, by dsimp only; exact sub_lt_sub_left hlt (Nat.lt_of_lt_of_le (lt_succ_self z) (Nat.le_trans (le_add_right (z + 1) N) (le_succ _))), ?_⟩)))))
   dsimp only
   rw [map_append]
   walk_at "has"
  have hune : u ≠ [] := fun e => by rw [e] at h; exact absurd h.symm Bool.false_ne_true
  refine X.ite (b := u == cs "!") ?_ (fun h2 => ?_) (fun h2 => ?_)
  ·walk_at "tst"
  ·haveI hu : u = [33] := eq_of_beq h2
   haveI hbr : W7 u = cs "." := by rw [hu]; rfl
   apply X.add (v := .str (W7 u)) G
   walk_at "rf s dc m m ko"
   ·rw [hbr]; exact E.str
   ·exact hoz
   refine X.end (X.end (X.end (X.end (X.end (X.end (X.W6 ⟨(z + 1 + N + 1, out ++ [some (W7 u)], f), hnext, by dsimp only; exact sub_lt_sub_left hlt (Nat.lt_of_lt_of_le (lt_succ_self z) (Nat.le_trans (le_add_right (z + 1) N) (le_succ _))), ?_⟩))))))
   dsimp only
   rw [map_append]
   walk_at "has"
  have hun : u ≠ [33] := fun e => by rw [e] at h2; exact absurd h2.symm Bool.false_ne_true
  obtain ⟨d, u1, hud⟩ : ∃ d u1, u = d :: u1 := by
   cases u with
   | nil => exact absurd rfl hune
   | cons d u1 => exact ⟨d, u1, rfl⟩
  have hd0 : u[0]? = some d := by rw [hud]; rfl
  haveI hut : u.drop 1 = u1 := by rw [hud]; rfl
  haveI hbr : W7 u = [91] ++ W8 u ++ [93] := by unfold W7; rw [if_neg hune, if_neg hun]
  haveI hhl : (W8 u).length ≤ u.length + 1 := by
   rw [hud, q26]
   split
   ·simp
   split <;> simp
  refine X.cut (fun s => Has ⟨[("pat", .pv (.str pat)), ("STAR", .pv (.obj a)), ("QUESTION_MARK", .pv (.str [46])), ("res", .ptr 0), ("add", .app 0), ("n", .pv (.int (pat.length : Int))), ("i", .pv (.int ((z + 1 + N + 1 : Nat) : Int))), ("stuff", .pv (.str (W8 u)))], [(0, out.map (PTv a))]⟩ s) ?_ fun s1 hs1 => ?_
  ·refine X.ite (b := [d] == cs "!") (B.eqs (E.items (i := ((0 : Nat) : Int)) (x := u) (c := d) ?_ ?_ (by decide) (sat hd0)) ?_ (by rfl)) (fun h3' => ?_) (fun h3' => ?_)
   walk_at "e e"
   ·exact E.str
   ·have e1 : d = 33 := by have := eq_of_beq h3'; cases this; rfl
    have e2 : W8 u = cs "^" ++ u.drop 1 := by rw [hut, hud]; rw [q26, if_pos e1]; rfl
    rw [e2, ← q31]
    apply X.asg (r := .pv (.str (cs "^" ++ cut (some ((1 : Nat) : Int)) none u)))
    walk_at "dc rf kp"
    ·refine E.adds E.str (E.cuts (x := u) ?_ (EP.yes ?_) EP.no (by lia)) ?_
     walk_at "e e"
     rw [q31, length_drop]; show 1 + _ ≤ _; lia
    refine X.end (X.nil ⟨rfl, ?_⟩)
    walk_at "has"
   have e1 : ¬ d = 33 := fun e => by rw [e] at h3'; cases h3'
   have hin : ([PV.str (cs "^"), PV.str (cs "[")].any fun v => eqp .str v (.str [d])) = decide (d = 94 ∨ d = 91) := by
    show (([94] == [d]) || (([91] == [d]) || false)) = _
    by_cases q1 : d = 94
    ·subst q1; rfl
    by_cases q2 : d = 91
    ·subst q2; rfl
    rw [decide_eq_false (by rintro (e | e); exact q1 e; exact q2 e)]
    haveI a1 : (([94] : List Nat) == [d]) = false := by simp; lia
    haveI a2 : (([91] : List Nat) == [d]) = false := by simp; lia
    rw [a1, a2]; rfl
   refine X.ite (b := decide (d = 94 ∨ d = 91)) ?_ (fun h4' => ?_) (fun h4' => ?_)
   ·rw [← hin]
    refine B.int .str (E.items (i := ((0 : Nat) : Int)) (x := u) (c := d) ?_ ?_ (by decide) (sat hd0)) (E.tup (xs := [.str (cs "^"), .str (cs "[")]) ?_ (by decide)) trivial ?_ (by decide) (by rfl)
    walk_at "e e vs"
    intro y hy
    simp only [mem_cons, not_mem_nil, or_false] at hy
    rcases hy with rfl | rfl <;> trivial
   ·have e2 : W8 u = cs "\\" ++ u := by rw [hud]; rw [q26, if_neg e1, if_pos (of_decide_eq_true h4')]; rfl
    rw [e2]
    apply X.asg (r := .pv (.str (cs "\\" ++ u)))
    walk_at "dc rf kp"
    ·refine E.adds E.str ?_ ?_
     ·walk_at "ev"
     show 1 + _ ≤ _; lia
    refine X.end (X.end (X.nil ⟨rfl, ?_⟩))
    walk_at "has"
   have e2 : W8 u = u := by rw [hud]; rw [q26, if_neg e1, if_neg (of_decide_eq_false h4')]
   rw [e2]
   refine X.end (X.end (X.nil ⟨rfl, ?_⟩))
   walk_at "has"
  refine X.has hs1 ?_
  clear hs1 s1
  apply X.add (v := .str (W7 u)) G
  walk_at "rf s dc m m ko"
  ·rw [hbr]
   refine E.fmt (by rfl) (by rfl) ?_ (by simp only [length_singleton]; lia)
   walk_at "ev"
  ·exact hoz
  refine X.end (X.end (X.end (X.end (X.end (X.end (X.W6 ⟨(z + 1 + N + 1, out ++ [some (W7 u)], f), hnext, by dsimp only; exact sub_lt_sub_left hlt (Nat.lt_of_lt_of_le (lt_succ_self z) (Nat.le_trans (le_add_right (z + 1) N) (le_succ _))), ?_⟩))))))
  dsimp only
  rw [map_append]
  walk_at "has"
 have n3 : ¬ c = 91 := sgF h3
 rw [trR_e n1 n2 n3] at hr
 have F := (qp1 (n := m + 1) KX c gi gs gm).on (k := kf)
 have D : DN (Γ.on kf) env _ (ofString "escape") 55 := ⟨G, by rfl, ge, by decide, fn_in KX (by rfl)⟩
 apply X.add (v := .str (W5 c)) G
 walk_at "rf s dc m m ko"
 ·refine E.call D F ?_ (by intro _; rfl)
  walk_at "evs"
 ·exact hoz
 refine X.end (X.end (X.end (X.W6 ⟨(z + 1, out ++ [some (W5 c)], f), ⟨hlt, hr, by rw [length_append, length_singleton]; exact succ_le_succ hol⟩, by dsimp only; exact sub_lt_sub_left hlt (lt_succ_self z), ?_⟩)))
 dsimp only
 rw [map_append]
 walk_at "has"
theorem qz5 {Γ : Cx} {P : Params} (KX : (hdK P).In Γ.hB) (m : Nat) (l : List Part) (a : Nat) (r : List Nat) (hw : wt l ≤ 2 ^ 20) (hk : joinR l = some r) (gl : Γ.mg (ofString "len") = none) :
  FSpec Γ (m + 1) 69 [.list (l.map (PTv a)), .obj a] (.str r) := by
 refine FSpec.W4 KX (ps := ["inp", "STAR"]) (ns := ["inp", "STAR", "res", "add", "i", "n", "fixed"]) (v := [("inp", .pv (.list (l.map (PTv a)))), ("STAR", .pv (.obj a))]) (by rfl) (by rfl) (by rfl) ?_ ?_ (by rfl) ⟨rfl, rfl, rfl, rfl, rfl⟩ (by rfl) ?_
 ·walk_at "cok"
 ·intro Vs h
  obtain ⟨a, b, rfl⟩ := len2 h; rfl
 intro kf env G
 try dsimp only at G
 haveI hml : (l.map (PTv a)).length = l.length := length_map ..
 have hwl : 10 * l.length ≤ wt l := by
  haveI : ∀ l : List Part, 10 * l.length ≤ wt l := fun l => by
   induction l with
   | nil => exact zero_le _
   | cons p l ih => rw [q62, length_cons]; lia
  exact this l
 apply X.own 0 (xs := [])
 walk_at "dc rf kp rf rf"
 ·exact EF.list EA.nil (by decide)
 walk_at "asg"
 ·apply E.appA G
  walk_at "m m dc"
  with_unfolding_all rfl
 haveI bl : BN (Γ.on kf) env _ (ofString "len") (.builtin "len") := ⟨G, by rfl, gl, by rfl, by decide, by decide⟩
 apply X.swap2 (v := .int (l.length : Int))
 walk_at "dc dc kp kp"
 ·rw [← hml]
  refine E.len_list bl (EL.of ?_) (by rw [hml]; lia) (by intro _; rfl)
  walk_at "ev"
 walk_at "s s rf"
 ·exact qf1 G fun _ => by kernel_rfl
 obtain ⟨accF, hlp, hre⟩ : ∃ accF, loopR (l.length + 1) (l.drop (runN l)) (txts (l.take (runN l))) = some accF ∧ r = [40, 63, 115, 58] ++ jn [] accF ++ [41, 92, 90] := by
  unfold joinR at hk
  obtain ⟨acc, h1, h2⟩ := map_eq_some_iff.mp hk
  exact ⟨acc, h1, h2.symm⟩
 refine X.cut (fun s => Has ⟨[("inp", .pv (.list (l.map (PTv a)))), ("STAR", .pv (.obj a)), ("res", .ptr 0), ("add", .app 0), ("i", .pv (.int (runN l : Int))), ("n", .pv (.int (l.length : Int)))], [(0, (txts (l.take (runN l))).map .str)]⟩ s) ?_ fun s1 hs1 => ?_
 ·refine X.R2 (ι := Nat) (fun i => ⟨[("inp", .pv (.list (l.map (PTv a)))), ("STAR", .pv (.obj a)), ("res", .ptr 0), ("add", .app 0), ("i", .pv (.int (i : Int))), ("n", .pv (.int (l.length : Int)))], [(0, (txts (l.take i)).map .str)]⟩)
   (fun i => i + runN (l.drop i) = runN l) (fun i => l.length - i) 0 ?_ (by rw [drop_zero, Nat.zero_add]) fun i hi => ?_
  ·walk_at "has"
  refine ⟨(l[i]?.bind id).isSome, B.fixAt (a := a) ?_ ?_ ?_ ?_ ?_ (by lia) (by rfl) (by rfl) (by intro _ _; rfl), fun hb => ?_, fun hb => ?_⟩
  walk_at "e e e e e"
  ·have := qg5 (qq9 hb)
   have e : i = runN l := by lia
   rw [e]
   refine X.nil ⟨rfl, ?_⟩
   walk_at "has"
  obtain ⟨s, hs⟩ := qq8 hb
  have hil := (List.getElem?_eq_some_iff.mp hs).1
  have hg : (l.map (PTv a))[((i : Nat) : Int).toNat]? = some (.str s) := by rw [toNat_natCast, getElem?_map, hs]; rfl
  have htl : ((txts (l.take i)).map PV.str).length ≤ i := by unfold txts; simp; lia
  apply X.add (v := .str s) G
  walk_at "rf s dc m m ko"
  ·refine E.Q2 (i := (i : Int)) (EL.of ?_) ?_ (by lia) (by lia) hg
   walk_at "e e"
  ·lia
  apply X.U5 (b := 1) (c := ((i + 1 : Nat) : Int))
  walk_at "dc m kp e rf"
  haveI ht := qj1 hs 0 (zero_le _)
  rw [drop_zero, drop_zero] at ht
  refine X.W6 ⟨i + 1, (qq3 hs) ▸ hi, by lia, ?_⟩
  rw [ht, map_append]
  walk_at "has"
 refine X.has hs1 ?_
 clear hs1 s1
 haveI hrl := z64 l
 refine X.cut (fun s => (accF.map List.length).sum ≤ 2 ^ 21 ∧ accF.length ≤ 2 ^ 20 ∧ Has ⟨[("res", .ptr 0), ("i", .pv (.int (l.length : Int))), ("n", .pv (.int (l.length : Int)))], [(0, accF.map .str)]⟩ s) ?_ fun s1 hs1 => ?_
 ·refine X.R2 (ι := Nat × List (List Nat) × Nat) (fun i => ⟨[("inp", .pv (.list (l.map (PTv a)))), ("STAR", .pv (.obj a)), ("res", .ptr 0), ("add", .app 0), ("i", .pv (.int (i.1 : Int))), ("n", .pv (.int (l.length : Int)))], [(0, i.2.1.map .str)]⟩)
   (fun i => i.1 ≤ l.length ∧ loopR i.2.2 (l.drop i.1) i.2.1 = some accF ∧ (i.2.1.map List.length).sum + wt (l.drop i.1) ≤ 2 ^ 20 ∧ i.2.1.length ≤ 2 * i.1) (fun i => l.length - i.1) (runN l, txts (l.take (runN l)), l.length + 1) ?_ ⟨hrl, hlp, ?_, ?_⟩ fun i hi => ?_
  ·walk_at "has"
  ·dsimp only
   haveI h1 := qv3 (l.take (runN l))
   haveI h2 := qi8 (l.take (runN l)) (l.drop (runN l))
   rw [take_append_drop] at h2
   lia
  ·dsimp only; unfold txts; simp; lia
  obtain ⟨i, acc, f⟩ := i
  obtain ⟨hi1, hi2, hi3, hi4⟩ := hi
  dsimp only at hi1 hi2 hi3 hi4 ⊢
  obtain ⟨f, rfl⟩ : ∃ g, f = g + 1 := by
   cases f with
   | zero => exact absurd hi2.symm (some_ne_none _)
   | succ g => exact ⟨g, rfl⟩
  have hacl : (acc.map PV.str).length ≤ 2 ^ 24 := by rw [length_map]; lia
  refine ⟨decide ((i : Int) < (l.length : Int)), ?_, fun hb => ?_, fun hb => ?_⟩
  ·walk_at "tst"
  ·have e : i = l.length := by have := of_decide_eq_false hb; lia
   subst e
   rw [drop_length] at hi2 hi3
   have hac : acc = accF := Option.some.inj hi2
   subst hac
   refine X.nil ⟨rfl, by lia, by lia, ?_⟩
   walk_at "has"
  have hlt : i < l.length := by have := of_decide_eq_true hb; lia
  have hcons : l.drop i = l[i] :: l.drop (i + 1) := drop_eq_getElem_cons hlt
  have hri : ∀ v : Nat, (l.drop (i + 1))[v]? = l[i + 1 + v]? := fun v => getElem?_drop ..
  have hrlen : (l.drop (i + 1)).length = l.length - (i + 1) := length_drop ..
  rw [hcons] at hi2 hi3
  have hli : l[i]? = some l[i] := List.getElem?_eq_getElem hlt
  rw [q62] at hi3
  generalize hp : l[i] = p at hi2 hli hi3
  generalize hr : l.drop (i + 1) = rr at hi2 hri hrlen hi3
  cases p with
  | some s => exact absurd hi2.symm (some_ne_none _)
  | none =>
   have hg : (l.map (PTv a))[((i : Nat) : Int).toNat]? = some (.obj a) := by rw [toNat_natCast, getElem?_map, hli]; rfl
   apply X.assert
   ·refine B.isO (a := a) (E.Q2 (i := (i : Int)) (EL.of ?_) ?_ (by lia) (by lia) hg) ?_ (by rfl)
    walk_at "e e e"
   apply X.U5 (b := 1) (c := ((i + 1 : Nat) : Int))
   walk_at "dc m kp e rf"
   unfold loopR at hi2
   dsimp only at hi2
   refine X.ite (b := ((i + 1 : Nat) : Int) == (l.length : Int)) ?_ (fun h => ?_) (fun h => ?_)
   ·walk_at "tst"
   ·have e : i + 1 = l.length := by have := eq_of_beq h; lia
    have hrn : rr = [] := by rw [← length_eq_zero_iff, hrlen]; lia
    rw [if_pos hrn] at hi2
    have hac := Option.some.inj hi2
    apply X.add (v := .str [46, 42]) G
    walk_at "rf s dc m m ko"
    ·exact E.str
    ·exact hacl
    refine X.brk (X.nil ⟨rfl, ?_, ?_, ?_⟩)
    ·rw [← hac, map_append, sum_append]
     show _ + (2 + 0) ≤ _; lia
    ·rw [← hac, length_append, length_singleton]; lia
    rw [← hac, ← e, map_append]
    walk_at "has"
   have hrn : rr ≠ [] := fun e => by
    have h1 : i + 1 = l.length := by rw [e] at hrlen; simp at hrlen; lia
    rw [h1] at h; simp at h
   rw [if_neg hrn] at hi2
   have hq0 : runN rr ≠ 0 := fun e => by rw [if_pos e] at hi2; exact absurd hi2.symm (some_ne_none _)
   rw [if_neg hq0] at hi2
   haveI hql := z64 rr
   obtain ⟨s0, hs0⟩ : ∃ s, l[i + 1]? = some (some s) := by
    by_cases q : ∃ s, l[i + 1]? = some (some s)
    ·exact q
    exact absurd (by rw [← hr]; exact qg5 (fun s e => q ⟨s, e⟩)) hq0
   haveI hg1 : (l.map (PTv a))[((i + 1 : Nat) : Int).toNat]? = some (.str s0) := by rw [toNat_natCast, getElem?_map, hs0]; rfl
   refine X.end ?_
   apply X.assert
   ·refine B.isnotS (a := s0) (b := a) (E.Q2 (i := ((i + 1 : Nat) : Int)) (EL.of ?_) ?_ (by lia) (by lia) hg1) ?_ (by rfl)
    walk_at "e e e"
   apply X.own 1 (xs := [])
   walk_at "dc rf kp rf rf"
   ·exact EF.list EA.nil (by decide)
   refine X.cut (fun s => Has ⟨[("inp", .pv (.list (l.map (PTv a)))), ("STAR", .pv (.obj a)), ("res", .ptr 0), ("add", .app 0), ("i", .pv (.int ((i + 1 + runN rr : Nat) : Int))), ("n", .pv (.int (l.length : Int))), ("fixed", .ptr 1)], [(1, (txts (rr.take (runN rr))).map .str), (0, acc.map .str)]⟩ s) ?_ fun s1 hs1 => ?_
   ·refine X.R2 (ι := Nat) (fun j => ⟨[("inp", .pv (.list (l.map (PTv a)))), ("STAR", .pv (.obj a)), ("res", .ptr 0), ("add", .app 0), ("i", .pv (.int (j : Int))), ("n", .pv (.int (l.length : Int))), ("fixed", .ptr 1)], [(1, (txts ((l.take j).drop (i + 1))).map .str), (0, acc.map .str)]⟩)
     (fun j => j + runN (l.drop j) = i + 1 + runN rr ∧ i + 1 ≤ j) (fun j => l.length - j) (i + 1) ?_ ⟨by rw [hr], Nat.le_refl _⟩ fun j hj => ?_
    ·haveI e0 : txts ((l.take (i + 1)).drop (i + 1)) = [] := by unfold txts; rw [drop_of_length_le (by simp; lia)]; rfl
     dsimp only
     rw [e0]
     walk_at "has"
    obtain ⟨hj1, hj2⟩ := hj
    refine ⟨(l[j]?.bind id).isSome, B.fixAt (a := a) ?_ ?_ ?_ ?_ ?_ (by lia) (by rfl) (by rfl) (by intro _ _; rfl), fun hb => ?_, fun hb => ?_⟩
    walk_at "e e e e e"
    ·have := qg5 (qq9 hb)
     have e : j = i + 1 + runN rr := by lia
     haveI e2 : (l.take (i + 1 + runN rr)).drop (i + 1) = rr.take (runN rr) := by rw [← hr, drop_take]; congr 1; lia
     rw [e, e2]
     refine X.nil ⟨rfl, ?_⟩
     walk_at "has"
    obtain ⟨s, hs⟩ := qq8 hb
    haveI hil := (List.getElem?_eq_some_iff.mp hs).1
    haveI hgj : (l.map (PTv a))[((j : Nat) : Int).toNat]? = some (.str s) := by rw [toNat_natCast, getElem?_map, hs]; rfl
    haveI htl : ((txts ((l.take j).drop (i + 1))).map PV.str).length ≤ j := by unfold txts; simp; lia
    apply X.app (v := .str s) G
    walk_at "dc rf s dc m m ko"
    ·refine E.Q2 (i := (j : Int)) (EL.of ?_) ?_ (by lia) (by lia) hgj
     walk_at "e e"
    ·lia
    apply X.U5 (b := 1) (c := ((j + 1 : Nat) : Int))
    walk_at "dc m kp e rf"
    refine X.W6 ⟨j + 1, ⟨by rw [← qq3 hs]; exact hj1, by lia⟩, by lia, ?_⟩
    rw [qj1 hs (i + 1) hj2, map_append]
    walk_at "has"
   refine X.has hs1 ?_
   clear hs1 s1
   have hwr := qi8 (rr.take (runN rr)) (rr.drop (runN rr))
   rw [take_append_drop] at hwr
   have hwt := qv3 (rr.take (runN rr))
   haveI htl : (txts (rr.take (runN rr))).length ≤ l.length := by unfold txts; simp; lia
   have hfx := q56 (txts (rr.take (runN rr)))
   generalize hts : txts (rr.take (runN rr)) = ts at *
   apply X.asg (r := .pv (.str (jn [] ts)))
   walk_at "dc rf kp"
   ·refine E.join (ts := ts) (sep := []) ?_ (EL.own (j := 1) G ?_ ?_ (by decide)) (by simp only [length_nil, mul_zero]; lia) (by rfl) (by rfl) (by intro _; rfl)
    ·exact E.str
    walk_at "m m"
   have hnx : l.drop (i + 1 + runN rr) = rr.drop (runN rr) := by rw [← hr, drop_drop]
   refine X.ite (b := ((i + 1 + runN rr : Nat) : Int) == (l.length : Int)) ?_ (fun h => ?_) (fun h => ?_)
   ·walk_at "tst"
   ·have e : i + 1 + runN rr = l.length := by have := eq_of_beq h; lia
    have hrn2 : rr.drop (runN rr) = [] := by rw [← hnx, e, drop_length]
    rw [if_pos hrn2] at hi2
    apply X.add (v := .str [46, 42]) G
    walk_at "rf s dc m m ko"
    ·exact E.str
    ·exact hacl
    apply X.add (v := .str (jn [] ts)) G
    walk_at "rf s dc m m ko e"
    ·rw [length_append, length_singleton, length_map]; lia
    refine X.end (X.W6 ⟨(i + 1 + runN rr, acc ++ [[46, 42], jn [] ts], 1), ⟨by lia, ?_, ?_, ?_⟩, by dsimp only; exact sub_lt_sub_left hlt (Nat.lt_of_lt_of_le (lt_succ_self i) (le_add_right ..)), ?_⟩)
    ·dsimp only
     rw [hnx, hrn2]; exact hi2
    ·dsimp only
     rw [hnx, hrn2, map_append, sum_append]
     show _ + (2 + ((jn [] ts).length + 0)) + 0 ≤ _
     lia
    ·dsimp only
     rw [length_append]
     show _ + 2 ≤ _
     lia
    dsimp only
    rw [show acc ++ [[46, 42], jn [] ts] = acc ++ [[46, 42]] ++ [jn [] ts] by simp, map_append, map_append]
    walk_at "has"
   have hne2 : ¬ i + 1 + runN rr = l.length := fun e => by rw [e] at h; simp at h
   have hrn2 : ¬ rr.drop (runN rr) = [] := fun e => by
    have := congrArg List.length e
    rw [length_drop] at this
    simp at this
    lia
   rw [if_neg hrn2] at hi2
   apply X.add (v := .str ([40, 63, 62, 46, 42, 63] ++ jn [] ts ++ [41])) G
   walk_at "rf s dc m m ko"
   ·refine E.fmt (by rfl) (by rfl) ?_ ?_
    ·walk_at "ev"
    show 6 + _ + 1 ≤ _; lia
   ·exact hacl
   refine X.end (X.W6 ⟨(i + 1 + runN rr, acc ++ [[40, 63, 62, 46, 42, 63] ++ jn [] ts ++ [41]], f), ⟨by lia, by dsimp only; rw [hnx]; exact hi2, ?_, ?_⟩, by dsimp only; exact sub_lt_sub_left hlt (Nat.lt_of_lt_of_le (lt_succ_self i) (le_add_right ..)), ?_⟩)
   ·dsimp only
    rw [hnx, map_append, sum_append]
    haveI : ([[40, 63, 62, 46, 42, 63] ++ jn [] ts ++ [41]].map List.length).sum = 7 + (jn [] ts).length := by simp; lia
    rw [this]
    simp at hi3
    lia
   ·dsimp only
    rw [length_append, length_singleton]; lia
   dsimp only
   rw [map_append]
   walk_at "has"
 obtain ⟨hb1, hb2, hs1⟩ := hs1
 refine X.has hs1 ?_
 clear hs1 s1
 apply X.assert
 ·have : ((l.length : Int) == (l.length : Int)) = true := beq_self_eq_true _
  rw [← this]
  walk_at "tst"
 haveI hjl := q56 accF
 apply X.asg (r := .pv (.str (jn [] accF)))
 walk_at "dc rf kp"
 ·refine E.join (ts := accF) (sep := []) ?_ (EL.own (j := 0) G ?_ ?_ (by decide)) (by simp only [length_nil, mul_zero]; lia) (by rfl) (by rfl) (by intro _; rfl)
  ·exact E.str
  walk_at "m m"
 refine X.ret (v := .str r) ?_ rfl
 rw [hre]
 refine E.fmt (by rfl) (by rfl) ?_ ?_
 ·walk_at "ev"
 show 4 + _ + 3 ≤ _; lia
theorem qe4 {Γ : Cx} {P : Params} (KX : (hdK P).In Γ.hB) (m : Nat) (pat : List Nat) (k : Nat) (parts : List Part) (r : List Nat) (hz : pat.length ≤ 2 ^ 9) (hk : trR k pat [] = some parts) (hw : wt parts ≤ 2 ^ 20) (hj : joinR parts = some r)
  (gi : Γ.mg (ofString "isinstance") = none) (gs : Γ.mg (ofString "str") = none) (gm : Γ.mg (ofString "_special_chars_map") = some (.ref 45)) (gl : Γ.mg (ofString "len") = none) (gr : Γ.mg (ofString "range") = none) (go : Γ.mg (ofString "object") = none)
  (ge : Γ.mg (ofString "escape") = some (.ref 55)) (gt : Γ.mg (ofString "_twin_re_1") = some (.ref 36)) (gtr : Γ.mg (ofString "_translate") = some (.ref 62)) (gj : Γ.mg (ofString "_join_translated_parts") = some (.ref 69)) (hT : Γ.tabs = [(57, trEs)]) (ba : BA Γ) :
  FSpec Γ (m + 4) 43 [.str pat] (.str r) := by
 refine FSpec.W4 KX (ps := ["pat"]) (ns := ["pat", "STAR", "parts"]) (v := [("pat", .pv (.str pat))]) (by rfl) (by rfl) (by rfl) ?_ ?_ (by rfl) ⟨rfl, rfl, rfl, rfl, rfl⟩ (by rfl) ?_
 ·walk_at "cok"
 ·intro Vs h
  obtain ⟨a, rfl⟩ := len1 h; rfl
 intro kf env G
 try dsimp only at G
 have bo : BN (Γ.on kf) env _ (ofString "object") (.type "object") := ⟨G, by rfl, go, by rfl, by decide, by decide⟩
 apply X.obj bo
 walk_at "dc kp rf"
 intro a
 have F1 := (qs4 KX m pat a k parts hz hk gi gs gm gl gr ge gt hT ba).on (k := kf)
 have D1 : DN (Γ.on kf) env _ (ofString "_translate") 62 := ⟨G, by rfl, gtr, by decide, fn_in KX (by rfl)⟩
 have F2 := (qz5 KX (m + 2) parts a r hw hj gl).on (k := kf)
 have D2 : DN (Γ.on kf) env _ (ofString "_join_translated_parts") 69 := ⟨G, by rfl, gj, by decide, fn_in KX (by rfl)⟩
 apply X.asg (r := .pv (.list (parts.map (PTv a))))
 walk_at "dc rf kp"
 ·refine E.call D1 F1 ?_ (by intro _; rfl)
  have : [46] = cs "." := rfl
  rw [this]
  walk_at "evs"
 refine X.ret (v := .str r) ?_ rfl
 refine E.call D2 F2 ?_ (by intro _; rfl)
 walk_at "evs"
noncomputable def Q0 (signs mem : List Nat) : List Nat := signs.filter fun c => !mem.contains c
noncomputable def q24 (signs held : List Nat) : List Nat := if held = signs then [32, 45, 50192] else if held = [] then [98, 45, 97] else held
noncomputable def q11 (signs mem : List Nat) (barred : Bool) : List Nat :=
 if barred then [91, 33] ++ q24 signs (Q0 signs mem) ++ [93]
 else W1 (q24 signs (Q0 signs (Q0 signs mem))) ([91] ++ q24 signs (Q0 signs (Q0 signs mem)) ++ [93])
theorem z35 (mem : List Nat) (c : Nat) : ((mem.map fun c => [c]).any fun y => y == [c]) = mem.contains c := by
 induction mem with
 | nil => rfl
 | cons a l ih =>
  rw [map_cons, any_cons, ih, List.contains_cons]
  congr 1
  by_cases h : a = c
  ·subst h; simp
  have h1 : (([a] : List Nat) == [c]) = false := by simp [h]
  have h2 : (c == a) = false := by simp [show ¬ c = a from fun e => h e.symm]
  rw [h1, h2]
theorem ql3 (signs mem : List Nat) : ((signs.map fun c => [c]).filter fun x => !(mem.map fun c => [c]).any fun y => y == x) = (Q0 signs mem).map fun c => [c] := by
 unfold Q0
 rw [filter_map]
 congr 1
 refine filter_congr fun c _ => ?_
 show (!(mem.map fun c => [c]).any fun y => y == [c]) = _
 rw [z35]
theorem qh4 (l : List Nat) : HasTy (.list .str) (chs l) := q53 l
theorem za8 {a b : List Nat} (h : chs a = chs b) : a = b := by
 unfold chs at h
 have h := PV.list.inj h
 have := congrArg (List.map fun v : PV => match v with | .str [c] => c | _ => 0) h
 simpa [map_map, Function.comp_def] using this
theorem z70 (a b : List Nat) : eqp (.list .str) (chs a) (chs b) = decide (a = b) := by
 rw [Bool.eq_iff_iff, qp2 _ _ _ (qh4 a) (qh4 b), decide_eq_true_iff]
 exact ⟨za8, fun e => by rw [e]⟩
theorem qk3 (l m : List Nat) : (Q0 l m).length ≤ l.length := length_filter_le ..
theorem qt8 {Γ : Cx} {P : Params} (KX : (hdK P).In Γ.hB) (signs mem : List Nat) (barred : Bool) (hs : signs.length ≤ 10) (hm : mem.length ≤ 100)
  (gi : Γ.mg (ofString "iter") = none) (gn : Γ.mg (ofString "next") = none) (gb : Γ.mg (ofString "bool") = none) (gl : Γ.mg (ofString "list") = none) (gf : Γ.mg (ofString "filterfalse") = some (.ref 102)) (gc : Γ.mg (ofString "chr") = none) (gfi : Γ.mg (ofString "_filter") = some (.ref 113)) :
  FSpec Γ 7 137 [chs mem, chs signs, .bool barred] (.str (q11 signs mem barred)) := by
 refine FSpec.W4 KX (ps := ["members", "signs", "barred"]) (ns := ["members", "signs", "barred", "outside", "held", "text"]) (v := [("members", .pv (chs mem)), ("signs", .pv (chs signs)), ("barred", .pv (.bool barred))]) (by rfl) (by rfl) (by rfl) ?_ ?_ (by rfl) ⟨rfl, rfl, rfl, rfl, rfl⟩ (by rfl) ?_
 ·walk_at "cok"
 ·intro Vs h
  obtain ⟨a, b, c, rfl⟩ := len3 h; rfl
 intro kf env G
 try dsimp only at G
 have D : DN (Γ.on kf) env _ (ofString "_filter") 113 := ⟨G, by rfl, gfi, by decide, fn_in KX (by rfl)⟩
 have F : ∀ ys : List Nat, FSpec (Γ.on kf) 6 113 [chs signs, chs ys] (chs (Q0 signs ys)) := fun ys => by
  have := (qd4 KX gi gn gb gl gf (signs.map fun c => [c]) (ys.map fun c => [c]) (by rw [length_map]; lia)).on (k := kf)
  rw [ql3, ← qe0, ← qe0, ← qe0] at this
  exact this
 apply X.asg (r := .pv (chs (Q0 signs mem)))
 walk_at "dc rf kp"
 ·refine E.call D (F mem) ?_ (by intro _; rfl)
  walk_at "evs"
 have hbl : BN (Γ.on kf) env _ (ofString "chr") (.builtin "chr") := ⟨G, by rfl, gc, by rfl, by decide, by decide⟩
 apply X.asg (r := .pv (chs (if barred then Q0 signs mem else Q0 signs (Q0 signs mem))))
 walk_at "dc rf kp"
 ·refine E.ife (b := barred) ?_ (fun h => ?_) (fun h => ?_)
  ·walk_at "tst"
  ·rw [if_pos h]; walk_at "ev"
  rw [if_neg (by rw [h]; decide)]
  refine E.call D (F (Q0 signs mem)) ?_ (by intro _; rfl)
  walk_at "evs"
 have e : q11 signs mem barred = if barred then cs "[!" ++ q24 signs (if barred then Q0 signs mem else Q0 signs (Q0 signs mem)) ++ cs "]" else W1 (q24 signs (if barred then Q0 signs mem else Q0 signs (Q0 signs mem))) ([91] ++ q24 signs (if barred then Q0 signs mem else Q0 signs (Q0 signs mem)) ++ [93]) := by
  unfold q11
  cases barred <;> rfl
 have hl : (if barred then Q0 signs mem else Q0 signs (Q0 signs mem)).length ≤ 10 := by
  split
  ·exact Nat.le_trans (qk3 ..) hs
  exact Nat.le_trans (qk3 ..) hs
 rw [e]
 generalize (if barred then Q0 signs mem else Q0 signs (Q0 signs mem)) = held at *
 apply X.asg (r := .pv (.str (q24 signs held)))
 walk_at "dc rf kp"
 ·refine E.ife (b := eqp (.list .str) (chs held) (chs signs)) ?_ (fun h => ?_) (fun h => ?_)
  ·refine B.eqt (.list .str) ?_ ?_ ?_ ?_ (by decide) (by rfl)
   walk_at "e e"
   ·exact qh4 _
   exact qh4 _
  ·rw [z70] at h
   unfold q24
   rw [if_pos (of_decide_eq_true h)]
   show E _ _ _ _ _ (.pv (.str (cs " -" ++ [(50192 : Int).toNat])))
   refine E.adds E.str (E.chr hbl E.int (by decide) (by decide) (by intro _; rfl)) (by decide)
  rw [z70] at h
  unfold q24
  rw [if_neg (of_decide_eq_false h)]
  refine E.ors (a := held) (b := [98, 45, 97]) (E.joinS E.str ?_ (by lia) (by rfl) (by rfl) (by intro _; rfl)) (by lia) fun _ => E.str
  walk_at "ev"
 have htl : (q24 signs held).length ≤ 20 := by unfold q24; split; decide; split; decide; lia
 generalize q24 signs held = tx at *
 refine X.ite (b := barred) ?_ (fun h => ?_) (fun h => ?_)
 ·walk_at "tst"
 ·refine X.ret (v := .str (if barred then cs "[!" ++ tx ++ cs "]" else W1 tx ([91] ++ tx ++ [93]))) ?_ rfl
  rw [if_pos h]
  refine E.adds (E.adds E.str ?_ ?_) E.str ?_
  ·walk_at "ev"
  ·show 2 + _ ≤ _; lia
  rw [length_append]; show 2 + _ + 1 ≤ _; lia
 refine X.end (X.ret (v := .str (if barred then cs "[!" ++ tx ++ cs "]" else W1 tx ([91] ++ tx ++ [93]))) ?_ rfl)
 rw [if_neg (by rw [h]; decide)]
 refine E.bareGet G ?_ (by decide) (by lia) (by rfl)
 walk_at "mem"
theorem z59 (l : List PV) : eqp (.list .str) (.list l) (.list []) = l.isEmpty := by
 cases l <;> rfl
noncomputable def misT (name : List Nat) (row : List (List Nat)) : List (Nat × List Nat) := (name.zip row).filter fun p => !p.2.any fun c => c == p.1
noncomputable def edgeN (name : List Nat) (front : List (List Nat)) (e : Int) : List Nat := cut none (some (front.length : Int)) name ++ cut (some e) none name
noncomputable def q22 (name kind : List Nat) (f e : Int) : List Int := (rngL f e).filter fun p => kind.any fun c => [c] == [name.getD p.toNat 0]
noncomputable def q17 (name : List Nat) (front back : List (List Nat)) (kind : List Nat) : Int :=
 if (name.length : Int) - (back.length : Int) < (front.length : Int) then -1
 else if (misT (edgeN name front ((name.length : Int) - (back.length : Int))) (front ++ back)).isEmpty = false then -1
 else if (q22 name kind (front.length : Int) ((name.length : Int) - (back.length : Int))).isEmpty = false then (q22 name kind (front.length : Int) ((name.length : Int) - (back.length : Int))).headD 0 - (front.length : Int) else -1
theorem qu2 {Γ : Cx} {P : Params} (KX : (hdK P).In Γ.hB) (name : List Nat) (front back : List (List Nat)) (kind : List Nat) (hn : name.length ≤ 10) (hf : front.length ≤ 10) (hb : back.length ≤ 10) (blen : Γ.mg (ofString "len") = none) (brange : Γ.mg (ofString "range") = none) (bzip : Γ.mg (ofString "zip") = none) :
  FSpec Γ 6 152 [.str name, .list (front.map chs), .list (back.map chs), chs kind] (.int (q17 name front back kind)) := by
 refine FSpec.W4 KX (ps := ["name", "front", "back", "kind"]) (ns := ["name", "front", "back", "kind", "end", "places"]) (v := [("name", .pv (.str name)), ("front", .pv (.list (front.map chs))), ("back", .pv (.list (back.map chs))), ("kind", .pv (chs kind))]) (by rfl) (by rfl) (by rfl) ?_ ?_ (by rfl) ⟨rfl, rfl, rfl, rfl, rfl⟩ (by rfl) ?_
 ·walk_at "cok"
 ·intro Vs h
  obtain ⟨a, t, rfl, g⟩ := lenS h
  obtain ⟨b, c, d, rfl⟩ := len3 g; rfl
 intro kf env G
 try dsimp only at G
 have hnn : name.length ≤ 2 ^ 24 := by lia
 have hfm : (front.map chs).length = front.length := length_map ..
 have hbm : (back.map chs).length = back.length := length_map ..
 have hfm2 : (front.map chs).length < 2 ^ 60 := by lia
 have hbm2 : (back.map chs).length < 2 ^ 60 := by lia
 apply X.asg (r := .pv (.int ((name.length : Int) - (back.length : Int))))
 walk_at "dc rf kp"
 ·rw [← hbm]
  walk_at "ev"
 unfold q17
 have he1 : (name.length : Int) - (back.length : Int) ≤ 10 := by lia
 have he2 : -10 ≤ (name.length : Int) - (back.length : Int) := by lia
 have hen : (name.length : Int) - (back.length : Int) ≤ name.length := by lia
 generalize (name.length : Int) - (back.length : Int) = e at *
 refine X.ite (b := decide (e < (front.length : Int))) ?_ (fun h => ?_) (fun h => ?_)
 ·rw [← hfm]
  walk_at "tst"
 ·refine X.ret (v := .int (if e < (front.length : Int) then -1 else if (misT (edgeN name front e) (front ++ back)).isEmpty = false then -1 else if (q22 name kind (front.length : Int) e).isEmpty = false then (q22 name kind (front.length : Int) e).headD 0 - (front.length : Int) else -1)) ?_ rfl
  rw [if_pos (of_decide_eq_true h)]
  walk_at "ev"
 refine X.end ?_
 have hfe := of_decide_eq_false h
 rw [if_neg hfe]
 refine X.ite (b := !(misT (edgeN name front e) (front ++ back)).isEmpty) ?_ (fun h => ?_) (fun h => ?_)
 ·have e0 : (misT (edgeN name front e) (front ++ back)).isEmpty = eqp (.list .str) (.list ((misT (edgeN name front e) (front ++ back)).map fun p => .str [p.1])) (.list []) := by
   rw [z59]; cases misT (edgeN name front e) (front ++ back) <;> rfl
  rw [e0]
  have hel : (edgeN name front e).length ≤ 20 := by
   unfold edgeN; rw [length_append]
   have h1 := q44 none (some (front.length : Int)) name
   have h2 := q44 (some e) none name
   lia
  refine B.net (.list .str) ?_ (E.list EA.nil (by decide)) ?_ ?_ (by decide) (by rfl)
  ·unfold misT
   refine E.Q9 (its := (edgeN name front e).zip (front ++ back)) (cv := fun p => [.str [p.1], chs p.2]) (xs := ["sign", "item"]) (l := []) G ?_ ?_ (.tup ["sign", "item"] [_, _] _ _ rfl) (by decide) (fun _ => rfl) ?_ ?_ (fun c2 G2 s hs => ?_) fun c2 G2 s hs hb => ?_
   walk_at "ck cp"
   ·have e2 : (((edgeN name front e).zip (front ++ back)).map fun p => [PV.str [p.1], chs p.2]) = (((edgeN name front e).zip (front.map chs ++ back.map chs)).map fun p => [.str [p.1], p.2]) := by
     rw [← map_append, List.zip_map_right, map_map]; rfl
    rw [e2]
    apply I.zipS
    ·walk_at "bn"
    ·unfold edgeN
     refine E.adds (a := cut none (some (front.length : Int)) name) (b := cut (some e) none name) ?_ ?_ (by unfold edgeN at hel; rw [length_append] at hel; lia)
     ·rw [← hfm]
      walk_at "ev"
     walk_at "ev"
    ·refine E.addl ?_ ?_ (by lia)
     walk_at "l l"
    walk_at "s s"
   ·rw [List.length_zip]; lia
   ·have e1 : (!s.2.any fun c => c == s.1) = !((s.2.map fun c => PV.str [c]).any fun v => eqp .str v (.str [s.1])) := by
     rw [qi6]
     congr 2; funext c
     cases h : c == s.1 with
     | true => rw [beq_iff_eq.mp h]; exact (beq_self_eq_true _).symm
     | false => symm; simpa using h
    rw [e1]
    refine B.O0 .str ?_ (EL.of ?_) trivial (q53 _) (by decide) (by rfl)
    walk_at "e e"
   walk_at "ev"
  ·intro y hy
   obtain ⟨p, _, rfl⟩ := mem_map.mp hy; trivial
  intro y hy; cases hy
 ·refine X.ret (v := .int (if (misT (edgeN name front e) (front ++ back)).isEmpty = false then -1 else if (q22 name kind (front.length : Int) e).isEmpty = false then (q22 name kind (front.length : Int) e).headD 0 - (front.length : Int) else -1)) ?_ rfl
  rw [if_pos (by simpa using h)]
  walk_at "ev"
 refine X.end ?_
 rw [if_neg (by rw [Bool.not_eq_false'] at h; rw [h]; decide)]
 have hpl : (q22 name kind (front.length : Int) e).length ≤ 100 := Nat.le_trans (length_filter_le ..) (qx2 (by lia))
 have hp0 : ∀ p ∈ q22 name kind (front.length : Int) e, 0 ≤ p ∧ p ≤ 100 := fun p hp => by
  have := qj7 (mem_filter.mp hp).1; lia
 refine X.Q9 (its := rngL (front.length : Int) e) (cv := fun p => [.int p]) (f := .int) (tb := fun p => kind.any fun c => [c] == [name.getD p.toNat 0]) (xs := ["place"]) (l := [("name", .str name), ("kind", chs kind)]) (rest := [("end", .pv (.int e)), ("name", .pv (.str name)), ("front", .pv (.list (front.map chs))), ("back", .pv (.list (back.map chs))), ("kind", .pv (chs kind))]) G (by decide) ?_ ?_ ?_ (.name _ _) (by decide) (fun _ => rfl) (I.rng (a := (front.length : Int)) (b := e) ?_ (by lia) (by lia)) ?_ (fun c2 G2 p hp => ?_) (fun c2 G2 p hp hb => ?_) (by rfl) ?_
 walk_at "kp ck cp"
 ·apply E.Y1
  ·walk_at "bn"
  ·rw [← hfm]
   walk_at "ev"
  walk_at "e s s"
 ·exact Nat.le_trans (qx2 (m := 100) (by lia)) (by decide)
 ·have hk := qj7 hp
  rw [← qi6]
  refine B.inl .str (E.items (i := p) (x := name) (c := name.getD p.toNat 0) ?_ ?_ (by lia) ?_) (EL.of ?_) trivial (q53 _) (by decide) (by rfl)
  walk_at "e e"
  ·have hlt : p.toNat < name.length := by lia
   have := sat (qo7 (d := 0) hlt)
   rwa [show ((p.toNat : Nat) : Int) = p by lia] at this
  walk_at "ev"
 ·walk_at "ev"
 show X _ _ _ _ _ ⟨[("places", .pv (.list ((q22 name kind (front.length : Int) e).map .int))), ("end", .pv (.int e)), ("name", .pv (.str name)), ("front", .pv (.list (front.map chs))), ("back", .pv (.list (back.map chs))), ("kind", .pv (chs kind))], _⟩ _ _
 generalize q22 name kind (front.length : Int) e = ps at *
 refine X.ret (v := .int (if ps.isEmpty = false then ps.headD 0 - (front.length : Int) else -1)) ?_ rfl
 refine E.ife (b := !ps.isEmpty) ?_ (fun h => ?_) fun h => ?_
 ·rw [← qh7]
  refine B.net (.list .int) ?_ (E.list EA.nil (by decide)) ?_ ?_ (by decide) (by rfl)
  ·walk_at "ev"
  ·intro y hy
   obtain ⟨p, _, rfl⟩ := mem_map.mp hy; trivial
  intro y hy; cases hy
 ·rw [if_pos (by simpa using h)]
  refine E.sub (E.Q2 (EL.of (xs := ps.map .int) ?_) (i := 0) ?_ (by decide) (by decide) ?_) ?_
  walk_at "e e"
  ·cases ps with
   | nil => exact absurd h (by decide)
   | cons a l => rfl
  rw [← hfm]
  walk_at "ev"
 rw [if_neg (by rw [Bool.not_eq_false'] at h; rw [h]; decide)]
 walk_at "ev"
noncomputable def scL : Scope := match (pB[22]? : Option Stmt) with | some (.FunctionDef _ _ _ _ _ _ sc _ _ _) => sc | _ => default
noncomputable def lns : List String := ["script", "owns", "drawn", "signs", "figures", "ahead", "front", "behind", "back", "kind", "others", "names", "firsts", "least", "taken", "r", "n", "run", "pieces", "stars", "text", "steps"]
structure LG (Γ : Cx) (P : Params) : Prop where
 KX : (hdK P).In Γ.hB
 gi : Γ.mg (ofString "isinstance") = none
 gs : Γ.mg (ofString "str") = none
 gm : Γ.mg (ofString "_special_chars_map") = some (.ref 45)
 gl : Γ.mg (ofString "len") = none
 gr : Γ.mg (ofString "range") = none
 go : Γ.mg (ofString "object") = none
 ge : Γ.mg (ofString "escape") = some (.ref 55)
 gt : Γ.mg (ofString "_twin_re_1") = some (.ref 36)
 gtr : Γ.mg (ofString "_translate") = some (.ref 62)
 gj : Γ.mg (ofString "_join_translated_parts") = some (.ref 69)
 hT : Γ.tabs = [(57, trEs)]
 ba : BA Γ
 git : Γ.mg (ofString "iter") = none
 gn : Γ.mg (ofString "next") = none
 gb : Γ.mg (ofString "bool") = none
 gli : Γ.mg (ofString "list") = none
 gff : Γ.mg (ofString "filterfalse") = some (.ref 102)
 gc : Γ.mg (ofString "chr") = none
 gfi : Γ.mg (ofString "_filter") = some (.ref 113)
 gzip : Γ.mg (ofString "zip") = none
 gen : Γ.mg (ofString "enumerate") = none
 gsum : Γ.mg (ofString "sum") = none
 ged : Γ.mg (ofString "_law_edge") = some (.ref 125)
 gna : Γ.mg (ofString "_law_name") = some (.ref 130)
 gst : Γ.mg (ofString "_law_steps") = some (.ref 142)
 gsi : Γ.mg (ofString "_law_signs") = some (.ref 118)
 gpi : Γ.mg (ofString "_law_piece") = some (.ref 137)
 gta : Γ.mg (ofString "_law_takes") = some (.ref 147)
 gfr : Γ.mg (ofString "_law_first") = some (.ref 152)
 gtl : Γ.mg (ofString "translate") = some (.ref 43)
noncomputable def owns : List Int := [3234, 0, 1010, 2101, 21014, 20020, 5435, 220002, 203, 21228, 201, 9]
noncomputable def stepL (script : List Int) (p : Int) : List Int :=
 (sliceRange (sliceBounds (some p) none (some 12) script.length).1 (sliceBounds (some p) none (some 12) script.length).2.1 (sliceBounds (some p) none (some 12) script.length).2.2).filterMap (script[·]?)
noncomputable def qd6 (script : List Int) (p : Int × Nat) : Int := p.1 + (stepL script p.2).sum
noncomputable def figL (d : Int) : List Int := (List.range 6).map fun k : Nat => (d.fdiv (10 ^ k)).fmod 10
noncomputable def kindOf (d : Int) (signs : List Nat) : List Nat := ((cut (some 2) (some 5) (figL d)).filter fun f => decide (0 < f.fmod 4)).map fun f => signs.getD (f.fmod 4 - 1).toNat 0
noncomputable def runOf (others kind : List Nat) (n : Nat) : List (List Nat) := List.replicate n others ++ [kind]
noncomputable def bitF (d : Int) (r k : Nat) : Bool := (d.fdiv (10 ^ r) + (k : Int)).fmod 2 == 1
noncomputable def q09 (signs : List Nat) (row : List (List Nat)) (b : Nat → Bool) : List (List Nat) := (List.range row.length).map fun k => q11 signs (row.getD k []) (b k)
noncomputable def q33 (r : Nat) : List (List Nat) := if r % 2 = 0 then [[42]] else []
noncomputable def midOf (signs : List Nat) (row : List (List Nat)) (b : Nat → Bool) (r n : Nat) : List (List Nat) := cut none (some (n : Int)) (q09 signs row b) ++ q33 r ++ cut (some (n : Int)) none (q09 signs row b)
noncomputable def patOf (signs : List Nat) (row : List (List Nat)) (b : Nat → Bool) (r n : Nat) (ahead behind : List Nat) : List Nat := ahead ++ jn [] (midOf signs row b r n) ++ [42] ++ behind
noncomputable def condR (r n : Nat) (f : Int) : Bool := f == (n : Int) || (decide ((n : Int) < f) && (r % 2 == 0))
noncomputable abbrev rowP (row : List (List Nat)) : PV := .list (row.map chs)
noncomputable abbrev nmP (l : List (List Nat)) : PV := .list (l.map .str)
noncomputable abbrev nmsP (l : List (List (List Nat))) : PV := .list (l.map nmP)
noncomputable abbrev fsP (F : List Nat → Int) (l : List (List Nat)) : PV := .list (l.map fun x => .int (F x))
noncomputable def RowOK (signs : List Nat) (row : List (List Nat)) (b : Nat → Bool) (r n : Nat) (ahead behind : List Nat) (F : List Nat → Int) (names : List (List Nat)) : Prop :=
 ∃ kk parts txt k2 steps, trR kk (patOf signs row b r n ahead behind) [] = some parts ∧ wt parts ≤ 2 ^ 20 ∧ joinR parts = some txt ∧ txt.length ≤ 2 ^ 16 ∧ cut none (some 4) txt ++ cut (some (-3)) none txt = cs "(?s:)\\Z" ∧
  q15 signs k2 (cut (some 4) (some (-3)) txt) [] (cs "here") [] = some steps ∧ (∀ p ∈ steps, p.2.length ≤ 2 ^ 20) ∧ ∀ x ∈ names, q58 steps x = condR r n (F x)
noncomputable def LawOK (d0 d1 d2 : Int) (ds : List Int) : Prop :=
 ∀ r : Nat, r < 5 → RowOK (q01 d1) (runOf (Q0 (q01 d1) (kindOf d0 (q01 d1))) (kindOf d0 (q01 d1)) ((((figL d0).getD 5 0).fmod 3).toNat + r / 2)) (bitF d2 r) r ((((figL d0).getD 5 0).fmod 3).toNat + r / 2)
  (edgeT ((figL d0).getD 0 0) (q01 d1) (cs "*?[")) (edgeT ((figL d0).getD 1 0) (q01 d1) (cs "*?"))
  (fun x => q17 x (edgeS ((figL d0).getD 0 0) (q01 d1)) (edgeS ((figL d0).getD 1 0) (q01 d1)) (kindOf d0 (q01 d1))) (ds.map fun d => nameR d (q01 d1))
theorem z17 {α : Type} {a b : Option Int} {l : List α} {x : α} (h : x ∈ cut a b l) : x ∈ l := mem_of_mem_drop (List.mem_of_mem_take h)
theorem z27 (x y : List Nat) : (W1 x y).length ≤ 4 + y.length := by
 unfold W1
 split
 ·exact Nat.le_trans (le_of_ble_eq_true rfl : 1 ≤ 4) (le_add_right ..)
 split
 ·exact le_add_right 4 _
 exact le_add_left ..
theorem qq1 (signs held : List Nat) (h : held.length ≤ 10) : (q24 signs held).length ≤ 10 := by
 unfold q24
 split
 ·exact le_of_ble_eq_true rfl
 split
 ·exact le_of_ble_eq_true rfl
 exact h
theorem qx7 (signs mem : List Nat) (b : Bool) (hs : signs.length ≤ 10) : (q11 signs mem b).length ≤ 40 := by
 have h1 := qq1 signs (Q0 signs mem) (Nat.le_trans (qk3 ..) hs)
 have h2 := qq1 signs (Q0 signs (Q0 signs mem)) (Nat.le_trans (qk3 ..) hs)
 unfold q11
 split
 ·rw [length_append, length_append]
  show 2 + _ + 1 ≤ 40; lia
 have h3 := z27 (q24 signs (Q0 signs (Q0 signs mem))) ([91] ++ q24 signs (Q0 signs (Q0 signs mem)) ++ [93])
 rw [length_append, length_append] at h3
 simp only [length_singleton] at h3
 lia
theorem sum40 {l : List (List Nat)} (hl : ∀ x ∈ l, x.length ≤ 40) : (l.map List.length).sum ≤ 40 * l.length := by
 induction l with
 | nil => exact Nat.le_refl _
 | cons a l ih =>
  rw [map_cons, sum_cons, length_cons, Nat.mul_succ, Nat.add_comm]
  exact Nat.add_le_add (ih fun x m => hl x (.tail _ m)) (hl a (.head _))
theorem qy9 (signs : List Nat) (row : List (List Nat)) (b : Nat → Bool) (r n : Nat) (hs : signs.length ≤ 10) (hr : row.length ≤ 5) : ((midOf signs row b r n).map List.length).sum ≤ 450 := by
 unfold midOf
 refine Nat.le_trans (sum40 fun x hx => ?_) ?_
 ·have hp : ∀ y ∈ q09 signs row b, y.length ≤ 40 := fun y hy => by
   obtain ⟨k, _, rfl⟩ := mem_map.mp hy
   exact qx7 _ _ _ hs
  rcases mem_append.mp hx with hx | hx
  ·rcases mem_append.mp hx with hx | hx
   ·exact hp _ (z17 hx)
   unfold q33 at hx
   split at hx
   ·rw [mem_singleton.mp hx]; exact le_of_ble_eq_true rfl
   cases hx
  exact hp _ (z17 hx)
 have hl : (q09 signs row b).length ≤ 5 := by unfold q09; rw [length_map, length_range]; exact hr
 have h1 := q44 none (some (n : Int)) (q09 signs row b)
 have h2 := q44 (some (n : Int)) none (q09 signs row b)
 have h3 : (q33 r).length ≤ 1 := by unfold q33; split <;> decide
 rw [length_append, length_append]
 lia
theorem z87 (signs : List Nat) (row : List (List Nat)) (b : Nat → Bool) (r n : Nat) (ahead behind : List Nat) (hs : signs.length ≤ 10) (hr : row.length ≤ 5) (ha : ahead.length ≤ 3) (hb : behind.length ≤ 3) : (patOf signs row b r n ahead behind).length ≤ 500 := by
 have := Nat.le_trans (q56 _) (qy9 signs row b r n hs hr)
 unfold patOf
 rw [length_append, length_append, length_append]
 simp only [length_singleton]
 lia
theorem qb2 (f : Int) (signs marks : List Nat) : (edgeT f signs marks).length ≤ 3 ∧ (edgeS f signs).length ≤ 1 := by
 unfold edgeT edgeS
 constructor
 ·split
  ·exact le_of_ble_eq_true rfl
  split
  ·exact le_of_ble_eq_true rfl
  split <;> exact le_of_ble_eq_true rfl
 split
 ·exact le_of_ble_eq_true rfl
 split <;> exact le_of_ble_eq_true rfl
theorem z45 (d : Int) (signs : List Nat) : (nameR d signs).length ≤ 5 := by unfold nameR; rw [length_map, qg7]; exact nm_le _
theorem q18 (l : List (List Nat)) : HasTy (.list .str) (nmP l) := fun x hx => by
 obtain ⟨i, _, rfl⟩ := mem_map.mp hx
 trivial
theorem q74 (l : List (List Nat)) : eqp (.list .str) (nmP l) (nmP l) = true := (qp2 _ _ _ (q18 l) (q18 l)).mpr rfl
theorem B.cast {Γ : Cx} {n : Nat} {env : Env} {σ : St} {x : Expr} {b c : Bool} (e : b = c) (h : B Γ n env σ x b) : B Γ n env σ x c := e ▸ h
theorem E.cast {Γ : Cx} {n : Nat} {env : Env} {σ : St} {x : Expr} {b c : PV} (e : b = c) (h : E Γ n env σ x (.pv b)) : E Γ n env σ x (.pv c) := e ▸ h
theorem qs0 {l : List (List Nat)} {p : List Nat → Bool} {n : List Nat} (h : n ∈ l) : ((l.filter p).any fun y => y == n) = p n := by
 rw [Bool.eq_iff_iff, any_eq_true]
 constructor
 ·rintro ⟨y, hy, e⟩
  have : y = n := eq_of_beq e
  subst this
  exact (mem_filter.mp hy).2
 intro hp
 exact ⟨n, mem_filter.mpr ⟨h, hp⟩, beq_self_eq_true _⟩
theorem FSpec.up {Γ : Cx} {n : Nat} {f : Addr} {xs : List PV} {r : PV} (F : FSpec Γ n f xs r) : FSpec Γ (n + 1) f xs r := fun k A s H Vs Rm => F k A s H Vs ⟨Rm.frames, Rm.handled, by have := Rm.depth; lia, by have := Rm.units; lia⟩
theorem qj5 (d : Int) : (q01 d).length = 3 := by
 unfold q01
 rw [length_map]
 have h1 := q35 d (b := 10) (by decide)
 have h2 := q23 d (b := 10) (by decide)
 have h3 : (d.fmod 10).toNat < 10 := by lia
 have : ∀ k < 10, (R1.getD k []).length = 3 := by decide
 exact this _ h3
theorem z33 (script : List Int) (p : Int) : (sliceRange (sliceBounds (some p) none (some 12) (script.map PV.int).length).1 (sliceBounds (some p) none (some 12) (script.map PV.int).length).2.1 (sliceBounds (some p) none (some 12) (script.map PV.int).length).2.2).filterMap ((script.map PV.int)[·]?) = (stepL script p).map PV.int := by
 unfold stepL
 rw [length_map, List.map_filterMap]
 congr 1
 funext i
 exact getElem?_map ..
section
variable {Γ : Cx} {n : Nat} {env : Env} {σ : St}
theorem I.rngN {e : Expr} {x : String} {p : Pos} {m : Nat} (hm : m ≤ 2 ^ 20) (he : E Γ n env σ e (.pv (.rng 0 (m : Int)))) : EvI Γ n env σ e (.Name (ofString x) p) ((List.range m).map fun k : Nat => [.int (k : Int)]) := by
 have := I.rng (x := x) (p := p) he (by decide) (by lia)
 have e2 : (rngL 0 (m : Int)).map (fun i => [PV.int i]) = (List.range m).map fun k : Nat => [.int (k : Int)] := by
  unfold rngL
  rw [Int.sub_zero, toNat_natCast, map_map]
  refine map_congr_left fun k _ => ?_
  show [PV.int (0 + (k : Int))] = _
  rw [Int.zero_add]
 rwa [e2] at this
end
theorem z29 (F : List Nat → Int) (l : List (List Nat)) : (l.map fun x => [PV.str x, .int (F x)]) = ((l.map PV.str).zip (l.map fun x => PV.int (F x))).map fun p => [p.1, p.2] := by
 rw [List.zip_map', map_map]; rfl
theorem ql4 (l : List (List Nat)) (p q : List Nat → Bool) : (l.filter p).filter (fun x => !(l.filter q).any fun y => y == x) = l.filter fun x => p x && !q x := by
 rw [List.filter_filter]
 exact filter_congr fun x hx => by rw [qs0 hx, Bool.and_comm]
theorem z56 (l : List (List Nat)) (q : List Nat → Bool) : l.filter (fun x => !(l.filter q).any fun y => y == x) = l.filter fun x => !q x :=
 filter_congr fun x hx => by rw [qs0 hx]
theorem E.named {Γ : Cx} {n : Nat} {env : Env} {σ : St} {sc scope : Scope} {elt c : Expr} {es : List Expr} {j : Nat} {tpos p1 zp pos : Pos} {zk : Str} {F : List Nat → Int} {names : List (List Nat)} {tb : List Nat → Bool} {l : List (String × PV)} (G : EnvS env sc) (C : CompOK scope sc (".0" :: ["name", "first"])) (hl0 : Caps scope σ l) (T : Tgt (.Tuple es j tpos) ["name", "first"])
  (bz : BN Γ env sc zk (.type "zip")) (hn : ("names", RV.pv (nmP names)) ∈ σ.v) (hf : ("firsts", RV.pv (fsP F names)) ∈ σ.v) (hz : names.length ≤ 1000) {q1 q2 : Pos}
  (ht : ∀ cenv, EnvS cenv (relab scope sc) → ∀ x ∈ names, B Γ n cenv (pvSt (["name", "first"].zip [.str x, .int (F x)] ++ l)) c (tb x)) (hin : ∀ cenv, EnvS cenv (relab scope sc) → ∀ x ∈ names, tb x = true → E Γ n cenv (pvSt (["name", "first"].zip [.str x, .int (F x)] ++ l)) elt (.pv (.str x))) :
  E Γ n env σ (.ListComp elt [⟨.Tuple es j tpos, .Call (.Name zk zp) [.Name (ofString "names") q1, .Name (ofString "firsts") q2] [] p1, [c], 0⟩] scope pos) (.pv (nmP (names.filter tb))) := by
 refine E.Q9 (its := names) (cv := fun x => [.str x, .int (F x)]) (f := PV.str) (tb := tb) (xs := ["name", "first"]) (l := l) G C hl0 T (by decide) (fun _ => rfl) ?_ (by lia) ht hin
 rw [z29]
 apply I.zip bz
 ·exact E.var G hn (by decide)
 ·exact E.var G hf (by decide)
 walk_at "s s"
theorem zc5 {Γ : Cx} {P : Params} (Q : LG Γ P) (kf : List Addr) {τ : Nat} {env : Env} (G : EnvS env scL) (names : List (List Nat)) (F : List Nat → Int) (m : Nat) (hnl : names.length ≤ 1000) (A0 A1 A2 A3 A4 : List (List Nat)) (h0 : A0.length ≤ 1000) (h2 : A2.length ≤ 1000)
  (e0 : A0.filter (fun x => !A1.any fun y => y == x) = A2) (e2 : A2.filter (fun x => !A3.any fun y => y == x) = A4) (e4 : names.filter (fun x => !A0.any fun y => y == x) = names.filter fun x => decide (F x < (m : Int))) :
  X (Γ.on kf) τ 7 env lns ⟨[("taken", .pv (nmsP [A0, A1, A2, A3, A4])), ("names", .pv (nmP names)), ("firsts", .pv (fsP F names)), ("least", .pv (.int (m : Int)))], []⟩
   ((bd pB[22]?).drop 13) fun af _ => af = .rt (.bool true) := by
 have KX := Q.KX
 have D : DN (Γ.on kf) env _ (ofString "_filter") 113 := ⟨G, by rfl, Q.gfi, by decide, fn_in KX (by rfl)⟩
 have FF : ∀ xs ys : List (List Nat), xs.length ≤ 2000 → FSpec (Γ.on kf) 7 113 [nmP xs, nmP ys] (nmP (xs.filter fun x => !ys.any fun y => y == x)) := fun xs ys hx => (FSpec.up (qd4 KX Q.git Q.gn Q.gb Q.gli Q.gff xs ys (by lia))).on (k := kf)
 have F0 := FF A0 A1 (by lia)
 have F2 := FF A2 A3 (by lia)
 have F4 := FF names A0 (by lia)
 rw [e0] at F0
 rw [e2] at F2
 rw [e4] at F4
 have g0 : ([A0, A1, A2, A3, A4].map nmP)[(0 : Int).toNat]? = some (nmP A0) := rfl
 have g1 : ([A0, A1, A2, A3, A4].map nmP)[(1 : Int).toNat]? = some (nmP A1) := rfl
 have g2 : ([A0, A1, A2, A3, A4].map nmP)[(2 : Int).toNat]? = some (nmP A2) := rfl
 have g3 : ([A0, A1, A2, A3, A4].map nmP)[(3 : Int).toNat]? = some (nmP A3) := rfl
 have g4 : ([A0, A1, A2, A3, A4].map nmP)[(4 : Int).toNat]? = some (nmP A4) := rfl
 refine X.ite (b := false) ?_ (fun h => by cases h) (fun _ => ?_)
 ·refine B.cast (b := (!eqp (.list .str) (nmP A2) (nmP A2)) || ((!eqp (.list .str) (nmP A4) (nmP A4)) || false)) (by rw [q74, q74]; rfl) ?_
  refine B.or (B.net (.list .str) (E.call D F0 (EA.cons (E.Q2 (i := 0) (EL.of ?_) E.int (by decide) (by decide) g0) (EA.cons (E.Q2 (i := 1) (EL.of ?_) E.int (by decide) (by decide) g1) EA.nil (by intro _; rfl)) (by intro _; rfl)) (by intro _; rfl)) (E.Q2 (i := 2) (EL.of ?_) E.int (by decide) (by decide) g2) (q18 _) (q18 _) (by decide) (by rfl)) fun _ => B.or (B.net (.list .str) (E.call D F2 (EA.cons (E.Q2 (i := 2) (EL.of ?_) E.int (by decide) (by decide) g2) (EA.cons (E.Q2 (i := 3) (EL.of ?_) E.int (by decide) (by decide) g3) EA.nil (by intro _; rfl)) (by intro _; rfl)) (by intro _; rfl)) (E.Q2 (i := 4) (EL.of ?_) E.int (by decide) (by decide) g4) (q18 _) (q18 _) (by decide) (by rfl)) fun _ => B.or0
  all_goals walk_at "ev"
 refine X.end (X.ret (v := .bool true) ?_ rfl)
 refine E.cast (b := .bool (eqp (.list .str) (nmP (names.filter fun x => decide (F x < (m : Int)))) (nmP (names.filter fun x => decide (F x < (m : Int)))))) (by rw [q74]) ?_
 have bz : BN (Γ.on kf) env _ (ofString "zip") (.type "zip") := ⟨G, by rfl, Q.gzip, by rfl, by decide, by decide⟩
 refine E.eqt (.list .str) (E.call D F4 (EA.cons ?_ (EA.cons (E.Q2 (i := 0) (EL.of ?_) E.int (by decide) (by decide) g0) EA.nil (by intro _; rfl)) (by intro _; rfl)) (by intro _; rfl)) (E.named (F := F) (l := [("least", .int (m : Int))]) G ?_ ?_ (.tup ["name", "first"] [_, _] _ _ rfl) bz ?_ ?_ hnl (fun c2 G2 x hx => ?_) fun c2 G2 x hx hb => ?_) (q18 _) (q18 _) (by decide) (by rfl)
 walk_at "e e ck cp m m"
 ·refine B.lti ?_ ?_ (by rfl)
  walk_at "e e"
 walk_at "ev"
noncomputable def dueR (names : List (List Nat)) (F : List Nat → Int) (m r : Nat) : List (List Nat) := names.filter fun x => condR r (m + r / 2) (F x)
theorem qd7 {r n : Nat} {f : Int} (hr : r % 2 = 0) : condR r n f = decide ((n : Int) ≤ f) := by
 unfold condR
 rw [hr, show ((0 : Nat) == 0) = true from rfl, Bool.and_true, Bool.eq_iff_iff, or_eq_true, beq_iff_eq, decide_eq_true_iff, decide_eq_true_iff]
 exact ⟨fun h => h.elim (fun e => Int.le_of_eq e.symm) Int.le_of_lt, fun h => (Int.lt_or_eq_of_le h).elim .inr fun e => .inl e.symm⟩
theorem z18 {r n : Nat} {f : Int} (hr : r % 2 = 1) : condR r n f = decide ((n : Int) = f) := by
 unfold condR
 rw [hr, show ((1 : Nat) == 0) = false from rfl, Bool.and_false, Bool.or_false, Bool.eq_iff_iff, beq_iff_eq, decide_eq_true_iff]
 exact eq_comm
theorem qr7 (n : Nat) (f : Int) : (decide ((n : Int) ≤ f) && !decide ((n : Int) = f)) = decide (((n + 1 : Nat) : Int) ≤ f) := by
 rw [Bool.eq_iff_iff, and_eq_true, decide_eq_true_iff, not_eq_true', decide_eq_false_iff_not, decide_eq_true_iff]
 exact ⟨fun h => Int.lt_iff_le_and_ne.mpr h, fun h => Int.lt_iff_le_and_ne.mp h⟩
theorem cond0 (m : Nat) (f : Int) : (condR 0 (m + 0 / 2) f && !condR 1 (m + 1 / 2) f) = condR 2 (m + 2 / 2) f := by
 rw [qd7 rfl, z18 rfl, qd7 rfl]; exact qr7 m f
theorem cond2 (m : Nat) (f : Int) : (condR 2 (m + 2 / 2) f && !condR 3 (m + 3 / 2) f) = condR 4 (m + 4 / 2) f := by
 rw [qd7 rfl, z18 rfl, qd7 rfl]; exact qr7 (m + 1) f
theorem cond4 (m : Nat) (f : Int) : (!condR 0 (m + 0 / 2) f) = decide (f < (m : Int)) := by
 rw [qd7 rfl, ← decide_not]; exact decide_eq_decide.mpr Int.not_le
theorem int60 {n : Nat} (h : n < 1000) : (n : Int) ≤ 2 ^ 60 := Int.le_trans (ofNat_le.mpr (Nat.le_of_lt h)) (by decide)
theorem zc6 {Γ : Cx} {P : Params} (Q : LG Γ P) (kf : List Addr) {τ : Nat} {env : Env} (G : EnvS env scL) (d0 d1 d2 : Int) (ds : List Int) (signs others kind : List Nat) (hs : signs.length = 3) (ho : others.length ≤ 100) (hk : kind.length ≤ 100) (names : List (List Nat)) (F : List Nat → Int) (m : Nat) (hm : m ≤ 2)
  (ahead behind : List Nat) (ha : ahead.length ≤ 3) (hb : behind.length ≤ 3) (hnl : names.length ≤ 1000) (hn : ∀ x ∈ names, x.length ≤ 10)
  (hL : ∀ r, r < 5 → RowOK signs (runOf others kind (m + r / 2)) (bitF d2 r) r (m + r / 2) ahead behind F names) :
  X (Γ.on kf) τ 7 env lns ⟨[("drawn", .pv (.list (.int d0 :: .int d1 :: .int d2 :: ds.map .int))), ("signs", .pv (chs signs)), ("ahead", .pv (.str ahead)), ("behind", .pv (.str behind)), ("kind", .pv (chs kind)), ("others", .pv (chs others)), ("names", .pv (nmP names)), ("firsts", .pv (fsP F names)), ("least", .pv (.int (m : Int)))], []⟩
   ((bd pB[22]?).drop 11) fun af _ => af = .rt (.bool true) := by
 have KX := Q.KX
 have hs10 : signs.length ≤ 10 := Nat.le_trans (Nat.le_of_eq hs) (by decide)
 have fl : ∀ p : List Nat → Bool, (names.filter p).length ≤ 1000 := fun p => Nat.le_trans (length_filter_le ..) hnl
 have T3 := zc5 Q kf (τ := τ) G names F m hnl (dueR names F m 0) (dueR names F m 1) (dueR names F m 2) (dueR names F m 3) (dueR names F m 4) (fl _) (fl _)
  ((ql4 ..).trans (filter_congr fun x _ => cond0 m (F x))) ((ql4 ..).trans (filter_congr fun x _ => cond2 m (F x))) ((z56 ..).trans (filter_congr fun x _ => cond4 m (F x)))
 apply X.own 1 (xs := [])
 walk_at "dc rf kp rf rf"
 ·exact EF.list EA.nil (by decide)
 have brg : ∀ {cenv cs}, EnvS cenv cs → cs.names.lookup (ofString "range") = some .globalImplicit → BN (Γ.on kf) cenv cs (ofString "range") (.type "range") := fun G h => ⟨G, h, Q.gr, by rfl, by decide, by decide⟩
 refine X.forM (ι := List PV) (its := (List.range 5).map fun v : Nat => [PV.int (v : Int)]) (xs := ["r"]) (fun c => ⟨[("drawn", .pv (.list (.int d0 :: .int d1 :: .int d2 :: ds.map .int))), ("signs", .pv (chs signs)), ("ahead", .pv (.str ahead)), ("behind", .pv (.str behind)), ("kind", .pv (chs kind)), ("others", .pv (chs others)), ("names", .pv (nmP names)), ("firsts", .pv (fsP F names)), ("least", .pv (.int (m : Int))), ("taken", .ptr 1)], [(1, c)]⟩)
  (fun q c => c = ((List.range 5).take q).map fun r => nmP (dueR names F m r)) (.name _ _) (by decide) (by decide) (I.rngN (m := 5) (by decide) (E.range1 (brg G (by rfl)) E.int (by intro _; rfl))) ?_ ?_ [] ?_ rfl (fun q x c hx hc => ?_) (fun c hc => ?_) ?_
 ·intro x hx
  obtain ⟨v, _, rfl⟩ := mem_map.mp hx
  rfl
 ·intro c p hp
  simp only [mem_cons, not_mem_nil, or_false] at hp
  rcases hp with rfl | rfl | rfl | rfl | rfl | rfl | rfl | rfl | rfl | rfl <;> simp
 ·walk_at "has"
 ·rw [getElem?_map] at hx
  obtain ⟨v, hv, rfl⟩ := map_eq_some_iff.mp hx
  have hvq : v = q ∧ q < 5 := by
   have h1 := (List.getElem?_eq_some_iff.mp hv).1
   rw [List.getElem?_range (by simpa using h1)] at hv
   exact ⟨(Option.some.inj hv).symm, by simpa using h1⟩
  obtain ⟨rfl, hq⟩ := hvq
  have hdg : (List.range 5)[v]? = some v := hv
  clear hx hv
  dsimp only [List.zip, List.zipWith, List.map, cons_append, nil_append]
  obtain ⟨kk, parts, txt, k2, steps, t1, t2, t3, t4, t5, t6, t7, t8⟩ := hL v hq
  have hn4 : m + v / 2 ≤ 4 := Nat.add_le_add (b := 2) (d := 2) hm (Nat.le_of_lt_succ (Nat.div_lt_of_lt_mul (lt_succ_of_lt hq)))
  have v0 : 0 ≤ (v : Int) := natCast_nonneg v
  have v60 : (v : Int) ≤ 2 ^ 60 := int60 (Nat.lt_of_lt_of_le hq (by decide))
  have hd2 : ((v : Nat) : Int).fdiv 2 = ((v / 2 : Nat) : Int) := by rw [Int.fdiv_eq_ediv_of_nonneg _ (by decide)]; rfl
  apply X.asg (r := .pv (.int ((m + v / 2 : Nat) : Int)))
  walk_at "dc rf kp"
  ·refine E.T8 (a := (m : Int)) (b := ((v : Nat) : Int).fdiv 2) ?_ ?_ (by rw [hd2]; rfl)
   walk_at "e e"
  have hrl : (runOf others kind (m + v / 2)).length = m + v / 2 + 1 := by unfold runOf; rw [length_append, length_replicate]; rfl
  have hset : ∀ s ∈ runOf others kind (m + v / 2), s.length ≤ 100 := fun s hs => by
   unfold runOf at hs
   rcases mem_append.mp hs with h | h
   ·rw [(List.mem_replicate.mp h).2]; exact ho
   rw [mem_singleton.mp h]; exact hk
  apply X.asg (r := .pv (rowP (runOf others kind (m + v / 2))))
  walk_at "dc rf kp"
  ·have e : rowP (runOf others kind (m + v / 2)) = .list ((List.replicate ((m + v / 2 : Nat) : Int).toNat [chs others]).flatten ++ [chs kind]) := by
    show PV.list _ = _
    unfold runOf
    rw [map_append, toNat_natCast, List.map_replicate]
    congr 2
    generalize m + v / 2 = z
    induction z with
    | zero => rfl
    | succ z ih => rw [replicate_succ, replicate_succ, List.flatten_cons, ← ih]; rfl
   rw [e]
   have c3 : ((List.replicate ((m + v / 2 : Nat) : Int).toNat [chs others]).flatten).length ≤ 10 := by
    simp only [List.length_flatten, List.map_replicate, List.sum_replicate_nat, length_singleton]; lia
   refine E.addl (EL.of (E.mull (x := ((m + v / 2 : Nat) : Int)) (a := [chs others]) (EL.of (E.list (EA.cons ?_ EA.nil (by intro _; rfl)) (le_of_ble_eq_true rfl))) ?_ (by lia) (by show 1 * _ ≤ _; lia))) (EL.of (E.list (EA.cons ?_ EA.nil (by intro _; rfl)) (le_of_ble_eq_true rfl))) (by show _ + 1 ≤ _; lia)
   walk_at "e e e"
  generalize hrow : runOf others kind (m + v / 2) = row at *
  generalize hnn : m + v / 2 = n at *
  have hr5 : row.length ≤ 5 := hrl ▸ succ_le_succ hn4
  have hp : (10 : Int) ^ ((v : Int)).toNat ≠ 0 := Int.pow_ne_zero (by decide)
  have hp2 : ((10 : Int) ^ ((v : Int)).toNat).natAbs < 2 ^ 200 := by
   have h8 : ((v : Int)).toNat ≤ 15 := Nat.le_trans (Nat.le_of_lt hq) (by decide)
   rw [Int.natAbs_pow]
   exact lt_of_le_of_lt (Nat.pow_le_pow_right (by decide) h8) (by decide)
  apply X.comp (its := List.range row.length) (cv := fun k : Nat => [.int (k : Int)]) (f := fun k => .str (q11 signs (row.getD k []) (bitF d2 v k))) (xs := ["k"]) (l := [("run", rowP row), ("signs", chs signs), ("drawn", .list (.int d0 :: .int d1 :: .int d2 :: ds.map .int)), ("r", .int (v : Int))]) G
  walk_at "dc kp ck cp"
  ·exact .name _ _
  walk_at "dc s"
  ·refine I.rngN (Nat.le_trans hr5 (by decide)) (E.range1 (brg G (by rfl)) (E.T8 (a := (n : Int)) (b := 1) ?_ E.int (by rw [hrl]; rfl)) (by intro _; rfl))
   walk_at "ev"
  ·rw [length_range]; exact le24 hr5
  ·intro cenv G' k hk
   have hk2 : k < row.length := mem_range.mp hk
   have D : DN (Γ.on kf) cenv _ (ofString "_law_piece") 137 := ⟨G', by rfl, Q.gpi, by decide, fn_in KX (by rfl)⟩
   have hrk := q19 chs (d := []) hk2
   have hml : (row.getD k []).length ≤ 100 := hset _ (by rw [getD_eq_getElem?_getD, List.getElem?_eq_getElem hk2]; exact List.getElem_mem _)
   refine E.call D (qt8 KX signs (row.getD k []) (bitF d2 v k) hs10 hml Q.git Q.gn Q.gb Q.gli Q.gff Q.gc Q.gfi).on (EA.cons (E.Q2 (i := (k : Int)) (EL.of (xs := row.map chs) ?_) ?_ (natCast_nonneg k) (int60 (Nat.lt_of_lt_of_le hk2 (Nat.le_trans hr5 (by decide)))) hrk) (EA.cons ?_ (EA.cons (E.eqi (E.fmod (E.add (E.fdiv (E.Q2 (xs := .int d0 :: .int d1 :: .int d2 :: ds.map .int) (i := 2) (EL.of ?_) E.int (by decide) (by decide) (by rfl)) (E.pow (a := 10) (b := (v : Int)) E.int ?_ v0 (ofNat_le.mpr (Nat.le_trans (Nat.le_of_lt hq) (by decide))) (by decide)) hp hp2) ?_) E.int (by decide)) E.int (by rfl)) EA.nil (by intro _; rfl)) (by intro _; rfl)) (by intro _; rfl)) (by intro _; rfl)
   all_goals walk_at "ev"
  ·rfl
  have hpe : ((List.range row.length).map fun k => PV.str (q11 signs (row.getD k []) (bitF d2 v k))) = (q09 signs row (bitF d2 v)).map .str := by unfold q09; rw [map_map]; rfl
  rw [hpe]
  have hpl : ((q09 signs row (bitF d2 v)).map PV.str).length ≤ 5 := by rw [length_map]; unfold q09; rw [length_map, length_range]; exact hr5
  have f2 : ((v : Nat) : Int).fmod 2 = ((v % 2 : Nat) : Int) := by rw [Int.fmod_eq_emod_of_nonneg _ (by decide)]; rfl
  apply X.asg (r := .pv (.list ((q33 v).map .str)))
  walk_at "dc rf kp"
  ·unfold q33
   refine E.ife (b := ((v % 2 : Nat) : Int) == 0) ?_ (fun h => ?_) (fun h => ?_)
   ·rw [← f2]
    walk_at "tst"
   ·rw [if_pos (Int.ofNat.inj (eq_of_beq h))]
    exact E.list (EA.cons E.str EA.nil (by intro _; rfl)) (by decide)
   rw [if_neg (fun e => by rw [e] at h; cases h)]
   exact E.list EA.nil (by decide)
  have D : DN (Γ.on kf) env _ (ofString "translate") 43 := ⟨G, by rfl, Q.gtl, by decide, fn_in KX (by rfl)⟩
  have F0 := (qe4 KX 3 (patOf signs row (bitF d2 v) v n ahead behind) kk parts txt (Nat.le_trans (z87 signs row (bitF d2 v) v n ahead behind hs10 hr5 ha hb) (by decide)) t1 t2 t3 Q.gi Q.gs Q.gm Q.gl Q.gr Q.go Q.ge Q.gt Q.gtr Q.gj Q.hT Q.ba).on (k := kf)
  have hst1 : ((q33 v).map PV.str).length ≤ 1 := by unfold q33; split <;> decide
  have hsum := qy9 signs row (bitF d2 v) v n hs10 hr5
  have hjl := Nat.le_trans (q56 _) hsum
  apply X.asg (r := .pv (.str txt))
  walk_at "dc rf kp"
  ·refine E.call D F0 (EA.cons ?_ EA.nil (by intro _; rfl)) (by intro _; rfl)
   unfold patOf
   have h1 := q44 none (some (n : Int)) ((q09 signs row (bitF d2 v)).map PV.str)
   have h2 := q44 (some (n : Int)) none ((q09 signs row (bitF d2 v)).map PV.str)
   refine E.adds (E.adds (E.adds ?_ (E.join (ts := midOf signs row (bitF d2 v) v n) (sep := []) E.str (EL.of ?_) (le24 hsum) (by rfl) (by rfl) (by intro _; rfl)) (le24 (Nat.add_le_add ha hjl))) E.str ?_) ?_ ?_
   ·walk_at "ev"
   ·unfold midOf
    rw [map_append, map_append, ← qh9, ← qh9]
    refine E.addl (EL.of (E.addl (EL.of (E.cutl (EL.of ?_) EP.no (EP.yes ?_) (le24 hpl))) (EL.of ?_) ?_)) (EL.of (E.cutl (EL.of ?_) (EP.yes ?_) EP.no (le24 hpl))) ?_
    walk_at "e e e"
    ·exact le24 (Nat.add_le_add (Nat.le_trans h1 hpl) hst1)
    walk_at "e e"
    rw [length_append]
    exact le24 (Nat.add_le_add (Nat.add_le_add (Nat.le_trans h1 hpl) hst1) (Nat.le_trans h2 hpl))
   ·rw [length_append]; exact le24 (succ_le_succ (Nat.add_le_add ha hjl))
   ·walk_at "ev"
   rw [length_append, length_append, length_singleton]; exact le24 (Nat.add_le_add (succ_le_succ (Nat.add_le_add ha hjl)) hb)
  refine X.ite (b := false) ?_ (fun h => by cases h) (fun _ => ?_)
  ·refine B.cast (b := (cut none (some 4) txt ++ cut (some (-3)) none txt) != cs "(?s:)\\Z") (by rw [t5]; rfl) ?_
   have htl2 : txt.length ≤ 2 ^ 24 := le24 t4
   have h1 := q44 none (some 4) txt
   have h2 := q44 (some (-3)) none txt
   refine B.nes (E.adds (E.cuts ?_ EP.no (EP.yes E.int) htl2) (E.cuts ?_ (EP.yes ?_) EP.no htl2) (le24 (Nat.add_le_add (Nat.le_trans h1 t4) (Nat.le_trans h2 t4)))) E.str (by rfl)
   walk_at "e e e"
  refine X.end ?_
  have DS : DN (Γ.on kf) env _ (ofString "_law_steps") 142 := ⟨G, by rfl, Q.gst, by decide, fn_in KX (by rfl)⟩
  apply X.asg (r := .pv (.list (steps.map stP)))
  walk_at "dc rf kp"
  ·refine E.call DS (FSpec.up (qt0 KX txt signs steps k2 t4 hs10 t6)).on ?_ (by intro _; rfl)
   walk_at "evs"
  have hcl : c.length ≤ 10 := by rw [hc, length_map, length_take]; exact Nat.le_trans (Nat.min_le_right ..) (by decide)
  have hdue : names.filter (q58 steps) = dueR names F m v := by
   unfold dueR
   refine filter_congr fun x hx => ?_
   rw [t8 x hx, hnn]
  apply X.app (v := nmP (dueR names F m v)) G
  walk_at "dc rf s dc m m ko"
  ·rw [← hdue]
   refine E.Q9 (its := names) (cv := fun x => [.str x]) (f := PV.str) (tb := q58 steps) (xs := ["name"]) (l := [("steps", .list (steps.map stP))]) G ?_ ?_ (.name _ _) (by decide) (fun _ => rfl) (I.T1 (c := PV.str) ?_) (le24 hnl) (fun c2 G2 x hx => ?_) fun c2 G2 x hx hb => ?_
   walk_at "ck cp e"
   ·have D : DN (Γ.on kf) c2 _ (ofString "_law_takes") 147 := ⟨G2, by rfl, Q.gta, by decide, fn_in KX (by rfl)⟩
    refine B.ofBool (E.call D (FSpec.up (qs5 KX steps x (hn x hx) t7 Q.gl Q.gr)).on ?_ (by intro _; rfl)) (by rfl)
    walk_at "evs"
   walk_at "ev"
  ·exact le24 hcl
  have hcn : c ++ [nmP (dueR names F m v)] = ((List.range 5).take (v + 1)).map fun r => nmP (dueR names F m r) := by
   rw [hc, take_add_one, hdg, map_append]; rfl
  have hcv : (c ++ [nmP (dueR names F m v)])[((v : Nat) : Int).toNat]? = some (nmP (dueR names F m v)) := by
   rw [toNat_natCast, List.getElem?_append_right (by rw [hc, length_map, length_take]; exact Nat.min_le_left ..), hc, length_map, length_take, length_range, Nat.min_eq_left (Nat.le_of_lt hq), sub_self]; rfl
  have bz : BN (Γ.on kf) env _ (ofString "zip") (.type "zip") := ⟨G, by rfl, Q.gzip, by rfl, by decide, by decide⟩
  refine X.ite (b := false) ?_ (fun h => by cases h) (fun _ => ?_)
  ·refine B.cast (b := !eqp (.list .str) (nmP (dueR names F m v)) (nmP (dueR names F m v))) (by rw [q74]; rfl) ?_
   refine B.net (.list .str) (E.Q2 (xs := c ++ [nmP (dueR names F m v)]) (i := (v : Int)) ?_ ?_ v0 v60 hcv) ?_ (q18 _) (q18 _) (by decide) (by rfl)
   walk_at "l e"
   have e : dueR names F m v = names.filter fun x => F x == (n : Int) || ((decide ((n : Int) < F x) && ((((v % 2 : Nat) : Int) == 0) && true)) || false) := by
    rw [← hdue]
    refine filter_congr fun x hx => ?_
    rw [t8 x hx]
    unfold condR
    rw [Bool.or_false, Bool.and_true]
    congr 2
    rw [Bool.eq_iff_iff, beq_iff_eq, beq_iff_eq]; exact Int.natCast_eq_zero.symm
   rw [e]
   refine E.named (F := F) (l := [("n", .int (n : Int)), ("r", .int (v : Int))]) G ?_ ?_ (.tup ["name", "first"] [_, _] _ _ rfl) bz ?_ ?_ hnl (fun c2 G2 x hx => ?_) fun c2 G2 x hx hb => ?_
   walk_at "ck cp m m"
   ·refine B.or (B.eqi ?_ ?_ (by rfl)) fun _ => B.or (B.and (B.gti ?_ ?_ (by rfl)) fun _ => B.and (f2 ▸ B.eqi ?_ E.int (by rfl)) fun _ => B.Y8) fun _ => B.or0
    walk_at "e e e e e"
   walk_at "ev"
  refine X.end (X.W6 ⟨c ++ [nmP (dueR names F m v)], hcn, ?_⟩)
  walk_at "has"
 ·rw [length_map, length_range, take_of_length_le (by simp)] at hc
  subst hc
  apply X.freeze (k := 1)
  walk_at "m fz ko"
  refine X.has ?_ T3
  walk_at "has"
 intro _; rfl
theorem z50 (d : Int) (signs : List Nat) : (kindOf d signs).length ≤ 100 := by
 unfold kindOf
 rw [length_map]
 have h1 := length_filter_le (fun f : Int => decide (0 < f.fmod 4)) (cut (some 2) (some 5) (figL d))
 have h2 := q44 (some 2) (some 5) (figL d)
 have h3 : (figL d).length = 6 := by unfold figL; rw [length_map, length_range]
 lia
theorem z47 {Γ : Cx} {P : Params} (Q : LG Γ P) (script : List Int) (hz : script.length ≤ 2 ^ 10) (hlaw : ∀ d0 d1 d2 ds, ds.length = 9 → LawOK d0 d1 d2 ds) : FSpec Γ 8 157 [.list (script.map .int)] (.bool true) := by
 have KX := Q.KX
 refine FSpec.W4 KX (ps := ["script"]) (ns := lns) (v := [("script", .pv (.list (script.map .int)))]) (by rfl) (by rfl) (by rfl) ?_ ?_ (by rfl) ⟨rfl, rfl, rfl, rfl, rfl⟩ (by rfl) ?_
 ·walk_at "cok"
 ·intro Vs h
  obtain ⟨a, rfl⟩ := len1 h; rfl
 intro kf env G
 try dsimp only at G
 have hsl : (script.map PV.int).length ≤ 2 ^ 24 := by rw [length_map]; lia
 have bsum : ∀ {cenv cs}, EnvS cenv cs → cs.names.lookup (ofString "sum") = some .globalImplicit → BN (Γ.on kf) cenv cs (ofString "sum") (.builtin "sum") := fun G h => ⟨G, h, Q.gsum, by rfl, by decide, by decide⟩
 have ben : BN (Γ.on kf) env _ (ofString "enumerate") (.type "enumerate") := ⟨G, by rfl, Q.gen, by rfl, by decide, by decide⟩
 have brg : BN (Γ.on kf) env _ (ofString "range") (.type "range") := ⟨G, by rfl, Q.gr, by rfl, by decide, by decide⟩
 apply X.asg (r := .pv (.list (owns.map .int)))
 walk_at "dc rf kp"
 ·show E _ _ _ _ _ (.pv (.list [.int 3234, .int 0, .int 1010, .int 2101, .int 21014, .int 20020, .int 5435, .int 220002, .int 203, .int 21228, .int 201, .int 9]))
  walk_at "ev"
 apply X.asg (r := .pv (.list (owns.zipIdx.map fun p => .int (qd6 script p))))
 ·decide
 ·exact qg4 G (by rfl)
 ·walk_at "keep"
 ·refine E.comp (its := owns.zipIdx) (cv := fun p => [.int p.2, .int p.1]) (f := fun p => .int (qd6 script p)) (xs := ["place", "own"]) (l := [("script", .list (script.map .int))]) G ?_ ?_ (.tup ["place", "own"] [_, _] _ _ rfl) (by decide) (fun _ => rfl) ?_ (by decide) fun cenv G' p hp => ?_
  walk_at "ck cp"
  ·rw [show (owns.zipIdx.map fun p => [PV.int p.2, PV.int p.1]) = ((owns.map PV.int).zipIdx.map fun p => [PV.int p.2, p.1]) from rfl]
   refine I.enum ben ?_ (by intro _; rfl)
   walk_at "ev"
  unfold qd6
  refine E.add ?_ (E.sum (bsum G' (by rfl)) ?_ (by intro _; rfl))
  ·walk_at "ev"
  rw [← z33]
  refine E.cutstep (EL.of ?_) (EP.yes ?_) EP.no E.int (by decide) hsl
  walk_at "e e"
 obtain ⟨d0, d1, d2, ds, hd, hdl⟩ : ∃ d0 d1 d2 ds, (owns.zipIdx.map fun p => PV.int (qd6 script p)) = .int d0 :: .int d1 :: .int d2 :: ds.map .int ∧ ds.length = 9 := ⟨_, _, _, (owns.zipIdx.drop 3).map (qd6 script), rfl, rfl⟩
 rw [hd]
 clear hd
 have D1 : DN (Γ.on kf) env _ (ofString "_law_signs") 118 := ⟨G, by rfl, Q.gsi, by decide, fn_in KX (by rfl)⟩
 apply X.asg (r := .pv (chs (q01 d1)))
 walk_at "dc rf kp"
 ·refine E.call D1 (FSpec.up (qt2 KX d1 Q.gc)).on (EA.cons (E.Q2 (xs := .int d0 :: .int d1 :: .int d2 :: ds.map .int) (i := 1) (EL.of ?_) ?_ (by decide) (by decide) (by rfl)) EA.nil (by intro _; rfl)) (by intro _; rfl)
  walk_at "e e"
 generalize hsg : q01 d1 = signs
 have hs3 : signs.length = 3 := hsg ▸ qj5 d1
 apply X.comp (its := List.range 6) (cv := fun k : Nat => [.int (k : Int)]) (f := fun k => .int ((d0.fdiv (10 ^ k)).fmod 10)) (xs := ["k"]) (l := [("drawn", .list (.int d0 :: .int d1 :: .int d2 :: ds.map .int))]) G
 walk_at "dc kp ck cp"
 ·exact .name _ _
 walk_at "dc s"
 ·exact I.rngN (m := 6) (by decide) (E.range1 brg E.int (by intro _; rfl))
 ·decide
 ·intro cenv G' k hk
  have hk2 : k < 6 := mem_range.mp hk
  have hp : (10 : Int) ^ ((k : Int)).toNat ≠ 0 := Int.pow_ne_zero (by decide)
  have hp2 : ((10 : Int) ^ ((k : Int)).toNat).natAbs < 2 ^ 200 := by
   have h8 : ((k : Int)).toNat ≤ 15 := by lia
   rw [Int.natAbs_pow]
   exact lt_of_le_of_lt (Nat.pow_le_pow_right (by decide) h8) (by decide)
  refine E.fmod (E.fdiv (E.Q2 (xs := .int d0 :: .int d1 :: .int d2 :: ds.map .int) (i := 0) (EL.of ?_) E.int (by decide) (by decide) (by rfl)) (E.pow (a := 10) (b := (k : Int)) E.int ?_ (by lia) (by lia) (by decide)) hp hp2) E.int (by decide)
  walk_at "e e"
 ·rfl
 have hfe : ((List.range 6).map fun k => PV.int ((d0.fdiv (10 ^ k)).fmod 10)) = (figL d0).map .int := by unfold figL; rw [map_map]; rfl
 rw [hfe]
 clear hfe
 have hfl0 : (figL d0).length = 6 := by unfold figL; rw [length_map, length_range]
 generalize hfg : figL d0 = fg at hfl0 ⊢
 have hfl : fg.length = 6 := hfl0
 have hfm : (fg.map PV.int).length ≤ 2 ^ 24 := by rw [length_map, hfl]; decide
 have g0 := q19 PV.int (l := fg) (k := 0) (d := 0) (by rw [hfl]; decide)
 have g1 := q19 PV.int (l := fg) (k := 1) (d := 0) (by rw [hfl]; decide)
 have g5 := q19 PV.int (l := fg) (k := 5) (d := 0) (by rw [hfl]; decide)
 have DE : DN (Γ.on kf) env _ (ofString "_law_edge") 125 := ⟨G, by rfl, Q.ged, by decide, fn_in KX (by rfl)⟩
 apply X.unp (xs := ["ahead", "front"]) (its := [.str (edgeT (fg.getD 0 0) signs (cs "*?[")), .list ((edgeS (fg.getD 0 0) signs).map chs)]) (.tup ["ahead", "front"] [_, _] _ _ rfl) (by decide)
 walk_at "dc kp"
 ·refine E.call DE (FSpec.up (ql5 KX (fg.getD 0 0) signs (cs "*?[") hs3)).on (EA.cons (E.Q2 (xs := fg.map .int) (i := 0) (EL.of ?_) E.int (by decide) (by decide) g0) (EA.cons ?_ (EA.cons E.str EA.nil (by intro _; rfl)) (by intro _; rfl)) (by intro _; rfl)) (by intro _; rfl)
  walk_at "e e"
 walk_at "rf s"
 dsimp only [List.zip, List.zipWith, List.map, cons_append, nil_append]
 apply X.unp (xs := ["behind", "back"]) (its := [.str (edgeT (fg.getD 1 0) signs (cs "*?")), .list ((edgeS (fg.getD 1 0) signs).map chs)]) (.tup ["behind", "back"] [_, _] _ _ rfl) (by decide)
 walk_at "dc kp"
 ·refine E.call DE (FSpec.up (ql5 KX (fg.getD 1 0) signs (cs "*?") hs3)).on (EA.cons (E.Q2 (xs := fg.map .int) (i := 1) (EL.of ?_) E.int (by decide) (by decide) g1) (EA.cons ?_ (EA.cons E.str EA.nil (by intro _; rfl)) (by intro _; rfl)) (by intro _; rfl)) (by intro _; rfl)
  walk_at "e e"
 walk_at "rf s"
 dsimp only [List.zip, List.zipWith, List.map, cons_append, nil_append]
 have ea := qb2 (fg.getD 0 0) signs (cs "*?[")
 have eb := qb2 (fg.getD 1 0) signs (cs "*?")
 generalize hah : edgeT (fg.getD 0 0) signs (cs "*?[") = ahead at ea ⊢
 generalize hbe : edgeT (fg.getD 1 0) signs (cs "*?") = behind at eb ⊢
 generalize hfr : edgeS (fg.getD 0 0) signs = front at ea ⊢
 generalize hba : edgeS (fg.getD 1 0) signs = back at eb ⊢
 apply X.asg (r := .pv (chs (((cut (some 2) (some 5) fg).filter fun f => decide (0 < f.fmod 4)).map fun f => signs.getD (f.fmod 4 - 1).toNat 0)))
 ·decide
 ·exact qg4 G (by rfl)
 ·walk_at "keep"
 ·unfold chs
  rw [map_map]
  have hcl := q44 (some 2) (some 5) fg
  refine E.Q9 (its := cut (some 2) (some 5) fg) (cv := fun f => [.int f]) (tb := fun f => decide (0 < f.fmod 4)) (xs := ["figure"]) (l := [("signs", chs signs)]) G ?_ ?_ (.name _ _) (by decide) (fun _ => rfl) (I.T1 (c := .int) ?_) (by lia) (fun c2 G2 f hf => ?_) fun c2 G2 f hf hb => ?_
  walk_at "ck cp"
  ·rw [← qh9]
   refine E.cutl (EL.of ?_) (EP.yes E.int) (EP.yes E.int) hfm
   walk_at "ev"
  ·refine B.gti (E.fmod ?_ E.int (by decide)) E.int (by rfl)
   walk_at "ev"
  have m1 := q23 f (b := 4) (by decide)
  have m0 := of_decide_eq_true hb
  dsimp only [Function.comp]
  refine E.Q2 (EL.of (xs := signs.map fun c => .str [c]) ?_) (i := f.fmod 4 - 1) ?_ (by lia) (by lia) (q19 _ (by lia))
  walk_at "e e"
 generalize hkd : (((cut (some 2) (some 5) fg).filter fun f => decide (0 < f.fmod 4)).map fun f => signs.getD (f.fmod 4 - 1).toNat 0) = kind
 have hkl : kind.length ≤ 100 := by rw [← hkd, ← hfg]; exact z50 d0 signs
 have D : DN (Γ.on kf) env _ (ofString "_filter") 113 := ⟨G, by rfl, Q.gfi, by decide, fn_in KX (by rfl)⟩
 have FF : FSpec (Γ.on kf) 7 113 [chs signs, chs kind] (chs (Q0 signs kind)) := by
  have := (FSpec.up (qd4 KX Q.git Q.gn Q.gb Q.gli Q.gff (signs.map fun c => [c]) (kind.map fun c => [c]) (by rw [length_map]; lia))).on (k := kf)
  rw [ql3, ← qe0, ← qe0, ← qe0] at this
  exact this
 have hol := qk3 signs kind
 apply X.asg (r := .pv (chs (Q0 signs kind)))
 walk_at "dc rf kp"
 ·refine E.call D FF ?_ (by intro _; rfl)
  walk_at "evs"
 generalize hot : Q0 signs kind = others at hol ⊢
 apply X.comp (its := ds) (cv := fun d => [.int d]) (f := fun d => .str (nameR d signs)) (xs := ["number"]) (l := [("signs", chs signs)]) G
 walk_at "dc kp ck cp"
 ·exact .name _ _
 walk_at "dc s"
 ·refine I.T1 (c := .int) (E.cast (b := .list (cut (some ((3 : Nat) : Int)) none (.int d0 :: .int d1 :: .int d2 :: ds.map .int))) (by rw [q31]; rfl) (E.cutl (EL.of ?_) (EP.yes E.int) EP.no (by rw [length_cons, length_cons, length_cons, length_map]; lia)))
  walk_at "ev"
 ·lia
 ·intro cenv G' d hd
  have DNm : DN (Γ.on kf) cenv _ (ofString "_law_name") 130 := ⟨G', by rfl, Q.gna, by decide, fn_in KX (by rfl)⟩
  refine E.call DNm (FSpec.up (qy7 KX d signs hs3 Q.gr)).on ?_ (by intro _; rfl)
  walk_at "evs"
 ·rfl
 have hne : (ds.map fun d => PV.str (nameR d signs)) = (ds.map fun d => nameR d signs).map .str := by rw [map_map]; rfl
 rw [hne]
 clear hne
 have hnl : (ds.map fun d => nameR d signs).length ≤ 1000 := by rw [length_map]; lia
 have hn : ∀ x ∈ ds.map fun d => nameR d signs, x.length ≤ 10 := fun x hx => by
  obtain ⟨d, _, rfl⟩ := mem_map.mp hx
  exact Nat.le_trans (z45 d signs) (by decide)
 generalize hnm : (ds.map fun d => nameR d signs) = names at hnl hn ⊢
 apply X.comp (its := names) (cv := fun x => [.str x]) (f := fun x => .int (q17 x front back kind)) (xs := ["name"]) (l := [("front", .list (front.map chs)), ("back", .list (back.map chs)), ("kind", chs kind)]) G
 walk_at "dc kp ck cp"
 ·exact .name _ _
 walk_at "dc s"
 ·refine I.T1 (c := .str) ?_
  walk_at "ev"
 ·lia
 ·intro cenv G' x hx
  have DF : DN (Γ.on kf) cenv _ (ofString "_law_first") 152 := ⟨G', by rfl, Q.gfr, by decide, fn_in KX (by rfl)⟩
  refine E.call DF (FSpec.up (qu2 KX x front back kind (hn x hx) (by lia) (by lia) Q.gl Q.gr Q.gzip)).on ?_ (by intro _; rfl)
  walk_at "evs"
 ·rfl
 have z0 := q35 (fg.getD 5 0) (b := 3) (by decide)
 have z1 := q23 (fg.getD 5 0) (b := 3) (by decide)
 apply X.asg (r := .pv (.int ((((fg.getD 5 0).fmod 3).toNat : Nat) : Int)))
 walk_at "dc rf kp"
 ·rw [Int.toNat_of_nonneg z0]
  refine E.fmod (E.Q2 (xs := fg.map .int) (i := 5) (EL.of ?_) E.int (by decide) (by decide) g5) E.int (by decide)
  walk_at "ev"
 have hm2 : ((fg.getD 5 0).fmod 3).toNat ≤ 2 := by lia
 generalize hmm : ((fg.getD 5 0).fmod 3).toNat = m at hm2 ⊢
 have L : ∀ r, r < 5 → RowOK signs (runOf others kind (m + r / 2)) (bitF d2 r) r (m + r / 2) ahead behind (fun x => q17 x front back kind) names := by
  subst hmm hnm hot hkd hba hfr hbe hah hfg hsg
  exact hlaw d0 d1 d2 ds hdl
 refine X.has ?_ (zc6 Q kf G d0 d1 d2 ds signs others kind hs3 (by lia) hkl names (fun x => q17 x front back kind) m hm2 ahead behind ea.1 eb.1 hnl hn L)
 walk_at "has"
end Mine
namespace Mine
theorem qa7 (k c : Nat) (r : List Nat) (res : List Part) : trR (k + 1) (c :: r) res = (if c = 42 then trR k r (if res.getLast? = some none then res else res ++ [none])
   else if c = 63 then trR k r (res ++ [some [46]])
   else if c = 91 then
    if Q1 r < r.length then (R5 (r.take (Q1 r))).bind fun t => trR k (r.drop (Q1 r + 1)) (res ++ [some (W7 (Q4 t))])
    else trR k r (res ++ [some [92, 91]])
   else trR k r (res ++ [some (W5 c)])) := by conv => lhs; unfold trR
theorem q64 (signs : List Nat) (k : Nat) (rest : List Nat) (pre : SS) (t : List Nat) (run : List (List Nat)) : q15 signs (k + 1) rest pre t run = (if rest = [] then some (pre ++ [(t, run)]) else match stepS signs rest pre t run with
  | none => none
  | some (r, p, t', ru) => q15 signs k r p t' ru) := by
 conv => lhs; unfold q15
 all_goals
  by_cases h : rest = []
  ·rw [if_pos h, if_pos h]
  rw [if_neg h, if_neg h]; cases stepS signs rest pre t run <;> rfl
theorem qu7 {q rest : List Nat} (h : Q1 q < q.length) : Q1 (q ++ rest) = Q1 q := by
 have hB : Q3 q ≤ Q1 q := le_add_right ..
 haveI hA : Q5 q ≤ Q3 q := le_add_right ..
 have at_ : ∀ i, i < q.length → (q ++ rest)[i]? = q[i]? := fun i hi => List.getElem?_append_left hi
 haveI eA : Q5 (q ++ rest) = Q5 q := by unfold Q5; rw [at_ 0 (by lia)]
 haveI eB : Q3 (q ++ rest) = Q3 q := by unfold Q3; rw [eA, at_ _ (by lia)]
 unfold Q1 at h ⊢
 rw [eB, List.drop_append_of_le_length (by lia), List.takeWhile_append]
 rw [if_neg]
 haveI : (q.drop (Q3 q)).length = q.length - Q3 q := length_drop ..
 lia
noncomputable def T4 (p : List Nat) : Option (List Nat) :=
 match p with
 | [] => none
 | c :: q => if c = 91 then (if Q1 q + 1 = q.length then (R5 (q.take (Q1 q))).map fun t => W7 (Q4 t) else none)
  else if q = [] ∧ c ≠ 42 ∧ c ≠ 63 then some (W5 c) else none
theorem qg2 {p out : List Nat} (h : T4 p = some out) (k : Nat) (rest : List Nat) (res : List Part) : trR (k + 1) (p ++ rest) res = trR k rest (res ++ [some out]) := by
 cases p with
 | nil => exact absurd h.symm (some_ne_none _)
 | cons c q =>
  unfold T4 at h
  dsimp only at h
  show trR (k + 1) (c :: (q ++ rest)) res = _
  rw [qa7]
  split at h
  ·rename_i hc
   subst hc
   split at h
   ·rename_i hN
    obtain ⟨t, ht, rfl⟩ := map_eq_some_iff.mp h
    rw [if_neg (by decide), if_neg (by decide), if_pos rfl, qu7 (by lia), if_pos (by rw [length_append]; lia), List.take_append_of_le_length (by lia), ht]
    haveI : (q ++ rest).drop (Q1 q + 1) = rest := by rw [hN, drop_left]
    rw [this]
    rfl
   exact absurd h.symm (some_ne_none _)
  rename_i hc
  split at h
  ·rename_i hq
   cases h
   rw [if_neg hq.2.1, if_neg hq.2.2, if_neg hc, hq.1]
   rfl
  exact absurd h.symm (some_ne_none _)
theorem qm8 (k : Nat) (rest : List Nat) (res : List Part) (h : res.getLast? ≠ some none) : trR (k + 1) ([42] ++ rest) res = trR k rest (res ++ [none]) := by
 show trR (k + 1) (42 :: rest) res = _
 rw [qa7, if_pos rfl, if_neg h]
theorem qo5 {l rest : List Nat} {first : Nat} {signs : List Nat} {r : Nat × List Nat} : ∀ {k k' s : Nat} {m : List Nat}, k ≤ k' → inR l first signs k s m = some r → inR (l ++ rest) first signs k' s m = some r
 | 0, _, _, _, _, h => by exact absurd h.symm (some_ne_none _)
 | k + 1, 0, _, _, hk, _ => by lia
 | k + 1, k' + 1, s, m, hk, h => by
  have at_ : ∀ (i : Nat) (c : Nat), l[i]? = some c → (l ++ rest)[i]? = some c := fun i c e => by
   rw [List.getElem?_append_left (List.getElem?_eq_some_iff.mp e).1]; exact e
  unfold inR at h ⊢
  cases hs : l[s]? with
  | none =>
   rw [hs] at h
   simp at h
  | some c =>
   rw [hs] at h
   rw [at_ _ _ hs]
   split at h
   ·rename_i q
    rw [if_pos q]
    exact h
   rename_i q
   rw [if_neg q]
   dsimp only at h ⊢
   generalize s + (if c = 92 then 2 else 1) = s1 at h ⊢
   cases h1 : l[s1 - 1]? with
   | none => rw [h1] at h; exact absurd h.symm (some_ne_none _)
   | some low =>
    cases h2 : l[s1]? with
    | none => rw [h1, h2] at h; exact absurd h.symm (some_ne_none _)
    | some d =>
     rw [h1, h2] at h
     rw [at_ _ _ h1, at_ _ _ h2]
     dsimp only at h ⊢
     split at h
     ·rename_i hd
      rw [if_pos hd]
      cases h3 : l[s1 + 1]? with
      | none => rw [h3] at h; exact absurd h.symm (some_ne_none _)
      | some high =>
       rw [h3] at h
       rw [at_ _ _ h3]
       dsimp only at h ⊢
       exact qo5 (Nat.le_of_succ_le_succ hk) h
     rename_i hd
     rw [if_neg hd]
     exact qo5 (Nat.le_of_succ_le_succ hk) h
noncomputable def R6 (signs out : List Nat) : Option (List Nat) :=
 if out = [40, 63, 33, 41] then some []
 else if out = [46] then some signs
 else match out with
  | [] => none
  | c :: q => if c = 91 then (match q with
    | [] => none
    | b :: _ => match inR out (if b = 94 then 2 else 1) signs (out.length + 1) (if b = 94 then 2 else 1) [] with
     | some (size, mem) => if size + 1 = out.length then some (signs.filter fun s => (mem.any fun c => c == s) != (b == 94)) else none
     | none => none)
   else if c = 92 then (match q with
    | [d] => some (signs.filter fun s => s == d)
    | _ => none)
   else if q = [] ∧ c ≠ 40 ∧ c ≠ 46 ∧ c ≠ 41 then some (signs.filter fun s => s == c) else none
theorem cut2 (c : Nat) (r : List Nat) (k : Nat) : cut none (some ((k + 1 : Nat) : Int)) (c :: r) = c :: r.take k := by
 haveI : cut (none : Option Int) (some ((k + 1 : Nat) : Int)) (c :: r) = cut (some ((0 : Nat) : Int)) (some ((k + 1 : Nat) : Int)) (c :: r) := rfl
 rw [this, q54]; rfl
theorem q75 {signs : List Nat} {c : Nat} {r : List Nat} {pre : SS} {t : List Nat} {run : List (List Nat)} : (c = 46 → r.head? ≠ some 42) → c ≠ 40 → c ≠ 41 →
  stepS signs (c :: r) pre t run = (if c = 46 then some (r, pre, t, run ++ [signs])
   else if c = 91 then match r with
    | [] => none
    | b :: _ =>
     match inR (c :: r) (if b = 94 then 2 else 1) signs ((c :: r).length + 1) (if b = 94 then 2 else 1) [] with
     | none => none
     | some (size, mem) => some ((c :: r).drop (size + 1), pre, t, run ++ [signs.filter fun s => (mem.any fun c => c == s) != (b == 94)])
   else match (c :: r)[if c = 92 then 1 else 0]? with
    | none => none
    | some d => some ((c :: r).drop (if c = 92 then 2 else 1), pre, t, run ++ [signs.filter fun s => s == d])) := by
 intro h1 h2 h3
 unfold stepS
 have e2 := cut2 c r 1
 have e4 := cut2 c r 3
 have e6 := cut2 c r 5
 rw [show ((1 + 1 : Nat) : Int) = 2 from rfl] at e2
 rw [show ((3 + 1 : Nat) : Int) = 4 from rfl] at e4
 rw [show ((5 + 1 : Nat) : Int) = 6 from rfl] at e6
 rw [e2, e6]
 rw [if_neg (fun e => h2 (by injection e)), if_neg (fun e => by
  haveI hc : c = 46 := by injection e
  haveI hr : r.take 1 = [42] := by injection e
  refine h1 hc ?_
  cases r with
  | nil => cases hr
  | cons a r => simp at hr; rw [hr]; rfl)]
 dsimp only
 rw [if_neg h3, e4, if_neg (fun e => h2 (by injection e))]
 all_goals (cases r <;> rfl)
theorem qt6 {signs out sel : List Nat} (h : R6 signs out = some sel) {rest : List Nat} (hr : rest.head? ≠ some 42) (pre : SS) (t : List Nat) (run : List (List Nat)) :
  stepS signs (out ++ rest) pre t run = some (rest, pre, t, run ++ [sel]) := by
 unfold R6 at h
 split at h
 ·rename_i ho
  cases h
  subst ho
  unfold stepS
  haveI e2 := cut2 40 ([63, 33, 41] ++ rest) 1
  haveI e4 := cut2 40 ([63, 33, 41] ++ rest) 3
  haveI e6 := cut2 40 ([63, 33, 41] ++ rest) 5
  rw [show ((1 + 1 : Nat) : Int) = 2 from rfl] at e2
  rw [show ((3 + 1 : Nat) : Int) = 4 from rfl] at e4
  rw [show ((5 + 1 : Nat) : Int) = 6 from rfl] at e6
  rw [show ([40, 63, 33, 41] : List Nat) ++ rest = 40 :: ([63, 33, 41] ++ rest) from rfl, e2, e6]
  rw [if_neg (by intro e; injection e with _ e; injection e with _ e; injection e with e _; exact absurd e (by decide)), if_neg (by intro e; injection e with e1 _; exact absurd e1 (by decide))]
  dsimp only
  rw [if_neg (by decide), e4, if_pos (by rfl)]
  rfl
 split at h
 ·rename_i ho
  cases h
  subst ho
  show stepS signs (46 :: rest) pre t run = _
  rw [q75 (fun _ => hr) (by decide) (by decide), if_pos rfl]
 rename_i hn1 hn2
 cases out with
 | nil => exact absurd h.symm (some_ne_none _)
 | cons c q =>
  dsimp only at h
  show stepS signs (c :: (q ++ rest)) pre t run = _
  split at h
  ·rename_i hc
   subst hc
   cases q with
   | nil => exact absurd h.symm (some_ne_none _)
   | cons b q2 =>
    dsimp only at h
    generalize hf : (if b = 94 then 2 else 1 : Nat) = first at h
    cases hin : inR (91 :: b :: q2) first signs ((91 :: b :: q2).length + 1) first [] with
    | none => rw [hin] at h; exact absurd h.symm (some_ne_none _)
    | some p =>
     obtain ⟨size, mem⟩ := p
     rw [hin] at h
     dsimp only at h
     split at h
     ·rename_i hsz
      cases h
      rw [q75 (by intro e; exact absurd e (by decide)) (by decide) (by decide), if_neg (by decide), if_pos rfl]
      dsimp only [cons_append]
      rw [hf]
      have := qo5 (rest := rest) (k' := (91 :: b :: (q2 ++ rest)).length + 1) (by simp) hin
      rw [show (91 :: b :: q2) ++ rest = 91 :: b :: (q2 ++ rest) from rfl] at this
      rw [this]
      dsimp only
      haveI hd : (91 :: b :: (q2 ++ rest)).drop (size + 1) = rest := by
       rw [hsz, show 91 :: b :: (q2 ++ rest) = (91 :: b :: q2) ++ rest from rfl, drop_left]
      rw [hd]
     exact absurd h.symm (some_ne_none _)
  rename_i hc91
  split at h
  ·rename_i hc
   subst hc
   cases q with
   | nil => exact absurd h.symm (some_ne_none _)
   | cons d q2 =>
    cases q2 with
    | nil =>
     cases h
     rw [q75 (by intro e; exact absurd e (by decide)) (by decide) (by decide), if_neg (by decide), if_neg (by decide)]
     rfl
    | cons _ _ => exact absurd h.symm (some_ne_none _)
  rename_i hc92
  split at h
  ·rename_i hq
   cases h
   rw [hq.1]
   rw [q75 (fun e => absurd e hq.2.2.1) hq.2.1 hq.2.2.2, if_neg hq.2.2.1, if_neg hc91, if_neg hc92, if_neg hc92]
   rfl
  exact absurd h.symm (some_ne_none _)
theorem qj9 {signs rest : List Nat} (pre : SS) (t : List Nat) (run : List (List Nat)) : stepS signs ([46, 42] ++ rest) pre t run = some (rest, pre ++ [(t, run)], cs "any", []) := by
 unfold stepS
 haveI e2 := cut2 46 ([42] ++ rest) 1
 haveI e6 := cut2 46 ([42] ++ rest) 5
 rw [show ((1 + 1 : Nat) : Int) = 2 from rfl] at e2
 rw [show ((5 + 1 : Nat) : Int) = 6 from rfl] at e6
 rw [show ([46, 42] : List Nat) ++ rest = 46 :: ([42] ++ rest) from rfl, e2, e6, if_neg (by intro e; injection e with e1 _; exact absurd e1 (by decide)), if_pos (by rfl)]
 rfl
theorem qt7 {signs rest : List Nat} (pre : SS) (t : List Nat) (run : List (List Nat)) : stepS signs ([40, 63, 62, 46, 42, 63] ++ rest) pre t run = some (rest, pre ++ [(t, run)], cs "first", []) := by
 unfold stepS
 haveI e6 := cut2 40 ([63, 62, 46, 42, 63] ++ rest) 5
 rw [show ((5 + 1 : Nat) : Int) = 6 from rfl] at e6
 rw [show ([40, 63, 62, 46, 42, 63] : List Nat) ++ rest = 40 :: ([63, 62, 46, 42, 63] ++ rest) from rfl, e6, if_pos (by rfl)]
 rfl
theorem qx3 {signs rest : List Nat} (pre : SS) (t : List Nat) (run : List (List Nat)) : stepS signs ([41] ++ rest) pre t run = some (rest, pre ++ [(t, run)], cs "here", []) := by
 unfold stepS
 haveI e2 := cut2 41 rest 1
 haveI e6 := cut2 41 rest 5
 rw [show ((1 + 1 : Nat) : Int) = 2 from rfl] at e2
 rw [show ((5 + 1 : Nat) : Int) = 6 from rfl] at e6
 rw [show ([41] : List Nat) ++ rest = 41 :: rest from rfl, e2, e6, if_neg (by intro e; injection e with e1 _; exact absurd e1 (by decide)), if_neg (by intro e; injection e with e1 _; exact absurd e1 (by decide))]
 rfl
theorem q27 {signs rest rest' : List Nat} {p p' : SS} {t t' : List Nat} {ru ru' : List (List Nat)} {k : Nat} (hne : rest ≠ []) (h : stepS signs rest p t ru = some (rest', p', t', ru')) : q15 signs (k + 1) rest p t ru = q15 signs k rest' p' t' ru' := by
 rw [q64, if_neg hne, h]
theorem qk4 {α β : Type} (g : α → β) : ∀ (l : List α) (k : Nat), (l.map g).eraseIdx k = (l.eraseIdx k).map g
 | [], _ => rfl
 | _ :: _, 0 => rfl
 | a :: l, k + 1 => by
  rw [map_cons, List.eraseIdx_cons_succ, List.eraseIdx_cons_succ, map_cons, qk4 g l k]
structure Mon (f : Nat → Nat) : Prop where
 fix : ∀ c, c < 192 → f c = c
 mono : ∀ a b, a < b → f a < f b
section
variable {f : Nat → Nat} (M : Mon f)
include M
theorem Mon.inj {a b : Nat} : f a = f b ↔ a = b := by
 constructor
 ·intro e
  rcases lt_trichotomy a b with h | h | h
  ·have := M.mono _ _ h; lia
  ·exact h
  have := M.mono _ _ h; lia
 intro e; rw [e]
theorem Mon.at {a k : Nat} (hk : k < 192) : f a = k ↔ a = k := by
 have := M.inj (a := a) (b := k)
 rw [M.fix k hk] at this
 exact this
theorem Mon.lt {a b : Nat} : f a < f b ↔ a < b := by
 constructor
 ·intro h
  rcases lt_trichotomy a b with q | q | q
  ·exact q
  ·rw [q] at h; lia
  have := M.mono _ _ q; lia
 exact M.mono a b
theorem Mon.le {a b : Nat} : f a ≤ f b ↔ a ≤ b := by
 have := M.lt (a := b) (b := a)
 lia
theorem Mon.get {l : List Nat} {i k : Nat} (hk : k < 192) : (l.map f)[i]? = some k ↔ l[i]? = some k := by
 rw [getElem?_map]
 cases l[i]? with
 | none => simp
 | some c => simp [M.at hk]
theorem Mon.beq {a k : Nat} (hk : k < 192) : (f a == k) = (a == k) := by
 rw [Bool.eq_iff_iff, beq_iff_eq, beq_iff_eq]; exact M.at hk
theorem Mon.R4 {z : List Nat} (h : ∀ c ∈ z, c < 192) : z.map f = z := by
 conv => rhs; rw [← List.map_id z]
 exact map_congr_left fun c hc => M.fix c (h c hc)
theorem Mon.Q5 {r : List Nat} : Q5 (r.map f) = Q5 r := by
 unfold Mine.Q5
 simp only [M.get (show (33 : Nat) < 192 by decide)]
theorem Mon.Q3 {r : List Nat} : Q3 (r.map f) = Q3 r := by
 unfold Mine.Q3
 simp only [M.Q5, M.get (show (93 : Nat) < 192 by decide)]
theorem Mon.Q1 {r : List Nat} : Q1 (r.map f) = Q1 r := by
 unfold Mine.Q1
 rw [M.Q3, ← map_drop, List.takeWhile_map, length_map]
 congr 2
 haveI : (fun x => x != 93) ∘ f = fun x => x != 93 := by
  funext x
  show (f x != 93) = (x != 93)
  unfold bne
  rw [M.beq (by decide)]
 rw [this]
theorem Mon.contains {l : List Nat} {k : Nat} (hk : k < 192) : (l.map f).contains k = l.contains k := by
 rw [Bool.eq_iff_iff, contains_iff_mem, contains_iff_mem, mem_map]
 constructor
 ·rintro ⟨a, h, e⟩
  rw [← (M.at hk).mp e]; exact h
 intro h; exact ⟨k, h, M.fix k hk⟩
theorem Mon.Q8 {m : Nat} {cur : List Nat} : Q8 m (cur.map f) = Q8 m cur := by
 unfold Mine.Q8
 rw [← map_drop, List.findIdx?_map]
 haveI : (fun x => x == 45) ∘ f = fun x => x == 45 := by
  funext x; exact M.beq (by decide)
 rw [this]
theorem Mon.Q6 : ∀ (k m : Nat) (cur : List Nat) (acc : List (List Nat)), Q6 k m (cur.map f) (acc.map (List.map f)) = (Q6 k m cur acc).map (List.map (List.map f)) := by
 intro k
 induction k with
 | zero => exact fun _ _ _ => rfl
 | succ k ih =>
  intro m cur acc
  unfold Mine.Q6
  rw [M.Q8]
  cases Mine.Q8 m cur with
  | some q =>
   dsimp only
   rw [← map_drop, ← map_take]
   have := ih 2 (cur.drop (q + 1)) (acc ++ [cur.take q])
   rw [map_append] at this
   exact this
  | none =>
   dsimp only
   cases cur with
   | nil =>
    rw [if_pos rfl]
    simp only [map_nil, if_true]
    rw [List.getLast?_map]
    cases acc.getLast? with
    | none => rfl
    | some l =>
     show some _ = some _
     rw [map_append, List.map_dropLast, List.map_singleton, map_append]
     rw [show ([45] : List Nat).map f = [45] from by rw [List.map_singleton, M.fix 45 (by decide)]]
   | cons c r =>
    rw [if_neg (by simp), if_neg (by simp)]
    simp
theorem Mon.W3 {cs : List (List Nat)} {k : Nat} : W3 (cs.map (List.map f)) k = (W3 cs k).map (List.map (List.map f)) := by
 unfold Mine.W3
 rw [getElem?_map, getElem?_map]
 cases cs[k - 1]? with
 | none => rfl
 | some a =>
  cases cs[k]? with
  | none => rfl
  | some b =>
   dsimp only [map_some]
   rw [List.getLast?_map, List.head?_map]
   cases a.getLast? with
   | none => rfl
   | some x =>
    cases b.head? with
    | none => rfl
    | some y =>
     simp only [map_some, M.lt]
     by_cases h : y < x
     ·rw [if_pos h, if_pos h]
      simp only [map_some]
      congr 1
      rw [← List.map_dropLast, ← List.map_tail, ← map_append, ← List.map_set]
      exact qk4 _ _ _
     rw [if_neg h, if_neg h]; rfl
theorem Mon.Q7 : ∀ (ks : List Nat) (cs : List (List Nat)), Q7 ks (cs.map (List.map f)) = (Q7 ks cs).map (List.map (List.map f))
 | [], _ => rfl
 | k :: ks, cs => by
  unfold Mine.Q7
  rw [M.W3]
  cases Mine.W3 cs k with
  | none => rfl
  | some c => exact Mon.Q7 ks c
theorem Mon.W2 {c : Nat} {z l : List Nat} (hc : c < 192) (hz : z.map f = z) : W2 c z (l.map f) = (W2 c z l).map f := by
 unfold Mine.W2
 rw [List.flatMap_map, List.map_flatMap]
 congr 1
 funext d
 show (if f d = c then z else [f d]) = (if d = c then z else [d]).map f
 simp only [M.at hc]
 split
 ·exact hz.symm
 rfl
theorem Mon.R7 {y : List Nat} : R7 (y.map f) = (R7 y).map f := by
 unfold Mine.R7
 rw [M.W2 (by decide) (M.R4 (by decide)), M.W2 (by decide) (M.R4 (by decide))]
omit M in
theorem z66 (sep : List Nat) (f : Nat → Nat) : ∀ l : List (List Nat), (jn sep l).map f = jn (sep.map f) (l.map (List.map f))
 | [] => rfl
 | [a] => rfl
 | a :: b :: l => by
  show (a ++ sep ++ jn sep (b :: l)).map f = _
  rw [map_append, map_append, z66 sep f (b :: l)]; rfl
theorem Mon.R5 {t : List Nat} : R5 (t.map f) = (R5 t).map (List.map f) := by
 unfold Mine.R5
 rw [M.contains (by decide), length_map]
 simp only [M.get (show (33 : Nat) < 192 by decide)]
 by_cases h : t.contains 45 = true
 ·rw [if_pos h, if_pos h]
  have := M.Q6 (t.length + 1) (if t[0]? = some 33 then 2 else 1) t []
  rw [map_nil] at this
  rw [this]
  cases Mine.Q6 (t.length + 1) (if t[0]? = some 33 then 2 else 1) t [] with
  | none => rfl
  | some cl =>
   simp only [map_some, Option.bind_some]
   rw [length_map, M.Q7]
   cases Mine.Q7 (downs cl.length) cl with
   | none => rfl
   | some ms =>
    simp only [map_some]
    congr 1
    rw [z66, M.R4 (z := [45]) (by decide), map_map, map_map]
    congr 1
    exact map_congr_left fun y _ => M.R7 (y := y)
 rw [if_neg h, if_neg h, M.W2 (by decide) (M.R4 (by decide))]; rfl
theorem Mon.twin {c : Nat} : q05 (f c) = q05 c := by
 unfold q05
 simp only [M.beq (show (38 : Nat) < 192 by decide), M.beq (show (124 : Nat) < 192 by decide), M.beq (show (126 : Nat) < 192 by decide)]
theorem Mon.Q4 {t : List Nat} : Q4 (t.map f) = (Q4 t).map f := by
 unfold Mine.Q4
 rw [List.flatMap_map, List.map_flatMap]
 congr 1
 funext c
 show (if q05 (f c) then [92, f c] else [f c]) = (if q05 c then [92, c] else [c]).map f
 rw [M.twin]
 split
 ·simp [M.fix 92 (by decide)]
 rfl
theorem Mon.W8 {t : List Nat} : W8 (t.map f) = (W8 t).map f := by
 cases t with
 | nil => rfl
 | cons c r =>
  show Mine.W8 (f c :: r.map f) = _
  rw [q26, q26]
  simp only [M.at (show (33 : Nat) < 192 by decide), M.at (show (94 : Nat) < 192 by decide), M.at (show (91 : Nat) < 192 by decide)]
  split
  ·simp [M.fix 94 (by decide)]
  split
  ·simp [M.fix 92 (by decide)]
  rfl
theorem Mon.eqk {t z : List Nat} (hz : ∀ c ∈ z, c < 192) : t.map f = z ↔ t = z := by
 constructor
 ·intro h
  haveI h2 : t.map f = z.map f := h.trans (M.R4 hz).symm
  exact (List.map_inj_right fun a b e => M.inj.mp e).mp h2
 intro h; rw [h]; exact M.R4 hz
theorem Mon.W7 {t : List Nat} : W7 (t.map f) = (W7 t).map f := by
 unfold Mine.W7
 simp only [M.eqk (t := t) (z := []) (by decide), M.eqk (t := t) (z := [33]) (by decide)]
 split
 ·exact (M.R4 (by decide)).symm
 split
 ·exact (M.R4 (by decide)).symm
 rw [M.W8, map_append, map_append, M.R4 (z := [91]) (by decide), M.R4 (z := [93]) (by decide)]
omit M in
theorem qw5 : ∀ c ∈ spc, c < 192 := by decide
theorem Mon.W5 {c : Nat} : W5 (f c) = (W5 c).map f := by
 have e : spc.contains (f c) = spc.contains c := by
  rw [Bool.eq_iff_iff, contains_iff_mem, contains_iff_mem]
  constructor
  ·intro h
   have h1 := qw5 _ h
   have : c = f c := (M.at (a := c) (k := f c) h1).mp rfl
   rw [← this] at h; exact h
  intro h
  rw [M.fix c (qw5 _ h)]; exact h
 unfold Mine.W5
 rw [e]
 split
 ·simp [M.fix 92 (by decide)]
 rfl
theorem Mon.T4 {p : List Nat} : T4 (p.map f) = (T4 p).map (List.map f) := by
 cases p with
 | nil => rfl
 | cons c q =>
  show Mine.T4 (f c :: q.map f) = _
  unfold Mine.T4
  dsimp only
  simp only [M.at (show (91 : Nat) < 192 by decide), M.Q1, length_map, ← map_take, M.R5, map_eq_nil_iff, ne_eq, M.at (show (42 : Nat) < 192 by decide), M.at (show (63 : Nat) < 192 by decide)]
  split
  ·split
   ·cases Mine.R5 (q.take (Mine.Q1 q)) with
    | none => rfl
    | some t => simp only [map_some]; rw [M.Q4, M.W7]
   rfl
  split
  ·rw [M.W5]; rfl
  rfl
end
noncomputable def T0 (big : Nat) (signs held : List Nat) : List Nat := if held = signs then [32, 45, big] else if held = [] then [98, 45, 97] else held
noncomputable def W9 (big : Nat) (signs mem : List Nat) (barred : Bool) : List Nat :=
 if barred then [91, 33] ++ T0 big signs (Q0 signs mem) ++ [93]
 else W1 (T0 big signs (Q0 signs (Q0 signs mem))) ([91] ++ T0 big signs (Q0 signs (Q0 signs mem)) ++ [93])
theorem qx8 (signs mem : List Nat) (b : Bool) : W9 50192 signs mem b = q11 signs mem b := rfl
section
variable {f : Nat → Nat} (M : Mon f)
include M
theorem Mon.inj_map {a b : List Nat} : a.map f = b.map f ↔ a = b := List.map_inj_right fun a b e => M.inj.mp e
theorem Mon.mem {l : List Nat} {c : Nat} : (l.map f).contains (f c) = l.contains c := by
 rw [Bool.eq_iff_iff, contains_iff_mem, contains_iff_mem, mem_map]
 constructor
 ·rintro ⟨a, h, e⟩
  rw [← M.inj.mp e]; exact h
 intro h; exact ⟨c, h, rfl⟩
theorem Mon.Q0 {signs mem : List Nat} : Q0 (signs.map f) (mem.map f) = (Q0 signs mem).map f := by
 unfold Mine.Q0
 rw [filter_map]
 congr 1
 refine filter_congr fun c _ => ?_
 show (!(mem.map f).contains (f c)) = _
 rw [M.mem]
theorem Mon.T0 {big : Nat} {signs held : List Nat} : T0 (f big) (signs.map f) (held.map f) = (T0 big signs held).map f := by
 unfold Mine.T0
 simp only [M.inj_map, map_eq_nil_iff]
 split
 ·simp [M.fix 32 (by decide), M.fix 45 (by decide)]
 split
 ·exact (M.R4 (by decide)).symm
 rfl
theorem Mon.W1 {x y : List Nat} : W1 (x.map f) (y.map f) = (W1 x y).map f := by
 unfold Mine.W1
 simp only [M.eqk (t := x) (z := [33]) (by decide), M.eqk (t := x) (z := [33, 45]) (by decide)]
 split
 ·exact (M.R4 (by decide)).symm
 split
 ·exact (M.R4 (by decide)).symm
 rfl
theorem Mon.W9 {big : Nat} {signs mem : List Nat} {b : Bool} : W9 (f big) (signs.map f) (mem.map f) b = (W9 big signs mem b).map f := by
 unfold Mine.W9
 rw [M.Q0, M.Q0, M.T0, M.T0]
 split
 ·rw [map_append, map_append, M.R4 (z := [91, 33]) (by decide), M.R4 (z := [93]) (by decide)]
 rw [← M.W1, map_append, map_append, M.R4 (z := [91]) (by decide), M.R4 (z := [93]) (by decide)]
theorem Mon.sel {signs : List Nat} {low high : Nat} : sel (signs.map f) (f low) (f high) = (sel signs low high).map f := by
 unfold Mine.sel
 rw [filter_map]
 congr 1
 refine filter_congr fun c _ => ?_
 show ((decide (f low ≤ f c) && decide (f c ≤ f high)) || decide (f high < f low)) = _
 simp only [M.le, M.lt]
theorem Mon.getE {l : List Nat} {i : Nat} : (l.map f)[i]? = l[i]?.map f := getElem?_map ..
theorem Mon.inR {l signs : List Nat} {first : Nat} : ∀ (k s : Nat) (m : List Nat), inR (l.map f) first (signs.map f) k s (m.map f) = (inR l first signs k s m).map fun r => (r.1, r.2.map f) := by
 intro k
 induction k with
 | zero => exact fun _ _ => rfl
 | succ k ih =>
  intro s m
  unfold Mine.inR
  simp only [M.get (show (93 : Nat) < 192 by decide)]
  by_cases h : s ≠ first ∧ l[s]? = some 93
  ·rw [if_pos h, if_pos h]; rfl
  rw [if_neg h, if_neg h, M.getE]
  cases l[s]? with
  | none => rfl
  | some c =>
   simp only [map_some, M.at (show (92 : Nat) < 192 by decide)]
   generalize s + (if c = 92 then 2 else 1) = s1
   rw [M.getE, M.getE, M.getE]
   cases l[s1 - 1]? with
   | none => rfl
   | some low =>
    cases l[s1]? with
    | none => rfl
    | some d =>
     simp only [map_some, M.at (show (45 : Nat) < 192 by decide)]
     split
     ·cases l[s1 + 1]? with
      | none => rfl
      | some high =>
       simp only [map_some]
       rw [M.sel, ← map_append]
       exact ih (s1 + 2) (m ++ Mine.sel signs low high)
     rw [M.sel, ← map_append]
     exact ih s1 (m ++ Mine.sel signs low low)
theorem Mon.anyE {m : List Nat} {s : Nat} : ((m.map f).any fun c => c == f s) = m.any fun c => c == s := by
 rw [List.any_map]
 congr 1
 funext c
 show (f c == f s) = (c == s)
 rw [Bool.eq_iff_iff, beq_iff_eq, beq_iff_eq]; exact M.inj
theorem Mon.U0 {signs : List Nat} {c : Nat} : ((signs.map f).filter fun s => s == f c) = (signs.filter fun s => s == c).map f := by
 rw [filter_map]
 congr 1
 refine filter_congr fun s _ => ?_
 show (f s == f c) = (s == c)
 rw [Bool.eq_iff_iff, beq_iff_eq, beq_iff_eq]; exact M.inj
theorem Mon.R6 {signs out : List Nat} : R6 (signs.map f) (out.map f) = (R6 signs out).map (List.map f) := by
 unfold Mine.R6
 simp only [M.eqk (t := out) (z := [40, 63, 33, 41]) (by decide), M.eqk (t := out) (z := [46]) (by decide)]
 split
 ·rfl
 split
 ·rfl
 cases out with
 | nil => rfl
 | cons c q =>
  simp only [map_cons, M.at (show (91 : Nat) < 192 by decide), M.at (show (92 : Nat) < 192 by decide), M.at (show (40 : Nat) < 192 by decide), M.at (show (46 : Nat) < 192 by decide), M.at (show (41 : Nat) < 192 by decide), map_eq_nil_iff, ne_eq]
  split
  ·rename_i hc
   cases q with
   | nil => rfl
   | cons b q2 =>
    simp only [map_cons, M.at (show (94 : Nat) < 192 by decide), length_cons, length_map]
    have hi := M.inR (l := c :: b :: q2) (signs := signs) (first := if b = 94 then 2 else 1) (q2.length + 1 + 1 + 1) (if b = 94 then 2 else 1) []
    simp only [map_cons, map_nil] at hi
    rw [hi]
    cases Mine.inR (c :: b :: q2) (if b = 94 then 2 else 1) signs (q2.length + 1 + 1 + 1) (if b = 94 then 2 else 1) [] with
    | none => rfl
    | some p =>
     obtain ⟨size, mem⟩ := p
     simp only [map_some]
     split
     ·simp only [map_some]
      congr 1
      rw [filter_map]
      congr 1
      refine filter_congr fun s _ => ?_
      show (((mem.map f).any fun c => c == f s) != (f b == 94)) = _
      rw [M.anyE, M.beq (by decide)]
     rfl
  split
  ·cases q with
   | nil => rfl
   | cons d q2 =>
    cases q2 with
    | nil =>
     simp only [map_cons, map_nil, map_some]
     rw [M.U0]
    | cons _ _ => rfl
  split
  ·simp only [map_some]
   rw [M.U0]
  rfl
end
noncomputable def baseL : List (List Nat) := R1.map fun r => r.map fun c => if c = 120 then 192 else c
noncomputable def subs : List Nat → List (List Nat)
 | [] => [[]]
 | a :: l => subs l ++ (subs l).map (a :: ·)
theorem q63 (p : Nat → Bool) : ∀ l : List Nat, l.filter p ∈ subs l
 | [] => .head _
 | a :: l => by
  unfold subs
  rw [filter_cons]
  split
  ·exact mem_append_right _ (mem_map.mpr ⟨_, q63 p l, rfl⟩)
  exact mem_append_left _ (q63 p l)
noncomputable def qb4 (signs mem : List Nat) (b : Bool) : Bool :=
 match T4 (W9 193 signs mem b) with
 | none => false
 | some out => match R6 signs out with
  | none => false
  | some sel => (signs.all fun s => sel.contains s == mem.contains s) && (out.head? != some 42) && decide (out.length ≤ 40) && (!out.isEmpty)
theorem z21 : (baseL.all fun signs => (subs signs).all fun mem => qb4 signs mem true && qb4 signs mem false) = true := by decide +kernel
structure PieceOK (signs mem : List Nat) (p out sel : List Nat) : Prop where
 hout : T4 p = some out
 hsel : R6 signs out = some sel
 hmem : ∀ s ∈ signs, sel.contains s = mem.contains s
 head : out.head? ≠ some 42
 len : out.length ≤ 40
 ne : out ≠ []
noncomputable def fOf (x c : Nat) : Nat := if c < 192 then c else if c = 192 then x else c + 49999
theorem za4 (x : Nat) (h1 : 192 ≤ x) (h2 : x < 50192) : Mon (fOf x) where
 fix c h := by unfold fOf; rw [if_pos h]
 mono a b h := by
  unfold fOf
  split <;> split <;> (try split) <;> (try split) <;> omega
theorem qt3 (d : Int) : ∃ base x, base ∈ baseL ∧ 192 ≤ x ∧ x < 50192 ∧ q01 d = base.map (fOf x) := by
 have h1 := q35 d (b := 10) (by decide)
 have h2 := q23 d (b := 10) (by decide)
 have h3 := q35 (d.fdiv 10) (b := 50000) (by decide)
 have h4 := q23 (d.fdiv 10) (b := 50000) (by decide)
 have hk : (d.fmod 10).toNat < R1.length := by show _ < 10; omega
 refine ⟨(R1.getD (d.fmod 10).toNat []).map fun c => if c = 120 then 192 else c, (192 + (d.fdiv 10).fmod 50000).toNat, ?_, by omega, by omega, ?_⟩
 ·unfold baseL
  refine mem_map.mpr ⟨_, ?_, rfl⟩
  rw [getD_eq_getElem?_getD, List.getElem?_eq_getElem hk]
  exact List.getElem_mem _
 unfold q01
 rw [map_map]
 have hrow : ∀ c ∈ R1.getD (d.fmod 10).toNat [], c < 192 := by
  have : ∀ k < 10, ∀ c ∈ R1.getD k [], c < 192 := by decide
  exact this _ hk
 refine map_congr_left fun c hc => ?_
 have h192 := hrow c hc
 have e : ([c] == cs "x") = (c == 120) := by
  show (([c] : List Nat) == [120]) = _
  by_cases q : c = 120
  ·subst q; rfl
  have a1 : (([c] : List Nat) == [120]) = false := by simp [q]
  have a2 : (c == 120) = false := by simp [q]
  rw [a1, a2]
 rw [e]
 show _ = fOf _ (if c = 120 then 192 else c)
 by_cases q : c = 120
 ·subst q; rfl
 rw [if_neg (by simp [q]), if_neg q]
 unfold fOf
 rw [if_pos h192]
theorem qy0 {signs m m' : List Nat} (h : ∀ s ∈ signs, m.contains s = m'.contains s) : Q0 signs m = Q0 signs m' := by
 unfold Q0
 exact filter_congr fun c hc => by rw [h c hc]
theorem qn4 {signs m m' : List Nat} {b : Bool} (h : ∀ s ∈ signs, m.contains s = m'.contains s) : q11 signs m b = q11 signs m' b := by
 unfold q11
 rw [qy0 h]
theorem z42 (d : Int) (mem : List Nat) (b : Bool) : ∃ out sel, PieceOK (q01 d) mem (q11 (q01 d) mem b) out sel := by
 obtain ⟨base, x, hb, hx1, hx2, hs⟩ := qt3 d
 have M := za4 x hx1 hx2
 rw [hs]
 have hm0 := q63 (fun s => mem.contains (fOf x s)) base
 generalize hm : base.filter (fun s => mem.contains (fOf x s)) = mem0 at hm0
 have hc : ∀ s ∈ base, mem0.contains s = mem.contains (fOf x s) := fun s hs => by
  rw [← hm, Bool.eq_iff_iff, contains_iff_mem, mem_filter]
  exact ⟨fun h => h.2, fun h => ⟨hs, h⟩⟩
 have hcf : ∀ s ∈ base.map (fOf x), mem.contains s = (mem0.map (fOf x)).contains s := fun s hs => by
  obtain ⟨t, ht, rfl⟩ := mem_map.mp hs
  rw [M.mem, hc t ht]
 have hcheck : qb4 base mem0 b = true := by
  have h1 := all_eq_true.mp z21 base hb
  have h2 := all_eq_true.mp h1 mem0 hm0
  rw [and_eq_true] at h2
  cases b
  ·exact h2.2
  exact h2.1
 have hbig : fOf x 193 = 50192 := rfl
 have hp : q11 (base.map (fOf x)) mem b = (W9 193 base mem0 b).map (fOf x) := by
  rw [qn4 hcf, ← qx8, ← hbig, M.W9]
 unfold qb4 at hcheck
 cases ho : T4 (W9 193 base mem0 b) with
 | none => rw [ho] at hcheck; cases hcheck
 | some out =>
  rw [ho] at hcheck
  dsimp only at hcheck
  cases hsl : R6 base out with
  | none => rw [hsl] at hcheck; cases hcheck
  | some sel =>
   rw [hsl] at hcheck
   simp only [and_eq_true, all_eq_true, beq_iff_eq, bne_iff_ne, ne_eq, decide_eq_true_eq, not_eq_true'] at hcheck
   obtain ⟨⟨⟨c1, c2⟩, c4⟩, c5⟩ := hcheck
   refine ⟨out.map (fOf x), sel.map (fOf x), ?_, ?_, fun s hs => ?_, ?_, ?_, ?_⟩
   ·rw [hp, M.T4, ho]; rfl
   ·rw [M.R6, hsl]; rfl
   ·obtain ⟨t, ht, rfl⟩ := mem_map.mp hs
    rw [M.mem, c1 t ht, hc t ht]
   ·cases out with
    | nil => simp
    | cons a r =>
     intro e
     apply c2
     simp only [map_cons, List.head?_cons, Option.some.injEq] at e ⊢
     exact (M.at (by decide)).mp e
   ·rw [length_map]; exact c4
   intro e
   rw [map_eq_nil_iff] at e
   rw [e] at c5; cases c5
structure Seg (signs p : List Nat) (os es : List (List Nat)) (C : List Nat → Prop) : Prop where
 tr : ∀ (k : Nat) (rest : List Nat) (res : List Part), C rest → trR (k + os.length) (p ++ rest) res = trR k rest (res ++ os.map some)
 rd : ∀ (k : Nat) (rest : List Nat) (pre : SS) (t : List Nat) (run : List (List Nat)), rest.head? ≠ some 42 → q15 signs (k + es.length) (os.flatten ++ rest) pre t run = q15 signs k rest pre t (run ++ es)
 hd : ∀ rest : List Nat, rest.head? ≠ some 42 → (os.flatten ++ rest).head? ≠ some 42
 ln : ∀ o ∈ os, o.length ≤ 40
 eq : os.length = es.length
theorem Seg.nil (signs : List Nat) (C : List Nat → Prop) : Seg signs [] [] [] C :=
 ⟨fun _ _ _ _ => by simp, fun _ _ _ _ _ _ => by simp, fun _ h => h, (fun _ h => nomatch h), rfl⟩
theorem Seg.app {signs p q : List Nat} {os es os' es' : List (List Nat)} {C : List Nat → Prop} (x : Seg signs p os es fun _ => True) (y : Seg signs q os' es' C) : Seg signs (p ++ q) (os ++ os') (es ++ es') C where
 tr k rest res h := by
  rw [append_assoc, length_append, Nat.add_comm os.length, ← add_assoc, x.tr _ _ _ trivial, y.tr _ _ _ h, append_assoc, ← map_append]
 rd k rest pre t run h := by
  rw [flatten_append, append_assoc, length_append, Nat.add_comm es.length, ← add_assoc, x.rd _ _ _ _ _ (y.hd _ h), y.rd _ _ _ _ _ h, append_assoc]
 hd rest h := by rw [flatten_append, append_assoc]; exact x.hd _ (y.hd _ h)
 ln o h := (mem_append.mp h).elim (x.ln o) (y.ln o)
 eq := by rw [length_append, length_append, x.eq, y.eq]
theorem Seg.one {signs p o e : List Nat} {C : List Nat → Prop} (tr : ∀ (k : Nat) (rest : List Nat) (res : List Part), C rest → trR (k + 1) (p ++ rest) res = trR k rest (res ++ [some o])) (hs : R6 signs o = some e) (hh : o.head? ≠ some 42) (hl : o.length ≤ 40) (hn : o ≠ []) : Seg signs p [o] [e] C where
 tr := tr
 rd k rest pre t run h := by
  rw [show ([o] : List (List Nat)).flatten = o by simp]
  exact q27 (fun q => hn (List.append_eq_nil_iff.mp q).1) (qt6 hs h pre t run)
 hd rest _ := by
  rw [show ([o] : List (List Nat)).flatten = o by simp]
  cases o with
  | nil => exact absurd rfl hn
  | cons a r => exact hh
 ln x h := by rw [mem_singleton.mp h]; exact hl
 eq := rfl
theorem PieceOK.seg {signs mem p o e : List Nat} (P : PieceOK signs mem p o e) : Seg signs p [o] [e] fun _ => True :=
 .one (fun k rest res _ => qg2 P.hout k rest res) P.hsel P.head P.len P.ne
noncomputable def Same (signs : List Nat) (es ss : List (List Nat)) : Prop := es.length = ss.length ∧ ∀ k, ∀ c ∈ signs, (es.getD k []).contains c = (ss.getD k []).contains c
theorem Same.nil (signs : List Nat) : Same signs [] [] := ⟨rfl, fun _ _ _ => rfl⟩
theorem Same.one {signs e s : List Nat} (h : ∀ c ∈ signs, e.contains c = s.contains c) : Same signs [e] [s] := ⟨rfl, fun k c hc => by
 cases k with
 | zero => exact h c hc
 | succ k => rfl⟩
theorem Same.app {signs : List Nat} {a b a' b' : List (List Nat)} (x : Same signs a b) (y : Same signs a' b') : Same signs (a ++ a') (b ++ b') := by
 refine ⟨by rw [length_append, length_append, x.1, y.1], fun k c hc => ?_⟩
 rw [getD_eq_getElem?_getD, getD_eq_getElem?_getD, List.getElem?_append, List.getElem?_append, x.1]
 split
 ·have := x.2 k c hc
  rwa [getD_eq_getElem?_getD, getD_eq_getElem?_getD] at this
 have := y.2 (k - b.length) c hc
 rwa [getD_eq_getElem?_getD, getD_eq_getElem?_getD] at this
theorem qn0 (d : Int) (mem : Nat → List Nat) (b : Nat → Bool) : ∀ ks : List Nat, ∃ os es, Seg (q01 d) (ks.map fun k => q11 (q01 d) (mem k) (b k)).flatten os es (fun _ => True) ∧ Same (q01 d) es (ks.map mem)
 | [] => ⟨[], [], Seg.nil _ _, Same.nil _⟩
 | k :: ks => by
  obtain ⟨o, e, P⟩ := z42 d (mem k) (b k)
  obtain ⟨os, es, S, T⟩ := qn0 d mem b ks
  exact ⟨[o] ++ os, [e] ++ es, P.seg.app S, (Same.one P.hmem).app T⟩
theorem qf8 (signs : List Nat) (c : Nat) : ∀ s ∈ signs, (signs.filter fun s => s == c).contains s = ([c] : List Nat).contains s := fun s hs => by
 rw [Bool.eq_iff_iff, contains_iff_mem, contains_iff_mem, mem_filter, mem_singleton, beq_iff_eq]
 exact ⟨fun h => h.2, fun h => ⟨hs, h⟩⟩
theorem qw8 (signs : List Nat) (c : Nat) : R6 signs (W5 c) = some (signs.filter fun s => s == c) := by
 unfold W5
 split
 ·unfold R6
  rw [if_neg (by intro e; cases e), if_neg (by intro e; cases e)]
  dsimp only
  rw [if_neg (by decide), if_pos rfl]
 rename_i h
 have no : ∀ k, spc.contains k = true → ¬ c = k := fun k hk e => h (e ▸ hk)
 unfold R6
 rw [if_neg (by intro e; cases e), if_neg (by intro e; injection e with e _; exact no 46 (by decide) e)]
 dsimp only
 rw [if_neg (no 91 (by decide)), if_neg (no 92 (by decide)), if_pos ⟨rfl, no 40 (by decide), no 46 (by decide), no 41 (by decide)⟩]
theorem qf9 (c : Nat) : (W5 c).length ≤ 40 ∧ W5 c ≠ [] ∧ (W5 c).head? ≠ some 42 := by
 unfold W5
 split
 ·exact ⟨le_of_ble_eq_true rfl, by simp, by simp⟩
 rename_i h
 exact ⟨le_of_ble_eq_true rfl, by simp, fun e => h (by injection e with e; rw [e]; decide)⟩
theorem z38 {signs : List Nat} {c : Nat} (h1 : c ≠ 42) (h2 : c ≠ 63) (h3 : c ≠ 91) : Seg signs [c] [W5 c] [signs.filter fun s => s == c] fun _ => True :=
 .one (fun k rest res _ => qg2 (by unfold T4; dsimp only; rw [if_neg h3, if_pos ⟨rfl, h1, h2⟩]) k rest res) (qw8 signs c) (qf9 c).2.2 (qf9 c).1 (qf9 c).2.1
theorem z39 {signs : List Nat} : Seg signs [91] [W5 91] [signs.filter fun s => s == 91] fun rest => rest = [] :=
 .one (fun k rest res h => by subst h; exact qa7 k 91 [] res) (qw8 signs 91) (qf9 91).2.2 (qf9 91).1 (qf9 91).2.1
theorem z82 {signs : List Nat} : Seg signs [63] [[46]] [signs] fun _ => True :=
 .one (fun k rest res _ => qa7 k 63 rest res) (by unfold R6; rw [if_neg (by decide), if_pos rfl]) (by decide) (by decide) (by decide)
theorem qn1 {signs o : List Nat} {c : Nat} (ho : T4 [91, c, 93] = some o) (hs : R6 signs o = some (signs.filter fun s => ((sel signs c c).any fun c => c == s) != false)) (hh : o.head? ≠ some 42) (hl : o.length ≤ 40) (hn : o ≠ []) :
  ∃ os es, Seg signs [91, c, 93] os es (fun _ => True) ∧ Same signs es [[c]] := by
 refine ⟨[o], [_], .one (fun k rest res _ => qg2 ho k rest res) hs hh hl hn, Same.one fun s hm => ?_⟩
 rw [Bool.eq_iff_iff, contains_iff_mem, contains_iff_mem, mem_filter, mem_singleton, Bool.bne_false, any_eq_true]
 constructor
 ·rintro ⟨_, x, hx, e⟩
  have h := (mem_filter.mp hx).2
  simp only [or_eq_true, and_eq_true, decide_eq_true_eq] at h
  have := eq_of_beq e
  lia
 rintro rfl
 refine ⟨hm, s, mem_filter.mpr ⟨hm, ?_⟩, beq_self_eq_true _⟩
 simp
theorem qr2 (f : Int) (signs marks : List Nat) (h42 : marks.contains 42 = true) (h63 : marks.contains 63 = true) (hm : ∀ c, marks.contains c = true → c = 42 ∨ c = 63 ∨ c = 91) :
  ∃ os es, Seg signs (edgeT f signs marks) os es (fun rest => marks.contains 91 = true ∨ rest = []) ∧ Same signs es (edgeS f signs) := by
 unfold edgeT edgeS
 have wk : ∀ {p : List Nat} {os es : List (List Nat)}, Seg signs p os es (fun _ => True) → Seg signs p os es (fun rest => marks.contains 91 = true ∨ rest = []) := fun S => ⟨fun k rest res _ => S.tr k rest res trivial, S.rd, S.hd, S.ln, S.eq⟩
 split
 ·exact ⟨[], [], Seg.nil _ _, Same.nil _⟩
 split
 ·exact ⟨_, _, wk z82, Same.one fun _ _ => rfl⟩
 generalize signs.getD (f.fmod 5 - 1).toNat 0 = c
 split
 ·rename_i h
  obtain ⟨os, es, S, T⟩ : ∃ os es, Seg signs [91, c, 93] os es (fun _ => True) ∧ Same signs es [[c]] := by
   rcases hm c h with rfl | rfl | rfl
   ·exact qn1 (o := [91, 42, 93]) (by decide +kernel) (by rfl) (by decide) (by decide) (by decide)
   ·exact qn1 (o := [91, 63, 93]) (by decide +kernel) (by rfl) (by decide) (by decide) (by decide)
   exact qn1 (o := [91, 92, 91, 93]) (by decide +kernel) (by rfl) (by decide) (by decide) (by decide)
  exact ⟨os, es, wk S, T⟩
 rename_i h
 by_cases h91 : c = 91
 ·subst h91
  have S := z39 (signs := signs)
  refine ⟨_, _, ⟨fun k rest res hc => ?_, S.rd, S.hd, S.ln, S.eq⟩, Same.one (qf8 signs 91)⟩
  rcases hc with hc | hc
  ·exact absurd hc h
  exact S.tr k rest res hc
 exact ⟨_, _, wk (z38 (fun e => h (e ▸ h42)) (fun e => h (e ▸ h63)) h91), Same.one (qf8 signs c)⟩
theorem q34 : ∀ l : List (List Nat), jn [] l = l.flatten
 | [] => rfl
 | [a] => by show a = a ++ []; rw [append_nil]
 | a :: b :: r => by
  show a ++ [] ++ jn [] (b :: r) = a ++ (b :: r).flatten
  rw [q34 (b :: r), append_nil]
theorem q47 (l : List (List Nat)) (r : List Part) (hr : r = [] ∨ r.head? = some none) : runN (l.map some ++ r) = l.length := by
 unfold runN
 induction l with
 | nil =>
  cases r with
  | nil => rfl
  | cons a r =>
   rcases hr with h | h
   ·cases h
   simp only [List.head?_cons, Option.some.injEq] at h
   subst h; rfl
 | cons a l ih =>
  show ((some a :: (l.map some ++ r)).takeWhile _).length = _
  rw [takeWhile_cons]
  show ((some a) :: (l.map some ++ r).takeWhile _).length = _
  rw [length_cons, ih]; rfl
theorem q45 (l : List (List Nat)) : txts (l.map some) = l := by
 unfold txts
 rw [map_map]
 exact List.map_id' l
theorem z52 (a b : List (List Nat)) : joinR (a.map some ++ none :: b.map some) = some ([40, 63, 115, 58] ++ (a.flatten ++ ([46, 42] ++ b.flatten)) ++ [41, 92, 90]) := by
 have hn := q47 a (none :: b.map some) (.inr rfl)
 have hb := q47 b [] (.inl rfl)
 rw [append_nil] at hb
 have hl : a.length = (a.map (some (α := List Nat))).length := (length_map ..).symm
 unfold joinR
 rw [hn]
 have h1 : (a.map some ++ none :: b.map some).drop a.length = none :: b.map some := by rw [hl, drop_left]
 have h2 : (a.map some ++ none :: b.map some).take a.length = a.map some := by rw [hl, take_left]
 rw [h1, h2, q45]
 have h3 : ∃ k, (a.map some ++ none :: b.map some).length + 1 = k + 1 := ⟨_, rfl⟩
 obtain ⟨k, hk⟩ := h3
 rw [hk]
 unfold loopR
 dsimp only
 cases b with
 | nil =>
  rw [map_nil, if_pos rfl]
  show some _ = _
  dsimp only
  rw [q34, flatten_append]
  show some ([40, 63, 115, 58] ++ (a.flatten ++ ([46, 42] ++ [])) ++ [41, 92, 90]) = _
  rfl
 | cons c b =>
  rw [if_neg (by simp), hb, if_neg (by simp), drop_of_length_le (by rw [length_map]; exact Nat.le_refl _), if_pos rfl, take_of_length_le (by rw [length_map]; exact Nat.le_refl _), q45]
  show some _ = _
  dsimp only
  rw [q34, q34, flatten_append]
  show some ([40, 63, 115, 58] ++ (a.flatten ++ ([46, 42] ++ ((c :: b).flatten ++ []))) ++ [41, 92, 90]) = _
  rw [append_nil]
theorem z51 (a c b : List (List Nat)) (hc : c ≠ []) : joinR (a.map some ++ none :: (c.map some ++ none :: b.map some)) = some ([40, 63, 115, 58] ++ (a.flatten ++ ([40, 63, 62, 46, 42, 63] ++ (c.flatten ++ ([41] ++ ([46, 42] ++ b.flatten))))) ++ [41, 92, 90]) := by
 have hn := q47 a (none :: (c.map some ++ none :: b.map some)) (.inr rfl)
 have hcn := q47 c (none :: b.map some) (.inr rfl)
 have hb := q47 b [] (.inl rfl)
 rw [append_nil] at hb
 have hl : a.length = (a.map (some (α := List Nat))).length := (length_map ..).symm
 have hl2 : c.length = (c.map (some (α := List Nat))).length := (length_map ..).symm
 unfold joinR
 rw [hn]
 have h1 : (a.map some ++ none :: (c.map some ++ none :: b.map some)).drop a.length = none :: (c.map some ++ none :: b.map some) := by rw [hl, drop_left]
 have h2 : (a.map some ++ none :: (c.map some ++ none :: b.map some)).take a.length = a.map some := by rw [hl, take_left]
 rw [h1, h2, q45]
 have h3 : ∃ k, (a.map some ++ none :: (c.map some ++ none :: b.map some)).length + 1 = k + 2 := ⟨a.length + (c.length + b.length + 1), by simp; lia⟩
 obtain ⟨k, hk⟩ := h3
 rw [hk]
 unfold loopR
 dsimp only
 have h4 : (c.map some ++ none :: b.map some).drop c.length = none :: b.map some := by rw [hl2, drop_left]
 have h5 : (c.map some ++ none :: b.map some).take c.length = c.map some := by rw [hl2, take_left]
 rw [if_neg (by simp), hcn, if_neg (fun e => hc (length_eq_zero_iff.mp e)), h4, if_neg (by simp), h5, q45]
 unfold loopR
 dsimp only
 cases b with
 | nil =>
  rw [map_nil, if_pos rfl]
  show some _ = _
  dsimp only
  rw [q34, q34, flatten_append, flatten_append]
  simp
 | cons x b =>
  rw [if_neg (by simp), hb, if_neg (by simp), drop_of_length_le (by rw [length_map]; exact Nat.le_refl _), if_pos rfl, take_of_length_le (by rw [length_map]; exact Nat.le_refl _), q45]
  show some _ = _
  dsimp only
  rw [q34, q34, q34, flatten_append, flatten_append]
  simp
theorem qr5 {α : Type} (m : List α) (a b c : α) (p : List α) : cut (some (-3)) none (p ++ m ++ [a, b, c]) = [a, b, c] := by
 unfold cut lowAt q61
 show ((p ++ m ++ [a, b, c]).drop (clipAt (p ++ m ++ [a, b, c]).length (-3))).take ((p ++ m ++ [a, b, c]).length - clipAt (p ++ m ++ [a, b, c]).length (-3)) = _
 have hl : (p ++ m ++ [a, b, c]).length = (p ++ m).length + 3 := by rw [length_append (as := p ++ m)]; rfl
 have : clipAt (p ++ m ++ [a, b, c]).length (-3) = (p ++ m).length := (qi3 _ 2).trans (by rw [hl]; rfl)
 rw [this, drop_left, hl]
 rw [take_of_length_le (by simp)]
theorem z16 {α : Type} (m : List α) (a b c d x y z : α) : cut (some 4) (some (-3)) ([a, b, c, d] ++ m ++ [x, y, z]) = m := by
 unfold cut lowAt q61
 show (([a, b, c, d] ++ m ++ [x, y, z]).drop (clipAt ([a, b, c, d] ++ m ++ [x, y, z]).length 4)).take (clipAt ([a, b, c, d] ++ m ++ [x, y, z]).length (-3) - clipAt ([a, b, c, d] ++ m ++ [x, y, z]).length 4) = m
 have hl : ([a, b, c, d] ++ m ++ [x, y, z]).length = m.length + 7 := by simp
 have h1 : clipAt ([a, b, c, d] ++ m ++ [x, y, z]).length 4 = 4 := (qb3 _ 4).trans (by rw [hl]; exact Nat.min_eq_left (Nat.le_trans (by decide) (le_add_left 7 _)))
 have h2 : clipAt ([a, b, c, d] ++ m ++ [x, y, z]).length (-3) = m.length + 4 := (qi3 _ 2).trans (by rw [hl]; rfl)
 rw [h1, h2]
 show (m ++ [x, y, z]).take (m.length + 4 - 4) = m
 rw [Nat.add_sub_cancel, take_left]
theorem q96 : ∀ l : List (List Nat), (∀ x ∈ l, x.length ≤ 40) → l.flatten.length ≤ 40 * l.length
 | [], _ => Nat.le_refl _
 | a :: l, h => by
  rw [List.flatten_cons, length_append, length_cons]
  have := q96 l fun x m => h x (.tail _ m)
  have := h a (.head _)
  lia
theorem q90 : ∀ l : List (List Nat), (∀ x ∈ l, x.length ≤ 40) → wt (l.map some) ≤ 50 * l.length
 | [], _ => Nat.le_refl _
 | a :: l, h => by
  rw [map_cons, q62, length_cons]
  have := q90 l fun x m => h x (.tail _ m)
  have := h a (.head _)
  show a.length + 10 + _ ≤ _
  lia
theorem cut_4 (m : List Nat) : cut none (some 4) ([40, 63, 115, 58] ++ m ++ [41, 92, 90]) = [40, 63, 115, 58] := by
 have : cut (none : Option Int) (some 4) ([40, 63, 115, 58] ++ m ++ [41, 92, 90]) = cut (some ((0 : Nat) : Int)) (some ((4 : Nat) : Int)) ([40, 63, 115, 58] ++ m ++ [41, 92, 90]) := rfl
 rw [this, q54, append_assoc]; rfl
theorem qw6 (l : List (List Nat)) (r : List Part) (h : l ≠ []) : (r ++ l.map some).getLast? ≠ some none := by
 rcases List.eq_nil_or_concat l with e | ⟨l0, x, e⟩
 ·exact absurd e h
 subst e
 intro q
 simp at q
theorem qf2 (l : List (List Nat)) : (([] : List Part) ++ l.map some).getLast? ≠ some none := by
 rw [nil_append]
 intro e
 obtain ⟨x, _, q⟩ := mem_map.mp (List.mem_of_getLast? e)
 cases q
section
variable {signs pa pn pk pb : List Nat} {oa on ok ob ea en ek eb : List (List Nat)} {C : List Nat → Prop}
theorem qv8 (A : Seg signs pa oa ea fun _ => True) (B : Seg signs pb ob eb C) (hC : C []) (h1 : oa.length ≤ 20) (h4 : ob.length ≤ 20) :
  ∃ kk parts txt k2, trR kk (pa ++ ([42] ++ pb)) [] = some parts ∧ wt parts ≤ 2 ^ 20 ∧ joinR parts = some txt ∧ txt.length ≤ 2 ^ 16 ∧ cut none (some 4) txt ++ cut (some (-3)) none txt = cs "(?s:)\\Z" ∧
   q15 signs k2 (cut (some 4) (some (-3)) txt) [] (cs "here") [] = some [(cs "here", ea), (cs "any", eb)] := by
 have t1 := A.tr (1 + ob.length + 1) ([42] ++ pb) [] trivial
 have t2 := B.tr 1 [] ([] ++ oa.map some ++ [none]) hC
 rw [append_nil] at t2
 rw [qm8 _ _ _ (qf2 oa), t2] at t1
 have r1 := A.rd (1 + eb.length + 1) ([46, 42] ++ (ob.flatten ++ [])) [] (cs "here") [] (by simp)
 have r2 := B.rd 1 [] ([] ++ [(cs "here", [] ++ ea)]) (cs "any") [] (by simp)
 rw [q27 (by simp) (qj9 _ _ _), r2, append_nil] at r1
 have f1 := q96 oa A.ln
 have f4 := q96 ob B.ln
 refine ⟨1 + ob.length + 1 + oa.length, oa.map some ++ none :: ob.map some, _, 1 + eb.length + 1 + ea.length, ?_, ?_, z52 _ _, ?_, ?_, ?_⟩
 ·rw [t1]
  show some _ = some _
  simp
 ·rw [qi8, q62]
  have := q90 oa A.ln
  have := q90 ob B.ln
  show _ + (0 + 10 + _) ≤ _
  lia
 ·rw [length_append, length_append, length_append, length_append]; show 4 + (_ + (2 + _)) + 3 ≤ _; lia
 ·rw [cut_4, qr5]; rfl
 rw [z16, r1, q64, if_pos rfl]; rfl
theorem qv9 (A : Seg signs pa oa ea fun _ => True) (K : Seg signs pk ok ek fun _ => True) (B : Seg signs pb ob eb C) (hC : C []) (hk : ok ≠ []) (h1 : oa.length ≤ 20) (h2 : ok.length ≤ 20) (h4 : ob.length ≤ 20) :
  ∃ kk parts txt k2, trR kk (pa ++ ([42] ++ (pk ++ ([42] ++ pb)))) [] = some parts ∧ wt parts ≤ 2 ^ 20 ∧ joinR parts = some txt ∧ txt.length ≤ 2 ^ 16 ∧ cut none (some 4) txt ++ cut (some (-3)) none txt = cs "(?s:)\\Z" ∧
   q15 signs k2 (cut (some 4) (some (-3)) txt) [] (cs "here") [] = some [(cs "here", ea), (cs "first", ek), (cs "here", []), (cs "any", eb)] := by
 have t1 := A.tr (1 + ob.length + 1 + ok.length + 1) ([42] ++ (pk ++ ([42] ++ pb))) [] trivial
 have t2 := K.tr (1 + ob.length + 1) ([42] ++ pb) ([] ++ oa.map some ++ [none]) trivial
 have t3 := B.tr 1 [] ([] ++ oa.map some ++ [none] ++ ok.map some ++ [none]) hC
 rw [append_nil] at t3
 rw [qm8 _ _ _ (qf2 oa), t2, qm8 _ _ _ (qw6 ok _ hk), t3] at t1
 have r1 := A.rd (1 + eb.length + 1 + 1 + ek.length + 1) ([40, 63, 62, 46, 42, 63] ++ (ok.flatten ++ ([41] ++ ([46, 42] ++ (ob.flatten ++ []))))) [] (cs "here") [] (by simp)
 have r2 := K.rd (1 + eb.length + 1 + 1) ([41] ++ ([46, 42] ++ (ob.flatten ++ []))) ([] ++ [(cs "here", [] ++ ea)]) (cs "first") [] (by simp)
 have r3 := B.rd 1 [] ([] ++ [(cs "here", [] ++ ea)] ++ [(cs "first", [] ++ ek)] ++ [(cs "here", [])]) (cs "any") [] (by simp)
 rw [q27 (by simp) (qt7 _ _ _), r2, q27 (by simp) (qx3 _ _ _), q27 (by simp) (qj9 _ _ _), r3, append_nil] at r1
 have f1 := q96 oa A.ln
 have f2 := q96 ok K.ln
 have f4 := q96 ob B.ln
 refine ⟨1 + ob.length + 1 + ok.length + 1 + oa.length, oa.map some ++ none :: (ok.map some ++ none :: ob.map some), _, 1 + eb.length + 1 + 1 + ek.length + 1 + ea.length, ?_, ?_, z51 _ _ _ hk, ?_, ?_, ?_⟩
 ·rw [t1]
  show some _ = some _
  simp
 ·rw [qi8, q62, qi8, q62]
  have := q90 oa A.ln
  have := q90 ok K.ln
  have := q90 ob B.ln
  show _ + (0 + 10 + (_ + (0 + 10 + _))) ≤ _
  lia
 ·rw [length_append, length_append, length_append, length_append, length_append, length_append, length_append]; show 4 + (_ + (6 + (_ + (1 + (2 + _))))) + 3 ≤ _; lia
 ·rw [cut_4, qr5]; rfl
 rw [z16, r1, q64, if_pos rfl]; rfl
end
noncomputable def pre : List (List Nat) → List Nat → Bool
 | [], _ => true
 | _ :: _, [] => false
 | s :: ss, c :: n => s.contains c && pre ss n
theorem qx6 : ∀ (ss : List (List Nat)) (n : List Nat), pre ss n = true → ss.length ≤ n.length
 | [], _, _ => zero_le _
 | _ :: _, [], h => by cases h
 | s :: ss, c :: n, h => by
  unfold pre at h
  rw [and_eq_true] at h
  exact succ_le_succ (qx6 ss n h.2)
theorem qc3 : ∀ (a b : List (List Nat)) (n : List Nat), pre (a ++ b) n = (pre a n && pre b (n.drop a.length))
 | [], _, _ => by simp [pre]
 | s :: a, b, [] => rfl
 | s :: a, b, c :: n => by
  show (s.contains c && pre (a ++ b) n) = ((s.contains c && pre a n) && pre b (n.drop a.length))
  rw [qc3 a b n, Bool.and_assoc]
theorem qk0 {signs : List Nat} : ∀ (a b : List (List Nat)) (n : List Nat), (∀ c ∈ n, c ∈ signs) → a.length = b.length → (∀ k, ∀ c ∈ signs, (a.getD k []).contains c = (b.getD k []).contains c) → pre a n = pre b n
 | [], [], _, _, _, _ => rfl
 | [], _ :: _, _, _, h, _ => by cases h
 | _ :: _, [], _, _, h, _ => by cases h
 | _ :: _, _ :: _, [], _, _, _ => rfl
 | s :: a, t :: b, c :: n, hc, h, hk => by
  show (s.contains c && pre a n) = (t.contains c && pre b n)
  have h0 := hk 0 c (hc c (.head _))
  rw [show s.contains c = t.contains c from h0, qk0 a b n (fun d m => hc d (.tail _ m)) (Nat.succ.inj h) fun k => hk (k + 1)]
theorem z28 (e : List Nat) (a : Nat) : (e.any fun c => c == a) = e.contains a := by
 rw [Bool.eq_iff_iff, any_eq_true, contains_iff_mem]
 constructor
 ·rintro ⟨c, h, q⟩
  rw [← eq_of_beq q]; exact h
 intro h; exact ⟨a, h, beq_self_eq_true _⟩
theorem qi7 (e : List Nat) (a : Nat) : (e.any fun c => [c] == [a]) = e.contains a := by
 rw [← z28]
 congr 1
 funext c
 by_cases h : c = a
 ·subst h; simp
 have h1 : (([c] : List Nat) == [a]) = false := by simp [h]
 have h2 : (c == a) = false := by simp [h]
 rw [h1, h2]
theorem qy8 : ∀ (row : List (List Nat)) (n : List Nat), row.length = n.length → (misT n row).isEmpty = pre row n
 | [], [], _ => rfl
 | [], _ :: _, h => by cases h
 | _ :: _, [], h => by cases h
 | s :: row, c :: n, h => by
  have ih := qy8 row n (Nat.succ.inj h)
  unfold misT at ih ⊢
  rw [zip_cons_cons, filter_cons, z28]
  show _ = (s.contains c && pre row n)
  cases s.contains c with
  | true => exact ih
  | false => rfl
theorem qn3 : ∀ (ss : List (List Nat)) (n : List Nat), pre ss n = true ↔ ss.length ≤ n.length ∧ ∀ k, k < ss.length → (ss.getD k []).contains (n.getD k 0) = true
 | [], n => by simp [pre]
 | s :: ss, [] => by simp [pre]
 | s :: ss, c :: n => by
  show (s.contains c && pre ss n) = true ↔ _
  rw [and_eq_true, qn3 ss n]
  constructor
  ·rintro ⟨h0, h1, h2⟩
   refine ⟨succ_le_succ h1, fun k hk => ?_⟩
   match k with
   | 0 => exact h0
   | k + 1 => exact h2 k (Nat.lt_of_succ_lt_succ hk)
  rintro ⟨h1, h2⟩
  exact ⟨h2 0 (Nat.zero_lt_succ _), Nat.le_of_succ_le_succ h1, fun k hk => h2 (k + 1) (Nat.succ_lt_succ hk)⟩
theorem qg8 : ∀ (ss : List (List Nat)) (n : List Nat), pre ss (n.take ss.length) = pre ss n
 | [], _ => rfl
 | _ :: _, [] => rfl
 | s :: ss, c :: n => by
  show (s.contains c && pre ss (n.take ss.length)) = (s.contains c && pre ss n)
  rw [qg8 ss n]
theorem q83 (n : List Nat) (i k : Nat) : (n.drop i).getD k 0 = n.getD (i + k) 0 := by
 rw [getD_eq_getElem?_getD, getD_eq_getElem?_getD, getElem?_drop]
theorem qb0 {signs : List Nat} {es ss : List (List Nat)} (h : Same signs es ss) {n : List Nat} (hn : ∀ c ∈ n, c ∈ signs) : pre es n = pre ss n := qk0 es ss n hn h.1 h.2
theorem subI {h l : Nat} (a : l ≤ h) : (h : Int) - (l : Int) = ((h - l : Nat) : Int) := (Int.ofNat_sub a).symm
theorem qc1 (a b : Nat) : rngL (a : Int) (b : Int) = (List.range' a (b - a)).map fun k : Nat => (k : Int) := by
 unfold rngL
 rw [toNat_sub, List.range'_eq_map_range, map_map]
 rfl
theorem z85 {a b : Int} (h : b ≤ a) : rngL a b = [] := by
 unfold rngL
 rw [Int.toNat_of_nonpos (Int.sub_nonpos_of_le h)]; rfl
theorem qz0 {a b q : Nat} (h : q ∈ List.range' a (b - a)) : a ≤ q ∧ q < b := by
 have := mem_range'_1.mp h
 refine ⟨this.1, ?_⟩
 rcases Nat.le_total a b with q | q
 ·exact Nat.add_sub_cancel' q ▸ this.2
 rw [Nat.sub_eq_zero_of_le q] at this
 exact absurd this.2 (Nat.not_lt.mpr this.1)
theorem q82 (n : List Nat) (i : Nat) (ss : List (List Nat)) : fitsR n ss (i : Int) = (decide (i + ss.length ≤ n.length) && pre ss (n.drop i)) := by
 unfold fitsR missR
 rw [decide_eq_decide.mpr (Int.add_le_iff_le_sub.symm.trans ofNat_le : (i : Int) ≤ (n.length : Int) - (ss.length : Int) ↔ i + ss.length ≤ n.length), Bool.and_true]
 by_cases h : i + ss.length ≤ n.length
 ·rw [decide_eq_true h, Bool.true_and, Bool.true_and, Bool.eq_iff_iff, qn3, List.isEmpty_iff, List.filter_eq_nil_iff, length_drop]
  constructor
  ·intro h2
   refine ⟨Nat.le_sub_of_add_le' h, fun k hk => ?_⟩
   have := h2 (k : Int) (by
    rw [show (0 : Int) = ((0 : Nat) : Int) from rfl, qc1]
    exact mem_map.mpr ⟨k, mem_range'_1.mpr ⟨zero_le _, (Nat.zero_add _).symm ▸ hk⟩, rfl⟩)
   rw [toNat_natCast, show ((i : Int) + (k : Int)).toNat = i + k from rfl, qi7] at this
   rw [q83]
   cases q : (ss.getD k []).contains (n.getD (i + k) 0) with
   | true => rfl
   | false => exact absurd (by rw [q]; rfl) this
  rintro ⟨_, h3⟩ k hk
  rw [show (0 : Int) = ((0 : Nat) : Int) from rfl, qc1] at hk
  obtain ⟨m, hm, rfl⟩ := mem_map.mp hk
  have := h3 m (qz0 hm).2
  rw [q83] at this
  rw [toNat_natCast, show ((i : Int) + (m : Int)).toNat = i + m from rfl, qi7, this]
  exact Bool.noConfusion
 rw [decide_eq_false h]; rfl
noncomputable def fstN (T : Nat → Bool) (a b : Nat) : List Nat := (List.range' a (b - a)).filter T
inductive Fst (T : Nat → Bool) (a b : Nat) : List Nat → Prop
 | no : (∀ q, a ≤ q → q < b → T q = false) → Fst T a b []
 | yes {p : Nat} {l : List Nat} : a ≤ p → p < b → T p = true → (∀ q, a ≤ q → q < p → T q = false) → Fst T a b (p :: l)
theorem ql0 (T : Nat → Bool) : ∀ (m a b : Nat), b - a = m → Fst T a b (fstN T a b)
 | 0, a, b, h => by
  unfold fstN
  rw [h]
  exact .no fun q h1 h2 => absurd (lt_of_le_of_lt h1 h2) (Nat.not_lt.mpr (Nat.le_of_sub_eq_zero h))
 | m + 1, a, b, h => by
  have h' : b - (a + 1) = m := (Nat.sub_add_eq b a 1).trans (congrArg (· - 1) h)
  have ih := ql0 T m (a + 1) b h'
  unfold fstN at ih ⊢
  rw [h'] at ih
  rw [h, List.range'_succ, filter_cons]
  generalize (List.range' (a + 1) m).filter T = l at ih ⊢
  cases ht : T a with
  | true => exact .yes (Nat.le_refl _) (Nat.lt_of_sub_eq_succ h) ht fun q h1 h2 => absurd h1 (Nat.not_le.mpr h2)
  | false =>
   have st : ∀ q, a ≤ q → a = q ∨ a + 1 ≤ q := fun q hq => Nat.eq_or_lt_of_le hq
   cases ih with
   | no h => exact .no fun q h1 h2 => (st q h1).elim (fun e => e ▸ ht) fun h3 => h q h3 h2
   | yes h1 h2 h3 h4 => exact .yes (Nat.le_of_succ_le h1) h2 h3 fun q h5 h6 => (st q h5).elim (fun e => e ▸ ht) fun h7 => h4 q h7 h6
theorem qj3 (name : List Nat) (X : List (List Nat)) : turnR name [0] (cs "here", X) = if pre X name then [(X.length : Int)] else [] := by
 have h := q82 name 0 X
 rw [Nat.zero_add, drop_zero] at h
 unfold turnR q20 q43
 dsimp only
 rw [if_neg (by decide), if_neg (by decide)]
 show ((List.filter (fitsR name X) [((0 : Nat) : Int)]).map _) = _
 cases q : pre X name with
 | true =>
  rw [q, decide_eq_true (qx6 _ _ q)] at h
  rw [List.filter_cons_of_pos h]; show [(0 : Int) + _] = _; rw [Int.zero_add]; rfl
 | false =>
  rw [q, Bool.and_false] at h
  rw [List.filter_cons_of_neg (Bool.eq_false_iff.mp h)]; rfl
theorem q55 (name : List Nat) (s : List Nat × List (List Nat)) : turnR name [] s = [] := by
 unfold turnR q20 goOn
 rw [show ([] : List Int).isEmpty = true from rfl]
 simp only [Bool.not_true, Bool.false_and, Bool.and_false, false_eq_true, if_false, List.filter_nil]
 unfold q43
 split <;> rfl
theorem qq2 (name : List Nat) (p : Nat) (B : List (List Nat)) : ((turnR name [(p : Int)] (cs "any", B)).any fun q => q == (name.length : Int)) = (decide (p + B.length ≤ name.length) && pre B (name.drop (name.length - B.length))) := by
 unfold turnR q20 q43
 dsimp only
 rw [if_neg (by decide), if_pos (by rfl)]
 by_cases h : p + B.length ≤ name.length
 ·have hb := Nat.le_trans (le_add_left ..) h
  rw [decide_eq_true h, subI hb, Bool.true_and]
  show (((rngL (p : Int) ((name.length - B.length + 1 : Nat) : Int)).filter (fitsR name B)).map _).any _ = _
  rw [qc1, Bool.eq_iff_iff, any_eq_true]
  constructor
  ·rintro ⟨x, hx, e⟩
   obtain ⟨q, hq, rfl⟩ := mem_map.mp hx
   obtain ⟨h1, h2⟩ := mem_filter.mp hq
   obtain ⟨m, hm, rfl⟩ := mem_map.mp h1
   rw [q82] at h2
   have e : m + B.length = name.length := Int.ofNat.inj (eq_of_beq e)
   rw [← Nat.eq_sub_of_add_eq e]
   exact (and_eq_true_iff.mp h2).2
  intro hp
  have hle := Nat.le_sub_of_add_le h
  refine ⟨(name.length : Int), mem_map.mpr ⟨((name.length - B.length : Nat) : Int), mem_filter.mpr ⟨mem_map.mpr ⟨name.length - B.length, mem_range'_1.mpr ⟨hle, ?_⟩, rfl⟩, ?_⟩, ?_⟩, beq_self_eq_true _⟩
  ·rw [Nat.add_sub_cancel' (le_succ_of_le hle)]; exact lt_succ_self _
  ·rw [q82, hp, Nat.sub_add_cancel hb, decide_eq_true (Nat.le_refl _)]; rfl
  rw [← subI hb, Int.sub_add_cancel]
 rw [decide_eq_false h]
 show (((rngL (p : Int) _).filter (fitsR name B)).map _).any _ = _
 rw [z85 (Int.add_one_le_of_lt (Int.sub_left_lt_of_lt_add (by rw [← Int.natCast_add, Nat.add_comm]; exact Int.ofNat_lt.mpr (Nat.not_le.mp h))))]; rfl
noncomputable def hasAt (name kind : List Nat) (p : Nat) : Bool := kind.contains (name.getD p 0)
theorem z02 {name signs : List Nat} (hn : ∀ c ∈ name, c ∈ signs) {p : Nat} (h : p < name.length) : name.getD p 0 ∈ signs := by
 rw [getD_eq_getElem?_getD, List.getElem?_eq_getElem h]
 exact hn _ (List.getElem_mem h)
theorem z65 {name : List Nat} (K : List Nat) {q : Nat} (h : q < name.length) : pre [K] (name.drop q) = hasAt name K q := by
 unfold hasAt
 rw [drop_eq_getElem_cons h, getD_eq_getElem?_getD, List.getElem?_eq_getElem h]
 exact Bool.and_true _
theorem cut_1 (l : List Int) : cut none (some 1) l = l.take 1 := by
 have : cut (none : Option Int) (some 1) l = cut (some ((0 : Nat) : Int)) (some ((1 : Nat) : Int)) l := rfl
 rw [this, q54, drop_zero]
theorem qs8 {signs name kind K : List Nat} (hn : ∀ c ∈ name, c ∈ signs) (hK : ∀ c ∈ signs, K.contains c = kind.contains c) (p : Nat) :
  turnR name [(p : Int)] (cs "first", [K]) = ((fstN (hasAt name kind) p name.length).take 1).map fun q => ((q + 1 : Nat) : Int) := by
 unfold turnR q20 q43
 dsimp only
 rw [if_pos (by rfl), if_pos (by rfl), cut_1]
 show (((rngL (p : Int) ((name.length : Int) - 1 + 1)).filter _).take 1).map _ = _
 rw [Int.sub_add_cancel, qc1, filter_map, ← map_take, map_map]
 unfold fstN
 rw [filter_congr (q := hasAt name kind) fun q hq => ?_]
 ·rfl
 have hm := (qz0 hq).2
 show fitsR name [K] (q : Int) = _
 rw [q82, z65 K hm, decide_eq_true (show q + [K].length ≤ name.length from hm)]
 exact hK _ (z02 hn hm)
theorem qw0 (name : List Nat) (p : Nat) (h : p ≤ name.length) : turnR name [(p : Int)] (cs "here", []) = [(p : Int)] := by
 have hf := q82 name p []
 rw [show p + ([] : List (List Nat)).length = p from rfl, decide_eq_true h, Bool.true_and] at hf
 unfold turnR q20 q43
 dsimp only
 rw [if_neg (by decide), if_neg (by rw [show goOn (cs "here") [(p : Int)] = false from rfl]; decide), List.filter_cons_of_pos hf]
 show [(p : Int) + 0] = _
 rw [Int.add_zero]
theorem z41 (a b : List (List Nat)) (x y : List Nat) (h : a.length = x.length) : pre (a ++ b) (x ++ y) = (pre a x && pre b y) := by
 rw [qc3]
 congr 1
 ·have := qg8 a (x ++ y)
  rw [h, take_left] at this
  exact this.symm
 rw [h, drop_left]
theorem zd5 (n : Nat) (l : List Nat) : cut none (some (n : Int)) l = l.take n := by
 have : cut (none : Option Int) (some (n : Int)) l = cut (some ((0 : Nat) : Int)) (some (n : Int)) l := rfl
 rw [this, q54, drop_zero]
theorem qr3 {name : List Nat} {front back : List (List Nat)} (h : front.length + back.length ≤ name.length) : (misT (edgeN name front ((name.length : Int) - (back.length : Int))) (front ++ back)).isEmpty = (pre front name && pre back (name.drop (name.length - back.length))) := by
 have hb := Nat.le_trans (le_add_left ..) h
 have hl : (name.take front.length).length = front.length := List.length_take_of_le (Nat.le_trans (le_add_right ..) h)
 unfold edgeN
 rw [subI hb, q31, zd5, qy8, z41 _ _ _ _ hl.symm, qg8]
 rw [length_append, length_append, hl, length_drop, Nat.sub_sub_self hb]
noncomputable def good (name : List Nat) (front back : List (List Nat)) : Bool := decide (front.length + back.length ≤ name.length) && (pre front name && pre back (name.drop (name.length - back.length)))
theorem sub_lt {f b L : Nat} : (L : Int) - (b : Int) < (f : Int) ↔ ¬ f + b ≤ L :=
 Int.not_le.symm.trans (not_congr (Int.add_le_iff_le_sub.symm.trans ofNat_le))
theorem qr0 {name : List Nat} {front back : List (List Nat)} {kind : List Nat} (h : good name front back = false) : q17 name front back kind = -1 := by
 unfold q17
 unfold good at h
 by_cases hle : front.length + back.length ≤ name.length
 ·rw [decide_eq_true hle, Bool.true_and] at h
  rw [if_neg (fun q => sub_lt.mp q hle), qr3 hle, if_pos h]
 rw [if_pos (sub_lt.mpr hle)]
theorem ql2 {name : List Nat} {front back : List (List Nat)} {kind : List Nat} (h : good name front back = true) : q17 name front back kind = match fstN (hasAt name kind) front.length (name.length - back.length) with
  | [] => -1
  | p :: _ => (p : Int) - (front.length : Int) := by
 unfold good at h
 obtain ⟨h1, h2⟩ := and_eq_true_iff.mp h
 have hle := of_decide_eq_true h1
 have e : q22 name kind (front.length : Int) ((name.length : Int) - (back.length : Int)) = (fstN (hasAt name kind) front.length (name.length - back.length)).map fun k : Nat => (k : Int) := by
  unfold q22 fstN
  rw [subI (Nat.le_trans (le_add_left ..) hle), qc1, filter_map]
  congr 1
  exact filter_congr fun q _ => qi7 kind _
 unfold q17
 rw [if_neg (fun q => sub_lt.mp q hle), qr3 hle, h2, if_neg (by decide), e]
 cases fstN (hasAt name kind) front.length (name.length - back.length) <;> rfl
theorem qs6 (name : List Nat) (X B : List (List Nat)) : q58 [(cs "here", X), (cs "any", B)] name = (pre X name && (decide (X.length + B.length ≤ name.length) && pre B (name.drop (name.length - B.length)))) := by
 show ((turnR name (turnR name [0] (cs "here", X)) (cs "any", B)).any _) = _
 rw [qj3]
 cases pre X name with
 | true => exact qq2 name X.length B
 | false =>
  rw [show (if false = true then [(X.length : Int)] else []) = [] from rfl, q55]; rfl
theorem qs7 {signs name kind K : List Nat} (hn : ∀ c ∈ name, c ∈ signs) (hK : ∀ c ∈ signs, K.contains c = kind.contains c) (X B : List (List Nat)) :
  q58 [(cs "here", X), (cs "first", [K]), (cs "here", []), (cs "any", B)] name = (pre X name && match fstN (hasAt name kind) X.length name.length with
   | [] => false
   | p :: _ => decide (p + 1 + B.length ≤ name.length) && pre B (name.drop (name.length - B.length))) := by
 show ((turnR name (turnR name (turnR name (turnR name [0] (cs "here", X)) (cs "first", [K])) (cs "here", [])) (cs "any", B)).any _) = _
 rw [qj3]
 cases pre X name with
 | false =>
  rw [show (if false = true then [(X.length : Int)] else []) = [] from rfl, q55, q55, q55]; rfl
 | true =>
  rw [if_pos rfl, qs8 hn hK, Bool.true_and]
  have hF := ql0 (hasAt name kind) _ X.length name.length rfl
  generalize fstN (hasAt name kind) X.length name.length = l at hF ⊢
  cases hF with
  | no h =>
   show ((turnR name (turnR name [] (cs "here", [])) (cs "any", B)).any _) = false
   rw [q55, q55]; rfl
  | @yes p l h1 h2 h3 h4 =>
   show ((turnR name (turnR name [((p + 1 : Nat) : Int)] (cs "here", [])) (cs "any", B)).any _) = _
   rw [qw0 name (p + 1) h2, qq2]
theorem qx5 {signs name kind : List Nat} (hn : ∀ c ∈ name, c ∈ signs) (f n : Nat) (hf : f ≤ name.length) : pre (List.replicate n (Q0 signs kind)) (name.drop f) = true ↔ f + n ≤ name.length ∧ ∀ q : Nat, f ≤ q → q < f + n → hasAt name kind q = false := by
 rw [qn3, length_replicate, length_drop, Nat.le_sub_iff_add_le' hf]
 have ho : ∀ q, q < name.length → (Q0 signs kind).contains (name.getD q 0) = !hasAt name kind q := fun q hq => by
  rw [Bool.eq_iff_iff, contains_iff_mem]
  unfold Q0
  rw [mem_filter]
  exact ⟨fun h => h.2, fun h => ⟨z02 hn hq, h⟩⟩
 have hr : ∀ k, k < n → (List.replicate n (Q0 signs kind)).getD k [] = Q0 signs kind := fun k hk => by
  rw [getD_eq_getElem?_getD, List.getElem?_replicate, if_pos hk]; rfl
 refine and_congr_right fun h1 => ⟨fun h2 q h3 h4 => ?_, fun h2 k hk => ?_⟩
 ·have hk := Nat.sub_lt_left_of_lt_add h3 h4
  have := h2 (q - f) hk
  rw [hr _ hk, q83, Nat.add_sub_cancel' h3, ho q (Nat.lt_of_lt_of_le h4 h1)] at this
  exact not_eq_true' _ ▸ this
 have hk' := Nat.add_lt_add_left hk f
 rw [hr _ hk, q83, ho _ (Nat.lt_of_lt_of_le hk' h1), h2 (f + k) (le_add_right ..) hk']; rfl
theorem qy6 (n : Nat) : (-1 : Int) < (n : Int) := Int.lt_of_lt_of_le (by decide) (natCast_nonneg n)
theorem qi0 (r n : Nat) : condR r n (-1) = false := by
 unfold condR
 rw [beq_eq_false_iff_ne.mpr (Int.ne_of_lt (qy6 n)), decide_eq_false (Int.not_lt.mpr (Int.le_of_lt (qy6 n)))]; rfl
theorem qr8 {r n f p : Nat} (h : f ≤ p) : condR r n ((p : Int) - (f : Int)) = (decide (f + n = p) || (decide (f + n < p) && (r % 2 == 0))) := by
 unfold condR
 rw [subI h]
 congr 1
 ·rw [Bool.eq_iff_iff, beq_iff_eq, decide_eq_true_iff]
  exact ⟨fun e => by rw [← Int.ofNat.inj e]; exact Nat.add_sub_cancel' h, fun e => by rw [← e, Nat.add_sub_cancel_left]⟩
 rw [decide_eq_decide.mpr (Int.ofNat_lt.trans Nat.lt_sub_iff_add_lt' : (n : Int) < ((p - f : Nat) : Int) ↔ f + n < p)]
theorem z71 {p b L : Nat} (h : p < L - b) : p + 1 + b ≤ L := (Nat.add_right_comm p 1 b).symm ▸ Nat.add_lt_of_lt_sub h
theorem z72 {p b L : Nat} (h : p + 1 + b ≤ L) : p < L - b := Nat.lt_sub_of_add_lt (Nat.add_right_comm p 1 b ▸ h : p + b + 1 ≤ L)
section
variable {signs name kind : List Nat} {front back X B : List (List Nat)} {n r : Nat}
theorem z89 {K : List Nat} (hn : ∀ c ∈ name, c ∈ signs) (hK : ∀ c ∈ signs, K.contains c = kind.contains c) (hX : Same signs X (front ++ List.replicate n (Q0 signs kind))) (hB : Same signs B back) (hr : r % 2 = 0) :
  q58 [(cs "here", X), (cs "first", [K]), (cs "here", []), (cs "any", B)] name = condR r n (q17 name front back kind) := by
 have hXl : X.length = front.length + n := by rw [hX.1, length_append, length_replicate]
 have hG := ql0 (hasAt name kind) _ (front.length + n) name.length rfl
 rw [qs7 hn hK, qb0 hX hn, qc3, qb0 hB (fun c m => hn c (mem_of_mem_drop m)), hXl, hB.1]
 generalize fstN (hasAt name kind) (front.length + n) name.length = l2 at hG ⊢
 cases hg : good name front back with
 | false =>
  rw [qr0 hg, qi0, and_eq_false_iff]
  unfold good at hg
  cases h1 : pre front name with
  | false => exact .inl rfl
  | true =>
   rw [h1, Bool.true_and] at hg
   right
   cases hG with
   | no h => rfl
   | @yes p l a1 a2 a3 a4 =>
    dsimp only
    rw [and_eq_false_iff] at hg ⊢
    exact hg.imp (fun q => decide_eq_false fun q2 => of_decide_eq_false q (Nat.le_trans (Nat.add_le_add_right (le_succ_of_le (Nat.le_trans (le_add_right ..) a1)) _) q2)) id
 | true =>
  rw [ql2 hg]
  unfold good at hg
  rw [and_eq_true, and_eq_true, decide_eq_true_eq] at hg
  obtain ⟨hle, h1, h2⟩ := hg
  rw [h1, h2, Bool.true_and]
  have hR := qx5 hn (kind := kind) front.length n (Nat.le_trans (le_add_right ..) hle)
  have hF := ql0 (hasAt name kind) _ front.length (name.length - back.length) rfl
  generalize fstN (hasAt name kind) front.length (name.length - back.length) = l at hF ⊢
  cases hF with
  | no h =>
   dsimp only
   rw [qi0, and_eq_false_iff]
   right
   cases hG with
   | no h => rfl
   | @yes p l a1 a2 a3 a4 =>
    dsimp only
    rw [Bool.and_true]
    exact decide_eq_false fun hc => Bool.false_ne_true ((h p (Nat.le_trans (le_add_right ..) a1) (z72 hc)).symm.trans a3)
  | @yes p l b1 b2 b3 b4 =>
   dsimp only
   rw [qr8 b1, hr]
   by_cases hp : front.length + n ≤ p
   ·rw [hR.mpr ⟨Nat.le_trans hp (Nat.le_trans (Nat.le_of_lt b2) (sub_le ..)), fun q q1 q2 => b4 q q1 (Nat.lt_of_lt_of_le q2 hp)⟩, Bool.true_and]
    refine Eq.trans (b := true) ?_ ?_
    ·cases hG with
     | no h => exact absurd ((h p hp (Nat.lt_of_lt_of_le b2 (sub_le ..))).symm.trans b3) Bool.false_ne_true
     | @yes p2 l2 a1 a2 a3 a4 =>
      dsimp only
      have e : p2 = p := by
       rcases lt_trichotomy p2 p with q | q | q
       ·exact absurd ((b4 p2 (Nat.le_trans (le_add_right ..) a1) q).symm.trans a3) Bool.false_ne_true
       ·exact q
       exact absurd ((a4 p hp q).symm.trans b3) Bool.false_ne_true
      rw [Bool.and_true, e]
      exact decide_eq_true (z71 b2)
    rcases Nat.eq_or_lt_of_le hp with q | q
    ·rw [decide_eq_true q]; rfl
    rw [decide_eq_true q]; exact (Bool.or_true _).symm
   rw [decide_eq_false (fun q => hp (Nat.le_of_eq q)), decide_eq_false (fun q => hp (Nat.le_of_lt q))]
   refine and_eq_false_iff.mpr (.inl (Bool.eq_false_iff.mpr fun hc => ?_))
   exact Bool.false_ne_true (((hR.mp hc).2 p b1 (Nat.not_le.mp hp)).symm.trans b3)
theorem z81 (hn : ∀ c ∈ name, c ∈ signs) (hX : Same signs X (front ++ List.replicate n (Q0 signs kind) ++ [kind])) (hB : Same signs B back) (hr : r % 2 = 1) :
  q58 [(cs "here", X), (cs "any", B)] name = condR r n (q17 name front back kind) := by
 have hXl : X.length = front.length + n + 1 := by rw [hX.1, length_append, length_append, length_replicate]; rfl
 rw [qs6, qb0 hX hn, qc3, qc3, length_append, length_replicate, qb0 hB (fun c m => hn c (mem_of_mem_drop m)), hXl, hB.1]
 cases hg : good name front back with
 | false =>
  rw [qr0 hg, qi0]
  unfold good at hg
  cases h1 : pre front name with
  | false => rfl
  | true =>
   rw [h1, Bool.true_and, and_eq_false_iff] at hg
   refine and_eq_false_iff.mpr (.inr (and_eq_false_iff.mpr (hg.imp (fun q => decide_eq_false fun q2 => of_decide_eq_false q (Nat.le_trans (Nat.add_le_add_right (le_succ_of_le (le_add_right ..)) _) q2)) id)))
 | true =>
  rw [ql2 hg]
  unfold good at hg
  rw [and_eq_true, and_eq_true, decide_eq_true_eq] at hg
  obtain ⟨hle, h1, h2⟩ := hg
  rw [h1, h2, Bool.true_and, Bool.and_true]
  have hR := qx5 hn (kind := kind) front.length n (Nat.le_trans (le_add_right ..) hle)
  have hF := ql0 (hasAt name kind) _ front.length (name.length - back.length) rfl
  generalize fstN (hasAt name kind) front.length (name.length - back.length) = l at hF ⊢
  rw [Bool.eq_iff_iff, and_eq_true, and_eq_true, hR, decide_eq_true_eq]
  have hk : front.length + n + 1 + back.length ≤ name.length → pre [kind] (name.drop (front.length + n)) = hasAt name kind (front.length + n) := fun q => z65 kind (Nat.le_trans (le_add_right ..) q)
  cases hF with
  | no h =>
   dsimp only
   rw [qi0]
   refine ⟨fun ⟨⟨_, q2⟩, q3⟩ => ?_, fun q => nomatch q⟩
   rw [hk q3, h _ (le_add_right ..) (z72 q3)] at q2
   exact q2
  | @yes p l b1 b2 b3 b4 =>
   dsimp only
   rw [qr8 b1, hr, show ((1 : Nat) == 0) = false from rfl, Bool.and_false, Bool.or_false, decide_eq_true_eq]
   constructor
   ·rintro ⟨⟨⟨_, q0⟩, q2⟩, q3⟩
    rw [hk q3] at q2
    rcases lt_trichotomy (front.length + n) p with q | q | q
    ·exact absurd ((b4 _ (le_add_right ..) q).symm.trans q2) Bool.false_ne_true
    ·exact q
    exact absurd ((q0 p b1 q).symm.trans b3) Bool.false_ne_true
   rintro rfl
   have q3 := z71 b2
   exact ⟨⟨⟨Nat.le_trans (le_succ _) (Nat.le_trans (le_add_right ..) q3), b4⟩, (hk q3).trans b3⟩, q3⟩
end
theorem z44 (d : Int) (signs : List Nat) (hs : signs.length = 3) : ∀ c ∈ nameR d signs, c ∈ signs := fun c hc => by
 obtain ⟨k, _, rfl⟩ := mem_map.mp hc
 have m0 := q35 ((d.fdiv (10 ^ (k + 1).toNat)).fmod 10) (b := 3) (by decide)
 have m1 := q23 ((d.fdiv (10 ^ (k + 1).toNat)).fmod 10) (b := 3) (by decide)
 have h : (((d.fdiv (10 ^ (k + 1).toNat)).fmod 10).fmod 3).toNat < signs.length := by lia
 rw [getD_eq_getElem?_getD, List.getElem?_eq_getElem h]
 exact List.getElem_mem h
theorem z84 (others kind : List Nat) (n : Nat) : (∀ k, k < n → (runOf others kind n).getD k [] = others) ∧ (runOf others kind n).getD n [] = kind := by
 unfold runOf
 constructor
 ·intro k hk
  rw [getD_eq_getElem?_getD, List.getElem?_append_left (by rw [length_replicate]; exact hk), List.getElem?_replicate, if_pos hk]; rfl
 rw [getD_eq_getElem?_getD, List.getElem?_append_right (by rw [length_replicate]; exact Nat.le_refl _), length_replicate, sub_self]; rfl
theorem zc2 (signs others kind : List Nat) (n r : Nat) (b : Nat → Bool) : jn [] (midOf signs (runOf others kind n) b r n) =
  ((List.range n).map fun k => q11 signs ((runOf others kind n).getD k []) (b k)).flatten ++ ((q33 r).flatten ++ ([n].map fun k => q11 signs ((runOf others kind n).getD k []) (b k)).flatten) := by
 have hl : (runOf others kind n).length = n + 1 := by unfold runOf; rw [length_append, length_replicate]; rfl
 unfold midOf q09
 rw [hl, List.range_succ, map_append, q34, q31, show ∀ l : List (List Nat), cut none (some (n : Int)) l = l.take n from fun l => by
  have : cut (none : Option Int) (some (n : Int)) l = cut (some ((0 : Nat) : Int)) (some (n : Int)) l := rfl
  rw [this, q54, drop_zero]]
 have hn : ((List.range n).map fun k => q11 signs ((runOf others kind n).getD k []) (b k)).length = n := by rw [length_map, length_range]
 rw [show ∀ l : List (List Nat), (((List.range n).map fun k => q11 signs ((runOf others kind n).getD k []) (b k)) ++ l).take n = ((List.range n).map fun k => q11 signs ((runOf others kind n).getD k []) (b k)) from fun l => by
   conv => lhs; rw [show n = ((List.range n).map fun k => q11 signs ((runOf others kind n).getD k []) (b k)).length from hn.symm, hn]
   exact List.take_left' hn,
  List.drop_left' hn, flatten_append, flatten_append, append_assoc]
theorem zc0 (d : Int) (b : Nat → Bool) {ahead behind kind : List Nat} {front back oa ea ob eb : List (List Nat)} {C : List Nat → Prop} {n : Nat} (r : Nat) {names : List (List Nat)} (hn4 : n ≤ 4) (A : Seg (q01 d) ahead oa ea fun _ => True) (TA : Same (q01 d) ea front) (la : front.length ≤ 1) (B : Seg (q01 d) behind ob eb C) (hC : C []) (TB : Same (q01 d) eb back) (lb : back.length ≤ 1)
  (hin : ∀ x ∈ names, ∀ c ∈ x, c ∈ q01 d) : RowOK (q01 d) (runOf (Q0 (q01 d) kind) kind n) b r n ahead behind (fun x => q17 x front back kind) names := by
 obtain ⟨hr1, hr2⟩ := z84 (Q0 (q01 d) kind) kind n
 obtain ⟨on, en, SN, TN⟩ := qn0 d (fun k => (runOf (Q0 (q01 d) kind) kind n).getD k []) b (List.range n)
 obtain ⟨ok, ek, SK, TK⟩ := qn0 d (fun k => (runOf (Q0 (q01 d) kind) kind n).getD k []) b [n]
 rw [map_congr_left fun k hk => hr1 k (mem_range.mp hk), List.map_const', length_range] at TN
 rw [List.map_singleton, hr2] at TK
 have lN : en.length = n := TN.1.trans length_replicate
 obtain ⟨e, rfl⟩ : ∃ e, ek = [e] := List.length_eq_one_iff.mp TK.1
 have qa : oa.length ≤ 1 := by rw [A.eq, TA.1]; exact la
 have qb : ob.length ≤ 1 := by rw [B.eq, TB.1]; exact lb
 have qn : on.length ≤ 4 := by rw [SN.eq, lN]; exact hn4
 have pa : ea.length ≤ 1 := A.eq ▸ qa
 have pb : eb.length ≤ 1 := B.eq ▸ qb
 have le5 : ∀ {x y : Nat}, x ≤ 1 → y ≤ 4 → x + y ≤ 5 := fun h1 h2 => Nat.add_le_add h1 h2
 have big : ∀ {m : Nat}, m ≤ 6 → m ≤ 2 ^ 20 := fun h => Nat.le_trans h (by decide)
 have pn : en.length ≤ 4 := lN ▸ hn4
 unfold RowOK patOf
 rw [zc2]
 unfold q33
 by_cases hev : r % 2 = 0
 ·rw [if_pos hev]
  obtain ⟨kk, parts, txt, k2, t1, t2, t3, t4, t5, t6⟩ := qv9 (A.app SN) SK B hC (fun q => by have := SK.eq; rw [q] at this; cases this) (by rw [length_append]; exact Nat.le_trans (le5 qa qn) (by decide)) (by rw [SK.eq]; exact le_of_ble_eq_true rfl) (Nat.le_trans qb (by decide))
  refine ⟨kk, parts, txt, k2, _, ?_, t2, t3, t4, t5, t6, ?_, fun x hx => z89 (hin x hx) (fun c hc => TK.2 0 c hc) (TA.app TN) TB hev⟩
  ·rw [← t1]
   congr 1
   simp only [append_assoc]; rfl
  intro p hp
  simp only [mem_cons, not_mem_nil, or_false] at hp
  rcases hp with rfl | rfl | rfl | rfl
  ·refine big ?_
   show (ea ++ en).length ≤ _
   rw [length_append]; exact le_succ_of_le (le5 pa pn)
  ·exact big (m := 1) (le_of_ble_eq_true rfl)
  ·exact big (m := 0) (zero_le _)
  exact big (Nat.le_trans pb (by decide))
 rw [if_neg hev]
 obtain ⟨kk, parts, txt, k2, t1, t2, t3, t4, t5, t6⟩ := qv8 ((A.app SN).app SK) B hC (by rw [length_append, length_append, SK.eq]; exact Nat.le_trans (succ_le_succ (le5 qa qn)) (by decide)) (Nat.le_trans qb (by decide))
 refine ⟨kk, parts, txt, k2, _, ?_, t2, t3, t4, t5, t6, ?_, fun x hx => z81 (hin x hx) ((TA.app TN).app TK) TB (Nat.mod_two_ne_zero.mp hev)⟩
 ·rw [← t1]
  congr 1
  simp only [append_assoc]; rfl
 intro p hp
 simp only [mem_cons, not_mem_nil, or_false] at hp
 rcases hp with rfl | rfl
 ·refine big ?_
  show (ea ++ en ++ [e]).length ≤ _
  rw [length_append, length_append]; exact succ_le_succ (le5 pa pn)
 exact big (Nat.le_trans pb (by decide))
theorem zc7 (d0 d1 d2 : Int) (ds : List Int) : LawOK d0 d1 d2 ds := by
 intro r hr
 obtain ⟨oa, ea, SA, TA⟩ := qr2 ((figL d0).getD 0 0) (q01 d1) (cs "*?[") (by decide) (by decide) (fun c h => by
  have : c ∈ [42, 63, 91] := contains_iff_mem.mp h
  simpa using this)
 obtain ⟨ob, eb, SB, TB⟩ := qr2 ((figL d0).getD 1 0) (q01 d1) (cs "*?") (by decide) (by decide) (fun c h => by
  have : c ∈ [42, 63] := contains_iff_mem.mp h
  simp at this
  exact this.imp id .inl)
 refine zc0 d1 (bitF d2 r) r (Nat.add_le_add (b := 2) (d := 2) ?_ ?_) ⟨fun k rest res _ => SA.tr k rest res (.inl (by decide)), SA.rd, SA.hd, SA.ln, SA.eq⟩ TA (qb2 _ _ (cs "*?[")).2 SB (.inr rfl) TB (qb2 _ _ (cs "*?")).2 fun x hx => ?_
 ·exact Int.toNat_le.mpr (Int.le_of_lt_add_one (q23 _ (b := 3) (by decide)))
 ·exact Nat.le_of_lt_succ (Nat.div_lt_of_lt_mul (lt_succ_of_lt hr))
 obtain ⟨d, _, rfl⟩ := mem_map.mp hx
 exact z44 d _ (qj5 d1)
theorem ql8 {h : Heap} {vs : List Value} {xs : List Int} (i : IntsAre vs xs) : Dens [] h vs (xs.map .int) := by
 induction i with
 | nil => exact .nil
 | cons n t _ ih => exact .cons (.int n t) ih
noncomputable def cxOf {p : Program} {loose : List Str} {mean : ExcName → Option Value} {mg mb : Str → Option Value} (prog : Program) (w : World) (s : Shared) (T : Top p loose mean mg mb s.heap) : Cx :=
 { prog, w, hB := s.heap, os := s.os, mg, mb, tabs := [(57, trEs)], stk := [], g := T.g, b := T.b, builtins := T.builtins, nolimit := T.nolimit }
theorem law_call {p prog : Program} {loose : List Str} {mean : ExcName → Option Value} {mg mb : Str → Option Value} {w : World} {s : Shared} (T : Top p loose mean mg mb s.heap) (KX : (hdK w.params).In s.heap) (hT8 : ∀ P : Addr, P ∈ [57] → s.heap.get? P = some (tabObj #[])) (hg : s.gens = #[])
  {fa a : Addr} {vs : List Value} {script : List Int} (hmg : mg (ofString "law") = some (.ref fa)) (ho : s.heap.get? a = some { cls := .type "list", data := .seq vs.toArray }) (hI : IntsAre vs script) (hlen : script.length ≤ 63) {Q : Value → Shared → Prop} {E : Value → Shared → Prop}
  (hQ : ∀ s', OldK s.heap s'.heap → s'.os = s.os → AllBare s'.gens → Q (.bool true) s') : wpAny (model prog w) callerA (call (.ref fa) [.ref a]) Q E s := by
 have m := fun {n : Str} {v : Value} (e : nsIn (hdK w.params) mainGlobals n = some (some v)) => mg_of KX T.g e
 have z := fun {n : Str} (e : nsIn (hdK w.params) mainGlobals n = some none) => mg_none_of KX T.g e
 have hl : mg (ofString "law") = some (.ref 157) := m (by kernel_rfl)
 rw [hl] at hmg
 cases hmg
 have ok : (cxOf prog w s T).Ok s := by
  refine ⟨fun b o e _ => e, fun q hq => ?_, by rw [hg]; exact AllBare.empty, rfl, fun b hb => hb, (fun L hL => by cases hL), (fun L hL => by cases hL), fun b o e _ => e⟩
  have hq' : q = (57, trEs) := mem_singleton.mp hq
  subst hq'
  exact ⟨#[], hT8 57 (.head _), trivial, fun e _ => .inl rfl⟩
 have Rm : Room ((cxOf prog w s T).on []) callerA 8 := ⟨⟨[], rfl, rfl, fun _ h => nomatch h⟩, rfl, by show 301 + 4 * 8 ≤ 900; decide, by show 4 + 64 * 8 + 200 ≤ 9900; decide⟩
 have Q : LG (cxOf prog w s T) w.params := {
  KX := KX, gi := z (by kernel_rfl), gs := z (by kernel_rfl), gm := m (by kernel_rfl), gl := z (by kernel_rfl), gr := z (by kernel_rfl), go := z (by kernel_rfl)
  ge := m (by kernel_rfl), gt := m (by kernel_rfl), gtr := m (by kernel_rfl), gj := m (by kernel_rfl), hT := rfl, ba := ⟨T.bmain⟩, git := z (by kernel_rfl), gn := z (by kernel_rfl), gb := z (by kernel_rfl), gli := z (by kernel_rfl), gff := m (by kernel_rfl), gc := z (by kernel_rfl), gfi := m (by kernel_rfl)
  gzip := z (by kernel_rfl), gen := z (by kernel_rfl), gsum := z (by kernel_rfl), ged := m (by kernel_rfl), gna := m (by kernel_rfl), gst := m (by kernel_rfl), gsi := m (by kernel_rfl), gpi := m (by kernel_rfl), gta := m (by kernel_rfl), gfr := m (by kernel_rfl), gtl := m (by kernel_rfl) }
 have F := z47 Q script (by omega) fun d0 d1 d2 ds _ => zc7 d0 d1 d2 ds
 have hd : Dens [] s.heap [.ref a] [.list (script.map .int)] := .cons (.list (by simp) ⟨0, ho⟩ (by simpa using ql8 hI)) .nil
 refine wpAny_call (F [] callerA s [] [.ref a] Rm ok (fun b hb => by cases hb) hd _ fun V s' kp ok' d => ?_)
 cases d
 refine hQ s' ⟨fun b o e => ?_, fun b o e => ?_⟩ ok'.os ok'.gens
 ·by_cases hb : b = 57
  ·subst hb
   obtain ⟨ps, hps, _⟩ := ok'.tabs (57, trEs) (.head _)
   have e2 := hT8 57 (.head _)
   rw [e] at e2
   cases e2
   refine .inr (.inl ⟨?_, rfl, #[], ps, rfl, ?_⟩)
   ·exact ⟨61, _, _, KX 61 _ (by rfl), rfl, rfl, by rfl⟩
   rw [hps]; simp [tabObj]
  exact .inl (ok'.old b o e fun q hq => by
   have hq' : q = (57, trEs) := mem_singleton.mp hq
   rw [hq']; exact fun e => hb e.symm)
 exact ne_none_iff_exists'.mp (ok'.all b (by show s.heap.get? b ≠ none; rw [e]; simp))
end Mine
set_option maxRecDepth 100000 in
set_option maxHeartbeats 8000000 in
theorem PySem.Challenge.cw_ik0025_03_holds : PySem.Challenge.rw_ik0025_03.Holds := by
 refine holds_law (by kernel_rfl) fun said => ?_
 refine holds_open (r := PySem.Challenge.rw_ik0025_03.row) Mine.hd_left (Hook.of Mine.hdH) (Hook.keeps Mine.hdH) (fun s e => xl_of s (Bool.and_eq_true_iff.mp e).1) XL.keeps (by rfl) (by rfl) (by rfl) (fun s e => recFacts_of (Bool.and_eq_true_iff.mp e).2) (by rfl) said (by decide +kernel) ⟨rfl, rfl, rfl, rfl, rfl, by decide +kernel⟩ ?hw ?hc
 case hw => w_witness2
 intro w s₀ s₁ mg mb G Y fa o pm cd doc dV kV ho hd hcd hD hmg hg args vals as hpre hlay hrd hwl hlo
 have KX := km_in_of Y
 have hT8 := km_tabs_of Y
 refine Ground.open G ?_
 intro T B D TE TW
 clear D
 wrow_args hpre hlay hrd hwl hlo
 rename_i script _ _ _ _ _ _ _ a vs _ hL ra w1 r0 hI hr hlen hc
 have hlen' : script.length ≤ 63 := by omega
 have hobj : ∃ vs' : List Value, s₁.heap.get? a = some { cls := .type "list", data := .seq vs'.toArray } ∧ IntsAre vs' script := by
  cases w1 with
  | list e _ =>
   obtain ⟨o2, ho2, _, _, hd2⟩ := hL
   rw [e] at ho2
   cases ho2
   cases hd2
   exact ⟨_, e, hI⟩
 obtain ⟨vs', e, hI'⟩ := hobj
 refine Mine.law_call T KX hT8 hg hmg e hI' hlen' fun s' hK hos hb => ?_
 exact ⟨.inl ⟨.bool true, .bool true, [], rfl, fun _ => rfl, .bool true, by kernel_rfl, fun _ => ⟨List.nodup_nil, fun _ h => nomatch h⟩⟩, hK, hos, hb⟩
