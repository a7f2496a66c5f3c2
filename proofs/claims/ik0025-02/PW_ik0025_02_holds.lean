import PyProof.Rows.All
import Wide.All
import OpenK.AllK
import Wide.FinOn
import PyProof.ListIndexNeg
import PyProof.IsiPairs
import PyProof.StrLawsReplace
import PyProof.GenQ
import PyProof.JoinWalk
import PyProof.CallTypeRange
import PyProof.AutoRange
import PyProof.DelItemList
import PyProof.RulesDel
import PyProof.RulesAssignMore
import PyProof.WalksMore
import PyProof.FString
import PyProof.RulesDelMore
import PyProof.CallRoads
import PyProof.StrLawsFrom
import PyProof.DictTable
import PyProof.DictCalls
import PyProof.DictKinds
import PyProof.SumAny
import PyProof.WalkInts
import Lean
import PySem.Challenge.RW_ik0025_02
open PySem PySem.Calls PyProof.Rows PySem.W
set_option Elab.async false
set_option maxRecDepth 100000
set_option linter.unusedVariables false
set_option maxHeartbeats 8000000
set_option compiler.extract_closed false
section
open PySem PySem.W PyProof.Rows
namespace Mine
noncomputable def vS (x : String) (t : Nat) : Value := .str (Str.ofString x) t
noncomputable def vI (x : Int) (t : Nat) : Value := .int x t
noncomputable def vR (a : Nat) : Value := .ref a
noncomputable def vN : Value := .none
noncomputable def eD (P : Params) (x : String) (t : Nat) (v : Value) : DictEntry := ⟨PyData.keyHash P (Str.ofString x), vS x t, v⟩
noncomputable def eI (x : Int) (t : Nat) (v : Value) : DictEntry := ⟨x, vI x t, v⟩
noncomputable def pB : List Stmt := PySem.Challenge.pw_ik0025_02.main.body
noncomputable def pC : List Stmt := match (pB[2]? : Option Stmt) with | some (.ClassDef _ _ _ b _ _ _ _ _ _ _) => b | _ => []
noncomputable def bd (st : Option Stmt) : List Stmt := match st with | some (.FunctionDef _ _ b _ _ _ _ _ _ _) => b | _ => []
noncomputable def fO (st : Option Stmt) (q : String) (m : Value) (c : Nat) : Obj := match st with
 | some (.FunctionDef n ps b _ _ _ sc _ _ _) => { cls := .type "function", data := .func { name := n, qualname := Str.ofString q, params := ps, body := .stmts b, scope := sc, globals := 3, closure := [], defaults := .none, kwdefaults := .none, pyModule := m, code := vR c } }
 | _ => { cls := .none }
noncomputable def hdK (P : Params) : Frag := [
(3, {cls := .type "dict", data := (.dict #[eD P "__name__" 165 (vS "law_ik0025_02" 582), eD P "__doc__" 166 vN, eD P "__package__" 167 vN, eD P "__loader__" 168 (.builtin "__main__.__loader__#opaque"), eD P "__spec__" 169 vN, eD P "__annotations__" 170 (vR 6), eD P "__builtins__" 171 (vR 4), eD P "__file__" 173 (vS "/claim/cut.py" 172), eD P "__cached__" 174 vN, eD P "_sre" 275 (vR 12), eD P "filterfalse" 333 (vR 64), eD P "_filter" 343 (vR 75), eD P "_twin_re_1" 383 (vR 80), eD P "translate" 392 (vR 87), eD P "_special_chars_map" 540 (vR 89), eD P "escape" 547 (vR 99), eD P "_translate" 568 (vR 106), eD P "_join_translated_parts" 581 (vR 113), eD P "_law_signs" 589 (vR 118), eD P "_law_sets" 595 (vR 123), eD P "_law_piece" 606 (vR 130), eD P "_law_read" 612 (vR 135), eD P "_law_taken" 618 (vR 140), eD P "_law_fits" 624 (vR 145), eD P "law" 630 (vR 150)] 25)}),
(45, {cls := .type "code", data := (.fields #[(vS "__init__" 299), (vS "filterfalse.__init__" 300), (vS "/claim/cut.py" 301), (vI 6 0), (vI 3 0), (vI 3 0), (vI 0 0), (vI 3 0), (vR 40), (.bool true), (vI 276 0), (vR 41), vN, (vR 42), (vR 43), (vR 44), (vI 305 0), (vI 6 0), (vS "/claim/cut.py" 306)])}),
(46, fO pC[1]? "filterfalse.__init__" (vS "itertools" 282) 45),
(52, {cls := .type "code", data := (.fields #[(vS "__iter__" 308), (vS "filterfalse.__iter__" 309), (vS "/claim/cut.py" 310), (vI 10 0), (vI 1 0), (vI 0 0), (vI 0 0), (vI 3 0), (vR 47), (.bool true), (vI 276 0), (vR 48), vN, (vR 49), (vR 50), (vR 51), (vI 312 0), (vI 10 0), (vS "/claim/cut.py" 313)])}),
(53, fO pC[2]? "filterfalse.__iter__" (vS "itertools" 282) 52),
(59, {cls := .type "code", data := (.fields #[(vS "__next__" 315), (vS "filterfalse.__next__" 316), (vS "/claim/cut.py" 317), (vI 13 0), (vI 1 0), (vI 0 0), (vI 0 0), (vI 3 0), (vR 54), (.bool true), (vI 276 0), (vR 55), vN, (vR 56), (vR 57), (vR 58), (vI 321 0), (vI 13 0), (vS "/claim/cut.py" 322)])}),
(60, fO pC[3]? "filterfalse.__next__" (vS "itertools" 282) 59),
(63, {cls := .type "dict", data := (.dict #[eD P "__module__" 291 (vS "itertools" 282), eD P "__firstlineno__" 295 (vI 3 294), eD P "__slots__" 298 (vR 39), eD P "__init__" 307 (vR 46), eD P "__iter__" 314 (vR 53), eD P "__next__" 323 (vR 60), eD P "__static_attributes__" 326 (vR 61), eD P "_func" 328 (vR 65), eD P "_it" 330 (vR 66), eD P "__doc__" 331 vN] 4)}),
(64, {cls := .type "type", data := .cls {name := Str.ofString "filterfalse", bases := [.type "object"], mro := [vR 64, .type "object"], ns := 63, qualname := Str.ofString "filterfalse", hasDict := false, slotNames := [Str.ofString "_func", Str.ofString "_it"]}, slots := #[none, none, some (vS "filterfalse" 284), some (vS "filterfalse" 292), some (.builtin "object.__new__"), some (.bool false)]}),
(65, {cls := .type "member_descriptor", data := (.fields #[(vS "_func" 327), (vR 64), (.builtin "proto.slot"), (.builtin "proto.slot#set"), (vI 1 0)])}),
(66, {cls := .type "member_descriptor", data := (.fields #[(vS "_it" 329), (vR 64), (.builtin "proto.slot"), (.builtin "proto.slot#set"), (vI 0 0)])}),
(74, {cls := .type "code", data := (.fields #[(vS "_filter" 336), (vS "_filter" 337), (vS "/claim/cut.py" 338), (vI 23 0), (vI 2 0), (vI 0 0), (vI 0 0), (vI 3 0), (vR 69), (.bool true), (vI 276 0), (vR 70), vN, (vR 71), (vR 72), (vR 73), (vI 341 0), (vI 23 0), (vS "/claim/cut.py" 342)])}),
(75, fO pB[4]? "_filter" (vS "cpy313.filecmp" 334) 74),
(79, {cls := .type "tuple", data := (.seq #[(vI 14 0), (vI 14 0), (vI 4 0), (vI 1 0), (vI 1 0), (vI 9 0), (vI 0 0), (vI 64 0), (vI 0 0), (vI 1342177280 0), (vI 0 0), (vI 0 0), (vI 0 0), (vI 0 0), (vI 0 0), (vI 17 0), (vI 0 0), (vI 13 0), (vI 11 0), (vI 9 0), (vI 0 0), (vI 64 0), (vI 0 0), (vI 1342177280 0), (vI 0 0), (vI 0 0), (vI 0 0), (vI 0 0), (vI 0 0), (vI 17 0), (vI 1 0), (vI 1 0)])}),
(80, {cls := .type "re.Pattern", data := (.fields #[(vS "([&~|])" 347), (vI 32 382), (vI 1 0), vN, vN, (vR 79), (vI 0 0)])}),
(86, {cls := .type "code", data := (.fields #[(vS "translate" 384), (vS "translate" 385), (vS "/claim/cut.py" 386), (vI 27 0), (vI 1 0), (vI 0 0), (vI 0 0), (vI 3 0), (vR 81), (.bool true), (vI 276 0), (vR 82), vN, (vR 83), (vR 84), (vR 85), (vI 390 0), (vI 27 0), (vS "/claim/cut.py" 391)])}),
(87, fO pB[7]? "translate" (vS "cpy313.fnmatch" 344) 86),
(89, {cls := .type "dict", data := (.dict #[eI 40 396 (vS "\\(" 400), eI 41 402 (vS "\\)" 406), eI 91 408 (vS "\\[" 412), eI 93 414 (vS "\\]" 418), eI 123 420 (vS "\\{" 424), eI 125 426 (vS "\\}" 430), eI 63 432 (vS "\\?" 436), eI 42 438 (vS "\\*" 442), eI 43 444 (vS "\\+" 448), eI 45 450 (vS "\\-" 454), eI 124 456 (vS "\\|" 460), eI 94 462 (vS "\\^" 466), eI 36 468 (vS "\\$" 472), eI 92 474 (vS "\\\\" 478), eI 46 480 (vS "\\." 484), eI 38 486 (vS "\\&" 490), eI 126 492 (vS "\\~" 496), eI 35 498 (vS "\\#" 502), eI 32 504 (vS "\\ " 508), eI 9 510 (vS "\\\x09" 514), eI 10 516 (vS "\\\n" 520), eI 13 522 (vS "\\\x0d" 526), eI 11 528 (vS "\\\x0b" 532), eI 12 534 (vS "\\\x0c" 538)] 24)}),
(98, {cls := .type "code", data := (.fields #[(vS "escape" 541), (vS "escape" 542), (vS "/claim/cut.py" 543), (vI 33 0), (vI 1 0), (vI 0 0), (vI 0 0), (vI 3 0), (vR 93), (.bool true), (vI 276 0), (vR 94), vN, (vR 95), (vR 96), (vR 97), (vI 545 0), (vI 33 0), (vS "/claim/cut.py" 546)])}),
(99, fO pB[10]? "escape" (vS "re" 393) 98),
(105, {cls := .type "code", data := (.fields #[(vS "_translate" 550), (vS "_translate" 551), (vS "/claim/cut.py" 552), (vI 40 0), (vI 3 0), (vI 0 0), (vI 0 0), (vI 3 0), (vR 100), (.bool true), (vI 276 0), (vR 101), vN, (vR 102), (vR 103), (vR 104), (vI 566 0), (vI 40 0), (vS "/claim/cut.py" 567)])}),
(106, fO pB[12]? "_translate" (vS "cpy313.fnmatch" 548) 105),
(112, {cls := .type "code", data := (.fields #[(vS "_join_translated_parts" 569), (vS "_join_translated_parts" 570), (vS "/claim/cut.py" 571), (vI 102 0), (vI 2 0), (vI 0 0), (vI 0 0), (vI 3 0), (vR 107), (.bool true), (vI 276 0), (vR 108), vN, (vR 109), (vR 110), (vR 111), (vI 579 0), (vI 102 0), (vS "/claim/cut.py" 580)])}),
(113, fO pB[13]? "_join_translated_parts" (vS "cpy313.fnmatch" 548) 112),
(117, {cls := .type "code", data := (.fields #[(vS "_law_signs" 584), (vS "_law_signs" 585), (vS "/claim/cut.py" 586), (vI 130 0), (vI 1 0), (vI 0 0), (vI 0 0), (vI 3 0), (vR 114), (.bool true), (vI 276 0), (vR 115), vN, vN, vN, (vR 116), (vI 587 0), (vI 130 0), (vS "/claim/cut.py" 588)])}),
(118, fO pB[15]? "_law_signs" (vS "law_ik0025_02" 582) 117),
(122, {cls := .type "code", data := (.fields #[(vS "_law_sets" 590), (vS "_law_sets" 591), (vS "/claim/cut.py" 592), (vI 133 0), (vI 3 0), (vI 0 0), (vI 0 0), (vI 3 0), (vR 119), (.bool true), (vI 276 0), (vR 120), vN, vN, vN, (vR 121), (vI 593 0), (vI 133 0), (vS "/claim/cut.py" 594)])}),
(123, fO pB[16]? "_law_sets" (vS "law_ik0025_02" 582) 122),
(129, {cls := .type "code", data := (.fields #[(vS "_law_piece" 596), (vS "_law_piece" 597), (vS "/claim/cut.py" 598), (vI 136 0), (vI 3 0), (vI 0 0), (vI 0 0), (vI 3 0), (vR 124), (.bool true), (vI 276 0), (vR 125), vN, (vR 126), (vR 127), (vR 128), (vI 604 0), (vI 136 0), (vS "/claim/cut.py" 605)])}),
(130, fO pB[17]? "_law_piece" (vS "law_ik0025_02" 582) 129),
(134, {cls := .type "code", data := (.fields #[(vS "_law_read" 607), (vS "_law_read" 608), (vS "/claim/cut.py" 609), (vI 142 0), (vI 2 0), (vI 0 0), (vI 0 0), (vI 3 0), (vR 131), (.bool true), (vI 276 0), (vR 132), vN, vN, vN, (vR 133), (vI 610 0), (vI 142 0), (vS "/claim/cut.py" 611)])}),
(135, fO pB[18]? "_law_read" (vS "law_ik0025_02" 582) 134),
(139, {cls := .type "code", data := (.fields #[(vS "_law_taken" 613), (vS "_law_taken" 614), (vS "/claim/cut.py" 615), (vI 176 0), (vI 3 0), (vI 0 0), (vI 0 0), (vI 3 0), (vR 136), (.bool true), (vI 276 0), (vR 137), vN, vN, vN, (vR 138), (vI 616 0), (vI 176 0), (vS "/claim/cut.py" 617)])}),
(140, fO pB[19]? "_law_taken" (vS "law_ik0025_02" 582) 139),
(144, {cls := .type "code", data := (.fields #[(vS "_law_fits" 619), (vS "_law_fits" 620), (vS "/claim/cut.py" 621), (vI 186 0), (vI 3 0), (vI 0 0), (vI 0 0), (vI 3 0), (vR 141), (.bool true), (vI 276 0), (vR 142), vN, vN, vN, (vR 143), (vI 622 0), (vI 186 0), (vS "/claim/cut.py" 623)])}),
(145, fO pB[20]? "_law_fits" (vS "law_ik0025_02" 582) 144),
(149, {cls := .type "code", data := (.fields #[(vS "law" 625), (vS "law" 626), (vS "/claim/cut.py" 627), (vI 188 0), (vI 1 0), (vI 0 0), (vI 0 0), (vI 3 0), (vR 146), (.bool true), (vI 276 0), (vR 147), vN, vN, vN, (vR 148), (vI 628 0), (vI 188 0), (vS "/claim/cut.py" 629)])}),
(150, fO pB[21]? "law" (vS "law_ik0025_02" 582) 149)]
noncomputable def hdA : List Addr := [3, 45, 46, 52, 53, 59, 60, 63, 64, 65, 66, 74, 75, 79, 80, 86, 87, 89, 98, 99, 105, 106, 112, 113, 117, 118, 122, 123, 129, 130, 134, 135, 139, 140, 144, 145, 149, 150]
theorem za3 (P : Params)   : hdA = (hdK P).map (·.1) := by kernel_rfl
end Mine
namespace Mine
noncomputable def isTb (o : Obj) : Bool := match o.cls, o.data with
 | .none, .fields _ => true
 | _, _ => false
noncomputable def isTab (o : Obj) : Bool := match o.cls, o.data with
 | .none, .fields _ => true
 | .type T, .fields _ => T == "code"
 | _, _ => false
theorem ql9 {o : Obj} (h : isTb o = true) : isTab o = true := by
 unfold isTb at h; unfold isTab
 split at h
 ·rename_i h1 h2; rw [h1, h2]
 exact absurd h Bool.false_ne_true
theorem q42 {o : Obj} (h : isTab o = false) : isTb o = false := by
 cases q : isTb o with
 | false => rfl
 | true => rw [ql9 q] at h; exact absurd h.symm Bool.false_ne_true
noncomputable def isFr (o : Obj) : Bool := match o.data with
 | .dict _ _ => true
 | _ => false
noncomputable def Sim (h' : Heap) (b : Addr) (o : Obj) : Prop := match isFr o with
 | true => ∃ sl, h'.get? b = some { o with slots := sl }
 | false => h'.get? b = some o
theorem Sim.of {h' : Heap} {b : Addr} {o : Obj} (e : h'.get? b = some o) : Sim h' b o := by
 unfold Sim
 split
 ·exact ⟨o.slots, e⟩
 exact e
theorem Sim.eq {h' : Heap} {b : Addr} {o : Obj} (x : Sim h' b o) (hf : isFr o = false) : h'.get? b = some o := by
 unfold Sim at x; rw [hf] at x; exact x
theorem Sim.sl {h' : Heap} {b : Addr} {o : Obj} (x : Sim h' b o) : ∃ sl, h'.get? b = some { o with slots := sl } := by
 cases hf : isFr o with
 | true => unfold Sim at x; rw [hf] at x; exact x
 | false => exact ⟨o.slots, x.eq hf⟩
theorem Sim.trans {h₁ h₂ : Heap} {b : Addr} {o : Obj} (x : Sim h₁ b o) (y : ∀ o', h₁.get? b = some o' → isTab o' = isTab o → Sim h₂ b o') : Sim h₂ b o := by
 cases hf : isFr o with
 | true =>
  obtain ⟨sl, e⟩ := x.sl
  obtain ⟨sl', e'⟩ := (y _ e rfl).sl
  unfold Sim; rw [hf]; exact ⟨sl', e'⟩
 | false => exact y o (x.eq hf) rfl
noncomputable def isLo (o : Obj) : Bool := isTab o || isFr o
theorem lot {o : Obj} (h : isLo o = false) : isTab o = false := (Bool.or_eq_false_iff.mp h).1
theorem lof {o : Obj} (h : isLo o = false) : isFr o = false := (Bool.or_eq_false_iff.mp h).2
theorem lomk {o : Obj} (h : isTab o = false) (h' : isFr o = false) : isLo o = false := Bool.or_eq_false_iff.mpr ⟨h, h'⟩
theorem Sim.lo {h' : Heap} {b : Addr} {o : Obj} (x : Sim h' b o) (hf : isLo o = false) : h'.get? b = some o := x.eq (lof hf)
noncomputable def Kp (h h' : Heap) : Prop := ∀ b o, h.get? b = some o → isTab o = false → Sim h' b o
theorem Kp.refl (h : Heap) : Kp h h := fun _ _ e _ => .of e
theorem Kp.trans {h₁ h₂ h₃ : Heap} (x : Kp h₁ h₂) (y : Kp h₂ h₃) : Kp h₁ h₃ := fun b o e t => (x b o e t).trans fun o' e' t' => y b o' e' (t'.trans t)
theorem Kp.of {h h' : Heap} (k : ∀ b o, h.get? b = some o → h'.get? b = some o) : Kp h h' := fun b o e _ => .of (k b o e)
theorem Kp.push (h : Heap) (o : Obj) : Kp h (h.push o) := Kp.of fun _ _ e => Heap.get?_push_of_some o e
noncomputable def KpH (H : List Addr) (h h' : Heap) : Prop := ∀ b o, b ∉ H → h.get? b = some o → isTab o = false → Sim h' b o
theorem Kp.toH {h h' : Heap} (k : Kp h h') (H : List Addr) : KpH H h h' := fun b o _ e t => k b o e t
theorem q27 {o : Obj} {T : String} (h : o.cls = .type T) (hT : (T == "code") = false := by decide) : isTab o = false := by
 unfold isTab; rw [h]; split <;> simp_all
theorem q22 {o : Obj} {es ep} (h : o.data = .dict es ep) : isTab o = false := by
 unfold isTab; rw [h]; split <;> simp_all
theorem q12 {o : Obj} {v} (h : o.data = .cell v) : isTab o = false := by
 unfold isTab; rw [h]; split <;> simp_all
theorem q36 {o : Obj} {v} (h : o.data = .func v) : isTab o = false := by
 unfold isTab; rw [h]; split <;> simp_all
theorem qi9 {o : Obj} {es ep} (h : o.data = .dict es ep) : isFr o = true := by
 unfold isFr; rw [h]
theorem q20 {o : Obj} {v} (h : o.data = .cell v) : isFr o = false := by
 unfold isFr; rw [h]
theorem qi8 {o : Obj} {v} (h : o.data = .func v) : isFr o = false := by
 unfold isFr; rw [h]
theorem qm0 {o : Obj} {v n} (h : o.data = .seq v n) : isFr o = false := by
 unfold isFr; rw [h]
theorem q09 {o : Obj} {v} (h : o.data = .fields v) : isFr o = false := by
 unfold isFr; rw [h]
theorem q07 {o : Obj} {T : String} {v} (h : o.cls = .type T) (hd : o.data = .fields v) (hT : (T == "code") = false := by decide) : isLo o = false := lomk (q27 h hT) (q09 hd)
theorem ns_kp {h h' : Heap} {a : Addr} {m} (x : h.Ns a m) (k : Kp h h') : h'.Ns a m :=
 let ⟨o, es, ep, ho, hd, r⟩ := x; let ⟨_, e⟩ := (k _ _ ho (q22 hd)).sl; ⟨_, es, ep, e, hd, r⟩
theorem q70 {h h' : Heap} {a : Addr} {vs} (x : h.IsList a vs) (k : Kp h h') : h'.IsList a vs :=
 let ⟨o, ho, hc, n, r⟩ := x; ⟨o, (k _ _ ho (q27 hc)).eq (qm0 r), hc, n, r⟩
theorem q71 {h h' : Heap} {a : Addr} {v} (x : h.IsCell a v) (k : Kp h h') : h'.IsCell a v :=
 let ⟨o, ho, hd⟩ := x; ⟨o, (k _ _ ho (q12 hd)).eq (q20 hd), hd⟩
theorem q19 {h h' : Heap} (x : h.NoLimit) (k : Kp h h') : h'.NoLimit :=
 let ⟨mc, a, b⟩ := x; ⟨mc, ns_kp a k, b⟩
noncomputable def LstAt (h : Heap) (a : Addr) (vs : Array Value) : Prop := ∃ n, h.get? a = some { cls := .type "list", dict := none, data := .seq vs n, slots := #[] }
noncomputable def TupAt (h : Heap) (a : Addr) (vs : Array Value) : Prop := ∃ n, h.get? a = some { cls := .type "tuple", dict := none, data := .seq vs n, slots := #[] }
theorem LstAt.isList {h : Heap} {a : Addr} {vs} (x : LstAt h a vs) : h.IsList a vs := let ⟨n, e⟩ := x; ⟨_, e, rfl, n, rfl⟩
theorem TupAt.isTuple {h : Heap} {a : Addr} {vs} (x : TupAt h a vs) : h.IsTuple a vs := let ⟨n, e⟩ := x; ⟨_, e, rfl, n, rfl⟩
theorem LstAt.kp {h h' : Heap} {a : Addr} {vs} (x : LstAt h a vs) (k : Kp h h') : LstAt h' a vs := let ⟨n, e⟩ := x; ⟨n, k _ _ e rfl⟩
theorem LstAt.new (h : Heap) (vs : Array Value) : LstAt (h.push { cls := .type "list", data := .seq vs }) h.objs.size vs := ⟨0, Heap.get?_push_size _ rfl⟩
theorem TupAt.new (h : Heap) (vs : Array Value) : TupAt (h.push { cls := .type "tuple", data := .seq vs }) h.objs.size vs := ⟨0, Heap.get?_push_size _ rfl⟩
theorem LstAt.lo {h : Heap} {a : Addr} {vs} (x : LstAt h a vs) : ∃ o, h.get? a = some o ∧ isLo o = false := let ⟨_, e⟩ := x; ⟨_, e, rfl⟩
theorem LstAt.some {h : Heap} {a : Addr} {vs} (x : LstAt h a vs) : ∃ o, h.get? a = some o ∧ isTab o = false := let ⟨_, e⟩ := x; ⟨_, e, rfl⟩
inductive PV where
 | none
 | bool (b : Bool)
 | int (i : Int)
 | str (s : List Nat)
 | list (xs : List PV)
 | tup (xs : List PV)
 | rng (a b : Int)
 | obj (a : Nat)
noncomputable def IsRng (h : Heap) (a : Addr) (x y : Int) : Prop := ∃ t u v, h.get? a = some { cls := .type "range", dict := none, data := .fields #[.int x t, .int y u, .int 1 v], slots := #[] }
noncomputable def IsObj (h : Heap) (a : Addr) : Prop := ∃ o, h.get? a = some o ∧ o.cls = .type "object"
mutual
inductive Den (H : List Addr) (h : Heap) : Value → PV → Prop
 | none : Den H h .none .none
 | bool (b) : Den H h (.bool b) (.bool b)
 | int (i t) : Den H h (.int i t) (.int i)
 | str (s t) : Den H h (.str ⟨List.toArray s⟩ t) (.str s)
 | list {a vs xs} : a ∉ H → LstAt h a vs → Dens H h vs.toList xs → Den H h (.ref a) (.list xs)
 | tup {a vs xs} : a ∉ H → TupAt h a vs → Dens H h vs.toList xs → Den H h (.ref a) (.tup xs)
 | rng {a x y} : a ∉ H → IsRng h a x y → Den H h (.ref a) (.rng x y)
 | obj {a} : a ∉ H → IsObj h a → Den H h (.ref a) (.obj a)
inductive Dens (H : List Addr) (h : Heap) : List Value → List PV → Prop
 | nil : Dens H h [] []
 | cons {v vs x xs} : Den H h v x → Dens H h vs xs → Dens H h (v :: vs) (x :: xs)
end
theorem Den.i {H : List Addr} {h : Heap} {i : Int} {motive : (V : Value) → Den H h V (.int i) → Prop} (int : ∀ t, motive _ (.int i t)) {V : Value} (d : Den H h V (.int i)) : motive V d := by cases d; exact int _
theorem Den.s {H : List Addr} {h : Heap} {s : List Nat} {motive : (V : Value) → Den H h V (.str s) → Prop} (str : ∀ t, motive _ (.str s t)) {V : Value} (d : Den H h V (.str s)) : motive V d := by cases d; exact str _
theorem Den.b {H : List Addr} {h : Heap} {b : Bool} {motive : (V : Value) → Den H h V (.bool b) → Prop} (bool : motive _ (.bool b)) {V : Value} (d : Den H h V (.bool b)) : motive V d := by cases d; exact bool
theorem Den.l {H : List Addr} {h : Heap} {xs : List PV} {motive : (V : Value) → Den H h V (.list xs) → Prop} (list : ∀ {a vs} (ha : a ∉ H) (hl : LstAt h a vs) (hd : Dens H h vs.toList xs), motive _ (.list ha hl hd)) {V : Value} (d : Den H h V (.list xs)) : motive V d := by cases d; apply list <;> assumption
theorem Den.t {H : List Addr} {h : Heap} {xs : List PV} {motive : (V : Value) → Den H h V (.tup xs) → Prop} (tup : ∀ {a vs} (ha : a ∉ H) (hl : TupAt h a vs) (hd : Dens H h vs.toList xs), motive _ (.tup ha hl hd)) {V : Value} (d : Den H h V (.tup xs)) : motive V d := by cases d; apply tup <;> assumption
theorem Den.r {H : List Addr} {h : Heap} {x y : Int} {motive : (V : Value) → Den H h V (.rng x y) → Prop} (rng : ∀ {a} (ha : a ∉ H) (hl : IsRng h a x y), motive _ (.rng ha hl)) {V : Value} (d : Den H h V (.rng x y)) : motive V d := by cases d; apply rng <;> assumption
theorem Den.o {H : List Addr} {h : Heap} {a : Addr} {motive : (V : Value) → Den H h V (.obj a) → Prop} (obj : ∀ (ha : a ∉ H) (hl : IsObj h a), motive _ (.obj ha hl)) {V : Value} (d : Den H h V (.obj a)) : motive V d := by cases d; apply obj <;> assumption
theorem qe6 {H : List Addr} {h h' : Heap} {a : Addr} {vs} (x : LstAt h a vs) (k : KpH H h h') (ha : a ∉ H) : LstAt h' a vs :=
 let ⟨n, ho⟩ := x; ⟨n, k _ _ ha ho rfl⟩
theorem qc4 {H : List Addr} {h h' : Heap} {a : Addr} {vs} (x : TupAt h a vs) (k : KpH H h h') (ha : a ∉ H) : TupAt h' a vs :=
 let ⟨n, ho⟩ := x; ⟨n, k _ _ ha ho rfl⟩
theorem qx3 {H : List Addr} {h h' : Heap} {a : Addr} {x y} (z : IsRng h a x y) (k : KpH H h h') (ha : a ∉ H) : IsRng h' a x y :=
 let ⟨t, u, v, ho⟩ := z; ⟨t, u, v, k _ _ ha ho rfl⟩
theorem qx4 {H : List Addr} {h h' : Heap} {a : Addr} (z : IsObj h a) (k : KpH H h h') (ha : a ∉ H) : IsObj h' a :=
 let ⟨o, ho, hc⟩ := z; let ⟨_, e⟩ := (k _ _ ha ho (q27 hc)).sl; ⟨_, e, hc⟩
noncomputable def Nw (h : Heap) (a : Addr) : Prop := ∀ o, h.get? a = some o → isTab o = true
theorem Nw.none {h : Heap} {a : Addr} (e : h.get? a = Option.none) : Nw h a := fun o q => by cases e.symm.trans q
theorem Den.kpN {H H' : List Addr} {h h' : Heap} (k : KpH H h h') (sub : ∀ a, a ∈ H' → a ∈ H ∨ Nw h a) {V : Value} {v : PV} (d : Den H h V v) : Den H' h' V v :=
 Den.rec (motive_1 := fun V v _ => Den H' h' V v) (motive_2 := fun V v _ => Dens H' h' V v) .none .bool .int .str
  (fun ha hl _ ih => .list (fun hx => (sub _ hx).elim ha fun q => by obtain ⟨_, ho⟩ := hl; exact Bool.noConfusion (q _ ho)) (qe6 hl k ha) ih)
  (fun ha hl _ ih => .tup (fun hx => (sub _ hx).elim ha fun q => by obtain ⟨_, ho⟩ := hl; exact Bool.noConfusion (q _ ho)) (qc4 hl k ha) ih)
  (fun ha hr => .rng (fun hx => (sub _ hx).elim ha fun q => by obtain ⟨_, _, _, ho⟩ := hr; exact Bool.noConfusion (q _ ho)) (qx3 hr k ha))
  (fun ha hr => .obj (fun hx => (sub _ hx).elim ha fun q => by obtain ⟨o, ho, hc⟩ := hr; exact Bool.noConfusion ((q27 hc).symm.trans (q _ ho))) (qx4 hr k ha))
  .nil (fun _ _ a b => .cons a b) d
theorem Dens.cn {H : List Addr} {h : Heap} {x : PV} {xs : List PV} {motive : (V : List Value) → Dens H h V (x :: xs) → Prop} (cons : ∀ {v vs} (a : Den H h v x) (b : Dens H h vs xs), motive (v :: vs) (.cons a b)) {V : List Value} (d : Dens H h V (x :: xs)) : motive V d := by cases d; apply cons <;> assumption
theorem Dens.nl {H : List Addr} {h : Heap} {motive : (V : List Value) → Dens H h V [] → Prop} (nil : motive [] .nil) {V : List Value} (d : Dens H h V []) : motive V d := by cases d; exact nil
theorem Dens.ind {H : List Addr} {h : Heap} {M : List Value → List PV → Prop} (n : M [] []) (c : ∀ {v vs x xs}, Den H h v x → Dens H h vs xs → M vs xs → M (v :: vs) (x :: xs)) {Vs : List Value} {vs : List PV} (d : Dens H h Vs vs) : M Vs vs :=
 Dens.rec (motive_1 := fun _ _ _ => True) (motive_2 := fun Vs vs _ => M Vs vs) trivial (fun _ => trivial) (fun _ _ => trivial) (fun _ _ => trivial) (fun _ _ _ _ => trivial) (fun _ _ _ _ => trivial) (fun _ _ => trivial) (fun _ _ => trivial) n (fun a b _ ih => c a b ih) d
theorem Dens.kpN {H H' : List Addr} {h h' : Heap} (k : KpH H h h') (sub : ∀ a, a ∈ H' → a ∈ H ∨ Nw h a) {Vs : List Value} {vs : List PV} (d : Dens H h Vs vs) : Dens H' h' Vs vs :=
 d.ind .nil fun a _ ih => .cons (a.kpN k sub) ih
theorem Den.kpH {H H' : List Addr} {h h' : Heap} (k : KpH H h h') (sub : ∀ a, a ∈ H' → a ∈ H ∨ h.get? a = Option.none) {V : Value} {v : PV} (d : Den H h V v) : Den H' h' V v := d.kpN k fun a m => (sub a m).imp id Nw.none
theorem Dens.kpH {H H' : List Addr} {h h' : Heap} (k : KpH H h h') (sub : ∀ a, a ∈ H' → a ∈ H ∨ h.get? a = Option.none) {V : List Value} {v : List PV} (d : Dens H h V v) : Dens H' h' V v := d.kpN k fun a m => (sub a m).imp id Nw.none
theorem Den.kp {H : List Addr} {h h' : Heap} (k : Kp h h') {V : Value} {v : PV} (d : Den H h V v) : Den H h' V v := d.kpH (k.toH H) fun _ h => .inl h
theorem Dens.kp {H : List Addr} {h h' : Heap} (k : Kp h h') {V : List Value} {v : List PV} (d : Dens H h V v) : Dens H h' V v := d.kpH (k.toH H) fun _ h => .inl h
theorem Dens.length {H : List Addr} {h : Heap} {Vs : List Value} {vs : List PV} (d : Dens H h Vs vs) : Vs.length = vs.length :=
 d.ind (M := fun Vs vs => Vs.length = vs.length) rfl fun _ _ ih => congrArg (· + 1) ih
theorem Dens.get {H : List Addr} {h : Heap} {Vs : List Value} {vs : List PV} (d : Dens H h Vs vs) : ∀ {i : Nat} {v : PV}, vs[i]? = some v → ∃ V, Vs[i]? = some V ∧ Den H h V v :=
 d.ind (M := fun Vs vs => ∀ {i : Nat} {v : PV}, vs[i]? = some v → ∃ V, Vs[i]? = some V ∧ Den H h V v) (fun e => by simp at e) fun a _ ih i v e => by
  cases i with
  | zero => cases e; exact ⟨_, rfl, a⟩
  | succ i => exact ih e
theorem Dens.getV {H : List Addr} {h : Heap} {Vs : List Value} {vs : List PV} (d : Dens H h Vs vs) : ∀ {i : Nat} {V : Value}, Vs[i]? = some V → ∃ v, vs[i]? = some v ∧ Den H h V v :=
 d.ind (M := fun Vs vs => ∀ {i : Nat} {V : Value}, Vs[i]? = some V → ∃ v, vs[i]? = some v ∧ Den H h V v) (fun e => by simp at e) fun a _ ih i v e => by
  cases i with
  | zero => cases e; exact ⟨_, rfl, a⟩
  | succ i => exact ih e
theorem Dens.append {H : List Addr} {h : Heap} {Vs Ws : List Value} {vs ws : List PV} (d : Dens H h Vs vs) (y : Dens H h Ws ws) : Dens H h (Vs ++ Ws) (vs ++ ws) :=
 d.ind (M := fun Vs vs => Dens H h (Vs ++ Ws) (vs ++ ws)) y fun a _ ih => .cons a ih
theorem Dens.take {H : List Addr} {h : Heap} {Vs : List Value} {vs : List PV} (d : Dens H h Vs vs) : ∀ n, Dens H h (Vs.take n) (vs.take n) :=
 d.ind (M := fun Vs vs => ∀ n, Dens H h (Vs.take n) (vs.take n)) (fun n => by cases n <;> exact .nil) fun a _ ih n => by
  cases n with
  | zero => exact .nil
  | succ n => exact .cons a (ih n)
theorem Dens.drop {H : List Addr} {h : Heap} {Vs : List Value} {vs : List PV} (d : Dens H h Vs vs) : ∀ n, Dens H h (Vs.drop n) (vs.drop n) :=
 d.ind (M := fun Vs vs => ∀ n, Dens H h (Vs.drop n) (vs.drop n)) (fun n => by cases n <;> exact .nil) fun a b ih n => by
  cases n with
  | zero => exact .cons a b
  | succ n => exact ih n
noncomputable def TabOK (h : Heap) (P : Addr) (es : List (Pos × Str)) : Prop :=
 ∃ ps, h.get? P = some (PySem.W.tabObj ps) ∧ TriplesOk ps.toList ∧ ∀ e ∈ es, codeAmong e.1 ps.toList = none ∨
  ∃ c' o vs t, codeAmong e.1 ps.toList = some (.ref c') ∧ h.get? c' = some o ∧ o.cls = .type "code" ∧ o.data = .fields vs ∧ vs[1]? = some (.str e.2 t)
theorem TabOK.keep {h h' : Heap} {P : Addr} {es : List (Pos × Str)} (x : TabOK h P es) (k : ∀ b o, h.get? b = some o → isTab o = true → h'.get? b = some o) : TabOK h' P es := by
 obtain ⟨ps, h1, h2, h3⟩ := x
 refine ⟨ps, k _ _ h1 rfl, h2, fun e he => ?_⟩
 rcases h3 e he with q | ⟨c', o, vs, t, e1, e2, e3, e4, e5⟩
 ·exact .inl q
 exact .inr ⟨c', o, vs, t, e1, k _ _ e2 (by unfold isTab; rw [e3, e4]; rfl), e3, e4, e5⟩
structure Cx where
 prog : Program
 w : World
 hB : Heap
 os : OsState
 mg : Str → Option Value
 mb : Str → Option Value
 tabs : List (Addr × List (Pos × Str))
 stk : List Addr
 g : hB.Ns mainGlobals mg
 b : hB.Ns builtinsNs mb
 builtins : ∀ x : Str, x ≠ "__name__" → mb x = bootBuiltins x
 nolimit : hB.NoLimit
structure Cx.Ok (Γ : Cx) (s : Shared) : Prop where
 base : ∀ b o, Γ.hB.get? b = some o → isTb o = false → s.heap.get? b = some o
 tabs : ∀ p ∈ Γ.tabs, TabOK s.heap p.1 p.2
 gens : AllBare s.gens
 os : s.os = Γ.os
 all : ∀ b, Γ.hB.get? b ≠ none → s.heap.get? b ≠ none
 frs : ∀ L ∈ Γ.stk, ∃ o, s.heap.get? L = some o ∧ isFr o = true
 off : ∀ L ∈ Γ.stk, Γ.hB.get? L = none
 old : ∀ b o, Γ.hB.get? b = some o → (∀ p ∈ Γ.tabs, p.1 ≠ b) → s.heap.get? b = some o
theorem Cx.Ok.kb {Γ : Cx} {s : Shared} (ok : Γ.Ok s) : Kp Γ.hB s.heap := fun b o e t => .of (ok.base b o e (q42 t))
theorem Cx.Ok.keeps {Γ : Cx} {s : Shared} (ok : Γ.Ok s) {h' : Heap} {t : Nat} (k : ∀ b o, s.heap.get? b = some o → h'.get? b = some o) : Γ.Ok { s with heap := h', toks := t } :=
 ⟨fun b o e t => k b o (ok.base b o e t), fun p hp => (ok.tabs p hp).keep fun b o e _ => k b o e, ok.gens, ok.os, fun b hb => by
  obtain ⟨o, ho⟩ := Option.ne_none_iff_exists'.mp (ok.all b hb)
  rw [show ({ s with heap := h', toks := t } : Shared).heap = h' from rfl, k _ _ ho]; simp,
  fun L hL => let ⟨o, ho, hf⟩ := ok.frs L hL; ⟨o, k _ _ ho, hf⟩, ok.off, fun b o e t => k b o (ok.old b o e t)⟩
theorem Cx.Ok.toks {Γ : Cx} {s : Shared} (ok : Γ.Ok s) {t : Nat} : Γ.Ok { s with toks := t } := ok.keeps fun _ _ e => e
structure Room (Γ : Cx) (A : Around) (n : Nat) : Prop where
 frames : ∃ l : List Env, A.frames = some l ∧ l.map (·.frame) = Γ.stk.map some ∧ ∀ env ∈ l, env.scope.kind ≠ .module
 handled : A.handled = none
 depth : A.depth + 4 * n ≤ 900
 units : A.units + 64 * n + 200 ≤ 9900
noncomputable def Live (H : List Addr) (h : Heap) : Prop := ∀ a ∈ H, ∃ o, h.get? a = some o ∧ isTab o = false
theorem Live.kp {H : List Addr} {h h' : Heap} (l : Live H h) (k : Kp h h') : Live H h' := fun a ha => let ⟨o, ho, ht⟩ := l a ha; let ⟨_, e⟩ := (k _ _ ho ht).sl; ⟨_, e, ht⟩
theorem Live.fresh {H : List Addr} {h : Heap} (l : Live H h) {a : Addr} (e : h.get? a = none) : a ∉ H := fun ha => by
 obtain ⟨o, ho, _⟩ := l a ha; rw [e] at ho; exact absurd ho.symm (Option.some_ne_none _)
theorem q00 (h : Heap) : h.get? h.objs.size = none := Heap.get?_none_of_le (Nat.le_refl _)
theorem Live.size {H : List Addr} {h : Heap} (l : Live H h) : h.objs.size ∉ H := l.fresh (q00 h)
inductive RV where
 | pv (v : PV)
 | ptr (k : Nat)
 | app (k : Nat)
structure St where
 v : List (String × RV)
 o : List (Nat × List PV)
noncomputable def At (env : Env) (h : Heap) (x : String) (V : Value) : Prop :=
 (env.kindOf (Str.ofString x) = some .local ∧ ∃ m, h.Ns env.locals m ∧ m (Str.ofString x) = some V) ∨
 ((env.kindOf (Str.ofString x) = some .cell ∨ (env.kindOf (Str.ofString x) = some .free ∧ (Str.ofString x == ("__classdict__" : Str)) = false)) ∧ ∃ c, env.cells.lookup (Str.ofString x) = some c ∧ h.IsCell c (some V))
theorem At.kp {env : Env} {h h' : Heap} {x : String} {V : Value} (a : At env h x V) (k : Kp h h') : At env h' x V :=
 a.imp (fun ⟨e, m, hn, hm⟩ => ⟨e, m, ns_kp hn k, hm⟩) fun ⟨e, c, hc, hv⟩ => ⟨e, c, hc, q71 hv k⟩
noncomputable def qe8 (a : Addr) : Obj := { cls := .type "builtin_function_or_method", data := .fields #[.builtin "list.append", .ref a] }
noncomputable def DenR (φ : Nat → Addr) (H : List Addr) (h : Heap) (V : Value) : RV → Prop
 | .pv v => Den H h V v
 | .ptr k => V = .ref (φ k)
 | .app k => ∃ b, V = .ref b ∧ b ∉ H ∧ h.get? b = some (qe8 (φ k))
theorem DenR.kp {φ : Nat → Addr} {H : List Addr} {h h' : Heap} {V : Value} (k : Kp h h') : ∀ {r : RV}, DenR φ H h V r → DenR φ H h' V r
 | .pv _, d => Den.kp k d
 | .ptr _, d => d
 | .app _, ⟨b, e, hb, hg⟩ => ⟨b, e, hb, k _ _ hg rfl⟩
structure EnvOK (env : Env) (φ : Nat → Addr) (H : List Addr) (σ : St) (h : Heap) : Prop where
 vars : ∀ x r, (x, r) ∈ σ.v → ∃ V, At env h x V ∧ DenR φ H h V r
 own : ∀ k xs, (k, xs) ∈ σ.o → φ k ∈ H ∧ ∃ vs, LstAt h (φ k) vs ∧ Dens H h vs.toList xs
 cells : ∀ x c, env.cells.lookup x = some c → ∃ v, h.IsCell c v
theorem EnvOK.kp {env : Env} {φ : Nat → Addr} {H : List Addr} {σ : St} {h h' : Heap} (x : EnvOK env φ H σ h) (k : Kp h h') : EnvOK env φ H σ h' :=
 ⟨fun y r m => let ⟨V, a, d⟩ := x.vars y r m; ⟨V, a.kp k, d.kp k⟩, fun j xs m => let ⟨a, vs, l, d⟩ := x.own j xs m; ⟨a, vs, l.kp k, d.kp k⟩, fun y c e => let ⟨v, hv⟩ := x.cells y c e; ⟨v, q71 hv k⟩⟩
structure EnvG (env : Env) : Prop where
 kind : env.scope.kind = .function
 globals : env.globals = mainGlobals
 builtins : env.builtins = builtinsNs
structure EvP (Γ : Cx) (n : Nat) (env : Env) (σ : St) {α : Type} (t : Sem α) (P : (Nat → Addr) → List Addr → Heap → α → Prop) : Prop where
 run : ∀ (A : Around) (E : Value → Shared → Prop) (s : Shared) (φ : Nat → Addr) (H : List Addr), Room Γ A n → Γ.Ok s → Live H s.heap → EnvOK env φ H σ s.heap →
  ∀ Q : α → Shared → Prop, (∀ V s', Kp s.heap s'.heap → Γ.Ok s' → P φ H s'.heap V → Q V s') → wpAny (model Γ.prog Γ.w) A t Q E s
noncomputable def PR (r : RV) : (Nat → Addr) → List Addr → Heap → Value → Prop := fun φ H h V => DenR φ H h V r
noncomputable def PL (xs : List PV) : (Nat → Addr) → List Addr → Heap → Value → Prop := fun _ H h V => ∃ a vs, V = .ref a ∧ LstAt h a vs ∧ Dens H h vs.toList xs
noncomputable def PB (b : Bool) : (Nat → Addr) → List Addr → Heap → Bool → Prop := fun _ _ _ c => c = b
noncomputable abbrev Ev (Γ : Cx) (n : Nat) (env : Env) (σ : St) (e : Expr) (r : RV) : Prop := EvP Γ n env σ (eval e env) (PR r)
noncomputable abbrev EvL (Γ : Cx) (n : Nat) (env : Env) (σ : St) (e : Expr) (xs : List PV) : Prop := EvP Γ n env σ (eval e env) (PL xs)
noncomputable abbrev Evb (Γ : Cx) (n : Nat) (env : Env) (σ : St) (e : Expr) (b : Bool) : Prop := EvP Γ n env σ (isTrue e env (eval e env)) (PB b)
section
variable {Γ : Cx} {n : Nat} {env : Env} {σ : St}
theorem EvL.of_list {e : Expr} {xs : List PV} (h : Ev Γ n env σ e (.pv (.list xs))) : EvL Γ n env σ e xs :=
 .mk fun A E s φ H R ok lv eo Q k => h.run A E s φ H R ok lv eo Q fun V s' k1 ok1 d => k V s' k1 ok1 (by cases d using Den.l with | list ha hl hd => exact ⟨_, _, rfl, hl, hd⟩)
theorem q04 {A : Around} {E : Value → Shared → Prop} {s : Shared} {x : String} {V : Value} {Q : Value → Shared → Prop} {M : Model} (hk : env.scope.kind = .function) (a : At env s.heap x V) (h : Q V s) :
  wpAny M A (loadName env (Str.ofString x)) Q E s := by
 rcases a with ⟨e, m, hn, hm⟩ | ⟨e | ⟨e, e'⟩, c, hc, hv⟩
 ·exact wpAny_loadName_local hk e hn hm h
 ·exact wpAny_loadName_cell hk e hc hv h
 exact wpAny_loadName_free hk e hc hv h e'
theorem Ev.var {x : String} {pos : Pos} {r : RV} (G : EnvG env) (hm : (x, r) ∈ σ.v) (hd : (Str.ofString x == ("__debug__" : Str)) = false := by decide) : Ev Γ n env σ (.Name (Str.ofString x) pos) r :=
 .mk fun A E s φ H R ok lv eo Q k => by
  obtain ⟨V, a, d⟩ := eo.vars _ _ hm
  exact wpAny_Name (q04 G.kind a (k V s (Kp.refl _) ok d)) hd
theorem EvL.own {x : String} {pos : Pos} {j : Nat} {xs : List PV} (G : EnvG env) (hm : (x, RV.ptr j) ∈ σ.v) (ho : (j, xs) ∈ σ.o) (hd : (Str.ofString x == ("__debug__" : Str)) = false := by decide) : EvL Γ n env σ (.Name (Str.ofString x) pos) xs :=
 .mk fun A E s φ H R ok lv eo Q k => by
  obtain ⟨V, a, d⟩ := eo.vars _ _ hm
  obtain ⟨_, vs, hl, hd'⟩ := eo.own _ _ ho
  exact wpAny_Name (q04 G.kind a (k V s (Kp.refl _) ok ⟨_, _, d, hl, hd'⟩)) hd
theorem Ev.int {i : Int} {k : Nat} {pos : Pos} : Ev Γ n env σ (.Constant (.int i) k pos) (.pv (.int i)) :=
 .mk fun A E s φ H R ok lv eo Q k => wpAny_Constant_int (k _ _ (Kp.refl _) ok.toks (.int i _))
theorem Ev.constNone {k : Nat} {pos : Pos} : Ev Γ n env σ (.Constant .none k pos) (.pv .none) :=
 .mk fun A E s φ H R ok lv eo Q k => fun _ _ _ => (k _ _ (Kp.refl _) ok .none)
theorem Ev.bool {b : Bool} {k : Nat} {pos : Pos} : Ev Γ n env σ (.Constant (.bool b) k pos) (.pv (.bool b)) :=
 .mk fun A E s φ H R ok lv eo Q k => fun _ _ _ => (k _ _ (Kp.refl _) ok (.bool b))
theorem Ev.str {x : Str} {l : List Nat} {k : Nat} {pos : Pos} (hx : x = ⟨l.toArray⟩) : Ev Γ n env σ (.Constant (.str x) k pos) (.pv (.str l)) :=
 .mk fun A E s φ H R ok lv eo Q k => by
  subst hx
  exact fun _ _ _ => (k _ _ (Kp.refl _) ok.toks (.str l _))
theorem EvP.two {α : Type} {ta tb : Sem Value} {f : Value → Value → Sem α} {Pa Pb : (Nat → Addr) → List Addr → Heap → Value → Prop} {P : (Nat → Addr) → List Addr → Heap → α → Prop} {t : Sem α}
  (ht : ∀ (A : Around) (E : Value → Shared → Prop) (s : Shared) (Q : α → Shared → Prop), wpAny (model Γ.prog Γ.w) A ta (fun a s₁ => wpAny (model Γ.prog Γ.w) A tb (fun b s₂ => wpAny (model Γ.prog Γ.w) A (f a b) Q E s₂) E s₁) E s → wpAny (model Γ.prog Γ.w) A t Q E s)
  (ma : ∀ φ H h h' V, Kp h h' → Pa φ H h V → Pa φ H h' V)
  (ha : EvP Γ n env σ ta Pa) (hb : EvP Γ n env σ tb Pb)
  (hf : ∀ (A : Around) (E : Value → Shared → Prop) (s : Shared) (φ : Nat → Addr) (H : List Addr) V W, Room Γ A n → Γ.Ok s → Live H s.heap → EnvOK env φ H σ s.heap → Pa φ H s.heap V → Pb φ H s.heap W →
   ∀ Q : α → Shared → Prop, (∀ V s', Kp s.heap s'.heap → Γ.Ok s' → P φ H s'.heap V → Q V s') → wpAny (model Γ.prog Γ.w) A (f V W) Q E s) : EvP Γ n env σ t P :=
 .mk fun A E s φ H R ok lv eo Q k => ht A E s Q <| ha.run A E s φ H R ok lv eo _ fun V s1 k1 ok1 d1 => hb.run A E s1 φ H R ok1 (lv.kp k1) (eo.kp k1) _ fun W s2 k2 ok2 d2 =>
  hf A E s2 φ H V W R ok2 (lv.kp (k1.trans k2)) (eo.kp (k1.trans k2)) (ma _ _ _ _ _ k2 d1) d2 Q fun X s3 k3 ok3 d3 => k X s3 ((k1.trans k2).trans k3) ok3 d3
theorem PR.mono (r : RV) : ∀ φ H h h' V, Kp h h' → PR r φ H h V → PR r φ H h' V := fun _ _ _ _ _ k d => DenR.kp k d
theorem PL.mono (xs : List PV) : ∀ φ H h h' V, Kp h h' → PL xs φ H h V → PL xs φ H h' V := fun _ _ _ _ _ k ⟨a, vs, e, l, d⟩ => ⟨a, vs, e, l.kp k, d.kp k⟩
theorem Ev.bin {op : Operator} {l r : Expr} {pos : Pos} {Pa Pb P} (ma : ∀ φ H h h' V, Kp h h' → Pa φ H h V → Pa φ H h' V) (ha : EvP Γ n env σ (eval l env) Pa) (hb : EvP Γ n env σ (eval r env) Pb)
  (hf : ∀ (A : Around) (E : Value → Shared → Prop) (s : Shared) (φ : Nat → Addr) (H : List Addr) V W, Room Γ A n → Γ.Ok s → Live H s.heap → EnvOK env φ H σ s.heap → Pa φ H s.heap V → Pb φ H s.heap W →
   ∀ Q : Value → Shared → Prop, (∀ V s', Kp s.heap s'.heap → Γ.Ok s' → P φ H s'.heap V → Q V s') → wpAny (model Γ.prog Γ.w) A (binaryOp op V W) Q E s) : EvP Γ n env σ (eval (.BinOp l op r pos) env) P :=
 EvP.two (fun _ _ _ _ h => wpAny_BinOp h) ma ha hb hf
theorem Ev.add_int {l r : Expr} {pos : Pos} {a b : Int} (ha : Ev Γ n env σ l (.pv (.int a))) (hb : Ev Γ n env σ r (.pv (.int b))) : Ev Γ n env σ (.BinOp l .Add r pos) (.pv (.int (a + b))) :=
 Ev.bin (PR.mono _) ha hb fun A E s φ H V W R ok lv eo d1 d2 Q k => by
  cases d1 using Den.i; cases d2 using Den.i
  exact wpAny_add_int (k _ _ (Kp.refl _) ok.toks (.int _ _))
end
end Mine
namespace Mine
noncomputable abbrev Pred (α : Type) := (Nat → Addr) → List Addr → Heap → α → Prop
noncomputable def MonoP {α : Type} (P : Pred α) : Prop := ∀ φ H h h' V, Kp h h' → P φ H h V → P φ H h' V
theorem mR (r : RV) : MonoP (PR r) := PR.mono r
theorem mL (xs : List PV) : MonoP (PL xs) := PL.mono xs
inductive Ty where
 | int | str | bool
 | list (t : Ty)
noncomputable def Ty.depth : Ty → Nat
 | .list t => t.depth + 1
 | _ => 0
noncomputable def HasTy : Ty → PV → Prop
 | .int, .int _ => True
 | .str, .str _ => True
 | .bool, .bool _ => True
 | .list t, .list xs => ∀ x ∈ xs, HasTy t x
 | _, _ => False
noncomputable def eqp : Ty → PV → PV → Bool
 | .int, .int a, .int b => a == b
 | .str, .str a, .str b => a == b
 | .bool, .bool a, .bool b => a == b
 | .list t, .list xs, .list ys => xs.length == ys.length && (xs.zip ys).all fun p => eqp t p.1 p.2
 | _, _, _ => false
theorem eqp_l (t : Ty) (xs ys : List PV) : eqp (.list t) (.list xs) (.list ys) = (xs.length == ys.length && (xs.zip ys).all fun p => eqp t p.1 p.2) := rfl
theorem HasTy.i {v : PV} (h : HasTy .int v) : ∃ a, v = .int a := by cases v <;> first | exact ⟨_, rfl⟩ | exact False.elim h
theorem HasTy.s {v : PV} (h : HasTy .str v) : ∃ a, v = .str a := by cases v <;> first | exact ⟨_, rfl⟩ | exact False.elim h
theorem HasTy.b {v : PV} (h : HasTy .bool v) : ∃ a, v = .bool a := by cases v <;> first | exact ⟨_, rfl⟩ | exact False.elim h
theorem HasTy.l {t : Ty} {v : PV} (h : HasTy (.list t) v) : ∃ a, v = .list a := by cases v <;> first | exact ⟨_, rfl⟩ | exact False.elim h
theorem q79 {α : Type} (e : α → α → Bool) : ∀ (xs ys : List α), xs.length = ys.length → (∀ x ∈ xs, ∀ y ∈ ys, (e x y = true ↔ x = y)) → ((xs.zip ys).all (fun p => e p.1 p.2) = true ↔ xs = ys)
 | [], [], _, _ => by simp
 | [], _ :: _, h, _ => by simp at h
 | _ :: _, [], h, _ => by simp at h
 | x :: xs, y :: ys, h, k => by
  haveI ih := q79 e xs ys (by simpa using h) fun a ha b hb => k a (.tail _ ha) b (.tail _ hb)
  simp only [List.zip_cons_cons, List.all_cons, Bool.and_eq_true, k x (.head _) y (.head _), ih, List.cons.injEq]
theorem qg3 : ∀ (t : Ty) (v w : PV), HasTy t v → HasTy t w → (eqp t v w = true ↔ v = w) := by
 intro t
 induction t with
 | int =>
  intro v w hv hw
  obtain ⟨a, rfl⟩ := HasTy.i hv; obtain ⟨b, rfl⟩ := HasTy.i hw; exact ⟨fun h => congrArg _ (eq_of_beq h), fun h => by cases h; exact beq_self_eq_true _⟩
 | str =>
  intro v w hv hw
  obtain ⟨a, rfl⟩ := HasTy.s hv; obtain ⟨b, rfl⟩ := HasTy.s hw; exact ⟨fun h => congrArg _ (eq_of_beq h), fun h => by cases h; exact beq_self_eq_true _⟩
 | bool =>
  intro v w hv hw
  obtain ⟨a, rfl⟩ := HasTy.b hv; obtain ⟨b, rfl⟩ := HasTy.b hw; exact ⟨fun h => congrArg _ (eq_of_beq h), fun h => by cases h; exact beq_self_eq_true _⟩
 | list t iht =>
  intro v w hv hw
  obtain ⟨xs, rfl⟩ := HasTy.l hv
  obtain ⟨ys, rfl⟩ := HasTy.l hw; haveI hv : ∀ x ∈ xs, HasTy _ x := hv; haveI hw : ∀ x ∈ ys, HasTy _ x := hw
  simp only [eqp_l, Bool.and_eq_true, beq_iff_eq, PV.list.injEq]
  constructor
  ·rintro ⟨hl, h⟩
   exact (q79 (eqp t) xs ys hl fun x hx y hy => iht x y (hv x hx) (hw y hy)).mp h
  rintro rfl
  exact ⟨rfl, (q79 (eqp t) xs xs rfl fun x hx y hy => iht x y (hv x hx) (hw y hy)).mpr rfl⟩
theorem z25 {t : Ty} {v : PV} (h : HasTy t v) : eqp t v v = true := (qg3 t v v h h).mpr rfl
theorem qy6 {H H' : List Addr} {h : Heap} : ∀ (t : Ty) {V : Value} {v w : PV}, HasTy t v → HasTy t w → Den H h V v → Den H' h V w → v = w := by
 intro t
 induction t with
 | int =>
  intro V v w hv hw d d'
  obtain ⟨a, rfl⟩ := HasTy.i hv; obtain ⟨b, rfl⟩ := HasTy.i hw; cases d using Den.i; cases d' using Den.i; rfl
 | str =>
  intro V v w hv hw d d'
  obtain ⟨a, rfl⟩ := HasTy.s hv; obtain ⟨b, rfl⟩ := HasTy.s hw; cases d using Den.s
  generalize hx : (⟨List.toArray a⟩ : Str) = x at d'
  cases d' using Den.s
  have : a = b := by simpa using hx
  rw [this]
 | bool =>
  intro V v w hv hw d d'
  obtain ⟨a, rfl⟩ := HasTy.b hv; obtain ⟨b, rfl⟩ := HasTy.b hw; cases d using Den.b; cases d' using Den.b; rfl
 | list t iht =>
  intro V v w hv hw d d'
  obtain ⟨xs, rfl⟩ := HasTy.l hv
  obtain ⟨ys, rfl⟩ := HasTy.l hw; haveI hv : ∀ x ∈ xs, HasTy _ x := hv; haveI hw : ∀ x ∈ ys, HasTy _ x := hw
  cases d using Den.l with
  | list ha hl hd =>
   cases d' using Den.l with
   | list ha' hl' hd' =>
    obtain ⟨n, e⟩ := hl; obtain ⟨n', e'⟩ := hl'
    rw [e] at e'; cases e'
    suffices ∀ (Vs : List Value) (xs ys : List PV), (∀ x ∈ xs, HasTy t x) → (∀ x ∈ ys, HasTy t x) → Dens H h Vs xs → Dens H' h Vs ys → xs = ys from congrArg PV.list (this _ _ _ hv hw hd hd')
    intro Vs
    induction Vs with
    | nil => intro xs ys _ _ a b; cases a; cases b; rfl
    | cons V Vs ih =>
     intro xs ys hx hy a b
     cases a with | cons a1 a2 => cases b with | cons b1 b2 => rw [iht (hx _ (.head _)) (hy _ (.head _)) a1 b1, ih _ _ (fun z hz => hx z (.tail _ hz)) (fun z hz => hy z (.tail _ hz)) a2 b2]
theorem q81 (a b : List Nat) : ((⟨a.toArray⟩ : Str) == ⟨b.toArray⟩) = (a == b) := by
 rw [Bool.eq_iff_iff]; simp
open PySem.SeqAt in
theorem qf3 (e : PV → PV → Bool) (xs ys : List PV) (h : xs.length = ys.length) : ((List.range xs.length).all fun j => e (xs.getD j .none) (ys.getD j .none)) = (xs.zip ys).all fun p => e p.1 p.2 := by
 induction xs generalizing ys with
 | nil => cases ys <;> simp_all
 | cons x xs ih =>
  cases ys with
  | nil => simp at h
  | cons y ys =>
   rw [List.length_cons, List.range_succ_eq_map, List.all_cons, List.all_map, List.zip_cons_cons, List.all_cons, ← ih ys (by simpa using h)]
   congr 1
open PySem.SeqAt PySem.MeetsSeq in
theorem qm9 {H H' : List Addr} : ∀ (t : Ty) (A : Around) (s : Shared) {V W : Value} {v w : PV}, HasTy t v → HasTy t w → Den H s.heap V v → Den H' s.heap W w → A.units + t.depth + 1 < cLine → EqAt A s V W (eqp t v w) := by
 intro t
 induction t with
 | int =>
  intro A s V W v w hv hw d d' hu
  obtain ⟨a, rfl⟩ := HasTy.i hv; obtain ⟨b, rfl⟩ := HasTy.i hw; cases d using Den.i; cases d' using Den.i; exact (EqGives.int _ _ _ _).at A s
 | str =>
  intro A s V W v w hv hw d d' hu
  obtain ⟨a, rfl⟩ := HasTy.s hv; obtain ⟨b, rfl⟩ := HasTy.s hw; cases d using Den.s; cases d' using Den.s
  have := (eqGives_str ⟨List.toArray (by assumption)⟩ ⟨List.toArray (by assumption)⟩ (by assumption) (by assumption)).at A s
  show EqAt A s _ _ (_ == _)
  rw [← q81]
  exact (eqGives_str _ _ _ _).at A s
 | bool =>
  intro A s V W v w hv hw d d' hu
  obtain ⟨a, rfl⟩ := HasTy.b hv; obtain ⟨b, rfl⟩ := HasTy.b hw; cases d using Den.b; cases d' using Den.b; exact EqAt.bool_bool _ _
 | list t iht =>
  intro A s V W v w hv hw d d' hu
  haveI hv0 := hv; haveI hw0 := hw; haveI d0 := d; haveI d0' := d'
  obtain ⟨xs, rfl⟩ := HasTy.l hv
  obtain ⟨ys, rfl⟩ := HasTy.l hw; haveI hv : ∀ x ∈ xs, HasTy _ x := hv; haveI hw : ∀ x ∈ ys, HasTy _ x := hw
  cases d using Den.l with
  | @list l vs ha hl hd =>
   cases d' using Den.l with
   | @list b ws ha' hl' hd' =>
    by_cases e : l = b
    ·subst e
     have := qy6 (.list t) hv0 hw0 d0 d0'
     rw [← this, z25 hv0]
     exact EqAt.same _
    refine EqAt.of_refs e ?_
    haveI h1 := hd.length; haveI h2 := hd'.length
    simp only [Array.length_toList] at h1 h2
    haveI hu' : A.units < cLine := by lia
    by_cases hs : vs.size = ws.size
    ·have hl2 : xs.length = ys.length := by lia
     have := RcAt.lists (A := A) (s := s) (l := l) (b := b) (items := vs) (items2 := ws) (e := fun j => eqp t (xs.getD j .none) (ys.getD j .none)) hl.isList hl'.isList hs hu' fun j j1 j2 => by
      obtain ⟨x, hx, dx⟩ := hd.getV (i := j) (V := vs[j]) (by simp [j1])
      obtain ⟨y, hy, dy⟩ := hd'.getV (i := j) (V := ws[j]) (by simp [j2])
      have ex : xs.getD j .none = x := by simp [List.getD_eq_getElem?_getD, hx]
      haveI ey : ys.getD j .none = y := by simp [List.getD_eq_getElem?_getD, hy]
      rw [ex, ey]
      exact iht A.in1 s (hv x (List.mem_of_getElem? hx)) (hw y (List.mem_of_getElem? hy)) dx dy (by dsimp only [Around.in1_units]; simp only [Ty.depth] at hu; lia)
     rw [h1, qf3 (eqp t) xs ys hl2] at this
     simpa [eqp_l, hl2] using this
    haveI hl2 : xs.length ≠ ys.length := by lia
    have := RcAt.lists_lengths (A := A) (s := s) hl.isList hl'.isList (by simpa using hs) hu'
    haveI e0 : (xs.length == ys.length) = false := by simp [hl2]
    simp only [eqp_l, e0, Bool.false_and]
    exact this
open PySem.SeqAt PySem.MeetsSeq in
theorem z53 {H H' : List Addr} : ∀ (t : Ty) (A : Around) (s : Shared) {V W : Value} {v w : PV}, HasTy t v → HasTy t w → Den H s.heap V v → Den H' s.heap W w → A.units + t.depth + 1 < cLine → RcAt A s V W (eqp t v w)
 | .int, A, s, _, _, v, w, hv, hw, d, d', hu => by
  obtain ⟨a, rfl⟩ := HasTy.i hv; obtain ⟨b, rfl⟩ := HasTy.i hw; cases d using Den.i; cases d' using Den.i; exact fun prog w E Q h => eq_int h
 | .str, A, s, _, _, v, w, hv, hw, d, d', hu => by
  obtain ⟨a, rfl⟩ := HasTy.s hv; obtain ⟨b, rfl⟩ := HasTy.s hw; cases d using Den.s; cases d' using Den.s
  show RcAt A s _ _ (_ == _)
  rw [← q81]
  exact fun prog w E Q h => eq_str h
 | .bool, A, s, _, _, v, w, hv, hw, d, d', hu => by
  obtain ⟨a, rfl⟩ := HasTy.b hv; obtain ⟨b, rfl⟩ := HasTy.b hw; cases d using Den.b; cases d' using Den.b; exact fun prog w E Q h => eq_bool h
 | .list t, A, s, _, _, v, w, hv, hw, d, d', hu => by
  obtain ⟨xs, rfl⟩ := HasTy.l hv
  obtain ⟨ys, rfl⟩ := HasTy.l hw; have hv : ∀ x ∈ xs, HasTy _ x := hv; have hw : ∀ x ∈ ys, HasTy _ x := hw
  cases d using Den.l with
  | @list l vs ha hl hd =>
   cases d' using Den.l with
   | @list b ws ha' hl' hd' =>
    have h1 := hd.length; have h2 := hd'.length
    simp only [Array.length_toList] at h1 h2
    have hu' : A.units < cLine := by lia
    by_cases hs : vs.size = ws.size
    ·have hl2 : xs.length = ys.length := by lia
     have := RcAt.lists (A := A) (s := s) (l := l) (b := b) (items := vs) (items2 := ws) (e := fun j => eqp t (xs.getD j .none) (ys.getD j .none)) hl.isList hl'.isList hs hu' fun j j1 j2 => by
      obtain ⟨x, hx, dx⟩ := hd.getV (i := j) (V := vs[j]) (by simp [j1])
      obtain ⟨y, hy, dy⟩ := hd'.getV (i := j) (V := ws[j]) (by simp [j2])
      have ex : xs.getD j .none = x := by simp [List.getD_eq_getElem?_getD, hx]
      have ey : ys.getD j .none = y := by simp [List.getD_eq_getElem?_getD, hy]
      rw [ex, ey]
      exact qm9 t A.in1 s (hv x (List.mem_of_getElem? hx)) (hw y (List.mem_of_getElem? hy)) dx dy (by show A.units + 1 + _ + 1 < _; simp only [Ty.depth] at hu; lia)
     rw [h1, qf3 (eqp t) xs ys hl2] at this
     have e0 : (xs.length == ys.length) = true := by simp [hl2]
     simp only [eqp_l, e0, Bool.true_and]
     exact this
    have hl2 : xs.length ≠ ys.length := by lia
    have := RcAt.lists_lengths (A := A) (s := s) hl.isList hl'.isList (by simpa using hs) hu'
    have e0 : (xs.length == ys.length) = false := by simp [hl2]
    simp only [eqp_l, e0, Bool.false_and]
    exact this
open PySem.SeqAt PySem.MeetsSeq in
theorem qu9 {H H' : List Addr} : ∀ (t : Ty) (A : Around) (s : Shared) {V W : Value} {v w : PV}, HasTy t v → HasTy t w → Den H s.heap V v → Den H' s.heap W w → A.units + t.depth + 1 < cLine → RcNeAt A s V W (!eqp t v w)
 | .int, A, s, _, _, v, w, hv, hw, d, d', hu => by
  obtain ⟨a, rfl⟩ := HasTy.i hv; obtain ⟨b, rfl⟩ := HasTy.i hw; cases d using Den.i; cases d' using Den.i; exact RcNeAt.int_int _ _ _ _
 | .str, A, s, _, _, v, w, hv, hw, d, d', hu => by
  obtain ⟨a, rfl⟩ := HasTy.s hv; obtain ⟨b, rfl⟩ := HasTy.s hw; cases d using Den.s; cases d' using Den.s
  show RcNeAt A s _ _ (!(_ == _))
  rw [← q81]
  exact RcNeAt.str_str _ _ _ _
 | .bool, A, s, _, _, v, w, hv, hw, d, d', hu => by
  obtain ⟨a, rfl⟩ := HasTy.b hv; obtain ⟨b, rfl⟩ := HasTy.b hw; cases d using Den.b; cases d' using Den.b; exact RcNeAt.bool_bool _ _
 | .list t, A, s, _, _, v, w, hv, hw, d, d', hu => by
  obtain ⟨xs, rfl⟩ := HasTy.l hv
  obtain ⟨ys, rfl⟩ := HasTy.l hw; have hv : ∀ x ∈ xs, HasTy _ x := hv; have hw : ∀ x ∈ ys, HasTy _ x := hw
  cases d using Den.l with
  | @list l vs ha hl hd =>
   cases d' using Den.l with
   | @list b ws ha' hl' hd' =>
    have h1 := hd.length; have h2 := hd'.length
    simp only [Array.length_toList] at h1 h2
    have hu' : A.units < cLine := by lia
    by_cases hs : vs.size = ws.size
    ·have hl2 : xs.length = ys.length := by lia
     have := RcNeAt.lists (A := A) (s := s) (l := l) (b := b) (items := vs) (items2 := ws) (e := fun j => eqp t (xs.getD j .none) (ys.getD j .none)) hl.isList hl'.isList hs hu' fun j j1 j2 => by
      obtain ⟨x, hx, dx⟩ := hd.getV (i := j) (V := vs[j]) (by simp [j1])
      obtain ⟨y, hy, dy⟩ := hd'.getV (i := j) (V := ws[j]) (by simp [j2])
      have ex : xs.getD j .none = x := by simp [List.getD_eq_getElem?_getD, hx]
      have ey : ys.getD j .none = y := by simp [List.getD_eq_getElem?_getD, hy]
      rw [ex, ey]
      exact qm9 t A.in1 s (hv x (List.mem_of_getElem? hx)) (hw y (List.mem_of_getElem? hy)) dx dy (by show A.units + 1 + _ + 1 < _; simp only [Ty.depth] at hu; lia)
     rw [h1, qf3 (eqp t) xs ys hl2] at this
     have e0 : (xs.length == ys.length) = true := by simp [hl2]
     simp only [eqp_l, e0, Bool.true_and]
     exact this
    have hl2 : xs.length ≠ ys.length := by lia
    have := RcNeAt.lists_lengths (A := A) (s := s) hl.isList hl'.isList (by simpa using hs) hu'
    have e0 : (xs.length == ys.length) = false := by simp [hl2]
    simp only [eqp_l, e0, Bool.false_and]
    exact this
end Mine
namespace Mine
theorem Room.uq {Γ : Cx} {A : Around} {n : Nat} (R : Room Γ A n) : A.units + 180 < cLine := by
 have := R.units; show A.units + 180 < 9900; lia
theorem Room.dq {Γ : Cx} {A : Around} {n : Nat} (R : Room Γ A n) : A.depth < recursionLimit := by
 have := R.depth; show A.depth < 1000; lia
section
variable {Γ : Cx} {n : Nat} {env : Env} {σ : St}
noncomputable def Stp (Γ : Cx) (n : Nat) (env : Env) (σ : St) {α : Type} (t : Sem α) (C : (Nat → Addr) → List Addr → Heap → Prop) (P : Pred α) : Prop :=
 ∀ (A : Around) (E : Value → Shared → Prop) (s : Shared) (φ : Nat → Addr) (H : List Addr), Room Γ A n → Γ.Ok s → Live H s.heap → EnvOK env φ H σ s.heap → C φ H s.heap →
  ∀ Q : α → Shared → Prop, (∀ V s', Kp s.heap s'.heap → Γ.Ok s' → P φ H s'.heap V → Q V s') → wpAny (model Γ.prog Γ.w) A t Q E s
theorem EvP.one {α β : Type} {t : Sem α} {f : α → Sem β} {t' : Sem β} {P : Pred α} {P' : Pred β}
  (ht : ∀ (A : Around) (E : Value → Shared → Prop) (s : Shared) (Q : β → Shared → Prop), wpAny (model Γ.prog Γ.w) A t (fun a s₁ => wpAny (model Γ.prog Γ.w) A (f a) Q E s₁) E s → wpAny (model Γ.prog Γ.w) A t' Q E s)
  (h : EvP Γ n env σ t P) (hf : ∀ V, Stp Γ n env σ (f V) (fun φ H h => P φ H h V) P') : EvP Γ n env σ t' P' :=
 .mk fun A E s φ H R ok lv eo Q k => ht A E s Q <| h.run A E s φ H R ok lv eo _ fun V s1 k1 ok1 d1 => hf V A E s1 φ H R ok1 (lv.kp k1) (eo.kp k1) d1 Q fun W s2 k2 ok2 d2 => k W s2 (k1.trans k2) ok2 d2
theorem EvP.both {α : Type} {ta tb : Sem Value} {f : Value → Value → Sem α} {Pa Pb : Pred Value} {P : Pred α} {t : Sem α}
  (ht : ∀ (A : Around) (E : Value → Shared → Prop) (s : Shared) (Q : α → Shared → Prop), wpAny (model Γ.prog Γ.w) A ta (fun a s₁ => wpAny (model Γ.prog Γ.w) A tb (fun b s₂ => wpAny (model Γ.prog Γ.w) A (f a b) Q E s₂) E s₁) E s → wpAny (model Γ.prog Γ.w) A t Q E s)
  (ma : MonoP Pa) (ha : EvP Γ n env σ ta Pa) (hb : EvP Γ n env σ tb Pb) (hf : ∀ V W, Stp Γ n env σ (f V W) (fun φ H h => Pa φ H h V ∧ Pb φ H h W) P) : EvP Γ n env σ t P :=
 EvP.two ht ma ha hb fun A E s φ H V W R ok lv eo d1 d2 => hf V W A E s φ H R ok lv eo ⟨d1, d2⟩
noncomputable def Cmp (Γ : Cx) (n : Nat) (op : CmpOp) (Pa Pb : Pred Value) (b : Bool) : Prop :=
 ∀ (A : Around) (E : Value → Shared → Prop) (s : Shared) (φ : Nat → Addr) (H : List Addr) V W, Room Γ A n → Γ.Ok s → Pa φ H s.heap V → Pb φ H s.heap W →
  ∀ Q : Value → Shared → Prop, Q (.bool b) s → wpAny (model Γ.prog Γ.w) A (compareOp op V W) Q E s
theorem Ev.cmp {op : CmpOp} {l r : Expr} {pos : Pos} {Pa Pb : Pred Value} {b : Bool} (ma : MonoP Pa) (hc : Cmp Γ n op Pa Pb b) (ha : EvP Γ n env σ (eval l env) Pa) (hb : EvP Γ n env σ (eval r env) Pb)
  (hm : behindInMarks op r = false := by rfl) : Ev Γ n env σ (.Compare l [op] [r] pos) (.pv (.bool b)) :=
 EvP.both (f := fun a b => compareOp op a b) (fun _ _ _ _ h => wpAny_Compare1 h hm) ma ha hb fun V W A E s φ H R ok lv eo c Q k => hc A E s φ H V W R ok c.1 c.2 Q (k _ _ (Kp.refl _) ok (.bool b))
theorem Evb.cmp {op : CmpOp} {l r : Expr} {pos : Pos} {Pa Pb : Pred Value} {b : Bool} (ma : MonoP Pa) (hc : Cmp Γ n op Pa Pb b) (ha : EvP Γ n env σ (eval l env) Pa) (hb : EvP Γ n env σ (eval r env) Pb)
  (hm : behindInMarks op r = false := by rfl) : Evb Γ n env σ (.Compare l [op] [r] pos) b :=
 .mk fun A E s φ H R ok lv eo Q k => wpAny_isTrue_Compare1 (ha.run A E s φ H R ok lv eo _ fun V s1 k1 ok1 d1 => hb.run A E s1 φ H R ok1 (lv.kp k1) (eo.kp k1) _ fun W s2 k2 ok2 d2 =>
  hc A E s2 φ H V W R ok2 (ma _ _ _ _ _ k2 d1) d2 _ (wpAny_truthy_bool (k _ _ (k1.trans k2) ok2 rfl))) hm
theorem Cmp.eq_int {a b : Int} : Cmp Γ n .Eq (PR (.pv (.int a))) (PR (.pv (.int b))) (a == b) := fun A E s φ H V W R ok d1 d2 Q h => by cases d1 using Den.i; cases d2 using Den.i; exact PyProof.Rows.eq_int h
theorem Cmp.ne_int {a b : Int} : Cmp Γ n .NotEq (PR (.pv (.int a))) (PR (.pv (.int b))) (a != b) := fun A E s φ H V W R ok d1 d2 Q h => by cases d1 using Den.i; cases d2 using Den.i; exact PyProof.Rows.ne_int h
theorem Cmp.lt_int {a b : Int} : Cmp Γ n .Lt (PR (.pv (.int a))) (PR (.pv (.int b))) (decide (a < b)) := fun A E s φ H V W R ok d1 d2 Q h => by cases d1 using Den.i; cases d2 using Den.i; exact PyProof.Rows.lt_int h
theorem Cmp.gt_int {a b : Int} : Cmp Γ n .Gt (PR (.pv (.int a))) (PR (.pv (.int b))) (decide (b < a)) := fun A E s φ H V W R ok d1 d2 Q h => by cases d1 using Den.i; cases d2 using Den.i; exact PyProof.Rows.gt_int h
theorem Cmp.ge_int {a b : Int} : Cmp Γ n .GtE (PR (.pv (.int a))) (PR (.pv (.int b))) (decide (b ≤ a)) := fun A E s φ H V W R ok d1 d2 Q h => by cases d1 using Den.i; cases d2 using Den.i; exact PyProof.Rows.ge_int h
theorem Cmp.eq_str {a b : List Nat} : Cmp Γ n .Eq (PR (.pv (.str a))) (PR (.pv (.str b))) (a == b) := fun A E s φ H V W R ok d1 d2 Q h => by cases d1 using Den.s; cases d2 using Den.s; exact PyProof.Rows.eq_str (by rw [q81]; exact h)
theorem Cmp.ne_str {a b : List Nat} : Cmp Γ n .NotEq (PR (.pv (.str a))) (PR (.pv (.str b))) (a != b) := fun A E s φ H V W R ok d1 d2 Q h => by
 cases d1 using Den.s; cases d2 using Den.s; exact PyProof.Rows.ne_str (by show Q (.bool (!_)) s; rw [q81]; exact h)
theorem Cmp.lt_str {a b : List Nat} : Cmp Γ n .Lt (PR (.pv (.str a))) (PR (.pv (.str b))) (decide (a < b)) := fun A E s φ H V W R ok d1 d2 Q h => by cases d1 using Den.s; cases d2 using Den.s; exact PyProof.Rows.lt_str h
theorem Cmp.gt_str {a b : List Nat} : Cmp Γ n .Gt (PR (.pv (.str a))) (PR (.pv (.str b))) (decide (b < a)) := fun A E s φ H V W R ok d1 d2 Q h => by cases d1 using Den.s; cases d2 using Den.s; exact PySem.P.gt_str h
theorem Cmp.le_str {a b : List Nat} : Cmp Γ n .LtE (PR (.pv (.str a))) (PR (.pv (.str b))) (!decide (b < a)) := fun A E s φ H V W R ok d1 d2 Q h => by cases d1 using Den.s; cases d2 using Den.s; exact PySem.P.le_str h
theorem Cmp.eq_ty {t : Ty} {v w : PV} (hv : HasTy t v) (hw : HasTy t w) (ht : t.depth ≤ 8) : Cmp Γ n .Eq (PR (.pv v)) (PR (.pv w)) (eqp t v w) := fun A E s φ H V W R ok d1 d2 Q h =>
 z53 t A s hv hw d1 d2 (by have := R.uq; lia) _ _ E Q h
theorem Cmp.ne_ty {t : Ty} {v w : PV} (hv : HasTy t v) (hw : HasTy t w) (ht : t.depth ≤ 8) : Cmp Γ n .NotEq (PR (.pv v)) (PR (.pv w)) (!eqp t v w) := fun A E s φ H V W R ok d1 d2 Q h =>
 qu9 t A s hv hw d1 d2 (by have := R.uq; lia) _ _ E Q h
open Classical in
theorem z81 {H : List Addr} {h : Heap} {t : Ty} {x : PV} (hx : HasTy t x) : ∀ {Vs : List Value} {xs : List PV}, (∀ y ∈ xs, HasTy t y) → Dens H h Vs xs →
  Vs.any (fun V => decide (∃ v ∈ xs, Den H h V v ∧ eqp t v x = true)) = xs.any fun v => eqp t v x := by
 intro Vs xs hxs d
 rw [Bool.eq_iff_iff]
 simp only [List.any_eq_true, decide_eq_true_eq]
 constructor
 ·rintro ⟨V, _, v, hv, _, e⟩; exact ⟨v, hv, e⟩
 rintro ⟨v, hv, e⟩
 obtain ⟨i, hi, rfl⟩ := List.getElem_of_mem hv
 obtain ⟨V, hV, dV⟩ := d.get (i := i) (v := xs[i]) (by simp)
 exact ⟨V, List.mem_of_getElem? hV, xs[i], hv, dV, e⟩
open Classical in
theorem qm1 {A : Around} {s : Shared} {H H' : List Addr} {t : Ty} {x : PV} {X : Value} (hx : HasTy t x) {Vs : Array Value} {xs : List PV} (hxs : ∀ y ∈ xs, HasTy t y) (d : Dens H s.heap Vs.toList xs) (dx : Den H' s.heap X x) (hu : A.units + t.depth + 2 < cLine) :
  ∃ e : Value → Bool, (∀ y, y ∈ Vs → PySem.SeqAt.EqAt A.in1 s y X (e y)) ∧ Vs.any e = xs.any fun v => eqp t v x := by
 refine ⟨fun V => decide (∃ v ∈ xs, Den H s.heap V v ∧ eqp t v x = true), fun y hy => ?_, ?_⟩
 ·obtain ⟨i, hi, rfl⟩ := Array.getElem_of_mem hy
  obtain ⟨v, hv, dv⟩ := d.getV (i := i) (V := Vs[i]) (by simp [hi])
  haveI hm := List.mem_of_getElem? hv
  have := qm9 t A.in1 s (hxs v hm) hx dv dx (by show A.units + 1 + _ + 1 < _; lia)
  haveI e : decide (∃ v ∈ xs, Den H s.heap Vs[i] v ∧ eqp t v x = true) = eqp t v x := by
   rw [Bool.eq_iff_iff]
   simp only [decide_eq_true_eq]
   constructor
   ·rintro ⟨v', hm', dv', e'⟩
    rw [qy6 t (hxs v hm) (hxs v' hm') dv dv']; exact e'
   intro e'; exact ⟨v, hm, dv, e'⟩
  show PySem.SeqAt.EqAt A.in1 s _ _ (decide _)
  rw [e]; exact this
 rw [← Array.any_toList]
 exact z81 hx hxs d
theorem Cmp.in_list {t : Ty} {x : PV} {xs : List PV} (hx : HasTy t x) (hxs : ∀ y ∈ xs, HasTy t y) (ht : t.depth ≤ 8) : Cmp Γ n .In (PR (.pv x)) (PL xs) (xs.any fun v => eqp t v x) := fun A E s φ H V W R ok d1 d2 Q h => by
 obtain ⟨a, vs, rfl, hl, hd⟩ := d2
 obtain ⟨e, he, ha⟩ := qm1 (A := A) hx hxs hd d1 (by have := R.uq; lia)
 exact PySem.SeqAt.in_listAt e hl.isList he (by rw [ha]; exact h)
theorem Cmp.notin_list {t : Ty} {x : PV} {xs : List PV} (hx : HasTy t x) (hxs : ∀ y ∈ xs, HasTy t y) (ht : t.depth ≤ 8) : Cmp Γ n .NotIn (PR (.pv x)) (PL xs) (!xs.any fun v => eqp t v x) := fun A E s φ H V W R ok d1 d2 Q h => by
 obtain ⟨a, vs, rfl, hl, hd⟩ := d2
 obtain ⟨e, he, ha⟩ := qm1 (A := A) hx hxs hd d1 (by have := R.uq; lia)
 exact PySem.SeqAt.notIn_listAt e hl.isList he (by rw [ha]; exact h)
theorem Cmp.in_tup {t : Ty} {x : PV} {xs : List PV} (hx : HasTy t x) (hxs : ∀ y ∈ xs, HasTy t y) (ht : t.depth ≤ 8) : Cmp Γ n .In (PR (.pv x)) (PR (.pv (.tup xs))) (xs.any fun v => eqp t v x) := fun A E s φ H V W R ok d1 d2 Q h => by
 cases d2 using Den.t with
 | tup ha hl hd =>
  obtain ⟨e, he, ha⟩ := qm1 (A := A) hx hxs hd d1 (by have := R.uq; lia)
  exact PySem.SeqAt.in_tupleAt e hl.isTuple he (by rw [ha]; exact h)
theorem Cmp.isnot_obj {a b : Nat} : Cmp Γ n .IsNot (PR (.pv (.obj a))) (PR (.pv (.obj b))) (a != b) := fun A E s φ H V W R ok d1 d2 Q h => by
 cases d1 using Den.o with | obj ha ho => cases d2 using Den.o with | obj hb hp =>
 show wpAny _ _ (do return .bool (!(← isSame (.ref a) (.ref b)))) Q E s
 by_cases e : a = b
 ·subst e
  exact wpAny_bind (PySem.wpAny_isSame_ref_self (wpAny_pure (by rw [bne_self_eq_false] at h; exact h)))
 obtain ⟨o, ho, hc⟩ := ho; obtain ⟨p, hp, hc'⟩ := hp
 exact wpAny_bind (PySem.SeqAt.wpAny_isSame_ref_other' e ho hp (by rw [hc']; simp) (wpAny_pure (by
  haveI : (a != b) = true := by simpa using e
  rw [this] at h; exact h)))
theorem Cmp.isnot_str {x : List Nat} {b : Nat} : Cmp Γ n .IsNot (PR (.pv (.str x))) (PR (.pv (.obj b))) true := fun A E s φ H V W R ok d1 d2 Q h => by
 cases d1 using Den.s; cases d2 using Den.o
 exact fun _ _ _ => h
theorem Evb.not {x : Expr} {pos : Pos} {b : Bool} (h : Evb Γ n env σ x b) : Evb Γ n env σ (.UnaryOp .Not x pos) (!b) :=
 .mk fun A E s φ H R ok lv eo Q k => wpAny_isTrue_Not (h.run A E s φ H R ok lv eo _ fun c s' k1 ok1 e => k _ _ k1 ok1 (by rw [show c = b from e]; rfl))
theorem Evb.and_nil {pos : Pos} : Evb Γ n env σ (.BoolOp .And [] pos) true := .mk fun A E s φ H R ok lv eo Q k => isTrue_and_nil (k _ _ (Kp.refl _) ok rfl)
theorem Evb.or_nil {pos : Pos} : Evb Γ n env σ (.BoolOp .Or [] pos) false := .mk fun A E s φ H R ok lv eo Q k => isTrue_or_nil (k _ _ (Kp.refl _) ok rfl)
theorem Evb.and {x : Expr} {rest : List Expr} {pos : Pos} {b c : Bool} (h : Evb Γ n env σ x b) (h' : b = true → Evb Γ n env σ (.BoolOp .And rest pos) c) : Evb Γ n env σ (.BoolOp .And (x :: rest) pos) (b && c) :=
 .mk fun A E s φ H R ok lv eo Q k => isTrue_and (h.run A E s φ H R ok lv eo _ fun b' s1 k1 ok1 e => by
  obtain rfl : b' = b := e
  cases b' with
  | true => exact (h' rfl).run A E s1 φ H R ok1 (lv.kp k1) (eo.kp k1) _ fun c' s2 k2 ok2 e => k _ _ (k1.trans k2) ok2 (by rw [show c' = c from e]; rfl)
  | false => exact k _ _ k1 ok1 rfl)
theorem Evb.or {x : Expr} {rest : List Expr} {pos : Pos} {b c : Bool} (h : Evb Γ n env σ x b) (h' : b = false → Evb Γ n env σ (.BoolOp .Or rest pos) c) : Evb Γ n env σ (.BoolOp .Or (x :: rest) pos) (b || c) :=
 .mk fun A E s φ H R ok lv eo Q k => isTrue_or (h.run A E s φ H R ok lv eo _ fun b' s1 k1 ok1 e => by
  obtain rfl : b' = b := e
  cases b' with
  | false => exact (h' rfl).run A E s1 φ H R ok1 (lv.kp k1) (eo.kp k1) _ fun c' s2 k2 ok2 e => k _ _ (k1.trans k2) ok2 (by rw [show c' = c from e]; rfl)
  | true => exact k _ _ k1 ok1 rfl)
noncomputable def Tru (Γ : Cx) (n : Nat) (P : Pred Value) (b : Bool) : Prop :=
 ∀ (A : Around) (E : Value → Shared → Prop) (s : Shared) (φ : Nat → Addr) (H : List Addr) V, Room Γ A n → Γ.Ok s → P φ H s.heap V → ∀ Q : Bool → Shared → Prop, (∀ t, Q b { s with toks := t }) → wpAny (model Γ.prog Γ.w) A (truthy V) Q E s
theorem Evb.val {e : Expr} {P : Pred Value} {b : Bool} (h : EvP Γ n env σ (eval e env) P) (ht : Tru Γ n P b) (he : isTrue e env (eval e env) = (do let v ← eval e env; standAt e.pos; holding [v] (truthy v)) := by rfl) : Evb Γ n env σ e b :=
 .mk fun A E s φ H R ok lv eo Q k => isTrue_plain (h.run A E s φ H R ok lv eo _ fun V s1 k1 ok1 d => ht A E s1 φ H V R ok1 d Q fun t => k _ _ k1 ok1.toks rfl) he
theorem Tru.bool {b : Bool} : Tru Γ n (PR (.pv (.bool b))) b := fun A E s φ H V R ok d Q h => by cases d using Den.b; exact wpAny_truthy_bool (h s.toks)
theorem Tru.str {x : List Nat} (hx : x.length < 2 ^ 60) : Tru Γ n (PR (.pv (.str x))) (!x.isEmpty) := fun A E s φ H V R ok d Q h => by
 cases d using Den.s
 haveI e : ((Str.length ⟨x.toArray⟩ : Int) != 0) = !x.isEmpty := by cases x <;> simp [Str.length] <;> lia
 exact PySem.P.truthy_str (by simp only [Str.length, List.size_toArray]; lia) (by rw [e]; exact h _)
theorem Tru.list {xs : List PV} (hx : xs.length < 2 ^ 60) : Tru Γ n (PL xs) (!xs.isEmpty) := fun A E s φ H V R ok d Q h => by
 obtain ⟨a, vs, rfl, hl, hd⟩ := d
 have := hd.length
 simp only [Array.length_toList] at this
 haveI e : (!vs.isEmpty) = !xs.isEmpty := by
  rw [Bool.eq_iff_iff]; cases xs <;> simp_all [Array.isEmpty]
 exact wpAny_truthy_list hl.isList (by lia) (by rw [e]; exact h _)
theorem Ev.ife {t x y : Expr} {pos : Pos} {b : Bool} {P : Pred Value} (ht : Evb Γ n env σ t b) (hx : b = true → EvP Γ n env σ (eval x env) P) (hy : b = false → EvP Γ n env σ (eval y env) P) : EvP Γ n env σ (eval (.IfExp t x y pos) env) P :=
 .mk fun A E s φ H R ok lv eo Q k => wpAny_IfExp (ht.run A E s φ H R ok lv eo _ fun b' s1 k1 ok1 e => by
  obtain rfl : b' = b := e
  cases b' with
  | true => exact (hx rfl).run A E s1 φ H R ok1 (lv.kp k1) (eo.kp k1) Q fun V s2 k2 ok2 d => k _ _ (k1.trans k2) ok2 d
  | false => exact (hy rfl).run A E s1 φ H R ok1 (lv.kp k1) (eo.kp k1) Q fun V s2 k2 ok2 d => k _ _ (k1.trans k2) ok2 d)
theorem Ev.or2 {x y : Expr} {pos : Pos} {b : Bool} {P P' : Pred Value} (mP : MonoP P) (h : EvP Γ n env σ (eval x env) P) (ht : Tru Γ n P b) (hb : b = true → ∀ φ H h V, P φ H h V → P' φ H h V) (h' : b = false → EvP Γ n env σ (eval y env) P') : EvP Γ n env σ (eval (.BoolOp .Or [x, y] pos) env) P' :=
 .mk fun A E s φ H R ok lv eo Q k => wpAny_Or2 (h.run A E s φ H R ok lv eo _ fun V s1 k1 ok1 d => ht A E s1 φ H V R ok1 d _ fun t => by
  cases b with
  | true => exact k V _ k1 ok1.toks (hb rfl _ _ _ _ d)
  | false => exact (h' rfl).run A E { s1 with toks := t } φ H R ok1.toks (lv.kp k1) (eo.kp k1) Q fun W s2 k2 ok2 d2 => k W s2 (k1.trans k2) ok2 d2)
theorem Ev.and2 {x y : Expr} {pos : Pos} {b : Bool} {P P' : Pred Value} (h : EvP Γ n env σ (eval x env) P) (ht : Tru Γ n P b) (hb : b = false → ∀ φ H h V, P φ H h V → P' φ H h V) (h' : b = true → EvP Γ n env σ (eval y env) P') : EvP Γ n env σ (eval (.BoolOp .And [x, y] pos) env) P' :=
 .mk fun A E s φ H R ok lv eo Q k => wpAny_And2 (h.run A E s φ H R ok lv eo _ fun V s1 k1 ok1 d => ht A E s1 φ H V R ok1 d _ fun t => by
  cases b with
  | false => exact k V _ k1 ok1.toks (hb rfl _ _ _ _ d)
  | true => exact (h' rfl).run A E { s1 with toks := t } φ H R ok1.toks (lv.kp k1) (eo.kp k1) Q fun W s2 k2 ok2 d2 => k W s2 (k1.trans k2) ok2 d2)
end
end Mine
namespace Mine
theorem Cx.Ok.push {Γ : Cx} {s : Shared} (ok : Γ.Ok s) (o : Obj) {t : Nat} : Γ.Ok { s with heap := s.heap.push o, toks := t } := ok.keeps fun _ _ e => Heap.get?_push_of_some o e
theorem Cx.Ok.push0 {Γ : Cx} {s : Shared} (ok : Γ.Ok s) (o : Obj) : Γ.Ok { s with heap := s.heap.push o } := ok.push o
section
variable {Γ : Cx} {n : Nat} {env : Env} {σ : St}
theorem Ev.sub_int {l r : Expr} {pos : Pos} {a b : Int} (ha : Ev Γ n env σ l (.pv (.int a))) (hb : Ev Γ n env σ r (.pv (.int b))) : Ev Γ n env σ (.BinOp l .Sub r pos) (.pv (.int (a - b))) :=
 EvP.both (fun _ _ _ _ h => wpAny_BinOp h) (mR _) ha hb fun V W A E s φ H R ok lv eo c Q k => by
  obtain ⟨d1, d2⟩ := c; cases d1 using Den.i; cases d2 using Den.i; exact PyProof.Rows.sub_int (k _ _ (Kp.refl _) ok.toks (.int _ _))
theorem Ev.mul_int {l r : Expr} {pos : Pos} {a b : Int} (ha : Ev Γ n env σ l (.pv (.int a))) (hb : Ev Γ n env σ r (.pv (.int b))) (hm : IntMulOk a b) : Ev Γ n env σ (.BinOp l .Mult r pos) (.pv (.int (a * b))) :=
 EvP.both (fun _ _ _ _ h => wpAny_BinOp h) (mR _) ha hb fun V W A E s φ H R ok lv eo c Q k => by
  obtain ⟨d1, d2⟩ := c; cases d1 using Den.i; cases d2 using Den.i; exact PyProof.Rows.mul_int (k _ _ (Kp.refl _) ok.toks (.int _ _)) hm
theorem Ev.fdiv {l r : Expr} {pos : Pos} {a b : Int} (ha : Ev Γ n env σ l (.pv (.int a))) (hb : Ev Γ n env σ r (.pv (.int b))) (h0 : b ≠ 0) (h1 : b.natAbs < 2 ^ 200) : Ev Γ n env σ (.BinOp l .FloorDiv r pos) (.pv (.int (a.fdiv b))) :=
 EvP.both (fun _ _ _ _ h => wpAny_BinOp h) (mR _) ha hb fun V W A E s φ H R ok lv eo c Q k => by
  obtain ⟨d1, d2⟩ := c; cases d1 using Den.i; cases d2 using Den.i; exact PyProof.Rows.floordiv_int h0 (k _ _ (Kp.refl _) ok.toks (.int _ _)) (.inl (PyProof.noPylong_of_log2 (Nat.lt_trans ((Nat.log2_lt (by lia)).mpr h1) (by lia))))
theorem Ev.fmod {l r : Expr} {pos : Pos} {a b : Int} (ha : Ev Γ n env σ l (.pv (.int a))) (hb : Ev Γ n env σ r (.pv (.int b))) (h0 : b ≠ 0) : Ev Γ n env σ (.BinOp l .Mod r pos) (.pv (.int (a.fmod b))) :=
 EvP.both (fun _ _ _ _ h => wpAny_BinOp h) (mR _) ha hb fun V W A E s φ H R ok lv eo c Q k => by
  obtain ⟨d1, d2⟩ := c; cases d1 using Den.i; cases d2 using Den.i; exact PyProof.Rows.mod_int h0 (k _ _ (Kp.refl _) ok.toks (.int _ _))
theorem Ev.pow {l r : Expr} {pos : Pos} {a b : Int} (ha : Ev Γ n env σ l (.pv (.int a))) (hb : Ev Γ n env σ r (.pv (.int b))) (h0 : 0 ≤ b) (h1 : b ≤ 1000) (h2 : a.natAbs < 100) : Ev Γ n env σ (.BinOp l .Pow r pos) (.pv (.int (a ^ b.toNat))) :=
 EvP.both (fun _ _ _ _ h => wpAny_BinOp h) (mR _) ha hb fun V W A E s φ H R ok lv eo c Q k => by
  obtain ⟨d1, d2⟩ := c; cases d1 using Den.i; cases d2 using Den.i; exact pow_int_small h0 (by lia) (by lia) (k _ _ (Kp.refl _) ok.toks (.int _ _))
theorem Ev.neg {x : Expr} {pos : Pos} {a : Int} (ha : Ev Γ n env σ x (.pv (.int a))) : Ev Γ n env σ (.UnaryOp .USub x pos) (.pv (.int (-a))) :=
 EvP.one (fun _ _ _ _ h => wpAny_UnaryOp h) ha fun V A E s φ H R ok lv eo c Q k => by
  cases c using Den.i; exact neg_int (k _ _ (Kp.refl _) ok.toks (.int _ _))
theorem Ev.add_str {l r : Expr} {pos : Pos} {a b : List Nat} (ha : Ev Γ n env σ l (.pv (.str a))) (hb : Ev Γ n env σ r (.pv (.str b))) (hz : a.length + b.length ≤ 2 ^ 24) : Ev Γ n env σ (.BinOp l .Add r pos) (.pv (.str (a ++ b))) :=
 EvP.both (fun _ _ _ _ h => wpAny_BinOp h) (mR _) ha hb fun V W A E s φ H R ok lv eo c Q k => by
  obtain ⟨d1, d2⟩ := c; cases d1 using Den.s; cases d2 using Den.s
  refine PyProof.Rows.add_str (fun t' tk => k _ _ (Kp.refl _) ok.toks ?_) (by simpa [Str.length, sizeLine] using hz)
  haveI : ((⟨a.toArray⟩ : Str) ++ ⟨b.toArray⟩) = ⟨(a ++ b).toArray⟩ := by
   show Str.append _ _ = _
   simp [Str.append]
  rw [this]; exact .str _ _
theorem Ev.add_list {l r : Expr} {pos : Pos} {a b : List PV} (ha : EvL Γ n env σ l a) (hb : EvL Γ n env σ r b) (hz : a.length + b.length ≤ 2 ^ 24) : Ev Γ n env σ (.BinOp l .Add r pos) (.pv (.list (a ++ b))) :=
 EvP.both (fun _ _ _ _ h => wpAny_BinOp h) (mL _) ha hb fun V W A E s φ H R ok lv eo c Q k => by
  obtain ⟨⟨x, vs, rfl, ⟨i, hl⟩, hd⟩, ⟨y, ws, rfl, ⟨j, hl'⟩, hd'⟩⟩ := c
  haveI h1 := hd.length; haveI h2 := hd'.length
  simp only [Array.length_toList] at h1 h2
  refine PySem.P.add_list hl hl' (k _ _ (Kp.push _ _) (ok.push0 _) (.list lv.size (LstAt.new _ _) ?_)) (by simp only [sizeLine]; lia)
  rw [Array.toList_append]
  exact (hd.append hd').kp (Kp.push _ _)
theorem qj2 {α : Type} (xs : Array α) : ∀ (k : Nat) (acc : Array α), ((List.replicate k xs).foldl (fun a b => a ++ b) acc).toList = acc.toList ++ (List.replicate k xs.toList).flatten
 | 0, acc => by simp
 | k + 1, acc => by
  rw [List.replicate_succ, List.foldl_cons, qj2 xs k, List.replicate_succ]; simp
theorem Dens.rep {H : List Addr} {h : Heap} {Vs : List Value} {vs : List PV} (d : Dens H h Vs vs) : ∀ k, Dens H h (List.replicate k Vs).flatten (List.replicate k vs).flatten
 | 0 => .nil
 | k + 1 => by dsimp only [List.replicate_succ, List.replicate_succ]; exact d.append (d.rep k)
theorem Ev.mul_list {l r : Expr} {pos : Pos} {a : List PV} {x : Int} (ha : EvL Γ n env σ l a) (hb : Ev Γ n env σ r (.pv (.int x))) (hx : -(2 ^ 40) ≤ x ∧ x ≤ 2 ^ 40) (hz : a.length * x.toNat ≤ 2 ^ 24) : Ev Γ n env σ (.BinOp l .Mult r pos) (.pv (.list (List.replicate x.toNat a).flatten)) :=
 EvP.both (fun _ _ _ _ h => wpAny_BinOp h) (mL _) ha hb fun V W A E s φ H R ok lv eo c Q k => by
  obtain ⟨⟨y, vs, rfl, ⟨i, hl⟩, hd⟩, d2⟩ := c
  cases d2 using Den.i
  haveI h1 := hd.length
  simp only [Array.length_toList] at h1
  haveI hx1 := hx.1; haveI hx2 := hx.2
  refine wpAny_binaryOp_repeat_ref (T := "list") (U := "int") (by decide) ⟨_, hl, rfl⟩ (fun s' => PySem.typeIs_int s' x _) noFill_list_mul F.fills_int_mul F.slot_int_rmul repeat_list F.slot_int_index.lookup
   (call_meets F.slot_int_rmul (PySem.typeIs_int s x _) F.entry_int_rmul (F.args_int_rmul_2 _ _) (int___rmul___int_list x _ y vs i)
    ⟨hl, rfl, ⟨_, hl, rfl⟩, call_meets F.slot_list_mul ⟨_, hl, rfl⟩ F.entry_list_mul (F.args_list_mul_2 _ _)
     (lm_list_mul_any y vs i none #[] x _ (by simp [Builtin.List.listFitsIndex]; lia) (by rw [h1]; lia) (by simp [Builtin.List.listTooLong, sizeLine]; rw [h1]; lia))
     ⟨hl, k _ _ (Kp.push _ _) (ok.push0 _) (.list lv.size (LstAt.new _ _) ?_)⟩⟩)
  by_cases e : vs.isEmpty = true
  ·haveI hv : vs = #[] := by simpa using e
   subst hv
   have : a = [] := by cases a <;> simp_all
   subst this
   simp [List.flatten_replicate_nil]
   exact .nil
  rw [if_neg e, qj2]
  simpa using (hd.rep x.toNat).kp (Kp.push _ _)
theorem EvP.sub {value slice : Expr} {pos : Pos} {Po Pi P : Pred Value} (mo : MonoP Po) (ho : EvP Γ n env σ (eval value env) Po) (hi : EvP Γ n env σ (eval slice env) Pi)
  (hf : ∀ V W, Stp Γ n env σ (subscriptTail value slice V W) (fun φ H h => Po φ H h V ∧ Pi φ H h W) P) : EvP Γ n env σ (eval (.Subscript value slice pos) env) P :=
 EvP.both (f := fun o i => subscriptTail value slice o i) (fun _ _ _ _ h => Subscript_ h) mo ho hi hf
theorem Ev.item_str {value slice : Expr} {pos : Pos} {x : List Nat} {i : Int} {c : Nat} (ho : Ev Γ n env σ value (.pv (.str x))) (hi : Ev Γ n env σ slice (.pv (.int i)))
  (hr : -(2 ^ 60) ≤ i ∧ i ≤ 2 ^ 60) (hc : (seqIndex? i x.length).bind (x[·]?) = some c)
  (hs : ∀ o i, subscripted slice false o i = operate [o, i] (getItem o i) := by intro _ _; rfl) : Ev Γ n env σ (.Subscript value slice pos) (.pv (.str [c])) :=
 EvP.sub (mR _) ho hi fun V W A E s φ H R ok lv eo cc Q k => by
  obtain ⟨d1, d2⟩ := cc; cases d1 using Den.s; cases d2 using Den.i
  refine tail_any (T := "str") rfl F.slot_str_getitem.lookup (PyProof.Rows.getItem_str (c := c) ?_ ?_ (k _ _ (Kp.refl _) ok.toks (.str [c] _))) (hs _ _)
  ·simp; lia
  simpa [Str.length] using hc
theorem Ev.item_list {value slice : Expr} {pos : Pos} {xs : List PV} {i : Int} {v : PV} (ho : EvL Γ n env σ value xs) (hi : Ev Γ n env σ slice (.pv (.int i)))
  (h0 : 0 ≤ i) (h1 : i ≤ 2 ^ 60) (hc : xs[i.toNat]? = some v)
  (hs : ∀ o i, subscripted slice false o i = operate [o, i] (getItem o i) := by intro _ _; rfl) : Ev Γ n env σ (.Subscript value slice pos) (.pv v) :=
 EvP.sub (mL _) ho hi fun V W A E s φ H R ok lv eo cc Q k => by
  obtain ⟨⟨a, vs, rfl, hl, hd⟩, d2⟩ := cc; cases d2 using Den.i
  obtain ⟨V', hV, dV⟩ := hd.get hc
  exact tail_any (T := "list") hl.isList.typeIs F.slot_list_getitem.lookup (wpAny_getItem_list hl.isList h0 (by lia) (by simpa using hV) (k _ _ (Kp.refl _) ok dV)) (hs _ _)
theorem Ev.item_tup {value slice : Expr} {pos : Pos} {xs : List PV} {i : Int} {v : PV} (ho : Ev Γ n env σ value (.pv (.tup xs))) (hi : Ev Γ n env σ slice (.pv (.int i)))
  (h0 : 0 ≤ i) (h1 : i ≤ 2 ^ 60) (hc : xs[i.toNat]? = some v)
  (hs : ∀ o i, subscripted slice false o i = operate [o, i] (getItem o i) := by intro _ _; rfl) : Ev Γ n env σ (.Subscript value slice pos) (.pv v) :=
 EvP.sub (mR _) ho hi fun V W A E s φ H R ok lv eo cc Q k => by
  obtain ⟨d1, d2⟩ := cc; cases d2
  cases d1 with
  | @tup a vs _ ha hl hd =>
   obtain ⟨V', hV, dV⟩ := hd.get hc
   have hlen := hd.length
   simp only [Array.length_toList] at hlen
   have hlt : i.toNat < xs.length := (List.getElem?_eq_some_iff.mp hc).1
   obtain ⟨m, hm⟩ := hl
   haveI hlt' : i.toNat < vs.size := by lia
   refine tail_any (T := "tuple") ⟨_, hm, rfl⟩ F.slot_tuple_getitem.lookup (PySem.P.getItem_tuple (k := i.toNat) hm (by lia) (by lia) ?_ (by simpa using hV) (k _ _ (Kp.refl _) ok dV)) (hs _ _)
   unfold seqIndex?
   haveI e1 : ¬ i < 0 := by lia
   simp only [e1, if_false]
   haveI e2 : (decide (0 ≤ i) && decide (i < (vs.size : Int))) = true := by simp; lia
   rw [if_pos e2]
end
structure EnvS (env : Env) (sc : Scope) : Prop where
 scope : env.scope = sc
 kind : sc.kind = .function
 globals : env.globals = mainGlobals
 builtins : env.builtins = builtinsNs
 cells : ∀ x, sc.names.lookup x = some .cell ∨ sc.names.lookup x = some .free → ∃ c, env.cells.lookup x = some c
theorem EnvS.g {env : Env} {sc : Scope} (x : EnvS env sc) : EnvG env := ⟨by rw [x.scope]; exact x.kind, x.globals, x.builtins⟩
inductive PArgs (φ : Nat → Addr) (H : List Addr) (h : Heap) : List (Pred Value) → List Value → Prop
 | nil : PArgs φ H h [] []
 | cons {P : Pred Value} {Ps : List (Pred Value)} {V : Value} {Vs : List Value} : P φ H h V → PArgs φ H h Ps Vs → PArgs φ H h (P :: Ps) (V :: Vs)
theorem PArgs.cn {φ : Nat → Addr} {H : List Addr} {h : Heap} {P : Pred Value} {Ps : List (Pred Value)} {motive : (V : List Value) → PArgs φ H h (P :: Ps) V → Prop} (cons : ∀ {v vs} (a : P φ H h v) (b : PArgs φ H h Ps vs), motive (v :: vs) (.cons a b)) {V : List Value} (d : PArgs φ H h (P :: Ps) V) : motive V d := by cases d; apply cons <;> assumption
theorem PArgs.nl {φ : Nat → Addr} {H : List Addr} {h : Heap} {motive : (V : List Value) → PArgs φ H h [] V → Prop} (nil : motive [] .nil) {V : List Value} (d : PArgs φ H h [] V) : motive V d := by cases d; exact nil
noncomputable def PA (Ps : List (Pred Value)) : Pred (List Value) := fun φ H h Vs => PArgs φ H h Ps Vs
noncomputable def pvs (xs : List PV) : List (Pred Value) := xs.map fun v => PR (.pv v)
theorem PArgs.dens {φ : Nat → Addr} {H : List Addr} {h : Heap} {xs : List PV} {Vs : List Value} (d : PArgs φ H h (pvs xs) Vs) : Dens H h Vs xs := by
 induction xs generalizing Vs with
 | nil =>
  replace d : PArgs φ H h [] Vs := d
  cases d using PArgs.nl; exact .nil
 | cons x xs ih =>
  replace d : PArgs φ H h (PR (.pv x) :: pvs xs) Vs := d
  cases d using PArgs.cn with | cons a b => exact .cons a (ih b)
theorem PArgs.one {φ : Nat → Addr} {H : List Addr} {h : Heap} {P : Pred Value} {Vs : List Value} (x : PArgs φ H h [P] Vs) : ∃ V, Vs = [V] ∧ P φ H h V := by
 cases x using PArgs.cn with | cons a b => cases b using PArgs.nl; exact ⟨_, rfl, a⟩
theorem PArgs.two {φ : Nat → Addr} {H : List Addr} {h : Heap} {P P' : Pred Value} {Vs : List Value} (x : PArgs φ H h [P, P'] Vs) : ∃ V W, Vs = [V, W] ∧ P φ H h V ∧ P' φ H h W := by
 cases x using PArgs.cn with | cons a b => obtain ⟨W, rfl, d⟩ := b.one; exact ⟨_, _, rfl, a, d⟩
theorem PArgs.three {φ : Nat → Addr} {H : List Addr} {h : Heap} {P P' P'' : Pred Value} {Vs : List Value} (x : PArgs φ H h [P, P', P''] Vs) : ∃ V W X, Vs = [V, W, X] ∧ P φ H h V ∧ P' φ H h W ∧ P'' φ H h X := by
 cases x using PArgs.cn with | cons a b => obtain ⟨W, X, rfl, d, d'⟩ := b.two; exact ⟨_, _, _, rfl, a, d, d'⟩
section
variable {Γ : Cx} {n : Nat} {env : Env} {σ : St} {sc : Scope}
noncomputable abbrev EvS (Γ : Cx) (n : Nat) (env : Env) (σ : St) (pos : Pos) (es : List Expr) (Ps : List (Pred Value)) : Prop := EvP Γ n env σ (spliced (backTo pos (starEach es env))) (PA Ps)
theorem EvS.nil {pos : Pos} : EvS Γ n env σ pos [] [] := .mk fun A E s φ H R ok lv eo Q k => wpAny_items_nil (k _ _ (Kp.refl _) ok .nil)
theorem EvS.cons {pos : Pos} {e : Expr} {es : List Expr} {P : Pred Value} {Ps : List (Pred Value)} (mP : MonoP P) (h : EvP Γ n env σ (eval e env) P) (hs : EvS Γ n env σ pos es Ps)
  (he : ∀ env, starEach (e :: es) env = (false, eval e env) :: starEach es env := by intro _; rfl) : EvS Γ n env σ pos (e :: es) (P :: Ps) :=
 .mk fun A E s φ H R ok lv eo Q k => wpAny_items_cons (h.run A E s φ H R ok lv eo _ fun V s1 k1 ok1 d => hs.run A E s1 φ H R ok1 (lv.kp k1) (eo.kp k1) _ fun Vs s2 k2 ok2 ds => k _ _ (k1.trans k2) ok2 (.cons (mP _ _ _ _ _ k2 d) ds)) (he env)
theorem Ev.list {es : List Expr} {pos : Pos} {xs : List PV} (h : EvS Γ n env σ pos es (pvs xs)) (hz : xs.length ≤ 2 ^ 24) : Ev Γ n env σ (.List es pos) (.pv (.list xs)) :=
 .mk fun A E s φ H R ok lv eo Q k => wpAny_List (h.run A E s φ H R ok lv eo _ fun Vs s1 k1 ok1 d => by
  have dd := PArgs.dens d
  have := dd.length
  refine ⟨by simp only [sizeLine]; lia, k _ _ (k1.trans (Kp.push _ _)) (ok1.push0 _) (.list (lv.kp k1).size (LstAt.new _ _) ?_)⟩
  exact dd.kp (Kp.push _ _))
theorem Ev.tup {es : List Expr} {c : Nat} {pos : Pos} {xs : List PV} (h : EvS Γ n env σ pos es (pvs xs)) (hz : xs.length ≤ 2 ^ 24) : Ev Γ n env σ (.Tuple es c pos) (.pv (.tup xs)) :=
 .mk fun A E s φ H R ok lv eo Q k => wpAny_Tuple (h.run A E s φ H R ok lv eo _ fun Vs s1 k1 ok1 d => by
  have dd := PArgs.dens d
  have := dd.length
  refine ⟨by simp only [sizeLine]; lia, k _ _ (k1.trans (Kp.push _ _)) (ok1.push0 _) (.tup (lv.kp k1).size (TupAt.new _ _) ?_)⟩
  exact dd.kp (Kp.push _ _))
theorem Ev.global {x : Str} {pos : Pos} {v : Value} (G : EnvS env sc) (hx : sc.names.lookup x = some .globalImplicit) (hg : Γ.mg x = some v) (hd : (x == ("__debug__" : Str)) = false) : EvP Γ n env σ (eval (.Name x pos) env) fun _ _ _ V => V = v :=
 .mk fun A E s φ H R ok lv eo Q k => Name_function_global G.g.kind (by unfold Env.kindOf; rw [G.scope]; exact hx)
  (loadGlobal_global (by rw [G.globals]; exact ns_kp Γ.g ok.kb) hg (k _ _ (Kp.refl _) ok rfl)) hd
theorem Ev.builtin {x : Str} {pos : Pos} {v : Value} (G : EnvS env sc) (hx : sc.names.lookup x = some .globalImplicit) (hg : Γ.mg x = none) (hb : bootBuiltins x = some v) (hn : x ≠ "__name__") (hd : (x == ("__debug__" : Str)) = false) : EvP Γ n env σ (eval (.Name x pos) env) fun _ _ _ V => V = v :=
 .mk fun A E s φ H R ok lv eo Q k => Name_function_global G.g.kind (by unfold Env.kindOf; rw [G.scope]; exact hx)
  (loadGlobal_builtin (by rw [G.globals]; exact ns_kp Γ.g ok.kb) hg (by rw [G.builtins]; exact ns_kp Γ.b ok.kb) ((Γ.builtins x hn).trans hb) (k _ _ (Kp.refl _) ok rfl)) hd
noncomputable def CallB (Γ : Cx) (n : Nat) (env : Env) (σ : St) (f : Value) (Ps : List (Pred Value)) (P : Pred Value) : Prop :=
 ∀ Vs : List Value, Stp Γ n env σ (call f Vs) (fun φ H h => PArgs φ H h Ps Vs) P
theorem Ev.call_fn {x : Str} {p pos : Pos} {id : String} {e : Expr} {es : List Expr} {Ps : List (Pred Value)} {P : Pred Value} (hf : EvP Γ n env σ (eval (.Name x p) env) fun _ _ _ V => V = .builtin id) (ha : EvS Γ n env σ pos (e :: es) Ps) (hc : CallB Γ n env σ (.builtin id) Ps P)
  (he : ∀ env, starEach (e :: es) env = (false, eval e env) :: starEach es env := by intro _; rfl) (hp : ∀ env, (backTo pos (starEach es env)).any (·.1) = false := by intro _; rfl) : EvP Γ n env σ (eval (.Call (.Name x p) (e :: es) [] pos) env) P :=
 .mk fun A E s φ H R ok lv eo Q k => wpAny_Call_Name_kw (hf.run A E s φ H R ok lv eo _ fun V s1 k1 ok1 hV => by
  subst hV
  exact PyProof.Rows.callWith_builtin1 (ha.run A E s1 φ H R ok1 (lv.kp k1) (eo.kp k1) _ fun Vs s2 k2 ok2 ds => hc Vs A E s2 φ H R ok2 (lv.kp (k1.trans k2)) (eo.kp (k1.trans k2)) ds Q fun V s3 k3 ok3 d => k V s3 ((k1.trans k2).trans k3) ok3 d) (he env) (hp env))
theorem Ev.call_ty {x : Str} {p pos : Pos} {T : String} {e : Expr} {es : List Expr} {Ps : List (Pred Value)} {P : Pred Value} (hf : EvP Γ n env σ (eval (.Name x p) env) fun _ _ _ V => V = .type T) (ha : EvS Γ n env σ pos (e :: es) Ps) (hc : CallB Γ n env σ (.type T) Ps P)
  (he : ∀ env, starEach (e :: es) env = (false, eval e env) :: starEach es env := by intro _; rfl) (hp : ∀ env, (backTo pos (starEach es env)).any (·.1) = false := by intro _; rfl) : EvP Γ n env σ (eval (.Call (.Name x p) (e :: es) [] pos) env) P :=
 .mk fun A E s φ H R ok lv eo Q k => wpAny_Call_Name_kw (hf.run A E s φ H R ok lv eo _ fun V s1 k1 ok1 hV => by
  subst hV
  exact PyProof.Rows.callWith_type1 (ha.run A E s1 φ H R ok1 (lv.kp k1) (eo.kp k1) _ fun Vs s2 k2 ok2 ds => hc Vs A E s2 φ H R ok2 (lv.kp (k1.trans k2)) (eo.kp (k1.trans k2)) ds Q fun V s3 k3 ok3 d => k V s3 ((k1.trans k2).trans k3) ok3 d) (he env) (hp env))
noncomputable abbrev Cx.on (Γ : Cx) (k : List Addr) : Cx := { Γ with stk := k }
noncomputable def FSpec (Γ : Cx) (n : Nat) (f : Addr) (xs : List PV) (r : PV) : Prop :=
 ∀ (k : List Addr) (A : Around) (s : Shared) (H : List Addr) (Vs : List Value), Room (Γ.on k) A n → (Γ.on k).Ok s → Live H s.heap → Dens H s.heap Vs xs →
  ∀ R : Result → Shared → Prop, (∀ V s', Kp s.heap s'.heap → (Γ.on k).Ok s' → Den H s'.heap V r → R (.ok (.ret V)) s') → codeAny (model Γ.prog Γ.w) A (.call (.ref f) ⟨Vs, []⟩) R s
theorem FSpec.on {Γ : Cx} {n : Nat} {f : Addr} {xs : List PV} {r : PV} (F : FSpec Γ n f xs r) {k : List Addr} : FSpec (Γ.on k) n f xs r := F
theorem Ev.call_def {x : Str} {p pos : Pos} {f : Addr} {o : Obj} {fd : FuncData} {e : Expr} {es : List Expr} {xs : List PV} {r : PV} (hf : EvP Γ n env σ (eval (.Name x p) env) fun _ _ _ V => V = .ref f)
  (ho : Γ.hB.get? f = some o) (hd : o.data = .func fd) (F : FSpec Γ n f xs r) (ha : EvS Γ n env σ pos (e :: es) (pvs xs))
  (he : ∀ env, starEach (e :: es) env = (false, eval e env) :: starEach es env := by intro _; rfl) : Ev Γ n env σ (.Call (.Name x p) (e :: es) [] pos) (.pv r) :=
 .mk fun A E s φ H R ok lv eo Q k => wpAny_Call_Name_kw (hf.run A E s φ H R ok lv eo _ fun V s1 k1 ok1 hV => by
  subst hV
  exact callWith_def hd (ha.run A E s1 φ H R ok1 (lv.kp k1) (eo.kp k1) _ fun Vs s2 k2 ok2 ds => ⟨ok2.base _ _ ho (q42 (q36 hd)), wpAny_call (F Γ.stk A s2 H Vs R ok2 (lv.kp (k1.trans k2)) (PArgs.dens ds) _ fun V s3 k3 ok3 d => k V s3 ((k1.trans k2).trans k3) ok3 d)⟩) (he env))
theorem CallB.len_str {x : List Nat} (hx : x.length < 2 ^ 60) : CallB Γ n env σ (.builtin "len") [PR (.pv (.str x))] (PR (.pv (.int x.length))) := fun Vs A E s φ H R ok lv eo c Q k => by
 obtain ⟨_, rfl, a⟩ := c.one; cases a using Den.s
 refine PyProof.Rows.len_str (by simp only [Str.length, List.size_toArray]; lia) (k _ _ (Kp.refl _) ok.toks ?_)
 dsimp only [Str.length, List.size_toArray]
 exact .int _ _
theorem CallB.len_list {xs : List PV} (hx : xs.length < 2 ^ 60) : CallB Γ n env σ (.builtin "len") [PL xs] (PR (.pv (.int xs.length))) := fun Vs A E s φ H R ok lv eo c Q k => by
 obtain ⟨_, rfl, l, vs, rfl, hl, hd⟩ := c.one
 have := hd.length
 simp only [Array.length_toList] at this
 refine PyProof.Rows.len_list hl.isList (by lia) (k _ _ (Kp.refl _) ok.toks ?_)
 rw [this]; exact .int _ _
theorem CallB.chr {i : Int} (h0 : 0 ≤ i) (h1 : i ≤ 1114111) : CallB Γ n env σ (.builtin "chr") [PR (.pv (.int i))] (PR (.pv (.str [i.toNat]))) := fun Vs A E s φ H R ok lv eo c Q k => by
 obtain ⟨_, rfl, a⟩ := c.one; cases a using Den.i
 exact PyProof.Rows.chr_of_range h0 h1 (k _ _ (Kp.refl _) ok.toks (.str [i.toNat] _))
theorem CallB.range1 {b : Int} : CallB Γ n env σ (.type "range") [PR (.pv (.int b))] (PR (.pv (.rng 0 b))) := fun Vs A E s φ H R ok lv eo c Q k => by
 obtain ⟨_, rfl, a⟩ := c.one; cases a using Den.i
 refine PySem.call_range_1 (k _ _ (Kp.push _ _) (ok.push _) (.rng lv.size ⟨_, _, _, Heap.get?_push_size _ rfl⟩))
theorem CallB.range2 {a b : Int} : CallB Γ n env σ (.type "range") [PR (.pv (.int a)), PR (.pv (.int b))] (PR (.pv (.rng a b))) := fun Vs A E s φ H R ok lv eo c Q k => by
 obtain ⟨_, _, rfl, a, b⟩ := c.two; cases a; cases b
 refine PySem.call_range_2 (k _ _ (Kp.push _ _) (ok.push _) (.rng lv.size ⟨_, _, _, Heap.get?_push_size _ rfl⟩))
end
noncomputable def lowAt (n : Nat) (lo : Option Int) : Nat := lo.elim 0 (clipAt n)
noncomputable def q49 (n : Nat) (hi : Option Int) : Nat := hi.elim n (clipAt n)
noncomputable def cut {α : Type} (lo hi : Option Int) (xs : List α) : List α := (xs.drop (lowAt xs.length lo)).take (q49 xs.length hi - lowAt xs.length lo)
theorem qz1 (n : Nat) (i : Int) : clipAt n i ≤ n := by
 unfold clipAt
 exact Int.toNat_le.mpr (Int.max_le.mpr ⟨Int.natCast_nonneg n, Int.min_le_right _ _⟩)
theorem qx5 (n : Nat) (hi : Option Int) : q49 n hi ≤ n := by cases hi <;> simp [q49, qz1]
theorem qi3 (x : List Nat) (t : Tok) (l u : Option (Int × Tok)) : slicePicked ⟨x.toArray⟩ l u none = (List.range (q49 x.length (u.map (·.1)) - lowAt x.length (l.map (·.1)))).map (lowAt x.length (l.map (·.1)) + ·) := by
 rw [← sliceRange_one]
 haveI e := sliceBounds_plain (l.map (·.1)) (u.map (·.1)) x.length
 show sliceRange (sliceBounds (l.map (·.1)) (u.map (·.1)) none x.length).1 (sliceBounds (l.map (·.1)) (u.map (·.1)) none x.length).2.1 1 = _
 rw [e]; rfl
theorem z57 (x : List Nat) (t : Tok) (l u : Option (Int × Tok)) {s : Shared} {Q : Value → Shared → Prop} (hz : x.length ≤ 2 ^ 24)
  (h : ∀ t' k, Q (.str ⟨(cut (l.map (·.1)) (u.map (·.1)) x).toArray⟩ t') { s with toks := k }) : (sliceMade ⟨x.toArray⟩ t l u none).post Q s := by
 unfold sliceMade
 have hp : List.filterMap (fun k => (x.toArray)[k]?) (slicePicked ⟨x.toArray⟩ l u none) = cut (l.map (·.1)) (u.map (·.1)) x := by
  rw [qi3 x t, pick_run]; rfl
 split
 ·rename_i c
  simp only [qi3 x t, Str.length, List.size_toArray, Bool.and_eq_true, beq_iff_eq, List.length_map, List.length_range] at c
  haveI h1 := qx5 x.length (u.map (·.1))
  have e1 : lowAt x.length (l.map (·.1)) = 0 ∨ x.length = 0 := by lia
  haveI e : cut (l.map (·.1)) (u.map (·.1)) x = x := by
   unfold cut
   rcases e1 with e1 | e1
   ·haveI c2 := c.2; rw [e1]; rw [e1] at c2; rw [List.drop_zero]; exact List.take_of_length_le (by lia)
   haveI : x = [] := List.length_eq_zero_iff.mp e1
   subst this; simp
  have := h t s.toks
  rw [e] at this
  exact this
 show Made.post (.str _) Q s
 rw [hp]
 refine ⟨?_, h _ _⟩
 haveI : (cut (l.map (·.1)) (u.map (·.1)) x).length ≤ x.length := by unfold cut; simp; lia
 simp only [Str.length, List.size_toArray, sizeLine]; lia
noncomputable def PPart (k : Option Int) : Pred Value := fun _ _ _ V => IsPart V k
noncomputable def PSl (a b c : Option Int) : Pred Value := fun _ _ h V => ∃ sl vl vu vs, V = .ref sl ∧ h.IsSliceOf sl vl vu vs ∧ IsPart vl a ∧ IsPart vu b ∧ IsPart vs c
theorem qe5 {V : Value} {k : Option Int} (h : IsPart V k) : ∃ p : Option (Int × Tok), V = partValue p ∧ p.map (·.1) = k := by
 cases h with
 | none => exact ⟨none, rfl, rfl⟩
 | int i t => exact ⟨some (i, t), rfl, rfl⟩
section
variable {Γ : Cx} {n : Nat} {env : Env} {σ : St} {sc : Scope}
noncomputable abbrev EvPart (Γ : Cx) (n : Nat) (env : Env) (σ : St) (e : Option Expr) (k : Option Int) : Prop := EvP Γ n env σ (evalPart e env) (PPart k)
theorem EvPart.no : EvPart Γ n env σ none none := .mk fun A E s φ H R ok lv eo Q k => by
 rw [evalPart_none]; exact wpAny_pure (k _ _ (Kp.refl _) ok .none)
theorem EvPart.yes {e : Expr} {i : Int} (h : Ev Γ n env σ e (.pv (.int i))) : EvPart Γ n env σ (some e) (some i) := .mk fun A E s φ H R ok lv eo Q k => by
 rw [evalPart_some]; exact h.run A E s φ H R ok lv eo Q fun V s' k1 ok1 d => k V s' k1 ok1 (by cases d using Den.i; exact .int _ _)
theorem EvSl {lo hi st : Option Expr} {p : Pos} {a b c : Option Int} (ha : EvPart Γ n env σ lo a) (hb : EvPart Γ n env σ hi b) (hc : EvPart Γ n env σ st c) : EvP Γ n env σ (eval (.Slice lo hi st p) env) (PSl a b c) :=
 .mk fun A E s φ H R ok lv eo Q k => wpAny_Slice (ha.run A E s φ H R ok lv eo _ fun V1 s1 k1 ok1 d1 => hb.run A E s1 φ H R ok1 (lv.kp k1) (eo.kp k1) _ fun V2 s2 k2 ok2 d2 => hc.run A E s2 φ H R ok2 (lv.kp (k1.trans k2)) (eo.kp (k1.trans k2)) _ fun V3 s3 k3 ok3 d3 =>
  k _ _ (((k1.trans k2).trans k3).trans (Kp.push _ _)) (ok3.push0 _) ⟨_, _, _, _, rfl, Heap.IsSliceOf.new _ _ _ _, d1, d2, d3⟩)
theorem Ev.cut_str {value : Expr} {lo hi : Option Expr} {p pos : Pos} {x : List Nat} {a b : Option Int} (ho : Ev Γ n env σ value (.pv (.str x))) (ha : EvPart Γ n env σ lo a) (hb : EvPart Γ n env σ hi b) (hz : x.length ≤ 2 ^ 24) :
  Ev Γ n env σ (.Subscript value (.Slice lo hi none p) pos) (.pv (.str (cut a b x))) :=
 EvP.sub (mR _) ho (EvSl ha hb .no) fun V W A E s φ H R ok lv eo cc Q k => by
  obtain ⟨d1, sl, vl, vu, vs, rfl, hs, pa, pb, pc⟩ := cc; cases d1 using Den.s
  obtain ⟨p1, rfl, rfl⟩ := qe5 pa; obtain ⟨p2, rfl, rfl⟩ := qe5 pb; cases pc
  exact tail_any (T := "str") rfl F.slot_str_getitem.lookup (wpAny_getItem_str_slice (st := none) hs rfl (z57 x _ p1 p2 hz fun t' j => k _ _ (Kp.refl _) ok.toks (.str _ _))) rfl
theorem qs1 (vs : Array Value) (lo hi : Option Int) : (slicePick vs lo hi none).toList = cut lo hi vs.toList := by
 rw [slicePick_plain]; simp [cut, lowAt, q49]
theorem Dens.cut {H : List Addr} {h : Heap} {Vs : List Value} {vs : List PV} (d : Dens H h Vs vs) (lo hi : Option Int) : Dens H h (cut lo hi Vs) (cut lo hi vs) := by
 unfold Mine.cut; rw [d.length]; exact (d.drop _).take _
theorem Ev.cut_list {value : Expr} {lo hi : Option Expr} {p pos : Pos} {xs : List PV} {a b : Option Int} (ho : EvL Γ n env σ value xs) (ha : EvPart Γ n env σ lo a) (hb : EvPart Γ n env σ hi b) (hz : xs.length ≤ 2 ^ 24) :
  Ev Γ n env σ (.Subscript value (.Slice lo hi none p) pos) (.pv (.list (cut a b xs))) :=
 EvP.sub (mL _) ho (EvSl ha hb .no) fun V W A E s φ H R ok lv eo cc Q k => by
  obtain ⟨⟨l, vs, rfl, hl, hd⟩, sl, vl, vu, v3, rfl, hs, pa, pb, pc⟩ := cc
  have := hd.length
  simp only [Array.length_toList] at this
  refine tail_any (T := "list") hl.isList.typeIs F.slot_list_getitem.lookup (wpAny_getItem_list_slice hl.isList hs pa pb pc (by simp) (k _ _ (Kp.push _ _) (ok.push0 _) (.list lv.size (LstAt.new _ _) ?_)) (by simp only [sizeLine]; lia)) rfl
  rw [qs1]
  exact (hd.cut a b).kp (Kp.push _ _)
theorem Ev.cut_list_step {value st : Expr} {lo hi : Option Expr} {p pos : Pos} {xs : List PV} {a b : Option Int} {c : Int} (ho : EvL Γ n env σ value xs) (ha : EvPart Γ n env σ lo a) (hb : EvPart Γ n env σ hi b) (hc : Ev Γ n env σ st (.pv (.int c))) (h0 : c ≠ 0) (hz : xs.length ≤ 2 ^ 24)
  {ys : List PV} (hy : ((sliceRange (sliceBounds a b (some c) xs.length).1 (sliceBounds a b (some c) xs.length).2.1 (sliceBounds a b (some c) xs.length).2.2).filterMap (xs[·]?)) = ys) :
  Ev Γ n env σ (.Subscript value (.Slice lo hi (some st) p) pos) (.pv (.list ys)) :=
 EvP.sub (mL _) ho (EvSl ha hb (.yes hc)) fun V W A E s φ H R ok lv eo cc Q k => by
  obtain ⟨⟨l, vs, rfl, hl, hd⟩, sl, vl, vu, v3, rfl, hs, pa, pb, pc⟩ := cc
  have := hd.length
  simp only [Array.length_toList] at this
  refine tail_any (T := "list") hl.isList.typeIs F.slot_list_getitem.lookup (wpAny_getItem_list_slice hl.isList hs pa pb pc (by simpa using h0) (k _ _ (Kp.push _ _) (ok.push0 _) (.list lv.size (LstAt.new _ _) ?_)) (by simp only [sizeLine]; lia)) rfl
  subst hy
  haveI key : ∀ is : List Nat, Dens H s.heap (is.filterMap (vs[·]?)) (is.filterMap (xs[·]?)) := by
   intro is
   induction is with
   | nil => exact .nil
   | cons i is ih =>
    dsimp only [List.filterMap_cons]
    cases e : vs[i]? with
    | none =>
     have : xs[i]? = none := by
      rw [List.getElem?_eq_none_iff]; rw [Array.getElem?_eq_none_iff] at e; lia
     rw [this]; exact ih
    | some V =>
     obtain ⟨v, hv, dv⟩ := hd.getV (i := i) (V := V) (by simpa using e)
     rw [hv]; exact .cons dv ih
  have := (key (sliceRange (sliceBounds a b (some c) xs.length).1 (sliceBounds a b (some c) xs.length).2.1 (sliceBounds a b (some c) xs.length).2.2)).kp (Kp.push s.heap { cls := .type "list", data := .seq (slicePick vs a b (some c)) })
  refine (show (slicePick vs a b (some c)).toList = _ from ?_) ▸ this
  unfold slicePick
  simp [‹vs.size = xs.length›]
end
theorem q40 {a b : String} (h : Str.ofString a = Str.ofString b) : a = b := by
 rw [Str.ofString_eq_toList, Str.ofString_eq_toList] at h
 injection h with h
 haveI h2 : a.toList.map Char.toNat = b.toList.map Char.toNat := by simpa using congrArg Array.toList h
 haveI h3 : a.toList = b.toList := List.map_inj_right (fun x y e => Char.toNat_inj.mp e) |>.mp h2
 exact String.toList_inj.mp h3
noncomputable def FK (M : List Addr) (h h' : Heap) : Prop := ∀ b o, b ∉ M → h.get? b = some o → h'.get? b = some o
theorem FK.refl (M : List Addr) (h : Heap) : FK M h h := fun _ _ _ e => e
theorem FK.trans {M : List Addr} {h₁ h₂ h₃ : Heap} (x : FK M h₁ h₂) (y : FK M h₂ h₃) : FK M h₁ h₃ := fun b o m e => y b o m (x b o m e)
theorem FK.kpH {M : List Addr} {h h' : Heap} (x : FK M h h') : KpH M h h' := fun b o m e _ => .of (x b o m e)
theorem FK.same {M : List Addr} {a : Addr} {h h' : Heap} (x : Heap.SameBut a h h') (ha : a ∈ M) : FK M h h' := fun b o m e => (x.2 b fun q => m (q ▸ ha)).trans e
theorem KpH.refl (M : List Addr) (h : Heap) : KpH M h h := fun _ _ _ e _ => .of e
theorem KpH.trans {M : List Addr} {h₁ h₂ h₃ : Heap} (x : KpH M h₁ h₂) (y : KpH M h₂ h₃) : KpH M h₁ h₃ := fun b o m e t => (x b o m e t).trans fun o' e' t' => y b o' m e' (t'.trans t)
theorem KpH.kp {M : List Addr} {h₀ h h' : Heap} (k : KpH M h h') (hm : ∀ a ∈ M, h₀.get? a = none) (k0 : Kp h₀ h) : Kp h₀ h' := fun b o e t => (k0 b o e t).trans fun o' e' t' => k b o' (fun m => by rw [hm b m] at e; cases e) e' (t'.trans t)
theorem Cx.Ok.new {Γ : Cx} {s : Shared} (ok : Γ.Ok s) {a : Addr} (h : s.heap.get? a = none) : Γ.hB.get? a = none := by
 by_cases e : Γ.hB.get? a = none
 ·exact e
 exact absurd h (ok.all a e)
noncomputable def Wr (env : Env) (M : List Addr) (h : Heap) (x : String) : Prop :=
 (env.kindOf (Str.ofString x) = some .local ∧ env.locals ∈ M ∧ ∃ m, h.Ns env.locals m) ∨
 (env.kindOf (Str.ofString x) = some .cell ∧ ∃ c v, env.cells.lookup (Str.ofString x) = some c ∧ c ∈ M ∧ h.IsCell c v ∧ ∀ y, env.cells.lookup y = some c → y = Str.ofString x)
noncomputable def Sm (env : Env) (xs : List String) (h h' : Heap) : Prop := ∀ y V, y ∉ xs → At env h y V → At env h' y V
theorem Sm.trans {env : Env} {xs : List String} {h₁ h₂ h₃ : Heap} (a : Sm env xs h₁ h₂) (b : Sm env xs h₂ h₃) : Sm env xs h₁ h₃ := fun y V n x => b y V n (a y V n x)
theorem Sm.mono {env : Env} {xs ys : List String} {h h' : Heap} (a : Sm env xs h h') (s : ∀ x ∈ xs, x ∈ ys) : Sm env ys h h' := fun y V n x => a y V (fun m => n (s _ m)) x
noncomputable def q78 (env : Env) (M : List Addr) (h h' : Heap) : Prop := ∀ y, Wr env M h y → Wr env M h' y
theorem Wr.kp {env : Env} {M : List Addr} {h h' : Heap} {x : String} (w : Wr env M h x) (k : Kp h h') : Wr env M h' x :=
 w.imp (fun ⟨a, b, m, hn⟩ => ⟨a, b, m, ns_kp hn k⟩) fun ⟨a, c, v, hc, hm, hv, u⟩ => ⟨a, c, v, hc, hm, q71 hv k, u⟩
structure LvK (h h' : Heap) : Prop where
 lv : ∀ a, (∃ o, h.get? a = some o ∧ isTab o = false) → ∃ o, h'.get? a = some o ∧ isTab o = false
 fr : ∀ a, (∃ o, h.get? a = some o ∧ isFr o = true) → ∃ o, h'.get? a = some o ∧ isFr o = true
theorem q16 {o : Obj} (h : isFr o = true) : isTab o = false := by
 unfold isFr at h; split at h
 ·rename_i h2; exact q22 h2
 exact absurd h Bool.false_ne_true
theorem Live.noTab {H : List Addr} {h : Heap} (l : Live H h) {a : Addr} {o : Obj} (e : h.get? a = some o) (t : isTab o = true) : a ∉ H := fun m => by
 obtain ⟨o', e', t'⟩ := l a m; rw [e] at e'; cases e'; rw [t] at t'; cases t'
theorem LvK.refl (h : Heap) : LvK h h := ⟨fun _ x => x, fun _ x => x⟩
theorem LvK.trans {h₁ h₂ h₃ : Heap} (x : LvK h₁ h₂) (y : LvK h₂ h₃) : LvK h₁ h₃ := ⟨fun a z => y.lv a (x.lv a z), fun a z => y.fr a (x.fr a z)⟩
theorem LvK.of {h h' : Heap} (k : Kp h h') : LvK h h' := ⟨fun a ⟨o, e, t⟩ => let ⟨_, e'⟩ := (k _ _ e t).sl; ⟨_, e', t⟩, fun a ⟨o, e, t⟩ => let ⟨_, e'⟩ := (k _ _ e (q16 t)).sl; ⟨_, e', t⟩⟩
theorem LvK.live {h h' : Heap} (x : LvK h h') {H : List Addr} (l : Live H h) : Live H h' := fun a ha => x.lv a (l a ha)
theorem LvK.same {h h' : Heap} {a : Addr} (x : Heap.SameBut a h h') (ha : ∃ o, h'.get? a = some o ∧ isTab o = false) (hf : ∀ o, h.get? a = some o → isFr o = true → ∃ o', h'.get? a = some o' ∧ isFr o' = true) : LvK h h' := ⟨fun b ⟨o, e, t⟩ => by
  by_cases q : b = a
  ·exact q ▸ ha
  ·exact ⟨o, (x.2 b q).trans e, t⟩, fun b ⟨o, e, t⟩ => by
  by_cases q : b = a
  ·subst q; exact hf o e t
  exact ⟨o, (x.2 b q).trans e, t⟩⟩
theorem Cx.Ok.fk {Γ : Cx} {s : Shared} (ok : Γ.Ok s) {M : List Addr} {h' : Heap} {t : Nat} (k : FK M s.heap h') (hm : ∀ a ∈ M, Γ.hB.get? a = none) (ht : ∀ a o, s.heap.get? a = some o → isTab o = true → a ∉ M) (lk : ∀ a ∈ Γ.stk, (∃ o, s.heap.get? a = some o ∧ isFr o = true) → ∃ o, h'.get? a = some o ∧ isFr o = true) : Γ.Ok { s with heap := h', toks := t } :=
 ⟨fun b o e t => k b o (fun m => by rw [hm b m] at e; cases e) (ok.base b o e t), fun p hp => (ok.tabs p hp).keep fun b o e t => k b o (ht b o e t) e, ok.gens, ok.os, fun b hb => by
  obtain ⟨o, ho⟩ := Option.ne_none_iff_exists'.mp (ok.all b hb)
  rw [show ({ s with heap := h', toks := t } : Shared).heap = h' from rfl, k _ _ (fun m => hb (hm b m)) ho]; simp, fun L hL => lk L hL (ok.frs L hL), ok.off, fun b o e t => k b o (fun m => by rw [hm b m] at e; cases e) (ok.old b o e t)⟩
theorem nt_ns {h : Heap} {a : Addr} {m} (x : h.Ns a m) : ∃ o, h.get? a = some o ∧ isTab o = false := let ⟨o, es, ep, ho, hd, _⟩ := x; ⟨o, ho, q22 hd⟩
theorem LvK.lst {h h' : Heap} {a : Addr} {vs vs'} (x : Heap.SameBut a h h') (l : LstAt h a vs) (l' : LstAt h' a vs') : LvK h h' := .same x l'.some fun o e t => by
 obtain ⟨n, e'⟩ := l; rw [e'] at e; cases e; cases t
theorem fr_ns {h : Heap} {a : Addr} {m} (x : h.Ns a m) : ∃ o, h.get? a = some o ∧ isFr o = true := let ⟨o, es, ep, ho, hd, _⟩ := x; ⟨o, ho, qi9 hd⟩
theorem q52 {h : Heap} {a : Addr} {v} (x : h.IsCell a v) : ∃ o, h.get? a = some o ∧ isTab o = false := let ⟨o, ho, hd⟩ := x; ⟨o, ho, q12 hd⟩
theorem q28 {h : Heap} {a c : Addr} {m v} (x : h.Ns a m) (y : h.IsCell c v) : a ≠ c := fun e => by
 obtain ⟨o, es, ep, ho, hd, _⟩ := x; obtain ⟨o', ho', hd'⟩ := y
 subst e; rw [ho] at ho'; cases ho'; rw [hd] at hd'; cases hd'
theorem q64 {Md : Model} {A : Around} {E : Value → Shared → Prop} {s : Shared} {env : Env} {M : List Addr} {x : String} {V : Value} {Q : Unit → Shared → Prop} (hk : env.scope.kind = .function) (w : Wr env M s.heap x)
  (h : ∀ h' t, FK M s.heap h' → LvK s.heap h' → At env h' x V → Sm env [x] s.heap h' → q78 env M s.heap h' → Q () { s with heap := h', toks := t }) : wpAny Md A (storeName env (Str.ofString x) V) Q E s := by
 rcases w with ⟨e, hL, m, hn⟩ | ⟨e, c, v, hc, hm, hv, u⟩
 ·refine wpAny_storeName_local e hn (fun h' hn' hs => h h' _ (FK.same hs hL) (.same hs (nt_ns hn') fun _ _ _ => fr_ns hn') (.inl ⟨e, _, hn', by simp⟩) (fun y W hy a => ?_) (fun y w' => ?_)) (hk ▸ rfl)
  ·rcases a with ⟨e', m', hn2, hm2⟩ | ⟨e', c, hc, hv⟩
   ·refine .inl ⟨e', _, hn', ?_⟩
    haveI hy' : Str.ofString y ≠ Str.ofString x := fun q => hy ((q40 q) ▸ .head _)
    haveI : m (Str.ofString y) = m' (Str.ofString y) := by
     obtain ⟨o, es, ep, ho, hd, _, hf⟩ := hn
     obtain ⟨o', es', ep', ho', hd', _, hf'⟩ := hn2
     rw [ho] at ho'; cases ho'; rw [hd] at hd'; cases hd'
     rw [← hf, ← hf']
    simp [hy', this, hm2]
   exact .inr ⟨e', c, hc, hv.sameBut hs (q28 hn hv).symm⟩
  rcases w' with ⟨e', hL', m', hn2⟩ | ⟨e', c, v, hc, hm, hv, u⟩
  ·exact .inl ⟨e', hL', _, hn'⟩
  exact .inr ⟨e', c, v, hc, hm, hv.sameBut hs (q28 hn hv).symm, u⟩
 refine wpAny_storeName_cell hk e hc hv fun h' hv' hs => h h' _ (FK.same hs hm) (.same hs (q52 hv') fun o e t => by obtain ⟨o', e', d'⟩ := hv; cases e'.symm.trans e; rw [q20 d'] at t; nomatch t) (.inr ⟨.inl e, c, hc, hv'⟩) (fun y W hy a => ?_) (fun y w' => ?_)
 ·rcases a with ⟨e', m', hn2, hm2⟩ | ⟨e', c', hc', hv2⟩
  ·exact .inl ⟨e', m', hn2.sameBut hs (q28 hn2 hv), hm2⟩
  refine .inr ⟨e', c', hc', hv2.sameBut hs fun q => hy ?_⟩
  subst q
  rw [q40 (u _ hc')]; exact .head _
 rcases w' with ⟨e', hL', m', hn2⟩ | ⟨e', c', v', hc', hm', hv2, u'⟩
 ·exact .inl ⟨e', hL', m', hn2.sameBut hs (q28 hn2 hv)⟩
 by_cases q : c' = c
 ·subst q; exact .inr ⟨e', _, _, hc', hm', hv', u'⟩
 exact .inr ⟨e', c', v', hc', hm', hv2.sameBut hs q, u'⟩
noncomputable def Ats (env : Env) (h : Heap) : List String → List Value → Prop
 | [], [] => True
 | x :: xs, V :: Vs => At env h x V ∧ Ats env h xs Vs
 | _, _ => False
theorem qt9 {Md : Model} {A : Around} {E : Value → Shared → Prop} {env : Env} {M : List Addr} (hk : env.scope.kind = .function) : ∀ (xs : List String) (ps : List Pos) (Vs : List Value) (s : Shared) (Q : Unit → Shared → Prop), xs.length = Vs.length → ps.length = xs.length → xs.Nodup → (∀ x ∈ xs, Wr env M s.heap x) →
  (∀ h' t, FK M s.heap h' → LvK s.heap h' → Ats env h' xs Vs → Sm env xs s.heap h' → q78 env M s.heap h' → Q () { s with heap := h', toks := t }) →
  wpAny Md A (assignInOrder ((xs.zip ps).map fun p => assign (.Name (Str.ofString p.1) p.2) env) Vs) Q E s := by
 intro xs
 induction xs with
 | nil =>
  intro ps Vs s Q hl _ _ _ h
  cases Vs with
  | nil =>
   exact wpAny_pure (h s.heap s.toks (FK.refl _ _) (LvK.refl _) trivial (fun _ _ _ a => a) fun _ w => w)
  | cons _ _ => simp at hl
 | cons x xs ih =>
  intro ps Vs s Q hl hp hn hw h
  cases Vs with
  | nil => simp at hl
  | cons V Vs =>
   cases ps with
   | nil => simp at hp
   | cons p ps =>
    show wpAny Md A (do holding Vs (assign (.Name (Str.ofString x) p) env V); assignInOrder _ Vs) Q E s
    refine wpAny_bind (wpAny_holding (wpAny_assign_Name (q64 hk (hw x (.head _)) fun h1 t1 f1 l1 a1 s1 w1 => ?_)))
    have hn' := List.nodup_cons.mp hn
    refine ih ps Vs { s with heap := h1, toks := t1 } Q (by simpa using hl) (by simpa using hp) hn'.2 (fun y hy => w1 y (hw y (.tail _ hy))) fun h2 t2 f2 l2 a2 s2 w2 => ?_
    refine h h2 t2 (f1.trans f2) (l1.trans l2) ⟨s2 _ _ hn'.1 a1, a2⟩ ?_ fun y w => w2 y (w1 y w)
    exact (s1.mono fun y hy => by cases hy with | head => exact .head _ | tail _ h => cases h).trans (s2.mono fun y hy => .tail _ hy)
section
variable {prog : Program} {w : World} {A : Around} {E : Value → Shared → Prop} {s : Shared}
theorem qj5 {it t : Addr} {items : Array Value} (hne : t ≠ it) : ∀ (n i : Nat) (s : Shared) (Q : List Value → Shared → Prop), s.heap.IsListIter it t i → s.heap.IsList t items → i + n ≤ items.size →
  (∀ h', h'.IsListIter it t (i + n) → Heap.SameBut it s.heap h' → Q ((items.toList.drop i).take n) { s with heap := h' }) → wpAny (model prog w) A (draw (.ref it) n) Q E s
 | 0, i, s, Q, hit, _, _, hQ => by
  show wpAny _ _ (pure []) Q E s
  exact wpAny_pure (by simpa using hQ s.heap hit (Heap.SameBut.refl ..))
 | n + 1, i, s, Q, hit, ht, hle, hQ => by
  have hlt : i < items.size := by lia
  show wpAny _ _ (pyNext (.ref it) >>= _) Q E s
  refine wpAny_bind (wpAny_pyNext_list_item hit ht (x := items[i]) (by simp [hlt]) fun h₁ hit₁ hs₁ => ?_)
  refine wpAny_bind (wpAny_holding (qj5 hne n (i + 1) _ _ hit₁ (ht.extBut hs₁.extBut hne) (by lia) fun h₂ hit₂ hs₂ => wpAny_pure ?_))
  haveI hd : items.toList.drop i = items[i] :: items.toList.drop (i + 1) := by simp [List.drop_eq_getElem_cons, hlt]
  have := hQ h₂ (by rw [show i + (n + 1) = i + 1 + n by lia]; exact hit₂) (hs₁.trans hs₂)
  rw [hd, List.take_succ_cons] at this
  exact this
theorem q95 {t : Addr} {items : Array Value} {Q : List Value → Shared → Prop} (hh : A.handled = none) (ht : s.heap.IsList t items)
  (hQ : ∀ h', Heap.ExtBut s.heap.objs.size s.heap h' → Q items.toList { s with heap := h' }) : wpAny (model prog w) A (unpackItems (.ref t) items.size none) Q E s := by
 have hlt : t ≠ s.heap.objs.size := by obtain ⟨o, ho, _⟩ := ht; exact Nat.ne_of_lt (Heap.lt_size ho)
 unfold unpackItems
 refine wpAny_bind ?_
 unfold notIterableAtAll
 refine wpAny_bind (wpAny_specialOf ht.typeIs F.slot_list_iter.lookup ?_)
 refine wpAny_pure ?_
 dsimp only [Bool.false_eq_true, if_false]
 refine wpAny_bind (wpAny_holding (wpAny_pyIter_list ht ?_))
 refine wpAny_bind (wpAny_holding (qj5 hlt items.size 0 _ _ ⟨_, Heap.get?_push_size _ rfl, rfl, rfl⟩ (ht.push _) (by lia) fun h₁ hit₁ hs₁ => ?_))
 have hall : List.take items.size (List.drop 0 items.toList) = items.toList := by
  rw [List.drop_zero]; exact List.take_of_length_le (by simp)
 rw [hall, if_neg (by simp)]
 have ht₁ : h₁.IsList t items := (ht.push _).extBut hs₁.extBut hlt
 refine wpAny_bind (wpAny_holding (wpAny_pyNext_list_end hh hit₁ ht₁ (by simp) fun h₂ he₂ => ?_))
 dsimp only [Option.isSome_none, Bool.false_eq_true, if_false]
 exact wpAny_pure (hQ h₂ fun b o hb e => he₂ b o hb (hs₁.extBut b o hb (Heap.get?_push_of_some _ e)))
end
inductive Tgt : Expr → List String → Prop
 | name (x : String) (p : Pos) : Tgt (.Name (Str.ofString x) p) [x]
 | tup (xs : List String) (ps : List Pos) (k : Nat) (pos : Pos) : ps.length = xs.length → Tgt (.Tuple ((xs.zip ps).map fun p => .Name (Str.ofString p.1) p.2) k pos) xs
noncomputable def Unp (H : List Addr) (h : Heap) (V : Value) : Expr → List PV → Prop
 | .Tuple .., its => ∃ T vals, V = .ref T ∧ (h.IsTuple T vals ∨ h.IsList T vals) ∧ Dens H h vals.toList its
 | _, its => ∃ y, its = [y] ∧ Den H h V y
theorem q15 (env : Env) : ∀ (l : List (String × Pos)), assignEach (l.map fun p => .Name (Str.ofString p.1) p.2) env = l.map fun p => (false, assign (.Name (Str.ofString p.1) p.2) env)
 | [] => rfl
 | p :: l => by
  rw [List.map_cons, List.map_cons, ← q15 env l]; rfl
theorem qg1 {α : Type} (l : List (Bool × α)) (h : ∀ p ∈ l, p.1 = false) : l.findIdx? (·.1) = none := by
 rw [List.findIdx?_eq_none_iff]; intro p hp; exact h p hp
theorem qd0 {prog : Program} {w : World} {A : Around} {E : Value → Shared → Prop} {s : Shared} {env : Env} {M H : List Addr} {tgt : Expr} {xs : List String} {V : Value} {its : List PV} {Q : Unit → Shared → Prop}
  (hk : env.scope.kind = .function) (hh : A.handled = none) (T : Tgt tgt xs) (hn : xs.Nodup) (hw : ∀ x ∈ xs, Wr env M s.heap x) (hl : its.length = xs.length) (u : Unp H s.heap V tgt its) (hm : s.heap.objs.size ∉ M)
  (h : ∀ h' t Vs, FK M s.heap h' → LvK s.heap h' → Ats env h' xs Vs → Dens H s.heap Vs its → Sm env xs s.heap h' → q78 env M s.heap h' → Q () { s with heap := h', toks := t }) : wpAny (model prog w) A (assign tgt env V) Q E s := by
 cases T with
 | name x p =>
  obtain ⟨y, rfl, d⟩ := u
  exact wpAny_assign_Name (q64 hk (hw x (.head _)) fun h' t f lk a sm wk => h h' t [V] f lk ⟨a, trivial⟩ (.cons d .nil) sm wk)
 | tup _ ps k pos hp =>
  obtain ⟨T, vals, rfl, ht, d⟩ := u
  have hsz : vals.size = xs.length := by rw [← hl, ← d.length]; simp
  rw [arm_assign_Tuple]
  refine wpAny_bind (wpAny_standAt ?_)
  haveI hlen : (assignEach ((xs.zip ps).map fun p => Expr.Name (Str.ofString p.1) p.2) env).length = vals.size := by
   rw [q15, List.length_map, List.length_zip]; lia
  haveI hst : (assignEach ((xs.zip ps).map fun p => Expr.Name (Str.ofString p.1) p.2) env).findIdx? (·.1) = none := by
   rw [q15]; apply qg1; intro p hp; simp only [List.mem_map] at hp; obtain ⟨_, _, rfl⟩ := hp; rfl
  haveI go : ∀ h1, Heap.ExtBut s.heap.objs.size s.heap h1 → wpAny (model prog w) A (assignInOrder ((assignEach ((xs.zip ps).map fun p => Expr.Name (Str.ofString p.1) p.2) env).map (·.2)) vals.toList) Q E { s with heap := h1 } := by
   intro h1 e1
   have k1 : ∀ b o, s.heap.get? b = some o → h1.get? b = some o := fun b o e => e1 b o (Nat.ne_of_lt (Heap.lt_size e)) e
   rw [q15, List.map_map]
   refine qt9 hk xs ps vals.toList { s with heap := h1 } Q (by simpa using hsz.symm) hp hn (fun x hx => (hw x hx).kp (.of k1)) fun h' t f lk a sm wk => ?_
   refine h h' t vals.toList (fun b o m e => f b o m (k1 b o e)) ((LvK.of (.of k1)).trans lk) a d (fun y W n a => sm y W n (a.kp (.of k1))) fun y w => wk y (w.kp (.of k1))
  unfold unpack
  rw [hlen, hst]
  refine wpAny_bind (wpAny_holding ?_)
  rcases ht with ht | ht
  ·exact wpAny_unpackItems_tuple hh ht fun h1 e1 => go h1 e1
  exact q95 hh ht fun h1 e1 => go h1 e1
structure Itr (prog : Program) (w : World) (A : Around) (hpre : Heap) (H : List Addr) (tgt : Expr) (I : Addr) (fp wr : List Addr) (its : List (List PV)) (S : Nat → Heap → Prop) : Prop where
 sub : ∀ b ∈ wr, b ∈ fp
 fresh : ∀ b ∈ wr, hpre.get? b = none
 live : ∀ i h, S i h → ∀ b ∈ wr, ∃ o, h.get? b = some o ∧ isLo o = false
 frame : ∀ i h h', S i h → (∀ b ∈ fp, ∀ o, h.get? b = some o → h'.get? b = some o) → S i h'
 item : ∀ i (s : Shared) (E : Value → Shared → Prop) (x : List PV) (Q : Option Value → Shared → Prop) (H' : List Addr), its[i]? = some x → S i s.heap → (∀ a ∈ H', a ∈ H ∨ Nw hpre a) → KpH H hpre s.heap →
  (∀ v h1 t1, FK wr s.heap h1 → (∀ (E' : Value → Shared → Prop) (Q' : Unit → Shared → Prop), (∀ h2, FK wr h1 h2 → S (i + 1) h2 → Unp H' h2 v tgt x → Q' () { s with heap := h2, toks := t1 }) →
   wpAny (model prog w) A (letOwnedTupleGo tgt (.ref I) v) Q' E' { s with heap := h1, toks := t1 }) → Q (some v) { s with heap := h1, toks := t1 }) → wpAny (model prog w) A (pyNext (.ref I)) Q E s
 done : ∀ (s : Shared) (E : Value → Shared → Prop) (Q : Option Value → Shared → Prop), S its.length s.heap → (∀ h' t, FK wr s.heap h' → Q none { s with heap := h', toks := t }) → wpAny (model prog w) A (pyNext (.ref I)) Q E s
 self : ∀ i (s : Shared) (E : Value → Shared → Prop) (Q : Value → Shared → Prop), S i s.heap → Q (.ref I) s → wpAny (model prog w) A (pyIter (.ref I)) Q E s
structure EvI (Γ : Cx) (n : Nat) (env : Env) (σ : St) (e : Expr) (tgt : Expr) (its : List (List PV)) : Prop where
 run : ∀ (A : Around) (E : Value → Shared → Prop) (s : Shared) (φ : Nat → Addr) (H : List Addr), Room Γ A n → Γ.Ok s → Live H s.heap → EnvOK env φ H σ s.heap → ∀ Q : Value → Shared → Prop,
  (∀ I s' fp wr S hpre, Kp s.heap hpre → Kp hpre s'.heap → Γ.Ok s' → (∀ b ∈ wr, Γ.hB.get? b = none) → (∀ a, s'.heap.get? a = none → hpre.get? a = none) → Itr Γ.prog Γ.w A hpre H tgt I fp wr its S → S 0 s'.heap → (∀ b ∈ fp, b ∉ H ∧ ∃ o, s'.heap.get? b = some o ∧ isLo o = false) → Q (.ref I) s') →
  wpAny (model Γ.prog Γ.w) A (eval e env) (fun x s₁ => wpAny (model Γ.prog Γ.w) A (pyIter x) Q E s₁) E s
theorem q41 (h : Heap) (o : Obj) : ∀ a, (h.push o).get? a = none → h.get? a = none := fun a e => by
 cases q : h.get? a with
 | none => rfl
 | some o' => rw [Heap.get?_push_of_some o q] at e; nomatch e
theorem Itr.ofWalks {prog : Program} {w : World} {A : Around} {hpre : Heap} {H : List Addr} {x : String} {p : Pos} {I : Addr} {fp wr : List Addr} {xs : List PV} {S : Nat → Heap → Prop} {P : Nat → Value → Prop}
  (W : Walks prog w A I fp wr xs.length P S) (fresh : ∀ b ∈ wr, hpre.get? b = none) (live : ∀ i h, S i h → ∀ b ∈ wr, ∃ o, h.get? b = some o ∧ isLo o = false) (hP : ∀ i v y, P i v → xs[i]? = some y → Den H hpre v y) :
  Itr prog w A hpre H (.Name (Str.ofString x) p) I fp wr (xs.map fun y => [y]) S where
 sub := W.sub
 fresh := fresh
 live := live
 frame := W.frame
 item i s E x' Q H' hx st sub k h := by
  rw [List.getElem?_map] at hx
  obtain ⟨y, hy, rfl⟩ := Option.map_eq_some_iff.mp hx
  haveI hlt : i < xs.length := (List.getElem?_eq_some_iff.mp hy).1
  refine W.item i s Q E hlt st fun v h' tk hv st' hk => h v h' tk (fun b o m e => hk b o m e) fun E' Q' q => ?_
  refine wpAny_of_eq (a := ()) rfl (q h' (FK.refl _ _) st' ⟨y, rfl, ?_⟩)
  haveI kk : KpH H hpre h' := fun b o m e t => (k b o m e t).trans fun o' e' _ => .of (hk b o' (fun m => by rw [fresh b m] at e; nomatch e) e')
  exact (hP i v y hv hy).kpN kk sub
 done s E Q st h := W.done s Q E (by simpa using st) fun h' tk hk => h h' tk fun b o m e => hk b o m e
 self i s E Q st h := W.self i s Q E st h
section
variable {Γ : Cx} {n : Nat} {env : Env} {σ : St} {sc : Scope}
theorem EvI.list {e : Expr} {x : String} {p : Pos} {xs : List PV} (he : Ev Γ n env σ e (.pv (.list xs))) : EvI Γ n env σ e (.Name (Str.ofString x) p) (xs.map fun y => [y]) :=
 .mk fun A E s φ H R ok lv eo Q k => he.run A E s φ H R ok lv eo _ fun V s1 k1 ok1 d => by
  cases d using Den.l with
  | @list a vs ha hl hd =>
   have hne : a ≠ s1.heap.objs.size := by obtain ⟨_, e⟩ := hl; exact Nat.ne_of_lt (Heap.lt_size e)
   have hlen := hd.length
   simp only [Array.length_toList] at hlen
   refine wpAny_pyIter_list hl.isList (k s1.heap.objs.size _ [s1.heap.objs.size, a] [s1.heap.objs.size] (fun i h => h.IsListIter s1.heap.objs.size a i ∧ h.IsList a vs) s1.heap k1 (Kp.push _ _) (ok1.push0 _) (fun b hb => ok1.new (by simp only [List.mem_singleton] at hb; subst hb; exact q00 _)) (q41 _ _) ?_ ⟨⟨_, Heap.get?_push_size _ rfl, rfl, rfl⟩, hl.isList.push _⟩ ?_)
   ·have W := Walks.list (prog := Γ.prog) (w := Γ.w) R.handled s1.heap.objs.size a hne vs
    rw [hlen] at W
    refine Itr.ofWalks W (fun b hb => ?_) (fun i h st b hb => ?_) fun i v y hv hy => ?_
    ·simp only [List.mem_singleton] at hb; subst hb; exact q00 _
    ·simp only [List.mem_singleton] at hb; subst hb; obtain ⟨⟨o, ho, hc, hfd⟩, _⟩ := st; exact ⟨o, ho, q07 hc hfd⟩
    obtain ⟨V, hV, dV⟩ := hd.get hy
    have : V = v := by rw [← Array.getElem?_toList] at hv; rw [hv] at hV; exact (Option.some.inj hV).symm
    exact this ▸ dV
   intro b hb
   simp only [List.mem_cons, List.not_mem_nil, or_false] at hb
   rcases hb with rfl | rfl
   ·exact ⟨(lv.kp k1).size, _, Heap.get?_push_size _ rfl, rfl⟩
   exact ⟨ha, (hl.kp (Kp.push _ _)).lo⟩
end
theorem qk6 {prog : Program} {w : World} {A : Around} {E : Value → Shared → Prop} {s : Shared} {l : Addr} {vs : Array Value} {x : Value} {Q : Value → Shared → Prop} (hl : LstAt s.heap l vs) (hz : vs.size ≤ 2 ^ 24)
  (h : ∀ h', Heap.SameBut l s.heap h' → LstAt h' l (vs.push x) → Q .none { s with heap := h' }) : wpAny (model prog w) A (call (.builtin "list.append") [.ref l, x]) Q E s := by
 obtain ⟨k, hk⟩ := hl
 refine call_meets F.slot_list_append ⟨_, hk, rfl⟩ F.entry_list_append (F.args_list_append_2 _ _) (PySem.list_append l vs k x (by simp only [sizeLine]; exact hz)) ⟨hk, ?_⟩
 exact h _ (Heap.SameBut.update ..) ⟨_, PySem.IsL.update hk _⟩
structure Blk (Γ : Cx) (env : Env) (M : List Addr) (D : Addr) : Prop where
 apart : D ∉ M
 off : ∀ a ∈ D :: M, Γ.hB.get? a = none
 kind : env.scope.kind = .function
 loc : env.locals ∈ M
noncomputable def EmitOK (Γ : Cx) (n : Nat) (env : Env) (M : List Addr) (D : Addr) (σ : St) (t : Sem Unit) (xs ns : List String) (ys : List PV) : Prop :=
 ∀ (A : Around) (E : Value → Shared → Prop) (s : Shared) (φ : Nat → Addr) (H : List Addr) (vs : Array Value) (zs : List PV), Room Γ A n → Γ.Ok s → Live (D :: M ++ H) s.heap → EnvOK env φ (D :: M ++ H) σ s.heap → (∀ x ∈ ns, Wr env M s.heap x) →
  LstAt s.heap D vs → Dens (D :: M ++ H) s.heap vs.toList zs → zs.length + ys.length ≤ 2 ^ 24 →
  ∀ Q : Unit → Shared → Prop, (∀ s' vs', KpH (D :: M) s.heap s'.heap → Γ.Ok s' → Live (D :: M ++ H) s'.heap → Sm env xs s.heap s'.heap → q78 env M s.heap s'.heap → LstAt s'.heap D vs' → Dens (D :: M ++ H) s'.heap vs'.toList (zs ++ ys) → Q () s') → wpAny (model Γ.prog Γ.w) A t Q E s
theorem FK.frw {wr : List Addr} {h h' : Heap} (f : FK wr h h') (l : ∀ b ∈ wr, ∃ o, h.get? b = some o ∧ isLo o = false) : ∀ a, (∃ o, h.get? a = some o ∧ isFr o = true) → ∃ o, h'.get? a = some o ∧ isFr o = true := fun a ⟨o, e, t⟩ => by
 by_cases m : a ∈ wr
 ·obtain ⟨o', e', t'⟩ := l a m
  rw [e'] at e; cases e; rw [lof t'] at t; cases t
 exact ⟨o, f a o m e, t⟩
theorem LvK.fkw {wr : List Addr} {h h' : Heap} (f : FK wr h h') (l : ∀ b ∈ wr, ∃ o, h.get? b = some o ∧ isLo o = false) (l' : ∀ b ∈ wr, ∃ o, h'.get? b = some o ∧ isLo o = false) : LvK h h' := by
 refine ⟨fun a ⟨o, e, t⟩ => ?_, fun a ⟨o, e, t⟩ => ?_⟩
 ·by_cases m : a ∈ wr
  ·obtain ⟨o', e', t'⟩ := l' a m; exact ⟨o', e', (lot t')⟩
  exact ⟨o, f a o m e, t⟩
 by_cases m : a ∈ wr
 ·obtain ⟨o', e', t'⟩ := l a m
  rw [e'] at e; cases e; rw [(lof t')] at t; cases t
 exact ⟨o, f a o m e, t⟩
theorem z58 {M H : List Addr} {a : Addr} {h h' : Heap} (lv : Live H h) (hs : Heap.SameBut a h h') (ha : ∃ o, h'.get? a = some o ∧ isTab o = false) : Live H h' := fun b hb => by
 by_cases e : b = a
 ·exact e ▸ ha
 obtain ⟨o, ho, ht⟩ := lv b hb; exact ⟨o, (hs.2 b e).trans ho, ht⟩
theorem EmitOK.elt {Γ : Cx} {n : Nat} {env : Env} {M : List Addr} {D : Addr} {σ : St} {e : Expr} {y : PV} {ns : List String} (B : Blk Γ env M D) (h : Ev Γ n env σ e (.pv y)) : EmitOK Γ n env M D σ (do let _ ← call (.builtin "list.append") [.ref D, ← eval e env]) [] ns [y] :=
 fun A E s φ H vs zs R ok lv eo _ hl hd hz Q k => by
  refine wpAny_bind (h.run A E s φ (D :: M ++ H) R ok lv eo _ fun V s1 k1 ok1 d => wpAny_bind ?_)
  have hl1 := hl.kp k1
  haveI hlen := hd.length
  simp only [Array.length_toList] at hlen
  refine qk6 hl1 (by simp at hz; lia) fun h' hs hl' => wpAny_pure (k { s1 with heap := h' } (vs.push V) ?_ ?_ ?_ ?_ ?_ hl' ?_)
  ·exact (k1.toH _).trans (FK.same hs (.head _)).kpH
  ·exact ok1.fk (FK.same hs (.head M)) B.off (fun a o e t m => (lv.kp k1).noTab e t (List.mem_append_left _ m)) fun a _ => (LvK.lst hs hl1 hl').fr a
  ·exact z58 (M := D :: M) (lv.kp k1) hs hl'.some
  ·intro x V' _ a
   haveI a1 := a.kp k1
   rcases a1 with ⟨e1, m, hn, hm⟩ | ⟨e1, c, hc, hv⟩
   ·refine .inl ⟨e1, m, hn.sameBut hs fun q => ?_, hm⟩
    obtain ⟨o, es, ep, ho, hdd, _⟩ := hn; obtain ⟨i, hi⟩ := hl1
    rw [q, hi] at ho; cases ho; cases hdd
   refine .inr ⟨e1, c, hc, hv.sameBut hs fun q => ?_⟩
   obtain ⟨o, ho, hdd⟩ := hv; obtain ⟨i, hi⟩ := hl1
   rw [q, hi] at ho; cases ho; cases hdd
  ·intro x w
   have w1 := w.kp k1
   rcases w1 with ⟨e1, hL, m, hn⟩ | ⟨e1, c, v, hc, hm, hv, u⟩
   ·refine .inl ⟨e1, hL, m, hn.sameBut hs fun q => ?_⟩
    obtain ⟨o, es, ep, ho, hdd, _⟩ := hn; obtain ⟨i, hi⟩ := hl1
    rw [q, hi] at ho; cases ho; cases hdd
   refine .inr ⟨e1, c, v, hc, hm, hv.sameBut hs fun q => ?_, u⟩
   obtain ⟨o, ho, hdd⟩ := hv; obtain ⟨i, hi⟩ := hl1
   rw [q, hi] at ho; cases ho; cases hdd
  haveI kk : KpH (D :: M ++ H) s1.heap h' := fun b o m e t => (FK.same hs (.head M)).kpH b o (fun q => m (List.mem_append_left _ q)) e t
  rw [Array.toList_push]
  exact ((hd.kp k1).kpH kk fun _ h => .inl h).append (.cons (Den.kpH kk (fun _ h => .inl h) d) .nil)
noncomputable def q46 (p : Pos) (tgt : Expr) (ifs : List Expr) (inner : Sem Unit) (it : Value) (env : Env) (c : Code) : Sem Fin := do
 standAt p
 match ← pyNext it with
 | none => pure (.done .next)
 | some v =>
  letOwnedTupleGo tgt it v
  assign tgt env v
  let mut ok := true
  for c in ifs do
   if ok then ok ← isTrue c env (eval c env)
  if ok then inner
  again c
noncomputable abbrev q34 (ifs : List Expr) (env : Env) : Sem Bool := forIn ifs true fun c r => if r = true then do let ok ← isTrue c env (eval c env); pure (ForInStep.yield ok) else pure (ForInStep.yield r)
theorem Evb.tests0 {Γ : Cx} {n : Nat} {env : Env} {σ : St} : EvP Γ n env σ (q34 [] env) (PB true) := .mk fun A E s φ H R ok lv eo Q k => wpAny_tests_nil (k _ _ (Kp.refl _) ok rfl)
theorem Evb.tests1 {Γ : Cx} {n : Nat} {env : Env} {σ : St} {c : Expr} {b : Bool} (h : Evb Γ n env σ c b) : EvP Γ n env σ (q34 [c] env) (PB b) := .mk fun A E s φ H R ok lv eo Q k => wpAny_tests_one (h.run A E s φ H R ok lv eo Q k)
theorem EnvOK.step {env : Env} {φ : Nat → Addr} {H : List Addr} {σ : St} {h h' : Heap} {xs : List String} {M : List Addr} (eo : EnvOK env φ H σ h) (k : KpH M h h') (hM : ∀ a ∈ M, a ∈ H) (sm : Sm env xs h h') (hx : ∀ p ∈ σ.v, p.1 ∉ xs) (ho : ∀ k ys, (k, ys) ∈ σ.o → φ k ∉ M)
  (ha : ∀ r k, (r, RV.app k) ∈ σ.v → φ k ∉ M) (hc : ∀ x c, env.cells.lookup x = some c → ∃ v, h'.IsCell c v) : EnvOK env φ H σ h' where
 vars x r m := by
  obtain ⟨V, a, d⟩ := eo.vars x r m
  refine ⟨V, sm x V (hx _ m) a, ?_⟩
  cases r with
  | pv v => exact Den.kpH (fun b o n e t => k b o (fun q => n (hM _ q)) e t) (fun _ h => .inl h) d
  | ptr j => exact d
  | app j =>
   obtain ⟨b, e, hb, hg⟩ := d
   exact ⟨b, e, hb, k b _ (fun q => hb (hM _ q)) hg rfl⟩
 own j ys m := by
  obtain ⟨hm, vs, ⟨i, hl⟩, hd⟩ := eo.own j ys m
  exact ⟨hm, vs, ⟨i, k _ _ (ho j ys m) hl rfl⟩, hd.kpH (fun b o n e t => k b o (fun q => n (hM _ q)) e t) fun _ h => .inl h⟩
 cells := hc
theorem qp8 {env : Env} {φ : Nat → Addr} {H : List Addr} {h : Heap} {xs : List String} {Vs : List Value} {its : List PV} (a : Ats env h xs Vs) (d : Dens H h Vs its) : ∀ x r, (x, r) ∈ (xs.zip its).map (fun p => (p.1, RV.pv p.2)) → ∃ V, At env h x V ∧ DenR φ H h V r := by
 induction xs generalizing Vs its with
 | nil => exact fun _ _ m => nomatch m
 | cons y ys ih =>
  cases its with
  | nil => exact fun _ _ m => nomatch m
  | cons i its =>
   cases d using Dens.cn with | cons d ds =>
   intro x r m
   rcases List.mem_cons.mp m with e | m
   ·cases e; exact ⟨_, a.1, d⟩
   exact ih a.2 ds x r m
noncomputable def pvSt (l : List (String × PV)) : St := ⟨l.map fun p => (p.1, RV.pv p.2), []⟩
theorem pvSt.mem {l : List (String × PV)} {x : String} {r : RV} (h : (x, r) ∈ (pvSt l).v) : ∃ v, r = .pv v ∧ (x, v) ∈ l := by
 simp only [pvSt, List.mem_map] at h
 obtain ⟨p, hp, e⟩ := h; cases e; exact ⟨_, rfl, hp⟩
theorem pvSt.mem' {l : List (String × PV)} {x : String} {v : PV} (h : (x, v) ∈ l) : (x, RV.pv v) ∈ (pvSt l).v := by
 simp only [pvSt, List.mem_map]; exact ⟨_, h, rfl⟩
theorem EnvOK.ofPv {env : Env} {φ : Nat → Addr} {H : List Addr} {l : List (String × PV)} {h : Heap} (hv : ∀ x v, (x, v) ∈ l → ∃ V, At env h x V ∧ Den H h V v) (hc : ∀ x c, env.cells.lookup x = some c → ∃ v, h.IsCell c v) : EnvOK env φ H (pvSt l) h where
 vars x r m := by obtain ⟨v, rfl, hm⟩ := pvSt.mem m; exact hv x v hm
 own k ys m := by cases m
 cells := hc
theorem EnvOK.pv {env : Env} {φ : Nat → Addr} {H : List Addr} {l : List (String × PV)} {h : Heap} (e : EnvOK env φ H (pvSt l) h) {x : String} {v : PV} (m : (x, v) ∈ l) : ∃ V, At env h x V ∧ Den H h V v := e.vars x _ (pvSt.mem' m)
theorem za4 {env : Env} {H : List Addr} {h : Heap} {xs : List String} {Vs : List Value} {its : List PV} (a : Ats env h xs Vs) (d : Dens H h Vs its) : ∀ x v, (x, v) ∈ xs.zip its → ∃ V, At env h x V ∧ Den H h V v := by
 induction xs generalizing Vs its with
 | nil => exact fun _ _ m => nomatch m
 | cons y ys ih =>
  cases its with
  | nil => exact fun _ _ m => nomatch m
  | cons i its =>
   cases d using Dens.cn with | cons d ds =>
   intro x r m
   rcases List.mem_cons.mp m with e | m
   ·cases e; exact ⟨_, a.1, d⟩
   exact ih a.2 ds x r m
theorem ns_fk {h h' : Heap} {M : List Addr} {a : Addr} {m} (x : h.Ns a m) (k : FK M h h') (ha : a ∉ M) : h'.Ns a m :=
 let ⟨o, es, ep, ho, r⟩ := x; ⟨o, es, ep, k _ _ ha ho, r⟩
theorem q61 {h h' : Heap} {M : List Addr} {a : Addr} {v} (x : h.IsCell a v) (k : FK M h h') (ha : a ∉ M) : h'.IsCell a v :=
 let ⟨o, ho, r⟩ := x; ⟨o, k _ _ ha ho, r⟩
theorem Wr.fk {env : Env} {M W : List Addr} {h h' : Heap} {x : String} (w : Wr env M h x) (k : FK W h h') (d : ∀ a ∈ M, a ∉ W) : Wr env M h' x :=
 w.imp (fun ⟨a, b, m, hn⟩ => ⟨a, b, m, ns_fk hn k (d _ b)⟩) fun ⟨a, c, v, hc, hm, hv, u⟩ => ⟨a, c, v, hc, hm, q61 hv k (d _ hm), u⟩
theorem At.fk {env : Env} {W : List Addr} {h h' : Heap} {x : String} {V : Value} (a : At env h x V) (k : FK W h h') (dL : env.locals ∉ W) (dc : ∀ y c, env.cells.lookup y = some c → c ∉ W) : At env h' x V :=
 a.imp (fun ⟨e, m, hn, hm⟩ => ⟨e, m, ns_fk hn k dL, hm⟩) fun ⟨e, c, hc, hv⟩ => ⟨e, c, hc, q61 hv k (dc _ _ hc)⟩
noncomputable def outs {α : Type} (its : List α) (tb : α → Bool) (ys : α → List PV) : List PV := its.flatMap fun x => if tb x then ys x else []
theorem qv6 {α : Type} {its : List α} {tb : α → Bool} {ys : α → List PV} {i : Nat} {x : α} (h : its[i]? = some x) : outs (its.take (i + 1)) tb ys = outs (its.take i) tb ys ++ if tb x then ys x else [] := by
 unfold outs; rw [List.take_add_one, h]; simp
theorem qf5 {α : Type} {its : List α} {tb : α → Bool} {ys : α → List PV} {i : Nat} : (outs (its.take i) tb ys).length ≤ (outs its tb ys).length := by
 unfold outs
 conv => rhs; rw [← List.take_append_drop i its]
 rw [List.flatMap_append, List.length_append]; lia
structure LInv (Γ : Cx) (env : Env) (φ : Nat → Addr) (M H : List Addr) (D : Addr) (l : List (String × PV)) (xs ns : List String) (wr : List Addr) (h₀ : Heap) (zs : List PV) (st : Heap → Prop) (s' : Shared) : Prop where
 ok : Γ.Ok s'
 live : Live (D :: M ++ H) s'.heap
 wrt : ∀ x ∈ ns, Wr env M s'.heap x
 acc : ∃ vs, LstAt s'.heap D vs ∧ Dens (D :: M ++ H) s'.heap vs.toList zs
 st : st s'.heap
 kph : KpH (D :: M ++ wr) h₀ s'.heap
 sm : Sm env xs h₀ s'.heap
 wk : q78 env M h₀ s'.heap
 eo : EnvOK env φ (D :: M ++ H) (pvSt l) s'.heap
noncomputable def OwnC (env : Env) (M : List Addr) (ns : List String) : Prop := ∀ x c, env.cells.lookup x = some c → c ∈ M → ∃ y ∈ ns, x = Str.ofString y ∧ env.kindOf x = some .cell
theorem OwnC.live {env : Env} {M : List Addr} {ns : List String} (o : OwnC env M ns) {h : Heap} (w : ∀ y ∈ ns, Wr env M h y) : ∀ x c, env.cells.lookup x = some c → c ∈ M → ∃ v, h.IsCell c v := fun x c e m => by
 obtain ⟨y, hy, rfl, hk⟩ := o x c e m
 rcases w y hy with ⟨e', _⟩ | ⟨_, c', v, hc, _, hv, _⟩
 ·rw [hk] at e'; nomatch e'
 cases e.symm.trans hc; exact ⟨v, hv⟩
theorem EnvOK.sub {env : Env} {φ : Nat → Addr} {H : List Addr} {l l' : List (String × PV)} {h : Heap} (e : EnvOK env φ H (pvSt l) h) (s : ∀ p ∈ l', p ∈ l) : EnvOK env φ H (pvSt l') h := .ofPv (fun x v m => e.pv (s _ m)) e.cells
theorem qw4 {Γ : Cx} {n : Nat} {A : Around} {env : Env} {φ : Nat → Addr} {M H H0 : List Addr} {D I : Addr} {elt : Expr} {gens : List Comprehension} {scope : Scope} {pos p : Pos} {d : Nat} {tgt : Expr} {ifs : List Expr} {t : Sem Unit}
  {l : List (String × PV)} {xs xs' ns : List String} {α : Type} {its : List α} {cv : α → List PV} {ys : α → List PV} {tb : α → Bool} {hpre : Heap} {fp wr : List Addr} {S : Nat → Heap → Prop} {s : Shared} {zs : List PV} {R : Result → Shared → Prop}
  (B : Blk Γ env M D) (hturn : compTurn (.ListComp elt gens scope pos) d (.ref I) (.ref D) env = q46 p tgt ifs t (.ref I) env (.compLoop (.ListComp elt gens scope pos) d (.ref I) (.ref D) env))
  (T : Tgt tgt xs) (hn : xs.Nodup) (hl : ∀ p ∈ l, p.1 ∉ xs) (hl' : ∀ p ∈ l, p.1 ∉ xs') (hxn : ∀ x ∈ xs, x ∈ ns) (hi : ∀ x ∈ its, (cv x).length = xs.length) (oc : OwnC env M ns)
  (ht : ∀ x ∈ its, EvP Γ n env (pvSt (xs.zip (cv x) ++ l)) (q34 ifs env) (PB (tb x)))
  (hb : ∀ x ∈ its, tb x = true → EmitOK Γ n env M D (pvSt (xs.zip (cv x) ++ l)) t xs' ns (ys x))
  (Rm : Room Γ A n) (W : Itr Γ.prog Γ.w A hpre H0 tgt I fp wr (its.map cv) S) (hH : ∀ a ∈ D :: M ++ H, a ∈ H0 ∨ hpre.get? a = none) (hwH : ∀ b ∈ wr, b ∈ H) (hwM : ∀ a ∈ D :: M, a ∉ wr) (hfp : ∀ b ∈ fp, b ∉ D :: M ∧ ∃ o, s.heap.get? b = some o ∧ isLo o = false)
  (hL : env.locals ∉ wr) (hC : ∀ x c, env.cells.lookup x = some c → c ∉ wr) (hB : ∀ b ∈ wr, Γ.hB.get? b = none) (hp0 : KpH H0 hpre s.heap)
  (i0 : LInv Γ env φ M H D l (xs ++ xs') ns wr s.heap zs (S 0) s) (hz : zs.length + (outs its tb ys).length ≤ 2 ^ 24)
  (hR : ∀ s' h1 t1, LInv Γ env φ M H D l (xs ++ xs') ns wr s.heap (zs ++ outs its tb ys) (S its.length) s' → FK wr s'.heap h1 → R (.ok .next) { s' with heap := h1, toks := t1 }) :
  codeAny (model Γ.prog Γ.w) A (.compLoop (.ListComp elt gens scope pos) d (.ref I) (.ref D) env) R s := by
 refine codeAny_loop rfl (fun k s' => ∃ i, i ≤ its.length ∧ k = its.length + 1 - i ∧ LInv Γ env φ M H D l (xs ++ xs') ns wr s.heap (zs ++ outs (its.take i) tb ys) (S i) s') (fun k s' hI => ?_) (its.length + 1) ⟨0, Nat.zero_le _, rfl, by simpa [outs] using i0⟩
 obtain ⟨i, hile, rfl, J⟩ := hI
 show wpAny _ A ((compTurn (.ListComp elt gens scope pos) d (.ref I) (.ref D) env).onRaise (fun x => do noteFrame x env; theTreesLotGoes x)) _ _ s'
 refine wpAny_noted ?_
 rw [hturn]
 unfold q46
 refine wpAny_bind (wpAny_standAt (wpAny_bind ?_))
 haveI kpre : KpH H0 hpre s'.heap := fun b o m e t => (hp0 b o m e t).trans fun o' e' t' => J.kph b o' (fun q => by
  rcases List.mem_append.mp q with q | q
  ·rcases hH b (List.mem_append_left _ q) with q | q
   ·exact m q
   cases q.symm.trans e
  rw [W.fresh b q] at e; nomatch e) e' (t'.trans t)
 cases hx : its[i]? with
 | none =>
  haveI : i = its.length := Nat.le_antisymm hile (by simpa using hx)
  subst this
  refine W.done s' _ _ (by rw [List.length_map]; exact J.st) fun h1 t1 f1 => wpAny_pure ?_
  rw [List.take_length] at J
  exact hR s' h1 t1 J f1
 | some x =>
  haveI hlt : i < its.length := (List.getElem?_eq_some_iff.mp hx).1
  haveI hxm : x ∈ its := List.mem_of_getElem? hx
  refine W.item i s' _ (cv x) _ (D :: M ++ H) (by rw [List.getElem?_map, hx]; rfl) J.st (fun a m => (hH a m).imp id Nw.none) kpre fun v h1 t1 f1 cont => wpAny_bind (cont _ _ fun h2 f2 st2 u2 => wpAny_bind ?_)
  have f12 : FK wr s'.heap h2 := f1.trans f2
  haveI tabsw : ∀ a o, s'.heap.get? a = some o → isTab o = true → a ∉ wr := fun a o e t hm => by
   obtain ⟨o', h4, h5⟩ := W.live i _ J.st _ hm
   cases e.symm.trans h4; rw [lot h5] at t; cases t
  haveI lk12 : LvK s'.heap h2 := .fkw f12 (W.live _ _ J.st) (W.live _ _ st2)
  haveI ok2 : Γ.Ok { s' with heap := h2, toks := t1 } := J.ok.fk f12 hB tabsw fun a _ => lk12.fr a
  have lv2 : Live (D :: M ++ H) h2 := fun a ha => by
   by_cases hw : a ∈ wr
   ·obtain ⟨o, ho, ht⟩ := W.live _ _ st2 a hw; exact ⟨o, ho, (lot ht)⟩
   obtain ⟨o, ho, ht⟩ := J.live a ha; exact ⟨o, f12 _ _ hw ho, ht⟩
  haveI sz2 : h2.objs.size ∉ M := fun hm => lv2.size (List.mem_append_left _ (List.mem_cons_of_mem _ hm))
  have wr2 : ∀ y ∈ ns, Wr env M h2 y := fun y hy => (J.wrt y hy).fk f12 fun a ha => hwM a (List.mem_cons_of_mem _ ha)
  refine qd0 (s := { s' with heap := h2, toks := t1 }) (M := M) B.kind Rm.handled T hn (fun y hy => wr2 y (hxn y hy)) (hi x hxm) u2 sz2 fun h3 t3 Vs f3 lk3 a3 d3 sm3 wk3 => ?_
  have wr3 : ∀ y ∈ ns, Wr env M h3 y := fun y hy => wk3 y (wr2 y hy)
  haveI ok3 : Γ.Ok { s' with heap := h3, toks := t3 } := ok2.fk f3 (fun a ha => B.off a (List.mem_cons_of_mem _ ha)) (fun a o e t m => lv2.noTab e t (List.mem_append_left _ (List.mem_cons_of_mem _ m))) fun a _ => lk3.fr a
  have lv3 : Live (D :: M ++ H) h3 := lk3.live lv2
  have k23 : KpH (D :: M ++ H) h2 h3 := fun b o m e t => .of (f3 b o (fun q => m (List.mem_append_left _ (List.mem_cons_of_mem _ q))) e)
  have k12 : KpH (D :: M ++ H) s'.heap h2 := fun b o m e t => .of (f12 b o (fun q => m (List.mem_append_right _ (hwH _ q))) e)
  have cells3 : ∀ y c, env.cells.lookup y = some c → ∃ v, h3.IsCell c v := fun y c e => by
   by_cases m : c ∈ M
   ·exact oc.live wr3 y c e m
   obtain ⟨v, hv⟩ := J.eo.cells y c e
   exact ⟨v, q61 (q61 hv f12 (hC _ _ e)) f3 m⟩
  have at3 : ∀ y V, y ∉ xs → At env s'.heap y V → At env h3 y V := fun y V hy a => sm3 y V hy (a.fk f12 hL hC)
  have eo3 : EnvOK env φ (D :: M ++ H) (pvSt (xs.zip (cv x) ++ l)) h3 := .ofPv (fun y v m => by
   rcases List.mem_append.mp m with m | m
   ·exact za4 a3 (d3.kpH k23 fun _ h => .inl h) y v m
   obtain ⟨V, a, dd⟩ := J.eo.pv m
   exact ⟨V, at3 y V (hl _ m) a, (dd.kpH k12 fun _ h => .inl h).kpH k23 fun _ h => .inl h⟩) cells3
  have st3 : S (i + 1) h3 := W.frame _ _ _ st2 fun b hb o e => f3 b o (fun q => (hfp b hb).1 (List.mem_cons_of_mem _ q)) e
  obtain ⟨vs0, hD0, dD0⟩ := J.acc
  have hD3 : LstAt h3 D vs0 := by
   obtain ⟨j, hj⟩ := hD0
   exact ⟨j, f3 _ _ B.apart (f12 _ _ (hwM _ (.head _)) hj)⟩
  have dD3 : Dens (D :: M ++ H) h3 vs0.toList (zs ++ outs (its.take i) tb ys) := (dD0.kpH k12 fun _ h => .inl h).kpH k23 fun _ h => .inl h
  have kph3 : KpH (D :: M ++ wr) s.heap h3 := fun b o m e t => by
   exact (J.kph b o m e t).trans fun o' e1 _ => .of (f3 _ _ (fun q => m (List.mem_append_left _ (List.mem_cons_of_mem _ q))) (f12 _ _ (fun q => m (List.mem_append_right _ q)) e1))
  haveI sm03 : Sm env (xs ++ xs') s.heap h3 := fun y V hy a => at3 y V (fun q => hy (List.mem_append_left _ q)) (J.sm y V hy a)
  haveI wk03 : q78 env M s.heap h3 := fun y w => wk3 y ((J.wk y w).fk f12 fun a ha => hwM a (List.mem_cons_of_mem _ ha))
  have eo3l : EnvOK env φ (D :: M ++ H) (pvSt l) h3 := eo3.sub fun p hp => List.mem_append_right _ hp
  clear f1 f2 cont k12 at3
  refine wpAny_bind ((ht x hxm).run A _ { s' with heap := h3, toks := t3 } φ (D :: M ++ H) Rm ok3 lv3 eo3 _ fun b s4 k4 ok4 hb4 => ?_)
  have hbx : b = tb x := hb4
  subst hbx
  haveI nt : ∀ c ∈ fp, ∃ o, h3.get? c = some o ∧ isLo o = false := fun c hc => by
   by_cases hw : c ∈ wr
   ·exact W.live _ _ st3 c hw
   obtain ⟨m, o, ho, ht⟩ := hfp c hc
   exact ⟨o, (kph3 _ _ (fun q => (List.mem_append.mp q).elim m hw) ho (lot ht)).lo ht, ht⟩
  have fin : ∀ s5 vs5, KpH (D :: M) s4.heap s5.heap → Γ.Ok s5 → Live (D :: M ++ H) s5.heap → Sm env xs' s4.heap s5.heap → q78 env M s4.heap s5.heap → LstAt s5.heap D vs5 → Dens (D :: M ++ H) s5.heap vs5.toList (zs ++ outs (its.take (i + 1)) tb ys) →
    ∃ m, m < its.length + 1 - i ∧ ∃ i, i ≤ its.length ∧ m = its.length + 1 - i ∧ LInv Γ env φ M H D l (xs ++ xs') ns wr s.heap (zs ++ outs (its.take i) tb ys) (S i) s5 := by
   intro s5 vs5 k5 ok5 lv5 sm5 wk5 hD5 dD5
   haveI wr5 : ∀ y ∈ ns, Wr env M s5.heap y := fun y hy => wk5 y ((wr3 y hy).kp k4)
   refine ⟨its.length + 1 - (i + 1), by lia, i + 1, hlt, rfl, ok5, lv5, wr5, ⟨vs5, hD5, dD5⟩, ?_, ?_, ?_, ?_, ?_⟩
   ·refine W.frame _ _ _ st3 fun c hc o e => ?_
    obtain ⟨o', e', t'⟩ := nt c hc
    haveI : o' = o := by have := e'.symm.trans e; exact Option.some.inj this
    subst this
    exact (k5 _ _ (hfp c hc).1 ((k4 _ _ e (lot t')).lo t') (lot t')).lo t'
   ·exact fun c o m e t => ((kph3 c o m e t).trans fun o' e' t' => k4 _ _ e' (t'.trans t)).trans fun o' e' t' => k5 _ _ (fun q => m (List.mem_append_left _ q)) e' (t'.trans t)
   ·exact fun y V hy a => sm5 y V (fun q => hy (List.mem_append_right _ q)) ((sm03 y V hy a).kp k4)
   ·exact fun y w => wk5 y ((wk03 y w).kp k4)
   refine (eo3l.kp k4).step (xs := xs') k5 (fun a ha => List.mem_append_left _ ha) sm5 (fun p hp => ?_) (fun _ _ m => by cases m) (fun r k m => ?_) fun y c e => ?_
   ·obtain ⟨v, _, m⟩ := pvSt.mem (x := p.1) (r := p.2) hp
    exact hl' _ m
   ·obtain ⟨_, q, _⟩ := pvSt.mem m; cases q
   by_cases m : c ∈ D :: M
   ·rcases List.mem_cons.mp m with rfl | m
    ·obtain ⟨v, o, ho, hd⟩ := cells3 y _ e
     obtain ⟨j, hj⟩ := hD3
     cases ho.symm.trans hj; cases hd
    exact oc.live wr5 y c e m
   obtain ⟨v, o, ho, hd⟩ := cells3 y c e
   exact ⟨v, o, (k5 _ _ m ((k4 _ _ ho (q12 hd)).eq (q20 hd)) (q12 hd)).eq (q20 hd), hd⟩
  have hzi : outs (its.take (i + 1)) tb ys = outs (its.take i) tb ys ++ if tb x then ys x else [] := qv6 hx
  cases hbx : tb x with
  | false =>
   refine wpAny_pure ⟨rfl, fin s4 vs0 (KpH.refl _ _) ok4 (lv3.kp k4) (fun _ _ _ a => a) (fun _ w => w) (hD3.kp k4) ?_⟩
   rw [hzi, hbx]; simpa using dD3.kp k4
  | true =>
   rw [hbx] at hzi; simp only [if_true] at hzi
   haveI hlen : (zs ++ outs (its.take i) tb ys).length + (ys x).length ≤ 2 ^ 24 := by
    have := qf5 (its := its) (tb := tb) (ys := ys) (i := i + 1)
    rw [hzi, List.length_append] at this
    rw [List.length_append]; lia
   refine wpAny_bind (hb x hxm hbx A _ s4 φ H vs0 _ Rm ok4 (lv3.kp k4) (eo3.kp k4) (fun y hy => (wr3 y hy).kp k4) (hD3.kp k4) (dD3.kp k4) hlen _ fun s5 vs5 k5 ok5 lv5 sm5 wk5 hD5 dD5 => wpAny_pure ⟨rfl, fin s5 vs5 k5 ok5 lv5 sm5 wk5 hD5 ?_⟩)
   rw [hzi, ← List.append_assoc]; exact dD5
theorem q74 {prog : Program} {w : World} {A : Around} {R : Result → Shared → Prop} {s : Shared} {elt : Expr} {g0 g : Comprehension} {rest : List Comprehension} {scope : Scope} {pos : Pos} {it acc : Value} {env : Env} (hg : g.is_async = 0)
  (h0 : codeAny (model prog w) A (.compLoop (.ListComp elt (g0 :: g :: rest) scope pos) 1 it acc env) R s)
  (h : wpAny (model prog w) A (pyIter it) (fun it' s' => codeAny (model prog w) A (.compLoop (.ListComp elt (g0 :: g :: rest) scope pos) 1 it' acc env) R s')
   (notedBy (model prog w) A env fun x s' => R (.error x) s') s) :
  codeAny (model prog w) A (.compStart (.ListComp elt (g0 :: g :: rest) scope pos) 1 it acc env) R s := by
 obtain ⟨target, iter, ifs, asy⟩ := g
 cases hg
 refine codeAny_of_tree ?_
 show wpAny _ _ ((compStart (.ListComp elt (g0 :: ⟨target, iter, ifs, 0⟩ :: rest) scope pos) 1 it acc env).onRaise (fun x => do noteFrame x env; standAt theWindowsPlace)) _ _ s
 refine wpAny_notedAt ?_
 unfold compStart
 show wpAny _ _ (ask >>= _) _ _ s
 refine wpAny_bind (wpAny_askSetting (wpAny_ite ?_))
 split
 ·first
   | exact wpAny_bind (wpAny_pure (wpAny_pure (And.intro rfl h0)))
   | exact wpAny_pure (And.intro rfl h0)
 refine wpAny_bind (wpAny_rule ?_)
 show wpAny _ _ (standAt iter.pos >>= _) _ _ s
 exact wpAny_bind (wpAny_standAt (wpAny_bind (wpAny_mono h (fun it' s' h' => wpAny_pure (And.intro rfl h')) fun _ _ x => x)))
noncomputable def nestT (e : Expr) (g : Comprehension) (acc : Value) (env : Env) : Sem Unit := do
 let x ← eval g.iter env
 standAt g.iter.pos
 let x ← foldedSetIterable g.iter env x
 let _ ← runOwn (.compStart e 1 (← holding [x] (pyIter x)) acc env) env
theorem EmitOK.nest {Γ : Cx} {n : Nat} {env : Env} {M : List Addr} {D : Addr} {elt : Expr} {g0 g : Comprehension} {scope : Scope} {pos : Pos} {l : List (String × PV)} {xs xs' ns : List String} {α : Type} {its : List α} {cv : α → List PV} {ys : α → List PV} {tb : α → Bool}
  {t : Sem Unit} {p : Pos} (B : Blk Γ env M D) (hg : g.is_async = 0) (hs : ∀ x, foldedSetIterable g.iter env x = pure x)
  (hturn : ∀ I, compTurn (.ListComp elt [g0, g] scope pos) 1 (.ref I) (.ref D) env = q46 p g.target g.ifs t (.ref I) env (.compLoop (.ListComp elt [g0, g] scope pos) 1 (.ref I) (.ref D) env))
  (hI : EvI Γ n env (pvSt l) g.iter g.target (its.map cv)) (T : Tgt g.target xs) (hn : xs.Nodup) (hl : ∀ p ∈ l, p.1 ∉ xs) (hl' : ∀ p ∈ l, p.1 ∉ xs') (hxn : ∀ x ∈ xs, x ∈ ns) (hi : ∀ x ∈ its, (cv x).length = xs.length) (oc : OwnC env M ns)
  (ht : ∀ x ∈ its, EvP Γ n env (pvSt (xs.zip (cv x) ++ l)) (q34 g.ifs env) (PB (tb x)))
  (hb : ∀ x ∈ its, tb x = true → EmitOK Γ n env M D (pvSt (xs.zip (cv x) ++ l)) t xs' ns (ys x)) :
  EmitOK Γ n env M D (pvSt l) (nestT (.ListComp elt [g0, g] scope pos) g (.ref D) env) (xs ++ xs') ns (outs its tb ys) :=
 fun A E s φ H vs zs R ok lv eo hw hl0 hd hz Q k => by
  unfold nestT
  refine wpAny_bind (wpAny_mono (hI.run A _ s φ (D :: M ++ H) R ok lv eo (fun V s' => ?_) ?_) (fun x s1 h1 => wpAny_bind (wpAny_standAt (wpAny_bind (wpAny_of_eq (hs x) (wpAny_bind (wpAny_holding (wpAny_mono h1 (fun it s2 h2 => ?_) fun _ _ h' => h'))))))) fun _ _ h' => h')
  ·exact wpAny (model Γ.prog Γ.w) A (do let _ ← runOwn (.compStart (.ListComp elt [g0, g] scope pos) 1 V (.ref D) env) env) Q E s'
  rotate_left
  ·exact h2
  intro I s1 fp wr S hpre kp0 kp1 ok1 hwB hnp W st fpH
  haveI lvp : Live (D :: M ++ H) hpre := lv.kp kp0
  have wn : ∀ a, (∃ o, hpre.get? a = some o ∧ isTab o = false) → a ∉ wr := fun a ⟨o, ho, _⟩ hm => by rw [W.fresh a hm] at ho; nomatch ho
  have hMw : ∀ a ∈ D :: M, a ∉ wr := fun a ha => wn a (lvp a (List.mem_append_left _ ha))
  have subH : ∀ a, a ∈ D :: M ++ (wr ++ H) → a ∈ D :: M ++ H ∨ hpre.get? a = none := fun a ha => by
   rcases List.mem_append.mp ha with h | h
   ·exact .inl (List.mem_append_left _ h)
   rcases List.mem_append.mp h with h | h
   ·exact .inr (W.fresh a h)
   exact .inl (List.mem_append_right _ h)
  have eop := eo.kp kp0
  haveI eo1 : EnvOK env φ (D :: M ++ (wr ++ H)) (pvSt l) s1.heap := .ofPv (fun x v m => by
   obtain ⟨V, a, d⟩ := eop.pv m
   exact ⟨V, a.kp kp1, d.kpH (kp1.toH _) subH⟩) (eop.kp kp1).cells
  haveI lv1 : Live (D :: M ++ (wr ++ H)) s1.heap := fun a ha => by
   rcases List.mem_append.mp ha with h | h
   ·exact lv.kp (kp0.trans kp1) a (List.mem_append_left _ h)
   rcases List.mem_append.mp h with h | h
   ·obtain ⟨o, ho, ht⟩ := W.live _ _ st a h; exact ⟨o, ho, lot ht⟩
   exact lv.kp (kp0.trans kp1) a (List.mem_append_right _ h)
  have k01 := kp0.trans kp1
  haveI dD1 : Dens (D :: M ++ (wr ++ H)) s1.heap vs.toList zs := (hd.kp kp0).kpH (kp1.toH _) subH
  refine wpAny_bind (wpAny_runOwn ?_)
  haveI loop : codeAny (model Γ.prog Γ.w) A (.compLoop (.ListComp elt [g0, g] scope pos) 1 (.ref I) (.ref D) env) (fun r s' => match r with | .ok f => wpAny (model Γ.prog Γ.w) A (pure ()) Q E s' | .error e => cameBackBy (model Γ.prog Γ.w) A env E e s') s1 := by
   refine qw4 (H := wr ++ H) (H0 := D :: M ++ H) (φ := φ) B (hturn I) T hn hl hl' hxn hi oc ht hb R W (fun a ha => subH a ha) (fun b hb => List.mem_append_left _ hb) hMw (fun b hb => ⟨fun q => (fpH b hb).1 (List.mem_append_left _ q), (fpH b hb).2⟩)
    (hMw _ (List.mem_cons_of_mem _ B.loc)) (fun x c e => wn c (q52 (eop.cells x c e).choose_spec)) hwB (kp1.toH _)
    ⟨ok1, lv1, fun x hx => (hw x hx).kp k01, ⟨vs, hl0.kp k01, dD1⟩, st, KpH.refl _ _, fun _ _ _ a => a, fun _ w => w, eo1⟩ hz fun s' h1 t1 J f1 => wpAny_pure ?_
   obtain ⟨vs', hD', dD'⟩ := J.acc
   haveI tabsw : ∀ a o, s'.heap.get? a = some o → isTab o = true → a ∉ wr := fun a o e t hm => by
    obtain ⟨o', h4, h5⟩ := W.live _ _ J.st _ hm
    cases e.symm.trans h4; rw [lot h5] at t; cases t
   haveI wHM : ∀ a ∈ D :: M ++ H, a ∉ wr := fun a ha => wn a (lvp a ha)
   refine k { s' with heap := h1, toks := t1 } vs' (fun b o m e t => (k01 _ _ e t).trans fun o' e' t' => (J.kph b o' (fun q => ?_) e' (t'.trans t)).trans fun o2 e2 _ => .of (f1 _ _ ?_ e2)) (J.ok.fk f1 hwB tabsw (fun a _ => f1.frw (W.live _ _ J.st) a)) (fun a ha => ?_) (fun y V hy a => ?_) (fun y w => ?_) ?_ ?_
   ·rcases List.mem_append.mp q with q | q
    ·exact m q
    obtain ⟨_, e0⟩ := (kp0 _ _ e t).sl
    exact wn b ⟨_, e0, t⟩ q
   ·obtain ⟨_, e0⟩ := (kp0 _ _ e t).sl
    exact wn b ⟨_, e0, t⟩
   ·obtain ⟨o, ho, ht⟩ := J.live a ((List.mem_append.mp ha).elim (fun h => List.mem_append_left _ h) fun h => List.mem_append_right _ (List.mem_append_right _ h))
    exact ⟨o, f1 _ _ (wHM a ha) ho, ht⟩
   ·exact (J.sm y V hy (a.kp k01)).fk f1 (hMw _ (List.mem_cons_of_mem _ B.loc)) fun x c e => wn c (q52 (eop.cells x c e).choose_spec)
   ·exact (J.wk y (w.kp k01)).fk f1 fun a ha => hMw a (List.mem_cons_of_mem _ ha)
   ·obtain ⟨j, hj⟩ := hD'; exact ⟨j, f1 _ _ (hMw _ (.head _)) hj⟩
   refine dD'.kpH (fun b o m e t => .of (f1 b o (fun q => m ?_) e)) fun a ha => .inl ?_
   ·exact List.mem_append_right _ (List.mem_append_left _ q)
   rcases List.mem_append.mp ha with h | h
   ·exact List.mem_append_left _ h
   exact List.mem_append_right _ (List.mem_append_right _ h)
  exact q74 hg loop (W.self 0 _ _ _ st loop)
noncomputable def relab (scope sc : Scope) : Scope :=
 { scope with names := scope.names.map fun (n, k) => if (k == .free && sc.kind == .function && sc.names.lookup n == some .cell) then (n, .cell) else (n, k) }
theorem qi0 (names : List (Str × NameKind)) (f : Str → NameKind → NameKind) (g : Str × NameKind → Str × NameKind) (hg : ∀ n k, g (n, k) = (n, f n k)) (x : Str) : (names.map g).lookup x = (names.lookup x).map (f x) := by
 induction names with
 | nil => rfl
 | cons p r ih =>
  obtain ⟨n, k⟩ := p
  rw [List.map_cons, hg, List.lookup_cons, List.lookup_cons, ih]
  cases h : x == n with
  | true => rw [beq_iff_eq.mp h]; rfl
  | false => rfl
theorem qo6 (scope sc : Scope) (x : Str) : (relab scope sc).names.lookup x = (scope.names.lookup x).map fun k => if (k == .free && sc.kind == .function && sc.names.lookup x == some .cell) then .cell else k :=
 qi0 scope.names (fun n k => if (k == .free && sc.kind == .function && sc.names.lookup n == some .cell) then .cell else k) _ (fun n k => by by_cases c : (k == NameKind.free && sc.kind == .function && sc.names.lookup n == some NameKind.cell) = true <;> simp only [c, if_true, if_false, Bool.false_eq_true]) x
noncomputable def clo (cells : List (Str × Addr)) : List (Str × NameKind) → List (Str × Addr) → List (Str × Addr)
 | [], acc => acc
 | (n, k) :: r, acc => if k == .free then clo cells r ((n, ((cells.lookup n).getD 0)) :: acc) else clo cells r acc
theorem qg7 {scope : Scope} {env : Env} (h : ∀ p ∈ scope.names, p.2 = .free → ∃ c, env.cells.lookup p.1 = some c) : closureFor scope env = pure (clo env.cells scope.names []) := by
 unfold closureFor
 haveI : ∀ (names : List (Str × NameKind)) (acc : List (Str × Addr)), (∀ p ∈ names, p.2 = .free → ∃ c, env.cells.lookup p.1 = some c) →
   (do
    let mut cs := acc
    for (name, kind) in names do
     if kind == .free then cs := (name, ← cellOf env name) :: cs
    return cs : Sem (List (Str × Addr))) = pure (clo env.cells names acc) := by
  intro names
  induction names with
  | nil => intro acc _; rfl
  | cons p r ih =>
   intro acc hp
   obtain ⟨n, k⟩ := p
   haveI hr := fun acc => ih acc fun q hq => hp q (List.mem_cons_of_mem _ hq)
   simp only [List.forIn_cons] at hr ⊢
   unfold clo
   by_cases hk : (k == NameKind.free) = true
   ·obtain ⟨c, hc⟩ := hp (n, k) (.head _) (by simpa using hk)
    rw [if_pos hk]
    simp only [hk, if_true, cellOf, hc, Option.getD_some, pure_bind]
    exact hr _
   rw [if_neg hk]
   simp only [hk, pure_bind]
   exact hr _
 exact this scope.names [] h
theorem qz0 {cells : List (Str × Addr)} {names : List (Str × NameKind)} {acc : List (Str × Addr)} {x : Str} {c : Addr} (h : (x, c) ∈ clo cells names acc) : (x, c) ∈ acc ∨ ((x, NameKind.free) ∈ names ∧ c = (cells.lookup x).getD 0) := by
 induction names generalizing acc with
 | nil => exact .inl h
 | cons p r ih =>
  obtain ⟨n, k⟩ := p
  unfold clo at h
  split at h
  ·rename_i hk
   rcases ih h with h | ⟨h, e⟩
   ·rcases List.mem_cons.mp h with h | h
    ·cases h; haveI : k = .free := by simpa using hk
     subst this; exact .inr ⟨.head _, rfl⟩
    exact .inl h
   exact .inr ⟨.tail _ h, e⟩
  rcases ih h with h | ⟨h, e⟩
  ·exact .inl h
  exact .inr ⟨.tail _ h, e⟩
theorem qg8 {cells : List (Str × Addr)} : ∀ {names : List (Str × NameKind)} {acc : List (Str × Addr)} {x : Str} {c : Addr}, (x, c) ∈ acc → (x, c) ∈ clo cells names acc
 | [], acc, x, c, h => h
 | (n, k) :: r, acc, x, c, h => by
  unfold clo
  split
  ·exact qg8 (List.mem_cons_of_mem _ h)
  exact qg8 h
theorem z75 {cells : List (Str × Addr)} {names : List (Str × NameKind)} {acc : List (Str × Addr)} {x : Str} (h : (x, NameKind.free) ∈ names) : (x, (cells.lookup x).getD 0) ∈ clo cells names acc := by
 induction names generalizing acc with
 | nil => nomatch h
 | cons p r ih =>
  obtain ⟨n, k⟩ := p
  unfold clo
  rcases List.mem_cons.mp h with e | h
  ·cases e; simp only [beq_self_eq_true, if_true]; exact qg8 (.head _)
  split
  ·exact ih h
  exact ih h
theorem q08 {α : Type} {x : Str} {l : List (Str × α)} {c : α} (h : (x, c) ∈ l) : ∃ c', l.lookup x = some c' ∧ (x, c') ∈ l := by
 induction l generalizing c with
 | nil => nomatch h
 | cons p r ih =>
  obtain ⟨n, v⟩ := p
  dsimp only [List.lookup_cons]
  cases hb : x == n with
  | true => exact ⟨v, rfl, by rw [beq_iff_eq.mp hb]; exact .head _⟩
  | false =>
   rcases List.mem_cons.mp h with e | h
   ·cases e; simp at hb
   obtain ⟨c', h1, h2⟩ := ih h; exact ⟨c', h1, .tail _ h2⟩
theorem qs4 {cells : List (Str × Addr)} {names : List (Str × NameKind)} {x : Str} {c : Addr} (h : (x, NameKind.free) ∈ names) (hc : cells.lookup x = some c) : (clo cells names []).lookup x = some c := by
 obtain ⟨c', h1, h2⟩ := q08 (z75 (cells := cells) (acc := []) h)
 rcases qz0 h2 with h2 | ⟨_, e⟩
 ·cases h2
 rw [h1, e, hc]; rfl
theorem q10 : ∀ (names : List (Str × NameKind)) (n : Nat) (acc : List (Str × Addr)), cellsFrom n names acc = cellsFrom n names [] ++ acc
 | [], n, acc => rfl
 | (x, k) :: r, n, acc => by
  unfold cellsFrom
  split
  ·rw [q10 r _ (_ :: acc), q10 r _ [_]]; simp
  exact q10 r n acc
theorem q75 {names : List (Str × NameKind)} {n : Nat} {x : Str} {c : Addr} (h : (x, c) ∈ cellsFrom n names []) : (x, NameKind.cell) ∈ names := by
 induction names generalizing n with
 | nil => nomatch h
 | cons p r ih =>
  obtain ⟨y, k⟩ := p
  unfold cellsFrom at h
  split at h
  ·rename_i hk
   rw [q10] at h
   rcases List.mem_append.mp h with h | h
   ·exact .tail _ (ih h)
   simp only [List.mem_singleton] at h; cases h
   haveI : k = .cell := by simpa using hk
   subst this; exact .head _
  exact .tail _ (ih h)
theorem q23 {names : List (Str × NameKind)} {n : Nat} {x : Str} (h : (x, NameKind.cell) ∈ names) : ∃ c, (x, c) ∈ cellsFrom n names [] := by
 induction names generalizing n with
 | nil => nomatch h
 | cons p r ih =>
  obtain ⟨y, k⟩ := p
  unfold cellsFrom
  rcases List.mem_cons.mp h with e | h
  ·cases e; simp only [beq_self_eq_true, if_true]; rw [q10]; exact ⟨n, List.mem_append_right _ (.head _)⟩
  split
  ·obtain ⟨c, hc⟩ := ih (n := n + 1) h
   exact ⟨c, by rw [q10]; exact List.mem_append_left _ hc⟩
  exact ih h
theorem q69 {α : Type} {x : Str} {l r : List (Str × α)} (h : l.lookup x = none) : (l ++ r).lookup x = r.lookup x := by
 induction l with
 | nil => rfl
 | cons p l ih =>
  obtain ⟨n, v⟩ := p
  dsimp only [List.lookup_cons] at h
  dsimp only [List.cons_append, List.lookup_cons]
  cases hb : x == n with
  | true => rw [hb] at h; nomatch h
  | false => rw [hb] at h; exact ih h
theorem q26 {α : Type} {x : Str} {v : α} : ∀ {l r : List (Str × α)}, l.lookup x = some v → (l ++ r).lookup x = some v
 | (n, v) :: l, r, h => by
  dsimp only [List.lookup_cons] at h
  dsimp only [List.cons_append, List.lookup_cons]
  cases hb : x == n with
  | true => rw [hb] at h; exact h
  | false => rw [hb] at h; exact q26 h
structure CompOK (scope sc : Scope) (ns : List String) : Prop where
 kind : scope.kind = .function
 locals : ∀ p ∈ scope.names, p.2 = .local → scope.names.lookup p.1 = some .local
 cells : ∀ p ∈ scope.names, p.2 = .cell → scope.names.lookup p.1 = some .cell
 frees : ∀ p ∈ scope.names, p.2 = .free → scope.names.lookup p.1 = some .free ∧ (sc.names.lookup p.1 = some .cell ∨ sc.names.lookup p.1 = some .free)
 own : ∀ p ∈ scope.names, p.2 = .cell → ∃ y ∈ ns, p.1 = Str.ofString y
 targets : ∀ y ∈ ns, scope.names.lookup (Str.ofString y) = some .local ∨ scope.names.lookup (Str.ofString y) = some .cell
 dot : scope.names.lookup (Str.ofString ".0") = some .local
noncomputable def cEnv (scope : Scope) (env : Env) (L : Addr) : Env :=
 { scope := relab scope env.scope, locals := L, globals := env.globals, cells := cellsFrom (L + 1) scope.names (clo env.cells scope.names []), qual := env.qual, func := none, code := env.code, frame := env.frame, builtins := env.builtins }
theorem q53 {Md : Model} {A : Around} {E : Value → Shared → Prop} {s : Shared} {scope : Scope} {env : Env} {cl : List (Str × Addr)} {Q : Env → Shared → Prop}
  (h : ∀ e : Env, { e with scope := relab scope env.scope } = ({ scope := relab scope env.scope, locals := s.heap.objs.size, globals := env.globals, cells := cellsFrom (s.heap.objs.size + 1) scope.names cl, qual := env.qual, func := none, code := env.code, frame := env.frame, builtins := env.builtins } : Env) → e.locals = s.heap.objs.size →
   Q e { s with heap := pushCells (s.heap.push { cls := .type "dict", data := .dict #[] }) scope.names }) :
  wpAny Md A (newFunctionEnv scope env.globals cl [] env.qual none .none (some env)) Q E s := by
 simp only [newFunctionEnv, Option.isSome_some, if_true]
 refine wpAny_bind (wpAny_alloc ?_)
 refine wpAny_bind (wpAny_layCells _ (fun name kind cells => by cases hkc : kind == NameKind.cell <;> simp [hkc]) _ _ _ _ ?_)
 rw [show ({ s with heap := s.heap.push { cls := .type "dict", data := .dict #[] } } : Shared).heap.objs.size = s.heap.objs.size + 1 from Heap.size_push ..]
 refine wpAny_bind (wpAny_pure (wpAny_pure (h _ rfl rfl)))
structure Laid (h h4 : Heap) (scope : Scope) (env : Env) (D L : Addr) (own : List (Str × Addr)) : Prop where
 keep : ∀ b o, h.get? b = some o → h4.get? b = some o
 lst : LstAt h4 D #[]
 ns : ∃ m, h4.Ns L m
 cells : ∀ x c, (x, c) ∈ own → h4.IsCell c none ∧ L + 1 ≤ c
 apart : own.Pairwise fun x y => x.2 ≠ y.2
 hD : D = h.objs.size
 hL : L = D + 1
 hown : own = cellsFrom (L + 1) scope.names []
theorem z17 (h : Heap) (scope : Scope) (env : Env) : Laid h (pushCells ((h.push { cls := .type "list", dict := none, data := .seq ([] : List Value).toArray }).push { cls := .type "dict", data := .dict #[] }) scope.names) scope env h.objs.size (h.objs.size + 1) (cellsFrom (h.objs.size + 1 + 1) scope.names []) := by
 haveI sz : (h.push { cls := .type "list", dict := none, data := .seq ([] : List Value).toArray }).objs.size = h.objs.size + 1 := Heap.size_push ..
 have ok := cellsFrom_ok scope.names ((h.push { cls := .type "list", dict := none, data := .seq ([] : List Value).toArray }).push { cls := .type "dict", data := .dict #[] }) (h.objs.size + 1 + 1) [] ⟨fun _ _ hm => (nomatch hm), List.Pairwise.nil⟩ (by rw [Heap.size_push, sz]; exact Nat.le_refl _)
 rw [Heap.size_push, sz] at ok
 refine ⟨fun b o e => pushCells_keeps _ _ b o (Heap.get?_push_of_some _ (Heap.get?_push_of_some _ e)), ⟨0, pushCells_keeps _ _ _ _ (Heap.get?_push_of_some _ (Heap.get?_push_size _ rfl))⟩, ⟨fun _ => none, ?_⟩, fun x c hm => ok.empty x c hm, ok.apart, rfl, rfl, rfl⟩
 have := Heap.Ns.new (h.push { cls := .type "list", dict := none, data := .seq ([] : List Value).toArray }) (.type "dict")
 rw [sz] at this
 exact this.keeps (pushCells_keeps _ _)
section
variable {Γ : Cx} {n : Nat} {env : Env} {σ : St} {sc scope : Scope} {ns : List String} {h h4 : Heap} {D L : Addr} {own : List (Str × Addr)}
theorem qh0 (Y : Laid h h4 scope env D L own) : (cEnv scope env L).cells = own ++ clo env.cells scope.names [] := by
 rw [Y.hown]; exact q10 _ _ _
theorem q76 (Y : Laid h h4 scope env D L own) (G : EnvS env sc) (C : CompOK scope sc ns) {x : Str} {c : Addr} (e : (cEnv scope env L).cells.lookup x = some c) : (x, c) ∈ own ∨ ((x, NameKind.free) ∈ scope.names ∧ env.cells.lookup x = some c) := by
 rw [qh0 Y] at e
 rcases List.mem_append.mp (mem_of_lookup e) with h | h
 ·exact .inl h
 rcases qz0 h with h | ⟨h, q⟩
 ·nomatch h
 obtain ⟨c', hc'⟩ := G.cells x (C.frees _ h rfl).2
 exact .inr ⟨h, by rw [q, hc']; rfl⟩
theorem qo8 (Y : Laid h h4 scope env D L own) (C : CompOK scope sc ns) {x : Str} {c : Addr} (m : (x, c) ∈ own) : scope.names.lookup x = some .cell := by
 rw [Y.hown] at m; exact C.cells _ (q75 m) rfl
theorem z43 (Y : Laid h h4 scope env D L own) (C : CompOK scope sc ns) {x : Str} {c : Addr} (m : (x, c) ∈ own) : ∃ c', (cEnv scope env L).cells.lookup x = some c' ∧ (x, c') ∈ own := by
 obtain ⟨c', h1, h2⟩ := q08 m
 exact ⟨c', by rw [qh0 Y]; exact q26 h1, h2⟩
theorem qz3 (Y : Laid h h4 scope env D L own) (C : CompOK scope sc ns) {x : Str} {c : Addr} (m : scope.names.lookup x = some .free) (e : env.cells.lookup x = some c) : (cEnv scope env L).cells.lookup x = some c := by
 rw [qh0 Y, q69]
 ·exact qs4 (mem_of_lookup m) e
 cases q : own.lookup x with
 | none => rfl
 | some c => rw [qo8 Y C (mem_of_lookup q)] at m; nomatch m
theorem qn3 (x : Str) : (cEnv scope env L).kindOf x = (scope.names.lookup x).map fun k => if (k == .free && env.scope.kind == .function && env.kindOf x == some .cell) then .cell else k := qo6 scope env.scope x
theorem q77 {x : Str} (e : scope.names.lookup x = some .local) : (cEnv scope env L).kindOf x = some .local := by rw [qn3, e]; rfl
theorem q93 {x : Str} (e : scope.names.lookup x = some .cell) : (cEnv scope env L).kindOf x = some .cell := by rw [qn3, e]; rfl
theorem z78 (Y : Laid h h4 scope env D L own) (G : EnvS env sc) (C : CompOK scope sc ns) : EnvS (cEnv scope env L) (relab scope sc) where
 scope := G.scope ▸ rfl
 kind := C.kind
 globals := G.globals
 builtins := G.builtins
 cells x hx := by
  rw [qo6] at hx
  cases q : scope.names.lookup x with
  | none => rw [q] at hx; rcases hx with h | h <;> cases h
  | some k =>
   rw [q] at hx
   cases k with
   | cell => obtain ⟨c, hc⟩ := q23 (n := L + 1) (mem_of_lookup q); obtain ⟨c', h1, _⟩ := z43 Y C (Y.hown ▸ hc); exact ⟨c', h1⟩
   | free => obtain ⟨c, hc⟩ := G.cells x (C.frees _ (mem_of_lookup q) rfl).2; exact ⟨c, qz3 Y C q hc⟩
   | _ => rcases hx with h | h <;> cases h
theorem ce_at (Y : Laid h h4 scope env D L own) (G : EnvS env sc) (C : CompOK scope sc ns) {x : String} {V : Value} (f : scope.names.lookup (Str.ofString x) = some .free) {h' : Heap} (a : At env h' x V) : At (cEnv scope env L) h' x V := by
 haveI fk := (C.frees _ (mem_of_lookup f) rfl).2
 have ek : env.kindOf (Str.ofString x) = sc.names.lookup (Str.ofString x) := by unfold Env.kindOf; rw [G.scope]
 rcases a with ⟨e, _⟩ | ⟨e, c, hc, hv⟩
 ·rw [ek] at e; rcases fk with h | h <;> (rw [h] at e; nomatch e)
 refine .inr ⟨?_, c, qz3 Y C f hc, hv⟩
 rw [qn3, f]
 have hf : (env.scope.kind == .function) = true := by rw [G.scope, G.kind]; rfl
 rcases e with e | ⟨e, e'⟩
 ·left; rw [e, hf]; rfl
 right; rw [e, hf]; exact ⟨rfl, e'⟩
noncomputable def ownM (L : Addr) (own : List (Str × Addr)) : List Addr := L :: own.map (·.2)
theorem geL (Y : Laid h h4 scope env D L own) : h.objs.size ≤ L := by rw [Y.hL, Y.hD]; exact Nat.le_succ _
theorem z55 (Y : Laid h h4 scope env D L own) {a : Addr} (ha : a ∈ D :: ownM L own) : h.objs.size ≤ a := by
 rcases List.mem_cons.mp ha with q | ha
 ·rw [q, Y.hD]; exact Nat.le_refl _
 rcases List.mem_cons.mp ha with q | ha
 ·rw [q]; exact geL Y
 obtain ⟨⟨x, c⟩, hm, rfl⟩ := List.mem_map.mp ha
 exact Nat.le_trans (geL Y) (Nat.le_of_succ_le (Y.cells x c hm).2)
theorem D_own (Y : Laid h h4 scope env D L own) : D ∉ ownM L own := fun hm => by
 rcases List.mem_cons.mp hm with q | q
 ·have := Y.hL; rw [← q] at this; exact absurd this (Nat.ne_of_lt (Nat.lt_succ_self _))
 obtain ⟨⟨x, c⟩, hx, q⟩ := List.mem_map.mp q
 haveI h3 := (Y.cells x c hx).2
 have q' : c = D := q
 rw [Y.hL, q'] at h3
 exact absurd h3 (Nat.not_le.mpr (Nat.lt_succ_of_lt (Nat.lt_succ_self _)))
theorem qf4 (Y : Laid h h4 scope env D L own) {a : Addr} (ha : a ∈ D :: ownM L own) : h.get? a = none := Heap.get?_none_of_le (z55 Y ha)
theorem z77 (Y : Laid h h4 scope env D L own) (G : EnvS env sc) (C : CompOK scope sc ns) (hc : ∀ x c, env.cells.lookup x = some c → ∃ o, h.get? c = some o) : OwnC (cEnv scope env L) (ownM L own) ns := fun x c e m => by
 rcases q76 Y G C e with q | ⟨_, q⟩
 ·haveI q' := qo8 Y C q
  obtain ⟨y, hy, e⟩ := C.own _ (mem_of_lookup q') rfl
  exact ⟨y, hy, e, q93 q'⟩
 obtain ⟨o, ho⟩ := hc x c q
 rw [qf4 Y (List.mem_cons_of_mem _ m)] at ho; nomatch ho
theorem ce_wr (Y : Laid h h4 scope env D L own) (G : EnvS env sc) (C : CompOK scope sc ns) (hc : ∀ x c, env.cells.lookup x = some c → ∃ o, h.get? c = some o) {y : String} (hy : scope.names.lookup (Str.ofString y) = some .local ∨ scope.names.lookup (Str.ofString y) = some .cell) : Wr (cEnv scope env L) (ownM L own) h4 y := by
 rcases hy with e | e
 ·exact .inl ⟨q77 e, .head _, Y.ns⟩
 obtain ⟨c, hm⟩ := q23 (n := L + 1) (mem_of_lookup e)
 obtain ⟨c', h1, h2⟩ := z43 Y C (Y.hown ▸ hm)
 refine .inr ⟨q93 e, c', none, h1, List.mem_cons_of_mem _ (List.mem_map.mpr ⟨_, h2, rfl⟩), (Y.cells _ _ h2).1, fun z ez => ?_⟩
 rcases q76 Y G C ez with q | ⟨_, q⟩
 ·exact name_of_addr Y.apart q h2
 obtain ⟨o, ho⟩ := hc z c' q
 rw [qf4 Y (List.mem_cons_of_mem _ (List.mem_cons_of_mem _ (List.mem_map.mpr ⟨_, h2, rfl⟩)))] at ho; nomatch ho
end
noncomputable def Newly (h : Heap) (H : List Addr) (a : Addr) : Prop := a ∉ H ∧ ∀ o, h.get? a = some o → isTab o = true
theorem qj8 {Γ : Cx} {n : Nat} {env : Env} {σ : St} {sc scope : Scope} {elt : Expr} {g : Comprehension} {gs : List Comprehension} {pos p : Pos} {xs xs' ns : List String} {α : Type} {its : List α} {cv : α → List PV} {ys : α → List PV} {tb : α → Bool} {t : Env → Addr → Sem Unit} {l : List (String × PV)}
  (G : EnvS env sc) (C : CompOK scope sc ns) (hdot : ".0" ∈ ns) (hI : EvI Γ n env σ g.iter g.target (its.map cv)) (T : Tgt g.target xs) (hn : xs.Nodup) (hl0 : ∀ p ∈ l, (p.1, RV.pv p.2) ∈ σ.v ∧ scope.names.lookup (Str.ofString p.1) = some .free) (hxn : ∀ x ∈ xs, x ∈ ns) (hxn' : ∀ x ∈ xs', x ∈ ns)
  (hi : ∀ x ∈ its, (cv x).length = xs.length) (hz : (outs its tb ys).length ≤ 2 ^ 24) (hg : g.is_async = 0)
  (hturn : ∀ cenv D I, compTurn (.ListComp elt (g :: gs) scope pos) 0 (.ref I) (.ref D) cenv = q46 p g.target g.ifs (t cenv D) (.ref I) cenv (.compLoop (.ListComp elt (g :: gs) scope pos) 0 (.ref I) (.ref D) cenv))
  (hin : ∀ cenv D M, EnvS cenv (relab scope sc) → Blk Γ cenv M D → OwnC cenv M ns → ∀ x ∈ its, EvP Γ n cenv (pvSt (xs.zip (cv x) ++ l)) (q34 g.ifs cenv) (PB (tb x)) ∧ (tb x = true → EmitOK Γ n cenv M D (pvSt (xs.zip (cv x) ++ l)) (t cenv D) xs' ns (ys x)))
  {A : Around} {E : Value → Shared → Prop} {s : Shared} {φ : Nat → Addr} {H : List Addr} (R : Room Γ A n) (ok : Γ.Ok s) (lv : Live H s.heap) (eo : EnvOK env φ H σ s.heap) {post : Value → Addr → Result → Shared → Prop}
  (hpost : ∀ D L s' vs, Kp s.heap s'.heap → Γ.Ok s' → Newly s.heap H D → Newly s.heap H L → D ≠ L → Γ.hB.get? L = none → True → (∃ m, s'.heap.Ns L m) → LstAt s'.heap D vs → Dens (L :: H) s'.heap vs.toList (outs its tb ys) → post (.ref D) L (.ok .next) s') :
  wpAny (model Γ.prog Γ.w) A (eval g.iter env) (fun x s₁ => wpAny (model Γ.prog Γ.w) A (pyIter x) (fun it s₂ => wpAny (model Γ.prog Γ.w) A (newList []) (fun acc s₃ => wpAny (model Γ.prog Γ.w) A (newFunctionEnv scope env.globals (clo env.cells scope.names []) [] env.qual none .none (some env)) (fun cenv s₄ =>
   codeAny (model Γ.prog Γ.w) A (.compStart (.ListComp elt (g :: gs) scope pos) 0 it acc { cenv with scope := relabel scope env }) (post acc cenv.locals) s₄) E s₃) E s₂) E s₁) E s := by
 refine hI.run A E s φ H R ok lv eo _ fun I s1 fp wr S hpre kp0 kp1 ok1 hwB hnp W st fpH => ?_
 refine wpAny_newObj_type (q53 fun e he heL => ?_)
 have Y := z17 s1.heap scope env
 rw [show ({ s1 with heap := s1.heap.push { cls := .type "list", dict := none, data := .seq ([] : List Value).toArray } } : Shared).heap.objs.size = s1.heap.objs.size + 1 from Heap.size_push ..] at he heL
 haveI he' : { e with scope := relabel scope env } = cEnv scope env (s1.heap.objs.size + 1) := he
 rw [he', heL]
 show codeAny _ _ _ _ { s1 with heap := pushCells ((s1.heap.push { cls := .type "list", dict := none, data := .seq ([] : List Value).toArray }).push { cls := .type "dict", data := .dict #[] }) scope.names }
 generalize pushCells ((s1.heap.push { cls := .type "list", dict := none, data := .seq ([] : List Value).toArray }).push { cls := .type "dict", data := .dict #[] }) scope.names = h4 at Y ⊢
 generalize cellsFrom (s1.heap.objs.size + 1 + 1) scope.names [] = own at Y
 generalize hL : s1.heap.objs.size + 1 = L at Y he' heL ⊢
 generalize hD : s1.heap.objs.size = D at Y hL ⊢
 clear he he' heL
 have k01 := kp0.trans kp1
 haveI eop := eo.kp kp0
 haveI eo1 := eo.kp k01
 have hc1 : ∀ x c, env.cells.lookup x = some c → ∃ o, s1.heap.get? c = some o := fun x c q => let ⟨v, o, ho, _⟩ := eo1.cells x c q; ⟨o, ho⟩
 have wn : ∀ a, (∃ o, hpre.get? a = some o ∧ isTab o = false) → a ∉ wr := fun a ⟨o, ho, _⟩ hm => by rw [W.fresh a hm] at ho; nomatch ho
 haveI wl : ∀ a ∈ wr, ∃ o, s1.heap.get? a = some o ∧ isLo o = false := W.live _ _ st
 have newM : ∀ a ∈ D :: ownM L own, s1.heap.get? a = none := fun a ha => qf4 Y ha
 have oldN : ∀ a, (∃ o, s1.heap.get? a = some o) → a ∉ D :: ownM L own := fun a ⟨o, ho⟩ hm => by rw [newM a hm] at ho; exact absurd ho.symm (Option.some_ne_none _)
 have hMw : ∀ a ∈ D :: ownM L own, a ∉ wr := fun a ha hw => by obtain ⟨o, ho, _⟩ := wl a hw; rw [newM a ha] at ho; exact absurd ho.symm (Option.some_ne_none _)
 have subH : ∀ a, a ∈ D :: ownM L own ++ (wr ++ H) → a ∈ H ∨ hpre.get? a = none := fun a ha => by
  rcases List.mem_append.mp ha with h | h
  ·exact .inr (hnp _ (newM a h))
  rcases List.mem_append.mp h with h | h
  ·exact .inr (W.fresh a h)
  exact .inl h
 haveI k14 : Kp s1.heap h4 := .of Y.keep
 haveI kp4 : Kp hpre h4 := kp1.trans k14
 haveI kp04 : Kp s.heap h4 := k01.trans k14
 haveI ok4 : Γ.Ok { s1 with heap := h4 } := ok1.keeps Y.keep
 have st4 : S 0 h4 := W.frame _ _ _ st fun b hb o e => Y.keep b o e
 have B : Blk Γ (cEnv scope env L) (ownM L own) D := by
  exact ⟨D_own Y, fun a ha => ok1.new (newM a ha), C.kind, .head _⟩
 have lv4 : Live (D :: ownM L own ++ (wr ++ H)) h4 := fun a ha => by
  rcases List.mem_append.mp ha with h | h
  ·rcases List.mem_cons.mp h with rfl | h
   ·exact Y.lst.some
   rcases List.mem_cons.mp h with rfl | h
   ·exact nt_ns Y.ns.choose_spec
   obtain ⟨⟨x, c⟩, hx, rfl⟩ := List.mem_map.mp h
   exact q52 (Y.cells x c hx).1
  rcases List.mem_append.mp h with h | h
  ·obtain ⟨o, ho, ht⟩ := W.live _ _ st4 a h; exact ⟨o, ho, lot ht⟩
  exact lv.kp kp04 a h
 have ce4 : ∀ x c, (cEnv scope env L).cells.lookup x = some c → ∃ v, h4.IsCell c v := fun x c e => by
  rcases q76 Y G C e with q | ⟨_, q⟩
  ·exact ⟨_, (Y.cells x c q).1⟩
  obtain ⟨v, hv⟩ := eo.cells x c q; exact ⟨v, q71 hv kp04⟩
 have hCw : ∀ x c, (cEnv scope env L).cells.lookup x = some c → c ∉ wr := fun x c e => by
  rcases q76 Y G C e with q | ⟨_, q⟩
  ·exact hMw c (List.mem_cons_of_mem _ (List.mem_cons_of_mem _ (List.mem_map.mpr ⟨_, q, rfl⟩)))
  exact wn c (q52 (eop.cells x c q).choose_spec)
 have eo4 : EnvOK (cEnv scope env L) φ (D :: ownM L own ++ (wr ++ H)) (pvSt l) h4 := .ofPv (fun x v m => by
  obtain ⟨m1, m2⟩ := hl0 _ m
  obtain ⟨V, a, d⟩ := eop.vars _ _ m1
  exact ⟨V, ce_at Y G C m2 (a.kp kp4), Den.kpH (kp4.toH _) subH d⟩) ce4
 have wr4 : ∀ y ∈ ns, Wr (cEnv scope env L) (ownM L own) h4 y := fun y hy => ce_wr Y G C hc1 (C.targets y hy)
 have oc := z77 Y G C hc1
 haveI hin' := hin (cEnv scope env L) D (ownM L own) (z78 Y G C) B oc
 haveI lnot : ∀ p ∈ l, ∀ y ∈ ns, p.1 ≠ y := fun p hp y hy e => by
  have := (hl0 p hp).2
  rw [e] at this
  rcases C.targets y hy with h | h <;> (rw [h] at this; nomatch this)
 haveI loop : codeAny (model Γ.prog Γ.w) A (.compLoop (.ListComp elt (g :: gs) scope pos) 0 (.ref I) (.ref D) (cEnv scope env L)) (post (.ref D) L) { s1 with heap := h4 } := by
  refine qw4 (H := wr ++ H) (H0 := H) (φ := φ) (zs := []) B (hturn _ D I) T hn (fun p hp hx => lnot p hp _ (hxn _ hx) rfl) (fun p hp hx => lnot p hp _ (hxn' _ hx) rfl) hxn hi oc (fun x hx => (hin' x hx).1) (fun x hx => (hin' x hx).2) R W subH (fun b hb => List.mem_append_left _ hb) hMw
   (fun b hb => ?_) (hMw _ (List.mem_cons_of_mem _ (.head _))) hCw hwB (kp4.toH _) ⟨ok4, lv4, wr4, ⟨#[], Y.lst, .nil⟩, st4, KpH.refl _ _, fun _ _ _ a => a, fun _ w => w, eo4⟩ (by simpa using hz) fun s' h1 t1 J f1 => ?_
  ·obtain ⟨_, o, ho, ht⟩ := fpH b hb
   exact ⟨oldN b ⟨o, ho⟩, o, Y.keep _ _ ho, ht⟩
  obtain ⟨vs', hD', dD'⟩ := J.acc
  haveI tabsw : ∀ a o, s'.heap.get? a = some o → isTab o = true → a ∉ wr := fun a o e t hm => by
   obtain ⟨o', h4, h5⟩ := W.live _ _ J.st _ hm
   rw [e] at h4; cases h4; rw [lot h5] at t; cases t
  haveI hDm : D ∈ D :: ownM L own := .head _
  have hLm : L ∈ D :: ownM L own := List.mem_cons_of_mem _ (.head _)
  have snone : ∀ a ∈ D :: ownM L own, Newly s.heap H a := fun a ha => by
   refine ⟨fun hm => ?_, fun o ho => ?_⟩
   ·obtain ⟨o, ho, ht⟩ := lv a hm
    obtain ⟨_, this⟩ := (k01 _ _ ho ht).sl; rw [newM a ha] at this; cases this
   cases ht : isTab o with
   | true => rfl
   | false => obtain ⟨_, this⟩ := (k01 _ _ ho ht).sl; rw [newM a ha] at this; cases this
  refine hpost D L { s' with heap := h1, toks := t1 } vs' (fun b o e t => (kp04 _ _ e t).trans fun o' e' t' => (J.kph b o' (fun q => ?_) e' (t'.trans t)).trans fun o2 e2 _ => .of (f1 _ _ (wn b (let ⟨_, e0⟩ := (kp0 _ _ e t).sl; ⟨_, e0, t⟩)) e2)) (J.ok.fk f1 hwB tabsw fun a _ => f1.frw (W.live _ _ J.st) a) (snone _ hDm) (snone _ hLm) (fun q => B.apart (q ▸ .head _)) (B.off _ hLm) trivial ?_ ?_ ?_
  ·rcases List.mem_append.mp q with q | q
   ·obtain ⟨_, e0⟩ := (k01 _ _ e t).sl; exact oldN b ⟨_, e0⟩ q
   obtain ⟨_, e0⟩ := (kp0 _ _ e t).sl; exact wn b ⟨_, e0, t⟩ q
  ·rcases J.wrt _ hdot with ⟨_, _, m, hm⟩ | ⟨e, _⟩
   ·exact ⟨m, ns_fk hm f1 (hMw _ hLm)⟩
   rw [q77 C.dot] at e; nomatch e
  ·obtain ⟨j, hj⟩ := hD'; exact ⟨j, f1 _ _ (hMw _ hDm) hj⟩
  refine dD'.kpH (fun b o m e t => .of (f1 b o (fun q => m ?_) e)) fun a ha => .inl ?_
  ·exact List.mem_append_right _ (List.mem_append_left _ q)
  rcases List.mem_cons.mp ha with rfl | ha
  ·exact List.mem_append_left _ hLm
  exact List.mem_append_right _ (List.mem_append_right _ ha)
 obtain ⟨tgt, iter, ifs, asy⟩ := g
 cases hg
 exact codeAny_compStart_list loop (W.self 0 _ _ _ st4 loop)
theorem Kp.sameBut {h h₁ h₂ : Heap} {H : List Addr} {a : Addr} (k : Kp h h₁) (hs : Heap.SameBut a h₁ h₂) (n : Newly h H a) : Kp h h₂ := fun b o e t => (k b o e t).trans fun o' e' _ => .of ((hs.2 b (fun q => by subst q; rw [n.2 o e] at t; nomatch t)).trans e')
theorem EnvS.closes {env : Env} {sc scope : Scope} {ns : List String} (G : EnvS env sc) (C : CompOK scope sc ns) : closureFor scope env = pure (clo env.cells scope.names []) :=
 qg7 fun p hp hf => G.cells _ (C.frees _ hp hf).2
theorem Ev.comp0 {Γ : Cx} {n : Nat} {env : Env} {σ : St} {sc scope : Scope} {elt : Expr} {g : Comprehension} {gs : List Comprehension} {pos p : Pos} {xs xs' ns : List String} {α : Type} {its : List α} {cv : α → List PV} {ys : α → List PV} {tb : α → Bool} {t : Env → Addr → Sem Unit} {l : List (String × PV)}
  (G : EnvS env sc) (C : CompOK scope sc ns) (hdot : ".0" ∈ ns) (hI : EvI Γ n env σ g.iter g.target (its.map cv)) (T : Tgt g.target xs) (hn : xs.Nodup) (hl0 : ∀ p ∈ l, (p.1, RV.pv p.2) ∈ σ.v ∧ scope.names.lookup (Str.ofString p.1) = some .free) (hxn : ∀ x ∈ xs, x ∈ ns) (hxn' : ∀ x ∈ xs', x ∈ ns)
  (hi : ∀ x ∈ its, (cv x).length = xs.length) (hz : (outs its tb ys).length ≤ 2 ^ 24) (hg : g.is_async = 0) (hs : ∀ x, foldedSetIterable g.iter env x = pure x)
  (hturn : ∀ cenv D I, compTurn (.ListComp elt (g :: gs) scope pos) 0 (.ref I) (.ref D) cenv = q46 p g.target g.ifs (t cenv D) (.ref I) cenv (.compLoop (.ListComp elt (g :: gs) scope pos) 0 (.ref I) (.ref D) cenv))
  (hin : ∀ cenv D M, EnvS cenv (relab scope sc) → Blk Γ cenv M D → OwnC cenv M ns → ∀ x ∈ its, EvP Γ n cenv (pvSt (xs.zip (cv x) ++ l)) (q34 g.ifs cenv) (PB (tb x)) ∧ (tb x = true → EmitOK Γ n cenv M D (pvSt (xs.zip (cv x) ++ l)) (t cenv D) xs' ns (ys x))) :
  Ev Γ n env σ (.ListComp elt (g :: gs) scope pos) (.pv (.list (outs its tb ys))) := .mk fun A E s φ H R ok lv eo Q k => by
 obtain ⟨tgt, iter, ifs, asy⟩ := g
 cases hg
 rw [eval_ListComp]
 refine wpAny_comprehension_free (use := none) rfl hs (G.closes C) C.kind C.locals (qj8 (g := ⟨tgt, iter, ifs, 0⟩) (post := fun acc L => compPost (model Γ.prog Γ.w) A E none Q acc L) G C hdot hI T hn hl0 hxn hxn' hi hz rfl hturn hin R ok lv eo
  fun D L s' vs k1 ok1 nD nL hDL hBL htL hm hl hd => ?_)
 obtain ⟨m, hm⟩ := hm
 refine ⟨m, hm, fun h' hs' => k _ _ (k1.sameBut hs' nL) (ok1.fk (M := [L]) (FK.same hs' (.head _)) (fun a ha => by simp only [List.mem_singleton] at ha; subst ha; exact hBL) (fun a o e t q => by simp only [List.mem_singleton] at q; subst q; obtain ⟨o', e', t'⟩ := nt_ns hm; rw [e] at e'; cases e'; rw [t] at t'; cases t') fun a ha ⟨o, e, t⟩ => ⟨o, (hs'.2 a fun q => by subst q; obtain ⟨o0, e0, t0⟩ := ok.frs _ ha; have t1 := nL.2 _ e0; rw [q16 t0] at t1; cases t1).trans e, t⟩) ?_⟩
 obtain ⟨j, hj⟩ := hl
 exact .list nD.1 ⟨j, (hs'.2 _ hDL).trans hj⟩ (hd.kpH (fun b o m e t => .of ((hs'.2 b fun q => m (q ▸ .head _)).trans e)) fun a ha => .inl (.tail _ ha))
section
variable {prog : Program} {w : World} {A : Around} {hpre : Heap} {H : List Addr} {I : Addr} {fp wr : List Addr} {S : Nat → Heap → Prop}
theorem Itr.ofWalksT {xs : List String} {ps : List Pos} {k : Nat} {pos : Pos} {its : List (List PV)} {Pt : Nat → Array Value → Prop} {Mid : Nat → Addr → Heap → Prop} (W : WalksT prog w A I fp wr its.length Pt S Mid)
  (fresh : ∀ b ∈ wr, hpre.get? b = none) (live : ∀ i h, S i h → ∀ b ∈ wr, ∃ o, h.get? b = some o ∧ isLo o = false) (hP : ∀ i vals y, Pt i vals → its[i]? = some y → Dens H hpre vals.toList y) (es : List Expr) :
  Itr prog w A hpre H (.Tuple es k pos) I fp wr its S where
 sub := W.sub
 fresh := fresh
 live := live
 frame := W.frame
 item i s E x Q H' hx st sub k h := by
  haveI hlt : i < its.length := (List.getElem?_eq_some_iff.mp hx).1
  refine W.item i s Q E hlt st fun T vals h' tk hp _ ht hm hk => h (.ref T) h' tk (fun b o m e => hk b o m e) fun E' Q' q => ?_
  refine W.go es _ _ i T _ Q' E' hm fun h2 st2 hk2 => q h2 (fun b o m e => hk2 b o m e) st2 ?_
  obtain ⟨o, ho, r⟩ := ht
  refine ⟨T, vals, rfl, .inl ⟨o, hk2 _ _ (W.apart i T _ hm) ho, r⟩, ?_⟩
  haveI kk : KpH H hpre h2 := fun b o m e t => (k b o m e t).trans fun o' e' _ => .of (hk2 b o' (fun m => by rw [fresh b m] at e; cases e) (hk b o' (fun m => by rw [fresh b m] at e; cases e) e'))
  exact (hP i vals x hp hx).kpN kk sub
 done s E Q st h := W.done s Q E st fun h' tk hk => h h' tk fun b o m e => hk b o m e
 self i s E Q st h := W.self i s Q E st h
theorem Itr.ofWalksU {es : List Expr} {k : Nat} {pos : Pos} {its : List (List PV)} {P : Nat → Value → Prop} (W : Walks prog w A I fp wr its.length P S)
  (fresh : ∀ b ∈ wr, hpre.get? b = none) (live : ∀ i h, S i h → ∀ b ∈ wr, ∃ o, h.get? b = some o ∧ isLo o = false) (hP : ∀ i v y, P i v → its[i]? = some y → Den H hpre v (.tup y) ∨ Den H hpre v (.list y))
  (nt : ∀ i h, S i h → ∃ o, h.get? I = some o ∧ ∃ T, o.cls = .type T ∧ ["enumerate", "zip", "dict_itemiterator", "dict_reverseitemiterator", "odict_iterator", "itertools.zip_longest", "itertools.pairwise"].contains T = false) :
  Itr prog w A hpre H (.Tuple es k pos) I fp wr its S where
 sub := W.sub
 fresh := fresh
 live := live
 frame := W.frame
 item i s E x Q H' hx st sub k h := by
  haveI hlt : i < its.length := (List.getElem?_eq_some_iff.mp hx).1
  refine W.item i s Q E hlt st fun v h' tk hp st' hk => h v h' tk (fun b o m e => hk b o m e) fun E' Q' q => ?_
  have kk : KpH H hpre h' := fun b o m e t => (k b o m e t).trans fun o' e' _ => .of (hk b o' (fun m => by rw [fresh b m] at e; cases e) e')
  haveI u : ∃ T, v = .ref T ∧ ∃ vals, (h'.IsTuple T vals ∨ h'.IsList T vals) ∧ Dens H' h' vals.toList x := by
   rcases hP i v x hp hx with d | d
   ·cases d using Den.t with | tup ha hl hd => exact ⟨_, rfl, _, .inl (qc4 hl kk ha).isTuple, hd.kpN kk sub⟩
   cases d using Den.l with | list ha hl hd => exact ⟨_, rfl, _, .inr (qe6 hl kk ha).isList, hd.kpN kk sub⟩
  obtain ⟨T, rfl, vals, ht, d⟩ := u
  obtain ⟨o, ho, C, hc, hn⟩ := nt _ _ st'
  have fin := q h' (FK.refl _ _) st' ⟨T, vals, rfl, ht, d⟩
  unfold letOwnedTupleGo
  refine wpAny_bind (wpAny_load ho ?_)
  rw [hc]
  split
  ·rename_i hnn _
   cases hnn
   rw [hn]
   exact wpAny_pure fin
  exact wpAny_pure fin
 done s E Q st h := W.done s Q E st fun h' tk hk => h h' tk fun b o m e => hk b o m e
 self i s E Q st h := W.self i s Q E st h
end
noncomputable def CallI (Γ : Cx) (n : Nat) (f : Value) (Ps : List (Pred Value)) (tgt : Expr) (its : List (List PV)) : Prop :=
 ∀ (Vs : List Value) (A : Around) (E : Value → Shared → Prop) (s : Shared) (φ : Nat → Addr) (H : List Addr), Room Γ A n → Γ.Ok s → Live H s.heap → PArgs φ H s.heap Ps Vs → ∀ Q : Value → Shared → Prop,
  (∀ I s' fp wr S, Kp s.heap s'.heap → Γ.Ok s' → (∀ b ∈ wr, Γ.hB.get? b = none) → (∀ a, s'.heap.get? a = none → s.heap.get? a = none) → Itr Γ.prog Γ.w A s.heap H tgt I fp wr its S → S 0 s'.heap → (∀ b ∈ fp, b ∉ H ∧ ∃ o, s'.heap.get? b = some o ∧ isLo o = false) → Q (.ref I) s') →
  wpAny (model Γ.prog Γ.w) A (call f Vs) (fun x s₁ => wpAny (model Γ.prog Γ.w) A (pyIter x) Q E s₁) E s
noncomputable def NoOwn (P : Pred Value) : Prop := ∀ φ H h V, P φ H h V → ∃ v, Den H h V v
section
variable {Γ : Cx} {n : Nat} {env : Env} {σ : St} {sc : Scope}
theorem EvI.call_ty {x : Str} {p pos : Pos} {T : String} {e : Expr} {es : List Expr} {Ps : List (Pred Value)} {tgt : Expr} {its : List (List PV)} (hf : EvP Γ n env σ (eval (.Name x p) env) fun _ _ _ V => V = .type T) (ha : EvS Γ n env σ pos (e :: es) Ps) (hc : CallI Γ n (.type T) Ps tgt its)
  (he : ∀ env, starEach (e :: es) env = (false, eval e env) :: starEach es env := by intro _; rfl) (hp : ∀ env, (backTo pos (starEach es env)).any (·.1) = false := by intro _; rfl) : EvI Γ n env σ (.Call (.Name x p) (e :: es) [] pos) tgt its :=
 .mk fun A E s φ H R ok lv eo Q k => wpAny_Call_Name_kw (hf.run A E s φ H R ok lv eo _ fun V s1 k1 ok1 hV => by
  subst hV
  exact PyProof.Rows.callWith_type1 (ha.run A E s1 φ H R ok1 (lv.kp k1) (eo.kp k1) _ fun Vs s2 k2 ok2 ds => hc Vs A E s2 φ H R ok2 (lv.kp (k1.trans k2)) ds Q fun I s' fp wr S k3 ok3 hw hn W st fpH => k I s' fp wr S s2.heap (k1.trans k2) k3 ok3 hw hn W st fpH) (he env) (hp env))
theorem q91 {h h' : Heap} (k : ∀ b o, h.get? b = some o → h'.get? b = some o) : ∀ a, h'.get? a = none → h.get? a = none := fun a q => by
 cases e : h.get? a with
 | none => rfl
 | some o => rw [k _ _ e] at q; cases q
noncomputable def rngL (a b : Int) : List Int := (List.range (b - a).toNat).map fun (i : Nat) => a + (i : Int)
theorem EvI.rng {e : Expr} {x : String} {p : Pos} {a b : Int} (he : Ev Γ n env σ e (.pv (.rng a b))) (h0 : -(2 ^ 61) ≤ a ∧ a < 2 ^ 61) (h1 : -(2 ^ 61) ≤ b ∧ b < 2 ^ 61) : EvI Γ n env σ e (.Name (Str.ofString x) p) ((rngL a b).map fun i => [.int i]) :=
 .mk fun A E s φ H R ok lv eo Q k => he.run A E s φ H R ok lv eo _ fun V s1 k1 ok1 d => by
  cases d using Den.r with
  | @rng r ha hr =>
   obtain ⟨t, u, v, ho⟩ := hr
   refine wpAny_pyIter_range ho (small_one (by lia) (by lia) (by lia) (by lia)) (k s1.heap.objs.size _ [s1.heap.objs.size] [s1.heap.objs.size] (fun i h => IsRangeIter h s1.heap.objs.size (a + (i : Nat) * 1) (((b - a).toNat : Int) - (i : Nat)) 1) s1.heap k1 (Kp.push _ _) (ok1.push0 _) ?_ (q41 _ _) ?_ ?_ ?_)
   ·intro c hc; simp only [List.mem_singleton] at hc; subst hc; exact ok1.new (q00 _)
   ·haveI hlen : (b - a).toNat = ((rngL a b).map PV.int).length := by simp [rngL]
    haveI W := Walks.range (prog := Γ.prog) (w := Γ.w) R.handled s1.heap.objs.size a 1 (b - a).toNat
    haveI e2 : ((rngL a b).map fun i => [PV.int i]) = ((rngL a b).map PV.int).map fun y => [y] := by simp
    rw [e2]
    haveI W' : Walks Γ.prog Γ.w A s1.heap.objs.size [s1.heap.objs.size] [s1.heap.objs.size] ((rngL a b).map PV.int).length (fun i v => ∃ t, v = .int (a + i * 1) t) (fun i h => IsRangeIter h s1.heap.objs.size (a + (i : Nat) * 1) (((b - a).toNat : Int) - (i : Nat)) 1) := by
     rw [← hlen]; exact W
    refine Itr.ofWalks W' (fun c hc => by simp only [List.mem_singleton] at hc; subst hc; exact q00 _) (fun i h st c hc => by simp only [List.mem_singleton] at hc; subst hc; exact ⟨_, st, rfl⟩) fun i v y hv hy => ?_
    obtain ⟨t, rfl⟩ := hv
    haveI : y = .int (a + i) := by
     simp only [rngL, List.map_map, List.getElem?_map] at hy
     obtain ⟨j, hj, rfl⟩ := Option.map_eq_some_iff.mp hy
     obtain ⟨_, hj⟩ := List.getElem?_eq_some_iff.mp hj
     simp at hj; subst hj; rfl
    subst this
    rw [Int.mul_one]; exact .int _ _
   ·have e3 : a + ((0 : Nat) : Int) * 1 = a := by simp
    have e4 : (((b - a).toNat : Int) - ((0 : Nat) : Int)) = Builtin.Range.rangeSize a b 1 := by rw [rangeSize_one]; split <;> lia
    show IsRangeIter _ _ _ _ _
    rw [e3, e4]; exact Heap.get?_push_size _ rfl
   intro c hc; simp only [List.mem_singleton] at hc; subst hc; exact ⟨(lv.kp k1).size, _, Heap.get?_push_size _ rfl, rfl⟩
theorem EvI.str {e : Expr} {x : String} {p : Pos} {cs : List Nat} (he : Ev Γ n env σ e (.pv (.str cs))) : EvI Γ n env σ e (.Name (Str.ofString x) p) (cs.map fun c => [.str [c]]) :=
 .mk fun A E s φ H R ok lv eo Q k => he.run A E s φ H R ok lv eo _ fun V s1 k1 ok1 d => by
  cases d using Den.s with
  | str t =>
   haveI e2 : (cs.map fun c => [PV.str [c]]) = (cs.map fun c => PV.str [c]).map fun y => [y] := by simp
   haveI hP : ∀ i v y, SignAt ⟨List.toArray cs⟩ i v → (cs.map fun c => PV.str [c])[i]? = some y → Den H s1.heap v y := fun i v y hv hy => by
    obtain ⟨c, u, hc, rfl⟩ := hv
    simp only [List.getElem?_map] at hy
    obtain ⟨j, hj, rfl⟩ := Option.map_eq_some_iff.mp hy
    haveI : c = j := by rw [← Array.getElem?_toList, List.toList_toArray, hj] at hc; exact (Option.some.inj hc).symm
    subst this; exact .str [c] u
   haveI fin : ∀ (o : Obj) (S : Nat → Heap → Prop), Walks Γ.prog Γ.w A s1.heap.objs.size [s1.heap.objs.size] [s1.heap.objs.size] cs.length (SignAt ⟨List.toArray cs⟩) S → S 0 (s1.heap.push o) → isLo o = false → o.isFreed = false → (∀ i h, S i h → ∃ o, h.get? s1.heap.objs.size = some o ∧ isLo o = false) →
     Q (.ref s1.heap.objs.size) { s1 with heap := s1.heap.push o } := by
    intro o S W st ht hf live
    refine k s1.heap.objs.size _ [s1.heap.objs.size] [s1.heap.objs.size] S s1.heap k1 (Kp.push _ _) (ok1.push0 _) ?_ (q41 _ _) ?_ st ?_
    ·intro c hc; simp only [List.mem_singleton] at hc; subst hc; exact ok1.new (q00 _)
    ·rw [e2]
     haveI W' : Walks Γ.prog Γ.w A s1.heap.objs.size [s1.heap.objs.size] [s1.heap.objs.size] (cs.map fun c => PV.str [c]).length (SignAt ⟨List.toArray cs⟩) S := by rw [List.length_map]; exact W
     exact Itr.ofWalks W' (fun c hc => by simp only [List.mem_singleton] at hc; subst hc; exact q00 _) (fun i h st c hc => by simp only [List.mem_singleton] at hc; subst hc; exact live i h st) hP
    intro c hc; simp only [List.mem_singleton] at hc; subst hc; exact ⟨(lv.kp k1).size, _, Heap.get?_push_size _ hf, ht⟩
   haveI hsz : (⟨List.toArray cs⟩ : Str).cps.size = cs.length := by simp
   cases ha : (⟨List.toArray cs⟩ : Str).cps.all (· < 128)
   ·refine wpAny_pyIter_wide ha (fin _ (fun i h => h.IsStrIter s1.heap.objs.size "str_iterator" ⟨List.toArray cs⟩ t i) ?_ ⟨_, Heap.get?_push_size _ rfl, rfl, rfl⟩ rfl rfl fun i h st => ?_)
    ·have := Walks.strWide (prog := Γ.prog) (w := Γ.w) R.handled s1.heap.objs.size ⟨List.toArray cs⟩ t
     rw [hsz] at this; exact this
    obtain ⟨o, ho, hc, hfd⟩ := st; exact ⟨o, ho, q07 hc hfd⟩
   refine wpAny_pyIter_ascii ha (fin _ (fun i h => h.IsStrIter s1.heap.objs.size "str_ascii_iterator" ⟨List.toArray cs⟩ t i) ?_ ⟨_, Heap.get?_push_size _ rfl, rfl, rfl⟩ rfl rfl fun i h st => ?_)
   ·have := Walks.strAscii (prog := Γ.prog) (w := Γ.w) R.handled s1.heap.objs.size ⟨List.toArray cs⟩ t
    rw [hsz] at this; exact this
   obtain ⟨o, ho, hc, hfd⟩ := st; exact ⟨o, ho, q07 hc hfd⟩
theorem EvI.rows {e : Expr} {es : List Expr} {j : Nat} {pos : Pos} {xs : List PV} {its : List (List PV)} (he : Ev Γ n env σ e (.pv (.list xs))) (hx : xs = its.map PV.list ∨ xs = its.map PV.tup) : EvI Γ n env σ e (.Tuple es j pos) its :=
 .mk fun A E s φ H R ok lv eo Q k => he.run A E s φ H R ok lv eo _ fun V s1 k1 ok1 d => by
  cases d using Den.l with
  | @list a vs ha hl hd =>
   have hne : a ≠ s1.heap.objs.size := by obtain ⟨_, e⟩ := hl; exact Nat.ne_of_lt (Heap.lt_size e)
   have hlen := hd.length
   simp only [Array.length_toList] at hlen
   have hxl : xs.length = its.length := by rcases hx with h | h <;> simp [h]
   refine wpAny_pyIter_list hl.isList (k s1.heap.objs.size _ [s1.heap.objs.size, a] [s1.heap.objs.size] (fun i h => h.IsListIter s1.heap.objs.size a i ∧ h.IsList a vs) s1.heap k1 (Kp.push _ _) (ok1.push0 _) (fun b hb => ok1.new (by simp only [List.mem_singleton] at hb; subst hb; exact q00 _)) (q41 _ _) ?_ ⟨⟨_, Heap.get?_push_size _ rfl, rfl, rfl⟩, hl.isList.push _⟩ ?_)
   ·haveI W := Walks.list (prog := Γ.prog) (w := Γ.w) R.handled s1.heap.objs.size a hne vs
    rw [hlen, hxl] at W
    refine Itr.ofWalksU W (fun b hb => ?_) (fun i h st b hb => ?_) (fun i v y hv hy => ?_) fun i h st => ?_
    ·simp only [List.mem_singleton] at hb; subst hb; exact q00 _
    ·simp only [List.mem_singleton] at hb; subst hb; obtain ⟨⟨o, ho, hc, hfd⟩, _⟩ := st; exact ⟨o, ho, q07 hc hfd⟩
    ·haveI hv' : vs.toList[i]? = some v := by rw [Array.getElem?_toList]; exact hv
     obtain ⟨z, hz, dz⟩ := hd.getV hv'
     rcases hx with h | h
     ·right; rw [h, List.getElem?_map, hy] at hz; cases hz; exact dz
     left; rw [h, List.getElem?_map, hy] at hz; cases hz; exact dz
    obtain ⟨⟨o, ho, hc, hfd⟩, _⟩ := st; exact ⟨o, ho, "list_iterator", hc, by decide⟩
   intro b hb
   simp only [List.mem_cons, List.not_mem_nil, or_false] at hb
   rcases hb with rfl | rfl
   ·exact ⟨(lv.kp k1).size, _, Heap.get?_push_size _ rfl, rfl⟩
   exact ⟨ha, (hl.kp (Kp.push _ _)).lo⟩
theorem CallI.enum {xs : List PV} {es : List Expr} {j : Nat} {pos : Pos} : CallI Γ n (.type "enumerate") [PR (.pv (.list xs))] (.Tuple es j pos) (xs.zipIdx.map fun p => [.int p.2, p.1]) := fun Vs A E s φ H R ok lv ds Q k => by
 obtain ⟨V, rfl, d⟩ := ds.one
 cases d using Den.l with
 | @list a vs ha hl hd =>
  have hlen := hd.length
  simp only [Array.length_toList] at hlen
  have hlt : a < s.heap.objs.size := by obtain ⟨_, e⟩ := hl; exact Heap.lt_size e
  refine call_enumerate_list hl.isList fun h' he hit hsz hk => ?_
  refine wpAny_pyIter_enum he ?_
  haveI W := WalksT.enumerate (prog := Γ.prog) (w := Γ.w) R.handled (s.heap.objs.size + 1) s.heap.objs.size a (Nat.succ_ne_self _) (Nat.ne_of_lt (Nat.lt_succ_of_lt hlt)) (Nat.ne_of_lt hlt) vs
  have nw : ∀ b ∈ [s.heap.objs.size + 1, s.heap.objs.size], s.heap.get? b = none := fun b hb => Heap.get?_none_of_le (by
   simp only [List.mem_cons, List.not_mem_nil, or_false] at hb
   rcases hb with rfl | rfl
   ·exact Nat.le_succ _
   exact Nat.le_refl _)
  have hll : vs.size = (xs.zipIdx.map fun p => [PV.int p.2, p.1]).length := by simp [hlen]
  rw [hll] at W
  refine k (s.heap.objs.size + 1) { s with heap := h' } _ _ _ (Kp.of hk) (ok.keeps hk) (fun b hb => ok.new (nw b hb)) (q91 hk) (Itr.ofWalksT W nw ?_ ?_ es (ps := []) (xs := [])) ⟨⟨_, he⟩, hit, ⟨_, hk _ _ hl.choose_spec, rfl, _, rfl⟩⟩ ?_
  ·intro i h st b hb
   obtain ⟨⟨old, he⟩, hi, _⟩ := st
   simp only [List.mem_cons, List.not_mem_nil, or_false] at hb
   rcases hb with rfl | rfl
   ·exact ⟨_, he, rfl⟩
   obtain ⟨o, ho, hc, hfd⟩ := hi; exact ⟨o, ho, q07 hc hfd⟩
  ·intro i vals y hp hy
   obtain ⟨t, x, hx, rfl⟩ := hp
   rw [List.getElem?_map] at hy
   obtain ⟨q, hq, rfl⟩ := Option.map_eq_some_iff.mp hy
   haveI hx' : vs.toList[i]? = some x := by rw [Array.getElem?_toList]; exact hx
   obtain ⟨z, hz, dz⟩ := hd.getV hx'
   haveI : q = (z, i) := by
    rw [List.getElem?_zipIdx, hz] at hq; simpa using hq.symm
   subst this
   exact .cons (.int _ _) (.cons dz .nil)
  intro b hb
  simp only [List.mem_cons, List.not_mem_nil, or_false] at hb
  rcases hb with rfl | rfl | rfl
  ·exact ⟨lv.fresh (nw _ (by simp)), _, he, rfl⟩
  ·obtain ⟨o, ho, hc, hfd⟩ := hit
   exact ⟨lv.fresh (nw _ (by simp)), o, ho, q07 hc hfd⟩
  exact ⟨ha, (hl.kp (Kp.of hk)).lo⟩
end
theorem Nw.notLive {h : Heap} {a : Addr} (n : Nw h a) {H : List Addr} (l : Live H h) : a ∉ H := fun m => by
 obtain ⟨o, ho, ht⟩ := l a m; rw [n o ho] at ht; exact absurd ht.symm Bool.false_ne_true
theorem Nw.size (h : Heap) : Nw h h.objs.size := fun o e => by rw [q00] at e; nomatch e
theorem Nw.kp {h h' : Heap} {a : Addr} (k : Kp h h') (n : Nw h' a) : Nw h a := fun o e => by
 cases t : isTab o with
 | true => rfl
 | false => obtain ⟨sl, e'⟩ := (k _ _ e t).sl; haveI q : isTab { o with slots := sl } = true := n _ e'; haveI q' : isTab o = true := q; rw [q'] at t; cases t
structure Fr (Γ : Cx) (env : Env) (ns : List String) (φ : Nat → Addr) (Mw Lo H : List Addr) (σ : St) (s : Shared) : Prop where
 ok : Γ.Ok s
 live : Live (Mw ++ Lo ++ H) s.heap
 eo : EnvOK env φ (Mw ++ Lo ++ H) σ s.heap
 wr : ∀ x ∈ ns, Wr env Mw s.heap x
 off : ∀ a ∈ Mw ++ Lo, Γ.hB.get? a = none
 own : ∀ k ys, (k, ys) ∈ σ.o → φ k ∈ Lo
 inj : ∀ k ys j zs, (k, ys) ∈ σ.o → (j, zs) ∈ σ.o → φ k = φ j → k = j
 dis : ∀ a ∈ Lo, a ∉ Mw ∧ a ∉ H
 oc : OwnC env Mw ns
 loc : env.locals ∈ Mw
 kind : env.scope.kind = .function
structure Gr (Mw Lo Lo' : List Addr) (h h' : Heap) : Prop where
 new : ∀ a ∈ Lo', a ∈ Lo ∨ Nw h a
 kp : KpH (Mw ++ Lo) h h'
 lv : LvK h h'
section
variable {Γ : Cx} {env : Env} {ns : List String} {φ : Nat → Addr} {Mw Lo Lo' Lo'' H : List Addr} {σ σ' : St} {s s' : Shared} {h h' h'' : Heap}
theorem Gr.refl (Mw Lo : List Addr) (h : Heap) : Gr Mw Lo Lo h h := ⟨fun _ m => .inl m, KpH.refl _ _, LvK.refl _⟩
theorem Gr.of (k : Kp h h') : Gr Mw Lo Lo h h' := ⟨fun _ m => .inl m, k.toH _, LvK.of k⟩
theorem Gr.trans (x : Gr Mw Lo Lo' h h') (y : Gr Mw Lo' Lo'' h' h'') : Gr Mw Lo Lo'' h h'' where
 new a m := by
  rcases y.new a m with m | n
  ·exact x.new a m
  exact .inr fun o e => by
   cases t : isTab o with
   | true => rfl
   | false =>
    obtain ⟨o', e', t'⟩ := x.lv.lv a ⟨o, e, t⟩
    rw [n o' e'] at t'; cases t'
 kp b o m e t := (x.kp b o m e t).trans fun o' e' t' => y.kp b o' (fun q => by
  rcases List.mem_append.mp q with q | q
  ·exact m (List.mem_append_left _ q)
  rcases x.new b q with q | q
  ·exact m (List.mem_append_right _ q)
  rw [q o e] at t; cases t) e' (t'.trans t)
 lv := x.lv.trans y.lv
theorem Fr.kp (F : Fr Γ env ns φ Mw Lo H σ s) (k : Kp s.heap s'.heap) (ok : Γ.Ok s') : Fr Γ env ns φ Mw Lo H σ s' :=
 ⟨ok, F.live.kp k, F.eo.kp k, fun x m => (F.wr x m).kp k, F.off, F.own, F.inj, F.dis, F.oc, F.loc, F.kind⟩
theorem Fr.tabs (F : Fr Γ env ns φ Mw Lo H σ s) : ∀ a o, s.heap.get? a = some o → isTab o = true → a ∉ Mw ++ Lo := fun a o e t m => F.live.noTab e t (List.mem_append_left _ m)
inductive AF where
 | nx
 | bk
 | ct
 | rt (v : PV)
noncomputable def FlR (H : List Addr) (h : Heap) : Flow → AF → Prop
 | .next, .nx => True
 | .brk, .bk => True
 | .cont, .ct => True
 | .ret V, .rt v => Den H h V v
 | _, _ => False
structure Ex (Γ : Cx) (τ n : Nat) (env : Env) (ns : List String) (σ : St) (t : Sem Flow) (K : AF → St → Prop) : Prop where
 run : ∀ (A : Around) (E : Value → Shared → Prop) (s : Shared) (φ : Nat → Addr) (Mw Lo H : List Addr), Room Γ A n → Fr Γ env ns φ Mw Lo H σ s → τ ≤ s.toks → ∀ Q : Flow → Shared → Prop,
  (∀ fl s' af σ' φ' Lo', K af σ' → Fr Γ env ns φ' Mw Lo' H σ' s' → Gr Mw Lo Lo' s.heap s'.heap → FlR (Mw ++ Lo' ++ H) s'.heap fl af → τ ≤ s'.toks → Q fl s') → wpAny (model Γ.prog Γ.w) A t Q E s
theorem Ex.mk' {τ n : Nat} {K : AF → St → Prop} {t : Sem Flow} (h : ∀ (A : Around) (E : Value → Shared → Prop) (s : Shared) (φ : Nat → Addr) (Mw Lo H : List Addr), Room Γ A n → Fr Γ env ns φ Mw Lo H σ s → τ ≤ s.toks → ∀ Q : Flow → Shared → Prop,
  (∀ fl s' af σ' φ' Lo', K af σ' → Fr Γ env ns φ' Mw Lo' H σ' s' → Gr Mw Lo Lo' s.heap s'.heap → FlR (Mw ++ Lo' ++ H) s'.heap fl af → Q fl s') → wpAny (model Γ.prog Γ.w) A t Q E s) : Ex Γ τ n env ns σ t K :=
 ⟨fun A E s φ Mw Lo H R F τ0 Q q => wpAny_mono (wpAny_toks_of τ0 (h A E s φ Mw Lo H R F τ0 (fun fl s' => τ ≤ s'.toks → Q fl s') fun fl s' af σ' φ' Lo' c F' g' fr tk => q fl s' af σ' φ' Lo' c F' g' fr tk)) (fun _ _ x => x.2 x.1) fun _ _ x => x.2⟩
variable {τ n : Nat} {K K' : AF → St → Prop} {t : Sem Flow} {sc : Scope}
theorem Ex.mono (h : Ex Γ τ n env ns σ t K) (k : ∀ a σ', K a σ' → K' a σ') : Ex Γ τ n env ns σ t K' := .mk' fun A E s φ Mw Lo H R F τ0 Q q => h.run A E s φ Mw Lo H R F τ0 Q fun fl s' af σ' φ' Lo' c F' g' fr _ => q fl s' af σ' φ' Lo' (k _ _ c) F' g' fr
theorem Ex.nil (h : K .nx σ) : Ex Γ τ n env ns σ (execs [] env) K := .mk' fun A E s φ Mw Lo H R F τ0 Q q => wpAny_pure (q .next s .nx σ φ Lo h F (Gr.refl _ _ _) trivial)
noncomputable def thenK (Γ : Cx) (τ n : Nat) (env : Env) (ns : List String) (rest : List Stmt) (K : AF → St → Prop) : AF → St → Prop
 | .nx, σ' => Ex Γ τ n env ns σ' (execs rest env) K
 | a, σ' => K a σ'
theorem Ex.cons {st : Stmt} {rest : List Stmt} (h : Ex Γ τ n env ns σ (exec st env) (thenK Γ τ n env ns rest K)) : Ex Γ τ n env ns σ (execs (st :: rest) env) K := .mk' fun A E s φ Mw Lo H R F τ0 Q q => by
 rw [execs_cons]
 refine wpAny_bind (h.run A E s φ Mw Lo H R F τ0 _ fun fl s1 af σ1 φ1 Lo1 c F1 g1 fr τ1 => ?_)
 cases af with
 | nx =>
  cases fl with
  | next => exact c.run A E s1 φ1 Mw Lo1 H R F1 τ1 Q fun fl s' af σ' φ' Lo' c F' g' fr' _ => q fl s' af σ' φ' Lo' c F' (g1.trans g') fr'
  | _ => exact fr.elim
 | bk => cases fl with
  | brk => exact wpAny_pure (q _ _ .bk _ _ _ c F1 g1 fr)
  | _ => exact fr.elim
 | ct => cases fl with
  | cont => exact wpAny_pure (q _ _ .ct _ _ _ c F1 g1 fr)
  | _ => exact fr.elim
 | rt v => cases fl with
  | ret V => exact wpAny_pure (q _ _ (.rt v) _ _ _ c F1 g1 fr)
  | _ => exact fr.elim
theorem Fr.ev {α : Type} {ta : Sem α} {P : Pred α} (F : Fr Γ env ns φ Mw Lo H σ s) {A : Around} (R : Room Γ A n) {E : Value → Shared → Prop} (h : EvP Γ n env σ ta P) {Q : α → Shared → Prop}
  (k : ∀ V s1, Kp s.heap s1.heap → Fr Γ env ns φ Mw Lo H σ s1 → P φ (Mw ++ Lo ++ H) s1.heap V → Q V s1) : wpAny (model Γ.prog Γ.w) A ta Q E s :=
 h.run A E s φ (Mw ++ Lo ++ H) R F.ok F.live F.eo Q fun V s1 k1 ok1 d => k V s1 k1 (F.kp k1 ok1) d
theorem Fr.evt {α : Type} {ta : Sem α} {P : Pred α} (F : Fr Γ env ns φ Mw Lo H σ s) {A : Around} (R : Room Γ A n) {E : Value → Shared → Prop} (τ0 : τ ≤ s.toks) (h : EvP Γ n env σ ta P) {Q : α → Shared → Prop}
  (k : ∀ V s1, Kp s.heap s1.heap → Fr Γ env ns φ Mw Lo H σ s1 → P φ (Mw ++ Lo ++ H) s1.heap V → τ ≤ s1.toks → Q V s1) : wpAny (model Γ.prog Γ.w) A ta Q E s :=
 wpAny_mono (wpAny_toks_of τ0 (F.ev R h (Q := fun V s1 => τ ≤ s1.toks → Q V s1) fun V s1 k1 F1 d tk => k V s1 k1 F1 d tk)) (fun _ _ x => x.2 x.1) fun _ _ x => x.2
inductive Keep (xs : List String) : List (String × RV) → List (String × RV) → Prop
 | nil {l} : Keep xs l []
 | take {x : String} {r : RV} {l l' : List (String × RV)} : x ∉ xs → Keep xs l l' → Keep xs ((x, r) :: l) ((x, r) :: l')
 | drop {p : String × RV} {l l' : List (String × RV)} : Keep xs l l' → Keep xs (p :: l) l'
theorem Keep.mem {xs : List String} {l l' : List (String × RV)} (k : Keep xs l l') : ∀ p ∈ l', p ∈ l ∧ p.1 ∉ xs := by
 induction k with
 | nil => exact fun _ m => nomatch m
 | take h _ ih =>
  intro p m
  rcases List.mem_cons.mp m with rfl | m
  ·exact ⟨.head _, h⟩
  exact (ih p m).imp (.tail _) id
 | drop _ ih => exact fun p m => (ih p m).imp (.tail _) id
inductive KeepO (k : Nat) : List (Nat × List PV) → List (Nat × List PV) → Prop
 | nil {l} : KeepO k l []
 | take {j : Nat} {xs : List PV} {l l' : List (Nat × List PV)} : (j == k) = false → KeepO k l l' → KeepO k ((j, xs) :: l) ((j, xs) :: l')
 | drop {p : Nat × List PV} {l l' : List (Nat × List PV)} : KeepO k l l' → KeepO k (p :: l) l'
theorem KeepO.mem {k : Nat} {l l' : List (Nat × List PV)} (q : KeepO k l l') : ∀ p ∈ l', p ∈ l ∧ p.1 ≠ k := by
 induction q with
 | nil => exact fun _ m => nomatch m
 | take h _ ih =>
  intro p m
  rcases List.mem_cons.mp m with rfl | m
  ·exact ⟨.head _, by simpa using h⟩
  exact (ih p m).imp (.tail _) id
 | drop _ ih => exact fun p m => (ih p m).imp (.tail _) id
theorem EnvOK.store {H : List Addr} (eo : EnvOK env φ H σ h) {xs : List String} {new rest : List (String × RV)} (kr : Keep xs σ.v rest) (f : FK Mw h h') (hM : ∀ a ∈ Mw, a ∈ H) (sm : Sm env xs h h') (ho : ∀ k ys, (k, ys) ∈ σ.o → φ k ∉ Mw)
  (hn : ∀ x r, (x, r) ∈ new → ∃ V, At env h' x V ∧ DenR φ H h' V r) (hc : ∀ x c, env.cells.lookup x = some c → ∃ v, h'.IsCell c v) : EnvOK env φ H ⟨new ++ rest, σ.o⟩ h' where
 vars x r m := by
  rcases List.mem_append.mp m with m | m
  ·exact hn x r m
  obtain ⟨m1, m2⟩ := kr.mem _ m
  obtain ⟨V, a, d⟩ := eo.vars x r m1
  refine ⟨V, sm x V m2 a, ?_⟩
  cases r with
  | pv v => exact Den.kpH (fun b o n e t => .of (f b o (fun q => n (hM _ q)) e)) (fun _ h => .inl h) d
  | ptr j => exact d
  | app j =>
   obtain ⟨b, e, hb, hg⟩ := d
   exact ⟨b, e, hb, f b _ (fun q => hb (hM _ q)) hg⟩
 own j ys m := by
  obtain ⟨hm, vs, ⟨i, hl⟩, hd⟩ := eo.own j ys m
  exact ⟨hm, vs, ⟨i, f _ _ (ho j ys m) hl⟩, hd.kpH (fun b o n e t => .of (f b o (fun q => n (hM _ q)) e)) fun _ h => .inl h⟩
 cells := hc
theorem DenR.fk {r : RV} {V : Value} {H : List Addr} (d : DenR φ H h V r) (f : FK Mw h h') (hM : ∀ a ∈ Mw, a ∈ H) : DenR φ H h' V r := by
 cases r with
 | pv v => exact Den.kpH (fun b o n e t => .of (f b o (fun q => n (hM _ q)) e)) (fun _ h => .inl h) d
 | ptr j => exact d
 | app j =>
  obtain ⟨b, e, hb, hg⟩ := d
  exact ⟨b, e, hb, f b _ (fun q => hb (hM _ q)) hg⟩
theorem Fr.stored (F : Fr Γ env ns φ Mw Lo H σ s) {xs : List String} {new rest : List (String × RV)} {h' : Heap} {t : Nat} (kr : Keep xs σ.v rest) (f : FK Mw s.heap h') (lk : LvK s.heap h') (sm : Sm env xs s.heap h') (wk : q78 env Mw s.heap h')
  (hn : ∀ x r, (x, r) ∈ new → ∃ V, At env h' x V ∧ DenR φ (Mw ++ Lo ++ H) h' V r) : Fr Γ env ns φ Mw Lo H ⟨new ++ rest, σ.o⟩ { s with heap := h', toks := t } := by
 haveI hM : ∀ a ∈ Mw, a ∈ Mw ++ Lo ++ H := fun a m => List.mem_append_left _ (List.mem_append_left _ m)
 haveI wr' : ∀ x ∈ ns, Wr env Mw h' x := fun x m => wk x (F.wr x m)
 refine ⟨F.ok.fk f (fun a m => F.off a (List.mem_append_left _ m)) (fun a o e t m => F.tabs a o e t (List.mem_append_left _ m)) fun a _ => lk.fr a, lk.live F.live, F.eo.store kr f hM sm (fun k ys m q => (F.dis _ (F.own k ys m)).1 q) hn fun y c e => ?_, wr', F.off, F.own, F.inj, F.dis, F.oc, F.loc, F.kind⟩
 by_cases m : c ∈ Mw
 ·exact F.oc.live wr' y c e m
 obtain ⟨v, hv⟩ := F.eo.cells y c e; exact ⟨v, q61 hv f m⟩
theorem Gr.fk (f : FK Mw h h') (lk : LvK h h') : Gr Mw Lo Lo h h' := ⟨fun _ m => .inl m, fun b o m e t => .of (f b o (fun q => m (List.mem_append_left _ q)) e), lk⟩
theorem Fr.storeName (F : Fr Γ env ns φ Mw Lo H σ s) {A : Around} {E : Value → Shared → Prop} {x : String} {V : Value} {r : RV} {rest : List (String × RV)} (hx : x ∈ ns) (kr : Keep [x] σ.v rest) (d : DenR φ (Mw ++ Lo ++ H) s.heap V r) {Q : Unit → Shared → Prop}
  (k : ∀ s', Fr Γ env ns φ Mw Lo H ⟨(x, r) :: rest, σ.o⟩ s' → Gr Mw Lo Lo s.heap s'.heap → Q () s') : wpAny (model Γ.prog Γ.w) A (storeName env (Str.ofString x) V) Q E s := by
 refine q64 F.kind (F.wr x hx) fun h' t f lk a sm wk => k { s with heap := h', toks := t } (F.stored (new := [(x, r)]) kr f lk sm wk fun y q m => ?_) (Gr.fk f lk)
 simp only [List.mem_singleton] at m
 cases m
 exact ⟨V, a, d.fk f fun a m => List.mem_append_left _ (List.mem_append_left _ m)⟩
theorem Ex.assign {x : String} {p pos : Pos} {e : Expr} {r : RV} {rest : List (String × RV)} (h : Ev Γ n env σ e r) (hx : x ∈ ns) (kr : Keep [x] σ.v rest) (k : K .nx ⟨(x, r) :: rest, σ.o⟩)
  (hs : swapsWith e (some (.Name (Str.ofString x) p)) pos.line env = pure false) : Ex Γ τ n env ns σ (exec (.Assign [.Name (Str.ofString x) p] e pos) env) K := .mk' fun A E s φ Mw Lo H R F τ0 Q q => by
 refine wpAny_Assign_Name (F.ev R h fun V s1 k1 F1 d => F1.storeName hx kr d fun s' F' g' => q .next s' .nx _ φ Lo k F' ((Gr.of k1).trans g') trivial) hs
theorem Ex.aug {x : String} {p pos : Pos} {op : Operator} {e : Expr} {a b : Int} {c : Int} {rest : List (String × RV)} (hm : (x, RV.pv (.int a)) ∈ σ.v) (h : Ev Γ n env σ e (.pv (.int b))) (hop : op = .Add ∧ c = a + b) (hx : x ∈ ns) (kr : Keep [x] σ.v rest) (k : K .nx ⟨(x, .pv (.int c)) :: rest, σ.o⟩) :
  Ex Γ τ n env ns σ (exec (.AugAssign (.Name (Str.ofString x) p) op e pos) env) K := .mk' fun A E s φ Mw Lo H R F τ0 Q q => by
 obtain ⟨rfl, rfl⟩ := hop
 obtain ⟨V, at0, d0⟩ := F.eo.vars _ _ hm
 refine wpAny_AugAssign_Name (q04 F.kind at0 (F.ev R h fun W s1 k1 F1 d => ?_))
 haveI d0' : Den (Mw ++ Lo ++ H) s.heap V (.int a) := d0
 haveI d' : Den (Mw ++ Lo ++ H) s1.heap W (.int b) := d
 cases d0' using Den.i; cases d' using Den.i
 refine wpAny_iadd_int ?_
 haveI F2 : Fr Γ env ns φ Mw Lo H σ { s1 with toks := s1.toks + 1 } := F1.kp (Kp.refl _) F1.ok.toks
 exact F2.storeName hx kr (r := .pv (.int (a + b))) (.int _ _) fun s' F' g' => q .next s' .nx _ φ Lo k F' ((Gr.of k1).trans g') trivial
theorem Ex.ite {c : Expr} {b : Bool} {body orelse : List Stmt} {pos : Pos} (h : Evb Γ n env σ c b) (ht : b = true → Ex Γ τ n env ns σ (execs body env) K) (hf : b = false → Ex Γ τ n env ns σ (execs orelse env) K) : Ex Γ τ n env ns σ (exec (.If c body orelse pos) env) K := .mk' fun A E s φ Mw Lo H R F τ0 Q q => by
 refine wpAny_If (F.evt R τ0 h fun b' s1 k1 F1 d τ1 => ?_)
 have d' : b' = b := d
 subst d'
 cases b' with
 | true => exact (ht rfl).run A E s1 φ Mw Lo H R F1 τ1 Q fun fl s' af σ' φ' Lo' c F' g' fr _ => q fl s' af σ' φ' Lo' c F' ((Gr.of k1).trans g') fr
 | false => exact (hf rfl).run A E s1 φ Mw Lo H R F1 τ1 Q fun fl s' af σ' φ' Lo' c F' g' fr _ => q fl s' af σ' φ' Lo' c F' ((Gr.of k1).trans g') fr
theorem Ex.ret {e : Expr} {v : PV} {pos : Pos} (h : Ev Γ n env σ e (.pv v)) (k : K (.rt v) σ) : Ex Γ τ n env ns σ (exec (.Return (some e) pos) env) K := .mk' fun A E s φ Mw Lo H R F τ0 Q q =>
 wpAny_Return_some (F.ev R h fun V s1 k1 F1 d => q (.ret V) s1 (.rt v) σ φ Lo k F1 (Gr.of k1) d)
theorem Ex.brk {pos : Pos} (k : K .bk σ) : Ex Γ τ n env ns σ (exec (.Break pos) env) K := .mk' fun A E s φ Mw Lo H R F τ0 Q q => by
 rw [arm_exec_Break]
 exact wpAny_bind (wpAny_standAt (wpAny_pure (q .brk s .bk σ φ Lo k F (Gr.refl _ _ _) trivial)))
theorem Ex.assert {c : Expr} {m : Option Expr} {pos : Pos} (h : Evb Γ n env σ c true) (k : K .nx σ) : Ex Γ τ n env ns σ (exec (.Assert c m pos) env) K := .mk' fun A E s φ Mw Lo H R F τ0 Q q =>
 wpAny_Assert_holds (F.ev R h fun b s1 k1 F1 d => ⟨d, q .next s1 .nx σ φ Lo k F1 (Gr.of k1) trivial⟩)
theorem Ex.while {c : Expr} {body : List Stmt} {pos : Pos} (I : Nat → St → Prop)
  (turn : ∀ m σ1, I m σ1 → ∃ b, Evb Γ n env σ1 c b ∧ (b = false → K .nx σ1) ∧ (b = true → Ex Γ τ n env ns σ1 (execs body env) fun af σ2 => match af with
   | .nx => ∃ m', m' < m ∧ I m' σ2
   | .ct => ∃ m', m' < m ∧ I m' σ2
   | .bk => K .nx σ2
   | .rt v => K (.rt v) σ2))
  (m : Nat) (h0 : I m σ) : Ex Γ τ n env ns σ (exec (.While c body [] pos) env) K := .mk' fun A E s φ Mw Lo H R F τ0 Q q => by
 refine wpAny_While (codeAny_whileLoop (fun m s' => ∃ σ1 φ1 Lo1, I m σ1 ∧ Fr Γ env ns φ1 Mw Lo1 H σ1 s' ∧ Gr Mw Lo Lo1 s.heap s'.heap ∧ τ ≤ s'.toks) (fun m s' hI => ?_) m ⟨σ, φ, Lo, h0, F, Gr.refl _ _ _, τ0⟩)
 obtain ⟨σ1, φ1, Lo1, i1, F1, g1, τ1⟩ := hI
 obtain ⟨b, hb, hf, ht⟩ := turn m σ1 i1
 refine F1.evt R τ1 hb fun b' s2 k2 F2 d τ2 => ?_
 have d' : b' = b := d
 subst d'
 cases b' with
 | false =>
  dsimp only [Bool.false_eq_true, if_false]
  exact wpAny_pure (q .next s2 .nx σ1 φ1 Lo1 (hf rfl) F2 (g1.trans (Gr.of k2)) trivial)
 | true =>
  dsimp only [if_true]
  refine (ht rfl).run A _ s2 φ1 Mw Lo1 H R F2 τ2 _ fun fl s3 af σ3 φ3 Lo3 c3 F3 g3 fr τ3 => ?_
  have g := (g1.trans (Gr.of k2)).trans g3
  cases af with
  | nx => cases fl with
   | next => obtain ⟨m', hm, i3⟩ := c3; exact ⟨m', hm, σ3, φ3, Lo3, i3, F3, g, τ3⟩
   | _ => exact fr.elim
  | ct => cases fl with
   | cont => obtain ⟨m', hm, i3⟩ := c3; exact ⟨m', hm, σ3, φ3, Lo3, i3, F3, g, τ3⟩
   | _ => exact fr.elim
  | bk => cases fl with
   | brk => exact q .next s3 .nx σ3 φ3 Lo3 c3 F3 g trivial
   | _ => exact fr.elim
  | rt v => cases fl with
   | ret V => exact q (.ret V) s3 (.rt v) σ3 φ3 Lo3 c3 F3 g fr
   | _ => exact fr.elim
end
theorem qk7 {α β : Type} {M : Model} {A : Around} {E : Value → Shared → Prop} {s : Shared} {t : Sem α} {f : α → Sem β} {Q : β → Shared → Prop} {n : Nat} (hn : n ≤ s.toks) (h : wpAny M A t (fun x s₁ => wpAny M A (f x) (fun y s₂ => n ≤ s₂.toks → Q y s₂) E s₁) E s) :
  wpAny M A t (fun x s₁ => wpAny M A (f x) Q E s₁) E s :=
 wpAny_mono (wpAny_toks_of hn h) (fun _ _ x => wpAny_mono (wpAny_toks_of x.1 x.2) (fun _ _ y => y.2 y.1) fun _ _ y => y.2) fun _ _ x => x.2
theorem DenR.kpH {φ : Nat → Addr} {H H' : List Addr} {h h' : Heap} {V : Value} {r : RV} (k : KpH H h h') (sub : ∀ a, a ∈ H' → a ∈ H ∨ h.get? a = none) (d : DenR φ H h V r) : DenR φ H' h' V r := by
 cases r with
 | pv v => exact Den.kpH k sub d
 | ptr j => exact d
 | app j =>
  obtain ⟨b, e, hb, hg⟩ := d
  refine ⟨b, e, fun m => ?_, k b _ hb hg rfl⟩
  rcases sub b m with m | m
  ·exact hb m
  rw [m] at hg; exact absurd hg.symm (Option.some_ne_none _)
section
variable {Γ : Cx} {env : Env} {ns : List String} {φ : Nat → Addr} {Mw Lo Lo' Lo'' H : List Addr} {σ σ' : St} {s s' : Shared} {h h' h'' : Heap}
variable {τ n : Nat} {K K' : AF → St → Prop} {t : Sem Flow} {sc : Scope}
noncomputable def Turn (Γ : Cx) (τ n : Nat) (env : Env) (ns : List String) (body : List Stmt) (xs : List String) (its : List (List PV)) (I : Nat → St → Prop) (K : AF → St → Prop) : Prop :=
 ∀ i x σ1, its[i]? = some x → I i σ1 → ∃ rest, Keep xs σ1.v rest ∧ Ex Γ τ n env ns ⟨(xs.zip x).map (fun p => (p.1, RV.pv p.2)) ++ rest, σ1.o⟩ (execs body env) fun af σ2 => match af with
  | .nx => I (i + 1) σ2
  | .ct => I (i + 1) σ2
  | .bk => K .nx σ2
  | .rt v => K (.rt v) σ2
structure FInv (Γ : Cx) (env : Env) (ns : List String) (Mw Lo0 H wr fp : List Addr) (h0 : Heap) (st : Heap → Prop) (σ1 : St) (s' : Shared) (φ1 : Nat → Addr) (Lo1 : List Addr) : Prop where
 fr : Fr Γ env ns φ1 Mw Lo1 (wr ++ H) σ1 s'
 st : st s'.heap
 fpx : ∀ b ∈ fp, b ∉ Mw ++ Lo1 ∧ ∃ o, s'.heap.get? b = some o ∧ isLo o = false
 new : ∀ a ∈ Lo1, a ∈ Lo0 ∨ Nw h0 a
 kp : KpH (Mw ++ Lo0 ++ wr) h0 s'.heap
 lv : LvK h0 s'.heap
theorem Ex.for {iter tgt : Expr} {body : List Stmt} {pos : Pos} {its : List (List PV)} {xs : List String} (I : Nat → St → Prop) (hI : EvI Γ n env σ iter tgt its) (T : Tgt tgt xs) (hn : xs.Nodup) (hxn : ∀ x ∈ xs, x ∈ ns) (hi : ∀ x ∈ its, x.length = xs.length)
  (h0 : I 0 σ) (turn : Turn Γ τ n env ns body xs its I K) (done : ∀ σ1, I its.length σ1 → K .nx σ1) (hs : ∀ x, foldedSetIterable iter env x = pure x := by intro _; rfl) :
  Ex Γ τ n env ns σ (exec (.For tgt iter body [] pos) env) K := .mk' fun A E s φ Mw Lo H R F τ0 Q q => by
 rw [arm_exec_For]
 refine wpAny_bind (wpAny_standAt (wpAny_bind (wpAny_mono (qk7 (Q := fun V s' => wpAny (model Γ.prog Γ.w) A (runOwn (.forLoop tgt V body [] env) env) Q E s') τ0 (hI.run A _ s φ (Mw ++ Lo ++ H) R F.ok F.live F.eo _ ?_)) (fun x s1 h1 => wpAny_bind (wpAny_of_eq (hs x) (wpAny_bind (wpAny_standAt (wpAny_bind (wpAny_holding (wpAny_mono h1 (fun it s2 h2 => ?_) fun _ _ h' => h'))))))) fun _ _ h' => h')))
 rotate_left
 ·exact h2
 intro It s1 fp wr S hpre kp0 kp1 ok1 hwB hnp W st fpH τ1
 have k01 := kp0.trans kp1
 haveI lvp := F.live.kp kp0
 have wn : ∀ a, (∃ o, hpre.get? a = some o ∧ isTab o = false) → a ∉ wr := fun a ⟨o, ho, _⟩ hm => by rw [W.fresh a hm] at ho; nomatch ho
 have hidw : ∀ a ∈ Mw ++ Lo ++ H, a ∉ wr := fun a ha => wn a (lvp a ha)
 haveI eop := F.eo.kp kp0
 have cellw : ∀ x c, env.cells.lookup x = some c → c ∉ wr := fun x c e => wn c (q52 (eop.cells x c e).choose_spec)
 have subH : ∀ a, a ∈ Mw ++ Lo ++ (wr ++ H) → a ∈ Mw ++ Lo ++ H ∨ hpre.get? a = none := fun a ha => by
  rcases List.mem_append.mp ha with h | h
  ·exact .inl (List.mem_append_left _ h)
  rcases List.mem_append.mp h with h | h
  ·exact .inr (W.fresh a h)
  exact .inl (List.mem_append_right _ h)
 haveI lv1 : Live (Mw ++ Lo ++ (wr ++ H)) s1.heap := fun a ha => by
  rcases List.mem_append.mp ha with h | h
  ·exact F.live.kp k01 a (List.mem_append_left _ h)
  rcases List.mem_append.mp h with h | h
  ·obtain ⟨o, ho, ht⟩ := W.live _ _ st a h; exact ⟨o, ho, lot ht⟩
  exact F.live.kp k01 a (List.mem_append_right _ h)
 haveI F1 : Fr Γ env ns φ Mw Lo (wr ++ H) σ s1 := by
  refine ⟨ok1, lv1, ⟨fun x r m => ?_, fun k ys m => ?_, (F.eo.kp k01).cells⟩, fun x m => (F.wr x m).kp k01, F.off, F.own, F.inj, fun a m => ⟨(F.dis a m).1, fun q => ?_⟩, F.oc, F.loc, F.kind⟩
  ·obtain ⟨V, a, d⟩ := eop.vars x r m
   exact ⟨V, a.kp kp1, d.kpH (kp1.toH _) subH⟩
  ·obtain ⟨hm, vs, hl, hd⟩ := eop.own k ys m
   exact ⟨List.mem_append_left _ (List.mem_append_right _ (F.own k ys m)), vs, hl.kp kp1, hd.kpH (kp1.toH _) subH⟩
  rcases List.mem_append.mp q with q | q
  ·exact hidw a (List.mem_append_left _ (List.mem_append_right _ m)) q
  exact (F.dis a m).2 q
 haveI J0 : FInv Γ env ns Mw Lo H wr fp s1.heap (S 0) σ s1 φ Lo := ⟨F1, st, fun b hb => ⟨fun m => (fpH b hb).1 (List.mem_append_left _ m), (fpH b hb).2⟩, fun _ m => .inl m, KpH.refl _ _, LvK.refl _⟩
 have back : ∀ σ1 s' φ1 Lo1 h1 t1 i, FInv Γ env ns Mw Lo H wr fp s1.heap (S i) σ1 s' φ1 Lo1 → FK wr s'.heap h1 → Fr Γ env ns φ1 Mw Lo1 H σ1 { s' with heap := h1, toks := t1 } ∧ Gr Mw Lo Lo1 s.heap h1 ∧ (∀ V v, Den (Mw ++ Lo1 ++ (wr ++ H)) s'.heap V v → Den (Mw ++ Lo1 ++ H) h1 V v) := by
  intro σ1 s' φ1 Lo1 h1 t1 i J f1
  haveI tabsw : ∀ a o, s'.heap.get? a = some o → isTab o = true → a ∉ wr := fun a o e t hm => by
   obtain ⟨o', h4, h5⟩ := W.live _ _ J.st _ hm
   rw [e] at h4; cases h4; rw [lot h5] at t; cases t
  have kf : KpH (Mw ++ Lo1 ++ (wr ++ H)) s'.heap h1 := fun b o m e t => .of (f1 b o (fun q => m (List.mem_append_right _ (List.mem_append_left _ q))) e)
  have sub2 : ∀ a, a ∈ Mw ++ Lo1 ++ H → a ∈ Mw ++ Lo1 ++ (wr ++ H) ∨ s'.heap.get? a = none := fun a ha => .inl (by
   rcases List.mem_append.mp ha with h | h
   ·exact List.mem_append_left _ h
   exact List.mem_append_right _ (List.mem_append_right _ h))
  have low : ∀ a ∈ Lo1, a ∉ wr := fun a m q => (J.fr.dis a m).2 (List.mem_append_left _ q)
  have mww : ∀ a ∈ Mw, a ∉ wr := fun a m => hidw a (List.mem_append_left _ (List.mem_append_left _ m))
  have hHw : ∀ a ∈ H, a ∉ wr := fun a m => hidw a (List.mem_append_right _ m)
  refine ⟨⟨J.fr.ok.fk f1 hwB tabsw fun a _ => f1.frw (W.live _ _ J.st) a, fun a ha => ?_, ⟨fun x r m => ?_, fun k ys m => ?_, fun x c e => ?_⟩, fun x m => (J.fr.wr x m).fk f1 mww, J.fr.off, J.fr.own, J.fr.inj, fun a m => ⟨(J.fr.dis a m).1, fun q => (J.fr.dis a m).2 (List.mem_append_right _ q)⟩, J.fr.oc, J.fr.loc, J.fr.kind⟩, ⟨fun a m => ?_, fun b o m e t => ?_, ⟨fun a x => ?_, fun a x => ?_⟩⟩, fun V v d => d.kpH kf sub2⟩
  ·obtain ⟨o, ho, ht⟩ := J.fr.live a ((sub2 a ha).elim id fun e => by
    rcases List.mem_append.mp ha with h | h
    ·exact List.mem_append_left _ h
    exact List.mem_append_right _ (List.mem_append_right _ h))
   refine ⟨o, f1 _ _ ?_ ho, ht⟩
   rcases List.mem_append.mp ha with h | h
   ·rcases List.mem_append.mp h with h | h
    ·exact mww a h
    exact low a h
   exact hHw a h
  ·obtain ⟨V, a, d⟩ := J.fr.eo.vars x r m
   exact ⟨V, a.fk f1 (mww _ F.loc) cellw, d.kpH kf sub2⟩
  ·obtain ⟨hm, vs, ⟨j, hl⟩, hd⟩ := J.fr.eo.own k ys m
   exact ⟨List.mem_append_left _ (List.mem_append_right _ (J.fr.own k ys m)), vs, ⟨j, f1 _ _ (low _ (J.fr.own k ys m)) hl⟩, hd.kpH kf sub2⟩
  ·obtain ⟨v, hv⟩ := J.fr.eo.cells x c e; exact ⟨v, q61 hv f1 (cellw x c e)⟩
  ·rcases J.new a m with m | m
   ·exact .inl m
   exact .inr (m.kp k01)
  ·have hw := wn b (let ⟨_, e0⟩ := (kp0 _ _ e t).sl; ⟨_, e0, t⟩)
   exact (k01 _ _ e t).trans fun o' e' t' => (J.kp b o' (fun q => (List.mem_append.mp q).elim m hw) e' (t'.trans t)).trans fun o2 e2 _ => .of (f1 _ _ hw e2)
  ·obtain ⟨o, e, t⟩ := x
   have hw := wn a (let ⟨_, e0⟩ := (kp0 _ _ e t).sl; ⟨_, e0, t⟩)
   obtain ⟨o', e', t'⟩ := J.lv.lv a ((LvK.of k01).lv a ⟨o, e, t⟩)
   exact ⟨o', f1 _ _ hw e', t'⟩
  obtain ⟨o, e, t⟩ := x
  have hw := wn a (let ⟨_, e0⟩ := (kp0 _ _ e (q16 t)).sl; ⟨_, e0, q16 t⟩)
  obtain ⟨o', e', t'⟩ := J.lv.fr a ((LvK.of k01).fr a ⟨o, e, t⟩)
  exact ⟨o', f1 _ _ hw e', t'⟩
 refine wpAny_runOwn (codeAny_forLoop_any (fun m s' => ∃ i σ1 φ1 Lo1, i ≤ its.length ∧ m = its.length + 1 - i ∧ I i σ1 ∧ FInv Γ env ns Mw Lo H wr fp s1.heap (S i) σ1 s' φ1 Lo1 ∧ τ ≤ s'.toks) (fun m s' hIv => ?_) (its.length + 1) ⟨0, σ, φ, Lo, Nat.zero_le _, rfl, h0, J0, τ1⟩)
 obtain ⟨i, σ1, φ1, Lo1, hile, rfl, hIi, J, τJ⟩ := hIv
 cases hx : its[i]? with
 | none =>
  haveI : i = its.length := Nat.le_antisymm hile (by simpa using hx)
  subst this
  refine W.done s' _ _ J.st fun h1 t1 f1 => wpAny_pure ?_
  obtain ⟨Fb, Gb, _⟩ := back σ1 s' φ1 Lo1 h1 t1 _ J f1
  exact q .next _ .nx σ1 φ1 Lo1 (done σ1 hIi) Fb Gb trivial
 | some x =>
  haveI hlt : i < its.length := (List.getElem?_eq_some_iff.mp hx).1
  obtain ⟨rest, kr, body1⟩ := turn i x σ1 hx hIi
  haveI kpre : KpH (Mw ++ Lo ++ H) hpre s'.heap := fun b o m e t => (kp1 _ _ e t).trans fun o' e' t' => J.kp b o' (fun q => by
   rcases List.mem_append.mp q with q | q
   ·exact m (List.mem_append_left _ q)
   rw [W.fresh b q] at e; nomatch e) e' (t'.trans t)
  haveI subI : ∀ a, a ∈ Mw ++ Lo1 ++ (wr ++ H) → a ∈ Mw ++ Lo ++ H ∨ Nw hpre a := fun a ha => by
   rcases List.mem_append.mp ha with h | h
   ·rcases List.mem_append.mp h with h | h
    ·exact .inl (List.mem_append_left _ (List.mem_append_left _ h))
    rcases J.new a h with h | h
    ·exact .inl (List.mem_append_left _ (List.mem_append_right _ h))
    exact .inr (h.kp kp1)
   rcases List.mem_append.mp h with h | h
   ·exact .inr (Nw.none (W.fresh a h))
   exact .inl (List.mem_append_right _ h)
  refine wpAny_with_toks τJ ?_
  refine W.item i s' _ x _ (Mw ++ Lo1 ++ (wr ++ H)) hx J.st subI kpre fun v h1 t1 f1 cont τ2 => cont _ _ fun h2 f2 st2 u2 => ?_
  have f12 : FK wr s'.heap h2 := f1.trans f2
  have tabsw : ∀ a o, s'.heap.get? a = some o → isTab o = true → a ∉ wr := fun a o e t hm => by
   obtain ⟨o', h4, h5⟩ := W.live _ _ J.st _ hm
   rw [e] at h4; cases h4; rw [lot h5] at t; cases t
  have low : ∀ a ∈ Lo1, a ∉ wr := fun a m q => (J.fr.dis a m).2 (List.mem_append_left _ q)
  have mww : ∀ a ∈ Mw, a ∉ wr := fun a m => hidw a (List.mem_append_left _ (List.mem_append_left _ m))
  haveI hHw : ∀ a ∈ H, a ∉ wr := fun a m => hidw a (List.mem_append_right _ m)
  have kf : KpH (Mw ++ Lo1 ++ (wr ++ H)) s'.heap h2 := fun b o m e t => .of (f12 b o (fun q => m (List.mem_append_right _ (List.mem_append_left _ q))) e)
  have lv2 : Live (Mw ++ Lo1 ++ (wr ++ H)) h2 := fun a ha => by
   by_cases hw : a ∈ wr
   ·obtain ⟨o, ho, ht⟩ := W.live _ _ st2 a hw; exact ⟨o, ho, lot ht⟩
   obtain ⟨o, ho, ht⟩ := J.fr.live a ha; exact ⟨o, f12 _ _ hw ho, ht⟩
  have F2 : Fr Γ env ns φ1 Mw Lo1 (wr ++ H) σ1 { s' with heap := h2, toks := t1 } := by
   refine ⟨J.fr.ok.fk f12 hwB tabsw fun a _ => f12.frw (W.live _ _ J.st) a, lv2, ⟨fun x r m => ?_, fun k ys m => ?_, fun x c e => ?_⟩, fun x m => (J.fr.wr x m).fk f12 mww, J.fr.off, J.fr.own, J.fr.inj, J.fr.dis, J.fr.oc, J.fr.loc, J.fr.kind⟩
   ·obtain ⟨V, a, d⟩ := J.fr.eo.vars x r m
    exact ⟨V, a.fk f12 (mww _ F.loc) cellw, d.kpH kf fun _ h => .inl h⟩
   ·obtain ⟨hm, vs, ⟨j, hl⟩, hd⟩ := J.fr.eo.own k ys m
    exact ⟨hm, vs, ⟨j, f12 _ _ (low _ (J.fr.own k ys m)) hl⟩, hd.kpH kf fun _ h => .inl h⟩
   obtain ⟨v, hv⟩ := J.fr.eo.cells x c e; exact ⟨v, q61 hv f12 (cellw x c e)⟩
  refine wpAny_with_toks (s := { s' with heap := h2, toks := t1 }) τ2 ?_
  refine qd0 (s := { s' with heap := h2, toks := t1 }) (M := Mw) F.kind R.handled T hn (fun y hy => F2.wr y (hxn y hy)) (hi x (List.mem_of_getElem? hx)) u2 (fun m => lv2.size (List.mem_append_left _ (List.mem_append_left _ m))) fun h3 t3 Vs f3 lk3 a3 d3 sm3 wk3 τ3 => ?_
  haveI k23 : KpH (Mw ++ Lo1 ++ (wr ++ H)) h2 h3 := fun b o m e t => .of (f3 b o (fun q => m (List.mem_append_left _ (List.mem_append_left _ q))) e)
  haveI F3 : Fr Γ env ns φ1 Mw Lo1 (wr ++ H) ⟨(xs.zip x).map (fun p => (p.1, RV.pv p.2)) ++ rest, σ1.o⟩ { s' with heap := h3, toks := t3 } := by
   refine Fr.stored (s := { s' with heap := h2, toks := t1 }) (xs := xs) (t := t3) F2 kr f3 lk3 sm3 wk3 fun y r m => ?_
   exact qp8 a3 (d3.kpH k23 fun _ h => .inl h) y r m
  have st3 : S (i + 1) h3 := W.frame _ _ _ st2 fun b hb o e => f3 b o (fun q => (J.fpx b hb).1 (List.mem_append_left _ q)) e
  have nt3 : ∀ b ∈ fp, ∃ o, h3.get? b = some o ∧ isLo o = false := fun b hb => by
   by_cases hw : b ∈ wr
   ·exact W.live _ _ st3 b hw
   obtain ⟨m, o, ho, ht⟩ := J.fpx b hb
   exact ⟨o, f3 _ _ (fun q => m (List.mem_append_left _ q)) (f12 _ _ hw ho), ht⟩
  have lk03 : LvK s1.heap h3 := J.lv.trans ((LvK.fkw f12 (W.live _ _ J.st) (W.live _ _ st2)).trans lk3)
  haveI k03 : KpH (Mw ++ Lo ++ wr) s1.heap h3 := fun b o m e t => (J.kp b o m e t).trans fun o' e' _ => .of (f3 _ _ (fun q => m (List.mem_append_left _ (List.mem_append_left _ q))) (f12 _ _ (fun q => m (List.mem_append_right _ q)) e'))
  refine body1.run A _ _ φ1 Mw Lo1 (wr ++ H) R F3 τ3 _ fun fl s5 af σ5 φ5 Lo5 c5 F5 g5 fr5 τ5 => ?_
  have J5 : FInv Γ env ns Mw Lo H wr fp s1.heap (S (i + 1)) σ5 s5 φ5 Lo5 := by
   haveI nl : ∀ b ∈ fp, b ∉ Mw ++ Lo5 := fun b hb q => by
    rcases List.mem_append.mp q with q | q
    ·exact (J.fpx b hb).1 (List.mem_append_left _ q)
    rcases g5.new b q with q | q
    ·exact (J.fpx b hb).1 (List.mem_append_right _ q)
    obtain ⟨o, ho, ht⟩ := nt3 b hb
    have := q o ho; rw [lot ht] at this; cases this
   refine ⟨F5, W.frame _ _ _ st3 fun b hb o e => ?_, fun b hb => ⟨nl b hb, let ⟨o, e, t⟩ := nt3 b hb; ⟨o, (g5.kp b o (J.fpx b hb).1 e (lot t)).lo t, t⟩⟩, fun a m => ?_, fun b o m e t => ?_, lk03.trans g5.lv⟩
   ·obtain ⟨o', e', t'⟩ := nt3 b hb
    haveI : o' = o := Option.some.inj (e'.symm.trans e)
    subst this
    exact (g5.kp b _ (J.fpx b hb).1 e (lot t')).lo t'
   ·rcases g5.new a m with m | m
    ·exact J.new a m
    exact .inr fun o e => by
     cases t : isTab o with
     | true => rfl
     | false =>
      obtain ⟨o', e', t'⟩ := lk03.lv a ⟨o, e, t⟩
      rw [m o' e'] at t'; cases t'
   refine (k03 b o m e t).trans fun o' e' t' => g5.kp b o' (fun q => ?_) e' (t'.trans t)
   rcases List.mem_append.mp q with q | q
   ·exact m (List.mem_append_left _ (List.mem_append_left _ q))
   rcases J.new b q with q | q
   ·exact m (List.mem_append_left _ (List.mem_append_right _ q))
   rw [q o e] at t; cases t
  haveI leave := fun h1 t1 (f1 : FK wr s5.heap h1) => back σ5 s5 φ5 Lo5 h1 t1 _ J5 f1
  cases af with
  | nx => cases fl with
   | next => exact ⟨its.length + 1 - (i + 1), by omega, i + 1, σ5, φ5, Lo5, hlt, rfl, c5, J5, τ5⟩
   | _ => exact fr5.elim
  | ct => cases fl with
   | cont => exact ⟨its.length + 1 - (i + 1), by omega, i + 1, σ5, φ5, Lo5, hlt, rfl, c5, J5, τ5⟩
   | _ => exact fr5.elim
  | bk => cases fl with
   | brk =>
    obtain ⟨Fb, Gb, _⟩ := leave s5.heap s5.toks (FK.refl _ _)
    exact q .next s5 .nx σ5 φ5 Lo5 c5 Fb Gb trivial
   | _ => exact fr5.elim
  | rt v => cases fl with
   | ret V =>
    obtain ⟨Fb, Gb, dv⟩ := leave s5.heap s5.toks (FK.refl _ _)
    exact q (.ret V) s5 (.rt v) σ5 φ5 Lo5 c5 Fb Gb (dv V v fr5)
   | _ => exact fr5.elim
end
theorem z39 : isSubtype (.type "list") (.type "list") = pure true := by rw [isSubtype_type]; kernel_rfl
noncomputable def mwObj (a : Addr) : Obj := { cls := .type "method-wrapper", data := .fields #[.builtin "list.__contains__", .ref a] }
theorem md_slot : Slot "method_descriptor" "__get__" "method_descriptor.__get__" :=
 .of (owner := "method_descriptor") (n := "__get__") (by rw [typeLookup_type, builtinLookup_eq_fast]; kernel_rfl) (by decide +kernel) (by decide +kernel) (by decide +kernel)
  (by first | exact .inl (by decide +kernel) | exact .inr (by decide +kernel)) (by rw [isSubtype_type]; kernel_rfl)
theorem z89 : typeLookup (.type "method_descriptor") "__set__" = pure none := am_miss_of_fast (by decide +kernel)
theorem z90 : typeLookup (.type "method_descriptor") "__delete__" = pure none := am_miss_of_fast (by decide +kernel)
theorem z14 : entryFor table "method_descriptor.__get__" = some Builtin.«method_descriptor.__get__» := entryFor_of_tree (by kernel_rfl)
theorem z56 (a b c : Value) : argsOk "method_descriptor.__get__" ⟨[a, b, c], []⟩ := by unfold argsOk; kernel_rfl
theorem wd_slot : Slot "wrapper_descriptor" "__get__" "wrapper_descriptor.__get__" :=
 .of (owner := "wrapper_descriptor") (n := "__get__") (by rw [typeLookup_type, builtinLookup_eq_fast]; kernel_rfl) (by decide +kernel) (by decide +kernel) (by decide +kernel)
  (by first | exact .inl (by decide +kernel) | exact .inr (by decide +kernel)) (by rw [isSubtype_type]; kernel_rfl)
theorem z82 : typeLookup (.type "wrapper_descriptor") "__set__" = pure none := am_miss_of_fast (by decide +kernel)
theorem z83 : typeLookup (.type "wrapper_descriptor") "__delete__" = pure none := am_miss_of_fast (by decide +kernel)
theorem z02 : entryFor table "wrapper_descriptor.__get__" = some Builtin.«wrapper_descriptor.__get__» := entryFor_of_tree (by kernel_rfl)
theorem z45 (a b c : Value) : argsOk "wrapper_descriptor.__get__" ⟨[a, b, c], []⟩ := by unfold argsOk; kernel_rfl
theorem lc_slot : Slot "list" "__contains__" "list.__contains__" :=
 .of (owner := "list") (n := "__contains__") (by rw [typeLookup_type, builtinLookup_eq_fast]; kernel_rfl) (by decide +kernel) (by decide +kernel) (by decide +kernel)
  (by first | exact .inl (by decide +kernel) | exact .inr (by decide +kernel)) (by rw [isSubtype_type]; kernel_rfl)
theorem qw5 : typeOf (.builtin "list.__contains__") = pure (.type "wrapper_descriptor") := by show builtinType _ = _; rw [builtinType_eq_fast]; kernel_rfl
theorem ql5 (a : Addr) (xs : Array Value) (k : Nat) :
  Meets (Builtin.«method_descriptor.__get__» ⟨[.builtin "list.append", .ref a, .type "list"], []⟩) (fun A R s => s.heap.get? a = some { cls := .type "list", dict := none, data := .seq xs k, slots := #[] } ∧ R (.ok (.ret (.ref s.heap.objs.size))) { s with heap := s.heap.push (qe8 a)}) :=
 Meets.of_wp fun prog w A R s hs => by
  obtain ⟨hp, g, d, tk, os⟩ := s
  obtain ⟨hx, hs⟩ := hs
  have hT : (⟨hp, g, d, tk, os⟩ : Shared).TypeIs (.ref a) "list" := ⟨_, hx, rfl⟩
  have hsub := z39
  unfold Builtin.«method_descriptor.__get__»
  repeat (any_goals (first | assumption | wp_step))
  rw [show (".".intercalate ("list.append".cutAt '.').dropLast) = "list" by decide +kernel]
  repeat (any_goals (first | assumption | wp_step))
  exact ⟨_, rfl, hs⟩
theorem ql4 (a : Addr) (xs : Array Value) (k : Nat) :
  Meets (Builtin.«wrapper_descriptor.__get__» ⟨[.builtin "list.__contains__", .ref a, .type "list"], []⟩) (fun A R s => s.heap.get? a = some { cls := .type "list", dict := none, data := .seq xs k, slots := #[] } ∧ R (.ok (.ret (.ref s.heap.objs.size))) { s with heap := s.heap.push (mwObj a)}) :=
 Meets.of_wp fun prog w A R s hs => by
  obtain ⟨hp, g, d, tk, os⟩ := s
  obtain ⟨hx, hs⟩ := hs
  have hT : (⟨hp, g, d, tk, os⟩ : Shared).TypeIs (.ref a) "list" := ⟨_, hx, rfl⟩
  have hsub := z39
  unfold Builtin.«wrapper_descriptor.__get__»
  repeat (any_goals (first | assumption | wp_step))
  rw [show (".".intercalate ("list.__contains__".cutAt '.').dropLast) = "list" by decide +kernel]
  repeat (any_goals (first | assumption | wp_step))
  exact ⟨_, rfl, hs⟩
theorem qc0 (a : Addr) (xs : Array Value) (k : Nat) (u : Tok) :
  Meets (Builtin.«object.__getattribute__» ⟨[.ref a, .str "append" u], []⟩) (fun A R s => s.heap.get? a = some { cls := .type "list", dict := none, data := .seq xs k, slots := #[] } ∧ R (.ok (.ret (.ref s.heap.objs.size))) { s with heap := s.heap.push (qe8 a)}) :=
 Meets.of_wp fun prog w A R s hs => by
  obtain ⟨hp, g, d, tk, os⟩ := s
  obtain ⟨hx, hs⟩ := hs
  have hT : (⟨hp, g, d, tk, os⟩ : Shared).TypeIs (.ref a) "list" := ⟨_, hx, rfl⟩
  have f1 := slot_list_append.lookup
  have f2 := type_list_append
  have f3 := md_slot.lookup
  have f4 := z89
  have f5 := z90
  unfold Builtin.«object.__getattribute__»
  repeat (any_goals (first | assumption | ((with_reducible show wpAny _ _ (call (Value.builtin "method_descriptor.__get__") _ _) _ _ _); refine call_meets md_slot type_list_append z14 (z56 _ _ _) (ql5 a xs k) ⟨hx, ?_⟩) | wp_step))
  exact wpAny_pure ⟨_, rfl, hs⟩
theorem q83 (a : Addr) (xs : Array Value) (k : Nat) (u : Tok) :
  Meets (Builtin.«object.__getattribute__» ⟨[.ref a, .str "__contains__" u], []⟩) (fun A R s => s.heap.get? a = some { cls := .type "list", dict := none, data := .seq xs k, slots := #[] } ∧ R (.ok (.ret (.ref s.heap.objs.size))) { s with heap := s.heap.push (mwObj a)}) :=
 Meets.of_wp fun prog w A R s hs => by
  obtain ⟨hp, g, d, tk, os⟩ := s
  obtain ⟨hx, hs⟩ := hs
  have hT : (⟨hp, g, d, tk, os⟩ : Shared).TypeIs (.ref a) "list" := ⟨_, hx, rfl⟩
  have f1 := lc_slot.lookup
  have f2 := qw5
  have f3 := wd_slot.lookup
  have f4 := z82
  have f5 := z83
  unfold Builtin.«object.__getattribute__»
  repeat (any_goals (first | assumption | ((with_reducible show wpAny _ _ (call (Value.builtin "wrapper_descriptor.__get__") _ _) _ _ _); refine call_meets wd_slot qw5 z02 (z45 _ _ _) (ql4 a xs k) ⟨hx, ?_⟩) | wp_step))
  exact wpAny_pure ⟨_, rfl, hs⟩
theorem qd5 {prog : Program} {w : World} {A : Around} {E : Value → Shared → Prop} {s : Shared} {a : Addr} {xs : Array Value} {k : Nat} {Q : Value → Shared → Prop}
  (hx : s.heap.get? a = some { cls := .type "list", dict := none, data := .seq xs k, slots := #[] }) (h : ∀ t, Q (.ref s.heap.objs.size) { s with heap := s.heap.push (qe8 a), toks := t }) :
  wpAny (model prog w) A (getAttr (.ref a) "append" true) Q E s := by
 obtain ⟨hp, g, d, tk, os⟩ := s
 have hT : ∀ tk', (⟨hp, g, d, tk', os⟩ : Shared).TypeIs (.ref a) "list" := fun _ => ⟨_, hx, rfl⟩
 have f3 := F.slot_list_getattribute.lookup
 have f4 := F.slot_list_getattribute.bind (.ref a)
 have f5 := am_list_getattr_none
 unfold getAttr getAttrBy
 repeat (any_goals (first | assumption | exact hT _ | ((with_reducible show wpAny _ _ (call (Value.builtin "list.__getattribute__") _ _) _ _ _); refine call_meets F.slot_list_getattribute (hT _) am_entry_list_getattribute (F.args_list_getattribute_2 _ _) (qc0 a xs k _) ⟨hx, ?_⟩) | wp_step))
 exact wpAny_pure (h _)
theorem qc2 : isSubtype (.type "list") (.type "module") = pure false := by rw [isSubtype_type]; kernel_rfl
theorem q86 {M : Model} {A : Around} {E : Value → Shared → Prop} {s : Shared} {a : Addr} {xs : Array Value} {k : Nat} {x : Value} {Q : Unit → Shared → Prop}
  (hx : s.heap.get? a = some { cls := .type "list", dict := none, data := .seq xs k, slots := #[] }) (h : Q () s) : wpAny M A (checkBoundCall "list.append" ⟨[.ref a, x], []⟩) Q E s := by
 have hT : s.TypeIs (.ref a) "list" := ⟨_, hx, rfl⟩
 have hn := qc2
 unfold checkBoundCall
 repeat (any_goals (first | assumption | wp_step))
theorem z33 {prog : Program} {w : World} {A : Around} {E : Value → Shared → Prop} {s : Shared} {b a : Addr} {vs : Array Value} {x : Value} {Q : Value → Shared → Prop} (hb : s.heap.get? b = some (qe8 a)) (hl : LstAt s.heap a vs) (hz : vs.size ≤ 2 ^ 24)
  (h : ∀ h', Heap.SameBut a s.heap h' → LstAt h' a (vs.push x) → Q .none { s with heap := h' }) : wpAny (model prog w) A (call (.ref b) [x]) Q E s := by
 obtain ⟨k, hk⟩ := hl
 refine wpAny_call (codeAny_of_tree ?_)
 show wpAny _ A.in1 (callAny (.ref b) ⟨[x], []⟩) _ _ s
 unfold callAny
 refine wpAny_bind (wpAny_load hb ?_)
 show wpAny _ A.in1 (do checkBoundCall "list.append" ⟨[.ref a, x], []⟩; pure (← again (.builtin "list.append" ⟨[.ref a, x], []⟩))) _ _ s
 refine wpAny_bind (q86 hk ?_)
 refine wpAny_bind (wpAny_pure (wpAny_pure ⟨plainId_quiet F.slot_list_append.plain _, codeAny_builtin F.entry_list_append ?_⟩))
 dsimp only [Around.under_plainId F.slot_list_append.plain _]
 have := PySem.list_append a vs k x (by simp only [sizeLine]; exact hz) prog w A (wants Q E) s ⟨hk, h _ (Heap.SameBut.update ..) ⟨_, PySem.IsL.update hk _⟩⟩
 exact this
theorem qk0 {M : Model} {A : Around} {E : Value → Shared → Prop} {s : Shared} {env : Env} {pos : Pos} {b : Addr} {φa : Addr} {e : Expr} {Q : Value → Shared → Prop}
  (h : wpAny M A (eval e env) (fun v s₁ => s₁.heap.get? b = some (qe8 φa) ∧ wpAny M A (call (.ref b) [v]) Q E s₁) E s)
  (he : starEach [e] env = [(false, eval e env)]) (hp : backTo pos [(false, eval e env)] = [(false, eval e env)]) :
  wpAny M A (callWith pos (.ref b) [] (backTo pos (starEach [e] env)) []) Q E s := by
 rw [he, hp]
 unfold callWith
 refine wpAny_bind (wpAny_holding (Calls.evalArgs_plain (Calls.spliced_cons (wpAny_mono h (fun v s₁ h₁ => Calls.spliced_nil ?_) fun _ _ x => x))))
 refine wpAny_bind (wpAny_standAt ?_)
 obtain ⟨hb, hc⟩ := h₁
 dsimp only [List.any_cons, List.any_nil, Bool.or_false]
 refine wpAny_bind ?_
 refine wpAny_bind (wpAny_load hb ?_)
 show wpAny _ _ (pure Keeper.machine) _ _ s₁
 refine wpAny_pure ?_
 refine wpAny_bind ?_
 refine wpAny_mono hc (fun r s₂ hr => wpAny_bind (wpAny_holding (wpAny_point (wpAny_pure hr)))) fun _ _ x => x
structure EvF (Γ : Cx) (n : Nat) (env : Env) (σ : St) (t : Sem Value) (xs : List PV) : Prop where
 run : ∀ (A : Around) (E : Value → Shared → Prop) (s : Shared) (φ : Nat → Addr) (H : List Addr), Room Γ A n → Γ.Ok s → Live H s.heap → EnvOK env φ H σ s.heap → ∀ Q : Value → Shared → Prop,
  (∀ a vs s', Kp s.heap s'.heap → Γ.Ok s' → Nw s.heap a → Γ.hB.get? a = none → LstAt s'.heap a vs → Dens (a :: H) s'.heap vs.toList xs → Q (.ref a) s') → wpAny (model Γ.prog Γ.w) A t Q E s
section
variable {Γ : Cx} {τ n : Nat} {env : Env} {σ : St} {sc : Scope} {ns : List String} {K : AF → St → Prop} {φ : Nat → Addr} {Mw Lo H : List Addr} {s : Shared}
theorem EvF.list {es : List Expr} {pos : Pos} {xs : List PV} (h : EvS Γ n env σ pos es (pvs xs)) (hz : xs.length ≤ 2 ^ 24) : EvF Γ n env σ (eval (.List es pos) env) xs :=
 .mk fun A E s φ H R ok lv eo Q k => wpAny_List (h.run A E s φ H R ok lv eo _ fun Vs s1 k1 ok1 d => by
  have dd := PArgs.dens d
  have := dd.length
  refine ⟨by simp only [sizeLine]; omega, k s1.heap.objs.size _ { s1 with heap := _ } (k1.trans (Kp.push _ _)) (ok1.push0 _) ((Nw.size _).kp k1) (ok1.new (q00 _)) (LstAt.new _ _) ?_⟩
  refine dd.kpH ((Kp.push _ _).toH _) fun a m => ?_
  rcases List.mem_cons.mp m with rfl | m
  ·exact .inr (q00 _)
  exact .inl m)
noncomputable def RV.key : RV → Option Nat
 | .pv _ => none
 | .ptr k => some k
 | .app k => some k
theorem DenR.phi {H : List Addr} {h : Heap} {φ' : Nat → Addr} {r : RV} {V : Value} (e : ∀ k, r.key = some k → φ' k = φ k) (d : DenR φ H h V r) : DenR φ' H h V r := by
 cases r with
 | pv v => exact d
 | ptr k => exact d.trans (by rw [e k rfl])
 | app k => obtain ⟨b, e1, e2, e3⟩ := d; exact ⟨b, e1, e2, by rw [e k rfl]; exact e3⟩
theorem Ex.assignOwn (k : Nat) {x : String} {p pos : Pos} {e : Expr} {xs : List PV} {rest : List (String × RV)} (h : EvF Γ n env σ (eval e env) xs) (hx : x ∈ ns) (kr : Keep [x] σ.v rest) (hk : rest.all (fun p => p.2.key != some k) = true) (hko : σ.o.all (fun p => p.1 != k) = true)
  (c : K .nx ⟨(x, .ptr k) :: rest, (k, xs) :: σ.o⟩) (hs : swapsWith e (some (.Name (Str.ofString x) p)) pos.line env = pure false) : Ex Γ τ n env ns σ (exec (.Assign [.Name (Str.ofString x) p] e pos) env) K := .mk' fun A E s φ Mw Lo H R F τ0 Q q => by
 refine wpAny_Assign_Name (h.run A E s φ (Mw ++ Lo ++ H) R F.ok F.live F.eo _ fun a vs s1 k1 ok1 nw hB hl hd => ?_) hs
 have F1 := F.kp k1 ok1
 have na : a ∉ Mw ++ Lo ++ H := nw.notLive F.live
 have hrest := kr.mem
 simp only [List.all_eq_true] at hk hko
 refine q64 F1.kind (F1.wr x hx) fun h' t f lk at1 sm wk => ?_
 have aw : a ∉ Mw := fun m => na (List.mem_append_left _ (List.mem_append_left _ m))
 have al : a ∉ Lo := fun m => na (List.mem_append_left _ (List.mem_append_right _ m))
 have ah : a ∉ H := fun m => na (List.mem_append_right _ m)
 have hl' : LstAt h' a vs := by obtain ⟨j, hj⟩ := hl; exact ⟨j, f _ _ aw hj⟩
 have F2 : Fr Γ env ns φ Mw Lo H ⟨[] ++ rest, σ.o⟩ { s1 with heap := h', toks := t } := F1.stored (new := []) kr f lk sm wk fun _ _ m => by cases m
 have sub : ∀ b, b ∈ Mw ++ (a :: Lo) ++ H → b ∈ a :: (Mw ++ Lo ++ H) := fun b m => by
  simp only [List.mem_append, List.mem_cons] at m ⊢
  rcases m with (m | m | m) | m <;> simp [m]
 have hdm : KpH (a :: (Mw ++ Lo ++ H)) s1.heap h' := fun b o m e t => .of (f b o (fun q => m (List.mem_cons_of_mem _ (List.mem_append_left _ (List.mem_append_left _ q)))) e)
 have hd' : Dens (Mw ++ (a :: Lo) ++ H) h' vs.toList xs := hd.kpH hdm fun b m => .inl (sub b m)
 have old : ∀ {V r}, DenR φ (Mw ++ Lo ++ H) s.heap V r → DenR φ (Mw ++ (a :: Lo) ++ H) h' V r := by
  intro V r d
  have ks : KpH (Mw ++ Lo ++ H) s.heap h' := fun b o m e t => (k1 b o e t).trans fun o' e' _ => .of (f b o' (fun q => m (List.mem_append_left _ (List.mem_append_left _ q))) e')
  cases r with
  | pv v => exact Den.kpN ks (fun b m => by
    rcases List.mem_cons.mp (sub b m) with rfl | m
    ·exact .inr nw
    exact .inl m) d
  | ptr j => exact d
  | app j =>
   obtain ⟨b, e1, e2, e3⟩ := d
   refine ⟨b, e1, fun m => ?_, ks b _ e2 e3 rfl⟩
   rcases List.mem_cons.mp (sub b m) with rfl | m
   ·have := nw _ e3; cases this
   exact e2 m
 have oldD : ∀ {Vs ys}, Dens (Mw ++ Lo ++ H) s.heap Vs ys → Dens (Mw ++ (a :: Lo) ++ H) h' Vs ys := by
  intro Vs ys d
  exact Dens.kpN (fun b o m e t => (k1 b o e t).trans fun o' e' _ => .of (f b o' (fun q => m (List.mem_append_left _ (List.mem_append_left _ q))) e')) (fun b m => by
    rcases List.mem_cons.mp (sub b m) with rfl | m
    ·exact .inr nw
    exact .inl m) d
 let φ' : Nat → Addr := fun j => if j = k then a else φ j
 have φo : ∀ j, j ≠ k → φ' j = φ j := fun j e => if_neg e
 have φk : φ' k = a := if_pos rfl
 refine q .next { s1 with heap := h', toks := t } .nx _ φ' (a :: Lo) c ⟨F2.ok, fun b m => ?_, ⟨fun y r m => ?_, fun j ys m => ?_, F2.eo.cells⟩, F2.wr, fun b m => ?_, fun j ys m => ?_, fun j ys i zs m1 m2 e => ?_, fun b m => ?_, F2.oc, F2.loc, F2.kind⟩ ⟨fun b m => ?_, fun b o m e t => ?_, (LvK.of k1).trans lk⟩ trivial
 ·rcases List.mem_cons.mp (sub b m) with rfl | m
  ·exact hl'.some
  exact F2.live b m
 ·rcases List.mem_cons.mp m with e | m
  ·cases e; exact ⟨_, at1, by show _ = Value.ref (φ' k); rw [φk]⟩
  obtain ⟨m1, m2⟩ := hrest _ m
  obtain ⟨V, av, d⟩ := F.eo.vars y r m1
  refine ⟨V, sm y V m2 (av.kp k1), (old d).phi fun j ej => φo j fun ejk => ?_⟩
  have := hk _ m
  rw [show (y, r).2.key = r.key from rfl, ej, ejk] at this
  simp at this
 ·rcases List.mem_cons.mp m with e | m
  ·cases e
   rw [φk]
   exact ⟨List.mem_append_left _ (List.mem_append_right _ (.head _)), vs, hl', hd'⟩
  have jk : j ≠ k := by have := hko _ m; simpa using this
  obtain ⟨hm, ws, hw, hwd⟩ := F.eo.own j ys m
  rw [φo j jk]
  refine ⟨List.mem_append_left _ (List.mem_append_right _ (List.mem_cons_of_mem _ (F.own j ys m))), ws, ?_, oldD hwd⟩
  obtain ⟨i, hi⟩ := hw
  exact ⟨i, f _ _ (F.dis _ (F.own j ys m)).1 (k1 _ _ hi rfl)⟩
 ·simp only [List.mem_append, List.mem_cons] at m
  rcases m with m | m | m
  ·exact F.off b (List.mem_append_left _ m)
  ·exact m ▸ hB
  exact F.off b (List.mem_append_right _ m)
 ·rcases List.mem_cons.mp m with e | m
  ·cases e; rw [φk]; exact .head _
  have jk : j ≠ k := by have := hko _ m; simpa using this
  rw [φo j jk]; exact .tail _ (F.own j ys m)
 ·rcases List.mem_cons.mp m1 with e1 | m1
  ·cases e1
   rcases List.mem_cons.mp m2 with e2 | m2
   ·cases e2; rfl
   have ik : i ≠ k := by have := hko _ m2; simpa using this
   rw [φk, φo i ik] at e
   exact absurd (e ▸ F.own i zs m2) al
  have jk : j ≠ k := by have := hko _ m1; simpa using this
  rcases List.mem_cons.mp m2 with e2 | m2
  ·cases e2
   rw [φk, φo j jk] at e
   exact absurd (e ▸ F.own j ys m1) al
  have ik : i ≠ k := by have := hko _ m2; simpa using this
  rw [φo j jk, φo i ik] at e
  exact F.inj j ys i zs m1 m2 e
 ·rcases List.mem_cons.mp m with rfl | m
  ·exact ⟨aw, ah⟩
  exact F.dis b m
 ·rcases List.mem_cons.mp m with rfl | m
  ·exact .inr nw
  exact .inl m
 exact (k1 b o e t).trans fun o' e' _ => .of (f b o' (fun q => m (List.mem_append_left _ q)) e')
theorem Fr.setOwn (F : Fr Γ env ns φ Mw Lo H σ s) {k : Nat} {xs ys : List PV} {orest : List (Nat × List PV)} {h' : Heap} {vs : Array Value} {t : Nat} (ho : (k, xs) ∈ σ.o) (ko : KeepO k σ.o orest) (hs : Heap.SameBut (φ k) s.heap h') (hl : LstAt h' (φ k) vs) (hd : Dens (Mw ++ Lo ++ H) s.heap vs.toList ys) :
  Fr Γ env ns φ Mw Lo H ⟨σ.v, (k, ys) :: orest⟩ { s with heap := h', toks := t } ∧ Gr Mw Lo Lo s.heap h' := by
 have hk := F.own k xs ho
 have hkm : φ k ∈ Mw ++ Lo ++ H := List.mem_append_left _ (List.mem_append_right _ hk)
 have kk : KpH (Mw ++ Lo ++ H) s.heap h' := fun b o m e t => .of ((hs.2 b fun q => m (q ▸ hkm)).trans e)
 have lk : LvK s.heap h' := let ⟨_, _, l0, _⟩ := F.eo.own k xs ho; .lst hs l0 hl
 have fk : FK [φ k] s.heap h' := FK.same hs (.head _)
 have nd : ∀ {a : Addr}, a ∈ Mw → a ≠ φ k := fun m q => (F.dis _ hk).1 (q ▸ m)
 refine ⟨⟨F.ok.fk fk (fun a m => by simp only [List.mem_singleton] at m; subst m; exact F.off _ (List.mem_append_right _ hk)) (fun a o e t m => by simp only [List.mem_singleton] at m; exact F.tabs a o e t (m ▸ List.mem_append_right _ hk)) fun a _ => lk.fr a, lk.live F.live, ⟨fun x r m => ?_, fun j zs m => ?_, fun x c e => ?_⟩, fun x m => ?_, F.off, fun j zs m => ?_, fun j zs i ws m1 m2 e => ?_, F.dis, F.oc, F.loc, F.kind⟩, ⟨fun _ m => .inl m, fun b o m e t => .of ((hs.2 b fun q => m (q ▸ List.mem_append_right _ hk)).trans e), lk⟩⟩
 ·obtain ⟨V, a, d⟩ := F.eo.vars x r m
  refine ⟨V, ?_, d.kpH kk fun _ h => .inl h⟩
  rcases a with ⟨e1, m, hn, hm⟩ | ⟨e1, c, hc, hv⟩
  ·exact .inl ⟨e1, m, hn.sameBut hs (nd F.loc), hm⟩
  refine .inr ⟨e1, c, hc, hv.sameBut hs fun q => ?_⟩
  obtain ⟨_, vs0, ⟨i, hi⟩, _⟩ := F.eo.own k xs ho
  obtain ⟨o, ho', hdd⟩ := hv
  rw [q, hi] at ho'; cases ho'; cases hdd
 ·rcases List.mem_cons.mp m with e | m
  ·cases e; exact ⟨hkm, vs, hl, hd.kpH kk fun _ h => .inl h⟩
  obtain ⟨m1, m2⟩ := ko.mem _ m
  obtain ⟨hm, ws, ⟨i, hi⟩, hw⟩ := F.eo.own j zs m1
  refine ⟨hm, ws, ⟨i, (hs.2 _ fun q => m2 (F.inj j zs k xs m1 ho q)).trans hi⟩, hw.kpH kk fun _ h => .inl h⟩
 ·obtain ⟨v, o, ho', hdd⟩ := F.eo.cells x c e
  refine ⟨v, o, (hs.2 c fun q => ?_).trans ho', hdd⟩
  obtain ⟨_, vs0, ⟨i, hi⟩, _⟩ := F.eo.own k xs ho
  rw [q, hi] at ho'; cases ho'; cases hdd
 ·exact (F.wr x m).fk fk fun a m q => nd m (by simpa using q)
 ·rcases List.mem_cons.mp m with e | m
  ·cases e; exact hk
  exact F.own j zs (ko.mem _ m).1
 have g : ∀ {j zs}, (j, zs) ∈ (k, ys) :: orest → ∃ zs', (j, zs') ∈ σ.o := fun {j zs} m => by
  rcases List.mem_cons.mp m with e | m
  ·cases e; exact ⟨_, ho⟩
  exact ⟨_, (ko.mem _ m).1⟩
 obtain ⟨_, m1⟩ := g m1; obtain ⟨_, m2⟩ := g m2
 exact F.inj _ _ _ _ m1 m2 e
end
section
variable {Γ : Cx} {τ n : Nat} {env : Env} {σ : St} {sc : Scope} {ns : List String} {K : AF → St → Prop} {φ : Nat → Addr} {Mw Lo H : List Addr} {s : Shared}
theorem Ev.appAttr {x : String} {p pos : Pos} {k : Nat} {xs : List PV} (G : EnvG env) (hm : (x, RV.ptr k) ∈ σ.v) (ho : (k, xs) ∈ σ.o) (hd : (Str.ofString x == ("__debug__" : Str)) = false := by decide)
  (he : eval (.Attribute (.Name (Str.ofString x) p) (Str.ofString "append") pos) env = (do
   let o ← eval (.Name (Str.ofString x) p) env
   standAt pos.atName
   let r ← holding [o] (getAttr o (Str.ofString "append") true)
   letTemporaryGo (.Name (Str.ofString x) p) o r
   pure r) := by with_unfolding_all rfl) : Ev Γ n env σ (.Attribute (.Name (Str.ofString x) p) (Str.ofString "append") pos) (.app k) :=
 .mk fun A E s φ H R ok lv eo Q q => by
  refine PyProof.Rows.Attribute_Name_ ?_ he
  obtain ⟨V, a, d⟩ := eo.vars _ _ hm
  obtain ⟨hk, vs, ⟨i, hl⟩, _⟩ := eo.own _ _ ho
  refine wpAny_Name (q04 G.kind a ?_) hd
  haveI d' : V = .ref (φ k) := d
  subst d'
  exact qd5 hl fun t => q _ _ (Kp.push _ _) (ok.push _) ⟨s.heap.objs.size, rfl, lv.size, Heap.get?_push_size _ rfl⟩
theorem Ex.append {x : String} {p apos pos pos' : Pos} {e : Expr} {k : Nat} {xs : List PV} {v : PV} {orest : List (Nat × List PV)} (G : EnvG env) (hm : (x, RV.ptr k) ∈ σ.v) (ho : (k, xs) ∈ σ.o) (ko : KeepO k σ.o orest) (h : Ev Γ n env σ e (.pv v)) (hz : xs.length ≤ 2 ^ 24)
  (c : K .nx ⟨σ.v, (k, xs ++ [v]) :: orest⟩)
  (hline : (apos.endLine == pos.line) = true) (hstar : ∀ env, starEach [e] env = [(false, eval e env)] := by intro _; rfl)
  (hs : swapsWith (.Call (.Attribute (.Name (Str.ofString x) p) (Str.ofString "append") apos) [e] [] pos) none pos'.line env = pure false := by rfl) (hd : (Str.ofString x == ("__debug__" : Str)) = false := by decide) :
  Ex Γ τ n env ns σ (exec (.Expr (.Call (.Attribute (.Name (Str.ofString x) p) (Str.ofString "append") apos) [e] [] pos) pos') env) K := .mk' fun A E s φ Mw Lo H R F τ0 Q q => by
 have hi : interactive env = false := by unfold interactive; rw [G.kind]; rfl
 refine wpAny_Expr_any ?_ hi hs
 obtain ⟨V, a, d⟩ := F.eo.vars _ _ hm
 have d' : V = .ref (φ k) := d
 subst d'
 obtain ⟨hk, vs, ⟨i, hl⟩, hd0⟩ := F.eo.own _ _ ho
 refine wpAny_Call_append rfl (by rw [hstar]; rfl) hline (by rw [hstar]; rfl) (wpAny_Name (q04 G.kind a ⟨φ k, vs, rfl, ⟨_, _, hl, rfl, rfl, rfl⟩, ?_⟩) hd)
 refine F.ev R h fun V s1 k1 F1 dv => ?_
 obtain ⟨_, vs1, hl1, hd1⟩ := F1.eo.own _ _ ho
 have hlen := hd1.length
 simp only [Array.length_toList] at hlen
 refine qk6 hl1 (by lia) fun h' hs' hl' => ?_
 obtain ⟨F2, G2⟩ := F1.setOwn (t := s1.toks) ho ko hs' hl' (ys := xs ++ [v]) (by rw [Array.toList_push]; exact hd1.append (.cons dv .nil))
 exact q .next { s1 with heap := h' } .nx _ φ Lo c F2 ((Gr.of k1).trans G2) trivial
theorem Ex.add {x : String} {p pos pos' : Pos} {e : Expr} {k : Nat} {xs : List PV} {v : PV} {orest : List (Nat × List PV)} (G : EnvG env) (hm : (x, RV.app k) ∈ σ.v) (ho : (k, xs) ∈ σ.o) (ko : KeepO k σ.o orest) (h : Ev Γ n env σ e (.pv v)) (hz : xs.length ≤ 2 ^ 24)
  (c : K .nx ⟨σ.v, (k, xs ++ [v]) :: orest⟩) (hstar : ∀ env, starEach [e] env = [(false, eval e env)] := by intro _; rfl)
  (hs : swapsWith (.Call (.Name (Str.ofString x) p) [e] [] pos) none pos'.line env = pure false := by rfl) (hd : (Str.ofString x == ("__debug__" : Str)) = false := by decide) :
  Ex Γ τ n env ns σ (exec (.Expr (.Call (.Name (Str.ofString x) p) [e] [] pos) pos') env) K := .mk' fun A E s φ Mw Lo H R F τ0 Q q => by
 have hi : interactive env = false := by unfold interactive; rw [G.kind]; rfl
 refine wpAny_Expr_any ?_ hi hs
 obtain ⟨V, a, b, rfl, hb, hg⟩ := F.eo.vars _ _ hm
 refine wpAny_Call_Name_kw (wpAny_Name (q04 G.kind a ?_) hd)
 refine qk0 (φa := φ k) ?_ (hstar env) rfl
 refine F.ev R h fun V s1 k1 F1 dv => ⟨k1 _ _ hg rfl, ?_⟩
 obtain ⟨_, vs1, hl1, hd1⟩ := F1.eo.own _ _ ho
 have hlen := hd1.length
 simp only [Array.length_toList] at hlen
 refine z33 (k1 _ _ hg rfl) hl1 (by lia) fun h' hs' hl' => ?_
 obtain ⟨F2, G2⟩ := F1.setOwn (t := s1.toks) ho ko hs' hl' (ys := xs ++ [v]) (by rw [Array.toList_push]; exact hd1.append (.cons dv .nil))
 exact q .next { s1 with heap := h' } .nx _ φ Lo c F2 ((Gr.of k1).trans G2) trivial
theorem Ex.extend {x : String} {p apos pos pos' : Pos} {e : Expr} {k : Nat} {xs ys : List PV} {orest : List (Nat × List PV)} (G : EnvG env) (hm : (x, RV.ptr k) ∈ σ.v) (ho : (k, xs) ∈ σ.o) (ko : KeepO k σ.o orest) (h : Ev Γ n env σ e (.pv (.list ys))) (hz : xs.length + ys.length ≤ 2 ^ 24)
  (c : K .nx ⟨σ.v, (k, xs ++ ys) :: orest⟩)
  (hline : (apos.endLine == pos.line) = true) (hstar : ∀ env, starEach [e] env = [(false, eval e env)] := by intro _; rfl)
  (hs : swapsWith (.Call (.Attribute (.Name (Str.ofString x) p) (Str.ofString "extend") apos) [e] [] pos) none pos'.line env = pure false := by rfl) (hd : (Str.ofString x == ("__debug__" : Str)) = false := by decide) :
  Ex Γ τ n env ns σ (exec (.Expr (.Call (.Attribute (.Name (Str.ofString x) p) (Str.ofString "extend") apos) [e] [] pos) pos') env) K := .mk' fun A E s φ Mw Lo H R F τ0 Q q => by
 have hi : interactive env = false := by unfold interactive; rw [G.kind]; rfl
 refine wpAny_Expr_any ?_ hi hs
 obtain ⟨V, a, d⟩ := F.eo.vars _ _ hm
 have d' : V = .ref (φ k) := d
 subst d'
 obtain ⟨hk, vs, ⟨i, hl⟩, hd0⟩ := F.eo.own _ _ ho
 refine wpAny_Call_method_lateS rfl (by rw [hstar]; rfl) hline (wpAny_Name (q04 G.kind a ⟨"list", "list.extend", PySem.F.plainAttrs_list, PySem.F.slot_list_extend, PySem.F.type_list_extend, ⟨_, hl, rfl⟩, fun a e => by cases e; exact ⟨_, hl, rfl⟩, ?_⟩) hd)
 rw [hstar]
 refine Calls.callWith_builtin rfl (Calls.evalArgs_plain (Calls.spliced_cons (F.ev R h fun V s1 k1 F1 dv => Calls.spliced_nil ?_)))
 obtain ⟨_, vs1, ⟨j, hl1⟩, hd1⟩ := F1.eo.own _ _ ho
 have hlen := hd1.length
 simp only [Array.length_toList] at hlen
 cases dv using Den.l with
 | @list b ws hb hlb hdb =>
  obtain ⟨j2, hlb⟩ := hlb
  have hlen2 := hdb.length
  simp only [Array.length_toList] at hlen2
  refine call_meets PySem.F.slot_list_extend ⟨_, hl1, rfl⟩ PySem.F.entry_list_extend (PySem.F.args_list_extend_2 _ _) (AutoSeq1.list_extend_list_list_0 _ vs1 j b ws j2 (by intro hh; simp [Builtin.List.listTooLong, sizeLine] at hh; lia) (by simp only [sizeLine]; lia) (by simp only [sizeLine]; lia)) ⟨hl1, hlb, ?_⟩
  obtain ⟨F2, G2⟩ := F1.setOwn (t := s1.toks) ho ko (Heap.SameBut.update _ _ _) ⟨_, PySem.IsL.update hl1 (fun x => x ++ ws)⟩ (ys := xs ++ ys) (by rw [Array.toList_append]; exact hd1.append hdb)
  exact q .next _ .nx _ φ Lo c F2 ((Gr.of k1).trans G2) trivial
inductive Frz (k : Nat) (xs : List PV) : List (String × RV) → List (String × RV) → Prop
 | nil {l} : Frz k xs l []
 | sub {x : String} {l l' : List (String × RV)} : Frz k xs l l' → Frz k xs ((x, .ptr k) :: l) ((x, .pv (.list xs)) :: l')
 | take {x : String} {r : RV} {l l' : List (String × RV)} : (r.key != some k) = true → Frz k xs l l' → Frz k xs ((x, r) :: l) ((x, r) :: l')
 | drop {p : String × RV} {l l' : List (String × RV)} : Frz k xs l l' → Frz k xs (p :: l) l'
theorem Frz.mem {k : Nat} {xs : List PV} {l l' : List (String × RV)} (q : Frz k xs l l') : ∀ x r, (x, r) ∈ l' → ((x, r) ∈ l ∧ r.key ≠ some k) ∨ (r = .pv (.list xs) ∧ (x, RV.ptr k) ∈ l) := by
 induction q with
 | nil => exact fun _ _ m => nomatch m
 | sub _ ih =>
  intro x r m
  rcases List.mem_cons.mp m with e | m
  ·cases e; exact .inr ⟨rfl, .head _⟩
  exact (ih x r m).imp (And.imp_left (.tail _)) (And.imp_right (.tail _))
 | take h _ ih =>
  intro x r m
  rcases List.mem_cons.mp m with e | m
  ·cases e; exact .inl ⟨.head _, by simpa using h⟩
  exact (ih x r m).imp (And.imp_left (.tail _)) (And.imp_right (.tail _))
 | drop _ ih => exact fun x r m => (ih x r m).imp (And.imp_left (.tail _)) (And.imp_right (.tail _))
theorem Fr.freeze (F : Fr Γ env ns φ Mw Lo H σ s) {k : Nat} {xs : List PV} {v' : List (String × RV)} {orest : List (Nat × List PV)} (ho : (k, xs) ∈ σ.o) (kf : Frz k xs σ.v v') (ko : KeepO k σ.o orest) :
  Fr Γ env ns φ Mw (Lo.filter fun a => a != φ k) H ⟨v', orest⟩ s ∧ Gr Mw Lo (Lo.filter fun a => a != φ k) s.heap s.heap := by
 have sl : ∀ a ∈ Lo.filter (fun a => a != φ k), a ∈ Lo ∧ a ≠ φ k := fun a m => by
  obtain ⟨m1, m2⟩ := List.mem_filter.mp m; exact ⟨m1, by simpa using m2⟩
 have sub : ∀ a, a ∈ Mw ++ Lo.filter (fun a => a != φ k) ++ H → a ∈ Mw ++ Lo ++ H := fun a m => by
  rcases List.mem_append.mp m with m | m
  ·rcases List.mem_append.mp m with m | m
   ·exact List.mem_append_left _ (List.mem_append_left _ m)
   exact List.mem_append_left _ (List.mem_append_right _ (sl a m).1)
  exact List.mem_append_right _ m
 have hk := F.own k xs ho
 have nk : φ k ∉ Mw ++ Lo.filter (fun a => a != φ k) ++ H := fun m => by
  rcases List.mem_append.mp m with m | m
  ·rcases List.mem_append.mp m with m | m
   ·exact (F.dis _ hk).1 m
   exact (sl _ m).2 rfl
  exact (F.dis _ hk).2 m
 refine ⟨⟨F.ok, fun a m => F.live a (sub a m), ⟨fun x r m => ?_, fun j ys m => ?_, F.eo.cells⟩, F.wr, fun a m => ?_, fun j ys m => ?_, fun j ys i zs m1 m2 e => F.inj j ys i zs (ko.mem _ m1).1 (ko.mem _ m2).1 e, fun a m => F.dis a (sl a m).1, F.oc, F.loc, F.kind⟩, ⟨fun a m => .inl (sl a m).1, KpH.refl _ _, LvK.refl _⟩⟩
 ·rcases kf.mem x r m with ⟨m2, _⟩ | ⟨rfl, m2⟩
  ·obtain ⟨V, a, d⟩ := F.eo.vars x r m2
   exact ⟨V, a, d.kpH (KpH.refl _ _) fun b h => .inl (sub b h)⟩
  obtain ⟨V, a, d⟩ := F.eo.vars x _ m2
  haveI d' : V = .ref (φ k) := d
  subst d'
  obtain ⟨_, vs, hl, hd⟩ := F.eo.own k xs ho
  exact ⟨_, a, .list nk hl (hd.kpH (KpH.refl _ _) fun b h => .inl (sub b h))⟩
 ·obtain ⟨m1, m2⟩ := ko.mem _ m
  obtain ⟨hm, vs, hl, hd⟩ := F.eo.own j ys m1
  refine ⟨List.mem_append_left _ (List.mem_append_right _ (List.mem_filter.mpr ⟨F.own j ys m1, ?_⟩)), vs, hl, hd.kpH (KpH.refl _ _) fun b h => .inl (sub b h)⟩
  haveI : φ j ≠ φ k := fun e => m2 (F.inj j ys k xs m1 ho e)
  simpa using this
 ·rcases List.mem_append.mp m with m | m
  ·exact F.off a (List.mem_append_left _ m)
  exact F.off a (List.mem_append_right _ (sl a m).1)
 obtain ⟨m1, m2⟩ := ko.mem _ m
 haveI : φ j ≠ φ k := fun e => m2 (F.inj j ys k xs m1 ho e)
 exact List.mem_filter.mpr ⟨F.own j ys m1, by simpa using this⟩
theorem Ex.freeze {t : Sem Flow} {k : Nat} {xs : List PV} {v' : List (String × RV)} {orest : List (Nat × List PV)} (ho : (k, xs) ∈ σ.o) (kf : Frz k xs σ.v v') (ko : KeepO k σ.o orest) (h : Ex Γ τ n env ns ⟨v', orest⟩ t K) : Ex Γ τ n env ns σ t K := .mk' fun A E s φ Mw Lo H R F τ0 Q q => by
 obtain ⟨F1, G1⟩ := F.freeze ho kf ko
 exact h.run A E s φ Mw _ H R F1 τ0 Q fun fl s' af σ' φ' Lo' c F' g' fr _ => q fl s' af σ' φ' Lo' c F' (G1.trans g') fr
theorem Fr.moved (F : Fr Γ env ns φ Mw Lo H σ s) {xs : List String} {new rest : List (String × RV)} {s' : Shared} (kr : Keep xs σ.v rest) (f : KpH Mw s.heap s'.heap) (lk : LvK s.heap s'.heap) (sm : Sm env xs s.heap s'.heap) (wk : q78 env Mw s.heap s'.heap) (ok : Γ.Ok s')
  (hn : ∀ x r, (x, r) ∈ new → ∃ V, At env s'.heap x V ∧ DenR φ (Mw ++ Lo ++ H) s'.heap V r) : Fr Γ env ns φ Mw Lo H ⟨new ++ rest, σ.o⟩ s' := by
 have wr' : ∀ x ∈ ns, Wr env Mw s'.heap x := fun x m => wk x (F.wr x m)
 have kk : KpH (Mw ++ Lo ++ H) s.heap s'.heap := fun b o m e t => f b o (fun q => m (List.mem_append_left _ (List.mem_append_left _ q))) e t
 refine ⟨ok, lk.live F.live, ⟨fun x r m => ?_, fun j ys m => ?_, fun y c e => ?_⟩, wr', F.off, F.own, F.inj, F.dis, F.oc, F.loc, F.kind⟩
 ·rcases List.mem_append.mp m with m | m
  ·exact hn x r m
  obtain ⟨m1, m2⟩ := kr.mem _ m
  obtain ⟨V, a, d⟩ := F.eo.vars x r m1
  exact ⟨V, sm x V m2 a, d.kpH kk fun _ h => .inl h⟩
 ·obtain ⟨hm, vs, ⟨i, hl⟩, hd⟩ := F.eo.own j ys m
  exact ⟨hm, vs, ⟨i, f _ _ (F.dis _ (F.own j ys m)).1 hl rfl⟩, hd.kpH kk fun _ h => .inl h⟩
 by_cases m : c ∈ Mw
 ·exact F.oc.live wr' y c e m
 obtain ⟨v, o, ho, hd⟩ := F.eo.cells y c e; exact ⟨v, o, (f _ _ m ho (q12 hd)).eq (q20 hd), hd⟩
theorem Ex.unpack {tgt : Expr} {xs : List String} {pos : Pos} {e : Expr} {its : List PV} {rest : List (String × RV)} (h : Ev Γ n env σ e (.pv (.tup its))) (T : Tgt tgt xs) (hn : xs.Nodup) (hx : ∀ x ∈ xs, x ∈ ns) (hl : its.length = xs.length) (kr : Keep xs σ.v rest)
  (k : K .nx ⟨(xs.zip its).map (fun p => (p.1, RV.pv p.2)) ++ rest, σ.o⟩) (hT : ∃ es j p, tgt = .Tuple es j p) (he : ∀ env, exec (.Assign [tgt] e pos) env = (do
   standAt pos
   let v ← eval e env
   PySem.assign tgt env v
   pure .next)) : Ex Γ τ n env ns σ (exec (.Assign [tgt] e pos) env) K := .mk' fun A E s φ Mw Lo H R F τ0 Q q => by
 rw [he]
 refine wpAny_bind (wpAny_standAt (wpAny_bind (F.ev R h fun V s1 k1 F1 d => wpAny_bind ?_)))
 have u : Unp (Mw ++ Lo ++ H) s1.heap V tgt its := by
  obtain ⟨es, j, p, rfl⟩ := hT
  cases d using Den.t with | @tup a vs ha ht hd => exact ⟨a, vs, rfl, .inl ht.isTuple, hd⟩
 refine qd0 (M := Mw) F.kind R.handled T hn (fun y hy => F1.wr y (hx y hy)) hl u (fun m => F1.live.size (List.mem_append_left _ (List.mem_append_left _ m))) fun h3 t3 Vs f3 lk3 a3 d3 sm3 wk3 => wpAny_pure ?_
 haveI k13 : KpH (Mw ++ Lo ++ H) s1.heap h3 := fun b o m e t => .of (f3 b o (fun q => m (List.mem_append_left _ (List.mem_append_left _ q))) e)
 exact q .next _ .nx _ φ Lo k (F1.stored (xs := xs) (t := t3) kr f3 lk3 sm3 wk3 fun y r m => qp8 a3 (d3.kpH k13 fun _ h => .inl h) y r m) ((Gr.of k1).trans (Gr.fk f3 lk3)) trivial
theorem Ex.assignComp {x : String} {xp spos : Pos} {scope : Scope} {elt : Expr} {g : Comprehension} {gs : List Comprehension} {pos p : Pos} {xs xs' cns : List String} {α : Type} {its : List α} {cv : α → List PV} {ys : α → List PV} {tb : α → Bool} {t : Env → Addr → Sem Unit} {l : List (String × PV)} {rest : List (String × RV)}
  (hx : x ∈ ns) (kr : Keep [x] σ.v rest) (c : K .nx ⟨(x, .pv (.list (outs its tb ys))) :: rest, σ.o⟩) (hsw : swapsWith (.ListComp elt (g :: gs) scope pos) (some (.Name (Str.ofString x) xp)) spos.line env = pure true)
  (G : EnvS env sc) (C : CompOK scope sc cns) (hdot : ".0" ∈ cns) (hI : EvI Γ n env σ g.iter g.target (its.map cv)) (T : Tgt g.target xs) (hn : xs.Nodup) (hl0 : ∀ p ∈ l, (p.1, RV.pv p.2) ∈ σ.v ∧ scope.names.lookup (Str.ofString p.1) = some .free) (hxn : ∀ x ∈ xs, x ∈ cns) (hxn' : ∀ x ∈ xs', x ∈ cns)
  (hi : ∀ x ∈ its, (cv x).length = xs.length) (hz : (outs its tb ys).length ≤ 2 ^ 24) (hg : g.is_async = 0) (hs : ∀ x, foldedSetIterable g.iter env x = pure x)
  (hturn : ∀ cenv D I, compTurn (.ListComp elt (g :: gs) scope pos) 0 (.ref I) (.ref D) cenv = q46 p g.target g.ifs (t cenv D) (.ref I) cenv (.compLoop (.ListComp elt (g :: gs) scope pos) 0 (.ref I) (.ref D) cenv))
  (hin : ∀ cenv D M, EnvS cenv (relab scope sc) → Blk Γ cenv M D → OwnC cenv M cns → ∀ x ∈ its, EvP Γ n cenv (pvSt (xs.zip (cv x) ++ l)) (q34 g.ifs cenv) (PB (tb x)) ∧ (tb x = true → EmitOK Γ n cenv M D (pvSt (xs.zip (cv x) ++ l)) (t cenv D) xs' cns (ys x))) :
  Ex Γ τ n env ns σ (exec (.Assign [.Name (Str.ofString x) xp] (.ListComp elt (g :: gs) scope pos) spos) env) K := .mk' fun A E s φ Mw Lo H R F τ0 Q q => by
 rw [exec_Assign_Name_used _ _ _ _ hsw]
 refine wpAny_bind (wpAny_standAt (wpAny_bind ?_))
 obtain ⟨tgt, iter, ifs, asy⟩ := g
 cases hg
 show wpAny _ A (do let _ ← comprehension (.ListComp elt (⟨tgt, iter, ifs, 0⟩ :: gs) scope pos) scope env _ (newList []) false (eval iter env) (some (PySem.assign (.Name (Str.ofString x) xp) env))) _ _ s
 refine wpAny_bind (wpAny_comprehension_free (use := some (PySem.assign (.Name (Str.ofString x) xp) env)) rfl hs (G.closes C) C.kind C.locals (qj8 (g := ⟨tgt, iter, ifs, 0⟩) (H := Mw ++ Lo ++ H) (post := fun acc L => compPost (model Γ.prog Γ.w) A E (some (PySem.assign (.Name (Str.ofString x) xp) env)) _ acc L) G C hdot hI T hn hl0 hxn hxn' hi hz rfl hturn hin R F.ok F.live F.eo
  fun D L s' vs k1 ok1 nD nL hDL hBL htL hm hl hd => ?_))
 obtain ⟨m, hm⟩ := hm
 have F1 := F.kp k1 ok1
 haveI d1 : Den (Mw ++ Lo ++ H) s'.heap (.ref D) (.list (outs its tb ys)) := .list nD.1 hl (hd.kpH (KpH.refl _ _) fun a ha => .inl (.tail _ ha))
 show wpAny _ A (PySem.assign (.Name (Str.ofString x) xp) env (.ref D)) _ _ s'
 refine wpAny_assign_Name (q64 F.kind (F1.wr x hx) fun h' t f lk a sm wk => ?_)
 have hM : ∀ a ∈ Mw, a ∈ Mw ++ Lo ++ H := fun a m => List.mem_append_left _ (List.mem_append_left _ m)
 have Lw : L ∉ Mw := fun m => nL.1 (hM _ m)
 refine ⟨m, ns_fk hm f Lw, fun h'' hs'' => wpAny_pure (wpAny_pure ?_)⟩
 have ks : KpH Mw s.heap h'' := fun b o m e t => (k1 b o e t).trans fun o' e' _ => .of ((hs''.2 b fun q => by subst q; rw [nL.2 o e] at t; nomatch t).trans (f b o' m e'))
 have f3 : FK [L] h' h'' := FK.same hs'' (.head _)
 have lks : LvK s.heap h'' := by
  refine ⟨fun b hb => ?_, fun b hb => ?_⟩
  ·obtain ⟨o, e, t⟩ := lk.lv b ((LvK.of k1).lv b hb)
   exact ⟨o, (hs''.2 b fun q => by subst q; obtain ⟨o', e', t'⟩ := hb; rw [nL.2 o' e'] at t'; cases t').trans e, t⟩
  obtain ⟨o, e, t⟩ := lk.fr b ((LvK.of k1).fr b hb)
  exact ⟨o, (hs''.2 b fun q => by subst q; obtain ⟨o', e', t'⟩ := hb; haveI t2 := q16 t'; rw [nL.2 o' e'] at t2; nomatch t2).trans e, t⟩
 have cl : ∀ y c, env.cells.lookup y = some c → c ∉ [L] := fun y c e q => by
  simp only [List.mem_singleton] at q; subst q
  obtain ⟨v, o, ho, hdd⟩ := F.eo.cells y _ e
  have := nL.2 o ho; rw [q12 hdd] at this; cases this
 have ll : env.locals ∉ [L] := fun q => by simp only [List.mem_singleton] at q; exact Lw (q ▸ F.loc)
 haveI aw : ∀ a ∈ Mw, a ∉ [L] := fun a m q => by simp only [List.mem_singleton] at q; exact Lw (q ▸ m)
 haveI F3 : Fr Γ env ns φ Mw Lo H ⟨[(x, RV.pv (.list (outs its tb ys)))] ++ rest, σ.o⟩ { s' with heap := h'', toks := t } := by
  refine F.moved (xs := [x]) (s' := { s' with heap := h'', toks := t }) kr ks lks (fun y V hy a => (sm y V hy (a.kp k1)).fk f3 ll cl) (fun y w => (wk y (w.kp k1)).fk f3 aw) ?_ fun y r m => ?_
  ·exact (F1.ok.fk (t := t) f (fun a m => F.off a (List.mem_append_left _ m)) (fun a o e t m => F1.tabs a o e t (List.mem_append_left _ m)) fun a _ => lk.fr a).fk (s := { s' with heap := h', toks := t }) f3 (fun a m => by simp only [List.mem_singleton] at m; subst m; exact hBL) (fun a o e t m => by simp only [List.mem_singleton] at m; subst m; obtain ⟨o', e', t'⟩ := nt_ns (ns_fk hm f Lw); rw [show h'.get? a = some o from e] at e'; cases e'; rw [t] at t'; cases t') fun a ha _ => lks.fr a (F.ok.frs a ha)
  simp only [List.mem_singleton] at m
  cases m
  refine ⟨_, a.fk f3 ll cl, ?_⟩
  haveI hd2 : Dens (L :: (Mw ++ Lo ++ H)) h' vs.toList (outs its tb ys) := hd.kpH (fun b o m e t => .of (f b o (fun q => m (.tail _ (hM _ q))) e)) fun _ h => .inl h
  obtain ⟨j, hj⟩ := hl
  exact Den.list nD.1 ⟨j, (hs''.2 _ hDL).trans (f _ _ (fun q => nD.1 (hM _ q)) hj)⟩ (hd2.kpH (fun b o m e t => .of ((hs''.2 b fun q => m (q ▸ .head _)).trans e)) fun a ha => .inl (.tail _ ha))
 refine q .next _ .nx _ φ Lo c F3 ⟨fun _ m => .inl m, fun b o m e t => ks b o (fun q => m (List.mem_append_left _ q)) e t, lks⟩ trivial
end
structure FunOK (sc : Scope) (ps ns : List String) : Prop where
 kind : sc.kind = .function
 cells : ∀ p ∈ sc.names, p.2 = .cell → sc.names.lookup p.1 = some .cell
 nofree : ∀ p ∈ sc.names, p.2 ≠ .free
 own : ∀ p ∈ sc.names, p.2 = .cell → ∃ y ∈ ns, p.1 = Str.ofString y
 targets : ∀ y ∈ ns, sc.names.lookup (Str.ofString y) = some .local ∨ sc.names.lookup (Str.ofString y) = some .cell
 params : ∀ x ∈ ps, x ∈ ns
 nodup : ps.Nodup
theorem qk1 (k : Str → Option NameKind) {n : Str} : ∀ (b : List (Str × Value)) (m : Str → Option Value), (∀ p ∈ b, p.1 ≠ n) → bindL k b m n = m n
 | [], m, _ => rfl
 | (x, v) :: r, m, h => by
  unfold bindL
  rw [qk1 k r _ fun p hp => h p (.tail _ hp)]
  have : n ≠ x := fun e => h _ (.head _) e.symm
  split <;> simp [this]
theorem qk2 (k : Str → Option NameKind) {n : Str} : ∀ (b : List (Str × Value)) (m : Str → Option Value), (∀ p ∈ b, p.1 ≠ n) → bindC k b m n = m n
 | [], m, _ => rfl
 | (x, v) :: r, m, h => by
  unfold bindC
  rw [qk2 k r _ fun p hp => h p (.tail _ hp)]
  have : n ≠ x := fun e => h _ (.head _) e.symm
  split <;> simp [this]
theorem qz8 (k : Str → Option NameKind) : ∀ (ps : List String) (Vs : List Value) (xs : List PV) (H : List Addr) (h : Heap) (m cm : Str → Option Value), ps.Nodup → Dens H h Vs xs → ∀ x v, (x, v) ∈ ps.zip xs → ∃ V, Den H h V v ∧ (k (Str.ofString x) = some .local → bindL k ((ps.map Str.ofString).zip Vs) m (Str.ofString x) = some V) ∧ (k (Str.ofString x) ≠ some .local → bindC k ((ps.map Str.ofString).zip Vs) cm (Str.ofString x) = some V) := by
 intro ps
 induction ps with
 | nil => exact fun _ _ _ _ _ _ _ _ _ _ mm => nomatch mm
 | cons p ps ih =>
  intro Vs xs H h m cm nd dd x v mm
  cases xs with
  | nil => nomatch mm
  | cons y ys =>
   cases dd using Dens.cn with | @cons V Vs d ds =>
   have nd' := List.nodup_cons.mp nd
   simp only [List.zip_cons_cons, List.mem_cons, List.map_cons] at mm ⊢
   rcases mm with e | mm
   ·cases e
    have out : ∀ q ∈ (ps.map Str.ofString).zip Vs, q.1 ≠ Str.ofString p := fun q hq e => by
     have := (List.of_mem_zip (show (q.1, q.2) ∈ _ from hq)).1
     obtain ⟨y, hy, e2⟩ := List.mem_map.mp this
     exact nd'.1 (q40 (e2.trans e) ▸ hy)
    refine ⟨V, d, fun e => ?_, fun e => ?_⟩
    ·unfold bindL; rw [qk1 k _ _ out]; simp [e]
    unfold bindC; rw [qk2 k _ _ out]; simp [e]
   obtain ⟨W, dW, h1, h2⟩ := ih _ _ H h (if k (Str.ofString p) = some .local then fun y => if y = Str.ofString p then some V else m y else m) (if k (Str.ofString p) = some .local then cm else fun y => if y = Str.ofString p then some V else cm y) nd'.2 ds x v mm
   exact ⟨W, dW, h1, h2⟩
noncomputable def CodeQ (env : Env) (fd : FuncData) : Prop := env.code = fd.code ∧ env.qual = fd.qualname ++ ".<locals>."
theorem FSpec.intro0 {Γ : Cx} {n : Nat} {f : Addr} {o : Obj} {fd : FuncData} {body : List Stmt} {ps ns : List String} {xs : List PV} {r : PV} {c : Addr} {oc : Obj} {cvs : Array Value} {t : Tok} (C : FunOK fd.scope ps ns)
  (ho : Γ.hB.get? f = some o) (hd : o.data = .func fd) (hbody : fd.body = .stmts body) (hclo : fd.closure = []) (hg : fd.globals = mainGlobals) (hbi : fd.builtins = builtinsNs)
  (hc : fd.code = .ref c) (hcg : Γ.hB.get? c = some oc) (hct : isTb oc = false) (hcd : oc.data = .fields cvs) (hc1 : cvs[1]? = some (.str fd.qualname t))
  (hbind : ∀ Vs : List Value, Vs.length = ps.length → bindArgs fd ⟨Vs, []⟩ = pure ((ps.map Str.ofString).zip Vs)) (hlen : xs.length = ps.length)
  (hco : fd.scope.isCoroutine = false) (hgen : fd.scope.isGenerator = false)
  (h : ∀ kf env, EnvS env fd.scope → CodeQ env fd → Ex (Γ.on kf) 0 n env ns (pvSt (ps.zip xs)) (execs body env) fun af _ => af = .rt r) : FSpec Γ (n + 1) f xs r := fun kf A s H Vs Rm ok lv ds R k => by
 haveI dl := ds.length
 have tabs : ∀ {b o}, Γ.hB.get? b = some o → isTb o = false → isFr o = false → s.heap.get? b = some o := fun e t t' => ok.base _ _ e t
 refine codeAny_call_cells (o := o) Rm.dq (tabs ho (q42 (q36 hd)) (qi8 hd)) hd (q19 Γ.nolimit ok.kb) ⟨c, oc, cvs, t, hc, tabs hcg hct (q09 hcd), hcd, hc1⟩ hbody (hbind Vs (by lia)) hclo (fun x hx => ?_) (fun s1 I => ?_) hco hgen C.kind
 ·haveI hx1 := (List.of_mem_zip (show (x.1, x.2) ∈ _ from hx)).1
  obtain ⟨y, hy, e⟩ := List.mem_map.mp hx1
  rcases C.targets y (C.params y hy) with q | q
  ·rw [e] at q; exact .inl q
  rw [e] at q
  obtain ⟨c', hc'⟩ := q23 (n := s.heap.objs.size + 1) (mem_of_lookup q)
  obtain ⟨c2, h2, _⟩ := q08 hc'
  exact .inr ⟨q, by rw [h2]; rfl⟩
 obtain ⟨⟨⟨h1, tk, rfl⟩, hns, keep, hfresh⟩, hcell, hap, habove⟩ := I
 generalize he : callEnvC fd s.heap.objs.size f = env at *
 have esc : env.scope = fd.scope := he ▸ rfl
 have ecl : env.cells = cellsFrom (s.heap.objs.size + 1) fd.scope.names [] := he ▸ rfl
 have elo : env.locals = s.heap.objs.size := by rw [← he]; rfl
 have ek : ∀ x, env.kindOf x = fd.scope.names.lookup x := fun x => by unfold Env.kindOf; rw [esc]
 have hcl : ∀ x, fd.scope.names.lookup x = some .cell → ∃ c, env.cells.lookup x = some c := fun x q => by
  obtain ⟨c', hc'⟩ := q23 (n := s.heap.objs.size + 1) (mem_of_lookup q)
  obtain ⟨c2, h2, _⟩ := q08 hc'
  exact ⟨c2, by rw [ecl]; exact h2⟩
 have G : EnvS env fd.scope := ⟨esc, C.kind, by rw [← he]; exact hg, by rw [← he]; exact hbi, fun x q => by
  rcases q with q | q
  ·exact hcl x q
  exact absurd rfl (C.nofree _ (mem_of_lookup q))⟩
 haveI up : ∀ b o, s.heap.get? b = some o → h1.get? b = some o := keep
 let Mw := env.locals :: env.cells.map (fun p => (env.cells.lookup p.1).getD 0)
 have cm : ∀ a, a ∈ env.cells.map (fun p => (env.cells.lookup p.1).getD 0) → ∃ x, env.cells.lookup x = some a := fun a q => by
  obtain ⟨⟨x, c'⟩, hx, e⟩ := List.mem_map.mp q
  obtain ⟨c2, h2, _⟩ := q08 hx
  rw [show (env.cells.lookup (x, c').1) = env.cells.lookup x from rfl, h2] at e
  exact ⟨x, by rw [h2, ← e]; rfl⟩
 have mc : ∀ x c', env.cells.lookup x = some c' → c' ∈ Mw := fun x c' e => .tail _ (List.mem_map.mpr ⟨_, mem_of_lookup e, by rw [show (env.cells.lookup (x, c').1) = env.cells.lookup x from rfl, e]; rfl⟩)
 have newM : ∀ a ∈ Mw, s.heap.get? a = none := fun a ha => Heap.get?_none_of_le (by
  rcases List.mem_cons.mp ha with q | q
  ·rw [q]; exact hfresh
  obtain ⟨x, hx⟩ := cm a q
  exact Nat.le_trans hfresh (Nat.le_of_lt (habove x a (mem_of_lookup hx))))
 have cellK : ∀ x c', (x, c') ∈ env.cells → fd.scope.names.lookup x = some .cell := fun x c' m => by
  rw [ecl] at m; exact C.cells _ (q75 m) rfl
 have wr : ∀ x ∈ ns, Wr env Mw h1 x := fun x hx => by
  rcases C.targets x hx with q | q
  ·exact .inl ⟨(ek _).trans q, .head _, _, hns⟩
  obtain ⟨c', hc'⟩ := hcl _ q
  exact .inr ⟨(ek _).trans q, c', _, hc', mc _ _ hc', hcell _ _ hc', fun y ey => name_of_addr hap (mem_of_lookup ey) (mem_of_lookup hc')⟩
 haveI k01 : Kp s.heap h1 := .of up
 have ok1 : (Γ.on (env.locals :: kf)).Ok { s with heap := h1, toks := tk } := by
  have q := ok.keeps (t := tk) up
  refine ⟨q.base, q.tabs, q.gens, q.os, q.all, fun L hL => ?_, fun L hL => ?_, q.old⟩
  ·rcases List.mem_cons.mp hL with rfl | hL
   ·exact fr_ns hns
   exact q.frs L hL
  rcases List.mem_cons.mp hL with rfl | hL
  ·exact ok.new ((elo) ▸ q00 _)
  exact q.off L hL
 have subM : ∀ a, a ∈ Mw ++ [] ++ H → a ∈ H ∨ s.heap.get? a = none := fun a ha => by
  rw [List.append_nil] at ha
  rcases List.mem_append.mp ha with q | q
  ·exact .inr (newM a q)
  exact .inl q
 have F : Fr (Γ.on (env.locals :: kf)) env ns (fun _ => 0) Mw [] H (pvSt (ps.zip xs)) { s with heap := h1, toks := tk } := by
  refine ⟨ok1, fun a ha => ?_, .ofPv (fun x v m => ?_) fun x c' e => ⟨_, hcell x c' e⟩, wr, fun a ha => ok.new (newM a (by simpa using ha)), (fun k ys m => by cases m), (fun k ys j zs m => by cases m), (fun a m => by cases m), fun x c' e m => ?_, .head _, by rw [esc]; exact C.kind⟩
  ·rw [List.append_nil] at ha
   rcases List.mem_append.mp ha with q | q
   ·rcases List.mem_cons.mp q with q | q
    ·rw [q]; exact nt_ns hns
    obtain ⟨x, hx⟩ := cm a q
    exact q52 (hcell _ _ hx)
   exact lv.kp k01 a q
  ·obtain ⟨V, dV, hL, hC⟩ := qz8 env.kindOf ps Vs xs H s.heap (fun _ => none) (fun _ => none) C.nodup ds x v m
   refine ⟨V, ?_, dV.kpH (k01.toH _) subM⟩
   haveI hxp : x ∈ ps := (List.of_mem_zip m).1
   rcases C.targets x (C.params x hxp) with q | q
   ·exact .inl ⟨(ek _).trans q, _, hns, hL ((ek _).trans q)⟩
   obtain ⟨c', hc'⟩ := hcl _ q
   refine .inr ⟨.inl ((ek _).trans q), c', hc', ?_⟩
   have := hcell _ _ hc'
   rw [hC (by rw [ek, q]; decide)] at this
   exact this
  have q := cellK x c' (mem_of_lookup e)
  obtain ⟨y, hy, e2⟩ := C.own _ (mem_of_lookup q) rfl
  exact ⟨y, hy, e2, (ek _).trans q⟩
 haveI Rm' : Room (Γ.on (env.locals :: kf)) (A.deeper env) n := ⟨by
  obtain ⟨l, e1, e2, e3⟩ := Rm.frames
  refine ⟨env :: l, Around.frames_deeper e1, ?_, fun e m => ?_⟩
  ·rw [List.map_cons, List.map_cons, e2]
   haveI : env.frame = some env.locals := he ▸ rfl
   rw [this]
  rcases List.mem_cons.mp m with rfl | m
  ·rw [esc, C.kind]; decide
  exact e3 e m, Rm.handled, by have := Rm.depth; show A.depth + 1 + _ ≤ 900; lia, by have := Rm.units; show A.units + _ + _ + _ ≤ 9900; lia⟩
 refine (h (env.locals :: kf) env G ((he) ▸ ⟨rfl, rfl⟩)).run (A.deeper env) _ _ _ Mw [] H Rm' F (Nat.zero_le _) _ fun fl s2 af σ2 φ2 Lo2 c2 F2 g2 fr _ => ?_
 subst c2
 cases fl with
 | ret V =>
  haveI hv : Den (Mw ++ Lo2 ++ H) s2.heap V r := fr
  refine k V s2 (fun b o e t => g2.kp b o (fun q => ?_) (up _ _ e) t) ⟨F2.ok.base, F2.ok.tabs, F2.ok.gens, F2.ok.os, F2.ok.all, fun L hL => F2.ok.frs L (.tail _ hL), fun L hL => F2.ok.off L (.tail _ hL), F2.ok.old⟩ (hv.kpH (KpH.refl _ _) fun a m => .inl (List.mem_append_right _ m))
  rw [List.append_nil] at q
  rw [newM b q] at e; nomatch e
 | _ => exact fr.elim
theorem FSpec.intro {Γ : Cx} {n : Nat} {f : Addr} {o : Obj} {fd : FuncData} {body : List Stmt} {ps ns : List String} {xs : List PV} {r : PV} {c : Addr} {oc : Obj} {cvs : Array Value} {t : Tok} (C : FunOK fd.scope ps ns)
  (ho : Γ.hB.get? f = some o) (hd : o.data = .func fd) (hbody : fd.body = .stmts body) (hclo : fd.closure = []) (hg : fd.globals = mainGlobals) (hbi : fd.builtins = builtinsNs)
  (hc : fd.code = .ref c) (hcg : Γ.hB.get? c = some oc) (hct : isTb oc = false) (hcd : oc.data = .fields cvs) (hc1 : cvs[1]? = some (.str fd.qualname t))
  (hbind : ∀ Vs : List Value, Vs.length = ps.length → bindArgs fd ⟨Vs, []⟩ = pure ((ps.map Str.ofString).zip Vs)) (hlen : xs.length = ps.length)
  (hco : fd.scope.isCoroutine = false) (hgen : fd.scope.isGenerator = false)
  (h : ∀ kf env, EnvS env fd.scope → Ex (Γ.on kf) 0 n env ns (pvSt (ps.zip xs)) (execs body env) fun af _ => af = .rt r) : FSpec Γ (n + 1) f xs r :=
 FSpec.intro0 C ho hd hbody hclo hg hbi hc hcg hct hcd hc1 hbind hlen hco hgen fun kf env G _ => h kf env G
theorem q66 {α : Type} (its : List α) (tb : α → Bool) (f : α → PV) : outs its tb (fun x => [f x]) = (its.filter tb).map f := by
 unfold outs
 induction its with
 | nil => rfl
 | cons x r ih => cases h : tb x <;> simp [h, ih]
theorem z12 {α : Type} (its : List α) (ys : α → List PV) : outs its (fun _ => true) ys = its.flatMap ys := by unfold outs; simp
theorem q48 {α : Type} {its : List α} {tb : α → Bool} {f : α → PV} (h : its.length ≤ 2 ^ 24) : ((its.filter tb).map f).length ≤ 2 ^ 24 := by
 rw [List.length_map]; exact Nat.le_trans (List.length_filter_le _ _) h
noncomputable abbrev eltT (elt : Expr) (cenv : Env) (D : Addr) : Sem Unit := do let _ ← call (.builtin "list.append") [.ref D, ← eval elt cenv]
theorem turn1 (elt tgt iter : Expr) (ifs : List Expr) (scope : Scope) (pos : Pos) (cenv : Env) (D I : Addr) :
  compTurn (.ListComp elt [⟨tgt, iter, ifs, 0⟩] scope pos) 0 (.ref I) (.ref D) cenv = q46 iter.pos tgt ifs (eltT elt cenv D) (.ref I) cenv (.compLoop (.ListComp elt [⟨tgt, iter, ifs, 0⟩] scope pos) 0 (.ref I) (.ref D) cenv) := by rfl
theorem z46 (elt tgt iter tgt' iter' : Expr) (ifs ifs' : List Expr) (scope : Scope) (pos : Pos) (cenv : Env) (it acc : Value) :
  compTurn (.ListComp elt [⟨tgt, iter, ifs, 0⟩, ⟨tgt', iter', ifs', 0⟩] scope pos) 0 it acc cenv = (do
   standAt iter.pos
   match ← pyNext it with
   | none => pure (.done .next)
   | some v =>
    letOwnedTupleGo tgt it v
    assign tgt cenv v
    let mut ok := true
    for c in ifs do
     if ok then ok ← isTrue c cenv (eval c cenv)
    if ok then
     let x ← eval iter' cenv
     standAt iter'.pos
     let x ← foldedSetIterable iter' cenv x
     let _ ← runOwn (.compStart (.ListComp elt [⟨tgt, iter, ifs, 0⟩, ⟨tgt', iter', ifs', 0⟩] scope pos) 1 (← holding [x] (pyIter x)) acc cenv) cenv
    again (.compLoop (.ListComp elt [⟨tgt, iter, ifs, 0⟩, ⟨tgt', iter', ifs', 0⟩] scope pos) 0 it acc cenv)) := by rfl
theorem z86 (elt tgt iter tgt' iter' : Expr) (ifs ifs' : List Expr) (scope : Scope) (pos : Pos) (cenv : Env) (D I : Addr) :
  compTurn (.ListComp elt [⟨tgt, iter, ifs, 0⟩, ⟨tgt', iter', ifs', 0⟩] scope pos) 0 (.ref I) (.ref D) cenv = q46 iter.pos tgt ifs (nestT (.ListComp elt [⟨tgt, iter, ifs, 0⟩, ⟨tgt', iter', ifs', 0⟩] scope pos) ⟨tgt', iter', ifs', 0⟩ (.ref D) cenv) (.ref I) cenv (.compLoop (.ListComp elt [⟨tgt, iter, ifs, 0⟩, ⟨tgt', iter', ifs', 0⟩] scope pos) 0 (.ref I) (.ref D) cenv) := by
 rw [z46]
 unfold q46 nestT
 simp only [bind_assoc, pure_bind]
 try rfl
theorem z85 (elt : Expr) (g0 : Comprehension) (tgt iter : Expr) (ifs : List Expr) (scope : Scope) (pos : Pos) (cenv : Env) (D I : Addr) :
  compTurn (.ListComp elt [g0, ⟨tgt, iter, ifs, 0⟩] scope pos) 1 (.ref I) (.ref D) cenv = q46 iter.pos tgt ifs (eltT elt cenv D) (.ref I) cenv (.compLoop (.ListComp elt [g0, ⟨tgt, iter, ifs, 0⟩] scope pos) 1 (.ref I) (.ref D) cenv) := by rfl
section
variable {Γ : Cx} {τ n : Nat} {env : Env} {σ : St} {sc scope : Scope} {ns : List String} {K : AF → St → Prop} {α β : Type}
theorem Ev.comp1 {elt tgt iter : Expr} {ifs : List Expr} {pos : Pos} {xs : List String} {its : List α} {cv : α → List PV} {tb : α → Bool} {f : α → PV} {l : List (String × PV)}
  (G : EnvS env sc) (C : CompOK scope sc (".0" :: xs)) (hI : EvI Γ n env σ iter tgt (its.map cv)) (T : Tgt tgt xs) (hn : xs.Nodup) (hl0 : ∀ p ∈ l, (p.1, RV.pv p.2) ∈ σ.v ∧ scope.names.lookup (Str.ofString p.1) = some .free)
  (hi : ∀ x ∈ its, (cv x).length = xs.length) (hz : its.length ≤ 2 ^ 24) (hs : ∀ x, foldedSetIterable iter env x = pure x)
  (hin : ∀ cenv, EnvS cenv (relab scope sc) → ∀ x ∈ its, EvP Γ n cenv (pvSt (xs.zip (cv x) ++ l)) (q34 ifs cenv) (PB (tb x)) ∧ (tb x = true → Ev Γ n cenv (pvSt (xs.zip (cv x) ++ l)) elt (.pv (f x)))) :
  Ev Γ n env σ (.ListComp elt [⟨tgt, iter, ifs, 0⟩] scope pos) (.pv (.list ((its.filter tb).map f))) := by
 rw [← q66]
 exact Ev.comp0 (p := iter.pos) (xs' := []) (t := fun cenv D => eltT elt cenv D) (l := l) G C (.head _) hI T hn hl0 (fun x h => .tail _ h) (fun _ h => by cases h) hi (by rw [q66]; exact q48 hz) rfl hs
  (fun cenv D I => turn1 elt tgt iter ifs scope pos cenv D I) fun cenv D M Gc B oc x hx => ⟨(hin cenv Gc x hx).1, fun hb => .elt B ((hin cenv Gc x hx).2 hb)⟩
theorem Ex.comp1 {x : String} {xp spos : Pos} {elt tgt iter : Expr} {ifs : List Expr} {pos : Pos} {xs : List String} {its : List α} {cv : α → List PV} {tb : α → Bool} {f : α → PV} {l : List (String × PV)} {rest : List (String × RV)}
  (hx : x ∈ ns) (kr : Keep [x] σ.v rest) (c : K .nx ⟨(x, .pv (.list ((its.filter tb).map f))) :: rest, σ.o⟩) (hsw : swapsWith (.ListComp elt [⟨tgt, iter, ifs, 0⟩] scope pos) (some (.Name (Str.ofString x) xp)) spos.line env = pure true)
  (G : EnvS env sc) (C : CompOK scope sc (".0" :: xs)) (hI : EvI Γ n env σ iter tgt (its.map cv)) (T : Tgt tgt xs) (hn : xs.Nodup) (hl0 : ∀ p ∈ l, (p.1, RV.pv p.2) ∈ σ.v ∧ scope.names.lookup (Str.ofString p.1) = some .free)
  (hi : ∀ x ∈ its, (cv x).length = xs.length) (hz : its.length ≤ 2 ^ 24) (hs : ∀ x, foldedSetIterable iter env x = pure x)
  (hin : ∀ cenv, EnvS cenv (relab scope sc) → ∀ x ∈ its, EvP Γ n cenv (pvSt (xs.zip (cv x) ++ l)) (q34 ifs cenv) (PB (tb x)) ∧ (tb x = true → Ev Γ n cenv (pvSt (xs.zip (cv x) ++ l)) elt (.pv (f x)))) :
  Ex Γ τ n env ns σ (exec (.Assign [.Name (Str.ofString x) xp] (.ListComp elt [⟨tgt, iter, ifs, 0⟩] scope pos) spos) env) K := by
 rw [← q66] at c
 exact Ex.assignComp (p := iter.pos) (xs' := []) (t := fun cenv D => eltT elt cenv D) (l := l) hx kr c hsw G C (.head _) hI T hn hl0 (fun x h => .tail _ h) (fun _ h => by cases h) hi (by rw [q66]; exact q48 hz) rfl hs
  (fun cenv D I => turn1 elt tgt iter ifs scope pos cenv D I) fun cenv D M Gc B oc x hx => ⟨(hin cenv Gc x hx).1, fun hb => .elt B ((hin cenv Gc x hx).2 hb)⟩
theorem Ev.comp2 {elt tgt iter tgt' iter' : Expr} {pos : Pos} {xs xs' : List String} {its : List α} {its' : α → List β} {cv : α → List PV} {cv' : β → List PV} {f : α → β → PV} {l : List (String × PV)}
  (G : EnvS env sc) (C : CompOK scope sc (".0" :: (xs ++ xs'))) (hI : EvI Γ n env σ iter tgt (its.map cv)) (T : Tgt tgt xs) (T' : Tgt tgt' xs') (hn : xs.Nodup) (hn' : xs'.Nodup) (hd : ∀ x ∈ xs, x ∉ xs') (hl0 : ∀ p ∈ l, (p.1, RV.pv p.2) ∈ σ.v ∧ scope.names.lookup (Str.ofString p.1) = some .free)
  (hi : ∀ x ∈ its, (cv x).length = xs.length) (hi' : ∀ x ∈ its, ∀ y ∈ its' x, (cv' y).length = xs'.length) (hz : (its.flatMap fun x => (its' x).map (f x)).length ≤ 2 ^ 24) (hs : ∀ env x, foldedSetIterable iter env x = pure x) (hs' : ∀ env x, foldedSetIterable iter' env x = pure x)
  (hin : ∀ cenv, EnvS cenv (relab scope sc) → ∀ x ∈ its, EvI Γ n cenv (pvSt (xs.zip (cv x) ++ l)) iter' tgt' ((its' x).map cv') ∧ ∀ y ∈ its' x, Ev Γ n cenv (pvSt (xs'.zip (cv' y) ++ (xs.zip (cv x) ++ l))) elt (.pv (f x y))) :
  Ev Γ n env σ (.ListComp elt [⟨tgt, iter, [], 0⟩, ⟨tgt', iter', [], 0⟩] scope pos) (.pv (.list (its.flatMap fun x => (its' x).map (f x)))) := by
 haveI e : (its.flatMap fun x => (its' x).map (f x)) = outs its (fun _ => true) fun x => outs (its' x) (fun _ => true) fun y => [f x y] := by
  rw [z12]; congr 1; funext x; rw [q66, List.filter_eq_self.mpr (fun _ _ => rfl)]
 rw [e]
 refine Ev.comp0 (p := iter.pos) (xs' := xs' ++ []) (ns := ".0" :: (xs ++ xs')) (t := fun cenv D => nestT (.ListComp elt [⟨tgt, iter, [], 0⟩, ⟨tgt', iter', [], 0⟩] scope pos) ⟨tgt', iter', [], 0⟩ (.ref D) cenv) (l := l) G C (.head _) hI T hn hl0 (fun x h => .tail _ (List.mem_append_left _ h)) (fun x h => .tail _ (List.mem_append_right _ (by simpa using h))) hi ((e) ▸ hz) rfl (hs env)
  (fun cenv D I => z86 elt tgt iter tgt' iter' [] [] scope pos cenv D I) fun cenv D M Gc B oc x hx => ⟨Evb.tests0, fun _ => ?_⟩
 obtain ⟨h1, h2⟩ := hin cenv Gc x hx
 refine EmitOK.nest (p := iter'.pos) (g := ⟨tgt', iter', [], 0⟩) B rfl (hs' cenv) (fun I => z85 elt ⟨tgt, iter, [], 0⟩ tgt' iter' [] scope pos cenv D I) h1 T' hn' ?_ (fun _ _ h => by cases h) (fun y h => .tail _ (List.mem_append_right _ h)) (hi' x hx) oc (fun y hy => Evb.tests0) fun y hy _ => .elt B (h2 y hy)
 intro p hp hx'
 rcases List.mem_append.mp hp with q | q
 ·exact hd _ (List.of_mem_zip q).1 hx'
 have := (hl0 p q).2
 rcases C.targets _ (List.Mem.tail _ (List.mem_append_right xs hx')) with t | t <;> (rw [t] at this; nomatch this)
end
theorem q38 {i : Int} {n : Nat} (h0 : 0 ≤ i) (h1 : i < n) : seqIndex? i n = some i.toNat := by
 unfold seqIndex?
 haveI : ¬ i < 0 := by lia
 simp only [this, if_false, h0, h1, decide_true, Bool.and_self, if_true]
theorem q43 (a : Int) {b : Int} (h : 0 < b) : 0 ≤ a.fmod b := Int.fmod_nonneg_of_pos _ h
theorem q44 (a : Int) {b : Int} (h : 0 < b) : a.fmod b < b := Int.fmod_lt_of_pos _ h
noncomputable def cs (s : String) : List Nat := s.toList.map Char.toNat
theorem ofS (s : String) : Str.ofString s = ⟨(cs s).toArray⟩ := by rw [Str.ofString_eq_toList]; rfl
theorem Ev.strS {Γ : Cx} {n : Nat} {env : Env} {σ : St} {s : String} {k : Nat} {pos : Pos} : Ev Γ n env σ (.Constant (.str (Str.ofString s)) k pos) (.pv (.str (cs s))) := Ev.str (ofS s)
theorem FSpec.introK {Γ : Cx} {n : Nat} {K : Frag} {f : Addr} {fd : FuncData} {body : List Stmt} {ps ns : List String} {xs : List PV} {r : PV} {c : Addr} {cvs : Array Value} {t : Tok} (KX : K.In Γ.hB) (e1 : (K.lookup f).map Obj.data = some (.func fd)) (hbody : fd.body = .stmts body)
  (hc : fd.code = .ref c) (e2 : (K.lookup c).map (fun o => (isTb o, o.data)) = some (false, .fields cvs)) (hc1 : cvs[1]? = some (.str fd.qualname t)) (C : FunOK fd.scope ps ns)
  (hbind : ∀ Vs : List Value, Vs.length = ps.length → bindArgs fd ⟨Vs, []⟩ = pure ((ps.map Str.ofString).zip Vs)) (hlen : xs.length = ps.length)
  (hclo : fd.closure = []) (hg : fd.globals = mainGlobals) (hbi : fd.builtins = builtinsNs) (hco : fd.scope.isCoroutine = false) (hgen : fd.scope.isGenerator = false)
  (h : ∀ kf env, EnvS env fd.scope → Ex (Γ.on kf) 0 n env ns (pvSt (ps.zip xs)) (execs body env) fun af _ => af = .rt r) : FSpec Γ (n + 1) f xs r := by
 obtain ⟨o, ho, hd⟩ := Option.map_eq_some_iff.mp e1
 obtain ⟨oc, hoc, hcd⟩ := Option.map_eq_some_iff.mp e2
 exact FSpec.intro C (KX _ _ ho) hd hbody hclo hg hbi hc (KX _ _ hoc) (congrArg Prod.fst hcd) (congrArg Prod.snd hcd) hc1 hbind hlen hco hgen h
inductive Caps (scope : Scope) (σ : St) : List (String × PV) → Prop
 | nil : Caps scope σ []
 | cons {x : String} {v : PV} {l : List (String × PV)} : (x, RV.pv v) ∈ σ.v → scope.names.lookup (Str.ofString x) = some .free → Caps scope σ l → Caps scope σ ((x, v) :: l)
theorem Caps.all {scope : Scope} {σ : St} {l : List (String × PV)} (c : Caps scope σ l) : ∀ p ∈ l, (p.1, RV.pv p.2) ∈ σ.v ∧ scope.names.lookup (Str.ofString p.1) = some .free := by
 induction c with
 | nil => exact fun _ m => nomatch m
 | cons a b _ ih =>
  intro p m
  rcases List.mem_cons.mp m with rfl | m
  ·exact ⟨a, b⟩
  exact ih p m
theorem EvS.consR {Γ : Cx} {n : Nat} {env : Env} {σ : St} {pos : Pos} {e : Expr} {es : List Expr} {v : PV} {vs : List PV} (h : Ev Γ n env σ e (.pv v)) (hs : EvS Γ n env σ pos es (pvs vs))
  (he : ∀ env, starEach (e :: es) env = (false, eval e env) :: starEach es env := by intro _; rfl) : EvS Γ n env σ pos (e :: es) (pvs (v :: vs)) := EvS.cons (mR _) h hs he
theorem EvS.nilR {Γ : Cx} {n : Nat} {env : Env} {σ : St} {pos : Pos} : EvS Γ n env σ pos [] (pvs []) := EvS.nil
section
variable {Γ : Cx} {τ n : Nat} {env : Env} {σ : St} {sc scope : Scope} {ns : List String} {K : AF → St → Prop} {α β : Type}
theorem Ev.compA {elt tgt iter : Expr} {pos : Pos} {xs : List String} {its : List α} {cv : α → List PV} {f : α → PV} {l : List (String × PV)}
  (G : EnvS env sc) (C : CompOK scope sc (".0" :: xs)) (hl0 : Caps scope σ l) (T : Tgt tgt xs) (hn : xs.Nodup) (hi : ∀ x, (cv x).length = xs.length) (hI : EvI Γ n env σ iter tgt (its.map cv))
  (hz : its.length ≤ 2 ^ 24) (hin : ∀ cenv, EnvS cenv (relab scope sc) → ∀ x ∈ its, Ev Γ n cenv (pvSt (xs.zip (cv x) ++ l)) elt (.pv (f x))) (hs : ∀ x, foldedSetIterable iter env x = pure x := by intro _; rfl) :
  Ev Γ n env σ (.ListComp elt [⟨tgt, iter, [], 0⟩] scope pos) (.pv (.list (its.map f))) := by
 have := Ev.comp1 (tb := fun _ => true) (f := f) (elt := elt) (pos := pos) G C hI T hn hl0.all (fun x _ => hi x) hz hs fun cenv Gc x hx => ⟨Evb.tests0, fun _ => hin cenv Gc x hx⟩
 rwa [List.filter_eq_self.mpr (fun _ _ => rfl)] at this
theorem Ev.compIf {elt tgt iter c : Expr} {pos : Pos} {xs : List String} {its : List α} {cv : α → List PV} {tb : α → Bool} {f : α → PV} {l : List (String × PV)}
  (G : EnvS env sc) (C : CompOK scope sc (".0" :: xs)) (hl0 : Caps scope σ l) (T : Tgt tgt xs) (hn : xs.Nodup) (hi : ∀ x, (cv x).length = xs.length) (hI : EvI Γ n env σ iter tgt (its.map cv))
  (hz : its.length ≤ 2 ^ 24) (ht : ∀ cenv, EnvS cenv (relab scope sc) → ∀ x ∈ its, Evb Γ n cenv (pvSt (xs.zip (cv x) ++ l)) c (tb x)) (hin : ∀ cenv, EnvS cenv (relab scope sc) → ∀ x ∈ its, tb x = true → Ev Γ n cenv (pvSt (xs.zip (cv x) ++ l)) elt (.pv (f x))) (hs : ∀ x, foldedSetIterable iter env x = pure x := by intro _; rfl) :
  Ev Γ n env σ (.ListComp elt [⟨tgt, iter, [c], 0⟩] scope pos) (.pv (.list ((its.filter tb).map f))) :=
 Ev.comp1 (tb := tb) (f := f) (elt := elt) (pos := pos) G C hI T hn hl0.all (fun x _ => hi x) hz hs fun cenv Gc x hx => ⟨Evb.tests1 (ht cenv Gc x hx), fun h => hin cenv Gc x hx h⟩
theorem Ex.compA {x : String} {xp spos : Pos} {elt tgt iter : Expr} {pos : Pos} {xs : List String} {its : List α} {cv : α → List PV} {f : α → PV} {l : List (String × PV)} {rest : List (String × RV)}
  (G : EnvS env sc) (hx : x ∈ ns) (kr : Keep [x] σ.v rest) (C : CompOK scope sc (".0" :: xs)) (hl0 : Caps scope σ l) (T : Tgt tgt xs) (hn : xs.Nodup) (hi : ∀ x, (cv x).length = xs.length) (hI : EvI Γ n env σ iter tgt (its.map cv))
  (hz : its.length ≤ 2 ^ 24) (hin : ∀ cenv, EnvS cenv (relab scope sc) → ∀ x ∈ its, Ev Γ n cenv (pvSt (xs.zip (cv x) ++ l)) elt (.pv (f x))) (hsw : swapsWith (.ListComp elt [⟨tgt, iter, [], 0⟩] scope pos) (some (.Name (Str.ofString x) xp)) spos.line env = pure true)
  (c : K .nx ⟨(x, .pv (.list (its.map f))) :: rest, σ.o⟩) (hs : ∀ x, foldedSetIterable iter env x = pure x := by intro _; rfl) :
  Ex Γ τ n env ns σ (exec (.Assign [.Name (Str.ofString x) xp] (.ListComp elt [⟨tgt, iter, [], 0⟩] scope pos) spos) env) K := by
 refine Ex.comp1 (tb := fun _ => true) (f := f) hx kr ?_ hsw G C hI T hn hl0.all (fun x _ => hi x) hz hs fun cenv Gc x hx => ⟨Evb.tests0, fun _ => hin cenv Gc x hx⟩
 rwa [List.filter_eq_self.mpr (fun _ _ => rfl)]
theorem Ex.compIf {x : String} {xp spos : Pos} {elt tgt iter t : Expr} {pos : Pos} {xs : List String} {its : List α} {cv : α → List PV} {tb : α → Bool} {f : α → PV} {l : List (String × PV)} {rest : List (String × RV)}
  (G : EnvS env sc) (hx : x ∈ ns) (kr : Keep [x] σ.v rest) (C : CompOK scope sc (".0" :: xs)) (hl0 : Caps scope σ l) (T : Tgt tgt xs) (hn : xs.Nodup) (hi : ∀ x, (cv x).length = xs.length) (hI : EvI Γ n env σ iter tgt (its.map cv))
  (hz : its.length ≤ 2 ^ 24) (ht : ∀ cenv, EnvS cenv (relab scope sc) → ∀ x ∈ its, Evb Γ n cenv (pvSt (xs.zip (cv x) ++ l)) t (tb x)) (hin : ∀ cenv, EnvS cenv (relab scope sc) → ∀ x ∈ its, tb x = true → Ev Γ n cenv (pvSt (xs.zip (cv x) ++ l)) elt (.pv (f x))) (hsw : swapsWith (.ListComp elt [⟨tgt, iter, [t], 0⟩] scope pos) (some (.Name (Str.ofString x) xp)) spos.line env = pure true)
  (c : K .nx ⟨(x, .pv (.list ((its.filter tb).map f))) :: rest, σ.o⟩) (hs : ∀ x, foldedSetIterable iter env x = pure x := by intro _; rfl) :
  Ex Γ τ n env ns σ (exec (.Assign [.Name (Str.ofString x) xp] (.ListComp elt [⟨tgt, iter, [t], 0⟩] scope pos) spos) env) K :=
 Ex.comp1 (tb := tb) (f := f) hx kr c hsw G C hI T hn hl0.all (fun x _ => hi x) hz hs fun cenv Gc x hx => ⟨Evb.tests1 (ht cenv Gc x hx), fun h => hin cenv Gc x hx h⟩
theorem qd8 {x : Str} {xp : Pos} {elt : Expr} {gs : List Comprehension} {pos : Pos} {l : Nat} (G : EnvS env sc) (h : (sc.names.lookup x == some .local && xp.line == pos.line && !(scope.names.any fun (n, k) => n == x && (k == .local || k == .cell))) = true) :
  swapsWith (.ListComp elt gs scope pos) (some (.Name x xp)) l env = pure true := by
 haveI hk : (env.blockKind == .function) = true := by unfold Env.blockKind; rw [G.scope, G.kind]; rfl
 show (pure (env.blockKind == .function && env.kindOf x == some .local && xp.line == pos.line && !(scope.names.any fun (n, k) => n == x && (k == .local || k == .cell))) : Sem Bool) = pure true
 rw [hk, show env.kindOf x = sc.names.lookup x by unfold Env.kindOf; rw [G.scope], Bool.true_and, h]
end
theorem FSpec.introS {Γ : Cx} {n : Nat} {K : Frag} {f : Addr} {fd : FuncData} {body : List Stmt} {ps ns : List String} {xs : List PV} {r : PV} {c : Addr} {cvs : Array Value} {t : Tok} {v : List (String × RV)} (KX : K.In Γ.hB) (e1 : (K.lookup f).map Obj.data = some (.func fd)) (hbody : fd.body = .stmts body)
  (hc : fd.code = .ref c) (e2 : (K.lookup c).map (fun o => (isTb o, o.data)) = some (false, .fields cvs)) (hc1 : cvs[1]? = some (.str fd.qualname t)) (C : FunOK fd.scope ps ns)
  (hbind : ∀ Vs : List Value, Vs.length = ps.length → bindArgs fd ⟨Vs, []⟩ = pure ((ps.map Str.ofString).zip Vs)) (hlen : xs.length = ps.length)
  (hrest : fd.closure = [] ∧ fd.globals = mainGlobals ∧ fd.builtins = builtinsNs ∧ fd.scope.isCoroutine = false ∧ fd.scope.isGenerator = false) (hv : (pvSt (ps.zip xs)).v = v)
  (h : ∀ kf env, EnvS env fd.scope → Ex (Γ.on kf) 0 n env ns ⟨v, []⟩ (execs body env) fun af _ => af = .rt r) : FSpec Γ (n + 1) f xs r := by
 subst hv
 exact FSpec.introK KX e1 hbody hc e2 hc1 C hbind hlen hrest.1 hrest.2.1 hrest.2.2.1 hrest.2.2.2.1 hrest.2.2.2.2 h
section
variable {Γ : Cx} {τ n : Nat} {env : Env} {σ : St} {sc scope : Scope} {ns : List String} {K : AF → St → Prop} {α β : Type} {more : List Stmt}
theorem S.asg {x : String} {p pos : Pos} {e : Expr} {r : RV} {rest : List (String × RV)} (hx : x ∈ ns) (hs : swapsWith e (some (.Name (Str.ofString x) p)) pos.line env = pure false) (kr : Keep [x] σ.v rest) (h : Ev Γ n env σ e r)
  (k : Ex Γ τ n env ns ⟨(x, r) :: rest, σ.o⟩ (execs more env) K) : Ex Γ τ n env ns σ (execs (.Assign [.Name (Str.ofString x) p] e pos :: more) env) K :=
 Ex.cons (Ex.assign h hx kr k hs)
theorem S.aug {x : String} {p pos : Pos} {e : Expr} {a b : Int} {rest : List (String × RV)} (hx : x ∈ ns) (hm : (x, RV.pv (.int a)) ∈ σ.v) (kr : Keep [x] σ.v rest) (h : Ev Γ n env σ e (.pv (.int b)))
  (k : Ex Γ τ n env ns ⟨(x, .pv (.int (a + b))) :: rest, σ.o⟩ (execs more env) K) : Ex Γ τ n env ns σ (execs (.AugAssign (.Name (Str.ofString x) p) .Add e pos :: more) env) K :=
 Ex.cons (Ex.aug hm h ⟨rfl, rfl⟩ hx kr k)
theorem S.own (k : Nat) {x : String} {p pos : Pos} {e : Expr} {xs : List PV} {rest : List (String × RV)} (hx : x ∈ ns) (hs : swapsWith e (some (.Name (Str.ofString x) p)) pos.line env = pure false) (kr : Keep [x] σ.v rest) (hk : rest.all (fun p => p.2.key != some k) = true) (hko : σ.o.all (fun p => p.1 != k) = true) (h : EvF Γ n env σ (eval e env) xs)
  (c : Ex Γ τ n env ns ⟨(x, .ptr k) :: rest, (k, xs) :: σ.o⟩ (execs more env) K) : Ex Γ τ n env ns σ (execs (.Assign [.Name (Str.ofString x) p] e pos :: more) env) K :=
 Ex.cons (Ex.assignOwn k h hx kr hk hko c hs)
theorem S.app {x : String} {p apos pos pos' : Pos} {e : Expr} {k : Nat} {xs : List PV} {v : PV} {orest : List (Nat × List PV)} (G : EnvG env) (hline : (apos.endLine == pos.line) = true) (hs : swapsWith (.Call (.Attribute (.Name (Str.ofString x) p) (Str.ofString "append") apos) [e] [] pos) none pos'.line env = pure false) (hstar : ∀ env, starEach [e] env = [(false, eval e env)]) (hd : (Str.ofString x == ("__debug__" : Str)) = false)
  (hm : (x, RV.ptr k) ∈ σ.v) (ho : (k, xs) ∈ σ.o) (ko : KeepO k σ.o orest) (h : Ev Γ n env σ e (.pv v)) (hz : xs.length ≤ 2 ^ 24) (c : Ex Γ τ n env ns ⟨σ.v, (k, xs ++ [v]) :: orest⟩ (execs more env) K) :
  Ex Γ τ n env ns σ (execs (.Expr (.Call (.Attribute (.Name (Str.ofString x) p) (Str.ofString "append") apos) [e] [] pos) pos' :: more) env) K := Ex.cons (Ex.append G hm ho ko h hz c hline hstar hs hd)
theorem S.add {x : String} {p pos pos' : Pos} {e : Expr} {k : Nat} {xs : List PV} {v : PV} {orest : List (Nat × List PV)} (G : EnvG env) (hs : swapsWith (.Call (.Name (Str.ofString x) p) [e] [] pos) none pos'.line env = pure false) (hstar : ∀ env, starEach [e] env = [(false, eval e env)]) (hd : (Str.ofString x == ("__debug__" : Str)) = false)
  (hm : (x, RV.app k) ∈ σ.v) (ho : (k, xs) ∈ σ.o) (ko : KeepO k σ.o orest) (h : Ev Γ n env σ e (.pv v)) (hz : xs.length ≤ 2 ^ 24) (c : Ex Γ τ n env ns ⟨σ.v, (k, xs ++ [v]) :: orest⟩ (execs more env) K) :
  Ex Γ τ n env ns σ (execs (.Expr (.Call (.Name (Str.ofString x) p) [e] [] pos) pos' :: more) env) K := Ex.cons (Ex.add G hm ho ko h hz c hstar hs hd)
theorem S.ext {x : String} {p apos pos pos' : Pos} {e : Expr} {k : Nat} {xs ys : List PV} {orest : List (Nat × List PV)} (G : EnvG env) (hline : (apos.endLine == pos.line) = true) (hs : swapsWith (.Call (.Attribute (.Name (Str.ofString x) p) (Str.ofString "extend") apos) [e] [] pos) none pos'.line env = pure false) (hstar : ∀ env, starEach [e] env = [(false, eval e env)]) (hd : (Str.ofString x == ("__debug__" : Str)) = false)
  (hm : (x, RV.ptr k) ∈ σ.v) (ho : (k, xs) ∈ σ.o) (ko : KeepO k σ.o orest) (h : Ev Γ n env σ e (.pv (.list ys))) (hz : xs.length + ys.length ≤ 2 ^ 24) (c : Ex Γ τ n env ns ⟨σ.v, (k, xs ++ ys) :: orest⟩ (execs more env) K) :
  Ex Γ τ n env ns σ (execs (.Expr (.Call (.Attribute (.Name (Str.ofString x) p) (Str.ofString "extend") apos) [e] [] pos) pos' :: more) env) K := Ex.cons (Ex.extend G hm ho ko h hz c hline hstar hs hd)
theorem S.ret {e : Expr} {v : PV} {pos : Pos} (h : Ev Γ n env σ e (.pv v)) (k : K (.rt v) σ) : Ex Γ τ n env ns σ (execs (.Return (some e) pos :: more) env) K := Ex.cons (Ex.ret h k)
theorem S.assert {c : Expr} {m : Option Expr} {pos : Pos} (h : Evb Γ n env σ c true) (k : Ex Γ τ n env ns σ (execs more env) K) : Ex Γ τ n env ns σ (execs (.Assert c m pos :: more) env) K := Ex.cons (Ex.assert h k)
theorem S.brk {pos : Pos} (k : K .bk σ) : Ex Γ τ n env ns σ (execs (.Break pos :: more) env) K := Ex.cons (Ex.brk k)
theorem S.ite {c : Expr} {b : Bool} {body orelse : List Stmt} {pos : Pos} (h : Evb Γ n env σ c b) (ht : b = true → Ex Γ τ n env ns σ (execs body env) (thenK Γ τ n env ns more K)) (hf : b = false → Ex Γ τ n env ns σ (execs orelse env) (thenK Γ τ n env ns more K)) :
  Ex Γ τ n env ns σ (execs (.If c body orelse pos :: more) env) K := Ex.cons (Ex.ite h ht hf)
theorem S.nil (k : Ex Γ τ n env ns σ (execs more env) K) : Ex Γ τ n env ns σ (execs [] env) (thenK Γ τ n env ns more K) := Ex.nil k
theorem S.unp {tgt : Expr} {xs : List String} {pos : Pos} {e : Expr} {its : List PV} {rest : List (String × RV)} (T : Tgt tgt xs) (hn : xs.Nodup) (hx : ∀ x ∈ xs, x ∈ ns) (kr : Keep xs σ.v rest) (hT : ∃ es j p, tgt = .Tuple es j p) (h : Ev Γ n env σ e (.pv (.tup its))) (hl : its.length = xs.length)
  (he : ∀ env, exec (.Assign [tgt] e pos) env = (do
   standAt pos
   let v ← eval e env
   PySem.assign tgt env v
   pure .next)) (k : Ex Γ τ n env ns ⟨(xs.zip its).map (fun p => (p.1, RV.pv p.2)) ++ rest, σ.o⟩ (execs more env) K) : Ex Γ τ n env ns σ (execs (.Assign [tgt] e pos :: more) env) K := Ex.cons (Ex.unpack h T hn hx hl kr k hT he)
end
structure E (Γ : Cx) (n : Nat) (env : Env) (σ : St) (e : Expr) (r : RV) : Prop where
 run : Ev Γ n env σ e r
structure EL (Γ : Cx) (n : Nat) (env : Env) (σ : St) (e : Expr) (xs : List PV) : Prop where
 run : EvL Γ n env σ e xs
structure B (Γ : Cx) (n : Nat) (env : Env) (σ : St) (e : Expr) (b : Bool) : Prop where
 run : Evb Γ n env σ e b
structure EA (Γ : Cx) (n : Nat) (env : Env) (σ : St) (pos : Pos) (es : List Expr) (vs : List PV) : Prop where
 run : EvS Γ n env σ pos es (pvs vs)
structure EP (Γ : Cx) (n : Nat) (env : Env) (σ : St) (e : Option Expr) (k : Option Int) : Prop where
 run : EvPart Γ n env σ e k
structure EF (Γ : Cx) (n : Nat) (env : Env) (σ : St) (e : Expr) (xs : List PV) : Prop where
 run : EvF Γ n env σ (eval e env) xs
section
variable {Γ : Cx} {n : Nat} {env : Env} {σ : St} {sc scope : Scope} {ns : List String} {α β : Type}
theorem E.int {i : Int} {k : Nat} {pos : Pos} : E Γ n env σ (.Constant (.int i) k pos) (.pv (.int i)) := ⟨Ev.int⟩
theorem E.str {s : String} {k : Nat} {pos : Pos} : E Γ n env σ (.Constant (.str (Str.ofString s)) k pos) (.pv (.str (cs s))) := ⟨Ev.strS⟩
theorem E.bool {b : Bool} {k : Nat} {pos : Pos} : E Γ n env σ (.Constant (.bool b) k pos) (.pv (.bool b)) := ⟨Ev.bool⟩
theorem E.none {k : Nat} {pos : Pos} : E Γ n env σ (.Constant .none k pos) (.pv .none) := ⟨Ev.constNone⟩
theorem E.var {x : String} {pos : Pos} {r : RV} (G : EnvS env sc) (hm : (x, r) ∈ σ.v) (hd : (Str.ofString x == ("__debug__" : Str)) = false) : E Γ n env σ (.Name (Str.ofString x) pos) r := ⟨Ev.var G.g hm hd⟩
theorem E.add {l r : Expr} {pos : Pos} {a b : Int} (ha : E Γ n env σ l (.pv (.int a))) (hb : E Γ n env σ r (.pv (.int b))) : E Γ n env σ (.BinOp l .Add r pos) (.pv (.int (a + b))) := ⟨Ev.add_int ha.run hb.run⟩
theorem E.sub {l r : Expr} {pos : Pos} {a b : Int} (ha : E Γ n env σ l (.pv (.int a))) (hb : E Γ n env σ r (.pv (.int b))) : E Γ n env σ (.BinOp l .Sub r pos) (.pv (.int (a - b))) := ⟨Ev.sub_int ha.run hb.run⟩
theorem E.mul {l r : Expr} {pos : Pos} {a b : Int} (ha : E Γ n env σ l (.pv (.int a))) (hb : E Γ n env σ r (.pv (.int b))) (hm : IntMulOk a b) : E Γ n env σ (.BinOp l .Mult r pos) (.pv (.int (a * b))) := ⟨Ev.mul_int ha.run hb.run hm⟩
theorem E.fdiv {l r : Expr} {pos : Pos} {a b : Int} (ha : E Γ n env σ l (.pv (.int a))) (hb : E Γ n env σ r (.pv (.int b))) (h0 : b ≠ 0) (h1 : b.natAbs < 2 ^ 200) : E Γ n env σ (.BinOp l .FloorDiv r pos) (.pv (.int (a.fdiv b))) := ⟨Ev.fdiv ha.run hb.run h0 h1⟩
theorem E.fmod {l r : Expr} {pos : Pos} {a b : Int} (ha : E Γ n env σ l (.pv (.int a))) (hb : E Γ n env σ r (.pv (.int b))) (h0 : b ≠ 0) : E Γ n env σ (.BinOp l .Mod r pos) (.pv (.int (a.fmod b))) := ⟨Ev.fmod ha.run hb.run h0⟩
theorem E.pow {l r : Expr} {pos : Pos} {a b : Int} (ha : E Γ n env σ l (.pv (.int a))) (hb : E Γ n env σ r (.pv (.int b))) (h0 : 0 ≤ b) (h1 : b ≤ 1000) (h2 : a.natAbs < 100) : E Γ n env σ (.BinOp l .Pow r pos) (.pv (.int (a ^ b.toNat))) := ⟨Ev.pow ha.run hb.run h0 h1 h2⟩
theorem E.neg {x : Expr} {pos : Pos} {a : Int} (ha : E Γ n env σ x (.pv (.int a))) : E Γ n env σ (.UnaryOp .USub x pos) (.pv (.int (-a))) := ⟨Ev.neg ha.run⟩
theorem E.adds {l r : Expr} {pos : Pos} {a b : List Nat} (ha : E Γ n env σ l (.pv (.str a))) (hb : E Γ n env σ r (.pv (.str b))) (hz : a.length + b.length ≤ 2 ^ 24) : E Γ n env σ (.BinOp l .Add r pos) (.pv (.str (a ++ b))) := ⟨Ev.add_str ha.run hb.run hz⟩
theorem E.addl {l r : Expr} {pos : Pos} {a b : List PV} (ha : EL Γ n env σ l a) (hb : EL Γ n env σ r b) (hz : a.length + b.length ≤ 2 ^ 24) : E Γ n env σ (.BinOp l .Add r pos) (.pv (.list (a ++ b))) := ⟨Ev.add_list ha.run hb.run hz⟩
theorem E.mull {l r : Expr} {pos : Pos} {a : List PV} {x : Int} (ha : EL Γ n env σ l a) (hb : E Γ n env σ r (.pv (.int x))) (hx : -(2 ^ 40) ≤ x ∧ x ≤ 2 ^ 40) (hz : a.length * x.toNat ≤ 2 ^ 24) : E Γ n env σ (.BinOp l .Mult r pos) (.pv (.list (List.replicate x.toNat a).flatten)) := ⟨Ev.mul_list ha.run hb.run hx hz⟩
theorem EL.of {e : Expr} {xs : List PV} (h : E Γ n env σ e (.pv (.list xs))) : EL Γ n env σ e xs := ⟨EvL.of_list h.run⟩
theorem EL.own {x : String} {pos : Pos} {j : Nat} {xs : List PV} (G : EnvS env sc) (hm : (x, RV.ptr j) ∈ σ.v) (ho : (j, xs) ∈ σ.o) (hd : (Str.ofString x == ("__debug__" : Str)) = false) : EL Γ n env σ (.Name (Str.ofString x) pos) xs := ⟨EvL.own G.g hm ho hd⟩
theorem E.items {value slice : Expr} {pos : Pos} {x : List Nat} {i : Int} {c : Nat} (ho : E Γ n env σ value (.pv (.str x))) (hi : E Γ n env σ slice (.pv (.int i))) (hr : -(2 ^ 60) ≤ i ∧ i ≤ 2 ^ 60) (hc : (seqIndex? i x.length).bind (x[·]?) = some c)
  (hs : ∀ o i, subscripted slice false o i = operate [o, i] (getItem o i) := by intro _ _; rfl) : E Γ n env σ (.Subscript value slice pos) (.pv (.str [c])) := ⟨Ev.item_str ho.run hi.run hr hc hs⟩
theorem E.iteml {value slice : Expr} {pos : Pos} {xs : List PV} {i : Int} {v : PV} (ho : EL Γ n env σ value xs) (hi : E Γ n env σ slice (.pv (.int i))) (h0 : 0 ≤ i) (h1 : i ≤ 2 ^ 60) (hc : xs[i.toNat]? = some v)
  (hs : ∀ o i, subscripted slice false o i = operate [o, i] (getItem o i) := by intro _ _; rfl) : E Γ n env σ (.Subscript value slice pos) (.pv v) := ⟨Ev.item_list ho.run hi.run h0 h1 hc hs⟩
theorem E.itemt {value slice : Expr} {pos : Pos} {xs : List PV} {i : Int} {v : PV} (ho : E Γ n env σ value (.pv (.tup xs))) (hi : E Γ n env σ slice (.pv (.int i))) (h0 : 0 ≤ i) (h1 : i ≤ 2 ^ 60) (hc : xs[i.toNat]? = some v)
  (hs : ∀ o i, subscripted slice false o i = operate [o, i] (getItem o i) := by intro _ _; rfl) : E Γ n env σ (.Subscript value slice pos) (.pv v) := ⟨Ev.item_tup ho.run hi.run h0 h1 hc hs⟩
theorem EP.no : EP Γ n env σ Option.none Option.none := ⟨EvPart.no⟩
theorem EP.yes {e : Expr} {i : Int} (h : E Γ n env σ e (.pv (.int i))) : EP Γ n env σ (some e) (some i) := ⟨EvPart.yes h.run⟩
theorem E.cuts {value : Expr} {lo hi : Option Expr} {p pos : Pos} {x : List Nat} {a b : Option Int} (ho : E Γ n env σ value (.pv (.str x))) (ha : EP Γ n env σ lo a) (hb : EP Γ n env σ hi b) (hz : x.length ≤ 2 ^ 24) : E Γ n env σ (.Subscript value (.Slice lo hi Option.none p) pos) (.pv (.str (cut a b x))) := ⟨Ev.cut_str ho.run ha.run hb.run hz⟩
theorem E.cutl {value : Expr} {lo hi : Option Expr} {p pos : Pos} {xs : List PV} {a b : Option Int} (ho : EL Γ n env σ value xs) (ha : EP Γ n env σ lo a) (hb : EP Γ n env σ hi b) (hz : xs.length ≤ 2 ^ 24) : E Γ n env σ (.Subscript value (.Slice lo hi Option.none p) pos) (.pv (.list (cut a b xs))) := ⟨Ev.cut_list ho.run ha.run hb.run hz⟩
theorem E.cutstep {value st : Expr} {lo hi : Option Expr} {p pos : Pos} {xs : List PV} {a b : Option Int} {c : Int} (ho : EL Γ n env σ value xs) (ha : EP Γ n env σ lo a) (hb : EP Γ n env σ hi b) (hc : E Γ n env σ st (.pv (.int c))) (h0 : c ≠ 0) (hz : xs.length ≤ 2 ^ 24) :
  E Γ n env σ (.Subscript value (.Slice lo hi (some st) p) pos) (.pv (.list ((sliceRange (sliceBounds a b (some c) xs.length).1 (sliceBounds a b (some c) xs.length).2.1 (sliceBounds a b (some c) xs.length).2.2).filterMap (xs[·]?)))) := ⟨Ev.cut_list_step ho.run ha.run hb.run hc.run h0 hz rfl⟩
theorem EA.nil {pos : Pos} : EA Γ n env σ pos [] [] := ⟨EvS.nilR⟩
theorem EA.cons {pos : Pos} {e : Expr} {es : List Expr} {v : PV} {vs : List PV} (h : E Γ n env σ e (.pv v)) (hs : EA Γ n env σ pos es vs) (he : ∀ env, starEach (e :: es) env = (false, eval e env) :: starEach es env) : EA Γ n env σ pos (e :: es) (v :: vs) := ⟨EvS.consR h.run hs.run he⟩
theorem E.list {es : List Expr} {pos : Pos} {xs : List PV} (h : EA Γ n env σ pos es xs) (hz : xs.length ≤ 2 ^ 24) : E Γ n env σ (.List es pos) (.pv (.list xs)) := ⟨Ev.list h.run hz⟩
theorem E.tup {es : List Expr} {c : Nat} {pos : Pos} {xs : List PV} (h : EA Γ n env σ pos es xs) (hz : xs.length ≤ 2 ^ 24) : E Γ n env σ (.Tuple es c pos) (.pv (.tup xs)) := ⟨Ev.tup h.run hz⟩
theorem EF.list {es : List Expr} {pos : Pos} {xs : List PV} (h : EA Γ n env σ pos es xs) (hz : xs.length ≤ 2 ^ 24) : EF Γ n env σ (.List es pos) xs := ⟨EvF.list h.run hz⟩
theorem E.ife {t x y : Expr} {pos : Pos} {b : Bool} {r : RV} (ht : B Γ n env σ t b) (hx : b = true → E Γ n env σ x r) (hy : b = false → E Γ n env σ y r) : E Γ n env σ (.IfExp t x y pos) r := ⟨Ev.ife ht.run (fun h => (hx h).run) fun h => (hy h).run⟩
theorem E.ors {x y : Expr} {pos : Pos} {a b : List Nat} (h : E Γ n env σ x (.pv (.str a))) (hz : a.length < 2 ^ 60) (h' : a = [] → E Γ n env σ y (.pv (.str b))) : E Γ n env σ (.BoolOp .Or [x, y] pos) (.pv (.str (if a = [] then b else a))) :=
 ⟨Ev.or2 (mR _) h.run (Tru.str hz) (fun hb φ H h V d => by
   haveI : a ≠ [] := by intro e; subst e; exact absurd hb Bool.false_ne_true
   rw [if_neg this]; exact d) fun hb => by
  haveI : a = [] := by cases a with | nil => rfl | cons => exact absurd hb.symm Bool.false_ne_true
  rw [if_pos this]; exact (h' this).run⟩
theorem B.eqi {l r : Expr} {pos : Pos} {a b : Int} (ha : E Γ n env σ l (.pv (.int a))) (hb : E Γ n env σ r (.pv (.int b))) (hm : behindInMarks .Eq r = false) : B Γ n env σ (.Compare l [.Eq] [r] pos) (a == b) := ⟨Evb.cmp (mR _) Cmp.eq_int ha.run hb.run hm⟩
theorem B.nei {l r : Expr} {pos : Pos} {a b : Int} (ha : E Γ n env σ l (.pv (.int a))) (hb : E Γ n env σ r (.pv (.int b))) (hm : behindInMarks .NotEq r = false) : B Γ n env σ (.Compare l [.NotEq] [r] pos) (a != b) := ⟨Evb.cmp (mR _) Cmp.ne_int ha.run hb.run hm⟩
theorem B.lti {l r : Expr} {pos : Pos} {a b : Int} (ha : E Γ n env σ l (.pv (.int a))) (hb : E Γ n env σ r (.pv (.int b))) (hm : behindInMarks .Lt r = false) : B Γ n env σ (.Compare l [.Lt] [r] pos) (decide (a < b)) := ⟨Evb.cmp (mR _) Cmp.lt_int ha.run hb.run hm⟩
theorem B.gti {l r : Expr} {pos : Pos} {a b : Int} (ha : E Γ n env σ l (.pv (.int a))) (hb : E Γ n env σ r (.pv (.int b))) (hm : behindInMarks .Gt r = false) : B Γ n env σ (.Compare l [.Gt] [r] pos) (decide (b < a)) := ⟨Evb.cmp (mR _) Cmp.gt_int ha.run hb.run hm⟩
theorem B.gei {l r : Expr} {pos : Pos} {a b : Int} (ha : E Γ n env σ l (.pv (.int a))) (hb : E Γ n env σ r (.pv (.int b))) (hm : behindInMarks .GtE r = false) : B Γ n env σ (.Compare l [.GtE] [r] pos) (decide (b ≤ a)) := ⟨Evb.cmp (mR _) Cmp.ge_int ha.run hb.run hm⟩
theorem B.eqs {l r : Expr} {pos : Pos} {a b : List Nat} (ha : E Γ n env σ l (.pv (.str a))) (hb : E Γ n env σ r (.pv (.str b))) (hm : behindInMarks .Eq r = false) : B Γ n env σ (.Compare l [.Eq] [r] pos) (a == b) := ⟨Evb.cmp (mR _) Cmp.eq_str ha.run hb.run hm⟩
theorem B.nes {l r : Expr} {pos : Pos} {a b : List Nat} (ha : E Γ n env σ l (.pv (.str a))) (hb : E Γ n env σ r (.pv (.str b))) (hm : behindInMarks .NotEq r = false) : B Γ n env σ (.Compare l [.NotEq] [r] pos) (a != b) := ⟨Evb.cmp (mR _) Cmp.ne_str ha.run hb.run hm⟩
theorem B.lts {l r : Expr} {pos : Pos} {a b : List Nat} (ha : E Γ n env σ l (.pv (.str a))) (hb : E Γ n env σ r (.pv (.str b))) (hm : behindInMarks .Lt r = false) : B Γ n env σ (.Compare l [.Lt] [r] pos) (decide (a < b)) := ⟨Evb.cmp (mR _) Cmp.lt_str ha.run hb.run hm⟩
theorem B.gts {l r : Expr} {pos : Pos} {a b : List Nat} (ha : E Γ n env σ l (.pv (.str a))) (hb : E Γ n env σ r (.pv (.str b))) (hm : behindInMarks .Gt r = false) : B Γ n env σ (.Compare l [.Gt] [r] pos) (decide (b < a)) := ⟨Evb.cmp (mR _) Cmp.gt_str ha.run hb.run hm⟩
theorem B.eqt (t : Ty) {l r : Expr} {pos : Pos} {v w : PV} (ha : E Γ n env σ l (.pv v)) (hb : E Γ n env σ r (.pv w)) (hv : HasTy t v) (hw : HasTy t w) (ht : t.depth ≤ 8) (hm : behindInMarks .Eq r = false) : B Γ n env σ (.Compare l [.Eq] [r] pos) (eqp t v w) := ⟨Evb.cmp (mR _) (Cmp.eq_ty hv hw ht) ha.run hb.run hm⟩
theorem B.net (t : Ty) {l r : Expr} {pos : Pos} {v w : PV} (ha : E Γ n env σ l (.pv v)) (hb : E Γ n env σ r (.pv w)) (hv : HasTy t v) (hw : HasTy t w) (ht : t.depth ≤ 8) (hm : behindInMarks .NotEq r = false) : B Γ n env σ (.Compare l [.NotEq] [r] pos) (!eqp t v w) := ⟨Evb.cmp (mR _) (Cmp.ne_ty hv hw ht) ha.run hb.run hm⟩
theorem E.eqt (t : Ty) {l r : Expr} {pos : Pos} {v w : PV} (ha : E Γ n env σ l (.pv v)) (hb : E Γ n env σ r (.pv w)) (hv : HasTy t v) (hw : HasTy t w) (ht : t.depth ≤ 8) (hm : behindInMarks .Eq r = false) : E Γ n env σ (.Compare l [.Eq] [r] pos) (.pv (.bool (eqp t v w))) := ⟨Ev.cmp (mR _) (Cmp.eq_ty hv hw ht) ha.run hb.run hm⟩
theorem E.eqi {l r : Expr} {pos : Pos} {a b : Int} (ha : E Γ n env σ l (.pv (.int a))) (hb : E Γ n env σ r (.pv (.int b))) (hm : behindInMarks .Eq r = false) : E Γ n env σ (.Compare l [.Eq] [r] pos) (.pv (.bool (a == b))) := ⟨Ev.cmp (mR _) Cmp.eq_int ha.run hb.run hm⟩
theorem E.eqs {l r : Expr} {pos : Pos} {a b : List Nat} (ha : E Γ n env σ l (.pv (.str a))) (hb : E Γ n env σ r (.pv (.str b))) (hm : behindInMarks .Eq r = false) : E Γ n env σ (.Compare l [.Eq] [r] pos) (.pv (.bool (a == b))) := ⟨Ev.cmp (mR _) Cmp.eq_str ha.run hb.run hm⟩
theorem B.inl (t : Ty) {l r : Expr} {pos : Pos} {x : PV} {xs : List PV} (ha : E Γ n env σ l (.pv x)) (hb : EL Γ n env σ r xs) (hx : HasTy t x) (hxs : ∀ y ∈ xs, HasTy t y) (ht : t.depth ≤ 8) (hm : behindInMarks .In r = false) : B Γ n env σ (.Compare l [.In] [r] pos) (xs.any fun v => eqp t v x) := ⟨Evb.cmp (mR _) (Cmp.in_list hx hxs ht) ha.run hb.run hm⟩
theorem E.inl (t : Ty) {l r : Expr} {pos : Pos} {x : PV} {xs : List PV} (ha : E Γ n env σ l (.pv x)) (hb : EL Γ n env σ r xs) (hx : HasTy t x) (hxs : ∀ y ∈ xs, HasTy t y) (ht : t.depth ≤ 8) (hm : behindInMarks .In r = false) : E Γ n env σ (.Compare l [.In] [r] pos) (.pv (.bool (xs.any fun v => eqp t v x))) := ⟨Ev.cmp (mR _) (Cmp.in_list hx hxs ht) ha.run hb.run hm⟩
theorem B.notinl (t : Ty) {l r : Expr} {pos : Pos} {x : PV} {xs : List PV} (ha : E Γ n env σ l (.pv x)) (hb : EL Γ n env σ r xs) (hx : HasTy t x) (hxs : ∀ y ∈ xs, HasTy t y) (ht : t.depth ≤ 8) (hm : behindInMarks .NotIn r = false) : B Γ n env σ (.Compare l [.NotIn] [r] pos) (!xs.any fun v => eqp t v x) := ⟨Evb.cmp (mR _) (Cmp.notin_list hx hxs ht) ha.run hb.run hm⟩
theorem B.int (t : Ty) {l r : Expr} {pos : Pos} {x : PV} {xs : List PV} (ha : E Γ n env σ l (.pv x)) (hb : E Γ n env σ r (.pv (.tup xs))) (hx : HasTy t x) (hxs : ∀ y ∈ xs, HasTy t y) (ht : t.depth ≤ 8) (hm : behindInMarks .In r = false) : B Γ n env σ (.Compare l [.In] [r] pos) (xs.any fun v => eqp t v x) := ⟨Evb.cmp (mR _) (Cmp.in_tup hx hxs ht) ha.run hb.run hm⟩
theorem B.isnotO {l r : Expr} {pos : Pos} {a b : Nat} (ha : E Γ n env σ l (.pv (.obj a))) (hb : E Γ n env σ r (.pv (.obj b))) (hm : behindInMarks .IsNot r = false) : B Γ n env σ (.Compare l [.IsNot] [r] pos) (a != b) := ⟨Evb.cmp (mR _) Cmp.isnot_obj ha.run hb.run hm⟩
theorem B.isnotS {l r : Expr} {pos : Pos} {a : List Nat} {b : Nat} (ha : E Γ n env σ l (.pv (.str a))) (hb : E Γ n env σ r (.pv (.obj b))) (hm : behindInMarks .IsNot r = false) : B Γ n env σ (.Compare l [.IsNot] [r] pos) true := ⟨Evb.cmp (mR _) Cmp.isnot_str ha.run hb.run hm⟩
theorem B.not {x : Expr} {pos : Pos} {b : Bool} (h : B Γ n env σ x b) : B Γ n env σ (.UnaryOp .Not x pos) (!b) := ⟨Evb.not h.run⟩
theorem B.and0 {pos : Pos} : B Γ n env σ (.BoolOp .And [] pos) true := ⟨Evb.and_nil⟩
theorem B.or0 {pos : Pos} : B Γ n env σ (.BoolOp .Or [] pos) false := ⟨Evb.or_nil⟩
theorem B.and {x : Expr} {rest : List Expr} {pos : Pos} {b c : Bool} (h : B Γ n env σ x b) (h' : b = true → B Γ n env σ (.BoolOp .And rest pos) c) : B Γ n env σ (.BoolOp .And (x :: rest) pos) (b && c) := ⟨Evb.and h.run fun e => (h' e).run⟩
theorem B.or {x : Expr} {rest : List Expr} {pos : Pos} {b c : Bool} (h : B Γ n env σ x b) (h' : b = false → B Γ n env σ (.BoolOp .Or rest pos) c) : B Γ n env σ (.BoolOp .Or (x :: rest) pos) (b || c) := ⟨Evb.or h.run fun e => (h' e).run⟩
theorem B.ofBool {e : Expr} {b : Bool} (h : E Γ n env σ e (.pv (.bool b))) (he : isTrue e env (eval e env) = (do let v ← eval e env; standAt e.pos; holding [v] (truthy v))) : B Γ n env σ e b := ⟨Evb.val h.run Tru.bool he⟩
theorem B.ofStr {e : Expr} {x : List Nat} (h : E Γ n env σ e (.pv (.str x))) (hz : x.length < 2 ^ 60) (he : isTrue e env (eval e env) = (do let v ← eval e env; standAt e.pos; holding [v] (truthy v))) : B Γ n env σ e (!x.isEmpty) := ⟨Evb.val h.run (Tru.str hz) he⟩
theorem B.ofList {e : Expr} {xs : List PV} (h : EL Γ n env σ e xs) (hz : xs.length < 2 ^ 60) (he : isTrue e env (eval e env) = (do let v ← eval e env; standAt e.pos; holding [v] (truthy v))) : B Γ n env σ e (!xs.isEmpty) := ⟨Evb.val h.run (Tru.list hz) he⟩
structure BN (Γ : Cx) (env : Env) (sc : Scope) (x : Str) (v : Value) : Prop where
 G : EnvS env sc
 kind : sc.names.lookup x = some .globalImplicit
 free : Γ.mg x = Option.none
 boot : bootBuiltins x = some v
 n1 : x ≠ "__name__"
 n2 : (x == ("__debug__" : Str)) = false
theorem BN.ev {x : Str} {v : Value} (b : BN Γ env sc x v) {pos : Pos} : EvP Γ n env σ (eval (.Name x pos) env) fun _ _ _ V => V = v := Ev.builtin b.G b.kind b.free b.boot b.n1 b.n2
theorem E.len_str {x : Str} {p pos : Pos} {e : Expr} {a : List Nat} (b : BN Γ env sc x (.builtin "len")) (ha : E Γ n env σ e (.pv (.str a))) (hz : a.length < 2 ^ 60) (he : ∀ env, starEach [e] env = (false, eval e env) :: starEach [] env) : E Γ n env σ (.Call (.Name x p) [e] [] pos) (.pv (.int a.length)) :=
 ⟨Ev.call_fn b.ev (EvS.cons (mR _) ha.run EvS.nil he) (CallB.len_str hz) he⟩
theorem E.len_list {x : Str} {p pos : Pos} {e : Expr} {a : List PV} (b : BN Γ env sc x (.builtin "len")) (ha : EL Γ n env σ e a) (hz : a.length < 2 ^ 60) (he : ∀ env, starEach [e] env = (false, eval e env) :: starEach [] env) : E Γ n env σ (.Call (.Name x p) [e] [] pos) (.pv (.int a.length)) :=
 ⟨Ev.call_fn b.ev (EvS.cons (mL _) ha.run EvS.nil he) (CallB.len_list hz) he⟩
theorem E.chr {x : Str} {p pos : Pos} {e : Expr} {i : Int} (b : BN Γ env sc x (.builtin "chr")) (ha : E Γ n env σ e (.pv (.int i))) (h0 : 0 ≤ i) (h1 : i ≤ 1114111) (he : ∀ env, starEach [e] env = (false, eval e env) :: starEach [] env) : E Γ n env σ (.Call (.Name x p) [e] [] pos) (.pv (.str [i.toNat])) :=
 ⟨Ev.call_fn b.ev (EvS.cons (mR _) ha.run EvS.nil he) (CallB.chr h0 h1) he⟩
theorem E.range1 {x : Str} {p pos : Pos} {e : Expr} {i : Int} (b : BN Γ env sc x (.type "range")) (ha : E Γ n env σ e (.pv (.int i))) (he : ∀ env, starEach [e] env = (false, eval e env) :: starEach [] env) : E Γ n env σ (.Call (.Name x p) [e] [] pos) (.pv (.rng 0 i)) :=
 ⟨Ev.call_ty b.ev (EvS.cons (mR _) ha.run EvS.nil he) CallB.range1 he⟩
theorem E.range2 {x : Str} {p pos : Pos} {e e' : Expr} {i j : Int} (b : BN Γ env sc x (.type "range")) (ha : E Γ n env σ e (.pv (.int i))) (hb : E Γ n env σ e' (.pv (.int j))) (he : ∀ env, starEach [e, e'] env = (false, eval e env) :: starEach [e'] env) (he' : ∀ env, starEach [e'] env = (false, eval e' env) :: starEach [] env) : E Γ n env σ (.Call (.Name x p) [e, e'] [] pos) (.pv (.rng i j)) :=
 ⟨Ev.call_ty b.ev (EvS.cons (mR _) ha.run (EvS.cons (mR _) hb.run EvS.nil he') he) CallB.range2 he (fun env => by rw [he']; rfl)⟩
structure DN (Γ : Cx) (env : Env) (sc : Scope) (x : Str) (f : Addr) : Prop where
 G : EnvS env sc
 kind : sc.names.lookup x = some .globalImplicit
 at_ : Γ.mg x = some (.ref f)
 n2 : (x == ("__debug__" : Str)) = false
 fn : ∃ o fd, Γ.hB.get? f = some o ∧ o.data = .func fd
theorem E.call {x : Str} {p pos : Pos} {f : Addr} {e : Expr} {es : List Expr} {xs : List PV} {r : PV} (b : DN Γ env sc x f) (F : FSpec Γ n f xs r) (ha : EA Γ n env σ pos (e :: es) xs)
  (he : ∀ env, starEach (e :: es) env = (false, eval e env) :: starEach es env) : E Γ n env σ (.Call (.Name x p) (e :: es) [] pos) (.pv r) := by
 obtain ⟨o, fd, ho, hd⟩ := b.fn
 exact ⟨Ev.call_def (Ev.global b.G b.kind b.at_ b.n2) ho hd F ha.run he⟩
theorem I.listA {e : Expr} {x : String} {p : Pos} {as : List α} {c : α → PV} (he : E Γ n env σ e (.pv (.list (as.map c)))) : EvI Γ n env σ e (.Name (Str.ofString x) p) (as.map fun y => [c y]) := by
 have := EvI.list (x := x) (p := p) he.run
 rwa [List.map_map] at this
theorem I.str {e : Expr} {x : String} {p : Pos} {a : List Nat} (he : E Γ n env σ e (.pv (.str a))) : EvI Γ n env σ e (.Name (Str.ofString x) p) (a.map fun c => [.str [c]]) := EvI.str he.run
theorem I.rng {e : Expr} {x : String} {p : Pos} {a b : Int} (he : E Γ n env σ e (.pv (.rng a b))) (h0 : -(2 ^ 61) ≤ a ∧ a < 2 ^ 61) (h1 : -(2 ^ 61) ≤ b ∧ b < 2 ^ 61) : EvI Γ n env σ e (.Name (Str.ofString x) p) ((rngL a b).map fun i => [.int i]) := EvI.rng he.run h0 h1
theorem I.enum {x : Str} {p pos tpos : Pos} {e : Expr} {es : List Expr} {j : Nat} {xs : List PV} (b : BN Γ env sc x (.type "enumerate")) (ha : E Γ n env σ e (.pv (.list xs))) (he : ∀ env, starEach [e] env = (false, eval e env) :: starEach [] env) : EvI Γ n env σ (.Call (.Name x p) [e] [] pos) (.Tuple es j tpos) (xs.zipIdx.map fun p => [.int p.2, p.1]) :=
 EvI.call_ty b.ev (EvS.cons (mR _) ha.run EvS.nil he) CallI.enum he
theorem E.comp {elt tgt iter : Expr} {pos : Pos} {xs : List String} {its : List α} {cv : α → List PV} {f : α → PV} {l : List (String × PV)}
  (G : EnvS env sc) (C : CompOK scope sc (".0" :: xs)) (hl0 : Caps scope σ l) (T : Tgt tgt xs) (hn : xs.Nodup) (hi : ∀ x, (cv x).length = xs.length) (hI : EvI Γ n env σ iter tgt (its.map cv))
  (hz : its.length ≤ 2 ^ 24) (hin : ∀ cenv, EnvS cenv (relab scope sc) → ∀ x ∈ its, E Γ n cenv (pvSt (xs.zip (cv x) ++ l)) elt (.pv (f x))) (hs : ∀ x, foldedSetIterable iter env x = pure x := by intro _; rfl) :
  E Γ n env σ (.ListComp elt [⟨tgt, iter, [], 0⟩] scope pos) (.pv (.list (its.map f))) := ⟨Ev.compA G C hl0 T hn hi hI hz (fun c g x hx => (hin c g x hx).run) hs⟩
theorem E.compIf {elt tgt iter c : Expr} {pos : Pos} {xs : List String} {its : List α} {cv : α → List PV} {tb : α → Bool} {f : α → PV} {l : List (String × PV)}
  (G : EnvS env sc) (C : CompOK scope sc (".0" :: xs)) (hl0 : Caps scope σ l) (T : Tgt tgt xs) (hn : xs.Nodup) (hi : ∀ x, (cv x).length = xs.length) (hI : EvI Γ n env σ iter tgt (its.map cv))
  (hz : its.length ≤ 2 ^ 24) (ht : ∀ cenv, EnvS cenv (relab scope sc) → ∀ x ∈ its, B Γ n cenv (pvSt (xs.zip (cv x) ++ l)) c (tb x)) (hin : ∀ cenv, EnvS cenv (relab scope sc) → ∀ x ∈ its, tb x = true → E Γ n cenv (pvSt (xs.zip (cv x) ++ l)) elt (.pv (f x))) (hs : ∀ x, foldedSetIterable iter env x = pure x := by intro _; rfl) :
  E Γ n env σ (.ListComp elt [⟨tgt, iter, [c], 0⟩] scope pos) (.pv (.list ((its.filter tb).map f))) := ⟨Ev.compIf G C hl0 T hn hi hI hz (fun c g x hx => (ht c g x hx).run) (fun c g x hx hb => (hin c g x hx hb).run) hs⟩
theorem E.comp2 {elt tgt iter tgt' iter' : Expr} {pos : Pos} {xs xs' : List String} {its : List α} {its' : α → List β} {cv : α → List PV} {cv' : β → List PV} {f : α → β → PV} {l : List (String × PV)}
  (G : EnvS env sc) (C : CompOK scope sc (".0" :: (xs ++ xs'))) (hl0 : Caps scope σ l) (T : Tgt tgt xs) (T' : Tgt tgt' xs') (hn : xs.Nodup) (hn' : xs'.Nodup) (hd : ∀ x ∈ xs, x ∉ xs')
  (hi : ∀ x, (cv x).length = xs.length) (hi' : ∀ y, (cv' y).length = xs'.length) (hI : EvI Γ n env σ iter tgt (its.map cv)) (hz : (its.flatMap fun x => (its' x).map (f x)).length ≤ 2 ^ 24)
  (hin1 : ∀ cenv, EnvS cenv (relab scope sc) → ∀ x ∈ its, EvI Γ n cenv (pvSt (xs.zip (cv x) ++ l)) iter' tgt' ((its' x).map cv'))
  (hin2 : ∀ cenv, EnvS cenv (relab scope sc) → ∀ x ∈ its, ∀ y ∈ its' x, E Γ n cenv (pvSt (xs'.zip (cv' y) ++ (xs.zip (cv x) ++ l))) elt (.pv (f x y))) (hs : ∀ env x, foldedSetIterable iter env x = pure x) (hs' : ∀ env x, foldedSetIterable iter' env x = pure x) :
  E Γ n env σ (.ListComp elt [⟨tgt, iter, [], 0⟩, ⟨tgt', iter', [], 0⟩] scope pos) (.pv (.list (its.flatMap fun x => (its' x).map (f x)))) :=
 ⟨Ev.comp2 G C hI T T' hn hn' hd hl0.all (fun x _ => hi x) (fun x _ y _ => hi' y) hz hs hs' fun c g x hx => ⟨hin1 c g x hx, fun y hy => (hin2 c g x hx y hy).run⟩⟩
end
structure X (Γ : Cx) (τ n : Nat) (env : Env) (ns : List String) (σ : St) (b : List Stmt) (K : AF → St → Prop) : Prop where
 run : Ex Γ τ n env ns σ (execs b env) K
noncomputable def kx (Γ : Cx) (τ n : Nat) (env : Env) (ns : List String) (more : List Stmt) (K : AF → St → Prop) : AF → St → Prop
 | .nx, σ => X Γ τ n env ns σ more K
 | a, σ => K a σ
noncomputable def kl (next : St → Prop) (K : AF → St → Prop) : AF → St → Prop
 | .nx, σ => next σ
 | .ct, σ => next σ
 | .bk, σ => K .nx σ
 | .rt v, σ => K (.rt v) σ
section
variable {Γ : Cx} {τ n : Nat} {env : Env} {σ : St} {sc scope : Scope} {ns : List String} {K : AF → St → Prop} {α β : Type} {more : List Stmt}
theorem qw6 {a : AF} {s : St} (h : kx Γ τ n env ns more K a s) : thenK Γ τ n env ns more K a s := by
 cases a with
 | nx => exact (show X _ _ _ _ _ _ _ _ from h).run
 | _ => exact h
theorem X.asg {x : String} {p pos : Pos} {e : Expr} {r : RV} {rest : List (String × RV)} (hx : x ∈ ns) (hs : swapsWith e (some (.Name (Str.ofString x) p)) pos.line env = pure false) (kr : Keep [x] σ.v rest) (h : E Γ n env σ e r)
  (k : X Γ τ n env ns ⟨(x, r) :: rest, σ.o⟩ more K) : X Γ τ n env ns σ (.Assign [.Name (Str.ofString x) p] e pos :: more) K := ⟨S.asg hx hs kr h.run k.run⟩
theorem X.aug {x : String} {p pos : Pos} {e : Expr} {a b : Int} {rest : List (String × RV)} (hx : x ∈ ns) (hm : (x, RV.pv (.int a)) ∈ σ.v) (kr : Keep [x] σ.v rest) (h : E Γ n env σ e (.pv (.int b)))
  (k : X Γ τ n env ns ⟨(x, .pv (.int (a + b))) :: rest, σ.o⟩ more K) : X Γ τ n env ns σ (.AugAssign (.Name (Str.ofString x) p) .Add e pos :: more) K := ⟨S.aug hx hm kr h.run k.run⟩
theorem X.own (k : Nat) {x : String} {p pos : Pos} {e : Expr} {xs : List PV} {rest : List (String × RV)} (hx : x ∈ ns) (hs : swapsWith e (some (.Name (Str.ofString x) p)) pos.line env = pure false) (kr : Keep [x] σ.v rest) (hk : rest.all (fun p => p.2.key != some k) = true) (hko : σ.o.all (fun p => p.1 != k) = true) (h : EF Γ n env σ e xs)
  (c : X Γ τ n env ns ⟨(x, .ptr k) :: rest, (k, xs) :: σ.o⟩ more K) : X Γ τ n env ns σ (.Assign [.Name (Str.ofString x) p] e pos :: more) K := ⟨S.own k hx hs kr hk hko h.run c.run⟩
theorem X.app {x : String} {p apos pos pos' : Pos} {e : Expr} {k : Nat} {xs : List PV} {v : PV} {orest : List (Nat × List PV)} (G : EnvS env sc) (hline : (apos.endLine == pos.line) = true) (hs : swapsWith (.Call (.Attribute (.Name (Str.ofString x) p) (Str.ofString "append") apos) [e] [] pos) none pos'.line env = pure false) (hstar : ∀ env, starEach [e] env = [(false, eval e env)]) (hd : (Str.ofString x == ("__debug__" : Str)) = false)
  (hm : (x, RV.ptr k) ∈ σ.v) (ho : (k, xs) ∈ σ.o) (ko : KeepO k σ.o orest) (h : E Γ n env σ e (.pv v)) (hz : xs.length ≤ 2 ^ 24) (c : X Γ τ n env ns ⟨σ.v, (k, xs ++ [v]) :: orest⟩ more K) :
  X Γ τ n env ns σ (.Expr (.Call (.Attribute (.Name (Str.ofString x) p) (Str.ofString "append") apos) [e] [] pos) pos' :: more) K := ⟨S.app G.g hline hs hstar hd hm ho ko h.run hz c.run⟩
theorem X.add {x : String} {p pos pos' : Pos} {e : Expr} {k : Nat} {xs : List PV} {v : PV} {orest : List (Nat × List PV)} (G : EnvS env sc) (hs : swapsWith (.Call (.Name (Str.ofString x) p) [e] [] pos) none pos'.line env = pure false) (hstar : ∀ env, starEach [e] env = [(false, eval e env)]) (hd : (Str.ofString x == ("__debug__" : Str)) = false)
  (hm : (x, RV.app k) ∈ σ.v) (ho : (k, xs) ∈ σ.o) (ko : KeepO k σ.o orest) (h : E Γ n env σ e (.pv v)) (hz : xs.length ≤ 2 ^ 24) (c : X Γ τ n env ns ⟨σ.v, (k, xs ++ [v]) :: orest⟩ more K) :
  X Γ τ n env ns σ (.Expr (.Call (.Name (Str.ofString x) p) [e] [] pos) pos' :: more) K := ⟨S.add G.g hs hstar hd hm ho ko h.run hz c.run⟩
theorem X.ext {x : String} {p apos pos pos' : Pos} {e : Expr} {k : Nat} {xs ys : List PV} {orest : List (Nat × List PV)} (G : EnvS env sc) (hline : (apos.endLine == pos.line) = true) (hs : swapsWith (.Call (.Attribute (.Name (Str.ofString x) p) (Str.ofString "extend") apos) [e] [] pos) none pos'.line env = pure false) (hstar : ∀ env, starEach [e] env = [(false, eval e env)]) (hd : (Str.ofString x == ("__debug__" : Str)) = false)
  (hm : (x, RV.ptr k) ∈ σ.v) (ho : (k, xs) ∈ σ.o) (ko : KeepO k σ.o orest) (h : E Γ n env σ e (.pv (.list ys))) (hz : xs.length + ys.length ≤ 2 ^ 24) (c : X Γ τ n env ns ⟨σ.v, (k, xs ++ ys) :: orest⟩ more K) :
  X Γ τ n env ns σ (.Expr (.Call (.Attribute (.Name (Str.ofString x) p) (Str.ofString "extend") apos) [e] [] pos) pos' :: more) K := ⟨S.ext G.g hline hs hstar hd hm ho ko h.run hz c.run⟩
theorem X.ret {e : Expr} {v : PV} {pos : Pos} (h : E Γ n env σ e (.pv v)) (k : K (.rt v) σ) : X Γ τ n env ns σ (.Return (some e) pos :: more) K := ⟨S.ret h.run k⟩
theorem X.assert {c : Expr} {m : Option Expr} {pos : Pos} (h : B Γ n env σ c true) (k : X Γ τ n env ns σ more K) : X Γ τ n env ns σ (.Assert c m pos :: more) K := ⟨S.assert h.run k.run⟩
theorem X.brk {pos : Pos} (k : K .bk σ) : X Γ τ n env ns σ (.Break pos :: more) K := ⟨S.brk k⟩
theorem X.nil (k : K .nx σ) : X Γ τ n env ns σ [] K := ⟨Ex.nil k⟩
theorem X.ite {c : Expr} {b : Bool} {body orelse : List Stmt} {pos : Pos} (h : B Γ n env σ c b) (ht : b = true → X Γ τ n env ns σ body (kx Γ τ n env ns more K)) (hf : b = false → X Γ τ n env ns σ orelse (kx Γ τ n env ns more K)) :
  X Γ τ n env ns σ (.If c body orelse pos :: more) K := ⟨S.ite h.run (fun e => (ht e).run.mono fun _ _ q => qw6 q) fun e => (hf e).run.mono fun _ _ q => qw6 q⟩
theorem X.unp {es : List Expr} {j : Nat} {tp : Pos} {xs : List String} {pos : Pos} {e : Expr} {its : List PV} {rest : List (String × RV)} (T : Tgt (.Tuple es j tp) xs) (hn : xs.Nodup) (hx : ∀ x ∈ xs, x ∈ ns) (kr : Keep xs σ.v rest) (h : E Γ n env σ e (.pv (.tup its))) (hl : its.length = xs.length)
  (he : ∀ env, exec (.Assign [.Tuple es j tp] e pos) env = (do
   standAt pos
   let v ← eval e env
   PySem.assign (.Tuple es j tp) env v
   pure .next)) (k : X Γ τ n env ns ⟨(xs.zip its).map (fun p => (p.1, RV.pv p.2)) ++ rest, σ.o⟩ more K) : X Γ τ n env ns σ (.Assign [.Tuple es j tp] e pos :: more) K := ⟨S.unp T hn hx kr ⟨es, j, tp, rfl⟩ h.run hl he k.run⟩
theorem X.freeze {b : List Stmt} {k : Nat} {xs : List PV} {v' : List (String × RV)} {orest : List (Nat × List PV)} (ho : (k, xs) ∈ σ.o) (kf : Frz k xs σ.v v') (ko : KeepO k σ.o orest) (h : X Γ τ n env ns ⟨v', orest⟩ b K) : X Γ τ n env ns σ b K := ⟨Ex.freeze ho kf ko h.run⟩
theorem X.while {c : Expr} {body : List Stmt} {pos : Pos} (I : Nat → St → Prop) (m : Nat) (h0 : I m σ)
  (turn : ∀ m σ1, I m σ1 → ∃ b, B Γ n env σ1 c b ∧ (b = false → X Γ τ n env ns σ1 more K) ∧ (b = true → X Γ τ n env ns σ1 body (kl (fun σ2 => ∃ m', m' < m ∧ I m' σ2) (kx Γ τ n env ns more K)))) :
  X Γ τ n env ns σ (.While c body [] pos :: more) K := by
 refine ⟨Ex.cons (Ex.while I (fun m σ1 i => ?_) m h0)⟩
 obtain ⟨b, hb, hf, ht⟩ := turn m σ1 i
 refine ⟨b, hb.run, fun e => (hf e).run, fun e => (ht e).run.mono fun a s q => ?_⟩
 cases a with
 | nx => exact q
 | ct => exact q
 | bk => exact (show X _ _ _ _ _ _ _ _ from q).run
 | rt v => exact q
theorem X.for {iter tgt : Expr} {body : List Stmt} {pos : Pos} {its : List (List PV)} {xs : List String} (I : Nat → St → Prop) (T : Tgt tgt xs) (hn : xs.Nodup) (hxn : ∀ x ∈ xs, x ∈ ns) (hI : EvI Γ n env σ iter tgt its) (hi : ∀ x ∈ its, x.length = xs.length)
  (h0 : I 0 σ) (turn : ∀ i x σ1, its[i]? = some x → I i σ1 → ∃ rest, Keep xs σ1.v rest ∧ X Γ τ n env ns ⟨(xs.zip x).map (fun p => (p.1, RV.pv p.2)) ++ rest, σ1.o⟩ body (kl (I (i + 1)) (kx Γ τ n env ns more K))) (done : ∀ σ1, I its.length σ1 → X Γ τ n env ns σ1 more K)
  (hs : ∀ x, foldedSetIterable iter env x = pure x) : X Γ τ n env ns σ (.For tgt iter body [] pos :: more) K := by
 refine ⟨Ex.cons (Ex.for I hI T hn hxn hi h0 (fun i x σ1 hx hi => ?_) (fun σ1 h => (done σ1 h).run) hs)⟩
 obtain ⟨rest, kr, b⟩ := turn i x σ1 hx hi
 refine ⟨rest, kr, b.run.mono fun a s q => ?_⟩
 cases a with
 | nx => exact q
 | ct => exact q
 | bk => exact (show X _ _ _ _ _ _ _ _ from q).run
 | rt v => exact q
theorem X.comp {x : String} {xp spos : Pos} {elt tgt iter : Expr} {pos : Pos} {xs : List String} {its : List α} {cv : α → List PV} {f : α → PV} {l : List (String × PV)} {rest : List (String × RV)}
  (G : EnvS env sc) (hx : x ∈ ns) (kr : Keep [x] σ.v rest) (C : CompOK scope sc (".0" :: xs)) (hl0 : Caps scope σ l) (T : Tgt tgt xs) (hn : xs.Nodup) (hi : ∀ x, (cv x).length = xs.length) (hI : EvI Γ n env σ iter tgt (its.map cv))
  (hz : its.length ≤ 2 ^ 24) (hin : ∀ cenv, EnvS cenv (relab scope sc) → ∀ x ∈ its, E Γ n cenv (pvSt (xs.zip (cv x) ++ l)) elt (.pv (f x))) (hsw : (sc.names.lookup (Str.ofString x) == some .local && xp.line == pos.line && !(scope.names.any fun (n, k) => n == Str.ofString x && (k == .local || k == .cell))) = true)
  (c : X Γ τ n env ns ⟨(x, .pv (.list (its.map f))) :: rest, σ.o⟩ more K) (hs : ∀ x, foldedSetIterable iter env x = pure x := by intro _; rfl) :
  X Γ τ n env ns σ (.Assign [.Name (Str.ofString x) xp] (.ListComp elt [⟨tgt, iter, [], 0⟩] scope pos) spos :: more) K :=
 ⟨Ex.cons (Ex.compA G hx kr C hl0 T hn hi hI hz (fun c g x hx => (hin c g x hx).run) (qd8 G hsw) c.run hs)⟩
theorem X.compIf {x : String} {xp spos : Pos} {elt tgt iter t : Expr} {pos : Pos} {xs : List String} {its : List α} {cv : α → List PV} {tb : α → Bool} {f : α → PV} {l : List (String × PV)} {rest : List (String × RV)}
  (G : EnvS env sc) (hx : x ∈ ns) (kr : Keep [x] σ.v rest) (C : CompOK scope sc (".0" :: xs)) (hl0 : Caps scope σ l) (T : Tgt tgt xs) (hn : xs.Nodup) (hi : ∀ x, (cv x).length = xs.length) (hI : EvI Γ n env σ iter tgt (its.map cv))
  (hz : its.length ≤ 2 ^ 24) (ht : ∀ cenv, EnvS cenv (relab scope sc) → ∀ x ∈ its, B Γ n cenv (pvSt (xs.zip (cv x) ++ l)) t (tb x)) (hin : ∀ cenv, EnvS cenv (relab scope sc) → ∀ x ∈ its, tb x = true → E Γ n cenv (pvSt (xs.zip (cv x) ++ l)) elt (.pv (f x))) (hsw : (sc.names.lookup (Str.ofString x) == some .local && xp.line == pos.line && !(scope.names.any fun (n, k) => n == Str.ofString x && (k == .local || k == .cell))) = true)
  (c : X Γ τ n env ns ⟨(x, .pv (.list ((its.filter tb).map f))) :: rest, σ.o⟩ more K) (hs : ∀ x, foldedSetIterable iter env x = pure x := by intro _; rfl) :
  X Γ τ n env ns σ (.Assign [.Name (Str.ofString x) xp] (.ListComp elt [⟨tgt, iter, [t], 0⟩] scope pos) spos :: more) K :=
 ⟨Ex.cons (Ex.compIf G hx kr C hl0 T hn hi hI hz (fun c g x hx => (ht c g x hx).run) (fun c g x hx hb => (hin c g x hx hb).run) (qd8 G hsw) c.run hs)⟩
end
theorem FSpec.introX {Γ : Cx} {n : Nat} {K : Frag} {f : Addr} {fd : FuncData} {body : List Stmt} {ps ns : List String} {xs : List PV} {r : PV} {c : Addr} {cvs : Array Value} {t : Tok} {v : List (String × RV)} (KX : K.In Γ.hB) (e1 : (K.lookup f).map Obj.data = some (.func fd)) (hbody : fd.body = .stmts body)
  (hc : fd.code = .ref c) (e2 : (K.lookup c).map (fun o => (isTb o, o.data)) = some (false, .fields cvs)) (hc1 : cvs[1]? = some (.str fd.qualname t)) (C : FunOK fd.scope ps ns)
  (hbind : ∀ Vs : List Value, Vs.length = ps.length → bindArgs fd ⟨Vs, []⟩ = pure ((ps.map Str.ofString).zip Vs)) (hlen : xs.length = ps.length)
  (hrest : fd.closure = [] ∧ fd.globals = mainGlobals ∧ fd.builtins = builtinsNs ∧ fd.scope.isCoroutine = false ∧ fd.scope.isGenerator = false) (hv : (pvSt (ps.zip xs)).v = v)
  (h : ∀ kf env, EnvS env fd.scope → X (Γ.on kf) 0 n env ns ⟨v, []⟩ body fun af _ => af = .rt r) : FSpec Γ (n + 1) f xs r :=
 FSpec.introS KX e1 hbody hc e2 hc1 C hbind hlen hrest hv fun kf env G => (h kf env G).run
noncomputable def S (x : List Nat) : Str := ⟨x.toArray⟩
theorem S_len (x : List Nat) : (S x).length = x.length := by simp [S, Str.length]
theorem S_app (x y : List Nat) : S (x ++ y) = S x ++ S y := by
 show (⟨_⟩ : Str) = ⟨_⟩
 congr 1; simp [S]
noncomputable def jn (sep : List Nat) : List (List Nat) → List Nat
 | [] => []
 | [a] => a
 | a :: b :: r => a ++ sep ++ jn sep (b :: r)
theorem qo9 (sep : List Nat) : ∀ (ts : List (List Nat)), Str.join (S sep) (ts.map S) = S (jn sep ts)
 | [] => rfl
 | [a] => rfl
 | a :: b :: r => by
  haveI ih := qo9 sep (b :: r)
  simp only [List.map_cons] at ih ⊢
  rw [show Str.join (S sep) (S a :: S b :: r.map S) = S a ++ S sep ++ Str.join (S sep) (S b :: r.map S) from rfl, ih, ← S_app, ← S_app]
  rfl
theorem z50 {H : List Addr} {h : Heap} {Vs : List Value} {ts : List (List Nat)} (d : Dens H h Vs (ts.map PV.str)) : ∃ l : List (Str × Tok), Vs = strValues l ∧ l.map (·.1) = ts.map S := by
 induction ts generalizing Vs with
 | nil => cases d using Dens.nl; exact ⟨[], rfl, rfl⟩
 | cons a r ih =>
  cases d using Dens.cn with | cons d ds =>
  obtain ⟨l, e1, e2⟩ := ih ds
  cases d using Den.s with
  | str t => exact ⟨(S a, t) :: l, congrArg _ e1, congrArg _ e2⟩
section
variable {Γ : Cx} {n : Nat} {env : Env} {σ : St} {sc scope : Scope} {ns : List String} {α β : Type}
theorem Ev.smeth {o e : Expr} {es : List Expr} {name : Str} {apos pos : Pos} {id : String} {x : List Nat} {Ps : List (Pred Value)} {P : Pred Value} (ho : Ev Γ n env σ o (.pv (.str x))) (ha : EvS Γ n env σ pos (e :: es) Ps) (slot : Slot "str" name id) (ty : typeOf (.builtin id) = pure (.type "method_descriptor"))
  (hc : CallB Γ n env σ (.builtin id) (PR (.pv (.str x)) :: Ps) P) (hbase : attributeBase o name env (eval o env) = eval o env) (hline : (apos.endLine == pos.line) = true)
  (hfew : ((backTo pos (starEach (e :: es) env)).all (fun x => !x.1) && (backToKw pos (keywordEach [] env)).all (fun x => x.1.isSome) && decide ((e :: es).length + ([] : List Keyword).length + (if ([] : List Keyword).isEmpty then 0 else 1) < 30)) = true)
  (he : starEach (e :: es) env = (false, eval e env) :: starEach es env) (hp : (backTo pos (starEach (e :: es) env)).any (·.1) = false) :
  EvP Γ n env σ (eval (.Call (.Attribute o name apos) (e :: es) [] pos) env) P :=
 .mk fun A E s φ H R ok lv eo Q k => by
  refine wpAny_Call_method_lateS hbase hfew hline (ho.run A E s φ H R ok lv eo _ fun V s1 k1 ok1 d => ⟨"str", id, F.plainAttrs_str, slot, ty, ?_, ?_, ?_⟩)
  ·cases d using Den.s; rfl
  ·intro a ea; subst ea; cases d using Den.s
  refine Calls.callWith_builtin hp ?_
  rw [show backTo pos (starEach (e :: es) env) = (false, eval e env) :: backTo pos (starEach es env) by rw [he]; rfl]
  refine Calls.evalArgs_plain ?_
  rw [show (false, eval e env) :: backTo pos (starEach es env) = backTo pos (starEach (e :: es) env) by rw [he]; rfl]
  exact ha.run A E s1 φ H R ok1 (lv.kp k1) (eo.kp k1) _ fun Vs s2 k2 ok2 ds => hc (V :: Vs) A E s2 φ H R ok2 (lv.kp (k1.trans k2)) (eo.kp (k1.trans k2)) (.cons (mR _ _ _ _ _ _ k2 d) ds) Q fun W s3 k3 ok3 d3 => k W s3 ((k1.trans k2).trans k3) ok3 d3
theorem CallB.join {sep : List Nat} {ts : List (List Nat)} (hz : (ts.map List.length).sum + ts.length * sep.length ≤ 2 ^ 24) : CallB Γ n env σ (.builtin "str.join") [PR (.pv (.str sep)), PL (ts.map .str)] (PR (.pv (.str (jn sep ts)))) := fun Vs A E s φ H R ok lv eo c Q k => by
 obtain ⟨V, W, rfl, a, l, vs, rfl, hl, hd⟩ := c.two
 cases a using Den.s with
 | str t =>
  obtain ⟨lt, e1, e2⟩ := z50 hd
  refine SC.join (x := S sep) (D := l) (l := lt) (texts := ts.map S) ?_ e2 ?_ fun t' j => k _ _ (Kp.refl _) ok.toks ?_
  ·rw [← e1]; exact hl.isList
  ·unfold JoinOk
   rw [StrLaws.joinTotal]
   haveI h1 : ((ts.map S).map (·.length)) = ts.map List.length := by
    rw [List.map_map]; exact List.map_congr_left fun a _ => S_len a
   rw [h1, List.length_map, S_len]
   rw [show Builtin.Str.tooLong ((ts.map List.length).sum + ts.length * sep.length) = false from decide_eq_false (by simp only [sizeLine]; lia)]; rfl
  haveI : Txt.join (S sep) (ts.map S) = S (jn sep ts) := by
   unfold Txt.join
   rw [StrLaws.glued_eq_join, qo9]
  rw [this]; exact .str _ _
theorem E.join {o e : Expr} {apos pos : Pos} {sep : List Nat} {ts : List (List Nat)} (ho : E Γ n env σ o (.pv (.str sep))) (ha : EL Γ n env σ e (ts.map .str)) (hz : (ts.map List.length).sum + ts.length * sep.length ≤ 2 ^ 24) (hbase : attributeBase o (Str.ofString "join") env (eval o env) = eval o env) (hline : (apos.endLine == pos.line) = true) (he : ∀ env, starEach [e] env = [(false, eval e env)]) :
  E Γ n env σ (.Call (.Attribute o (Str.ofString "join") apos) [e] [] pos) (.pv (.str (jn sep ts))) :=
 ⟨Ev.smeth ho.run (EvS.cons (mL _) ha.run EvS.nil (fun env => he env)) F.slot_str_join F.type_str_join (CallB.join hz) hbase hline (by rw [he]; rfl) (he env) (by rw [he]; rfl)⟩
noncomputable def cnt (x y : List Nat) : Int := Txt.count (S x) (S y)
theorem CallB.count {x y : List Nat} : CallB Γ n env σ (.builtin "str.count") [PR (.pv (.str x)), PR (.pv (.str y))] (PR (.pv (.int (cnt x y)))) := fun Vs A E s φ H R ok lv eo c Q k => by
 obtain ⟨V, W, rfl, a, b⟩ := c.two
 cases a using Den.s; cases b using Den.s
 exact SC.count (k _ _ (Kp.refl _) ok.toks (.int _ _))
theorem E.count {o e : Expr} {apos pos : Pos} {x y : List Nat} (ho : E Γ n env σ o (.pv (.str x))) (ha : E Γ n env σ e (.pv (.str y))) (hbase : attributeBase o (Str.ofString "count") env (eval o env) = eval o env) (hline : (apos.endLine == pos.line) = true) (he : ∀ env, starEach [e] env = [(false, eval e env)]) :
  E Γ n env σ (.Call (.Attribute o (Str.ofString "count") apos) [e] [] pos) (.pv (.int (cnt x y))) :=
 ⟨Ev.smeth ho.run (EvS.cons (mR _) ha.run EvS.nil (fun env => he env)) F.slot_str_count F.type_str_count CallB.count hbase hline (by rw [he]; rfl) (he env) (by rw [he]; rfl)⟩
theorem z04 {x : Str} {xp : Pos} {elt : Expr} {gs : List Comprehension} {pos : Pos} {l : Nat} (G : EnvS env sc) (h : (sc.names.lookup x == some .local && xp.line == pos.line && !(scope.names.any fun (n, k) => n == x && (k == .local || k == .cell))) = false) :
  swapsWith (.ListComp elt gs scope pos) (some (.Name x xp)) l env = pure false := by
 haveI hk : (env.blockKind == .function) = true := by unfold Env.blockKind; rw [G.scope, G.kind]; rfl
 show (pure (env.blockKind == .function && env.kindOf x == some .local && xp.line == pos.line && !(scope.names.any fun (n, k) => n == x && (k == .local || k == .cell))) : Sem Bool) = pure false
 rw [hk, show env.kindOf x = sc.names.lookup x by unfold Env.kindOf; rw [G.scope], Bool.true_and, h]
theorem X.compC {τ : Nat} {K : AF → St → Prop} {more : List Stmt} {x : String} {p pos pos' : Pos} {elt : Expr} {gs : List Comprehension} {r : RV} {rest : List (String × RV)} (G : EnvS env sc) (hx : x ∈ ns) (hs : (sc.names.lookup (Str.ofString x) == some .local && p.line == pos'.line && !(scope.names.any fun (n, k) => n == Str.ofString x && (k == .local || k == .cell))) = false) (kr : Keep [x] σ.v rest)
  (h : E Γ n env σ (.ListComp elt gs scope pos') r) (k : X Γ τ n env ns ⟨(x, r) :: rest, σ.o⟩ more K) : X Γ τ n env ns σ (.Assign [.Name (Str.ofString x) p] (.ListComp elt gs scope pos') pos :: more) K :=
 X.asg hx (z04 G hs) kr h k
end
inductive HasV (v : List (String × RV)) : List (String × RV) → Prop
 | nil : HasV v []
 | cons {p : String × RV} {l : List (String × RV)} : p ∈ v → HasV v l → HasV v (p :: l)
inductive HasO (o : List (Nat × List PV)) : List (Nat × List PV) → Prop
 | nil : HasO o []
 | cons {p : Nat × List PV} {l : List (Nat × List PV)} : p ∈ o → HasO o l → HasO o (p :: l)
theorem HasV.mem {v l : List (String × RV)} (h : HasV v l) : ∀ p ∈ l, p ∈ v := by
 induction h with
 | nil => exact fun _ m => nomatch m
 | cons a _ ih => exact fun p m => (List.mem_cons.mp m).elim (fun e => e ▸ a) (ih p)
theorem HasO.mem {v l : List (Nat × List PV)} (h : HasO v l) : ∀ p ∈ l, p ∈ v := by
 induction h with
 | nil => exact fun _ m => nomatch m
 | cons a _ ih => exact fun p m => (List.mem_cons.mp m).elim (fun e => e ▸ a) (ih p)
structure Has (s σ : St) : Prop where
 v : HasV σ.v s.v
 o : HasO σ.o s.o
section
variable {Γ : Cx} {τ n : Nat} {env : Env} {σ s1 : St} {sc scope : Scope} {ns : List String} {K : AF → St → Prop} {α β ι : Type} {more : List Stmt}
theorem EnvOK.has {φ : Nat → Addr} {H : List Addr} {h : Heap} (eo : EnvOK env φ H σ h) (a : Has s1 σ) : EnvOK env φ H s1 h :=
 ⟨fun x r m => eo.vars x r (a.v.mem _ m), fun k ys m => eo.own k ys (a.o.mem _ m), eo.cells⟩
theorem EvP.has {α : Type} {t : Sem α} {P : Pred α} (a : Has s1 σ) (h : EvP Γ n env s1 t P) : EvP Γ n env σ t P := .mk fun A E s φ H R ok lv eo Q k => h.run A E s φ H R ok lv (eo.has a) Q k
theorem B.has {c : Expr} {b : Bool} (a : Has s1 σ) (h : B Γ n env s1 c b) : B Γ n env σ c b := ⟨h.run.has a⟩
theorem Fr.has {φ : Nat → Addr} {Mw Lo H : List Addr} {s : Shared} (F : Fr Γ env ns φ Mw Lo H σ s) (a : Has s1 σ) : Fr Γ env ns φ Mw Lo H s1 s :=
 ⟨F.ok, F.live, F.eo.has a, F.wr, F.off, fun k ys m => F.own k ys (a.o.mem _ m), fun k ys j zs m1 m2 e => F.inj k ys j zs (a.o.mem _ m1) (a.o.mem _ m2) e, F.dis, F.oc, F.loc, F.kind⟩
theorem X.has {b : List Stmt} (a : Has s1 σ) (h : X Γ τ n env ns s1 b K) : X Γ τ n env ns σ b K :=
 ⟨.mk' fun A E s φ Mw Lo H R F τ0 Q q => h.run.run A E s φ Mw Lo H R (F.has a) τ0 Q fun fl s' af σ' φ' Lo' c F' g' fr _ => q fl s' af σ' φ' Lo' c F' g' fr⟩
theorem X.whileM {c : Expr} {body : List Stmt} {pos : Pos} (st : ι → St) (J : ι → Prop) (μ : ι → Nat) (i0 : ι) (h0 : Has (st i0) σ) (j0 : J i0)
  (turn : ∀ i, J i → ∃ b, B Γ n env (st i) c b ∧ (b = false → X Γ τ n env ns (st i) more K) ∧ (b = true → X Γ τ n env ns (st i) body (kl (fun σ2 => ∃ i', J i' ∧ μ i' < μ i ∧ Has (st i') σ2) (kx Γ τ n env ns more K)))) :
  X Γ τ n env ns σ (.While c body [] pos :: more) K := by
 refine X.while (fun m σ1 => ∃ i, J i ∧ μ i = m ∧ Has (st i) σ1) (μ i0) ⟨i0, j0, rfl, h0⟩ fun m σ1 ⟨i, ji, hm, hi⟩ => ?_
 obtain ⟨b, hb, hf, ht⟩ := turn i ji
 refine ⟨b, hb.has hi, fun e => (hf e).has hi, fun e => ?_⟩
 refine ⟨((ht e).has hi).run.mono fun a s q => ?_⟩
 cases a with
 | nx => obtain ⟨i', j', hlt, h'⟩ := q; exact ⟨μ i', hm ▸ hlt, i', j', rfl, h'⟩
 | ct => obtain ⟨i', j', hlt, h'⟩ := q; exact ⟨μ i', hm ▸ hlt, i', j', rfl, h'⟩
 | _ => exact q
theorem q55 (xs : List String) : ∀ (l : List (String × RV)), Keep xs l (l.filter fun p => !xs.contains p.1)
 | [] => .nil
 | (x, r) :: l => by
  by_cases h : xs.contains x = true
  ·rw [List.filter_cons_of_neg (by rw [h]; exact Bool.noConfusion)]; exact .drop (q55 xs l)
  rw [List.filter_cons_of_pos (by simpa using h)]
  exact .take (by simpa using h) (q55 xs l)
theorem X.forM {iter tgt : Expr} {body : List Stmt} {pos : Pos} {its : List (List PV)} {xs : List String} (st : ι → St) (J : Nat → ι → Prop) (T : Tgt tgt xs) (hn : xs.Nodup) (hxn : ∀ x ∈ xs, x ∈ ns) (hI : EvI Γ n env σ iter tgt its) (hi : ∀ x ∈ its, x.length = xs.length)
  (hst : ∀ i, ∀ p ∈ (st i).v, p.1 ∉ xs) (i0 : ι) (h0 : Has (st i0) σ) (j0 : J 0 i0)
  (turn : ∀ k x i, its[k]? = some x → J k i → X Γ τ n env ns ⟨(xs.zip x).map (fun p => (p.1, RV.pv p.2)) ++ (st i).v, (st i).o⟩ body (kl (fun σ2 => ∃ i', J (k + 1) i' ∧ Has (st i') σ2) (kx Γ τ n env ns more K)))
  (done : ∀ i, J its.length i → X Γ τ n env ns (st i) more K) (hs : ∀ x, foldedSetIterable iter env x = pure x) : X Γ τ n env ns σ (.For tgt iter body [] pos :: more) K := by
 refine X.for (fun k σ1 => ∃ i, J k i ∧ Has (st i) σ1) T hn hxn hI hi ⟨i0, j0, h0⟩ (fun k x σ1 hx ⟨i, ji, hi⟩ => ?_) (fun σ1 ⟨i, ji, hi⟩ => (done i ji).has hi) hs
 refine ⟨_, q55 xs σ1.v, X.has ?_ (turn k x i hx ji)⟩
 refine ⟨?_, hi.o⟩
 haveI : ∀ l : List (String × RV), (∀ p ∈ l, p ∈ (xs.zip x).map (fun p => (p.1, RV.pv p.2)) ++ σ1.v.filter fun p => !xs.contains p.1) → HasV ((xs.zip x).map (fun p => (p.1, RV.pv p.2)) ++ σ1.v.filter fun p => !xs.contains p.1) l := by
  intro l
  induction l with
  | nil => intro _; exact .nil
  | cons p l ih => intro h; exact .cons (h p (.head _)) (ih fun q hq => h q (.tail _ hq))
 refine this _ fun p hp => ?_
 rcases List.mem_append.mp hp with m | m
 ·exact List.mem_append_left _ m
 exact List.mem_append_right _ (List.mem_filter.mpr ⟨hi.v.mem p m, by simpa using hst i p m⟩)
end
theorem qu1 (a b : Nat) : (([a] : List Nat) < [b]) ↔ a < b := by
 rw [List.cons_lt_cons_iff]
 constructor
 ·rintro (h | ⟨_, h⟩)
  ·exact h
  cases h
 exact .inl
section
variable {Γ : Cx} {n : Nat} {env : Env} {σ : St} {sc scope : Scope} {ns : List String} {α β : Type}
theorem Evb.chain {l r1 r2 : Expr} {op1 op2 : CmpOp} {pos : Pos} {Pa Pb Pc : Pred Value} {b c : Bool} (ma : MonoP Pa) (mb : MonoP Pb) (ha : EvP Γ n env σ (eval l env) Pa) (hb : EvP Γ n env σ (eval r1 env) Pb) (c1 : Cmp Γ n op1 Pa Pb b) (hc : b = true → EvP Γ n env σ (eval r2 env) Pc) (c2 : Cmp Γ n op2 Pb Pc c)
  (hm : lastMarks [op1, op2] [r1, r2] = false) : Evb Γ n env σ (.Compare l [op1, op2] [r1, r2] pos) (b && c) :=
 .mk fun A E s φ H R ok lv eo Q k => by
  refine isTrue_chain (ha.run A E s φ H R ok lv eo _ fun V s1 k1 ok1 d1 => test_link ?_) hm
  refine hb.run A E s1 φ H R ok1 (lv.kp k1) (eo.kp k1) _ fun W s2 k2 ok2 d2 => ?_
  refine c1 A E s2 φ H V W R ok2 (ma _ _ _ _ _ k2 d1) d2 _ (wpAny_truthy_bool ?_)
  cases b with
  | false => exact k _ _ (k1.trans k2) ok2 rfl
  | true =>
   refine test_last ((hc rfl).run A E s2 φ H R ok2 (lv.kp (k1.trans k2)) (eo.kp (k1.trans k2)) _ fun X s3 k3 ok3 d3 => ?_)
   exact c2 A E s3 φ H W X R ok3 (mb _ _ _ _ _ k3 d2) d3 _ (wpAny_truthy_bool (k _ _ ((k1.trans k2).trans k3) ok3 rfl))
theorem B.between {l r1 r2 : Expr} {pos : Pos} {a b c : Nat} (ha : E Γ n env σ l (.pv (.str [a]))) (hb : E Γ n env σ r1 (.pv (.str [b]))) (hc : E Γ n env σ r2 (.pv (.str [c]))) (hm : lastMarks [.LtE, .LtE] [r1, r2] = false) :
  B Γ n env σ (.Compare l [.LtE, .LtE] [r1, r2] pos) (decide (a ≤ b) && decide (b ≤ c)) := by
 haveI e : ∀ x y : Nat, (!decide (([y] : List Nat) < [x])) = decide (x ≤ y) := fun x y => by
  rw [decide_eq_decide.mpr (qu1 y x)]
  by_cases h : x ≤ y
  ·rw [decide_eq_false (by lia), decide_eq_true h]; rfl
  rw [decide_eq_true (by lia), decide_eq_false h]; rfl
 have := Evb.chain (pos := pos) (mR _) (mR _) ha.run hb.run Cmp.le_str (fun _ => hc.run) Cmp.le_str hm
 rw [e, e] at this
 exact ⟨this⟩
theorem B.lt1 {l r : Expr} {pos : Pos} {a b : Nat} (ha : E Γ n env σ l (.pv (.str [a]))) (hb : E Γ n env σ r (.pv (.str [b]))) (hm : behindInMarks .Lt r = false) : B Γ n env σ (.Compare l [.Lt] [r] pos) (decide (a < b)) := by
 have := B.lts (pos := pos) ha hb hm
 haveI e : decide (([a] : List Nat) < [b]) = decide (a < b) := decide_eq_decide.mpr (qu1 a b)
 rwa [e] at this
theorem B.neb {l r : Expr} {pos : Pos} {a b : Bool} (ha : E Γ n env σ l (.pv (.bool a))) (hb : E Γ n env σ r (.pv (.bool b))) (hm : behindInMarks .NotEq r = false) : B Γ n env σ (.Compare l [.NotEq] [r] pos) (a != b) := by
 have := B.net .bool (pos := pos) ha hb trivial trivial (by decide) hm
 haveI e : (!eqp .bool (.bool a) (.bool b)) = (a != b) := rfl
 rwa [e] at this
end
section
variable {Γ : Cx} {τ n : Nat} {env : Env} {σ : St} {ns : List String} {K : AF → St → Prop}
theorem qg2 {M : Model} {A : Around} {E : Value → Shared → Prop} {s : Shared} {st : Stmt} {env : Env} {Q : Flow → Shared → Prop} (h : wpAny M A (execs [st] env) Q E s) : wpAny M A (exec st env) Q E s := fun Γ p hΓ => by
 have := h Γ p hΓ
 rw [execs_cons, Sem.wp_bind'] at this
 refine Sem.wp_mono M Γ _ (fun f p' s' q => ?_) (fun _ _ _ q => q) _ _ this
 cases f with
 | next => rw [execs_nil, Sem.wp_pure'] at q; exact q
 | _ => dsimp only [Sem.wp_pure'] at q; exact q
theorem X.cut {st : Stmt} {more : List Stmt} (P : St → Prop) (h1 : X Γ τ n env ns σ [st] (fun a s => a = .nx ∧ P s)) (h2 : ∀ s, P s → X Γ τ n env ns s more K) : X Γ τ n env ns σ (st :: more) K := by
 refine ⟨Ex.cons (.mk fun A E s φ Mw Lo H R F τ0 Q q => qg2 (h1.run.run A E s φ Mw Lo H R F τ0 Q fun fl s' af σ' φ' Lo' c F' g' fr τ' => q fl s' af σ' φ' Lo' ?_ F' g' fr τ'))⟩
 obtain ⟨rfl, hp⟩ := c
 exact (h2 _ hp).run
theorem X.end {more : List Stmt} (k : X Γ τ n env ns σ more K) : X Γ τ n env ns σ [] (kx Γ τ n env ns more K) := X.nil k
theorem X.endL {next : St → Prop} (k : next σ) : X Γ τ n env ns σ [] (kl next K) := X.nil k
end
section
variable {Γ : Cx} {τ n : Nat} {env : Env} {σ : St} {ns : List String} {K : AF → St → Prop} {more : List Stmt}
theorem X.augE {x : String} {p pos : Pos} {e : Expr} {a b : Int} {c : Int} {rest : List (String × RV)} (hx : x ∈ ns) (hm : (x, RV.pv (.int a)) ∈ σ.v) (kr : Keep [x] σ.v rest) (h : E Γ n env σ e (.pv (.int b))) (hc : a + b = c)
  (k : X Γ τ n env ns ⟨(x, .pv (.int c)) :: rest, σ.o⟩ more K) : X Γ τ n env ns σ (.AugAssign (.Name (Str.ofString x) p) .Add e pos :: more) K := by
 subst hc; exact X.aug hx hm kr h k
end
theorem sat {x : List Nat} {i : Nat} {c : Nat} (h : x[i]? = some c) : (seqIndex? (i : Int) x.length).bind (x[·]?) = some c := by
 obtain ⟨hlt, _⟩ := List.getElem?_eq_some_iff.mp h
 rw [q38 (by lia) (by lia), Int.toNat_natCast]; exact h
structure ZAp (z TI TO i1 i2 : Addr) (f1 f2 : List Addr) : Prop where
 TIz : TI ≠ z
 TOz : TO ≠ z
 i1z : i1 ≠ z
 i2z : i2 ≠ z
 TITO : TI ≠ TO
 TIi1 : TI ≠ i1
 TIi2 : TI ≠ i2
 TOi1 : TO ≠ i1
 TOi2 : TO ≠ i2
 i12 : i1 ≠ i2
 zf1 : z ∉ f1
 Tf1 : TO ∉ f1
 if1 : i2 ∉ f1
 zf2 : z ∉ f2
 Tf2 : TO ∉ f2
 if2 : i1 ∉ f2
section
variable {prog : Program} {w : World} {A : Around} {E : Value → Shared → Prop} {s : Shared}
theorem Draws.same {it : Addr} {fp : List Addr} {n : Nat} {P : Nat → Value → Prop} {St : Nat → Heap → Prop} (D : Draws prog w A it fp n P St) {i : Nat} {c : Addr} {h h' : Heap} (st : St i h) (hs : Heap.ExtBut c h h') (hc : c ∉ fp) : St i h' :=
 D.frame _ _ _ st fun b hb o e => hs b o (fun q => hc (q ▸ hb)) e
theorem qt0 {z TI TO i1 i2 : Addr} {f1 f2 : List Addr} {n1 n2 k : Nat} {P1 P2 : Nat → Value → Prop} {S1 S2 : Nat → Heap → Prop} {a b : Value} {Q : Value → Shared → Prop} (D : ZAp z TI TO i1 i2 f1 f2)
  (D1 : Draws prog w A i1 f1 n1 P1 S1) (D2 : Draws prog w A i2 f2 n2 P2 S2)
  (hz : IsZip s.heap z TI TO .none) (hTI : IsPair s.heap TI (.ref i1) (.ref i2)) (hTO : IsPair s.heap TO a b)
  (h1 : S1 k s.heap) (h2 : S2 k s.heap) (hk1 : k < n1) (hk2 : k < n2)
  (hQ : ∀ h' tk x y, P1 k x → P2 k y → IsZip h' z TI TO (rawInt s.heap.objs.size) → IsPair h' TO x y → S1 (k + 1) h' → S2 (k + 1) h' → IsPair h' s.heap.objs.size x y → h'.objs.size = s.heap.objs.size + 1 →
   (∀ c o, c ≠ z → c ≠ TO → c ≠ i1 → c ≠ i2 → s.heap.get? c = some o → h'.get? c = some o) → Q (.ref s.heap.objs.size) { s with heap := h', toks := tk }) :
  wpAny (model prog w) A (Builtin.«zip.__next__» ⟨[.ref z], []⟩) (fun fin s' => ∃ v, fin = .done (.ret v) ∧ Q v s') E s := by
 obtain ⟨hp, g, d, tk0, os⟩ := s
 show wpAny _ _ (field (.ref z) 2 >>= _) _ _ _
 refine wpAny_bind (wpAny_field hz rfl (x := .bool false) rfl ?_)
 show wpAny _ _ (field (.ref z) 3 >>= _) _ _ _
 refine wpAny_bind (wpAny_field hz rfl (x := .ref TI) rfl ?_)
 refine wpAny_bind (wpAny_seqItems hTI rfl ?_)
 show wpAny _ _ (Builtin.SmallTypes.ownedTupleIsFree (.ref z) >>= _) _ _ _
 refine wpAny_bind ?_
 unfold Builtin.SmallTypes.ownedTupleIsFree
 refine wpAny_bind (wpAny_field hz rfl (x := .none) rfl (wpAny_pure ?_))
 dsimp only [if_true]
 refine wpAny_bind (wpAny_rule ?_)
 refine wpAny_bind (wpAny_field hz rfl (x := .ref TO) rfl ?_)
 refine wpAny_bind (wpAny_setField_rec hz (by simp) fun h₁ hz₁ hs₁ => ?_)
 replace hz₁ : IsZip h₁ z TI TO .ellipsis := hz₁
 replace hs₁ : Heap.SameBut z hp h₁ := hs₁
 refine wpAny_bind ?_
 simp only [List.zipIdx_cons, List.zipIdx_nil, List.forIn_cons, List.forIn_nil]
 refine wpAny_bind (wpAny_bind (wpAny_onRaise ?_))
 show wpAny _ _ (Builtin.SmallTypes.nextOf (.ref i1) >>= _) _ _ _
 refine wpAny_bind (D1.item k _ _ _ hk1 (Draws.same D1 h1 hs₁.extBut D.zf1) fun x h₂ tk1 hx h1₂ hs₂ => wpAny_pure ?_)
 replace hs₂ : Heap.SameBut i1 h₁ h₂ := hs₂
 have hTO₂ : IsPair h₂ TO a b := hs₂.extBut _ _ D.TOi1 (hs₁.extBut _ _ D.TOz hTO)
 refine wpAny_bind (wpAny_seqItems hTO₂ rfl ?_)
 refine wpAny_bind (wpAny_updateSeq_pair hTO₂ fun h₃ hTO₃ hs₃ => ?_)
 replace hTO₃ : IsPair h₃ TO x b := hTO₃
 replace hs₃ : Heap.SameBut TO h₂ h₃ := hs₃
 refine wpAny_bind (wpAny_letGo (wpAny_pure ?_))
 refine wpAny_bind (wpAny_bind (wpAny_onRaise ?_))
 show wpAny _ _ (Builtin.SmallTypes.nextOf (.ref i2) >>= _) _ _ _
 refine wpAny_bind (D2.item k _ _ _ hk2 (Draws.same D2 (Draws.same D2 (Draws.same D2 h2 hs₁.extBut D.zf2) hs₂.extBut D.if2) hs₃.extBut D.Tf2) fun y h₄ tk2 hy h2₄ hs₄ => wpAny_pure ?_)
 replace hs₄ : Heap.SameBut i2 h₃ h₄ := hs₄
 have hTO₄ : IsPair h₄ TO x b := hs₄.extBut _ _ D.TOi2 hTO₃
 refine wpAny_bind (wpAny_seqItems hTO₄ rfl ?_)
 refine wpAny_bind (wpAny_updateSeq_pair hTO₄ fun h₅ hTO₅ hs₅ => ?_)
 replace hTO₅ : IsPair h₅ TO x y := hTO₅
 replace hs₅ : Heap.SameBut TO h₄ h₅ := hs₅
 refine wpAny_bind (wpAny_letGo (wpAny_pure (wpAny_pure ?_)))
 refine wpAny_bind (wpAny_seqItems hTO₅ rfl ?_)
 refine wpAny_bind (wpAny_newTuple ?_)
 have hsz : h₅.objs.size = hp.objs.size := by rw [hs₅.1, hs₄.1, hs₃.1, hs₂.1, hs₁.1]
 have hz₅ : IsZip h₅ z TI TO .ellipsis := hs₅.extBut _ _ D.TOz.symm (hs₄.extBut _ _ D.i2z.symm (hs₃.extBut _ _ D.TOz.symm (hs₂.extBut _ _ D.i1z.symm hz₁)))
 have hk₅ : ∀ c o, c ≠ z → c ≠ TO → c ≠ i1 → c ≠ i2 → hp.get? c = some o → h₅.get? c = some o := fun c o c1 c2 c3 c4 e =>
  hs₅.extBut _ _ c2 (hs₄.extBut _ _ c4 (hs₃.extBut _ _ c2 (hs₂.extBut _ _ c3 (hs₁.extBut _ _ c1 e))))
 have h1₅ : S1 (k + 1) h₅ := Draws.same D1 (Draws.same D1 (Draws.same D1 h1₂ hs₃.extBut D.Tf1) hs₄.extBut D.if1) hs₅.extBut D.Tf1
 have h2₅ : S2 (k + 1) h₅ := Draws.same D2 h2₄ hs₅.extBut D.Tf2
 have hzlt : z < h₅.objs.size := Heap.lt_size hz₅
 show wpAny _ _ (Builtin.SmallTypes.ownedTupleHandOut (.ref z) (.ref h₅.objs.size) >>= _) _ _ _
 refine wpAny_bind ?_
 unfold Builtin.SmallTypes.ownedTupleHandOut
 have hz₆ : IsZip (h₅.push { cls := .type "tuple", data := .seq #[x, y] }) z TI TO .ellipsis := Heap.get?_push_of_some _ hz₅
 refine wpAny_bind (wpAny_setField_rec hz₆ (by simp) fun h₇ hz₇ hs₇ => ?_)
 replace hz₇ : IsZip h₇ z TI TO (rawInt h₅.objs.size) := hz₇
 refine wpAny_setField_rec hz₇ (by simp) fun h₈ hz₈ hs₈ => ?_
 replace hz₈ : IsZip h₈ z TI TO (rawInt h₅.objs.size) := hz₈
 have up : ∀ c o, c ≠ z → h₅.get? c = some o → h₈.get? c = some o := fun c o c1 e => hs₈.extBut _ _ c1 (hs₇.extBut _ _ c1 (Heap.get?_push_of_some _ e))
 have hT₈ : IsPair h₈ h₅.objs.size x y := hs₈.extBut _ _ (Nat.ne_of_gt hzlt) (hs₇.extBut _ _ (Nat.ne_of_gt hzlt) (Heap.get?_push_size _ rfl))
 haveI hz8 : h₈.objs.size = h₅.objs.size + 1 := by rw [hs₈.1, hs₇.1, Heap.size_push]
 rw [hsz] at hz₈ hT₈ hz8
 refine wpAny_pure ⟨_, rfl, ?_⟩
 show Q (.ref h₅.objs.size) _
 rw [hsz]
 exact hQ h₈ _ x y hx hy hz₈ (up _ _ D.TOz hTO₅) (D1.frame _ _ _ h1₅ fun b hb o e => up b o (fun q => D.zf1 (q ▸ hb)) e) (D2.frame _ _ _ h2₅ fun b hb o e => up b o (fun q => D.zf2 (q ▸ hb)) e) hT₈ hz8 fun c o c1 c2 c3 c4 e => up c o c1 (hk₅ c o c1 c2 c3 c4 e)
theorem z01 {z TI TO i1 i2 : Addr} {f1 f2 : List Addr} {n1 n2 : Nat} {P1 P2 : Nat → Value → Prop} {S1 S2 : Nat → Heap → Prop} {a b : Value} {Q : Fin → Shared → Prop} (D : ZAp z TI TO i1 i2 f1 f2)
  (D1 : Draws prog w A i1 f1 n1 P1 S1) (D2 : Draws prog w A i2 f2 n2 P2 S2)
  (hz : IsZip s.heap z TI TO .none) (hTI : IsPair s.heap TI (.ref i1) (.ref i2)) (hTO : IsPair s.heap TO a b)
  (h1 : S1 (min n1 n2) s.heap) (h2 : S2 (min n1 n2) s.heap)
  (hE : ∀ h' tk e, (∀ c o, c ≠ z → c ≠ TO → c ≠ i1 → c ≠ i2 → s.heap.get? c = some o → h'.get? c = some o) → (∃ o, h'.get? e = some o ∧ o.cls = .type "StopIteration") → E (.ref e) { s with heap := h', toks := tk }) :
  wpAny (model prog w) A (Builtin.«zip.__next__» ⟨[.ref z], []⟩) Q E s := by
 obtain ⟨hp, g, d, tk0, os⟩ := s
 show wpAny _ _ (field (.ref z) 2 >>= _) _ _ _
 refine wpAny_bind (wpAny_field hz rfl (x := .bool false) rfl ?_)
 show wpAny _ _ (field (.ref z) 3 >>= _) _ _ _
 refine wpAny_bind (wpAny_field hz rfl (x := .ref TI) rfl ?_)
 refine wpAny_bind (wpAny_seqItems hTI rfl ?_)
 show wpAny _ _ (Builtin.SmallTypes.ownedTupleIsFree (.ref z) >>= _) _ _ _
 refine wpAny_bind ?_
 unfold Builtin.SmallTypes.ownedTupleIsFree
 refine wpAny_bind (wpAny_field hz rfl (x := .none) rfl (wpAny_pure ?_))
 dsimp only [if_true]
 refine wpAny_bind (wpAny_rule ?_)
 refine wpAny_bind (wpAny_field hz rfl (x := .ref TO) rfl ?_)
 refine wpAny_bind (wpAny_setField_rec hz (by simp) fun h₁ hz₁ hs₁ => ?_)
 replace hz₁ : IsZip h₁ z TI TO .ellipsis := hz₁
 replace hs₁ : Heap.SameBut z hp h₁ := hs₁
 refine wpAny_bind ?_
 simp only [List.zipIdx_cons, List.zipIdx_nil, List.forIn_cons, List.forIn_nil]
 refine wpAny_bind (wpAny_bind (wpAny_onRaise ?_))
 show wpAny _ _ (Builtin.SmallTypes.nextOf (.ref i1) >>= _) _ _ _
 by_cases hc : n1 ≤ n2
 ·rw [Nat.min_eq_left hc] at h1
  refine wpAny_bind (D1.done _ _ _ (Draws.same D1 h1 hs₁.extBut D.zf1) fun h₂ e hs₂ he => ?_)
  replace hs₂ : Heap.ExtBut i1 h₁ h₂ := hs₂
  obtain ⟨oe, hoe, hce⟩ := he
  have hz₂ : IsZip h₂ z TI TO .ellipsis := hs₂ _ _ D.i1z.symm hz₁
  have hez : e ≠ z := fun x => by subst x; rw [hz₂] at hoe; cases hoe; simp at hce
  refine wpAny_setField_rec hz₂ (by simp) fun h₃ _ hs₃ => hE h₃ _ e (fun c o c1 _ c3 _ x => hs₃.extBut _ _ c1 (hs₂ _ _ c3 (hs₁.extBut _ _ c1 x))) ⟨oe, hs₃.extBut _ _ hez hoe, hce⟩
 haveI hc' : n2 < n1 := Nat.lt_of_not_le hc
 rw [Nat.min_eq_right (Nat.le_of_lt hc')] at h1 h2
 refine wpAny_bind (D1.item n2 _ _ _ hc' (Draws.same D1 h1 hs₁.extBut D.zf1) fun x h₂ tk1 hx h1₂ hs₂ => wpAny_pure ?_)
 replace hs₂ : Heap.SameBut i1 h₁ h₂ := hs₂
 have hTO₂ : IsPair h₂ TO a b := hs₂.extBut _ _ D.TOi1 (hs₁.extBut _ _ D.TOz hTO)
 refine wpAny_bind (wpAny_seqItems hTO₂ rfl ?_)
 refine wpAny_bind (wpAny_updateSeq_pair hTO₂ fun h₃ hTO₃ hs₃ => ?_)
 replace hs₃ : Heap.SameBut TO h₂ h₃ := hs₃
 refine wpAny_bind (wpAny_letGo (wpAny_pure ?_))
 refine wpAny_bind (wpAny_bind (wpAny_onRaise ?_))
 show wpAny _ _ (Builtin.SmallTypes.nextOf (.ref i2) >>= _) _ _ _
 refine wpAny_bind (D2.done _ _ _ (Draws.same D2 (Draws.same D2 (Draws.same D2 h2 hs₁.extBut D.zf2) hs₂.extBut D.if2) hs₃.extBut D.Tf2) fun h₄ e hs₄ he => ?_)
 replace hs₄ : Heap.ExtBut i2 h₃ h₄ := hs₄
 obtain ⟨oe, hoe, hce⟩ := he
 have hz₄ : IsZip h₄ z TI TO .ellipsis := hs₄ _ _ D.i2z.symm (hs₃.extBut _ _ D.TOz.symm (hs₂.extBut _ _ D.i1z.symm hz₁))
 have hez : e ≠ z := fun x => by subst x; rw [hz₄] at hoe; cases hoe; simp at hce
 refine wpAny_setField_rec hz₄ (by simp) fun h₅ _ hs₅ => hE h₅ _ e (fun c o c1 c2 c3 c4 x => hs₅.extBut _ _ c1 (hs₄ _ _ c4 (hs₃.extBut _ _ c2 (hs₂.extBut _ _ c3 (hs₁.extBut _ _ c1 x))))) ⟨oe, hs₅.extBut _ _ hez hoe, hce⟩
end
section
variable {prog : Program} {w : World} {A : Around} {E : Value → Shared → Prop} {s : Shared}
theorem WalksT.zipD (hh : A.handled = none) (z TI TO i1 i2 : Addr) (f1 f2 : List Addr) (D : ZAp z TI TO i1 i2 f1 f2) {n1 n2 : Nat} {P1 P2 : Nat → Value → Prop} {S1 S2 : Nat → Heap → Prop}
  (D1 : Draws prog w A.in1 i1 f1 n1 P1 S1) (D2 : Draws prog w A.in1 i2 f2 n2 P2 S2) (l1 : ∀ i h, S1 i h → ∃ o, h.get? i1 = some o) (l2 : ∀ i h, S2 i h → ∃ o, h.get? i2 = some o) :
  WalksT prog w A z (z :: TI :: TO :: i1 :: i2 :: (f1 ++ f2)) [z, TO, i1, i2] (min n1 n2)
   (fun i vals => ∃ x y, P1 i x ∧ P2 i y ∧ vals = #[x, y])
   (fun i h => IsZip h z TI TO .none ∧ IsPair h TI (.ref i1) (.ref i2) ∧ (∃ a b, IsPair h TO a b) ∧ S1 i h ∧ S2 i h)
   (fun i T h => IsZip h z TI TO (rawInt T) ∧ IsPair h TI (.ref i1) (.ref i2) ∧ (∃ a b, IsPair h TO a b) ∧ S1 (i + 1) h ∧ S2 (i + 1) h ∧ T ≠ z ∧ T ≠ TO ∧ T ≠ i1 ∧ T ≠ i2) where
 sub := fun c hc => by simp at hc ⊢; rcases hc with rfl | rfl | rfl | rfl <;> simp
 frame := fun i h h' hst hk => by
  obtain ⟨hz, hTI, ⟨a, b, hTO⟩, h1, h2⟩ := hst
  exact ⟨hk z (by simp) _ hz, hk TI (by simp) _ hTI, ⟨a, b, hk TO (by simp) _ hTO⟩, D1.frame _ _ _ h1 fun b hb o e => hk b (by simp [hb]) o e, D2.frame _ _ _ h2 fun b hb o e => hk b (by simp [hb]) o e⟩
 item := fun i s Q E hi hst hQ => by
  obtain ⟨hz, hTI, ⟨a, b, hTO⟩, h1, h2⟩ := hst
  haveI hix : i < n1 := Nat.lt_of_lt_of_le hi (Nat.min_le_left ..)
  haveI hiy : i < n2 := Nat.lt_of_lt_of_le hi (Nat.min_le_right ..)
  have hT : s.TypeIs (.ref z) "zip" := ⟨_, hz, rfl⟩
  have lt : ∀ {c o}, s.heap.get? c = some o → s.heap.objs.size ≠ c := fun e => Nat.ne_of_gt (Heap.lt_size e)
  unfold pyNext
  refine wpAny_bind (wpAny_attempt (wpAny_callSpecial?_slot (name := Str.ofString "__next__") hT F.slot_zip_next
   (wpAny_call_entry F.slot_zip_next hT F.entry_zip_next
    (qt0 D D1 D2 hz hTI hTO h1 h2 hix hiy fun h' tk x y hx hy a1 a2 a3 a4 a5 a6 hk => wpAny_pure ?_) (F.args_zip_next_1 _))))
  refine hQ s.heap.objs.size #[x, y] h' tk ⟨_, _, hx, hy, rfl⟩ (Nat.le_refl _) ⟨_, a5, rfl, _, rfl⟩ ⟨a1, hk _ _ D.TIz D.TITO D.TIi1 D.TIi2 hTI, ⟨_, _, a2⟩, a3, a4, lt hz, lt hTO, ?_, ?_⟩ ?_
  ·obtain ⟨o, e⟩ := l1 _ _ h1; exact lt e
  ·obtain ⟨o, e⟩ := l2 _ _ h2; exact lt e
  exact fun c o hc e => hk c o (fun x => hc (by simp [x])) (fun x => hc (by simp [x])) (fun x => hc (by simp [x])) (fun x => hc (by simp [x])) e
 go := fun elts k pos i T s Q E hm hQ => by
  obtain ⟨hz, hTI, ⟨a, b, hTO⟩, h1, h2, _⟩ := hm
  refine wpAny_letOwnedTupleGo_zip hz fun h' hz' hs' => hQ h' ⟨hz', hs'.extBut _ _ D.TIz hTI, ⟨a, b, hs'.extBut _ _ D.TOz hTO⟩, Draws.same D1 h1 hs'.extBut D.zf1, Draws.same D2 h2 hs'.extBut D.zf2⟩ fun c o hc e => hs'.extBut _ _ (fun x => hc (by simp [x])) e
 apart := fun i T h hm hT => by
  obtain ⟨_, _, _, _, _, t1, t2, t3, t4⟩ := hm
  simp at hT
  rcases hT with rfl | rfl | rfl | rfl
  ·exact t1 rfl
  ·exact t2 rfl
  ·exact t3 rfl
  exact t4 rfl
 done := fun s Q E hst hQ => by
  obtain ⟨hz, hTI, ⟨a, b, hTO⟩, h1, h2⟩ := hst
  have hT : s.TypeIs (.ref z) "zip" := ⟨_, hz, rfl⟩
  unfold pyNext
  refine wpAny_bind (wpAny_attempt (wpAny_callSpecial?_slot (name := Str.ofString "__next__") hT F.slot_zip_next
   (wpAny_call_entry F.slot_zip_next hT F.entry_zip_next (z01 D D1 D2 hz hTI hTO h1 h2 fun h' tk e hk he => ?_) (F.args_zip_next_1 _))))
  obtain ⟨o, ho, hc⟩ := he
  refine wpAny_bind (wpAny_isInstance (T := "StopIteration") (b := true) ⟨o, ho, hc⟩ isSubtype_stop ?_)
  exact wpAny_pure (hQ h' tk fun c o hc e => hk c o (fun x => hc (by simp [x])) (fun x => hc (by simp [x])) (fun x => hc (by simp [x])) (fun x => hc (by simp [x])) e)
 self := fun i s Q E hst hQ => wpAny_pyIter_zip hst.1 hQ
end
noncomputable abbrev zsO (tn : String) (x : Str) (t : Tok) : Obj := { cls := .type tn, data := .fields #[.str x t, .int 0 0] }
noncomputable abbrev zs1 (h : Heap) (o : Obj) : Heap := h.push o
noncomputable abbrev zs2 (h : Heap) (o : Obj) (l2 : Addr) : Heap := (zs1 h o).push { cls := .type "list_iterator", data := .fields #[.ref l2, .int 0 0] }
noncomputable abbrev zs3 (h : Heap) (o : Obj) (l2 : Addr) : Heap := (zs2 h o l2).push { cls := .type "tuple", data := .seq #[.ref h.objs.size, .ref (zs1 h o).objs.size] }
noncomputable abbrev zs4 (h : Heap) (o : Obj) (l2 : Addr) : Heap := (zs3 h o l2).push { cls := .type "tuple", data := .seq #[.none, .none] }
noncomputable abbrev zs5 (h : Heap) (o : Obj) (l2 : Addr) : Heap := (zs4 h o l2).push { cls := .type "zip", data := .fields #[.none, .bool false, .bool false, .ref (zs2 h o l2).objs.size, .ref (zs3 h o l2).objs.size] }
theorem qd4 (V : Value) (o : Obj) (l2 : Addr) (ys : Array Value) (hV : ∀ (prog : Program) (w : World) (A : Around) (Q : Value → Shared → Prop) (E : Value → Shared → Prop) (s : Shared), Q (.ref s.heap.objs.size) { s with heap := s.heap.push o } → wpAny (model prog w) A (pyIter V) Q E s) :
  Meets (Builtin.«zip.__new__» ⟨[.type "zip", V, .ref l2], []⟩) (fun _ R s => s.heap.IsList l2 ys ∧
   R (.ok (.ret (.ref (zs4 s.heap o l2).objs.size))) { s with heap := zs5 s.heap o l2 }) :=
 .of_wp fun prog w A R s h => by
  obtain ⟨hp, g, d, tk, os⟩ := s; obtain ⟨hl2, h⟩ := h
  haveI hsub := sub_zip
  haveI hL2 : Heap.IsList (Shared.heap ⟨hp.push o, g, d, tk, os⟩) l2 ys := Heap.IsList.push hl2 _
  haveI hV' := fun A Q E s => hV prog w A Q E s
  wp_walk using hV', wpAny_pyIter_list hL2
  exact ⟨_, rfl, h⟩
section
variable {prog : Program} {w : World} {A : Around} {E : Value → Shared → Prop} {s : Shared}
theorem qz4 {V : Value} {o : Obj} {l2 : Addr} {ys : Array Value} {Q : Value → Shared → Prop} (hf : o.isFreed = false) (hl2 : s.heap.IsList l2 ys)
  (hV : ∀ (prog : Program) (w : World) (A : Around) (Q : Value → Shared → Prop) (E : Value → Shared → Prop) (s : Shared), Q (.ref s.heap.objs.size) { s with heap := s.heap.push o } → wpAny (model prog w) A (pyIter V) Q E s)
  (h : ∀ h', IsZip h' (s.heap.objs.size + 4) (s.heap.objs.size + 2) (s.heap.objs.size + 3) .none → IsPair h' (s.heap.objs.size + 2) (.ref s.heap.objs.size) (.ref (s.heap.objs.size + 1)) →
   IsPair h' (s.heap.objs.size + 3) .none .none → h'.get? s.heap.objs.size = some o → h'.IsListIter (s.heap.objs.size + 1) l2 0 → h'.objs.size = s.heap.objs.size + 5 →
   (∀ c o, s.heap.get? c = some o → h'.get? c = some o) → Q (.ref (s.heap.objs.size + 4)) { s with heap := h' }) :
  wpAny (model prog w) A (call (.type "zip") [V, .ref l2]) Q E s := by
 refine callType_new F.called_zip (by decide) (F.typeCall_zip_2 _ _) (F.newCall_zip_2 _ _) (fun obj => F.args_object_init_3 obj _ _) F.entry_zip_new
  (qd4 V o l2 ys hV) ⟨hl2, ?_⟩
 haveI z1 : (zs1 s.heap o).objs.size = s.heap.objs.size + 1 := Heap.size_push ..
 have z2 : (zs2 s.heap o l2).objs.size = s.heap.objs.size + 2 := by rw [Heap.size_push, z1]
 have z3 : (zs3 s.heap o l2).objs.size = s.heap.objs.size + 3 := by rw [Heap.size_push, z2]
 have z4 : (zs4 s.heap o l2).objs.size = s.heap.objs.size + 4 := by rw [Heap.size_push, z3]
 haveI z5 : (zs5 s.heap o l2).objs.size = s.heap.objs.size + 5 := by rw [Heap.size_push, z4]
 haveI g5 : (zs5 s.heap o l2).get? (zs4 s.heap o l2).objs.size = some _ := Heap.get?_push_size _ rfl
 haveI g4 : (zs5 s.heap o l2).get? (zs3 s.heap o l2).objs.size = some _ := Heap.get?_push_of_some _ (Heap.get?_push_size _ rfl)
 haveI g3 : (zs5 s.heap o l2).get? (zs2 s.heap o l2).objs.size = some _ := Heap.get?_push_of_some _ (Heap.get?_push_of_some _ (Heap.get?_push_size _ rfl))
 haveI g2 : (zs5 s.heap o l2).get? (zs1 s.heap o).objs.size = some _ := Heap.get?_push_of_some _ (Heap.get?_push_of_some _ (Heap.get?_push_of_some _ (Heap.get?_push_size _ rfl)))
 haveI g1 : (zs5 s.heap o l2).get? s.heap.objs.size = some o := Heap.get?_push_of_some _ (Heap.get?_push_of_some _ (Heap.get?_push_of_some _ (Heap.get?_push_of_some _ (Heap.get?_push_size _ hf))))
 show _ ∧ _
 rw [z2, z3, z4] at g5
 rw [z1, z2] at g3
 rw [z3] at g4
 rw [z1] at g2
 rw [z4]
 exact ⟨⟨_, g5, rfl⟩, h _ g5 g3 g4 g1 ⟨_, g2, rfl, rfl⟩ z5 fun c o x =>
  Heap.get?_push_of_some _ (Heap.get?_push_of_some _ (Heap.get?_push_of_some _ (Heap.get?_push_of_some _ (Heap.get?_push_of_some _ x))))⟩
end
section
variable {Γ : Cx} {n : Nat} {env : Env} {σ : St} {sc : Scope}
theorem CallI.zipS {a : List Nat} {ys : List PV} {es : List Expr} {j : Nat} {pos : Pos} : CallI Γ n (.type "zip") [PR (.pv (.str a)), PR (.pv (.list ys))] (.Tuple es j pos) ((a.zip ys).map fun p => [.str [p.1], p.2]) := fun Vs A E s φ H R ok lv ds Q k => by
 obtain ⟨V, V', rfl, d, d'⟩ := ds.two
 cases d using Den.s with
 | str t => cases d' using Den.l with
  | @list a' vs' ha' hl' hd' =>
  haveI hlen' := hd'.length
  simp only [Array.length_toList] at hlen'
  have hlt' : a' < s.heap.objs.size := by obtain ⟨_, e⟩ := hl'; exact Heap.lt_size e
  haveI hsz : (⟨List.toArray a⟩ : Str).cps.size = a.length := by simp
  haveI fin : ∀ (tn : String) (hni : isLo (zsO tn ⟨List.toArray a⟩ t) = false)
    (D1 : ∀ it, Draws Γ.prog Γ.w A.in1 it [it] (⟨List.toArray a⟩ : Str).cps.size (fun i v => ∃ c u, (⟨List.toArray a⟩ : Str).cps[i]? = some c ∧ v = .str ⟨#[c]⟩ u) (fun i h => h.IsStrIter it tn ⟨List.toArray a⟩ t i))
    (htab : ∀ (o : Obj) (v : Array Value), o.cls = .type tn → o.data = .fields v → isLo o = false)
    (hV : ∀ (prog : Program) (w : World) (A : Around) (Q : Value → Shared → Prop) (E : Value → Shared → Prop) (s : Shared), Q (.ref s.heap.objs.size) { s with heap := s.heap.push (zsO tn ⟨List.toArray a⟩ t) } → wpAny (model prog w) A (pyIter (.str ⟨List.toArray a⟩ t)) Q E s),
    wpAny (model Γ.prog Γ.w) A (call (.type "zip") [.str ⟨List.toArray a⟩ t, .ref a']) (fun x s₁ => wpAny (model Γ.prog Γ.w) A (pyIter x) Q E s₁) E s := by
   intro tn hni D1 htab hV
   refine qz4 rfl hl'.isList hV fun h' hz hTI hTO h1 h2 hsz1 hk => ?_
   refine wpAny_pyIter_zip hz ?_
   generalize hm : s.heap.objs.size = m at *
   have D2 := Draws.list (prog := Γ.prog) (w := Γ.w) (A := A.in1) R.handled (m + 1) a' (by simp only [Addr] at *; lia) vs'
   have W := WalksT.zipD (prog := Γ.prog) (w := Γ.w) R.handled (m + 4) (m + 2) (m + 3) m (m + 1) [m] [m + 1, a'] (by constructor <;> (simp only [Addr, List.mem_cons, List.not_mem_nil, or_false] at *; lia)) (D1 m) D2 (D1 m).live D2.live
   have nw : ∀ b ∈ [m + 4, m + 3, m, m + 1], s.heap.get? b = none := fun b hb => Heap.get?_none_of_le (by
    rw [hm]; simp only [List.mem_cons, List.not_mem_nil, or_false] at hb; rcases hb with rfl | rfl | rfl | rfl <;> simp)
   have hll : min (⟨List.toArray a⟩ : Str).cps.size vs'.size = ((a.zip ys).map fun p => [PV.str [p.1], p.2]).length := by simp [hlen']
   rw [hll] at W
   refine k (m + 4) { s with heap := h' } _ _ _ (Kp.of hk) (ok.keeps hk) (fun b hb => ok.new (nw b hb)) (q91 hk) (Itr.ofWalksT W nw ?_ ?_ es (ps := []) (xs := [])) ⟨hz, hTI, ⟨_, _, hTO⟩, ⟨_, h1, rfl, rfl⟩, h2, (hl'.kp (Kp.of hk)).isList⟩ ?_
   ·intro i h st b hb
    obtain ⟨hz, hTI, ⟨_, _, hTO⟩, h1, h2, _⟩ := st
    simp only [List.mem_cons, List.not_mem_nil, or_false] at hb
    rcases hb with rfl | rfl | rfl | rfl
    ·exact ⟨_, hz, rfl⟩
    ·exact ⟨_, hTO, rfl⟩
    ·obtain ⟨o, ho, hc, hfd⟩ := h1; exact ⟨o, ho, htab o _ hc hfd⟩
    obtain ⟨o, ho, hc, hfd⟩ := h2; exact ⟨o, ho, q07 hc hfd⟩
   ·intro i vals y hp hy
    obtain ⟨x, x', ⟨c, u, hx, rfl⟩, hx', rfl⟩ := hp
    rw [List.getElem?_map] at hy
    obtain ⟨q, hq, rfl⟩ := Option.map_eq_some_iff.mp hy
    rw [← Array.getElem?_toList] at hx hx'
    obtain ⟨z', hz', dz'⟩ := hd'.getV hx'
    haveI : q = (c, z') := by
     rw [List.getElem?_zip_eq_some] at hq
     rw [hz'] at hq
     have h2 : a[i]? = some c := hx
     rw [h2] at hq
     exact Prod.ext (Option.some.inj hq.1).symm (Option.some.inj hq.2).symm
    subst this
    exact .cons (.str [c] u) (.cons dz' .nil)
   intro b hb
   simp only [List.cons_append, List.nil_append, List.mem_cons, List.not_mem_nil, or_false] at hb
   have nw' : s.heap.get? (m + 2) = none := Heap.get?_none_of_le (by rw [hm]; simp)
   rcases hb with rfl | rfl | rfl | rfl | rfl | rfl | rfl | rfl
   ·exact ⟨lv.fresh (nw _ (by simp)), _, hz, rfl⟩
   ·exact ⟨lv.fresh nw', _, hTI, rfl⟩
   ·exact ⟨lv.fresh (nw _ (by simp)), _, hTO, rfl⟩
   ·exact ⟨lv.fresh (nw _ (by simp)), _, h1, hni⟩
   ·obtain ⟨o, ho, hc, hfd⟩ := h2
    exact ⟨lv.fresh (nw _ (by simp)), o, ho, q07 hc hfd⟩
   ·exact ⟨lv.fresh (nw _ (by simp)), _, h1, hni⟩
   ·obtain ⟨o, ho, hc, hfd⟩ := h2
    exact ⟨lv.fresh (nw _ (by simp)), o, ho, q07 hc hfd⟩
   exact ⟨ha', (hl'.kp (Kp.of hk)).lo⟩
  cases hasc : (⟨List.toArray a⟩ : Str).cps.all (· < 128)
  ·exact fin "str_iterator" rfl (fun it => Draws.strWide (A := A.in1) R.handled it _ t) (fun o v hc hfd => q07 hc hfd) fun prog w A Q E s h => wpAny_pyIter_wide hasc h
  exact fin "str_ascii_iterator" rfl (fun it => Draws.strAscii (A := A.in1) R.handled it _ t) (fun o v hc hfd => q07 hc hfd) fun prog w A Q E s h => wpAny_pyIter_ascii hasc h
theorem I.zipS {x : Str} {p pos tpos : Pos} {e e' : Expr} {es : List Expr} {j : Nat} {a : List Nat} {ys : List PV} (b : BN Γ env sc x (.type "zip")) (ha : E Γ n env σ e (.pv (.str a))) (hb : E Γ n env σ e' (.pv (.list ys))) (he : ∀ env, starEach [e, e'] env = (false, eval e env) :: starEach [e'] env) (he' : ∀ env, starEach [e'] env = (false, eval e' env) :: starEach [] env) :
  EvI Γ n env σ (.Call (.Name x p) [e, e'] [] pos) (.Tuple es j tpos) ((a.zip ys).map fun p => [.str [p.1], p.2]) :=
 EvI.call_ty b.ev (EvS.cons (mR _) ha.run (EvS.cons (mR _) hb.run EvS.nil he') he) CallI.zipS he (fun env => by rw [he']; rfl)
end
noncomputable def fndS (x y : Str) (i j : Int) : Int := match Builtin.Str.occurrences x y (fromIndex x.length i) (min (fromIndex x.length j) x.length) 1 with | k :: _ => (k : Int) | [] => -1
theorem qm3 (x y : Str) (i j : Int) (t u v r : Tok) : Gives (Builtin.«str.find» ⟨[.str x t, .str y u, .int i v, .int j r], []⟩) (.int (fndS x y i j)) := by
 show Gives (match Builtin.Str.occurrences x y (fromIndex x.length i) (min (fromIndex x.length j) x.length) 1 with | k :: _ => retInt k | [] => (do rule "str.find.not-found"; retInt (-1))) _
 unfold fndS
 cases Builtin.Str.occurrences x y (fromIndex x.length i) (min (fromIndex x.length j) x.length) 1 with
 | nil => exact .rule (.of_eq rfl)
 | cons k _ => exact .of_eq rfl
theorem z52 {prog : Program} {w : World} {A : Around} {E : Value → Shared → Prop} {s : Shared} {x y : Str} {t u v r : Tok} {i j : Int} {Q : Value → Shared → Prop} (hq : Q (.int (fndS x y i j) s.toks) { s with toks := s.toks + 1 }) :
  wpAny (model prog w) A (call (.builtin "str.find") [.str x t, .str y u, .int i v, .int j r]) Q E s :=
 call_gives F.slot_str_find (typeIs_str _ _ _) F.entry_str_find (F.args_str_find_4 _ _ _ _) (qm3 x y i j t u v r) hq
noncomputable def fnd (x y : List Nat) (i j : Int) : Int := fndS (S x) (S y) i j
section
variable {Γ : Cx} {n : Nat} {env : Env} {σ : St} {sc scope : Scope} {ns : List String} {α β : Type}
theorem PArgs.four {φ : Nat → Addr} {H : List Addr} {h : Heap} {P Q R T : Pred Value} {Vs : List Value} (c : PArgs φ H h [P, Q, R, T] Vs) : ∃ a b c d, Vs = [a, b, c, d] ∧ P φ H h a ∧ Q φ H h b ∧ R φ H h c ∧ T φ H h d := by
 cases c using PArgs.cn with | cons p c => obtain ⟨_, _, _, rfl, q, r, t⟩ := c.three; exact ⟨_, _, _, _, rfl, p, q, r, t⟩
theorem CallB.find4 {x y : List Nat} {i j : Int} : CallB Γ n env σ (.builtin "str.find") [PR (.pv (.str x)), PR (.pv (.str y)), PR (.pv (.int i)), PR (.pv (.int j))] (PR (.pv (.int (fnd x y i j)))) := fun Vs A E s φ H R ok lv eo c Q k => by
 obtain ⟨V, W, I, J, rfl, a1, a2, a3, a4⟩ := PArgs.four c
 cases a1 using Den.s; cases a2 using Den.s; cases a3 using Den.i; cases a4 using Den.i
 exact z52 (k _ _ (Kp.refl _) ok.toks (.int _ _))
theorem E.find4 {o e e2 e3 : Expr} {apos pos : Pos} {x y : List Nat} {i j : Int} (ho : E Γ n env σ o (.pv (.str x))) (ha : EA Γ n env σ pos [e, e2, e3] [.str y, .int i, .int j]) (hbase : attributeBase o (Str.ofString "find") env (eval o env) = eval o env) (hline : (apos.endLine == pos.line) = true)
  (he : ∀ env, starEach [e, e2, e3] env = (false, eval e env) :: starEach [e2, e3] env) (he2 : ∀ env, starEach [e2, e3] env = [(false, eval e2 env), (false, eval e3 env)]) :
  E Γ n env σ (.Call (.Attribute o (Str.ofString "find") apos) [e, e2, e3] [] pos) (.pv (.int (fnd x y i j))) :=
 ⟨Ev.smeth ho.run ha.run F.slot_str_find F.type_str_find CallB.find4 hbase hline (by rw [he, he2]; rfl) (he env) (by rw [he, he2]; rfl)⟩
end
section
variable {Γ : Cx} {τ n : Nat} {env : Env} {σ : St} {sc scope : Scope} {ns : List String} {α β : Type}
structure EvT (Γ : Cx) (τ n : Nat) (env : Env) (σ : St) {α : Type} (t : Sem α) (P : (Nat → Addr) → List Addr → Heap → α → Prop) : Prop where
 run : ∀ (A : Around) (E : Value → Shared → Prop) (s : Shared) (φ : Nat → Addr) (H : List Addr), Room Γ A n → Γ.Ok s → Live H s.heap → EnvOK env φ H σ s.heap → τ ≤ s.toks →
  ∀ Q : α → Shared → Prop, (∀ V s', Kp s.heap s'.heap → Γ.Ok s' → P φ H s'.heap V → τ ≤ s'.toks → Q V s') → wpAny (model Γ.prog Γ.w) A t Q E s
theorem EvT.mk' {α : Type} {t : Sem α} {P : Pred α} (h : ∀ (A : Around) (E : Value → Shared → Prop) (s : Shared) (φ : Nat → Addr) (H : List Addr), Room Γ A n → Γ.Ok s → Live H s.heap → EnvOK env φ H σ s.heap → τ ≤ s.toks →
  ∀ Q : α → Shared → Prop, (∀ V s', Kp s.heap s'.heap → Γ.Ok s' → P φ H s'.heap V → Q V s') → wpAny (model Γ.prog Γ.w) A t Q E s) : EvT Γ τ n env σ t P :=
 ⟨fun A E s φ H R ok lv eo t0 Q k => wpAny_mono (wpAny_toks_of t0 (h A E s φ H R ok lv eo t0 (fun V s' => τ ≤ s'.toks → Q V s') fun V s' k1 ok1 d tk => k V s' k1 ok1 d tk)) (fun _ _ x => x.2 x.1) fun _ _ x => x.2⟩
theorem EvT.of {α : Type} {t : Sem α} {P : Pred α} (h : EvP Γ n env σ t P) : EvT Γ τ n env σ t P := .mk' fun A E s φ H R ok lv eo t0 Q k => h.run A E s φ H R ok lv eo Q k
theorem q03 {M : Model} {A : Around} {E : Value → Shared → Prop} {s : Shared} {x : Str} {k : Nat} {pos : Pos} {Q : Value → Shared → Prop} (h : Q (.str x s.toks) { s with toks := s.toks + 1 }) : wpAny M A (eval (.Constant (.str x) k pos) env) Q E s := fun _ _ _ => h
noncomputable def rpl (x y z : List Nat) : List Nat := (Txt.replace (S x) (S y) (S z)).cps.toList
theorem S_rpl (x y z : List Nat) : S (rpl x y z) = Txt.replace (S x) (S y) (S z) := by
 show (⟨_⟩ : Str) = _
 unfold rpl
 dsimp only [Array.toArray_toList]
theorem EvT.replace {o : Expr} {k1 k2 : Nat} {p1 p2 apos pos : Pos} {x y z : List Nat} {y' z' : Str} (ht : 1 ≤ τ) (ho : EvT Γ τ n env σ (eval o env) (PR (.pv (.str x)))) (hy : y' = S y) (hz : z' = S z) (hyz : (S y == S z) = false) (hb : x.length + (x.length + 1) * z.length ≤ 16777216)
  (hbase : attributeBase o (Str.ofString "replace") env (eval o env) = eval o env) (hline : (apos.endLine == pos.line) = true) :
  EvT Γ τ n env σ (eval (.Call (.Attribute o (Str.ofString "replace") apos) [.Constant (.str y') k1 p1, .Constant (.str z') k2 p2] [] pos) env) (PR (.pv (.str (rpl x y z)))) :=
 .mk' fun A E s φ H R ok lv eo t0 Q k => by
  subst hy; subst hz
  refine wpAny_Call_method_lateS hbase rfl hline (ho.run A E s φ H R ok lv eo t0 _ fun V s1 e1 ok1 d t1 => ⟨"str", "str.replace", F.plainAttrs_str, F.slot_str_replace, F.type_str_replace, ?_, ?_, ?_⟩)
  ·cases d using Den.s; rfl
  ·intro a ea; subst ea; cases d using Den.s
  refine Calls.callWith_builtin rfl ?_
  refine Calls.evalArgs_plain ?_
  refine wpAny_items_cons (q03 (wpAny_items_cons (q03 (wpAny_items_nil ?_)) rfl)) rfl
  cases d using Den.s with
  | str t =>
   refine SC.replace (by show s1.toks ≠ 0; lia) (by show s1.toks + 1 ≠ 0; lia) (by show s1.toks ≠ s1.toks + 1; lia) hyz ?_ fun t' j => k _ _ e1 ok1.toks ?_
   ·haveI e2 : (⟨x.toArray⟩ : Str).length = x.length := S_len x
    rw [e2, S_len]; exact hb
   haveI : Txt.replace ⟨x.toArray⟩ (S y) (S z) = S (rpl x y z) := (S_rpl x y z).symm
   rw [this]; exact .str _ _
end
section
variable {Γ : Cx} {τ n : Nat} {env : Env} {σ : St} {sc scope : Scope} {ns : List String} {α β : Type} {K : AF → St → Prop} {more : List Stmt}
structure ET (Γ : Cx) (τ n : Nat) (env : Env) (σ : St) (e : Expr) (r : RV) : Prop where
 run : EvT Γ τ n env σ (eval e env) (PR r)
theorem ET.of {e : Expr} {r : RV} (h : E Γ n env σ e r) : ET Γ τ n env σ e r := ⟨EvT.of h.run⟩
theorem ET.replace {o : Expr} {k1 k2 : Nat} {p1 p2 apos pos : Pos} {x : List Nat} {y z : String} (ht : 1 ≤ τ) (ho : ET Γ τ n env σ o (.pv (.str x))) (hyz : (S (cs y) == S (cs z)) = false) (hb : x.length + (x.length + 1) * (cs z).length ≤ 16777216)
  (hbase : attributeBase o (Str.ofString "replace") env (eval o env) = eval o env) (hline : (apos.endLine == pos.line) = true) :
  ET Γ τ n env σ (.Call (.Attribute o (Str.ofString "replace") apos) [.Constant (.str (Str.ofString y)) k1 p1, .Constant (.str (Str.ofString z)) k2 p2] [] pos) (.pv (.str (rpl x (cs y) (cs z)))) :=
 ⟨EvT.replace ht ho.run (ofS y) (ofS z) hyz hb hbase hline⟩
theorem Ex.assignT {x : String} {p pos : Pos} {e : Expr} {r : RV} {rest : List (String × RV)} (h : EvT Γ τ n env σ (eval e env) (PR r)) (hx : x ∈ ns) (kr : Keep [x] σ.v rest) (k : K .nx ⟨(x, r) :: rest, σ.o⟩)
  (hs : swapsWith e (some (.Name (Str.ofString x) p)) pos.line env = pure false) : Ex Γ τ n env ns σ (exec (.Assign [.Name (Str.ofString x) p] e pos) env) K := .mk' fun A E s φ Mw Lo H R F τ0 Q q => by
 refine wpAny_Assign_Name (h.run A E s φ (Mw ++ Lo ++ H) R F.ok F.live F.eo τ0 _ fun V s1 k1 ok1 d τ1 => ?_) hs
 haveI F1 := F.kp k1 ok1
 exact F1.storeName hx kr d fun s' F' g' => q .next s' .nx _ φ Lo k F' ((Gr.of k1).trans g') trivial
theorem X.asgT {x : String} {p pos : Pos} {e : Expr} {r : RV} {rest : List (String × RV)} (hx : x ∈ ns) (hs : swapsWith e (some (.Name (Str.ofString x) p)) pos.line env = pure false) (kr : Keep [x] σ.v rest) (h : ET Γ τ n env σ e r)
  (k : X Γ τ n env ns ⟨(x, r) :: rest, σ.o⟩ more K) : X Γ τ n env ns σ (.Assign [.Name (Str.ofString x) p] e pos :: more) K := ⟨Ex.cons (Ex.assignT h.run hx kr k.run hs)⟩
end
section
variable {Γ : Cx} {τ n : Nat} {env : Env} {σ : St} {sc scope : Scope} {ns : List String} {α β : Type} {K : AF → St → Prop} {more : List Stmt}
theorem X.swap2 {a b : String} {pa pb : Pos} {j k' ki : Nat} {tp vp ip pos : Pos} {i : Int} {e : Expr} {v : PV} {r1 r2 : List (String × RV)} (ha : a ∈ ns) (hb : b ∈ ns)
  (kr1 : Keep [b] σ.v r1) (kr2 : Keep [a] ((b, RV.pv v) :: r1) r2) (h : E Γ n env σ e (.pv v))
  (he : ∀ env, starEach [.Constant (.int i) ki ip, e] env = (false, eval (.Constant (.int i) ki ip) env) :: starEach [e] env) (he2 : ∀ env, starEach [e] env = (false, eval e env) :: starEach [] env)
  (hs : swapsWithSole [.Tuple [.Name (Str.ofString a) pa, .Name (Str.ofString b) pb] j tp] (.Tuple [.Constant (.int i) ki ip, e] k' vp) pos.line env = pure false)
  (hw : swappedStores [.Tuple [.Name (Str.ofString a) pa, .Name (Str.ofString b) pb] j tp] (.Tuple [.Constant (.int i) ki ip, e] k' vp) env = pure (some [Str.ofString a, Str.ofString b]))
  (k : X Γ 1 n env ns ⟨(a, .pv (.int i)) :: r2, σ.o⟩ more K) :
  X Γ τ n env ns σ (.Assign [.Tuple [.Name (Str.ofString a) pa, .Name (Str.ofString b) pb] j tp] (.Tuple [.Constant (.int i) ki ip, e] k' vp) pos :: more) K := by
 refine ⟨.mk' fun A E s φ Mw Lo H R F τ0 Q q => ?_⟩
 rw [execs_cons]
 refine wpAny_bind (Assign_Tuple_swapped (names := [Str.ofString a, Str.ofString b]) (wpAny_Tuple (wpAny_items_cons (wpAny_Constant_int (wpAny_items_cons ?_ (he2 env))) (he env))) hs hw)
 haveI F0 : Fr Γ env ns φ Mw Lo H σ { s with toks := s.toks + 1 } := F.kp (Kp.refl _) F.ok.toks
 refine F0.evt (τ := 1) R (by show 1 ≤ s.toks + 1; lia) h.run fun V s1 k1 F1 d τ1 => ?_
 refine wpAny_items_nil ?_
 refine ⟨by simp [sizeLine], ?_⟩
 haveI F2 : Fr Γ env ns φ Mw Lo H σ { s1 with heap := s1.heap.push { cls := .type "tuple", data := .seq #[.int i s.toks, V] } } := F1.kp (Kp.push _ _) (F1.ok.push0 _)
 refine wpAny_unpackItems_tuple (items := #[.int i s.toks, V]) R.handled (TupAt.new _ _).isTuple fun h3 e3 => ?_
 have keep3 : ∀ c o, (s1.heap.push { cls := .type "tuple", data := .seq #[.int i s.toks, V] }).get? c = some o → h3.get? c = some o := fun c o e => e3 c o (Nat.ne_of_lt (Heap.lt_size e)) e
 haveI F3 : Fr Γ env ns φ Mw Lo H σ { s1 with heap := h3 } := F2.kp (Kp.of keep3) (F2.ok.keeps keep3)
 haveI d3 : DenR φ (Mw ++ Lo ++ H) h3 V (.pv v) := mR _ _ _ _ _ _ ((Kp.push _ _).trans (Kp.of keep3)) d
 haveI k03 : Kp s.heap h3 := k1.trans ((Kp.push _ _).trans (Kp.of keep3))
 refine wpAny_mono (wpAny_toks_of (n := 1) (show 1 ≤ s1.toks from τ1) (wpAny_assignInOrder_more (Q := fun _ s' => ∃ F' : Fr Γ env ns φ Mw Lo H ⟨(a, .pv (.int i)) :: r2, σ.o⟩ s', Gr Mw Lo Lo s.heap s'.heap) (bindName_ (F3.storeName hb kr1 d3 fun s4 F4 g4 => wpAny_assignInOrder_more (bindName_ (F4.storeName ha kr2 (r := .pv (.int i)) (.int _ _) fun s5 F5 g5 => wpAny_assignInOrder_none ⟨F5, ((Gr.of k03).trans g4).trans g5⟩)))))) (fun _ s5 x => ?_) fun _ _ x => x.2
 obtain ⟨t5, F5, g5⟩ := x
 refine k.run.run A E s5 φ Mw Lo H R F5 t5 Q fun fl s' af σ' φ' Lo' c F' g' fr t6 => q fl s' af σ' φ' Lo' c F' (g5.trans g') fr
end
section
variable {Γ : Cx} {τ n : Nat} {env : Env} {σ : St} {sc scope : Scope} {ns : List String} {α β : Type}
theorem Ev.item_listN {value slice : Expr} {pos : Pos} {xs : List PV} {i : Int} {v : PV} (ho : EvL Γ n env σ value xs) (hi : Ev Γ n env σ slice (.pv (.int i)))
  (h0 : i < 0) (h1 : -(2 ^ 60) ≤ i) (h2 : -(xs.length : Int) ≤ i) (hc : xs[(i + xs.length).toNat]? = some v)
  (hs : ∀ o i, subscripted slice false o i = operate [o, i] (getItem o i) := by intro _ _; rfl) : Ev Γ n env σ (.Subscript value slice pos) (.pv v) :=
 EvP.sub (mL _) ho hi fun V W A E s φ H R ok lv eo cc Q k => by
  obtain ⟨⟨a, vs, rfl, hl, hd⟩, d2⟩ := cc; cases d2 using Den.i
  obtain ⟨V', hV, dV⟩ := hd.get hc
  haveI hlen := hd.length
  simp only [Array.length_toList] at hlen
  exact tail_any (T := "list") hl.isList.typeIs F.slot_list_getitem.lookup (wpAny_getItem_list_neg hl.isList h0 (by rw [hlen]; exact h2) (by lia) (by rw [hlen]; simpa using hV) (k _ _ (Kp.refl _) ok dV)) (hs _ _)
theorem E.itemlN {value slice : Expr} {pos : Pos} {xs : List PV} {i : Int} {v : PV} (ho : EL Γ n env σ value xs) (hi : E Γ n env σ slice (.pv (.int i))) (h0 : i < 0) (h1 : -(2 ^ 60) ≤ i) (h2 : -(xs.length : Int) ≤ i) (hc : xs[(i + xs.length).toNat]? = some v)
  (hs : ∀ o i, subscripted slice false o i = operate [o, i] (getItem o i) := by intro _ _; rfl) : E Γ n env σ (.Subscript value slice pos) (.pv v) := ⟨Ev.item_listN ho.run hi.run h0 h1 h2 hc hs⟩
end
section
variable {Γ : Cx} {τ n : Nat} {env : Env} {σ : St} {sc scope : Scope} {ns : List String} {α β : Type}
noncomputable def PV' (v : Value) : Pred Value := fun _ _ _ V => V = v
theorem mV (v : Value) : MonoP (PV' v) := fun _ _ _ _ _ _ h => h
theorem CallB.isStr {a : List Nat} : CallB Γ n env σ (.builtin "isinstance") [PR (.pv (.str a)), PV' (.type "str")] (PR (.pv (.bool true))) := fun Vs A E s φ H R ok lv eo c Q k => by
 obtain ⟨V, W, rfl, d, e⟩ := c.two
 haveI e' : W = .type "str" := e
 subst e'
 cases d using Den.s
 exact IsiPair.str_str (k _ _ (Kp.refl _) ok (.bool true))
theorem E.isStr {x x' : Str} {p p' pos : Pos} {e : Expr} {a : List Nat} (b : BN Γ env sc x (.builtin "isinstance")) (b' : BN Γ env sc x' (.type "str")) (ha : E Γ n env σ e (.pv (.str a))) (he : ∀ env, starEach [e, .Name x' p'] env = (false, eval e env) :: starEach [.Name x' p'] env) (he' : ∀ env, starEach [.Name x' p'] env = (false, eval (.Name x' p') env) :: starEach [] env) :
  E Γ n env σ (.Call (.Name x p) [e, .Name x' p'] [] pos) (.pv (.bool true)) :=
 ⟨Ev.call_fn b.ev (EvS.cons (mR _) ha.run (EvS.cons (mV _) b'.ev EvS.nil he') he) CallB.isStr he (fun env => by rw [he']; rfl)⟩
end
section
variable {Γ : Cx} {τ n : Nat} {env : Env} {σ : St} {sc scope : Scope} {ns : List String} {α β : Type}
theorem Cmp.is_obj {a : Nat} : Cmp Γ n .Is (PR (.pv (.obj a))) (PR (.pv (.obj a))) true := fun A E s φ H V W R ok d1 d2 Q h => by
 cases d1 using Den.o with | obj ha ho => cases d2 using Den.o with | obj hb hp =>
 show wpAny _ _ (do return .bool (← isSame (.ref a) (.ref a))) Q E s
 exact wpAny_bind (PySem.wpAny_isSame_ref_self (wpAny_pure h))
theorem B.isO {l r : Expr} {pos : Pos} {a : Nat} (ha : E Γ n env σ l (.pv (.obj a))) (hb : E Γ n env σ r (.pv (.obj a))) (hm : behindInMarks .Is r = false) : B Γ n env σ (.Compare l [.Is] [r] pos) true := ⟨Evb.cmp (mR _) Cmp.is_obj ha.run hb.run hm⟩
end
theorem qr1 {prog : Program} {w : World} {A : Around} {E : Value → Shared → Prop} {s : Shared} {l : Addr} {vs : Array Value} {k : Int} {t : Tok} {v : Value} {Q : Unit → Shared → Prop} (hl : LstAt s.heap l vs) (h0 : 0 ≤ k) (hfit : k < 2 ^ 63) (hn : k < vs.size)
  (hQ : ∀ h', Heap.SameBut l s.heap h' → LstAt h' l (vs.setIfInBounds k.toNat v) → Q () { s with heap := h' }) : wpAny (model prog w) A (setItem (.ref l) (.int k t) v) Q E s := by
 obtain ⟨n, ho⟩ := id hl
 have hL := hl.isList
 unfold setItem
 try with_reducible refine wpAny_holding ?_
 first | refine wpAny_bind (wpAny_pure ?_) | skip
 refine wpAny_bind (wpAny_sequenceKey hL.typeIs (by decide) ?_)
 refine wpAny_bind (wpAny_callSpecial?_slot (name := Str.ofString "__setitem__") hL.typeIs slot_list_setitem
  (wpAny_call_entry slot_list_setitem hL.typeIs entry_list_setitem ?_ (args_list_setitem _ _ _)))
 show wpAny _ _ (Builtin.List.listSubscript? (.int k t) >>= _) _ _ s
 refine wpAny_bind (wpAny_listSubscript_int (fitsIndex_of h0 hfit) ?_)
 clear hfit
 obtain ⟨j, rfl⟩ := Int.eq_ofNat_of_zero_le h0
 have hj : j < vs.size := by omega
 have hx' : vs[j]? = some vs[j] := Array.getElem?_eq_getElem hj
 show wpAny _ _ ((seqItemAt l j >>= fun r => pure (r.map (j, ·))) >>= _) _ _ s
 refine wpAny_bind (wpAny_bind (wpAny_seqItemAt ho rfl (wpAny_pure ?_)))
 rw [hx']
 show wpAny _ _ (setSeqItemAt l j v >>= _) _ _ s
 have hfin : LstAt (s.heap.update l (Obj.mapSeq (·.setIfInBounds j v))) l (vs.setIfInBounds j v) :=
  ⟨_, Heap.get?_update_self _ ho rfl⟩
 refine wpAny_bind (wpAny_setSeqItemAt ho rfl ?_)
 first
  | exact wpAny_bind (wpAny_pure (wpAny_pure ⟨.none, rfl, wpAny_pure (hQ _ (Heap.SameBut.update ..) hfin)⟩))
  | exact wpAny_pure ⟨.none, rfl, wpAny_pure (hQ _ (Heap.SameBut.update ..) hfin)⟩
theorem Dens.set {H : List Addr} {h : Heap} {V : Value} {v : PV} (d : Den H h V v) {Vs : List Value} {xs : List PV} (j : Nat) (r : Dens H h Vs xs) : Dens H h (Vs.set j V) (xs.set j v) :=
 r.ind (M := fun Vs xs => ∀ j, Dens H h (Vs.set j V) (xs.set j v)) (fun _ => .nil) (fun a b ih j => by
  cases j with
  | zero => exact .cons d b
  | succ j => exact .cons a (ih j)) j
section
variable {Γ : Cx} {τ n : Nat} {env : Env} {σ : St} {sc scope : Scope} {ns : List String} {α β : Type} {K : AF → St → Prop} {more : List Stmt}
theorem Ex.put {x : String} {p pos pos' : Pos} {e i : Expr} {k : Nat} {xs : List PV} {v : PV} {z : Int} {orest : List (Nat × List PV)} (G : EnvG env) (hm : (x, RV.ptr k) ∈ σ.v) (ho : (k, xs) ∈ σ.o) (ko : KeepO k σ.o orest) (h : Ev Γ n env σ e (.pv v)) (hi : Ev Γ n env σ i (.pv (.int z))) (h0 : 0 ≤ z) (h1 : z < xs.length) (hz : xs.length ≤ 2 ^ 24)
  (c : K .nx ⟨σ.v, (k, xs.set z.toNat v) :: orest⟩) (hs : swapsWith e (some (.Subscript (.Name (Str.ofString x) p) i pos')) pos.line env = pure false) (hd : (Str.ofString x == ("__debug__" : Str)) = false) :
  Ex Γ τ n env ns σ (exec (.Assign [.Subscript (.Name (Str.ofString x) p) i pos'] e pos) env) K := .mk' fun A E s φ Mw Lo H R F τ0 Q q => by
 refine wpAny_Assign_Subscript ?_ hs
 refine F.ev R h fun V s1 k1 F1 dv => ?_
 obtain ⟨W, a, d⟩ := F1.eo.vars _ _ hm
 haveI d' : W = .ref (φ k) := d
 subst d'
 refine wpAny_Name (q04 G.kind a ?_) hd
 refine F1.ev R hi fun I s2 k2 F2 di => ?_
 obtain ⟨_, vs2, hl2, hd2⟩ := F2.eo.own _ _ ho
 haveI hlen := hd2.length
 simp only [Array.length_toList] at hlen
 haveI di' : Den (Mw ++ Lo ++ H) s2.heap I (.int z) := di
 cases di' using Den.i
 refine qr1 hl2 h0 (by lia) (by lia) fun h' hs' hl' => ?_
 obtain ⟨F3, G3⟩ := F2.setOwn (t := s2.toks) ho ko hs' hl' (ys := xs.set z.toNat v) (by rw [Array.toList_setIfInBounds]; exact Dens.set (dv.kp k2) _ hd2)
 exact q .next { s2 with heap := h' } .nx _ φ Lo c F3 ((Gr.of (k1.trans k2)).trans G3) trivial
theorem X.put {x : String} {p pos pos' : Pos} {e i : Expr} {k : Nat} {xs : List PV} {v : PV} {z : Int} {orest : List (Nat × List PV)} (G : EnvS env sc) (hm : (x, RV.ptr k) ∈ σ.v) (ho : (k, xs) ∈ σ.o) (ko : KeepO k σ.o orest) (h : E Γ n env σ e (.pv v)) (hi : E Γ n env σ i (.pv (.int z))) (h0 : 0 ≤ z) (h1 : z < xs.length) (hz : xs.length ≤ 2 ^ 24)
  (hs : swapsWith e (some (.Subscript (.Name (Str.ofString x) p) i pos')) pos.line env = pure false) (hd : (Str.ofString x == ("__debug__" : Str)) = false)
  (c : X Γ τ n env ns ⟨σ.v, (k, xs.set z.toNat v) :: orest⟩ more K) : X Γ τ n env ns σ (.Assign [.Subscript (.Name (Str.ofString x) p) i pos'] e pos :: more) K :=
 ⟨Ex.cons (Ex.put G.g hm ho ko h.run hi.run h0 h1 hz c.run hs hd)⟩
end
theorem q98 {prog : Program} {w : World} {A : Around} {E : Value → Shared → Prop} {s : Shared} {a : Addr} {xs : Array Value} {k : Nat} {Q : Value → Shared → Prop}
  (hx : s.heap.get? a = some { cls := .type "list", dict := none, data := .seq xs k, slots := #[] }) (h : ∀ t, Q (.ref s.heap.objs.size) { s with heap := s.heap.push (mwObj a), toks := t }) :
  wpAny (model prog w) A (getAttr (.ref a) "__contains__" true) Q E s := by
 obtain ⟨hp, g, d, tk, os⟩ := s
 haveI hT : ∀ tk', (⟨hp, g, d, tk', os⟩ : Shared).TypeIs (.ref a) "list" := fun _ => ⟨_, hx, rfl⟩
 haveI f3 := F.slot_list_getattribute.lookup
 haveI f4 := F.slot_list_getattribute.bind (.ref a)
 haveI f5 := am_list_getattr_none
 unfold getAttr getAttrBy
 repeat (any_goals (first | assumption | exact hT _ | ((with_reducible show wpAny _ _ (call (Value.builtin "list.__getattribute__") _ _) _ _ _); refine call_meets F.slot_list_getattribute (hT _) am_entry_list_getattribute (F.args_list_getattribute_2 _ _) (q83 a xs k _) ⟨hx, ?_⟩) | wp_step))
 exact wpAny_pure (h _)
theorem q60 {M : Model} {A : Around} {E : Value → Shared → Prop} {s : Shared} {a : Addr} {xs : Array Value} {k : Nat} {x : Value} {Q : Unit → Shared → Prop}
  (hx : s.heap.get? a = some { cls := .type "list", dict := none, data := .seq xs k, slots := #[] }) (h : Q () s) : wpAny M A (checkBoundCall "list.__contains__" ⟨[.ref a, x], []⟩) Q E s := by
 haveI hT : s.TypeIs (.ref a) "list" := ⟨_, hx, rfl⟩
 haveI hn := qc2
 unfold checkBoundCall
 repeat (any_goals (first | assumption | wp_step))
theorem z79 {prog : Program} {w : World} {A : Around} {E : Value → Shared → Prop} {s : Shared} {b a : Addr} {vs : Array Value} {x : Value} {Q : Value → Shared → Prop} (e : Value → Bool) (hb : s.heap.get? b = some (mwObj a)) (hl : LstAt s.heap a vs)
  (he : ∀ y, y ∈ vs → PySem.SeqAt.EqAt A.in1 s y x (e y)) (h : Q (.bool (vs.any e)) s) : wpAny (model prog w) A (call (.ref b) [x]) Q E s := by
 obtain ⟨k, hk⟩ := hl
 refine wpAny_call (codeAny_of_tree ?_)
 show wpAny _ A.in1 (callAny (.ref b) ⟨[x], []⟩) _ _ s
 unfold callAny
 refine wpAny_bind (wpAny_load hb ?_)
 show wpAny _ A.in1 (do checkBoundCall "list.__contains__" ⟨[.ref a, x], []⟩; pure (← again (.builtin "list.__contains__" ⟨[.ref a, x], []⟩))) _ _ s
 refine wpAny_bind (q60 hk ?_)
 refine wpAny_bind (wpAny_pure (wpAny_pure ⟨plainId_quiet F.slot_list_contains.plain _, codeAny_builtin F.entry_list_contains ?_⟩))
 dsimp only [Around.under_plainId F.slot_list_contains.plain _]
 exact PySem.SeqAt.list_containsAt a vs k none #[] x e prog w A (wants Q E) s ⟨hk, he, h⟩
theorem qs9 (a : Value) : argsOk "iter" ⟨[a], []⟩ := by unfold argsOk; kernel_rfl
theorem qn1 : entryFor table "iter" = some Builtin.«iter» := entryFor_of_fast (by kernel_rfl)
theorem qe7 (a : Value) : argsOk "next" ⟨[a], []⟩ := by unfold argsOk; kernel_rfl
theorem qz6 {prog : Program} {w : World} {A : Around} {E : Value → Shared → Prop} {s : Shared} {l : Addr} {vs : Array Value} {Q : Value → Shared → Prop} (hl : s.heap.IsList l vs)
  (h : Q (.ref s.heap.objs.size) { s with heap := s.heap.push { cls := .type "list_iterator", data := .fields #[.ref l, .int 0 0] } }) : wpAny (model prog w) A (call (.builtin "iter") [.ref l]) Q E s := by
 refine call_function_entry (by decide +kernel) (by decide +kernel) qn1 (qs9 _) ?_
 unfold Builtin.«iter»
 refine wpAny_bind (m := someArgs "iter" 1 2 _) (wpAny_of_eq (a := [Value.ref l]) (by first | rfl | kernel_rfl!) ?_)
 dsimp only
 refine wpAny_bind (wpAny_pyIter_list hl ?_)
 exact wpAny_pure ⟨_, rfl, h⟩
theorem qd7 {prog : Program} {w : World} {A : Around} {E : Value → Shared → Prop} {s : Shared} {it l : Addr} {i : Nat} {vs : Array Value} {x : Value} {Q : Value → Shared → Prop} (hit : s.heap.IsListIter it l i) (hl : s.heap.IsList l vs) (hx : vs[i]? = some x)
  (hQ : ∀ h', h'.IsListIter it l (i + 1) → Heap.SameBut it s.heap h' → Q x { s with heap := h' }) : wpAny (model prog w) A (call (.builtin "next") [.ref it]) Q E s := by
 refine call_function_entry (by decide +kernel) (by decide +kernel) PySem.W.kdk_entry_next (qe7 _) ?_
 unfold Builtin.«next»
 refine wpAny_bind (m := someArgs "next" 1 2 _) (wpAny_of_eq (a := [Value.ref it]) (by first | rfl | kernel_rfl!) ?_)
 dsimp only
 refine wpAny_bind (wpAny_specialOf (name := Str.ofString "__next__") hit.typeIs slot_listiter_next.lookup ?_)
 refine wpAny_ite_split (fun hab => absurd hab (by decide)) (fun _ => ?_)
 obtain ⟨o, ho, hc, hd⟩ := id hit
 obtain ⟨ol, hol, _, nl, hdl⟩ := hl
 refine wpAny_bind (wpAny_callSpecial?_slot (name := Str.ofString "__next__") hit.typeIs slot_listiter_next
  (wpAny_call_entry slot_listiter_next hit.typeIs entry_listiter_next ?_ (args_listiter_next _)))
 show wpAny _ _ (field (.ref it) 0 >>= _) _ _ s
 refine wpAny_bind (wpAny_field ho hd (x := .ref l) rfl ?_)
 show wpAny _ _ (if (Value.ref l == Value.none) = true then _ else _) _ _ s
 rw [if_neg (show ¬ ((Value.ref l == Value.none) = true) from Bool.false_ne_true)]
 show wpAny _ _ (field (.ref it) 1 >>= _) _ _ s
 refine wpAny_bind (wpAny_field ho hd (x := .int i 0) rfl ?_)
 show wpAny _ _ (seqItems? (.ref l) >>= _) _ _ s
 refine wpAny_bind (wpAny_seqItems hol hdl ?_)
 simp only [Int.toNat_natCast, hx]
 refine wpAny_bind (wpAny_setField ho hd (by simp) (wpAny_pure ⟨x, rfl, wpAny_pure ⟨_, rfl, hQ _ ?_ (Heap.SameBut.update ..)⟩⟩))
 exact ⟨_, Heap.get?_update_self _ ho (Obj.isFreed_of_fields (Obj.data_mapFields hd _)), (Obj.cls_mapFields ..).trans hc, by
  rw [Obj.data_mapFields hd]; simp [rawInt]⟩
theorem qh1 {prog : Program} {w : World} {A : Around} {E : Value → Shared → Prop} {s : Shared} {it l : Addr} {i : Nat} {vs : Array Value} {Q : Value → Shared → Prop} (hh : A.handled = none) (hit : s.heap.IsListIter it l i) (hl : s.heap.IsList l vs) (hx : vs[i]? = none)
  (hE : ∀ h1 h' e, Heap.SameBut it s.heap h1 → Heap.MadeExcOf h1 h' e (.type "StopIteration") [] → E (.ref e) { s with heap := h' }) : wpAny (model prog w) A (call (.builtin "next") [.ref it]) Q E s := by
 refine call_function_entry (by decide +kernel) (by decide +kernel) PySem.W.kdk_entry_next (qe7 _) ?_
 unfold Builtin.«next»
 refine wpAny_bind (m := someArgs "next" 1 2 _) (wpAny_of_eq (a := [Value.ref it]) (by first | rfl | kernel_rfl!) ?_)
 dsimp only
 refine wpAny_bind (wpAny_specialOf (name := Str.ofString "__next__") hit.typeIs slot_listiter_next.lookup ?_)
 refine wpAny_ite_split (fun hab => absurd hab (by decide)) (fun _ => ?_)
 obtain ⟨o, ho, hc, hd⟩ := id hit
 obtain ⟨ol, hol, _, nl, hdl⟩ := hl
 refine wpAny_bind (wpAny_callSpecial?_slot (name := Str.ofString "__next__") hit.typeIs slot_listiter_next
  (wpAny_call_entry slot_listiter_next hit.typeIs entry_listiter_next ?_ (args_listiter_next _)))
 show wpAny _ _ (field (.ref it) 0 >>= _) _ _ s
 refine wpAny_bind (wpAny_field ho hd (x := .ref l) rfl ?_)
 show wpAny _ _ (if (Value.ref l == Value.none) = true then _ else _) _ _ s
 rw [if_neg (show ¬ ((Value.ref l == Value.none) = true) from Bool.false_ne_true)]
 show wpAny _ _ (field (.ref it) 1 >>= _) _ _ s
 refine wpAny_bind (wpAny_field ho hd (x := .int i 0) rfl ?_)
 show wpAny _ _ (seqItems? (.ref l) >>= _) _ _ s
 refine wpAny_bind (wpAny_seqItems hol hdl ?_)
 simp only [Int.toNat_natCast, hx]
 refine wpAny_bind (wpAny_rule (wpAny_bind (wpAny_setField ho hd (by simp) ?_)))
 show wpAny _ _ (newExc (.type "StopIteration") [] >>= _) _ _ _
 refine wpAny_bind ?_
 simp only [newExc, newTuple]
 refine wpAny_bind (wpAny_newObj_type ?_ (by size_fits))
 refine wpAny_bind (m := firstArgMember _ _) (wpAny_of_eq (a := Value.none) (by first | rfl | (simp only [firstArgMember]; rfl)) ?_)
 refine wpAny_newObj_type ?_ (by size_fits)
 dsimp only [raiseNew]
 refine wpAny_bind (wpAny_handled ?_)
 rw [show A.in1.in1.handled = none from hh]
 refine wpAny_bind (wpAny_pure (wpAny_throw ?_))
 haveI hsz : ∀ (h : Heap) (o1 : Obj), h.get? h.objs.size = none := fun h _ => q00 h
 refine hE (s.heap.update it (Obj.mapFields (·.setIfInBounds 0 Value.none))) _ _ (Heap.SameBut.update ..) ⟨fun b o e => Heap.get?_push_of_some _ (Heap.get?_push_of_some _ e), ?_, _, Heap.get?_push_size _ rfl, q00 _, ?_⟩
 ·rw [Heap.size_push]; exact Heap.get?_none_of_le (Nat.le_succ _)
 exact Heap.get?_push_of_some _ (Heap.get?_push_size _ rfl)
structure FF (K : Frag) (C fI fT fN pF pI : Addr) : Prop where
 made : makesIn K C = true
 hI : findIn K (.ref C) "__init__" = some (some (.ref fI))
 tI : typeIn K (.ref fI) = some (.type "function")
 hT : findIn K (.ref C) "__iter__" = some (some (.ref fT))
 tT : typeIn K (.ref fT) = some (.type "function")
 hN : findIn K (.ref C) "__next__" = some (some (.ref fN))
 tN : typeIn K (.ref fN) = some (.type "function")
 noLen : findIn K (.ref C) "__len__" = some none
 noHint : findIn K (.ref C) "__length_hint__" = some none
 setA : findIn K (.ref C) "__setattr__" = some (some (.builtin "object.__setattr__"))
 over : plainOver K C = true
 tkF : takerIn K C "_func" = some (some (.ref pF))
 tkI : takerIn K C "_it" = some (some (.ref pI))
 tyF : typeIn K (.ref pF) = some (.type "member_descriptor")
 tyI : typeIn K (.ref pI) = some (.type "member_descriptor")
 slF : slotIn K pF C = some 0
 slI : slotIn K pI C = some 1
 getF : plainGet K C "_func" = true
 getI : plainGet K C "_it" = true
 isC : isClsIn K C = true
 atF : findIn K (.ref C) "_func" = some (some (.ref pF))
 atI : findIn K (.ref C) "_it" = some (some (.ref pI))
 gnF : specialIn K (.ref pF) "__get__" = some (some (.builtin "member_descriptor.__get__"))
 gnI : specialIn K (.ref pI) "__get__" = some (some (.builtin "member_descriptor.__get__"))
 tsF : takesIn K (.ref pF) = some true
 tsI : takesIn K (.ref pI) = some true
 nt : K.all (fun p => !isTb p.2) = true
 keep : keepIn K (.ref C) = true
structure FnAt (hB : Heap) (f : Addr) (fd : FuncData) (body : List Stmt) : Prop where
 here : ∃ o, hB.get? f = some o ∧ o.data = .func fd
 code : ∃ c oc cvs t, fd.code = .ref c ∧ hB.get? c = some oc ∧ isTb oc = false ∧ oc.data = .fields cvs ∧ cvs[1]? = some (.str fd.qualname t)
 body : fd.body = .stmts body
 clo : fd.closure = []
 glob : fd.globals = mainGlobals
 bi : fd.builtins = builtinsNs
 kind : fd.scope.kind = .function
 co : fd.scope.isCoroutine = false
 gen : fd.scope.isGenerator = false
noncomputable def ffObj (C dx b it : Addr) : Obj := { cls := .ref C, dict := some dx, data := .plain, slots := #[some (.ref b), some (.ref it)] }
section
variable {Γ : Cx} {prog : Program} {w : World} {A : Around} {K : Frag} {C fI fT fN pF pI : Addr}
theorem qm4 {s : Shared} {f : Addr} {fd : FuncData} {body : List Stmt} {vals : List Value} {binds : List (Str × Value)} {R : Result → Shared → Prop} (ok : Γ.Ok s) (F : FnAt Γ.hB f fd body) (hroom : A.depth < recursionLimit)
  (hbind : bindArgs fd ⟨vals, []⟩ = pure binds) (hcell : ∀ x ∈ fd.scope.names, x.2 ≠ .cell) (hloc : ∀ x ∈ binds, fd.scope.names.lookup x.1 = some .local)
  (h : ∀ h₀, h₀.Ns s.heap.objs.size (fun x => binds.reverse.lookup x) → (∀ b o, s.heap.get? b = some o → h₀.get? b = some o) →
   wpAny (model prog w) (A.deeper (callEnv fd s.heap.objs.size f)) (execs body (callEnv fd s.heap.objs.size f)) (fun f s' => R (.ok (.ret (match f with | .ret v => v | _ => .none))) s')
    (fun e s' => wpAny (model prog w) (A.deeper (callEnv fd s.heap.objs.size f)) (leaving (callEnv fd s.heap.objs.size f) e) (fun _ s'' => R (.error e) s'') (fun e' s'' => R (.error e') s'') s')
    { s with heap := h₀, toks := s.toks + binds.length }) : codeAny (model prog w) A (.call (.ref f) ⟨vals, []⟩) R s := by
 obtain ⟨o, ho, hd⟩ := F.here
 obtain ⟨c, oc, cvs, t, hc, hcg, hct, hcd, hc1⟩ := F.code
 exact codeAny_call_def hroom (ok.base _ _ ho (q42 (q36 hd))) hd (q19 Γ.nolimit ok.kb) ⟨c, oc, cvs, t, hc, ok.base _ _ hcg hct, hcd, hc1⟩ F.body (BindsTo.of_eq hbind) hcell hloc h F.co F.gen F.kind
theorem qe4 {a : Addr} {o : Obj} : ∀ {l : List (Addr × Obj)}, l.lookup a = some o → (a, o) ∈ l
 | (b, p) :: r, e => by
  dsimp only [List.lookup_cons] at e
  split at e
  ·rename_i h; cases e; rw [beq_iff_eq.mp h]; exact .head _
  exact .tail _ (qe4 e)
theorem FF.in_ (FC : FF K C fI fT fN pF pI) (KX : K.In Γ.hB) {s : Shared} (ok : Γ.Ok s) : K.In s.heap := fun a o e =>
 ok.base _ _ (KX a o e) (by have := List.all_eq_true.mp FC.nt _ (show (a, o) ∈ (K : List (Addr × Obj)) from qe4 e); simpa using this)
theorem ql6 {a b c : Str} {x y z : Value} (h1 : (a == b) = false) (h2 : (a == c) = false) (h3 : (b == c) = false) :
  (([(a, x), (b, y), (c, z)] : List (Str × Value)).reverse.lookup a) = some x ∧ (([(a, x), (b, y), (c, z)] : List (Str × Value)).reverse.lookup b) = some y ∧ (([(a, x), (b, y), (c, z)] : List (Str × Value)).reverse.lookup c) = some z := by
 simp [List.lookup, h1, h2, h3]
structure CE (env : Env) (fd : FuncData) (L : Addr) : Prop where
 scope : env.scope = fd.scope
 locals : env.locals = L
 glob : env.globals = mainGlobals
 bi : env.builtins = builtinsNs
 frame : env.frame = some L
 kind : env.scope.kind = .function
 kof : ∀ n, env.kindOf n = fd.scope.names.lookup n
theorem CE.of {hB : Heap} {f L : Addr} {fd : FuncData} {body : List Stmt} (F : FnAt hB f fd body) : CE (callEnv fd L f) fd L :=
 ⟨rfl, rfl, F.glob, F.bi, rfl, F.kind, fun n => rfl⟩
theorem CE.loc {env : Env} {fd : FuncData} {L : Addr} (c : CE env fd L) {M : Model} {A : Around} {E : Value → Shared → Prop} {s : Shared} {x : Str} {v : Value} {m} {pos : Pos} {Q : Value → Shared → Prop} (hn : s.heap.Ns L m) (hk : fd.scope.names.lookup x = some .local) (hv : m x = some v) (h : Q v s) (hd : (x == ("__debug__" : Str)) = false) :
  wpAny M A (eval (.Name x pos) env) Q E s := wpAny_Name (wpAny_loadName_local c.kind ((c.kof x).trans hk) (by rw [c.locals]; exact hn) hv h) hd
theorem CE.built {env : Env} {fd : FuncData} {L : Addr} (c : CE env fd L) {M : Model} {A : Around} {E : Value → Shared → Prop} {s : Shared} {x : Str} {v : Value} {pos : Pos} {Q : Value → Shared → Prop} (ok : Kp Γ.hB s.heap) (hk : fd.scope.names.lookup x = some .globalImplicit) (hg : Γ.mg x = none) (hb : bootBuiltins x = some v) (hn : x ≠ "__name__") (h : Q v s) (hd : (x == ("__debug__" : Str)) = false) :
  wpAny M A (eval (.Name x pos) env) Q E s :=
 Name_function_global c.kind ((c.kof x).trans hk) (loadGlobal_builtin (by rw [c.glob]; exact ns_kp Γ.g ok) hg (by rw [c.bi]; exact ns_kp Γ.b ok) ((Γ.builtins x hn).trans hb) h) hd
theorem q57 {h : Heap} {x C dx : Addr} {sl : Array (Option Value)} (hx : h.get? x = some { cls := .ref C, dict := some dx, data := .plain, slots := sl }) (hdx : h.get? dx = some emptyDict) :
  PySem.W.InstAt h x { cls := .ref C, dict := some dx, data := .plain, slots := sl } C (some emptyDict) := ⟨hx, rfl, rfl, hdx⟩
theorem z69 {s : Shared} {fd : FuncData} {R : Result → Shared → Prop} {x dx b l : Addr} {vs : Array Value} (FC : FF K C fI fT fN pF pI) (KX : K.In Γ.hB) (ok : Γ.Ok s)
  (F : FnAt Γ.hB fI fd (bd pC[1]?))
  (hsc : fd.scope.names = [(Str.ofString "self", .local), (Str.ofString "function", .local), (Str.ofString "iterable", .local), (Str.ofString "iter", .globalImplicit)])
  (hbind : ∀ a b c, bindArgs fd ⟨[a, b, c], []⟩ = pure [(Str.ofString "self", a), (Str.ofString "function", b), (Str.ofString "iterable", c)]) (hit : Γ.mg (Str.ofString "iter") = none)
  (hroom : A.depth < recursionLimit) (hx : s.heap.get? x = some (instObj C dx)) (hdx : s.heap.get? dx = some emptyDict) (hxd : x ≠ dx) (hBx : Γ.hB.get? x = none) (hl : s.heap.IsList l vs)
  (hR : ∀ h' tk it, (∀ b o, b ≠ x → s.heap.get? b = some o → h'.get? b = some o) → s.heap.get? it = none → h'.get? x = some (ffObj C dx b it) → h'.IsListIter it l 0 → R (.ok (.ret .none)) { s with heap := h', toks := tk }) :
  codeAny (model Γ.prog Γ.w) A (.call (.ref fI) ⟨[.ref x, .ref b, .ref l], []⟩) R s := by
 replace F : FnAt Γ.hB fI fd [_, _] := F
 refine qm4 ok F hroom (hbind _ _ _) (by rw [hsc]; decide) (fun y hy => ?_) fun h₀ hns keep => ?_
 ·rw [hsc]
  simp only [List.mem_cons, List.not_mem_nil, or_false] at hy
  rcases hy with rfl | rfl | rfl <;> rfl
 have ce := CE.of (L := s.heap.objs.size) F
 generalize callEnv fd s.heap.objs.size fI = env at ce ⊢
 obtain ⟨mS, mF, mI⟩ := ql6 (a := Str.ofString "self") (b := Str.ofString "function") (c := Str.ofString "iterable") (x := .ref x) (y := .ref b) (z := .ref l) (by decide) (by decide) (by decide)
 generalize hm : (fun n => List.lookup n ([(Str.ofString "self", Value.ref x), (Str.ofString "function", Value.ref b), (Str.ofString "iterable", Value.ref l)] : List (Str × Value)).reverse) = m at hns
 replace mS : m (Str.ofString "self") = some (.ref x) := by rw [← hm]; exact mS
 replace mF : m (Str.ofString "function") = some (.ref b) := by rw [← hm]; exact mF
 replace mI : m (Str.ofString "iterable") = some (.ref l) := by rw [← hm]; exact mI
 have hxL : x < s.heap.objs.size := Heap.lt_size hx
 have F0 : PyProof.Rows.Fr (s.heap.hide x) s.heap.objs.size h₀ m := ⟨hns, fun b o e => keep b o (Heap.of_hide e), Nat.le_of_eq (Heap.hide_size _ _)⟩
 have X0 : K.In (s.heap.hide x) := fun a o e => by
  have ne : a ≠ x := fun z => by have q := KX a o e; rw [z, hBx] at q; cases q
  exact (Heap.hide_ne _ ne).trans (FC.in_ KX ok a o e)
 have N0 : News (s.heap.hide x) s.heap.objs.size h₀ [(x, instObj C dx)] := fun p hp => by
  simp only [List.mem_singleton] at hp; subst hp
  exact ⟨keep _ _ hx, Nat.ne_of_lt hxL, Heap.hide_self _ _⟩
 have hd0 : (s.heap.hide x).get? dx = some emptyDict := (Heap.hide_ne _ hxd.symm).trans hdx
 have hxne : x ≠ h₀.objs.size := fun q => by have := keep _ _ hx; rw [q, q00] at this; cases this
 rw [execs_cons]
 refine wpAny_bind (plainObj_wpAny_Assign_Attribute ?_ (by rfl))
 refine wpAny_Call_Name_kw (ce.built (Γ := Γ) (v := .builtin "iter") (ok.kb.trans (.of keep)) (by rw [hsc]; rfl) hit (by kernel_rfl) (by decide) ?_ (by decide))
 refine PyProof.Rows.callWith_builtin1 (wpAny_items_cons (ce.loc hns (by rw [hsc]; rfl) mI ?_ (by decide)) (by rfl)) (by rfl) (by rfl)
 refine wpAny_items_nil (qz6 (s := { s with heap := h₀, toks := _ }) (q70 hl (.of keep)) ?_)
 have F1 := F0.push { cls := .type "list_iterator", data := .fields #[.ref l, .int 0 0] }
 have N1 := N0.push F0 { cls := .type "list_iterator", data := .fields #[.ref l, .int 0 0] }
 refine ce.loc F1.ns (by rw [hsc]; rfl) mS ?_ (by decide)
 refine set_slot (i := 1) (ox' := { cls := .ref C, dict := some dx, data := .plain, slots := #[none, some (.ref h₀.objs.size)] }) F1 X0 N1 (q57 (N1.get (.tail _ (.head _))) (F1.keep _ _ hd0)) FC.setA FC.over FC.tkI FC.tyI FC.slI (by decide) rfl rfl (.tail (fun q => hxne q.symm) (.head fun _ q => by cases q)) fun h2 F2 N2 => ?_
 rw [execs_cons]
 refine wpAny_bind (plainObj_wpAny_Assign_Attribute ?_ (by rfl))
 refine ce.loc F2.ns (by rw [hsc]; rfl) mF (ce.loc F2.ns (by rw [hsc]; rfl) mS ?_ (by decide)) (by decide)
 refine set_slot (i := 0) (ox' := ffObj C dx b h₀.objs.size) F2 X0 N2 (q57 (N2.get (.tail _ (.head _))) (F2.keep _ _ hd0)) FC.setA FC.over FC.tkF FC.tyF FC.slF (by decide) rfl rfl (.tail (fun q => hxne q.symm) (.head fun _ q => by cases q)) fun h3 F3 N3 => ?_
 rw [execs_nil]
 refine wpAny_pure (hR h3 _ h₀.objs.size (fun c o hc e => F3.keep _ _ ((Heap.hide_ne _ hc).trans e)) ?_ (N3.get (.tail _ (.head _))) ⟨_, N3.get (.head _), rfl, rfl⟩)
 cases q : s.heap.get? h₀.objs.size with
 | none => rfl
 | some o => have := keep _ _ q; rw [q00] at this; cases this
end
section
variable {Γ : Cx} {A : Around} {K : Frag} {C fI fT fN pF pI : Addr}
theorem qj1 {n : Nat} (R : Room Γ A n) {s : Shared} (ok : Γ.Ok s) {h : Heap} (keep : ∀ L ∈ Γ.stk, ∀ o, s.heap.get? L = some o → h.get? L = some o) {l : List Env} (e : l.map (·.frame) = Γ.stk.map some) (k : ∀ env ∈ l, env.scope.kind ≠ .module) (base : Heap) (hb : ∀ L ∈ Γ.stk, base.get? L = none) : h.FunFrames base l := by
 have : ∀ (l : List Env) (st : List Addr), (∀ L ∈ st, L ∈ Γ.stk) → l.map (·.frame) = st.map some → (∀ env ∈ l, env.scope.kind ≠ .module) → h.FunFrames base l := by
  intro l
  induction l with
  | nil => intro _ _ _ _; trivial
  | cons env r ih =>
   intro st hs e k
   cases st with
   | nil => cases e
   | cons L st =>
    simp only [List.map_cons, List.cons.injEq] at e
    obtain ⟨o, ho, hf⟩ := ok.frs L (hs L (.head _))
    refine ⟨k env (.head _), ⟨L, o, e.1, hb L (hs L (.head _)), keep L (hs L (.head _)) o ho, fun vs q => ?_⟩, ih st (fun L m => hs L (.tail _ m)) e.2 fun e m => k e (.tail _ m)⟩
    rw [q09 q] at hf; exact absurd hf Bool.false_ne_true
 exact this l Γ.stk (fun _ m => m) e k
theorem qs2 {M : Model} {E : Value → Shared → Prop} {s : Shared} {env : Env} {k : Nat} {p : Pos} {Q : Value → Shared → Prop} (h : Q .none s) : wpAny M A (eval (.Constant .none k p) env) Q E s := fun _ _ _ => h
theorem ql7 {M : Model} {E : Value → Shared → Prop} {s : Shared} {b : Addr} {Q : Value → Shared → Prop} (h : Q (.bool false) s) : wpAny M A (compareOp .Is (.ref b) .none) Q E s := fun _ _ _ => h
theorem qx2 {M : Model} {E : Value → Shared → Prop} {s : Shared} {b : Addr} {T : String} {Q : Value → Shared → Prop} (h : Q (.bool false) s) : wpAny M A (compareOp .Is (.ref b) (.type T)) Q E s := fun _ _ _ => h
theorem qn6 {M : Model} {A : Around} {E : Value → Shared → Prop} {s : Shared} {env : Env} {pos : Pos} {b : Addr} {φa : Addr} {e : Expr} {Q : Value → Shared → Prop}
  (h : wpAny M A (eval e env) (fun v s₁ => s₁.heap.get? b = some (mwObj φa) ∧ wpAny M A (call (.ref b) [v]) Q E s₁) E s)
  (he : starEach [e] env = [(false, eval e env)]) (hp : backTo pos [(false, eval e env)] = [(false, eval e env)]) :
  wpAny M A (callWith pos (.ref b) [] (backTo pos (starEach [e] env)) []) Q E s := by
 rw [he, hp]
 unfold callWith
 refine wpAny_bind (wpAny_holding (Calls.evalArgs_plain (Calls.spliced_cons (wpAny_mono h (fun v s₁ h₁ => Calls.spliced_nil ?_) fun _ _ x => x))))
 refine wpAny_bind (wpAny_standAt ?_)
 obtain ⟨hb, hc⟩ := h₁
 dsimp only [List.any_cons, List.any_nil, Bool.or_false]
 refine wpAny_bind ?_
 refine wpAny_bind (wpAny_load hb ?_)
 show wpAny _ _ (pure Keeper.machine) _ _ s₁
 refine wpAny_pure ?_
 refine wpAny_bind ?_
 refine wpAny_mono hc (fun r s₂ hr => wpAny_bind (wpAny_holding (wpAny_point (wpAny_pure hr)))) fun _ _ x => x
theorem ql8 {M : Model} {E : Value → Shared → Prop} {s : Shared} {env : Env} {p : Pos} {Q : Bool → Shared → Prop} (h : Q true s) : wpAny M A (isTrue (.Constant (.bool true) 0 p) env (eval (.Constant (.bool true) 0 p) env)) Q E s :=
 isTrue_plain (fun Γ p' hΓ => wpAny_truthy_bool h)
theorem z64 {n : Nat} {s : Shared} {fd : FuncData} {R : Result → Shared → Prop} {x dx b a it l : Addr} {vs ws : Array Value} {i : Nat} {c : Value → Bool}
  (FC : FF K C fI fT fN pF pI) (KX : K.In Γ.hB) (Rm : Room Γ A (n + 1)) (ok : Γ.Ok s)
  (F : FnAt Γ.hB fN fd (bd pC[3]?))
  (hsc : fd.scope.names = [(Str.ofString "self", .local), (Str.ofString "func", .local), (Str.ofString "item", .local), (Str.ofString "next", .globalImplicit), (Str.ofString "bool", .globalImplicit)])
  (hbind : ∀ a, bindArgs fd ⟨[a], []⟩ = pure [(Str.ofString "self", a)]) (hnext : Γ.mg (Str.ofString "next") = none) (hbool : Γ.mg (Str.ofString "bool") = none)
  (hx : s.heap.get? x = some (ffObj C dx b it)) (hdx : s.heap.get? dx = some emptyDict) (hb : s.heap.get? b = some (mwObj a)) (ha : LstAt s.heap a ws) (hl : s.heap.IsList l vs) (hit : s.heap.IsListIter it l i)
  (dxi : dx ≠ it) (hBi : Γ.hB.get? it = none) (hc : ∀ v ∈ vs, ∃ e : Value → Bool, (∀ (A : Around) (s : Shared) y, y ∈ ws → PySem.SeqAt.EqAt A s y v (e y)) ∧ ws.any e = c v)
  (hItem : ∀ h' tk j v, i ≤ j → vs[j]? = some v → c v = false → (∀ k u, i ≤ k → k < j → vs[k]? = some u → c u = true) → (∀ b o, b ≠ it → s.heap.get? b = some o → h'.get? b = some o) → h'.IsListIter it l (j + 1) → R (.ok (.ret v)) { s with heap := h', toks := tk })
  (hEnd : ∀ h' tk e, (∀ k u, i ≤ k → vs[k]? = some u → c u = true) → (∀ b o, b ≠ it → b ∉ Γ.stk → s.heap.get? b = some o → h'.get? b = some o) → (∀ b ∈ Γ.stk, ∀ o, s.heap.get? b = some o → ∃ sl, h'.get? b = some { o with slots := sl }) →
   (∃ o, h'.get? e = some o ∧ o.cls = .type "StopIteration") → R (.error (.ref e)) { s with heap := h', toks := tk }) :
  codeAny (model Γ.prog Γ.w) A (.call (.ref fN) ⟨[.ref x], []⟩) R s := by
 replace F : FnAt Γ.hB fN fd [_, _] := F
 refine qm4 ok F Rm.dq (hbind _) (by rw [hsc]; decide) (fun y hy => ?_) fun h₀ hns keep => ?_
 ·rw [hsc]
  simp only [List.mem_cons, List.not_mem_nil, or_false] at hy
  rcases hy with rfl; rfl
 have ce := CE.of (L := s.heap.objs.size) F
 generalize callEnv fd s.heap.objs.size fN = env at ce ⊢
 generalize hL : s.heap.objs.size = L at ce hns
 have mS : (fun x_1 => List.lookup x_1 ([(Str.ofString "self", Value.ref x)] : List (Str × Value)).reverse) (Str.ofString "self") = some (.ref x) := rfl
 generalize (fun x_1 => List.lookup x_1 ([(Str.ofString "self", Value.ref x)] : List (Str × Value)).reverse) = m at hns mS
 obtain ⟨oi, hoi, hic, hid⟩ := id hit
 have xi : x ≠ it := fun q => by rw [q, hoi] at hx; cases hx; cases hid
 have bi : b ≠ it := fun q => by rw [q, hoi] at hb; cases hb; have := Data.fields.inj hid; cases this
 have ai : a ≠ it := fun q => by obtain ⟨_, e⟩ := ha; rw [q, hoi] at e; cases e; cases hid
 have li : l ≠ it := fun q => by obtain ⟨o, e, hc, k, hd⟩ := hl; rw [q, hoi] at e; cases e; cases hd.symm.trans hid
 have itL : it < L := by rw [← hL]; exact Heap.lt_size hoi
 generalize hg : s.heap.hide it = g
 have gk : ∀ c o, c ≠ it → s.heap.get? c = some o → g.get? c = some o := fun c o ne e => by rw [← hg]; exact (Heap.hide_ne _ ne).trans e
 have kg : ∀ c o, g.get? c = some o → s.heap.get? c = some o := fun c o e => by rw [← hg] at e; exact Heap.of_hide e
 have gs : g.objs.size = L := by rw [← hg, Heap.hide_size, hL]
 have F0 : PyProof.Rows.Fr g L h₀ m := ⟨hns, fun c o e => keep c o (kg _ _ e), Nat.le_of_eq gs⟩
 have X0 : K.In g := fun c o e => gk _ _ (fun z => by have q := KX c o e; rw [z, hBi] at q; cases q) (FC.in_ KX ok c o e)
 have gx := gk _ _ xi hx
 have gd := gk _ _ dxi hdx
 have gb := gk _ _ bi hb
 have ga : LstAt g a ws := let ⟨k, e⟩ := ha; ⟨k, gk _ _ ai e⟩
 have gl : g.IsList l vs := let ⟨o, e, r⟩ := hl; ⟨o, gk _ _ li e, r⟩
 have gB : ∀ {h'}, (∀ c o, g.get? c = some o → h'.get? c = some o) → Kp Γ.hB h' := fun {h'} k c o e t => .of (k _ _ (gk _ _ (fun z => by rw [z, hBi] at e; cases e) (ok.base _ _ e (q42 t))))
 have notL : it ≠ L := Nat.ne_of_lt itL
 rw [execs_cons]
 refine wpAny_bind (wpAny_Assign_Name ?_ (by rfl))
 refine Attribute_Name_ (ce.loc F0.ns (by rw [hsc]; rfl) mS ?_ (by decide))
 refine get_slot (i := 0) F0 X0 (q57 (F0.keep _ _ gx) (F0.keep _ _ gd)) FC.getF FC.isC FC.atF FC.gnF FC.tsF FC.slF rfl rfl ?_
 refine wpAny_storeName_local ((ce.kof _).trans (by rw [hsc]; rfl)) ((ce.locals) ▸ F0.ns) (fun h1 hn1 hs1 => ?_) (by rw [ce.kind]; rfl)
 rw [ce.locals] at hn1 hs1
 have F1 := F0.set hn1 hs1
 have it0 : h1.IsListIter it l i := by
  refine ⟨oi, (hs1.2 _ notL).trans (keep _ _ hoi), hic, hid⟩
 rw [execs_cons]
 have mS1 : (fun y => if y = Str.ofString "func" then some (Value.ref b) else m y) (Str.ofString "self") = some (.ref x) := by
  show (if Str.ofString "self" = Str.ofString "func" then _ else _) = _
  rw [if_neg (by decide)]; exact mS
 have mF1 : (fun y => if y = Str.ofString "func" then some (Value.ref b) else m y) (Str.ofString "func") = some (.ref b) := if_pos rfl
 generalize (fun y => if y = Str.ofString "func" then some (Value.ref b) else m y) = m1 at F1 mS1 mF1
 clear hn1 hs1 hns keep F0 mS
 have hE : PassesOwn (model Γ.prog Γ.w) (A.deeper env) env (fun e s' => wpAny (model Γ.prog Γ.w) (A.deeper env) (leaving env e) (fun _ s'' => R (.error e) s'') (fun e' s'' => R (.error e') s'') s') := by passes_own
 refine wpAny_bind (wpAny_While (codeAny_whileLoop (fun k s' => ∃ j h' tk m', s' = { s with heap := h', toks := tk } ∧ k = vs.size + 1 - j ∧ i ≤ j ∧ j ≤ max i vs.size ∧ PyProof.Rows.Fr g L h' m' ∧ m' (Str.ofString "self") = some (.ref x) ∧ m' (Str.ofString "func") = some (.ref b) ∧ h'.IsListIter it l j ∧ (∀ k u, i ≤ k → k < j → vs[k]? = some u → c u = true)) (fun k s' hI => ?_) (vs.size + 1 - i) ⟨i, h1, _, m1, rfl, rfl, Nat.le_refl _, Nat.le_max_left _ _, F1, mS1, mF1, it0, fun k u h1 h2 => absurd h2 (Nat.not_lt.mpr h1)⟩))
 obtain ⟨j, h', tk, m', rfl, rfl, hij, hjm, F', mS', mF', it', hall⟩ := hI
 refine ql8 ?_
 dsimp only [if_true]
 rw [execs_cons]
 have kst : ∀ c o, g.get? c = some o → h'.get? c = some o := F'.keep
 refine wpAny_bind (wpAny_Assign_Name ?_ (by rfl))
 refine wpAny_Call_Name_kw (ce.built (Γ := Γ) (v := .builtin "next") (gB kst) (by rw [hsc]; rfl) hnext (by kernel_rfl) (by decide) ?_ (by decide))
 refine PyProof.Rows.callWith_builtin1 (wpAny_items_cons (Attribute_Name_ (ce.loc F'.ns (by rw [hsc]; rfl) mS' ?_ (by decide))) (by rfl)) (by rfl) (by rfl)
 refine get_slot (i := 1) F' X0 (q57 (kst _ _ gx) (kst _ _ gd)) FC.getI FC.isC FC.atI FC.gnI FC.tsI FC.slI rfl rfl ?_
 refine wpAny_items_nil ?_
 cases hv : vs[j]? with
 | none =>
  refine qh1 (s := { s with heap := h', toks := _ }) Rm.handled it' (q70 gl (.of kst)) hv fun h2 h3 e hs2 hm => ?_
  refine hE _ _ ?_
  obtain ⟨l0, e1, e2, e3⟩ := Rm.frames
  have stkL : ∀ c ∈ Γ.stk, c ≠ L := fun c m q => by obtain ⟨o, ho, _⟩ := ok.frs c m; rw [q, ← hL, q00] at ho; exact absurd ho.symm (Option.some_ne_none _)
  have stki : ∀ c ∈ Γ.stk, c ≠ it := fun c m q => by obtain ⟨o, ho, hf⟩ := ok.frs c m; rw [q, hoi] at ho; cases ho; rw [q09 hid] at hf; exact absurd hf Bool.false_ne_true
  have gst : ∀ c ∈ Γ.stk, ∀ o, s.heap.get? c = some o → h2.get? c = some o := fun c m o e => (hs2.2 _ (stki c m)).trans (kst _ _ (gk _ _ (stki c m) e))
  obtain ⟨oL, es, ep, hoL, hdL, _⟩ := F'.ns
  have hfun : h2.FunFrames (hideAll h2 (L :: Γ.stk)) (env :: l0) := by
   refine ⟨by rw [ce.kind]; decide, ⟨L, oL, ce.frame, hideAll_none _ (.head _), (hs2.2 _ notL.symm).trans hoL, fun vs q => by cases hdL.symm.trans q⟩, ?_⟩
   exact qj1 Rm ok gst e2 e3 _ fun c m => hideAll_none _ (.tail _ m)
  refine wpAny_leaves_madeW (base := hideAll h2 (L :: Γ.stk)) (Around.frames_deeper e1) ce.frame (fun c o q => of_hideAll _ q) hfun hm fun h4 t x1 x2 x3 x4 => ?_
  obtain ⟨y1, y2, y3, y4⟩ := x1
  refine hEnd h4 _ e (fun k u h1 h2 => hall k u h1 ?_ h2) (fun c o hci hcs hco => ?_) (fun c m o hco => ?_) ?_
  ·have := (Array.getElem?_eq_some_iff.mp h2).1
   have q : vs.size ≤ j := by simpa using hv
   lia
  ·have cL : c ≠ L := fun q => by rw [q, ← hL, q00] at hco; exact absurd hco.symm (Option.some_ne_none _)
   exact y1 _ _ (hideAll_get _ ((hs2.2 _ hci).trans (kst _ _ (gk _ _ hci hco))) fun m => by
    rcases List.mem_cons.mp m with m | m
    ·exact cL m
    exact hcs m)
  ·refine x4 c o (hm.keeps _ _ (gst c m o hco)) fun vs q => ?_
   obtain ⟨o', ho', hf'⟩ := ok.frs c m
   rw [hco] at ho'; cases ho'
   rw [q09 q] at hf'; cases hf'
  obtain ⟨oe, vs', T, oT, ts, a1, a2, a3, a4, a5, a6⟩ := y4
  exact ⟨oe, a1, a2.1⟩
 | some v =>
  have hvm : v ∈ vs := List.mem_of_getElem? (by rw [← Array.getElem?_toList] at hv; exact hv) |> Array.mem_toList_iff.mp
  refine qd7 (s := { s with heap := h', toks := _ }) it' (q70 gl (.of kst)) hv fun h2 it2 hs2 => ?_
  have kst2 : ∀ c o, g.get? c = some o → h2.get? c = some o := fun c o e => (hs2.2 _ fun q => by rw [q, ← hg, Heap.hide_self] at e; cases e).trans (kst _ _ e)
  have ns2 : h2.Ns L m' := F'.ns.sameBut hs2 notL.symm
  refine wpAny_storeName_local (s := { s with heap := h2, toks := _ }) ((ce.kof _).trans (by rw [hsc]; rfl)) ((ce.locals) ▸ ns2) (fun h3 hn3 hs3 => ?_) (by rw [ce.kind]; rfl)
  rw [ce.locals] at hn3 hs3
  have F3 : PyProof.Rows.Fr g L h3 (fun y => if y = Str.ofString "item" then some v else m' y) := (PyProof.Rows.Fr.mk ns2 kst2 (Nat.le_of_eq gs)).set hn3 hs3
  have it3 : h3.IsListIter it l (j + 1) := by obtain ⟨o, ho, r⟩ := it2; exact ⟨o, (hs3.2 _ notL).trans ho, r⟩
  have mS3 : (fun y => if y = Str.ofString "item" then some v else m' y) (Str.ofString "self") = some (.ref x) := by
   show (if Str.ofString "self" = Str.ofString "item" then _ else _) = _
   rw [if_neg (by decide)]; exact mS'
  have mF3 : (fun y => if y = Str.ofString "item" then some v else m' y) (Str.ofString "func") = some (.ref b) := by
   show (if Str.ofString "func" = Str.ofString "item" then _ else _) = _
   rw [if_neg (by decide)]; exact mF'
  have mI3 : (fun y => if y = Str.ofString "item" then some v else m' y) (Str.ofString "item") = some v := if_pos rfl
  generalize (fun y => if y = Str.ofString "item" then some v else m' y) = m3 at F3 mS3 mF3 mI3
  clear hn3 hs3 ns2 kst2 it2 hs2
  rw [execs_cons]
  refine wpAny_bind (wpAny_If ?_)
  refine isTrue_or (wpAny_isTrue_Compare1 (ce.loc F3.ns (by rw [hsc]; rfl) mF3 ?_ (by decide)) (by rfl))
  refine qs2 (ql7 (wpAny_truthy_bool ?_))
  dsimp only [Bool.false_eq_true, if_false]
  refine isTrue_or (wpAny_isTrue_Compare1 (ce.loc F3.ns (by rw [hsc]; rfl) mF3 ?_ (by decide)) (by rfl))
  refine ce.built (Γ := Γ) (v := .type "bool") (gB F3.keep) (by rw [hsc]; rfl) hbool (by kernel_rfl) (by decide) ?_ (by decide)
  refine qx2 (wpAny_truthy_bool ?_)
  simp only [Bool.false_eq_true, if_false]
  refine isTrue_or_nil ?_
  simp only [Bool.false_eq_true, if_false]
  rw [execs_cons]
  refine wpAny_bind (wpAny_If (wpAny_isTrue_Not (isTrue_plain ?_)))
  refine wpAny_Call_Name_kw (ce.loc F3.ns (by rw [hsc]; rfl) mF3 ?_ (by decide))
  obtain ⟨ev, hev, hcv⟩ := hc v hvm
  refine qn6 (b := b) (φa := a) (ce.loc F3.ns (by rw [hsc]; rfl) mI3 ⟨F3.keep _ _ gb, z79 ev (F3.keep _ _ gb) (ga.kp (.of F3.keep)) (fun y hy => hev _ _ y hy) (wpAny_truthy_bool ?_)⟩ (by decide)) rfl rfl
  rw [hcv]
  cases hcc : c v with
  | true =>
   simp only [Bool.not_true, Bool.false_eq_true, if_false]
   rw [execs_nil]
   refine wpAny_pure (wpAny_pure ?_)
   try refine wpAny_pure ?_
   have hjv : j < vs.size := (Array.getElem?_eq_some_iff.mp hv).1
   refine ⟨vs.size + 1 - (j + 1), by lia, j + 1, h3, _, m3, rfl, rfl, by lia, by lia, F3, mS3, mF3, it3, fun k u h1 h2 h3 => ?_⟩
   by_cases q : k = j
   ·subst q; cases hv.symm.trans h3; exact hcc
   exact hall k u h1 (by lia) h3
  | false =>
   simp only [Bool.not_false, if_true]
   rw [execs_cons]
   refine wpAny_bind (wpAny_Return_some (ce.loc F3.ns (by rw [hsc]; rfl) mI3 ?_ (by decide)))
   repeat refine wpAny_pure ?_
   refine hItem h3 _ j v hij hv hcc hall (fun c o hci hco => F3.keep _ _ (gk _ _ hci hco)) it3
end
section
variable {Γ : Cx} {A : Around} {K : Frag} {C fI fT fN pF pI : Addr}
theorem Room.in1 {n : Nat} (R : Room Γ A (n + 1)) : Room Γ A.in1 n := ⟨R.frames, R.handled, by have := R.depth; show A.depth + _ ≤ 900; lia, by have := R.units; show A.units + 1 + _ + _ ≤ 9900; lia⟩
theorem z68 {M : Model} {n : Nat} {s : Shared} {fd : FuncData} {E : Value → Shared → Prop} {Q : Value → Shared → Prop} {x : Addr} {ox : Obj} {od : Option Obj} (FC : FF K C fI fT fN pF pI) (KX : K.In Γ.hB) (Rm : Room Γ A (n + 1)) (ok : Γ.Ok s)
  (F : FnAt Γ.hB fT fd (bd pC[2]?)) (hsc : fd.scope.names = [(Str.ofString "self", .local)]) (hbind : ∀ a, bindArgs fd ⟨[a], []⟩ = pure [(Str.ofString "self", a)])
  (I : PySem.W.InstAt s.heap x ox C od) (h : ∀ h' tk, (∀ b o, s.heap.get? b = some o → h'.get? b = some o) → Q (.ref x) { s with heap := h', toks := tk }) : wpAny (model Γ.prog Γ.w) A (pyIter (.ref x)) Q E s := by
 replace F : FnAt Γ.hB fT fd [_] := F
 have X := FC.in_ KX ok
 have fin0 : wpAny (model Γ.prog Γ.w) A (call (.ref fT) [.ref x]) (fun v s' => v = .ref x ∧ (∀ b o, s.heap.get? b = some o → s'.heap.get? b = some o) ∧ Q (.ref x) s') E s := by
  refine wpAny_call (qm4 ok F Rm.dq (hbind _) (by rw [hsc]; decide) (fun y hy => ?_) fun h₀ hns keep => ?_)
  ·rw [hsc]
   simp only [List.mem_cons, List.not_mem_nil, or_false] at hy
   rcases hy with rfl; rfl
  have ce := CE.of (L := s.heap.objs.size) F
  generalize callEnv fd s.heap.objs.size fT = env at ce ⊢
  rw [execs_cons]
  refine wpAny_bind (wpAny_Return_some (ce.loc hns (by rw [hsc]; rfl) rfl ?_ (by decide)))
  exact wpAny_pure ⟨rfl, keep, h h₀ _ keep⟩
 have fin : wpAny (model Γ.prog Γ.w) A (call (.ref fT) [.ref x] >>= fun v => pure (some v)) (fun r s' => ∃ v, r = some v ∧ v = .ref x ∧ (∀ b o, s.heap.get? b = some o → s'.heap.get? b = some o) ∧ Q (.ref x) s') E s :=
  wpAny_bind (wpAny_mono fin0 (fun v s' h' => wpAny_pure ⟨v, rfl, h'⟩) fun _ _ z => z)
 have one : ∀ refuse : Sem Value, wpAny (model Γ.prog Γ.w) A (callSpecialIfBoundUnlessNone? (.ref x) "__iter__" refuse) (fun r s' => ∃ v, r = some v ∧ v = .ref x ∧ (∀ b o, s.heap.get? b = some o → s'.heap.get? b = some o) ∧ Q (.ref x) s') E s := by
  intro refuse
  dsimp only [callSpecialIfBoundUnlessNone?, bindSpecialIfBound?]
  refine wpAny_holding (wpAny_bind (wpAny_bind (wpAny_bind (I.type.here ((looks_findIn X FC.hT).here ?_)))))
  refine wpAny_bind (wpAny_askSetting (wpAny_ite ?_))
  have fin2 : wpAny (model Γ.prog Γ.w) A (if (Value.ref fT == Value.none) = true then (refuse >>= fun v => pure (some v)) else (call (.ref fT) [.ref x] >>= fun v => pure (some v))) (fun r s' => ∃ v, r = some v ∧ v = .ref x ∧ (∀ b o, s.heap.get? b = some o → s'.heap.get? b = some o) ∧ Q (.ref x) s') E s := by
   rw [if_neg (show ¬ ((Value.ref fT == Value.none) = true) from Bool.false_ne_true)]
   exact fin
  split
  ·exact wpAny_bind ((bind_fn X _ FC.tT).here (wpAny_pure (by exact fin2)))
  exact wpAny_tryCatch (wpAny_bind ((bind_fn X _ FC.tT).here (wpAny_pure (by exact fin2))))
 unfold pyIter
 refine wpAny_bind (wpAny_bind (I.type.here ((looks_findIn X FC.hT).here ?_)))
 show wpAny _ A (callSpecialIfBoundUnlessNone? (.ref x) "__iter__" _ >>= _) Q E s
 refine wpAny_bind (wpAny_mono (one _) (fun r s' hr => ?_) fun _ _ z => z)
 obtain ⟨v, rfl, rfl, kk, hv⟩ := hr
 have I' : PySem.W.InstAt s'.heap x ox C od := by
  obtain ⟨i1, i2, i3, i4⟩ := I
  refine ⟨kk _ _ i1, i2, i3, ?_⟩
  split at i4
  ·exact kk _ _ i4
  ·trivial
  exact i4.elim
 have X' : K.In s'.heap := fun a o e => kk _ _ (X a o e)
 refine wpAny_bind (wpAny_bind (I'.type.here ((looks_findIn X' FC.hN).here ?_)))
 exact wpAny_pure hv
structure FFs (Γ : Cx) (K : Frag) (C fI fT fN pF pI : Addr) : Prop where
 FC : FF K C fI fT fN pF pI
 KX : K.In Γ.hB
 init : ∃ (fd : FuncData), FnAt Γ.hB fI fd (bd pC[1]?) ∧
  fd.scope.names = [(Str.ofString "self", .local), (Str.ofString "function", .local), (Str.ofString "iterable", .local), (Str.ofString "iter", .globalImplicit)] ∧
  ∀ a b c, bindArgs fd ⟨[a, b, c], []⟩ = pure [(Str.ofString "self", a), (Str.ofString "function", b), (Str.ofString "iterable", c)]
 iter : ∃ (fd : FuncData), FnAt Γ.hB fT fd (bd pC[2]?) ∧ fd.scope.names = [(Str.ofString "self", .local)] ∧ ∀ a, bindArgs fd ⟨[a], []⟩ = pure [(Str.ofString "self", a)]
 next : ∃ (fd : FuncData), FnAt Γ.hB fN fd (bd pC[3]?) ∧
  fd.scope.names = [(Str.ofString "self", .local), (Str.ofString "func", .local), (Str.ofString "item", .local), (Str.ofString "next", .globalImplicit), (Str.ofString "bool", .globalImplicit)] ∧
  ∀ a, bindArgs fd ⟨[a], []⟩ = pure [(Str.ofString "self", a)]
 gi : Γ.mg (Str.ofString "iter") = none
 gn : Γ.mg (Str.ofString "next") = none
 gb : Γ.mg (Str.ofString "bool") = none
structure Still (Γ : Cx) (C x dx b a it l : Addr) (vs ws : Array Value) (c : Value → Bool) (s : Shared) : Prop where
 ok : Γ.Ok s
 hx : s.heap.get? x = some (ffObj C dx b it)
 hdx : s.heap.get? dx = some emptyDict
 hb : s.heap.get? b = some (mwObj a)
 ha : LstAt s.heap a ws
 hl : LstAt s.heap l vs
 dxi : dx ≠ it
 hBi : Γ.hB.get? it = none
 hc : ∀ v ∈ vs, ∃ e : Value → Bool, (∀ (A : Around) (s : Shared) y, y ∈ ws → PySem.SeqAt.EqAt A s y v (e y)) ∧ ws.any e = c v
theorem qy0 {n : Nat} {s : Shared} {E : Value → Shared → Prop} {Q : Option Value → Shared → Prop} {x dx b a it l : Addr} {vs ws : Array Value} {i : Nat} {c : Value → Bool} (FS : FFs Γ K C fI fT fN pF pI) (Rm : Room Γ A (n + 1)) (S : Still Γ C x dx b a it l vs ws c s) (hit : s.heap.IsListIter it l i)
  (hItem : ∀ h' tk j v, i ≤ j → vs[j]? = some v → c v = false → (∀ k u, i ≤ k → k < j → vs[k]? = some u → c u = true) → (∀ b o, b ≠ it → s.heap.get? b = some o → h'.get? b = some o) → h'.IsListIter it l (j + 1) → Q (some v) { s with heap := h', toks := tk })
  (hEnd : ∀ h' tk, (∀ k u, i ≤ k → vs[k]? = some u → c u = true) → (∀ b o, b ≠ it → b ∉ Γ.stk → s.heap.get? b = some o → h'.get? b = some o) → (∀ b ∈ Γ.stk, ∀ o, s.heap.get? b = some o → ∃ sl, h'.get? b = some { o with slots := sl }) → Q none { s with heap := h', toks := tk }) :
  wpAny (model Γ.prog Γ.w) A (pyNext (.ref x)) Q E s := by
 obtain ⟨fd, F, hsc, hbind⟩ := FS.next
 unfold pyNext
 refine wpAny_bind (wpAny_attempt (special_fn (name := "__next__") (args := []) (FS.FC.in_ FS.KX S.ok) (q57 S.hx S.hdx) FS.FC.hN FS.FC.tN (wpAny_call ?_)))
 refine z64 FS.FC FS.KX Rm S.ok F hsc hbind FS.gn FS.gb S.hx S.hdx S.hb S.ha S.hl.isList hit S.dxi S.hBi S.hc (fun h' tk j v h1 h2 h3 h4 h5 h6 => ?_) fun h' tk e h1 h2 h3 h4 => ?_
 ·exact wpAny_pure (hItem h' tk j v h1 h2 h3 h4 h5 h6)
 obtain ⟨o, ho, hcl⟩ := h4
 refine wpAny_bind (wpAny_isInstance (T := "StopIteration") (b := true) ⟨o, ho, hcl⟩ isSubtype_stop ?_)
 exact wpAny_pure (hEnd h' tk h1 h2 h3)
noncomputable def kept (c : Value → Bool) (vs : List Value) : List Value := vs.filter fun v => !c v
theorem qi7 {c : Value → Bool} {vs : List Value} {i j : Nat} (hij : i ≤ j) (h : ∀ k u, i ≤ k → k < j → vs[k]? = some u → c u = true) : kept c (vs.take j) = kept c (vs.take i) := by
 induction j with
 | zero => rw [Nat.le_zero.mp hij]
 | succ j ih =>
  by_cases e : i = j + 1
  ·rw [e]
  have := ih (by lia) fun k u h1 h2 h3 => h k u h1 (by lia) h3
  rw [← this, List.take_add_one]
  unfold kept
  rw [List.filter_append]
  cases q : vs[j]? with
  | none => simp
  | some u => simp [h j u (by lia) (by lia) q]
theorem z66 {x dx b a it l S : Addr} {vs ws : Array Value} {c : Value → Bool} {res : Value} {R : Result → Shared → Prop} {n : Nat} (FS : FFs Γ K C fI fT fN pF pI) (Rm : Room Γ A (n + 2)) (hz : vs.size ≤ 2 ^ 24) (hBS : Γ.hB.get? S = none) :
  ∀ (k i : Nat) (s : Shared) (acc : Array Value), vs.size + 1 - i ≤ k → i ≤ vs.size → Still Γ C x dx b a it l vs ws c s → s.heap.IsListIter it l i → S ≠ it → LstAt s.heap S acc → acc.toList = kept c (vs.toList.take i) → S ≠ a → S ≠ l → S ≠ x → S ≠ b → S ≠ dx →
   (∀ h' tk, (∀ q o, q ≠ it → q ≠ S → q ∉ Γ.stk → s.heap.get? q = some o → h'.get? q = some o) → (∀ q ∈ Γ.stk, ∀ o, s.heap.get? q = some o → ∃ sl, h'.get? q = some { o with slots := sl }) → (∃ vs', LstAt h' S vs' ∧ vs'.toList = kept c vs.toList) → R (.ok (.ret res)) { s with heap := h', toks := tk }) →
   codeAny (model Γ.prog Γ.w) A (.builtin "list.extend.loop" ⟨[.ref S, .ref x, res], []⟩) R s := by
 intro k
 induction k with
 | zero => intro i s acc h1 h2; lia
 | succ k ih =>
  intro i s acc hk hi St hit hSi hS hacc Sa Sl Sx Sb Sd hR
  have stS : S ∉ Γ.stk := fun m => by
   obtain ⟨o, ho, hf⟩ := St.ok.frs S m
   obtain ⟨j, e⟩ := hS; rw [e] at ho; cases ho; exact absurd hf Bool.false_ne_true
  refine codeAny_builtin PySem.F.entry_extend_loop ?_
  rw [Around.under_plainId PySem.F.plain_extend_loop _]
  show wpAny _ A.in1 (pyNext (.ref x) >>= _) _ _ s
  refine wpAny_bind (qy0 FS Rm.in1 St hit (fun h' tk j v h1 h2 h3 h4 h5 h6 => ?_) fun h' tk h1 h2 h3 => ?_)
  ·have hj : j < vs.size := (Array.getElem?_eq_some_iff.mp h2).1
   obtain ⟨m, hm⟩ := hS
   have hS' := h5 _ _ hSi hm
   have sz : acc.size ≤ i := by
    have := congrArg List.length hacc
    simp only [Array.length_toList] at this
    rw [this]; unfold kept
    have h1 := List.length_filter_le (fun v => !c v) (vs.toList.take i)
    have h2 : (vs.toList.take i).length ≤ i := by rw [List.length_take]; lia
    lia
   show wpAny _ A.in1 (updateSeq S (·.push v) >>= _) _ _ _
   refine wpAny_bind ?_
   have hS2 : ∃ m', (h'.update S (Obj.mapSeq (·.push v))).get? S = some { cls := .type "list", dict := none, data := .seq (acc.push v) m', slots := #[] } := ⟨_, Heap.get?_update_self _ hS' rfl⟩
   refine wpAny_updateSeq hS' rfl (wpAny_pure ⟨plainId_quiet PySem.F.plain_extend_loop _, ?_⟩) (by simp only [sizeLine]; lia) (by show (acc.push v).size ≤ sizeLine + 1; rw [Array.size_push]; simp only [sizeLine]; lia)
   have keep2 : ∀ q o, q ≠ it → q ≠ S → s.heap.get? q = some o → (h'.update S (Obj.mapSeq (·.push v))).get? q = some o := fun q o e1 e2 e => (Heap.get?_update_other _ _ (Ne.symm e2)).trans (h5 _ _ e1 e)
   have it2 : (h'.update S (Obj.mapSeq (·.push v))).IsListIter it l (j + 1) := by
    obtain ⟨o, ho, r⟩ := h6
    exact ⟨o, (Heap.get?_update_other _ _ hSi).trans ho, r⟩
   have ok2 : Γ.Ok { s with heap := h'.update S (Obj.mapSeq (·.push v)), toks := tk } := by
    refine ⟨fun q o e t => ?_, fun p hp => ?_, St.ok.gens, St.ok.os, fun q hq => ?_, fun L hL => ?_, St.ok.off, fun q o e t => keep2 _ _ (fun z => by rw [z, St.hBi] at e; cases e) (fun z => by rw [z, hBS] at e; cases e) (St.ok.old _ _ e t)⟩
    ·exact keep2 _ _ (fun z => by rw [z, St.hBi] at e; cases e) (fun z => by rw [z, hBS] at e; cases e) (St.ok.base _ _ e t)
    ·refine (St.ok.tabs p hp).keep fun q o e1 t => keep2 _ _ (fun z => ?_) (fun z => ?_) e1
     ·obtain ⟨o, ho, hc, hd⟩ := hit; rw [z, ho] at e1; cases e1; rw [lot (q07 hc hd)] at t; cases t
     rw [z, hm] at e1; cases e1; cases t
    ·obtain ⟨o, ho⟩ := Option.ne_none_iff_exists'.mp (St.ok.all q hq)
     show (h'.update S (Obj.mapSeq (·.push v))).get? q ≠ none
     rw [keep2 _ _ (fun z => hq (by rw [z]; exact St.hBi)) (fun z => hq (by rw [z]; exact hBS)) ho]; simp
    obtain ⟨o, ho, hf⟩ := St.ok.frs L hL
    refine ⟨o, keep2 _ _ (fun z => ?_) (fun z => stS (z ▸ hL)) ho, hf⟩
    obtain ⟨o', ho', _, hd⟩ := hit; rw [z, ho'] at ho; cases ho; rw [q09 hd] at hf; exact absurd hf Bool.false_ne_true
   have St2 : Still Γ C x dx b a it l vs ws c { s with heap := h'.update S (Obj.mapSeq (·.push v)), toks := tk } := by
    refine ⟨ok2, ?_, ?_, ?_, ?_, ?_, St.dxi, St.hBi, St.hc⟩
    ·exact keep2 _ _ (fun z => by obtain ⟨o', ho', _, hd⟩ := hit; have := St.hx; rw [z, ho'] at this; cases this; cases hd) Sx.symm St.hx
    ·exact keep2 _ _ St.dxi Sd.symm St.hdx
    ·exact keep2 _ _ (fun z => by obtain ⟨o', ho', _, hd⟩ := hit; have := St.hb; rw [z, ho'] at this; cases this; have := Data.fields.inj hd; cases this) Sb.symm St.hb
    ·obtain ⟨jj, e⟩ := St.ha
     exact ⟨jj, keep2 _ _ (fun z => by obtain ⟨o', ho', _, hd⟩ := hit; rw [z, ho'] at e; cases e; cases hd) Sa.symm e⟩
    obtain ⟨jj, e⟩ := St.hl
    exact ⟨jj, keep2 _ _ (fun z => by obtain ⟨o', ho', _, hd⟩ := hit; rw [z, ho'] at e; cases e; cases hd) Sl.symm e⟩
   refine ih (j + 1) _ (acc.push v) (by lia) (by lia) St2 it2 hSi hS2 ?_ Sa Sl Sx Sb Sd fun h2 tk2 k1 k2 k3 => ?_
   ·have e1 : kept c (vs.toList.take j) = kept c (vs.toList.take i) := qi7 h1 fun k u q1 q2 q3 => h4 k u q1 q2 (by rw [← Array.getElem?_toList]; exact q3)
    rw [Array.toList_push, hacc, ← e1, List.take_add_one, show vs.toList[j]? = some v by rw [Array.getElem?_toList]; exact h2]
    unfold kept
    rw [List.filter_append]; simp [h3]
   exact hR h2 tk2 (fun q o e1 e2 e3 e => k1 q o e1 e2 e3 (keep2 q o e1 e2 e)) (fun q m o e => k2 q m o (keep2 q o (fun z => by obtain ⟨o', ho', _, hd⟩ := hit; obtain ⟨o2, ho2, hf2⟩ := St.ok.frs q m; rw [z, ho'] at ho2; cases ho2; rw [q09 hd] at hf2; exact absurd hf2 Bool.false_ne_true) (fun z => stS (z ▸ m)) e)) k3
  refine wpAny_pure (hR h' tk (fun q o e1 e2 e3 e => h2 q o e1 e3 e) h3 ⟨acc, ?_, ?_⟩)
  ·obtain ⟨m, hm⟩ := hS; exact ⟨m, h2 _ _ hSi stS hm⟩
  rw [hacc, ← qi7 (j := vs.toList.length) hi fun k u q1 q2 q3 => h1 k u q1 (by rw [← Array.getElem?_toList]; exact q3), List.take_length]
end
section
variable {Γ : Cx} {A : Around} {K : Frag} {C fI fT fN pF pI : Addr}
theorem Still.more {x dx b a it l : Addr} {vs ws : Array Value} {c : Value → Bool} {s s' : Shared} (S : Still Γ C x dx b a it l vs ws c s) (ok : Γ.Ok s') (k : ∀ q o, s.heap.get? q = some o → s'.heap.get? q = some o) : Still Γ C x dx b a it l vs ws c s' :=
 ⟨ok, k _ _ S.hx, k _ _ S.hdx, k _ _ S.hb, let ⟨j, e⟩ := S.ha; ⟨j, k _ _ e⟩, let ⟨j, e⟩ := S.hl; ⟨j, k _ _ e⟩, S.dxi, S.hBi, S.hc⟩
theorem qc3 {h h' : Heap} {it l : Addr} {i : Nat} (k : ∀ q o, h.get? q = some o → h'.get? q = some o) (x : h.IsListIter it l i) : h'.IsListIter it l i := let ⟨o, e, r⟩ := x; ⟨o, k _ _ e, r⟩
theorem z67 {x dx b a it l : Addr} {vs ws : Array Value} {c : Value → Bool} {n : Nat} {s : Shared} {E : Value → Shared → Prop} {Q : Value → Shared → Prop} (FS : FFs Γ K C fI fT fN pF pI) (Rm : Room Γ A (n + 5)) (hz : vs.size ≤ 2 ^ 24) (St : Still Γ C x dx b a it l vs ws c s) (hit : s.heap.IsListIter it l 0)
  (h : ∀ h' tk S vs', (∀ q o, q ≠ it → q ∉ Γ.stk → s.heap.get? q = some o → h'.get? q = some o) → (∀ q ∈ Γ.stk, ∀ o, s.heap.get? q = some o → ∃ sl, h'.get? q = some { o with slots := sl }) → s.heap.get? S = none → LstAt h' S vs' → vs'.toList = kept c vs.toList → Q (.ref S) { s with heap := h', toks := tk }) :
  wpAny (model Γ.prog Γ.w) A (call (.type "list") [.ref x]) Q E s := by
 refine callType_codes (Q₁ := fun obj s₁ => obj = .ref s.heap.objs.size ∧ s₁ = { s with heap := s.heap.push { cls := .type "list", data := .seq #[] } }) F.called_list (F.typeCall_list_1 _) F.entry_list_init
  (code_list_new _ ⟨rfl, rfl⟩) fun obj s₁ h₁ => ?_
 obtain ⟨rfl, rfl⟩ := h₁
 generalize hS : s.heap.objs.size = S
 have newS : s.heap.get? S = none := by rw [← hS]; exact q00 _
 have hBS : Γ.hB.get? S = none := St.ok.new newS
 have hS1 : (s.heap.push { cls := .type "list", data := .seq #[] }).get? S = some { cls := .type "list", data := .seq #[] } := by rw [← hS]; exact Heap.get?_push_size _ rfl
 have keep1 : ∀ q o, s.heap.get? q = some o → (s.heap.push { cls := .type "list", data := .seq #[] }).get? q = some o := fun q o e => Heap.get?_push_of_some _ e
 have ne : ∀ {q o}, s.heap.get? q = some o → S ≠ q := fun e z => by rw [← z, newS] at e; cases e
 obtain ⟨ja, ea⟩ := St.ha
 obtain ⟨jl, el⟩ := St.hl
 have Sa := ne ea; have Sl := ne el; have Sx := ne St.hx; have Sb := ne St.hb; have Sd := ne St.hdx
 have Si : S ≠ it := by obtain ⟨o, e, _⟩ := hit; exact ne e
 refine ⟨⟨_, hS1, rfl⟩, F.args_list_init_2 _ _, ?_⟩
 show wpAny _ A.in1.in1 (do let old ← Builtin.List.listItems (.ref S); Builtin.List.listUpdate (.ref S) (fun _ => #[]); letGo old.toList.reverse; Builtin.List.listExtendWith (.ref S) (.ref x) .none) _ _ _
 refine wpAny_bind ?_
 unfold Builtin.List.listItems
 refine wpAny_bind (wpAny_seqItems hS1 rfl (wpAny_pure ?_))
 show wpAny _ A.in1.in1 (updateSeq S (fun _ => #[]) >>= fun _ => letGo (#[] : Array Value).toList.reverse >>= fun _ => Builtin.List.listExtendWith (.ref S) (.ref x) .none) _ _ _
 refine wpAny_bind (wpAny_updateSeq hS1 rfl ?_)
 have hS2 := Heap.get?_update_self (Obj.mapSeq (fun _ => (#[] : Array Value))) hS1 rfl
 have keep2 : ∀ q o, s.heap.get? q = some o → ((s.heap.push { cls := .type "list", data := .seq #[] }).update S (Obj.mapSeq (fun _ => (#[] : Array Value)))).get? q = some o := fun q o e => (Heap.get?_update_other _ _ (ne e)).trans (keep1 q o e)
 generalize ((s.heap.push { cls := .type "list", data := .seq #[] }).update S (Obj.mapSeq (fun _ => (#[] : Array Value)))) = h2 at hS2 keep2
 refine wpAny_bind (wpAny_letGo ?_)
 have St2 : Still Γ C x dx b a it l vs ws c { s with heap := h2 } := St.more (St.ok.keeps keep2) keep2
 have it2 := qc3 keep2 hit
 have I2 := q57 St2.hx St2.hdx
 have X2 := FS.FC.in_ FS.KX St2.ok
 unfold Builtin.List.listExtendWith
 refine wpAny_bind (I2.type.here ?_)
 have e1 : Builtin.List.listSameRef (.ref S) (.ref x) = false := by simp [Builtin.List.listSameRef, Sx]
 have e2 : (Value.ref C == Value.type "list") = false := rfl
 have e3 : (Value.ref C == Value.type "tuple") = false := rfl
 simp only [e1, e2, e3, Bool.or_false, Bool.false_eq_true, if_false]
 obtain ⟨fdT, FT, hscT, hbT⟩ := FS.iter
 refine wpAny_bind (z68 (M := model Γ.prog Γ.w) FS.FC FS.KX (Room.in1 (Room.in1 Rm)) St2.ok FT hscT hbT I2 fun h3 tk keep3 => ?_)
 have keep23 : ∀ q o, s.heap.get? q = some o → h3.get? q = some o := fun q o e => keep3 _ _ (keep2 _ _ e)
 have St3 : Still Γ C x dx b a it l vs ws c { s with heap := h3, toks := tk } := St.more (St.ok.keeps keep23) keep23
 have it3 := qc3 keep3 it2
 have hS3 := keep3 _ _ hS2
 have I3 := q57 St3.hx St3.hdx
 have X3 := FS.FC.in_ FS.KX St3.ok
 refine wpAny_bind (wpAny_holding ?_)
 unfold Builtin.List.listLengthHint
 refine wpAny_bind (wpAny_bind (I3.type.here ((looks_findIn X3 FS.FC.noLen).here ?_)))
 show wpAny _ _ (specialOf (Value.ref x) (Str.ofString "__length_hint__") >>= _) _ _ _
 refine wpAny_bind (wpAny_bind (I3.type.here ((looks_findIn X3 FS.FC.noHint).here ?_)))
 refine wpAny_pure ?_
 show wpAny _ _ (rule "list.extend.makes-room" >>= fun _ => Builtin.List.listTouch (.ref S) >>= fun _ =>
  again (.builtin "list.extend.loop" ⟨[.ref S, .ref x, .none], []⟩)) _ _ _
 refine wpAny_bind (wpAny_rule (wpAny_bind ?_))
 show wpAny _ _ (updateSeq S (·.push .none) >>= fun _ => updateSeq S (·.pop)) _ _ _
 refine wpAny_bind (wpAny_updateSeq hS3 rfl ?_)
 have hS4 := Heap.get?_update_self (Obj.mapSeq (·.push Value.none)) hS3 rfl
 refine wpAny_updateSeq (hz := by seq_fits) hS4 rfl ?_
 have hS5 := Heap.get?_update_self (Obj.mapSeq (·.pop)) hS4 rfl
 have keep5 : ∀ q o, s.heap.get? q = some o → ((h3.update S (Obj.mapSeq (·.push Value.none))).update S (Obj.mapSeq (·.pop))).get? q = some o := fun q o e =>
  (Heap.get?_update_other _ _ (ne e)).trans ((Heap.get?_update_other _ _ (ne e)).trans (keep23 q o e))
 generalize ((h3.update S (Obj.mapSeq (·.push Value.none))).update S (Obj.mapSeq (·.pop))) = h5 at hS5 keep5
 have St5 : Still Γ C x dx b a it l vs ws c { s with heap := h5, toks := tk } := St.more (St.ok.keeps keep5) keep5
 refine wpAny_pure ⟨plainId_quiet PySem.F.plain_extend_loop _, z66 (A := A.in1) (n := n + 2) FS Rm.in1 hz hBS (vs.size + 1) 0 _ #[] (by lia) (Nat.zero_le _) St5 (qc3 keep5 hit) Si ⟨_, hS5⟩ (by simp [kept]) Sa Sl Sx Sb Sd fun h6 tk6 k1 k2 k3 => ?_⟩
 obtain ⟨vs', k3, k4⟩ := k3
 exact ⟨rfl, h h6 tk6 S vs' (fun q o z1 z2 e => k1 q o z1 (ne e).symm z2 (keep5 _ _ e)) (fun q m o e => k2 q m o (keep5 _ _ e)) newS k3 k4⟩
end
section
variable {Γ : Cx} {A : Around} {K : Frag} {C fI fT fN pF pI : Addr}
theorem z65 {a l : Addr} {vs ws : Array Value} {c : Value → Bool} {n : Nat} {s : Shared} {E : Value → Shared → Prop} {Q : Value → Shared → Prop} {b : Addr} (FS : FFs Γ K C fI fT fN pF pI) (Rm : Room Γ A (n + 1)) (ok : Γ.Ok s) (hb : s.heap.get? b = some (mwObj a)) (ha : LstAt s.heap a ws) (hl : LstAt s.heap l vs)
  (hc : ∀ v ∈ vs, ∃ e : Value → Bool, (∀ (A : Around) (s : Shared) y, y ∈ ws → PySem.SeqAt.EqAt A s y v (e y)) ∧ ws.any e = c v)
  (h : ∀ x dx it h' tk, (∀ q o, s.heap.get? q = some o → h'.get? q = some o) → s.heap.get? it = none → Still Γ C x dx b a it l vs ws c { s with heap := h', toks := tk } → h'.IsListIter it l 0 → Q (.ref x) { s with heap := h', toks := tk }) :
  wpAny (model Γ.prog Γ.w) A (call (.ref C) [.ref b, .ref l]) Q E s := by
 obtain ⟨hh, g, d, t, os⟩ := s
 obtain ⟨fd, F, hsc, hbind⟩ := FS.init
 have X := FS.FC.in_ FS.KX ok
 refine wpAny_call (make_core (makes_of X FS.FC.made) (looks_findIn X FS.FC.hI) (fun self => bind_fn X self FS.FC.tI) (.inl rfl) ?_)
 have k1 : ∀ q o, hh.get? q = some o → ((hh.push emptyDict).push (instObj C hh.objs.size)).get? q = some o := fun q o e => Heap.get?_push_of_some _ (Heap.get?_push_of_some _ e)
 have ok1 : Γ.Ok ⟨(hh.push emptyDict).push (instObj C hh.objs.size), g, d, t, os⟩ := ok.keeps k1
 have hx : ((hh.push emptyDict).push (instObj C hh.objs.size)).get? (hh.objs.size + 1) = some (instObj C hh.objs.size) := by
  have := Heap.get?_push_size (hh.push emptyDict) (o := instObj C hh.objs.size) rfl
  rwa [Heap.size_push] at this
 have hdx : ((hh.push emptyDict).push (instObj C hh.objs.size)).get? hh.objs.size = some emptyDict := Heap.get?_push_of_some _ (Heap.get?_push_size _ rfl)
 have xnew : hh.get? (hh.objs.size + 1) = none := Heap.get?_none_of_le (Nat.le_succ _)
 have dnew : hh.get? hh.objs.size = none := q00 _
 refine z69 FS.FC FS.KX ok1 F hsc hbind FS.gi ?_ hx hdx (Nat.succ_ne_self _) (ok.new xnew) (q70 hl.isList (.of k1)) fun h' tk it k2 itn hx' hit => ?_
 ·have := Rm.depth; show A.depth + 1 < _; unfold recursionLimit; lia
 have keep : ∀ q o, hh.get? q = some o → h'.get? q = some o := fun q o e => k2 _ _ (fun z => by subst z; cases xnew.symm.trans e) (k1 _ _ e)
 have itn' : hh.get? it = none := by
  cases q : hh.get? it with
  | none => rfl
  | some o => rw [k1 _ _ q] at itn; cases itn
 refine ⟨rfl, h (hh.objs.size + 1) hh.objs.size it h' tk keep itn' ⟨ok.keeps keep, hx', ?_, keep _ _ hb, ?_, ?_, ?_, ok.new itn', hc⟩ hit⟩
 ·exact k2 _ _ (Nat.succ_ne_self _).symm hdx
 ·obtain ⟨j, e⟩ := ha; exact ⟨j, keep _ _ e⟩
 ·obtain ⟨j, e⟩ := hl; exact ⟨j, keep _ _ e⟩
 intro z; rw [← z, hdx] at itn; cases itn
theorem qw7 {H : List Addr} {h : Heap} {c : Value → Bool} {cs : List Nat → Bool} {Vs : List Value} {xs : List (List Nat)} (d : Dens H h Vs (xs.map .str)) (hc : ∀ v x, v ∈ Vs → Den H h v (.str x) → c v = cs x) : Dens H h (kept c Vs) ((xs.filter fun x => !cs x).map .str) := by
 induction xs generalizing Vs with
 | nil => cases d using Dens.nl; exact .nil
 | cons x xs ih =>
  cases d using Dens.cn with | cons d ds =>
  have ih := ih ds fun v x m => hc v x (.tail _ m)
  unfold kept at ih ⊢
  rw [List.filter_cons, List.filter_cons, hc _ x (.head _) d]
  split
  ·exact .cons d ih
  exact ih
noncomputable def txtOf : Value → List Nat
 | .str x _ => x.cps.toList
 | _ => []
theorem q63 {H : List Addr} {h : Heap} {V : Value} {x : List Nat} (d : Den H h V (.str x)) : txtOf V = x := by
 cases d using Den.s; simp [txtOf]
variable {n : Nat} {env : Env} {σ : St} {sc : Scope}
theorem E.filter {p1 p2 p3 p4 p5 p6 p7 : Pos} {xs ys : List (List Nat)} (FS : FFs Γ K C fI fT fN pF pI) (G : EnvS env sc) (b : BN Γ env sc (Str.ofString "list") (.type "list")) (hf : sc.names.lookup (Str.ofString "filterfalse") = some .globalImplicit) (gf : Γ.mg (Str.ofString "filterfalse") = some (.ref C))
  (h1 : ("skip", RV.pv (.list (ys.map .str))) ∈ σ.v) (h2 : ("flist", RV.pv (.list (xs.map .str))) ∈ σ.v) (hz : xs.length ≤ 2 ^ 24) :
  E Γ (n + 5) env σ (.Call (.Name (Str.ofString "list") p1) [.Call (.Name (Str.ofString "filterfalse") p2) [.Attribute (.Name (Str.ofString "skip") p3) (Str.ofString "__contains__") p4, .Name (Str.ofString "flist") p5] [] p6] [] p7)
   (.pv (.list ((xs.filter fun x => !ys.any fun y => y == x).map .str))) := by
 refine ⟨.mk fun A E s φ H R ok lv eo Q k => ?_⟩
 refine wpAny_Call_Name_kw (b.ev.run A E s φ H R ok lv eo _ fun V s1 k1 ok1 hV => ?_)
 have hV' : V = .type "list" := hV
 subst hV'
 refine PyProof.Rows.callWith_type1 (wpAny_items_cons ?_ (by rfl)) (by rfl) (by rfl)
 have lv1 := lv.kp k1
 have eo1 := eo.kp k1
 refine wpAny_Call_Name_kw ((Ev.global (Γ := Γ) (n := n + 5) (σ := σ) G hf gf (by decide)).run A E s1 φ H R ok1 lv1 eo1 _ fun V s2 k2 ok2 hV => ?_)
 have hV' : V = .ref C := hV
 subst hV'
 have lv2 := lv1.kp k2
 have eo2 := eo1.kp k2
 refine callWith_K (FS.FC.in_ FS.KX ok2) FS.FC.keep ?_ (by rfl) (by rfl)
 refine wpAny_items_cons (Attribute_Name_ ((Ev.var (Γ := Γ) (n := n + 5) G.g h1 (by decide)).run A E s2 φ H R ok2 lv2 eo2 _ fun V s3 k3 ok3 d3 => ?_)) (by rfl)
 have d3' : Den H s3.heap V (.list (ys.map .str)) := d3
 cases d3' using Den.l with
 | @list a ws ha hla hda =>
 have lv3 := lv2.kp k3
 have eo3 := eo2.kp k3
 obtain ⟨ja, ea⟩ := id hla
 refine q98 ea fun t4 => ?_
 generalize hb : s3.heap.objs.size = bb
 have k4 : ∀ q o, s3.heap.get? q = some o → (s3.heap.push (mwObj a)).get? q = some o := fun q o e => Heap.get?_push_of_some _ e
 have hb4 : (s3.heap.push (mwObj a)).get? bb = some (mwObj a) := by rw [← hb]; exact Heap.get?_push_size _ rfl
 generalize hs4 : ({ s3 with heap := s3.heap.push (mwObj a), toks := t4 } : Shared) = s4
 have kk4 : Kp s3.heap s4.heap := by rw [← hs4]; exact .of k4
 have ok4 : Γ.Ok s4 := by rw [← hs4]; exact ok3.keeps k4
 have hb4 : s4.heap.get? bb = some (mwObj a) := by rw [← hs4]; exact hb4
 have lv4 := lv3.kp kk4
 have eo4 := eo3.kp kk4
 refine wpAny_items_cons ((Ev.var (Γ := Γ) (n := n + 5) G.g h2 (by decide)).run A E s4 φ H R ok4 lv4 eo4 _ fun V s5 k5 ok5 d5 => ?_) (by rfl)
 have d5' : Den H s5.heap V (.list (xs.map .str)) := d5
 cases d5' using Den.l with
 | @list l vs hl hll hdl =>
 refine wpAny_items_nil ⟨FS.FC.in_ FS.KX ok5, ?_⟩
 have hda5 : Dens H s5.heap ws.toList (ys.map .str) := (hda.kp kk4).kp k5
 have hla5 : LstAt s5.heap a ws := (hla.kp kk4).kp k5
 have hb5 : s5.heap.get? bb = some (mwObj a) := k5 _ _ hb4 rfl
 have hcs : ∀ v ∈ vs, ∃ e : Value → Bool, (∀ (A : Around) (s : Shared) y, y ∈ ws → PySem.SeqAt.EqAt A s y v (e y)) ∧ ws.any e = ys.any fun y => y == txtOf v := by
  intro v hv
  obtain ⟨i, hi, rfl⟩ := Array.getElem_of_mem hv
  obtain ⟨w, hw, dw⟩ := hdl.getV (i := i) (V := vs[i]) (by simp [hi])
  rw [List.getElem?_map] at hw
  obtain ⟨x, hx, rfl⟩ := Option.map_eq_some_iff.mp hw
  rw [q63 dw]
  refine ⟨fun y => txtOf y == x, fun A s y hy => ?_, ?_⟩
  ·obtain ⟨j, hj, rfl⟩ := Array.getElem_of_mem hy
   obtain ⟨w', hw', dw'⟩ := hda5.getV (i := j) (V := ws[j]) (by simp [hj])
   rw [List.getElem?_map] at hw'
   obtain ⟨y, hy', rfl⟩ := Option.map_eq_some_iff.mp hw'
   have et := q63 dw'
   show PySem.SeqAt.EqAt A s ws[j] vs[i] (txtOf ws[j] == x)
   rw [et]
   generalize vs[i] = v1 at dw
   generalize ws[j] = v2 at dw'
   clear et
   cases dw using Den.s; cases dw' using Den.s
   rw [← q81]
   exact (PyProof.Rows.eqGives_str _ _ _ _).at A s
  rw [← Array.any_toList]
  have : ∀ (Ws : List Value) (ys : List (List Nat)), Dens H s5.heap Ws (ys.map .str) → Ws.any (fun y => txtOf y == x) = ys.any fun y => y == x := by
   intro Ws ys d
   induction ys generalizing Ws with
   | nil => cases d; rfl
   | cons y ys ih => cases d with | cons d1 d2 => rw [List.any_cons, List.any_cons, ih _ d2, q63 d1]
  exact this _ _ hda5
 refine z65 (c := fun v => ys.any fun y => y == txtOf v) FS R ok5 hb5 hla5 hll hcs fun x dx it h6 tk6 k6 it6 St6 hit6 => ?_
 refine wpAny_items_nil ?_
 have hvs : vs.size ≤ 2 ^ 24 := by
  have := hdl.length
  simp only [Array.length_toList, List.length_map] at this
  lia
 refine z67 FS R hvs St6 hit6 fun h7 tk7 S vs' k7 f7 Sn hS hk => ?_
 have k67 : Kp s5.heap h7 := fun q o e t => by
  by_cases m : q ∈ Γ.stk
  ·obtain ⟨o', ho', hf'⟩ := ok5.frs q m
   rw [e] at ho'; cases ho'
   obtain ⟨sl, hsl⟩ := f7 q m o (k6 _ _ e)
   unfold Sim; rw [hf']; exact ⟨sl, hsl⟩
  exact .of (k7 _ _ (fun z => by rw [z, it6] at e; cases e) m (k6 _ _ e))
 have ok7 : Γ.Ok { s5 with heap := h7, toks := tk7 } := by
  refine ⟨fun q o e t => ?_, fun p hp => ?_, ok5.gens, ok5.os, fun q hq => ?_, fun L hL => ?_, ok5.off, fun q o e t => ?_⟩
  rotate_right
  ·have e5 := ok5.old _ _ e t
   exact k7 _ _ (fun z => by rw [z, it6] at e5; cases e5) (fun m => by rw [ok5.off _ m] at e; cases e) (k6 _ _ e5)
  ·have e5 := ok5.base _ _ e t
   exact k7 _ _ (fun z => by rw [z, it6] at e5; cases e5) (fun m => by rw [ok5.off _ m] at e; cases e) (k6 _ _ e5)
  ·refine (ok5.tabs p hp).keep fun q o e1 t => k7 _ _ (fun z => by rw [z, it6] at e1; cases e1) (fun m => ?_) (k6 _ _ e1)
   obtain ⟨o', ho', hf'⟩ := ok5.frs _ m
   rw [e1] at ho'; cases ho'; rw [q16 hf'] at t; cases t
  ·obtain ⟨o, ho⟩ := Option.ne_none_iff_exists'.mp (ok5.all q hq)
   show h7.get? q ≠ Option.none
   rw [k7 _ _ (fun z => by rw [z, it6] at ho; exact absurd ho.symm (Option.some_ne_none _)) (fun m => hq (ok5.off _ m)) (k6 _ _ ho)]; simp
  obtain ⟨o, ho, hf⟩ := ok5.frs L hL
  obtain ⟨sl, hsl⟩ := f7 L hL o (k6 _ _ ho)
  exact ⟨_, hsl, hf⟩
 have lv5 := lv4.kp k5
 have kall : Kp s.heap h7 := ((((k1.trans k2).trans k3).trans kk4).trans k5).trans k67
 refine k _ _ kall ok7 ?_
 refine .list (fun m => ?_) hS ?_
 ·obtain ⟨o, ho, _⟩ := lv5 S m
  have := k6 _ _ ho
  rw [show ({ s5 with heap := h6, toks := tk6 } : Shared).heap.get? S = Option.none from Sn] at this; cases this
 rw [hk]
 refine qw7 (hdl.kp k67) fun v x m d => ?_
 rw [q63 d]
theorem qm7 {f : Addr} {fd : FuncData} {c : Addr} {cvs : Array Value} {t : Tok} {p1 p2 p3 p4 p5 p6 p7 p8 : Pos} (FS : ∀ k, FFs (Γ.on k) K C fI fT fN pF pI) (e1 : (K.lookup f).map Obj.data = some (.func fd))
  (hbody : fd.body = .stmts [.Return (some (.Call (.Name (Str.ofString "list") p1) [.Call (.Name (Str.ofString "filterfalse") p2) [.Attribute (.Name (Str.ofString "skip") p3) (Str.ofString "__contains__") p4, .Name (Str.ofString "flist") p5] [] p6] [] p7)) p8])
  (hc : fd.code = .ref c) (e2 : (K.lookup c).map (fun o => (isTb o, o.data)) = some (false, .fields cvs)) (hc1 : cvs[1]? = some (.str fd.qualname t)) (hk : fd.scope.kind = .function) (hsc : fd.scope.names = [(Str.ofString "flist", .local), (Str.ofString "skip", .local), (Str.ofString "list", .globalImplicit), (Str.ofString "filterfalse", .globalImplicit)])
  (hbind : ∀ Vs : List Value, Vs.length = 2 → bindArgs fd ⟨Vs, []⟩ = pure ((["flist", "skip"].map Str.ofString).zip Vs))
  (hrest : fd.closure = [] ∧ fd.globals = mainGlobals ∧ fd.builtins = builtinsNs ∧ fd.scope.isCoroutine = false ∧ fd.scope.isGenerator = false)
  (gl : Γ.mg (Str.ofString "list") = none) (gf : Γ.mg (Str.ofString "filterfalse") = some (.ref C)) (xs ys : List (List Nat)) (hz : xs.length ≤ 2 ^ 24) :
  FSpec Γ 6 f [.list (xs.map .str), .list (ys.map .str)] (.list ((xs.filter fun x => !ys.any fun y => y == x).map .str)) := by
 refine FSpec.introX (FS []).KX (ps := ["flist", "skip"]) (ns := ["flist", "skip"]) (v := [("flist", .pv (.list (xs.map .str))), ("skip", .pv (.list (ys.map .str)))]) e1 hbody hc e2 hc1 ?_ hbind (by rfl) hrest (by rfl) ?_
 ·refine ⟨hk, ?_, ?_, ?_, ?_, ?_, ?_⟩ <;> first | (rw [hsc]; decide +kernel) | decide
 intro kf env G
 refine X.ret (v := .list ((xs.filter fun x => !ys.any fun y => y == x).map .str)) (E.filter (n := 0) (FS kf) G ⟨G, by rw [hsc]; rfl, gl, by kernel_rfl, by decide, by decide⟩ (by rw [hsc]; rfl) gf (.tail _ (.head _)) (.head _) hz) rfl
end
end Mine
namespace Mine
open Builtin.Str
section
variable {prog : Program} {w : World} {A : Around} {E : Value → Shared → Prop} {s : Shared}
theorem q54 {d : Addr} {f : Int → Option Value} {c : Nat} {t : Str} {u : Tok} {Q : Mapped → Shared → Prop} (hm : s.heap.MapOf (PySem.intKind prog w) d f) (hv : f c = some (.str t u)) (h : ∀ tk, Q (.text t) { s with toks := tk }) :
  wpAny (model prog w) A (tableLookup (.ref d) c) Q E s := by
 unfold tableLookup
 refine wpAny_bind (wpAny_attempt (wpAny_bind (wpAny_mkInt ?_)))
 refine wpAny_getItem_of (knd := PySem.intKind prog w) (k := (c : Int)) ?_ hm hv ?_
 ·simp [PySem.intKind, Value.isInt]
 exact wpAny_pure (h _)
theorem qh7 : isSubtype (.type "KeyError") (.type "LookupError") = pure true := by rw [isSubtype_type]; kernel_rfl
theorem qc1 {d : Addr} {f : Int → Option Value} {c : Nat} {Q : Mapped → Shared → Prop} (hm : s.heap.MapOf (PySem.intKind prog w) d f) (hv : f c = none) (hd : (d == sysModules) = false) (hh : A.handled = none) (h : ∀ h' tk, (∀ b o, s.heap.get? b = some o → h'.get? b = some o) → Q .keep { s with heap := h', toks := tk }) :
  wpAny (model prog w) A (tableLookup (.ref d) c) Q E s := by
 unfold tableLookup
 refine wpAny_bind (wpAny_attempt (wpAny_bind (wpAny_mkInt ?_)))
 refine wpAny_getItem_missing_of (knd := PySem.intKind prog w) (k := (c : Int)) ?_ hd hh hm hv fun h' e he => ?_
 ·simp [PySem.intKind, Value.isInt]
 obtain ⟨k1, k2, ob, t, h1, h2, h3⟩ := he
 refine wpAny_bind (wpAny_isInstance (T := "KeyError") (b := true) ⟨ob, h1, h2⟩ qh7 ?_)
 exact wpAny_bind (wpAny_rule (wpAny_pure (h _ _ k1)))
theorem tl0 : tooLong 0 = false := by decide
theorem tl1 : tooLong (0 + 1) = false := by decide
theorem tl2 : tooLong (0 + 2) = false := by decide
theorem qa9 {d : Addr} {f : Int → Option Value} {c : Nat} {t : Str} {u v : Tok} {Q : Value → Shared → Prop} (hm : s.heap.MapOf (PySem.intKind prog w) d f) (hv : f c = some (.str t u)) (ht : t.length = 2) (h : ∀ k tk, Q (.str t k) { s with toks := tk }) :
  wpAny (model prog w) A (call (.builtin "str.translate") [.str ⟨#[c]⟩ v, .ref d]) Q E s := by
 refine wpAny_call_entry F.slot_str_translate (typeIs_str _ _ _) F.entry_str_translate ?_ (F.args_str_translate_2 _ _)
 unfold Builtin.«str.translate»
 refine wpAny_bind (m := strOneArg "translate" _) (wpAny_of_eq (a := (.str ⟨#[c]⟩ v, ⟨#[c]⟩, .ref d)) (by first | rfl | kernel_rfl) ?_)
 dsimp only
 haveI e0 : ((Str.length ⟨#[c]⟩ == 0) = true) = False := by simp [Str.length]
 haveI e1 : ∀ {α : Type} (x y : α), (if (t.length == 1 && t.cps.all fun x => decide (x < 128)) = true then x else y) = y := fun x y => ht ▸ rfl
 have fin : ∀ tk, wpAny (model prog w) A.in1 (retStr ⟨([t] : List Str).reverse.foldl (fun acc p => acc ++ p.cps) #[]⟩) (fun fin s' => ∃ v, fin = .done (.ret v) ∧ Q v s') E { s with toks := tk } := fun tk => by
  haveI : (⟨([t] : List Str).reverse.foldl (fun acc p => acc ++ p.cps) #[]⟩ : Str) = t := by cases t; simp
  rw [this]
  exact wpAny_bind (wpAny_mkStr (wpAny_pure ⟨_, rfl, h _ _⟩))
 simp only [e0, if_false]
 cases hc : (⟨#[c]⟩ : Str).cps.all (· < 128) with
 | true =>
  simp only [List.forIn_toArray, List.forIn_cons, List.forIn_nil, tl0, Bool.false_eq_true, if_false, if_true, List.lookup_nil]
  refine wpAny_bind (wpAny_bind (wpAny_bind (q54 hm hv fun t1 => ?_)))
  simp only [e1]
  refine wpAny_bind (wpAny_pure ?_)
  dsimp only
  refine wpAny_bind (wpAny_rule (wpAny_bind (q54 (s := { s with toks := t1 }) hm hv fun t2 => ?_)))
  refine wpAny_pure (wpAny_pure ?_)
  simp only [ht, tl2, Bool.false_eq_true, if_false]
  exact fin _
 | false =>
  simp only [List.forIn_toArray, List.forIn_cons, List.forIn_nil, tl0, Bool.false_eq_true, if_false, if_true, List.lookup_nil]
  refine wpAny_bind (wpAny_bind (wpAny_bind (q54 hm hv fun t1 => ?_)))
  refine wpAny_pure (wpAny_pure ?_)
  simp only [ht, tl2, Bool.false_eq_true, if_false]
  exact fin _
theorem qb0 {d : Addr} {f : Int → Option Value} {c : Nat} {v : Tok} {Q : Value → Shared → Prop} (hm : s.heap.MapOf (PySem.intKind prog w) d f) (hv : f c = none) (hd : (d == sysModules) = false) (hh : A.handled = none) (h : ∀ h' k tk, (∀ b o, s.heap.get? b = some o → h'.get? b = some o) → Q (.str ⟨#[c]⟩ k) { s with heap := h', toks := tk }) :
  wpAny (model prog w) A (call (.builtin "str.translate") [.str ⟨#[c]⟩ v, .ref d]) Q E s := by
 refine wpAny_call_entry F.slot_str_translate (typeIs_str _ _ _) F.entry_str_translate ?_ (F.args_str_translate_2 _ _)
 unfold Builtin.«str.translate»
 refine wpAny_bind (m := strOneArg "translate" _) (wpAny_of_eq (a := (.str ⟨#[c]⟩ v, ⟨#[c]⟩, .ref d)) (by first | rfl | kernel_rfl) ?_)
 dsimp only
 have e0 : ((Str.length ⟨#[c]⟩ == 0) = true) = False := by simp [Str.length]
 have fin : ∀ h' tk, (∀ b o, s.heap.get? b = some o → h'.get? b = some o) → wpAny (model prog w) A.in1 (retStr ⟨([⟨#[c]⟩] : List Str).reverse.foldl (fun acc p => acc ++ p.cps) #[]⟩) (fun fin s' => ∃ v, fin = .done (.ret v) ∧ Q v s') E { s with heap := h', toks := tk } := fun h' tk k => by
  haveI : (⟨([⟨#[c]⟩] : List Str).reverse.foldl (fun acc p => acc ++ p.cps) #[]⟩ : Str) = ⟨#[c]⟩ := by simp
  rw [this]
  exact wpAny_bind (wpAny_mkStr (wpAny_pure ⟨_, rfl, h _ _ _ k⟩))
 simp only [e0, if_false]
 cases hc : (⟨#[c]⟩ : Str).cps.all (· < 128) with
 | true =>
  simp only [List.forIn_toArray, List.forIn_cons, List.forIn_nil, tl0, Bool.false_eq_true, if_false, if_true, List.lookup_nil]
  refine wpAny_bind (wpAny_bind (wpAny_bind (qc1 hm hv hd hh fun h1 t1 k1 => ?_)))
  refine wpAny_pure ?_
  dsimp only
  refine wpAny_pure ?_
  dsimp only [tl1, Bool.false_eq_true, if_false]
  exact fin _ _ k1
 | false =>
  simp only [List.forIn_toArray, List.forIn_cons, List.forIn_nil, tl0, Bool.false_eq_true, if_false, if_true, List.lookup_nil]
  refine wpAny_bind (wpAny_bind (wpAny_bind (qc1 hm hv hd hh fun h1 t1 k1 => ?_)))
  refine wpAny_pure (wpAny_pure ?_)
  dsimp only [tl1, Bool.false_eq_true, if_false]
  exact fin _ _ k1
end
end Mine
namespace Mine
section
variable {Γ : Cx} {τ n : Nat} {env : Env} {σ : St} {sc scope : Scope} {ns : List String} {α β : Type}
noncomputable def TrAt (f : Int → Option Value) (c : Nat) (r : List Nat) : Prop := (∃ u, f c = some (.str (S r) u) ∧ r.length = 2) ∨ (f c = none ∧ r = [c])
theorem CallB.translate1 {d : Addr} {f : Int → Option Value} {c : Nat} {r : List Nat} (hm : Γ.hB.MapOf (PySem.intKind Γ.prog Γ.w) d f) (hd : (d == sysModules) = false) (hr : TrAt f c r) :
  CallB Γ n env σ (.builtin "str.translate") [PR (.pv (.str [c])), PV' (.ref d)] (PR (.pv (.str r))) := fun Vs A E s φ H R ok lv eo cc Q k => by
 obtain ⟨V, W, rfl, dv, e⟩ := cc.two
 haveI e' : W = .ref d := e
 subst e'
 have hm' : s.heap.MapOf (PySem.intKind Γ.prog Γ.w) d f := by
  obtain ⟨o, es, ep, ho, hx, hdd, r⟩ := hm
  exact ⟨o, es, ep, ok.base _ _ ho (q42 (q22 hdd)), hx, hdd, r⟩
 cases dv using Den.s with
 | str t =>
 rcases hr with ⟨u, hu, hl⟩ | ⟨hu, rfl⟩
 ·exact qa9 hm' hu (by rw [S_len]; exact hl) fun k' tk => k _ _ (Kp.refl _) ok.toks (.str r k')
 exact qb0 hm' hu hd R.handled fun h' k' tk kk => k _ _ (Kp.of kk) (ok.keeps kk) (.str [c] k')
theorem E.translate1 {o : Expr} {x : Str} {p apos pos : Pos} {d : Addr} {f : Int → Option Value} {c : Nat} {r : List Nat} (G : EnvS env sc) (hx : sc.names.lookup x = some .globalImplicit) (hg : Γ.mg x = some (.ref d)) (hdb : (x == ("__debug__" : Str)) = false)
  (hm : Γ.hB.MapOf (PySem.intKind Γ.prog Γ.w) d f) (hd : (d == sysModules) = false) (hr : TrAt f c r)
  (ho : E Γ n env σ o (.pv (.str [c]))) (hbase : attributeBase o (Str.ofString "translate") env (eval o env) = eval o env) (hline : (apos.endLine == pos.line) = true) :
  E Γ n env σ (.Call (.Attribute o (Str.ofString "translate") apos) [.Name x p] [] pos) (.pv (.str r)) :=
 ⟨Ev.smeth (es := []) ho.run (EvS.cons (mV _) (Ev.global G hx hg hdb) EvS.nil (fun _ => rfl)) F.slot_str_translate F.type_str_translate (CallB.translate1 hm hd hr) hbase hline (by rfl) (by rfl) (by rfl)⟩
end
theorem qc8 {pos : Pos} {line col : Int} {a b : Tok} {c : Value} (hne : (line == pos.line && col == pos.col) = false) (l : List Value) (h : TriplesOk l) : codeAmong pos (l ++ [.int line a, .int col b, c]) = codeAmong pos l := by
 fun_induction TriplesOk l with
 | case1 =>
  show (if (line == pos.line && col == pos.col) = true then some c else codeAmong pos []) = _
  rw [if_neg (by rw [hne]; decide)]
 | case2 x t y u v r ih =>
  show (if (x == pos.line && y == pos.col) = true then some v else codeAmong pos (r ++ _)) = (if (x == pos.line && y == pos.col) = true then some v else codeAmong pos r)
  rw [ih h]
 | case3 l h1 h2 => exact h.elim
structure BA (Γ : Cx) : Prop where
 at_ : ∃ bm o, Γ.mg (Str.ofString "__builtins__") = some (.ref bm) ∧ bm ≠ builtinsNs ∧ Γ.hB.get? bm = some o ∧ o.cls = .type "module" ∧ o.dict = some builtinsNs ∧ o.data = .plain
noncomputable def lamFn (name qual : Str) (params : Arguments) (body : Expr) (scope : Scope) (pm : Value) (c' : Addr) : FuncData :=
 { name, qualname := qual, params, body := .expr body, scope, globals := mainGlobals, closure := [], defaults := .none, kwdefaults := .none, doc := .none, pyModule := pm, annotations := none, code := .ref c', closureTuple := .none, builtins := builtinsNs }
noncomputable def z40 (name qual : Str) (params : Arguments) (body : Expr) (scope : Scope) (pm : Value) (c' : Addr) : Obj :=
 { cls := .type "function", data := .func (lamFn name qual params body scope pm c') }
section
variable {Γ : Cx} {M : Model} {A : Around} {E : Value → Shared → Prop} {s : Shared}
theorem qv9 {P c' : Addr} {es : List (Pos × Str)} {ps : Array Value} {pos : Pos} {qual : Str} {h' : Heap} {tk : Nat} (ok : Γ.Ok s) (hT : Γ.tabs = [(P, es)]) (hps : s.heap.get? P = some (tabObj ps)) (htr : TriplesOk ps.toList) (hnf : codeAmong pos ps.toList = none)
  (hes : ∀ e ∈ es, e = (pos, qual) ∨ ((pos.line : Int) == e.1.line && (pos.col : Int) == e.1.col) = false)
  (hall : ∀ e ∈ es, codeAmong e.1 ps.toList = none ∨ ∃ c' o vs t, codeAmong e.1 ps.toList = some (.ref c') ∧ s.heap.get? c' = some o ∧ o.cls = .type "code" ∧ o.data = .fields vs ∧ vs[1]? = some (.str e.2 t))
  (hx : Heap.ExtBut P s.heap h') (hP' : h'.get? P = some (tabObj (ps ++ #[rawInt pos.line, rawInt pos.col, .ref c'])))
  (hc' : ∃ o vs t, h'.get? c' = some o ∧ o.cls = .type "code" ∧ o.data = .fields vs ∧ vs[1]? = some (.str qual t)) : Γ.Ok { s with heap := h', toks := tk } ∧ Kp s.heap h' := by
 have hl : (ps ++ #[rawInt pos.line, rawInt pos.col, Value.ref c']).toList = ps.toList ++ [rawInt pos.line, rawInt pos.col, .ref c'] := by simp
 have keep : ∀ b o, s.heap.get? b = some o → isTb o = false → h'.get? b = some o := fun b o e t => hx _ _ (fun q => by subst q; cases hps.symm.trans e; cases t) e
 refine ⟨⟨fun b o e t => keep _ _ (ok.base _ _ e t) t, fun p hp => ?_, ok.gens, ok.os, fun b hb => ?_, fun L hL => ?_, ok.off, fun b o e t => hx _ _ (fun q => t (P, es) (by rw [hT]; exact .head _) q.symm) (ok.old _ _ e t)⟩, fun b o e t => .of (keep _ _ e (q42 t))⟩
 ·rw [hT, List.mem_singleton] at hp
  subst hp
  refine ⟨_, hP', by rw [hl]; exact TriplesOk_snoc _ _ _ _ htr, fun e he => ?_⟩
  rw [hl]
  rcases hes e he with rfl | hne
  ·obtain ⟨o, vs, t, e1, e2, e3, e4⟩ := hc'
   exact .inr ⟨c', o, vs, t, codeAmong_snoc _ htr hnf, e1, e2, e3, e4⟩
  rw [show [rawInt (pos.line : Int), rawInt (pos.col : Int), Value.ref c'] = [.int pos.line 0, .int pos.col 0, .ref c'] from rfl, qc8 hne _ htr]
  rcases hall e he with q | ⟨c2, o, vs, t, e1, e2, e3, e4, e5⟩
  ·exact .inl q
  exact .inr ⟨c2, o, vs, t, e1, keep _ _ e2 (by unfold isTb; rw [e3]), e3, e4, e5⟩
 ·obtain ⟨o, ho⟩ := Option.ne_none_iff_exists'.mp (ok.all b hb)
  show h'.get? b ≠ Option.none
  by_cases q : b = P
  ·rw [q, hP']; simp
  rw [hx _ _ q ho]; simp
 obtain ⟨o, ho, hf⟩ := ok.frs L hL
 exact ⟨o, keep _ _ ho (q42 (q16 hf)), hf⟩
theorem z16 {P c : Addr} {es : List (Pos × Str)} {pos : Pos} {params : Arguments} {body : Expr} {scope : Scope} {env : Env} {sc : Scope} {Q : Value → Shared → Prop} (ok : Γ.Ok s) (G : EnvS env sc) (hT : Γ.tabs = [(P, es)]) (he : (pos, env.qual ++ "<lambda>") ∈ es)
  (hes : ∀ e ∈ es, e = (pos, env.qual ++ "<lambda>") ∨ ((pos.line : Int) == e.1.line && (pos.col : Int) == e.1.col) = false)
  (hcode : env.code = .ref c) (C : CodeHd Γ.hB c P) (ba : BA Γ) (hdef : defaultsOf params env = ([], [])) (hcl : closureFor scope env = pure [])
  (h : ∀ f c' pm h' tk, Kp s.heap h' → Γ.Ok { s with heap := h', toks := tk } → s.heap.get? f = none → h'.get? f = some (z40 "<lambda>" (env.qual ++ "<lambda>") params body scope pm c') → h'.CodeRec (.ref c') (env.qual ++ "<lambda>") → Q (.ref f) { s with heap := h', toks := tk }) :
  wpAny M A (eval (.Lambda params body scope pos) env) Q E s := by
 refine kla_eval hdef ?_
 obtain ⟨ps, h1, htr, hall⟩ := ok.tabs (P, es) (by rw [hT]; exact .head _)
 have C' : CodeHd s.heap c P := by
  obtain ⟨o, vs, file, tf, flags, tg, inF, text, tt, e1, e2, r⟩ := C
  exact ⟨o, vs, file, tf, flags, tg, inF, text, tt, ok.base _ _ e1 (by unfold isTb; rw [e2]), e2, r⟩
 obtain ⟨bm, ob, hbm, hne0, hbo, hcls, hdict, hdata⟩ := ba.at_
 have hbo' : s.heap.get? bm = some ob := ok.base _ _ hbo (by unfold isTb; rw [hcls])
 have hg : s.heap.Ns mainGlobals Γ.mg := ns_kp Γ.g ok.kb
 have hgP : mainGlobals ≠ P := fun q => by obtain ⟨o, es', ep, e, hd, _⟩ := hg; rw [q, h1] at e; cases e; cases hd
 have hbP : bm ≠ P := fun q => by rw [q, h1] at hbo'; cases hbo'; cases hcls
 rw [makeFunction_eq]
 simp only [List.zip_nil_right, List.filterMap_nil, List.isEmpty_nil, if_true, pure_bind]
 unfold makeTail
 rw [hcl, G.globals]
 refine wpAny_bind (wpAny_pure ?_)
 dsimp only [List.isEmpty_nil, if_true]
 refine wpAny_bind (wpAny_pure ?_)
 rcases hall _ he with hnf | ⟨c', o, vs, t, hf, e2, e3, e4, e5⟩
 ·refine wpAny_bind (wpAny_functionCodeX hcode (C'.code h1 htr) (C'.tab h1) hnf fun c' h' tk hx hge hlt _ hrec htb htb' => ?_)
  obtain ⟨ok', kp'⟩ := qv9 (tk := tk) ok hT h1 htr hnf hes hall hx htb.2 (by
   obtain ⟨P', _, _, ⟨o, vs, a1, a2, a3, _⟩, _⟩ := htb'
   obtain ⟨c2, o2, vs2, t2, b1, b2, b3, b4⟩ := hrec
   cases b1
   rw [a1] at b2; cases b2
   exact ⟨o, vs2, t2, a1, a2, b3, b4⟩)
  refine wpAny_bind (wpAny_builtinsFor (hg.extBut hx hgP) hbm hne0 (hx _ _ hbP hbo') hcls hdict hdata ?_)
  refine wpAny_bind (wpAny_nsGet (hg.extBut hx hgP) ?_)
  refine wpAny_bind (wpAny_pure (wpAny_newObj_type ?_ (by size_fits)))
  refine h _ c' ((Γ.mg "__name__").getD .none) _ _ (kp'.trans (Kp.push _ _)) (ok'.keeps fun b o e => Heap.get?_push_of_some _ e) ?_ (Heap.get?_push_size _ rfl) (hrec.keeps fun b o e => Heap.get?_push_of_some _ e)
  exact Heap.get?_none_of_le (Nat.le_trans hge (Nat.le_of_lt hlt))
 refine wpAny_bind (wpAny_functionCode_hit hcode (C'.code h1 htr) hf ?_)
 refine wpAny_bind (wpAny_builtinsFor hg hbm hne0 hbo' hcls hdict hdata ?_)
 refine wpAny_bind (wpAny_nsGet hg ?_)
 refine wpAny_bind (wpAny_pure (wpAny_newObj_type ?_ (by size_fits)))
 exact h _ c' ((Γ.mg "__name__").getD .none) _ _ (Kp.push _ _) (ok.keeps fun b o e => Heap.get?_push_of_some _ e) (q00 _) (Heap.get?_push_size _ rfl) ⟨c', o, vs, t, rfl, Heap.get?_push_of_some _ e2, e4, e5⟩
end
noncomputable def twinCode : Array Nat := #[14, 14, 4, 1, 1, 9, 0, 64, 0, 1342177280, 0, 0, 0, 0, 0, 17, 0, 13, 11, 9, 0, 64, 0, 1342177280, 0, 0, 0, 0, 0, 17, 1, 1]
noncomputable def q06 (c : Nat) : Bool := c == 38 || c == 126 || c == 124
theorem qt4 (c : Nat) : (decide (c < 256) && (twinCode.getD (5 + (1 + c / 32)) 0).testBit (c % 32)) = q06 c := by
 by_cases h : c < 256
 ·have : ∀ c : Fin 256, (twinCode.getD (5 + (1 + c.val / 32)) 0).testBit (c.val % 32) = q06 c.val := by decide +kernel
  have := this ⟨c, h⟩
  simp only [h, decide_true, Bool.true_and]
  exact this
 have h2 : q06 c = false := by unfold q06; simp; lia
 rw [h2]; simp [h]
theorem qq3 (c : Nat) : (decide (c < 256) && (twinCode.getD (19 + (1 + c / 32)) 0).testBit (c % 32)) = q06 c := by
 by_cases h : c < 256
 ·have : ∀ c : Fin 256, (twinCode.getD (19 + (1 + c.val / 32)) 0).testBit (c.val % 32) = q06 c.val := by decide +kernel
  have := this ⟨c, h⟩
  simp only [h, decide_true, Bool.true_and]
  exact this
 have h2 : q06 c = false := by unfold q06; simp; lia
 rw [h2]; simp [h]
theorem z98 (c : Nat) (seen : Sre.Seen) : Sre.inSet twinCode c 32 5 true seen = .ok (q06 c, if q06 c then seen.add 9 else (seen.add 9).add 0) := by
 show (if (decide (c < 256) && (twinCode.getD (5 + (1 + c / 32)) 0).testBit (c % 32)) = true then Except.ok (true, seen.add 9) else Sre.inSet twinCode c 31 14 true (seen.add 9)) = _
 rw [qt4]
 cases q06 c <;> rfl
theorem z61 (c : Nat) (seen : Sre.Seen) : Sre.inSet twinCode c 32 19 true seen = .ok (q06 c, if q06 c then seen.add 9 else (seen.add 9).add 0) := by
 show (if (decide (c < 256) && (twinCode.getD (19 + (1 + c / 32)) 0).testBit (c % 32)) = true then Except.ok (true, seen.add 9) else Sre.inSet twinCode c 31 28 true (seen.add 9)) = _
 rw [qq3]
 cases q06 c <;> rfl
noncomputable def q14 (text : Array Nat) (lim : Nat) : Nat → Nat → Option Nat
 | 0, _ => none
 | k + 1, s => if s ≥ lim then none else if q06 (text.getD s 0) then some s else q14 text lim k (s + 1)
theorem q62 (m : Sre.M) (hc : m.code = twinCode) : ∀ (k s : Nat) (seen : Sre.Seen), ∃ seen', Sre.M.admitted m k s seen = .ok (q14 m.text m.lim k s, seen')
 | 0, s, seen => ⟨_, rfl⟩
 | k + 1, s, seen => by
  unfold Sre.M.admitted q14
  by_cases h : s ≥ m.lim
  ·rw [if_pos h, if_pos h]; exact ⟨_, rfl⟩
  rw [if_neg h, if_neg h, hc, show twinCode.size = 32 from rfl, z98]
  cases ht : q06 (m.text.getD s 0) with
  | true => exact ⟨_, rfl⟩
  | false => exact q62 m hc k (s + 1) _
noncomputable def tm0 (text : Array Nat) (p lim : Nat) : Sre.M := { code := twinCode, text, lim, start := p, lastStart := lim, pc := 15, pos := p, handed := p, marks := #[none, none], seen := ({} : Sre.Seen).add 14 }
theorem qk9 (text : Array Nat) (p lim : Nat) (h : ¬ p < lim) : (Sre.forSearch twinCode text 1 p lim false).outcome = none ∧ (Sre.forSearch twinCode text 1 p lim false).answer = some false ∧ (Sre.forSearch twinCode text 1 p lim false).frames = [] := by
 unfold Sre.forSearch
 have : (decide (p > lim) || decide (lim - p < (Sre.header twinCode).1)) = true := by
  show (decide (p > lim) || decide (lim - p < 1)) = true
  simp; lia
 rw [if_pos this]
 exact ⟨rfl, rfl, rfl⟩
theorem qb2 (text : Array Nat) (p lim : Nat) (h : p < lim) : Sre.forSearch twinCode text 1 p lim false = (tm0 text p lim).attemptFrom p true := by
 unfold Sre.forSearch
 have : (decide (p > lim) || decide (lim - p < (Sre.header twinCode).1)) = false := by
  show (decide (p > lim) || decide (lim - p < 1)) = false
  simp; lia
 rw [if_neg (by rw [this]; decide)]
 rfl
noncomputable def tm1 (text : Array Nat) (p lim s : Nat) (seen : Sre.Seen) : Sre.M :=
 { code := twinCode, text, lim, start := s, lastStart := lim, pc := 15, pos := s, handed := s, marks := #[none, none], frames := [{ wait := .nextStart, pc := 15, pos := s, outermost := true }], weight := 1, seen }
theorem qk3 (text : Array Nat) (p lim s : Nat) (h : q14 text lim (lim + 1 - p) p = some s) : ∃ seen, (tm0 text p lim).attemptFrom p true = tm1 text p lim s seen := by
 obtain ⟨seen, e⟩ := q62 (tm0 text p lim) rfl (lim + 1 - p) p (tm0 text p lim).seen
 refine ⟨seen, ?_⟩
 unfold Sre.M.attemptFrom
 rw [if_neg (show ¬ ((!(tm0 text p lim).hasFirstSet) = true) from (show ¬ ((false : Bool) = true) from Bool.false_ne_true)), show (tm0 text p lim).lim = lim from rfl, e, show (tm0 text p lim).text = text from rfl, show (tm0 text p lim).lim = lim from rfl, h]
 rfl
theorem qk4 (text : Array Nat) (p lim : Nat) (h : q14 text lim (lim + 1 - p) p = none) : ∃ seen, (tm0 text p lim).attemptFrom p true = { tm0 text p lim with seen, answer := some false } := by
 obtain ⟨seen, e⟩ := q62 (tm0 text p lim) rfl (lim + 1 - p) p (tm0 text p lim).seen
 refine ⟨seen, ?_⟩
 unfold Sre.M.attemptFrom
 rw [if_neg (show ¬ ((!(tm0 text p lim).hasFirstSet) = true) from (show ¬ ((false : Bool) = true) from Bool.false_ne_true)), show (tm0 text p lim).lim = lim from rfl, e, show (tm0 text p lim).text = text from rfl, show (tm0 text p lim).lim = lim from rfl, h]
 rfl
theorem z51 (text : Array Nat) (p lim s : Nat) (seen : Sre.Seen) (m : Sre.M) (hm : m.code = twinCode) (h1 : m.text = text) (h2 : m.lim = lim) (h3 : m.pos = s) (h4 : m.pc = 17) (h5 : m.answer = none) (h6 : m.outcome = none) (hs : s < lim) (ht : q06 (text.getD s 0) = true) :
  ∃ seen', m.step = { m with seen := seen', pc := 29, pos := s + 1 } := by
 obtain ⟨code, text', lim', start, lastStart, wholeText, mustAdvance, pc, pos, handed, outermost, marks, lastmark, lastindex, loops, inner, frames, weight, answer, seen0, outcome⟩ := m
 dsimp only at hm h1 h2 h3 h4 h5 h6
 subst hm h1 h2 h3 h4 h5 h6
 refine ⟨((seen0.add 13).add 9), ?_⟩
 haveI e0 : Sre.M.step { code := twinCode, text := text', lim := lim', start := start, lastStart := lastStart, wholeText := wholeText, mustAdvance := mustAdvance, pc := 17, pos := pos, handed := handed, outermost := outermost, marks := marks, lastmark := lastmark, lastindex := lastindex, loops := loops, inner := inner, frames := frames, weight := weight, answer := none, seen := seen0, outcome := none } =
   Sre.M.exec { code := twinCode, text := text', lim := lim', start := start, lastStart := lastStart, wholeText := wholeText, mustAdvance := mustAdvance, pc := 17, pos := pos, handed := handed, outermost := outermost, marks := marks, lastmark := lastmark, lastindex := lastindex, loops := loops, inner := inner, frames := frames, weight := weight, answer := none, seen := seen0, outcome := none } := by
  unfold Sre.M.step
  rfl
 rw [e0]
 unfold Sre.M.exec
 show (if pos ≥ lim' then _ else match Sre.accepts twinCode 17 (text'.getD pos 0) (seen0.add 13) with | .error why => _ | .ok (false, seen) => _ | .ok (true, seen) => _) = _
 rw [if_neg (by lia)]
 haveI : Sre.accepts twinCode 17 (text'.getD pos 0) (seen0.add 13) = .ok (true, (seen0.add 13).add 9) := by
  show Sre.inSet twinCode (text'.getD pos 0) 32 19 true (seen0.add 13) = _
  rw [z61, ht]; rfl
 rw [this]
 rfl
theorem qq2 (text : Array Nat) (p lim s : Nat) (seen : Sre.Seen) (hs : s < lim) (ht : q06 (text.getD s 0) = true) : ∃ m, (tm1 text p lim s seen).runFor 4 = m ∧ m.outcome = none ∧ ∃ m', m.runFor 4 = m' ∧ m'.outcome = some .matched ∧ m'.start = s ∧ m'.handed = s + 1 ∧ m'.marks = #[some s, some (s + 1)] ∧ m'.lastmark = 1 ∧ m'.lastindex = 1 := by
 refine ⟨_, rfl, ?_⟩
 haveI e1 : (tm1 text p lim s seen).step = { tm1 text p lim s seen with marks := #[some s, none], lastmark := 0, pc := 17, seen := seen.add 17 } := rfl
 obtain ⟨seen2, e2⟩ := z51 text p lim s seen { tm1 text p lim s seen with marks := #[some s, none], lastmark := 0, pc := 17, seen := seen.add 17 } rfl rfl rfl rfl rfl rfl rfl hs ht
 haveI e4 : (tm1 text p lim s seen).runFor 4 = { tm1 text p lim s seen with marks := #[some s, some (s + 1)], lastmark := 1, lastindex := 1, pc := 31, pos := s + 1, handed := s + 1, seen := (seen2.add 17).add 1, answer := some true } := by
  show ((((tm1 text p lim s seen).step).runFor 3)) = _
  rw [e1]
  show (Sre.M.step _).runFor 2 = _
  rw [e2]
  kernel_rfl
 rw [e4]
 exact ⟨rfl, _, rfl, rfl, rfl, rfl, rfl, rfl, rfl⟩
end Mine
namespace Mine
open Builtin.Re
theorem q67 {text : Array Nat} {lim k p s : Nat} (h : q14 text lim k p = some s) : p ≤ s ∧ s < lim ∧ q06 (text.getD s 0) = true ∧ ∀ j, p ≤ j → j < s → q06 (text.getD j 0) = false := by
 induction k generalizing p s with
 | zero => nomatch h
 | succ k ih =>
  unfold q14 at h
  split at h
  ·exact absurd h.symm (Option.some_ne_none _)
  split at h
  ·cases h; rename_i h1 h2; exact ⟨Nat.le_refl _, by lia, h2, fun j a b => by lia⟩
  rename_i h1 h2
  obtain ⟨a, b, c, d⟩ := ih h
  refine ⟨by lia, b, c, fun j e f => ?_⟩
  by_cases q : j = p
  ·rw [q]; simpa using h2
  exact d j (by lia) f
theorem q68 {text : Array Nat} {lim : Nat} : ∀ {k p : Nat}, lim ≤ p + k → q14 text lim k p = none → ∀ j, p ≤ j → j < lim → q06 (text.getD j 0) = false
 | 0, p, hk, _, j, a, b => by lia
 | k + 1, p, hk, h, j, a, b => by
  unfold q14 at h
  split at h
  ·lia
  split at h
  ·nomatch h
  rename_i h1 h2
  by_cases q : j = p
  ·rw [q]; simpa using h2
  exact q68 (k := k) (p := p + 1) (by lia) h j (by lia) b
section
variable {M : Model} {A : Around} {E : Value → Shared → Prop} {s : Shared}
theorem q82 {f : Nat → Bool} {g : Nat → String} {Q : Unit → Shared → Prop} (h : Q () s) : ∀ (l : List Nat), wpAny M A (forIn l () fun i _ => do
  if f i = true then do
   rule (g i)
   pure (ForInStep.yield ())
  else pure (ForInStep.yield ())) Q E s
 | [] => by dsimp only [List.forIn_nil]; exact wpAny_pure h
 | i :: r => by
  rw [List.forIn_cons]
  refine wpAny_bind ?_
  split
  ·exact wpAny_bind (wpAny_rule (wpAny_pure (q82 h r)))
  exact wpAny_pure (q82 h r)
theorem q39 (n : Nat) (m : Sre.M) : reDrive (n + 1) m = (if (m.runFor 4).outcome.isSome = true then pure (m.runFor 4) else (do rule "sre.turn"; reDrive n (m.runFor 4))) := rfl
theorem qy3 {m m1 m2 : Sre.M} {Q : Sre.M → Shared → Prop} (h1 : m.runFor 4 = m1) (n1 : m1.outcome = none) (h2 : m1.runFor 4 = m2) (n2 : m2.outcome.isSome = true) (h : Q m2 s) : wpAny M A (reDrive (2 ^ 64) m) Q E s := by
 rw [show (2 : Nat) ^ 64 = 18446744073709551614 + 1 + 1 from rfl, q39, h1, n1, if_neg (by decide)]
 refine wpAny_bind (wpAny_rule ?_)
 rw [q39, h2, n2, if_pos rfl]
 exact wpAny_pure h
theorem qj4 {m m1 : Sre.M} {Q : Sre.M → Shared → Prop} (h1 : m.runFor 4 = m1) (n1 : m1.outcome.isSome = true) (h : Q m1 s) : wpAny M A (reDrive (2 ^ 64) m) Q E s := by
 rw [show (2 : Nat) ^ 64 = 18446744073709551614 + 1 + 1 from rfl, q39, h1, n1, if_pos rfl]
 exact wpAny_pure h
theorem toEnd {m m2 : Sre.M} {Q : Option Sre.M → Shared → Prop} (hd : ∀ Q' : Sre.M → Shared → Prop, Q' m2 s → wpAny M A (reDrive (2 ^ 64) m) Q' E s)
  (h : (m2.outcome = some .matched ∧ Q (some m2) s) ∨ (m2.outcome = some .failed ∧ Q none s)) : wpAny M A (reRunToEnd m) Q E s := by
 unfold reRunToEnd
 refine wpAny_bind (hd _ ?_)
 refine wpAny_bind (q82 (f := fun i => m2.seen.has i) (g := fun i => Sre.names.getD i "") ?_ _)
 rcases h with ⟨e, h⟩ | ⟨e, h⟩
 ·rw [e]; exact wpAny_pure h
 rw [e]; exact wpAny_pure h
theorem qw0 {t : ReTarget} {p i : Nat} {Q : Option Sre.M → Shared → Prop} (hc : t.code = twinCode) (hg : t.groups = 1) (hn : q14 t.text t.lim (t.lim + 1 - p) p = some i)
  (h : ∀ m : Sre.M, m.start = i → m.handed = i + 1 → m.marks = #[some i, some (i + 1)] → m.lastmark = 1 → m.lastindex = 1 → Q (some m) s) : wpAny M A (reNextFound t p false) Q E s := by
 obtain ⟨a, b, c, _⟩ := q67 hn
 unfold reNextFound
 rw [hc, hg, qb2 _ _ _ (by lia)]
 obtain ⟨seen, e⟩ := qk3 t.text p t.lim i hn
 rw [e]
 obtain ⟨m1, h1, n1, m2, h2, n2, r1, r2, r3, r4, r5⟩ := qq2 t.text p t.lim i seen b c
 exact toEnd (m2 := m2) (fun Q' hq => qy3 h1 n1 h2 (by rw [n2]; rfl) hq) (.inl ⟨n2, h m2 r1 r2 r3 r4 r5⟩)
theorem qw1 {t : ReTarget} {p : Nat} {Q : Option Sre.M → Shared → Prop} (hc : t.code = twinCode) (hg : t.groups = 1) (hn : q14 t.text t.lim (t.lim + 1 - p) p = none) (h : Q none s) : wpAny M A (reNextFound t p false) Q E s := by
 unfold reNextFound
 rw [hc, hg]
 by_cases hp : p < t.lim
 ·rw [qb2 _ _ _ hp]
  obtain ⟨seen, e⟩ := qk4 t.text p t.lim hn
  rw [e]
  refine toEnd (m2 := { tm0 t.text p t.lim with seen, answer := some false, outcome := some .failed }) (fun Q' hq => qj4 (by rfl) (by rfl) hq) (.inr ⟨rfl, h⟩)
 obtain ⟨e1, e2, e3⟩ := qk9 t.text p t.lim hp
 generalize Sre.forSearch twinCode t.text 1 p t.lim false = m at e1 e2 e3
 haveI : m.runFor 4 = { m with outcome := some .failed } := by
  obtain ⟨code, text', lim', start, lastStart, wholeText, mustAdvance, pc, pos, handed, outermost, marks, lastmark, lastindex, loops, inner, frames, weight, answer, seen0, outcome⟩ := m
  dsimp only at e1 e2 e3
  subst e1 e2 e3
  rfl
 exact toEnd (m2 := { m with outcome := some .failed }) (fun Q' hq => qj4 this (by rfl) hq) (.inr ⟨rfl, h⟩)
end
end Mine
namespace Mine
open Builtin.Re
theorem qi4 : PlainAttrs "re.Pattern" := ⟨⟨"object.__getattribute__", by rw [typeLookup_type, builtinLookup_eq_fast]; kernel_rfl, by decide +kernel⟩, by rw [typeLookup_type, builtinLookup_eq_fast]; kernel_rfl⟩
theorem qr6 : PlainAttrs "re.Match" := ⟨⟨"object.__getattribute__", by rw [typeLookup_type, builtinLookup_eq_fast]; kernel_rfl, by decide +kernel⟩, by rw [typeLookup_type, builtinLookup_eq_fast]; kernel_rfl⟩
theorem slot_resub : Slot "re.Pattern" "sub" "re.Pattern.sub" :=
 .of (owner := "re.Pattern") (n := "sub") (by rw [typeLookup_type, builtinLookup_eq_fast]; kernel_rfl) (by decide +kernel) (by decide +kernel) (by decide +kernel)
  (by first | exact .inl (by decide +kernel) | exact .inr (by decide +kernel)) (by rw [isSubtype_type]; kernel_rfl)
theorem qq1 : typeOf (.builtin "re.Pattern.sub") = pure (.type "method_descriptor") := by show builtinType _ = _; rw [builtinType_eq_fast]; kernel_rfl
theorem qn0 : entryFor table "re.Pattern.sub" = some Builtin.«re.Pattern.sub» := entryFor_of_tree (by kernel_rfl)
theorem qs8 (a b c : Value) : argsOk "re.Pattern.sub" ⟨[a, b, c], []⟩ := by unfold argsOk; kernel_rfl
theorem q89 : Slot "re.Match" "group" "re.Match.group" :=
 .of (owner := "re.Match") (n := "group") (by rw [typeLookup_type, builtinLookup_eq_fast]; kernel_rfl) (by decide +kernel) (by decide +kernel) (by decide +kernel)
  (by first | exact .inl (by decide +kernel) | exact .inr (by decide +kernel)) (by rw [isSubtype_type]; kernel_rfl)
theorem qh3 : typeOf (.builtin "re.Match.group") = pure (.type "method_descriptor") := by show builtinType _ = _; rw [builtinType_eq_fast]; kernel_rfl
theorem qg4 : entryFor table "re.Match.group" = some Builtin.«re.Match.group» := entryFor_of_tree (by kernel_rfl)
theorem qk5 (a b : Value) : argsOk "re.Match.group" ⟨[a, b], []⟩ := by unfold argsOk; kernel_rfl
theorem qc6 : entryFor table "re.Pattern.sub.loop" = some Builtin.«re.Pattern.sub.loop» := entryFor_of_tree (by kernel_rfl)
theorem qb7 : plainId "re.Pattern.sub.loop" = true := by decide +kernel
noncomputable def qd1 (h : Heap) (f pat : Addr) (text : Str) (i : Nat) : Prop :=
 ∃ u tp a b, h.get? f = some { cls := .type "re.Match", data := .fields #[.str text u, .ref pat, a, b, rawInt 1, .ref tp] } ∧ h.get? tp = some { cls := .type "tuple", data := .seq #[rawInt i, rawInt (i + 1 : Nat), rawInt i, rawInt (i + 1 : Nat)] }
section
variable {prog : Program} {w : World} {A : Around} {E : Value → Shared → Prop} {s : Shared}
theorem qn5 {f pat : Addr} {text : Str} {i : Nat} {t : Tok} {Q : Value → Shared → Prop} (hm : qd1 s.heap f pat text i) (h : ∀ u, Q (.str ⟨text.cps.extract i (i + 1)⟩ u) { s with toks := s.toks + 1 }) :
  wpAny (model prog w) A (call (.builtin "re.Match.group") [.ref f, .int 1 t]) Q E s := by
 obtain ⟨u, tp, a, b, h1, h2⟩ := hm
 refine wpAny_call_entry q89 ⟨_, h1, rfl⟩ qg4 ?_ (qk5 _ _)
 unfold Builtin.«re.Match.group»
 refine wpAny_bind (wpAny_pure ?_)
 dsimp only
 unfold reFound
 refine wpAny_bind (wpAny_bind (wpAny_fieldsOf h1 rfl (wpAny_bind ?_)))
 unfold reRawItems
 refine wpAny_bind (wpAny_seqItems h2 rfl (wpAny_pure (wpAny_pure ?_)))
 haveI hmap : Array.map reRawOf ((some #[rawInt (i : Int), rawInt ((i + 1 : Nat) : Int), rawInt (i : Int), rawInt ((i + 1 : Nat) : Int)]).getD #[]) = #[(i : Int), ((i + 1 : Nat) : Int), (i : Int), ((i + 1 : Nat) : Int)] := by
  simp [reRawOf, rawInt]
 rw [hmap]
 refine wpAny_bind (wpAny_bind ?_)
 refine wpAny_of_eq (a := some 1) rfl ?_
 refine wpAny_bind (m := asIndex _) (wpAny_of_eq (a := 1) rfl ?_)
 refine wpAny_ite_split (fun hab => absurd hab (show ¬ ((decide ((1 : Int) < 0) || decide (2 * (1 : Int) ≥ ((4 : Nat) : Int))) = true) by decide)) (fun _ => ?_)
 refine wpAny_pure ?_
 refine wpAny_bind ?_
 show wpAny _ _ (reGroupText ⟨#[.str text u, .ref pat, a, b, rawInt 1, .ref tp], #[(i : Int), ((i + 1 : Nat) : Int), (i : Int), ((i + 1 : Nat) : Int)]⟩ 1 .none) _ _ _
 unfold reGroupText
 show wpAny _ _ (if (decide ((i : Int) < 0) || decide (((i + 1 : Nat) : Int) < 0)) = true then _ else _) _ _ _
 rw [if_neg (by simp; omega)]
 refine wpAny_bind (m := reTextOf _) (wpAny_of_eq (a := (text.cps, 0)) rfl ?_)
 show wpAny _ _ (mkStr ⟨text.cps.extract i (i + 1)⟩) _ _ _
 refine wpAny_mkStr (wpAny_pure ⟨_, rfl, h _⟩) (by simp only [Str.length, Array.size_extract, sizeLine]; omega)
end
end Mine
namespace Mine
open Builtin.Re
noncomputable def q31 (p1 p2 p3 p4 p5 p6 p7 p8 : Pos) : Expr :=
 .BinOp (.Constant (.str (Str.ofString "\\")) 0 p1) .Add (.BoolOp .Or [.Call (.Attribute (.Name (Str.ofString "_m") p2) (Str.ofString "group") p3) [.Constant (.int 1) 0 p4] [] p5, .Constant (.str (Str.ofString "")) 0 p6] p7) p8
section
variable {Γ : Cx} {A : Around} {s : Shared}
theorem qz5 {n : Nat} {E : Value → Shared → Prop} {Q : Value → Shared → Prop} {p1 p2 p3 p4 p5 p6 p7 p8 : Pos} {f fo pat c' : Addr} {qual : Str} {params : Arguments} {scope : Scope} {pm : Value} {text : Str} {i c : Nat} (ok : Γ.Ok s) (Rm : Room Γ A (n + 1)) (hline : (p3.endLine == p5.line) = true)
  (hf : s.heap.get? f = some (z40 "<lambda>" qual params (q31 p1 p2 p3 p4 p5 p6 p7 p8) scope pm c')) (hcd : s.heap.CodeRec (.ref c') qual) (hsc : scope.names = [(Str.ofString "_m", .local)]) (hk : scope.kind = .function) (hco : scope.isCoroutine = false) (hgen : scope.isGenerator = false)
  (hbind : ∀ a, bindArgs (lamFn "<lambda>" qual params (q31 p1 p2 p3 p4 p5 p6 p7 p8) scope pm c') ⟨[a], []⟩ = pure [(Str.ofString "_m", a)]) (hm : qd1 s.heap fo pat text i) (hc : text.cps[i]? = some c)
  (h : ∀ h' u tk, (∀ b o, s.heap.get? b = some o → h'.get? b = some o) → Q (.str (S [92, c]) u) { s with heap := h', toks := tk }) : wpAny (model Γ.prog Γ.w) A (call (.ref f) [.ref fo]) Q E s := by
 refine wpAny_call (kla_callFunE Rm.dq hf rfl hco hgen rfl hcd ?_)
 rw [hbind]
 refine wpAny_pure (wpAny_newFunctionEnv (by show ∀ x ∈ scope.names, x.2 ≠ .cell; rw [hsc]; decide) (fun y hy => ?_) (fun h₁ hns hsb => ⟨(q19 Γ.nolimit ok.kb).fresh _ hsb, ?_⟩) hk)
 ·show scope.names.lookup _ = _
  rw [hsc]
  simp only [List.mem_cons, List.not_mem_nil, or_false] at hy
  rcases hy with rfl; rfl
 haveI keep : ∀ b o, s.heap.get? b = some o → h₁.get? b = some o := fun b o e => hsb.extBut b o (Nat.ne_of_lt (Heap.lt_size e)) (Heap.get?_push_of_some _ e)
 generalize henv : newEnv _ _ _ _ _ _ _ _ _ = env at *
 refine kla_codeExpr ?_
 haveI ek : env.scope.kind = .function := by rw [← henv]; exact hk
 haveI ekm : env.kindOf (Str.ofString "_m") = some .local := by rw [← henv]; show scope.names.lookup _ = _; rw [hsc]; rfl
 haveI elo : env.locals = s.heap.objs.size := by rw [← henv]; rfl
 have hm1 : qd1 h₁ fo pat text i := by
  obtain ⟨u, tp, a, b, e1, e2⟩ := hm
  exact ⟨u, tp, a, b, keep _ _ e1, keep _ _ e2⟩
 unfold q31
 refine wpAny_BinOp (q03 ?_)
 refine wpAny_Or2 ?_
 refine wpAny_Call_method_lateS (by rfl) (by rfl) hline (wpAny_Name (wpAny_loadName_local ek ekm (by rw [elo]; exact hns) (v := .ref fo) (by rfl) ?_) (by decide))
 obtain ⟨u, tp, a, b, e1, e2⟩ := id hm1
 refine ⟨"re.Match", "re.Match.group", qr6, q89, qh3, ⟨_, e1, rfl⟩, fun x hx => ?_, ?_⟩
 ·cases hx; exact ⟨_, e1, rfl⟩
 refine Calls.callWith_builtin (by rfl) (Calls.evalArgs_plain ?_)
 refine wpAny_items_cons (wpAny_Constant_int (wpAny_items_nil ?_)) (by rfl)
 refine qn5 (s := { s with heap := h₁, toks := _ }) hm1 fun u1 => ?_
 have hx : text.cps.extract i (i + 1) = #[c] := by
  obtain ⟨hi, hc'⟩ := Array.getElem?_eq_some_iff.mp hc
  apply Array.ext
  ·simp; lia
  intro j h1 h2; simp at h2; subst h2; simp [hc']
 rw [hx]
 refine PySem.P.truthy_str (by simp [Str.length]) ?_
 have hl1 : ((Str.length ⟨#[c]⟩ : Int) != 0) = true := by simp [Str.length]
 rw [hl1, if_pos rfl]
 refine PyProof.Rows.add_str (fun t' tk => ?_) (by show (Str.ofString "\\").cps.size + 1 ≤ sizeLine; decide)
 haveI e9 : (Str.ofString "\\" ++ (⟨#[c]⟩ : Str)) = S [92, c] := by
  show Str.append _ _ = _
  rfl
 rw [e9]
 exact h h₁ _ _ keep
end
end Mine
namespace Mine
open Builtin.Re
noncomputable def twinT (l : List Nat) : List Nat := l.flatMap fun c => if q06 c then [92, c] else [c]
theorem qa8 (a b : List Nat) : twinT (a ++ b) = twinT a ++ twinT b := List.flatMap_append ..
theorem qa7 {l : List Nat} (h : ∀ c ∈ l, q06 c = false) : twinT l = l := by
 induction l with
 | nil => rfl
 | cons c l ih =>
  show (if q06 c then [92, c] else [c]) ++ twinT l = _
  rw [h c (.head _), ih fun d m => h d (.tail _ m)]; rfl
theorem qh6 (l : List Nat) : (twinT l).length ≤ 2 * l.length := by
 induction l with
 | nil => exact Nat.le_refl _
 | cons c l ih =>
  show ((if q06 c then [92, c] else [c]) ++ twinT l).length ≤ _
  dsimp only [List.length_append, List.length_cons]
  split <;> simp <;> lia
noncomputable def PatAt (h : Heap) (pat : Addr) : Prop := ∃ o a1 t1 fl tf ct, h.get? pat = some o ∧ o.cls = .type "re.Pattern" ∧ o.dict = none ∧ o.data = .fields #[.str a1 t1, .int fl tf, rawInt 1, .none, .none, .ref ct, rawInt 0] ∧
 ∃ n, h.get? ct = some { cls := .type "tuple", data := .seq (twinCode.map fun k : Nat => rawInt (k : Int)) n }
section
variable {prog : Program} {w : World} {A : Around} {E : Value → Shared → Prop} {s : Shared}
theorem q87 {pat : Addr} {text : Str} {u : Tok} {Q : ReTarget → Shared → Prop} (hp : PatAt s.heap pat) (h : Q { pattern := .ref pat, string := .str text u, code := twinCode, text := text.cps, kind := 0, groups := 1, pos := 0, lim := text.cps.size } s) :
  wpAny (model prog w) A (reWholeTarget (.ref pat) (.str text u)) Q E s := by
 obtain ⟨o, a1, t1, fl, tf, ct, ho, hc, hdn, hd, n, hct⟩ := hp
 unfold reWholeTarget
 refine wpAny_bind (wpAny_fieldsOf ho hd (wpAny_bind (m := reTextOf _) (wpAny_of_eq (a := (text.cps, 0)) rfl ?_)))
 dsimp only
 refine wpAny_ite_split (fun hab => absurd hab (show ¬ (((0 : Nat) == 0 && (0 : Nat) == 1) = true) by decide)) (fun _ => ?_)
 refine wpAny_ite_split (fun hab => absurd hab (show ¬ (((0 : Nat) == 1 && (0 : Nat) == 0) = true) by decide)) (fun _ => ?_)
 refine wpAny_bind (m := reNoCollectionInside _ _) (wpAny_of_eq (a := ()) rfl ?_)
 refine wpAny_bind ?_
 show wpAny _ _ (reRawItems (.ref ct)) _ _ _
 unfold reRawItems
 refine wpAny_bind (wpAny_seqItems hct rfl (wpAny_pure ?_))
 haveI hcode : (Array.map reRawOf ((some (twinCode.map fun k : Nat => rawInt (k : Int))).getD #[])).map (·.toNat) = twinCode := by
  simp [twinCode, reRawOf, rawInt]
 rw [hcode]
 exact wpAny_pure h
theorem PatAt.keep {h h' : Heap} {pat : Addr} (x : PatAt h pat) (k : ∀ b o, h.get? b = some o → isLo o = false → h'.get? b = some o) : PatAt h' pat := by
 obtain ⟨o, a1, t1, fl, tf, ct, ho, hc, hdn, hd, n, hct⟩ := x
 exact ⟨o, a1, t1, fl, tf, ct, k _ _ ho (q07 hc hd), hc, hdn, hd, n, k _ _ hct rfl⟩
theorem qw2 {pat : Addr} {text : Str} {u : Tok} {lim i : Nat} {m : Sre.M} {Q : Value → Shared → Prop} (h1 : m.start = i) (h2 : m.handed = i + 1) (h3 : m.marks = #[some i, some (i + 1)]) (h4 : m.lastmark = 1) (h5 : m.lastindex = 1)
  (h : ∀ f h', (∀ b o, s.heap.get? b = some o → h'.get? b = some o) → qd1 h' f pat text i → Q (.ref f) { s with heap := h' }) : wpAny (model prog w) A (reNewMatch (.ref pat) (.str text u) 1 0 lim m) Q E s := by
 unfold reNewMatch
 haveI e1 : (List.range 1) = [0] := rfl
 rw [e1, h3, h4, h5, h1, h2]
 refine wpAny_ite_split (fun hab => absurd hab ?_) (fun _ => ?_)
 ·simp
 refine wpAny_bind ?_
 refine wpAny_newTuple ?_ (by simp [sizeLine])
 refine wpAny_newObj_type ?_ (by size_fits)
 refine h _ _ (fun b o e => Heap.get?_push_of_some _ (Heap.get?_push_of_some _ e)) ⟨u, s.heap.objs.size, _, _, Heap.get?_push_size _ rfl, ?_⟩
 refine Heap.get?_push_of_some _ (Heap.get?_push_size _ ?_) |>.trans ?_
 ·rfl
 rfl
end
end Mine
namespace Mine
open Builtin.Re
theorem q85 (ts : List (List Nat)) (x : List Nat) : jn [] (ts ++ [x]) = jn [] ts ++ x := by
 induction ts with
 | nil => simp [jn]
 | cons a ts ih =>
  cases ts with
  | nil => simp [jn]
  | cons b ts =>
   show jn [] (a :: b :: (ts ++ [x])) = _
   rw [show jn [] (a :: b :: (ts ++ [x])) = a ++ [] ++ jn [] (b :: (ts ++ [x])) from rfl, show b :: (ts ++ [x]) = (b :: ts) ++ [x] from rfl, ih]
   simp [jn]
section
variable {Γ : Cx} {A : Around}
noncomputable def z44 (Γ : Cx) (A : Around) (repl : Value) (pat : Addr) (text : Str) (h0 : Heap) (L : Addr) : Prop :=
 ∀ (s' : Shared) (E' : Value → Shared → Prop) (Q' : Value → Shared → Prop) (fo : Addr) (i c : Nat), (∀ b o, b ≠ L → h0.get? b = some o → s'.heap.get? b = some o) → Γ.Ok s' → qd1 s'.heap fo pat text i → text.cps[i]? = some c →
  (∀ h' u tk, (∀ b o, s'.heap.get? b = some o → h'.get? b = some o) → Q' (.str (S [92, c]) u) { s' with heap := h', toks := tk }) → wpAny (model Γ.prog Γ.w) A (call repl [.ref fo]) Q' E' s'
theorem q30 (l : List (Str × Tok)) (x : Str) (u : Tok) : strValues (l ++ [(x, u)]) = strValues l ++ [.str x u] := by simp [strValues]
theorem qb5 {prog : Program} {w : World} {E : Value → Shared → Prop} {s : Shared} {L : Addr} {acc : Array Value} {x : Value} {Q : Unit → Shared → Prop} (hL : ∃ j, s.heap.get? L = some { cls := .type "list", dict := none, data := .seq acc j, slots := #[] }) (hz : acc.size ≤ 2 ^ 24)
  (h : ∀ h', Heap.SameBut L s.heap h' → (∃ j, h'.get? L = some { cls := .type "list", dict := none, data := .seq (acc.push x) j, slots := #[] }) → Q () { s with heap := h' }) : wpAny (model prog w) A (updateSeq L fun z => z.push x) Q E s := by
 obtain ⟨j, e⟩ := hL
 refine wpAny_updateSeq e rfl (h _ (Heap.SameBut.update ..) ⟨_, Heap.get?_update_self _ e rfl⟩) (by simp only [sizeLine]; lia) (by show (acc.push x).size ≤ sizeLine + 1; rw [Array.size_push]; simp only [sizeLine]; lia)
theorem qv8 {s : Shared} {L : Addr} {acc : Array Value} {h' : Heap} {tk : Nat} (ok : Γ.Ok s) (hL0 : Γ.hB.get? L = none) (hLs : L ∉ Γ.stk) (hL : ∃ j, s.heap.get? L = some { cls := .type "list", dict := none, data := .seq acc j, slots := #[] }) (hs : Heap.SameBut L s.heap h') : Γ.Ok { s with heap := h', toks := tk } := by
 obtain ⟨j, e⟩ := hL
 refine ok.fk (M := [L]) (FK.same hs (.head _)) (fun a ha => by simp only [List.mem_singleton] at ha; subst ha; exact hL0) (fun a o e' t m => ?_) (fun a ha ⟨o, e', f'⟩ => ⟨o, (hs.2 _ fun q => hLs (q ▸ ha)).trans e', f'⟩)
 simp only [List.mem_singleton] at m; subst m
 rw [e] at e'; cases e'; cases t
theorem z05 {pat L : Addr} {text : List Nat} {u : Tok} {repl : Value} {h0 : Heap} {R : Result → Shared → Prop} (hz : text.length ≤ 2 ^ 20) (hL0 : Γ.hB.get? L = none) (hr : z44 Γ A.in1 repl pat (S text) h0 L) (hLs : L ∉ Γ.stk) :
  ∀ (k p : Nat) (n : Int) (s : Shared) (acc : Array Value) (l : List (Str × Tok)) (ts : List (List Nat)), text.length - p ≤ k → p ≤ text.length → Γ.Ok s → PatAt s.heap pat → (∃ j, s.heap.get? L = some { cls := .type "list", dict := none, data := .seq acc j, slots := #[] }) → acc.toList = strValues l → l.map (·.1) = ts.map S → jn [] ts = twinT (text.take p) → ts.length ≤ 2 * p →
   (∀ b o, b ≠ L → h0.get? b = some o → s.heap.get? b = some o) →
   (∀ h' tk v, (∀ b o, b ≠ L → s.heap.get? b = some o → h'.get? b = some o) → R (.ok (.ret (.str (S (twinT text)) v))) { s with heap := h', toks := tk }) →
   codeAny (model Γ.prog Γ.w) A (.builtin "re.Pattern.sub.loop" ⟨[.ref pat, .str (S text) u, repl, rawInt 1, rawInt 0, rawInt n, rawInt p, rawInt p, .bool false, .ref L, .bool false], []⟩) R s := by
 have hsz : (S text).cps.size = text.length := by simp [S]
 have hget : ∀ j : Nat, (S text).cps[j]? = text[j]? := fun j => by simp [S]
 have hgd : ∀ j : Nat, (S text).cps.getD j 0 = text.getD j 0 := fun j => by rw [Array.getD_eq_getD_getElem?, hget, List.getD_eq_getElem?_getD]
 have hext : ∀ a b : Nat, (⟨(S text).cps.extract a b⟩ : Str) = S ((text.take b).drop a) := fun a b => by
  simp [S, List.extract_eq_take_drop, List.drop_take]
 haveI size_of : ∀ {acc : Array Value} {l : List (Str × Tok)} {ts : List (List Nat)}, acc.toList = strValues l → l.map (·.1) = ts.map S → acc.size = ts.length := fun {acc l ts} h1 h2 => by
  haveI e1 := congrArg List.length h1
  haveI e2 := congrArg List.length h2
  simp only [Array.length_toList, strValues, List.length_map] at e1 e2
  lia
 intro k
 induction k using Nat.strongRecOn with
 | ind k ih =>
 intro p n s acc l ts hk hp ok hpat hL hacc hl hj htl h0 hR
 haveI hasz := size_of hacc hl
 refine codeAny_builtin qc6 ?_
 rw [Around.under_plainId qb7 _]
 unfold Builtin.«re.Pattern.sub.loop»
 refine wpAny_bind (q87 hpat ?_)
 dsimp only [rawInt]
 refine wpAny_ite_split (fun hab => absurd hab (by decide)) (fun _ => ?_)
 refine wpAny_bind ?_
 haveI hc0 : (((0 : Int) != 0) && decide (n ≥ 0)) = false := rfl
 rw [hc0]
 dsimp only [Bool.false_eq_true, if_false, Int.toNat_natCast]
 haveI hpatL : ∀ {h' : Heap}, (∀ b o, b ≠ L → s.heap.get? b = some o → h'.get? b = some o) → PatAt h' (pat) := fun {h'} kk => by
  obtain ⟨o, a1, t1, fl, tf, ct, ho, hc, hdn, hd, nn, hct⟩ := hpat
  obtain ⟨j, e⟩ := hL
  refine ⟨o, a1, t1, fl, tf, ct, kk _ _ (fun q => ?_) ho, hc, hdn, hd, nn, kk _ _ (fun q => ?_) hct⟩
  ·rw [q, e] at ho; cases ho; cases hd
  rw [q, e] at hct; have := congrArg Obj.cls (Option.some.inj hct); simp at this
 cases hn : q14 (S text).cps (S text).cps.size ((S text).cps.size + 1 - p) p with
 | none =>
  refine qw1 rfl rfl hn ?_
  dsimp only
  haveI hrest : twinT (text.drop p) = text.drop p := qa7 fun c m => by
   obtain ⟨j, hj1, rfl⟩ := List.getElem_of_mem m
   rw [List.getElem_drop]
   have hj2 : p + j < text.length := by simp at hj1; lia
   have := q68 (by rw [hsz]; lia) hn (p + j) (by lia) (by rw [hsz]; lia)
   rw [hgd, List.getD_eq_getElem?_getD, List.getElem?_eq_getElem hj2] at this
   exact this
  have hall : twinT text = jn [] ts ++ text.drop p := by
   rw [hj, ← hrest, ← qa8, List.take_append_drop]
  have fin : ∀ h' tk acc' l' (ts' : List (List Nat)), (∃ j, h'.get? L = some { cls := .type "list", dict := none, data := .seq acc' j, slots := #[] }) → acc'.toList = strValues l' → l'.map (·.1) = ts'.map S → jn [] ts' = twinT text → ts'.length ≤ 2 * p + 1 → (∀ b o, b ≠ L → s.heap.get? b = some o → h'.get? b = some o) →
    wpAny (model Γ.prog Γ.w) A.in1 (do
     let joiner ← reSlice (S text).cps 0 0 0
     let items ← seqItems? (.ref L)
     if (items.getD #[]).isEmpty then (do
      let x ← pure joiner
      ret x) else (do
      let x ← call (.builtin (if ((0 : Nat) == 0) then "str.join" else "bytes.join")) [joiner, .ref L]
      ret x)) (fun fin s' => match fin with | .done f => R (.ok f) s' | .again c' => c'.quiet = true ∧ codeAny (model Γ.prog Γ.w) A c' R s') (fun e s' => R (.error e) s') { s with heap := h', toks := tk } := by
   intro h' tk acc' l' ts' hL' ha' hl' hj' htl' hk'
   obtain ⟨j', ej'⟩ := hL'
   have e0 : (⟨(S text).cps.extract 0 0⟩ : Str) = S [] := by rw [hext]; rfl
   refine wpAny_bind ?_
   show wpAny _ _ (mkStr ⟨(S text).cps.extract 0 0⟩) _ _ _
   rw [e0]
   refine wpAny_mkStr ?_ (by show 0 ≤ sizeLine; lia)
   refine wpAny_bind (wpAny_seqItems ej' rfl ?_)
   haveI hsz' := size_of ha' hl'
   by_cases hemp : acc'.isEmpty = true
   ·haveI : ts' = [] := by
     haveI : acc'.size = 0 := by simpa [Array.isEmpty] using hemp
     exact List.length_eq_zero_iff.mp (by lia)
    subst this
    rw [show ((some acc').getD #[]) = acc' from rfl, if_pos hemp]
    refine wpAny_pure ?_
    haveI : S [] = S (twinT text) := hj' ▸ rfl
    rw [this]
    exact hR h' _ _ hk'
   rw [show ((some acc').getD #[]) = acc' from rfl, if_neg hemp]
   have hda : Data.seq acc' j' = Data.seq (strValues l').toArray j' := by rw [← ha']
   refine wpAny_bind (SC.join (x := S []) (D := L) (l := l') (texts := ts'.map S) ⟨_, ej', rfl, j', hda⟩ hl' ?_ fun t' k' => ?_)
   ·unfold JoinOk
    rw [StrLaws.joinTotal]
    have h1 : ((ts'.map S).map (·.length)) = ts'.map List.length := by
     rw [List.map_map]; exact List.map_congr_left fun a _ => S_len a
    rw [h1, List.length_map, S_len]
    have hs : (ts'.map List.length).sum = (jn [] ts').length := by
     haveI : ∀ l : List (List Nat), (jn [] l).length = (l.map List.length).sum := by
      intro l
      induction l with
      | nil => rfl
      | cons a l ih =>
       cases l with
       | nil => simp [jn]
       | cons b l => rw [show jn [] (a :: b :: l) = a ++ [] ++ jn [] (b :: l) from rfl, List.length_append, ih]; simp
     exact (this _).symm
    rw [hs, hj']
    have := qh6 text
    rw [show Builtin.Str.tooLong ((twinT text).length + ts'.length * ([] : List Nat).length) = false from decide_eq_false (by simp only [sizeLine, List.length_nil]; lia)]; rfl
   have : Txt.join (S []) (ts'.map S) = S (twinT text) := by
    unfold Txt.join
    rw [StrLaws.glued_eq_join, qo9, hj']
   rw [this]
   exact wpAny_pure (hR h' _ _ hk')
  by_cases hlt : p < text.length
  ·rw [if_pos (show p < (S text).cps.size by lia)]
   refine wpAny_bind ?_
   show wpAny _ _ (mkStr ⟨(S text).cps.extract p (S text).cps.size⟩) _ _ _
   rw [hext, hsz, List.take_length]
   refine wpAny_mkStr ?_ (by rw [S_len, List.length_drop]; simp only [sizeLine]; lia)
   refine wpAny_bind (qb5 (s := { s with toks := s.toks + 1 }) hL (by lia) fun h' hs hL' => ?_)
   refine fin h' _ _ (l ++ [(S (text.drop p), s.toks)]) (ts ++ [text.drop p]) hL' (by rw [Array.toList_push, hacc, q30]) (by simp [hl]) (by rw [q85, hall]) (by simp; lia) fun b o hb e => (hs.2 _ hb).trans e
  rw [if_neg (show ¬ p < (S text).cps.size by lia)]
  refine fin s.heap s.toks acc l ts hL hacc hl ?_ (by lia) fun b o _ e => e
  rw [hall, List.drop_eq_nil_of_le (by lia), List.append_nil]
 | some i =>
  obtain ⟨hpi, hil, hti, hbef⟩ := q67 hn
  rw [hsz] at hil
  refine qw0 rfl rfl hn fun m h1 h2 h3 h4 h5 => ?_
  dsimp only
  rw [h1, h2]
  have hil' : i < text.length := hil
  haveI hci : (S text).cps[i]? = some text[i] := by rw [hget, List.getElem?_eq_getElem hil']
  haveI htw : q06 text[i] = true := by rw [hgd, List.getD_eq_getElem?_getD, List.getElem?_eq_getElem hil'] at hti; exact hti
  haveI hmidp : twinT ((text.take i).drop p) = (text.take i).drop p := qa7 fun c mm => by
   obtain ⟨j, hj1, rfl⟩ := List.getElem_of_mem mm
   simp only [List.length_drop, List.length_take] at hj1
   rw [List.getElem_drop, List.getElem_take]
   have := hbef (p + j) (by lia) (by lia)
   rw [hgd, List.getD_eq_getElem?_getD, List.getElem?_eq_getElem (by lia)] at this
   exact this
  haveI htake : twinT (text.take (i + 1)) = jn [] ts ++ (text.take i).drop p ++ [92, text[i]] := by
   haveI e1 : text.take (i + 1) = text.take p ++ (text.take i).drop p ++ [text[i]] := by
    rw [List.take_succ_eq_append_getElem hil']
    congr 1
    have := List.take_append_drop p (text.take i)
    rw [List.take_take, Nat.min_eq_left hpi] at this
    exact this.symm
   rw [e1, qa8, qa8, hmidp, hj]
   congr 1
   show (if q06 text[i] then [92, text[i]] else [text[i]]) ++ [] = _
   rw [htw]; rfl
  have mid : ∀ h' tk acc' l' (ts' : List (List Nat)), Γ.Ok { s with heap := h', toks := tk } → (∃ j, h'.get? L = some { cls := .type "list", dict := none, data := .seq acc' j, slots := #[] }) → acc'.toList = strValues l' → l'.map (·.1) = ts'.map S → jn [] ts' = jn [] ts ++ (text.take i).drop p → ts'.length ≤ 2 * i + 1 → (∀ b o, b ≠ L → s.heap.get? b = some o → h'.get? b = some o) →
    wpAny (model Γ.prog Γ.w) A.in1 (do
     let found ← reNewMatch (.ref pat) (.str (S text) u) 1 0 (S text).cps.size m
     let item ← holding [found] (if ((1 : Int) == 1) = true then call repl [found] else do
      let f ← reFound found
      reExpand repl f)
     if (item != .none) = true then do
      updateSeq L fun x => x.push item
      again (.builtin "re.Pattern.sub.loop" ⟨[.ref pat, .str (S text) u, repl, .int 1 0, .int 0 0, .int (n + 1) 0, .int (i + 1 : Nat) 0, .int (i + 1 : Nat) 0, .bool (i + 1 == i), .ref L, .bool false], []⟩)
     else again (.builtin "re.Pattern.sub.loop" ⟨[.ref pat, .str (S text) u, repl, .int 1 0, .int 0 0, .int (n + 1) 0, .int (i + 1 : Nat) 0, .int (i + 1 : Nat) 0, .bool (i + 1 == i), .ref L, .bool false], []⟩))
     (fun fin s' => match fin with | .done f => R (.ok f) s' | .again c' => c'.quiet = true ∧ codeAny (model Γ.prog Γ.w) A c' R s') (fun e s' => R (.error e) s') { s with heap := h', toks := tk } := by
   intro h' tk acc' l' ts' ok' hL' ha' hl' hj' htl' hk'
   refine wpAny_bind (qw2 h1 h2 h3 h4 h5 fun fo h2' hk2 hmo => ?_)
   refine wpAny_bind (wpAny_holding ?_)
   rw [if_pos (show ((1 : Int) == 1) = true from rfl)]
   have ok2 : Γ.Ok { s with heap := h2', toks := tk } := ok'.fk (M := []) (fun b o _ e => hk2 b o e) (fun a ha => by cases ha) (fun a o e' t m => by cases m) (fun a ha ⟨o, e', f'⟩ => ⟨o, hk2 _ _ e', f'⟩)
   refine hr _ _ _ fo i text[i] (fun b o hb e => hk2 _ _ (hk' _ _ hb (h0 _ _ hb e))) ok2 hmo hci fun h3' u3 tk3 hk3 => ?_
   rw [if_pos (show ((Value.str (S [92, text[i]]) u3) != .none) = true from rfl)]
   haveI ok3 : Γ.Ok { s with heap := h3', toks := tk3 } := ok2.fk (M := []) (fun b o _ e => hk3 b o e) (fun a ha => by cases ha) (fun a o e' t m => by cases m) (fun a ha ⟨o, e', f'⟩ => ⟨o, hk3 _ _ e', f'⟩)
   obtain ⟨j', ej'⟩ := hL'
   have hL3 : ∃ j, h3'.get? L = some { cls := .type "list", dict := none, data := .seq acc' j, slots := #[] } := ⟨j', hk3 _ _ (hk2 _ _ ej')⟩
   haveI hsz' := size_of ha' hl'
   refine wpAny_bind (qb5 (s := { s with heap := h3', toks := tk3 }) hL3 (by lia) fun h4' hs4 hL4 => ?_)
   refine wpAny_pure ⟨Code.quiet_builtin _ (by decide +kernel), ?_⟩
   haveI e0 : ((i + 1 == i) : Bool) = false := by simp
   rw [e0]
   have hk4 : ∀ b o, b ≠ L → s.heap.get? b = some o → h4'.get? b = some o := fun b o hb e => (hs4.2 _ hb).trans (hk3 _ _ (hk2 _ _ (hk' _ _ hb e)))
   refine ih (text.length - (i + 1)) (by lia) (i + 1) (n + 1) { s with heap := h4', toks := tk3 } _ (l' ++ [(S [92, text[i]], u3)]) (ts' ++ [[92, text[i]]]) (Nat.le_refl _) (by lia) (qv8 (s := { s with heap := h3', toks := tk3 }) ok3 hL0 hLs hL3 hs4) (hpatL hk4) hL4 (by rw [Array.toList_push, ha', q30]) (by simp [hl']) (by rw [q85, hj', htake]) (by simp; lia) (fun b o hb e => hk4 _ _ hb (h0 _ _ hb e)) fun h5' tk5 v hk5 => ?_
   exact hR h5' tk5 v fun b o hb e => hk5 _ _ hb (hk4 _ _ hb e)
  by_cases hlt : p < i
  ·rw [if_pos hlt]
   refine wpAny_bind ?_
   show wpAny _ _ (mkStr ⟨(S text).cps.extract p i⟩) _ _ _
   rw [hext]
   refine wpAny_mkStr ?_ (by rw [S_len, List.length_drop, List.length_take]; simp only [sizeLine]; lia)
   refine wpAny_bind (qb5 (s := { s with toks := s.toks + 1 }) hL (by lia) fun h' hs hL' => ?_)
   refine wpAny_ite_split (fun hab => absurd hab (by decide)) (fun _ => ?_)
   refine mid h' _ _ (l ++ [(S ((text.take i).drop p), s.toks)]) (ts ++ [(text.take i).drop p]) ?_ hL' (by rw [Array.toList_push, hacc, q30]) (by simp [hl]) (by rw [q85]) (by simp; lia) fun b o hb e => (hs.2 _ hb).trans e
   exact qv8 ok hL0 hLs hL hs
  rw [if_neg hlt]
  refine wpAny_ite_split (fun hab => absurd hab (by decide)) (fun _ => ?_)
  haveI hpe : p = i := by lia
  refine mid s.heap s.toks acc l ts ok hL hacc hl ?_ (by lia) fun b o _ e => e
  rw [List.drop_eq_nil_of_le (by simp; lia), List.append_nil]
end
end Mine
namespace Mine
open Builtin.Re
theorem qd6 : typeLookup (.type "function") "__call__" = pure (some (.builtin "function.__call__")) := by rw [typeLookup_type, builtinLookup_eq_fast]; kernel_rfl
theorem z87 : isSubtype (.type "str") (.type "bytearray") = pure false := by rw [isSubtype_type]; kernel_rfl
section
variable {Γ : Cx} {A : Around} {s : Shared}
theorem qs5 {n : Nat} {E : Value → Shared → Prop} {Q : Value → Shared → Prop} {pat f : Addr} {o : Obj} {text : List Nat} {u : Tok} (ok : Γ.Ok s) (Rm : Room Γ A (n + 1)) (hp : PatAt s.heap pat) (hf : s.heap.get? f = some o) (hfc : o.cls = .type "function") (hz : text.length ≤ 2 ^ 20)
  (hr : ∀ h' L, h'.get? L = some { cls := .type "list", data := .seq #[] } → s.heap.get? L = none → (∀ b o, s.heap.get? b = some o → h'.get? b = some o) → z44 Γ A.in1 (.ref f) pat (S text) h' L)
  (h : ∀ h' tk v, (∀ b o, s.heap.get? b = some o → h'.get? b = some o) → Q (.str (S (twinT text)) v) { s with heap := h', toks := tk }) :
  wpAny (model Γ.prog Γ.w) A (call (.builtin "re.Pattern.sub") [.ref pat, .ref f, .str (S text) u]) Q E s := by
 haveI hp' := hp
 obtain ⟨op, a1, t1, fl, tf, ct, hop, hoc, hdn, hd, nn, hct⟩ := hp'
 refine wpAny_call (codeAny_call_builtin slot_resub.plain qn0 (slot_resub.check _ _ _ _ _ _ _ _ ⟨op, hop, hoc⟩ (qs8 _ _ _) ?_))
 unfold Builtin.«re.Pattern.sub» reSubstitute
 dsimp only
 refine wpAny_bind ?_
 refine wpAny_of_eq (a := [some (.ref f), some (.str (S text) u), none]) (by rfl) ?_
 dsimp only
 refine wpAny_bind (wpAny_pure ?_)
 refine wpAny_bind (wpAny_specialOf (T := "function") (r := some (.builtin "function.__call__")) ⟨o, hf, hfc⟩ qd6 ?_)
 dsimp only [Option.isSome_some, if_true]
 refine wpAny_bind (wpAny_pure ?_)
 refine wpAny_bind (wpAny_pure ?_)
 dsimp only
 refine wpAny_bind (wpAny_holding (q87 hp ?_))
 refine wpAny_ite_split (fun _ => ?_) (fun hab => absurd rfl hab)
 refine wpAny_bind ?_
 unfold reNotHeld
 refine wpAny_bind (wpAny_isInstance_val (T := "str") (b := false) (by rfl) z87 ?_)
 refine wpAny_pure ?_
 refine wpAny_bind (wpAny_newList ?_ (by simp [sizeLine]))
 refine wpAny_pure ⟨Code.quiet_builtin _ (by decide +kernel), ?_⟩
 have hk : ∀ b o, s.heap.get? b = some o → (s.heap.push { cls := .type "list", data := .seq #[] }).get? b = some o := fun b o e => Heap.get?_push_of_some _ e
 have hL : s.heap.get? s.heap.objs.size = none := q00 _
 haveI hL' : (s.heap.push { cls := .type "list", data := .seq #[] }).get? s.heap.objs.size = some { cls := .type "list", data := .seq #[] } := Heap.get?_push_size _ rfl
 haveI hB : Γ.hB.get? s.heap.objs.size = none := by
  cases q : Γ.hB.get? s.heap.objs.size with
  | none => rfl
  | some o => exact absurd hL (ok.all _ (by rw [q]; simp))
 refine z05 (k := text.length) (ts := []) (l := []) (acc := #[]) hz hB (hr _ _ hL' hL hk) (fun m => ?_) 0 0 _ (Nat.sub_le _ _) (Nat.zero_le _) (ok.keeps hk) (hp.keep fun b o e _ => hk _ _ e) ⟨_, hL'⟩ rfl rfl rfl (Nat.le_refl _) (fun b o _ e => e) fun h' tk v hk' => ?_
 ·obtain ⟨o2, e2, _⟩ := ok.frs _ m
  cases hL.symm.trans e2
 exact h h' tk v fun b o e => hk' _ _ (fun q => by rw [q, hL] at e; nomatch e) (hk _ _ e)
end
end Mine
namespace Mine
noncomputable def rpl1 (c : Nat) (z : List Nat) (l : List Nat) : List Nat := l.flatMap fun d => if d = c then z else [d]
theorem qo3 (c : Nat) (z a b : List Nat) : rpl1 c z (a ++ b) = rpl1 c z a ++ rpl1 c z b := List.flatMap_append ..
theorem qb4 {c : Nat} {z : List Nat} : ∀ {l : List Nat}, c ∉ l → rpl1 c z l = l
 | [], _ => rfl
 | d :: r, h => by
  show (if d = c then z else [d]) ++ rpl1 c z r = _
  haveI h1 : ¬ d = c := fun e => h (e ▸ List.mem_cons_self ..)
  rw [if_neg h1, qb4 fun m => h (List.mem_cons_of_mem _ m)]; rfl
theorem qu5 (c : Nat) (z : List Nat) : rpl1 c z [c] = z := by simp [rpl1]
theorem qa0 (c : Nat) (z l : List Nat) : (rpl1 c z l).length ≤ l.length * (z.length + 1) := by
 induction l with
 | nil => exact Nat.zero_le _
 | cons d l ih =>
  show ((if d = c then z else [d]) ++ rpl1 c z l).length ≤ _
  rw [List.length_append, List.length_cons, Nat.succ_mul]
  split
  ·lia
  dsimp only [List.length_singleton]; lia
theorem qh9 (c : Nat) (z : List Nat) : ∀ parts : List Str, (∀ p ∈ parts, c ∉ p.cps.toList) → rpl1 c z (Str.join ⟨#[c]⟩ parts).cps.toList = (Str.join (S z) parts).cps.toList
 | [], _ => rfl
 | [p], h => qb4 (h p (List.mem_singleton.mpr rfl))
 | p :: q :: r, h => by
  haveI ih := qh9 c z (q :: r) fun a ha => h a (List.mem_cons_of_mem _ ha)
  show rpl1 c z (p ++ ⟨#[c]⟩ ++ Str.join ⟨#[c]⟩ (q :: r)).cps.toList = (p ++ S z ++ Str.join (S z) (q :: r)).cps.toList
  simp only [Str.cps_append, Array.toList_append]
  rw [qo3, qo3, ih, qb4 (h p (List.mem_cons_self ..)), qu5]
  rfl
theorem qf2 (x z : List Nat) (c : Nat) : rpl x [c] z = rpl1 c z x := by
 unfold rpl
 rw [show S [c] = (⟨#[c]⟩ : Str) from rfl, StrLaws.replace_one]
 rw [← qh9 c z _ (StrLaws.split_free (S x) c), StrLaws.join_split]
 rfl
theorem sub_a {n i k : Nat} (h : n - i = k + 1) : n = i + k + 1 := by
 haveI q := Nat.sub_add_cancel (Nat.le_of_lt (Nat.lt_of_sub_eq_succ h))
 rw [h, Nat.add_comm] at q
 exact q.symm
theorem sub_b {n i k : Nat} (h : n - i = k + 1) : n - 1 - k = i := by rw [sub_a h]; exact Nat.add_sub_cancel ..
theorem sub_c {n i k : Nat} (h : n - i = k + 1) : n - (i + 1) = k := by rw [sub_a h, Nat.add_right_comm]; exact Nat.add_sub_cancel_left ..
section
variable {prog : Program} {w : World} {A : Around}
structure GElt (prog : Program) (w : World) (cenv : Env) (x : Str) (elt : Expr) (n₀ : Nat) (P F : Nat → Value → Prop) : Prop where
 run : ∀ (A' : Around) (E' : Value → Shared → Prop) (i : Nat) (v : Value) (s₂ : Shared) (m₂ : Str → Option Value) (Q : Value → Shared → Prop), A'.handled = none → i < n₀ → P i v → s₂.heap.Ns cenv.locals m₂ → m₂ x = some v → 1 ≤ s₂.toks →
  (∀ y tk, F i y → Q y { s₂ with toks := tk }) → wpAny (model prog w) A' (eval elt cenv) Q E' s₂
noncomputable def qx8 (C : Addr) (fp wr : List Addr) (n₀ : Nat) (F : Nat → Value → Prop) : Protocol := fun m s₀ v s kap =>
 F (n₀ - 1 - m) v ∧ GenSince C wr s₀ s ∧ 1 ≤ s.toks ∧ ∀ s'' : Shared, (∀ b ∈ C :: fp, ∀ o, s.heap.get? b = some o → s''.heap.get? b = some o) → 1 ≤ s''.toks → kap (.send .none) s''
noncomputable abbrev gEnd (C : Addr) (wr : List Addr) : GenEnd := fun n s₀ r s₁ => r = .ok .next ∧ (n = 0 ∧ GenSince C wr s₀ s₁)
theorem z20 {elt iter : Expr} {x : Str} {px : Pos} {scope : Scope} {pos : Pos} {I : Addr} {fp wr : List Addr} {n₀ : Nat} {P : Nat → Value → Prop} {St₀ : Nat → Heap → Prop} {cenv : Env} {F : Nat → Value → Prop}
  (hh : A.handled = none) (W₀ : ∀ A' : Around, A'.handled = none → Walks prog w A' I fp wr n₀ P St₀)
  (hx : cenv.kindOf x = some .local) (hp : (cenv.scope.kind == .class || (cenv.scope.kind == .module && cenv.locals != cenv.globals)) = false)
  (hco : cenv.scope.isCoroutine = false) (hCf : cenv.locals ∉ fp) (hq : GElt prog w cenv x elt n₀ P F) :
  ∀ (k i : Nat) (s₀ s : Shared) (m : Str → Option Value), n₀ - i = k → i ≤ n₀ → St₀ i s.heap → s.heap.Ns cenv.locals m → GenSince cenv.locals wr s₀ s → 1 ≤ s.toks →
   Seg (model prog w) A (gEnd cenv.locals wr) (qx8 cenv.locals fp wr n₀ F) k s₀
    (.compLoop (.GeneratorExp elt [⟨.Name x px, iter, [], 0⟩] scope pos) 0 (.ref I) .none cenv)
    ((model prog w).den (.compLoop (.GeneratorExp elt [⟨.Name x px, iter, [], 0⟩] scope pos) 0 (.ref I) .none cenv)) [] s := by
 haveI hh' : (A.over (.compLoop (.GeneratorExp elt [⟨.Name x px, iter, [], 0⟩] scope pos) 0 (.ref I) .none cenv) []).handled = none := hh
 haveI hCw : cenv.locals ∉ wr := fun h => hCf ((W₀ A hh).sub _ h)
 intro k
 induction k with
 | zero =>
  intro i s₀ s m hk hi hst hn hsince htk
  haveI hin : i = n₀ := by lia
  subst hin
  show Seg _ A _ _ _ s₀ _ ((compTurn (.GeneratorExp elt [⟨.Name x px, iter, [], 0⟩] scope pos) 0 (.ref I) .none cenv).onRaise (leaving cenv)) [] s
  rw [compTurn_gen, Sem.onRaise_eq_wrap]
  refine seg_bind_wrap (wpAny_standAt (seg_bind_wrap ((W₀ _ hh').done s _ _ hst fun h' tk hk' => ?_)))
  exact seg_end (.ok .next) ⟨rfl, rfl, hsince.step fun b o _ hw e => hk' b o hw e⟩
 | succ k ih =>
  intro i s₀ s m hk hi hst hn hsince htk
  have hlt : i < n₀ := Nat.lt_of_sub_eq_succ hk
  show Seg _ A _ _ _ s₀ _ ((compTurn (.GeneratorExp elt [⟨.Name x px, iter, [], 0⟩] scope pos) 0 (.ref I) .none cenv).onRaise (leaving cenv)) [] s
  rw [compTurn_gen, Sem.onRaise_eq_wrap]
  refine seg_bind_wrap (wpAny_standAt (seg_bind_wrap (wpAny_with_toks (n := 1) htk ((W₀ _ hh').item i s _ _ hlt hst fun v h₁ tk₁ hPv hst₁ hk₁ => ?_))))
  intro htk₁
  refine seg_bind_wrap (wpAny_of_eq (rfl : letOwnedTupleGo (.Name x px) (.ref I) v = pure ()) ?_)
  refine seg_bind_wrap (wpAny_assign_Name (wpAny_storeName_local hx (hn.at' fun o e => hk₁ _ o hCw e) (fun h₂ hn₂ hs₂ => ?_) hp))
  have up₂ : ∀ b o, b ≠ cenv.locals → b ∉ wr → s.heap.get? b = some o → h₂.get? b = some o := fun b o hbC hbw e => hs₂.extBut b o hbC (hk₁ b o hbw e)
  have hst₂ : St₀ (i + 1) h₂ := (W₀ A hh).frame _ _ _ hst₁ fun b hb o e => hs₂.extBut b o (fun h => hCf (h ▸ hb)) e
  have hsince₂ : ∀ tk, GenSince cenv.locals wr s₀ { s with heap := h₂, toks := tk } := fun tk => hsince.step up₂
  dsimp only [List.forIn_nil]
  refine seg_bind_wrap (wpAny_pure ?_)
  simp only [if_true]
  haveI hy : ∀ v, yieldOut cenv v = yieldValue v := fun v => by simp only [yieldOut, hco, Bool.false_eq_true, if_false]
  simp only [hy]
  rw [Sem.bind_eq_wrap', Sem.bind_eq_wrap', Sem.wrap_wrap, Sem.wrap_wrap]
  refine seg_wrap (wpAny_with_toks (n := 1) (Nat.le_add_left 1 _) (hq.run _ _ i v _ _ _ hh' hlt hPv hn₂ (by simp) (Nat.le_add_left 1 _) fun y tk₄ hFy => ?_))
  intro htk₄
  haveI hidx : n₀ - 1 - k = i := sub_b hk
  refine seg_at (seg_yield rfl rfl rfl ⟨by rw [hidx]; exact hFy, hsince₂ tk₄, htk₄, fun s'' hal ht'' => ?_⟩)
  refine seg_again rfl (ih (i + 1) s'' s'' _ (sub_c hk) hlt ((W₀ A hh).frame _ _ _ hst₂ fun b hb o e => hal b (List.mem_cons_of_mem _ hb) o e)
   (hn₂.at' fun o e => hal _ (List.mem_cons_self ..) o e) (GenSince.refl _ _ _) ht'')
theorem qx7 {elt iter : Expr} {x : Str} {px : Pos} {scope : Scope} {pos : Pos} {I : Addr} {fp wr : List Addr} {n₀ : Nat} {P : Nat → Value → Prop} {St₀ : Nat → Heap → Prop} {cenv : Env} {F : Nat → Value → Prop}
  (hh : A.handled = none) (W₀ : ∀ A' : Around, A'.handled = none → Walks prog w A' I fp wr n₀ P St₀)
  (hx : cenv.kindOf x = some .local) (hp : (cenv.scope.kind == .class || (cenv.scope.kind == .module && cenv.locals != cenv.globals)) = false)
  (hco : cenv.scope.isCoroutine = false) (hCf : cenv.locals ∉ fp) (hq : GElt prog w cenv x elt n₀ P F)
  (s : Shared) (m : Str → Option Value) (hst : St₀ 0 s.heap) (hn : s.heap.Ns cenv.locals m) (htk : 1 ≤ s.toks) :
  Seg (model prog w) A (gEnd cenv.locals wr) (qx8 cenv.locals fp wr n₀ F) n₀ s
   (.compStart (.GeneratorExp elt [⟨.Name x px, iter, [], 0⟩] scope pos) 0 (.ref I) .none cenv)
   ((model prog w).den (.compStart (.GeneratorExp elt [⟨.Name x px, iter, [], 0⟩] scope pos) 0 (.ref I) .none cenv)) [] s := by
 haveI hh' : (A.over (.compStart (.GeneratorExp elt [⟨.Name x px, iter, [], 0⟩] scope pos) 0 (.ref I) .none cenv) []).handled = none := hh
 haveI loop := z20 (iter := iter) (px := px) (scope := scope) (pos := pos) hh W₀ hx hp hco hCf hq n₀ 0 s s m (Nat.sub_zero _) (Nat.zero_le _) hst hn (GenSince.refl _ _ _) htk
 show Seg _ A _ _ _ s _ ((compStart (.GeneratorExp elt [⟨.Name x px, iter, [], 0⟩] scope pos) 0 (.ref I) .none cenv).onRaise (leaving cenv)) [] s
 unfold compStart
 rw [Sem.onRaise_eq_wrap]
 show Seg _ A _ _ _ s _ ((ask >>= _).wrap _ _ _ _) [] s
 refine seg_bind_wrap (wpAny_askSetting ?_)
 split
 ·exact seg_again rfl loop
 exact seg_bind_wrap (wpAny_rule (seg_bind_wrap (wpAny_standAt (seg_bind_wrap ((W₀ _ hh').self 0 s _ _ hst (seg_again rfl loop))))))
noncomputable def BareG (a b : Array GenState) : Prop := AllBare a → AllBare b
theorem q37 {s : Shared} {g : Nat} {x : GenState} (h : AllBare s.gens) (hx : x.bare = true) : AllBare (s.setGen g x).gens := by
 intro y hy
 obtain ⟨i, hi, rfl⟩ := Array.mem_iff_getElem.mp hy
 dsimp only [Shared.setGen] at hi ⊢
 rw [Array.getElem_setIfInBounds (by simpa using hi)]
 split
 ·exact hx
 exact h _ (Array.getElem_mem ..)
noncomputable def GAt (prog : Program) (w : World) (A : Around) (a : Addr) (g : Nat) (C : Addr) (fp wr : List Addr) (n₀ : Nat) (F : Nat → Value → Prop) (j : Nat) (s : Shared) : Prop :=
 s.heap.IsGen a g ∧ s.heap.NoLimit ∧ 1 ≤ s.toks ∧ ∃ gs, s.gens[g]? = some gs ∧ ∀ s'' : Shared, (∀ b ∈ C :: fp, ∀ o, s.heap.get? b = some o → s''.heap.get? b = some o) → 1 ≤ s''.toks →
  gs.Goes (model prog w) A.in1 (gEnd C wr) (qx8 C fp wr n₀ F) (n₀ - j) (.send .none) s''
theorem qx6 (hh : A.handled = none) (a : Addr) (g : Nat) (C : Addr) (fp wr : List Addr) (n₀ : Nat) (F : Nat → Value → Prop) (haC : a ≠ C) (haf : a ∉ fp) (hsub : ∀ b ∈ wr, b ∈ fp)
  (hroom : A.depth < recursionLimit) (hcs : cStatics ∈ fp) (hcC : cStatics ≠ C) (hcw : cStatics ∉ wr) : WalksS prog w A a (a :: C :: fp) (C :: wr) BareG n₀ F (GAt prog w A a g C fp wr n₀ F) where
 sub := fun b hb => by
  rcases List.mem_cons.mp hb with rfl | hb
  ·simp
  exact List.mem_cons_of_mem _ (List.mem_cons_of_mem _ (hsub b hb))
 grefl := fun _ h => h
 gtrans := fun _ _ _ x y h => y (x h)
 frame := fun j s h' tk st ht hk =>
  ⟨let ⟨o, nm, qn, ho, r⟩ := st.1; ⟨o, nm, qn, hk a (List.mem_cons_self ..) o ho, r⟩,
   (let ⟨mc, hns, hnn⟩ := st.2.1; ⟨mc, hns.at' fun o e => hk cStatics (List.mem_cons_of_mem _ (List.mem_cons_of_mem _ hcs)) o e, hnn⟩), Nat.le_trans st.2.2.1 ht,
   let ⟨gs, hgs, hgo⟩ := st.2.2.2; ⟨gs, hgs, fun s'' hal => hgo s'' fun b hb o e => hal b hb o (hk b (List.mem_cons_of_mem _ hb) o e)⟩⟩
 item := fun j s Q E hj st hQ => by
  obtain ⟨hg, hl, ht, gs, hgs, hgo⟩ := st
  obtain ⟨m, hm⟩ : ∃ m, n₀ - j = m + 1 := Nat.exists_eq_succ_of_ne_zero (Nat.sub_ne_zero_of_lt hj)
  rw [hm] at hgo
  refine wpAny_with_toks (Nat.le_refl s.toks) ?_
  refine wpAny_pyNext_genexpQ (P := fun n s₀ s₁ => n = 0 ∧ GenSince C wr s₀ s₁) hh hl hroom hg hgs (hgo _ (fun _ _ _ e => e) ht) (fun v s₁ gs' hb hv => ?_) (fun s₁ hp h' hk => ?_)
  ·obtain ⟨hF, ⟨h₁, tk₁, rfl, hk₁⟩, ht₁, hkap⟩ := hv
   haveI hidx : n₀ - 1 - (m + 1 - 1) = j := sub_b hm
   rw [hidx] at hF
   haveI haw : a ∉ wr := fun h => haf (hsub a h)
   intro htk
   refine hQ v _ hF ⟨let ⟨o, nm, qn, ho, r⟩ := hg; ⟨o, nm, qn, hk₁ a o haC haw ho, r⟩, (let ⟨mc, hns, hnn⟩ := hl; ⟨mc, hns.at' fun o e => hk₁ cStatics o hcC hcw e, hnn⟩), ht₁, gs', setGen_self (gs := .running) (setGen_self hgs), fun s'' hal ht'' => ?_⟩
    ⟨fun b o hb e => hk₁ b o (fun h => hb (h ▸ List.mem_cons_self ..)) (fun h => hb (List.mem_cons_of_mem _ h)) e, fun x => q37 (q37 (x := .running) x rfl) hb, rfl, rfl, htk⟩
   have e : n₀ - (j + 1) = m := sub_c hm
   rw [e]
   exact hkap s'' hal ht''
  exact absurd hp.1 (Nat.succ_ne_zero m)
 done := fun s Q E st hQ => by
  obtain ⟨hg, hl, ht, gs, hgs, hgo⟩ := st
  rw [Nat.sub_self] at hgo
  refine wpAny_with_toks (Nat.le_refl s.toks) ?_
  refine wpAny_pyNext_genexpQ (P := fun n s₀ s₁ => n = 0 ∧ GenSince C wr s₀ s₁) hh hl hroom hg hgs (hgo _ (fun _ _ _ e => e) ht) (fun v s₁ gs' hb hv => ?_) (fun s₁ hp h' hk => ?_)
  ·obtain ⟨_, _, _, hkap⟩ := hv
   exact False.elim (hkap { s₁ with toks := s₁.toks + 1 } (fun _ _ _ e => e) (Nat.le_add_left ..))
  obtain ⟨_, h₁, tk₁, rfl, hk₁⟩ := hp
  intro htk
  exact hQ _ ⟨fun b o hb e => hk b o (hk₁ b o (fun h => hb (h ▸ List.mem_cons_self ..)) (fun h => hb (List.mem_cons_of_mem _ h)) e), fun x => q37 (x := .finished) (q37 (x := .running) x rfl) rfl, rfl, rfl, htk⟩
 self := fun _ _ _ _ st hQ => wpAny_pyIter_gen st.1 hQ
end
section
variable {Γ : Cx} {n : Nat} {env : Env} {σ : St} {sc : Scope}
theorem z21 {M : Model} {A : Around} {E : Value → Shared → Prop} {s : Shared} {P c : Addr} {es : List (Pos × Str)} {pos : Pos} {scope : Scope} {qual : Str} {Q : Value → Shared → Prop} (ok : Γ.Ok s) (hT : Γ.tabs = [(P, es)]) (he : (pos, qual) ∈ es)
  (hes : ∀ e ∈ es, e = (pos, qual) ∨ ((pos.line : Int) == e.1.line && (pos.col : Int) == e.1.col) = false)
  (hcode : env.code = .ref c) (C : CodeHd Γ.hB c P)
  (h : ∀ code h' tk, Kp s.heap h' → (∀ b o, b ≠ P → s.heap.get? b = some o → h'.get? b = some o) → Γ.Ok { s with heap := h', toks := tk } → Q code { s with heap := h', toks := tk }) :
  wpAny M A (genexprCode env pos qual scope) Q E s := by
 obtain ⟨ps, h1, htr, hall⟩ := ok.tabs (P, es) (by rw [hT]; exact .head _)
 have C' : CodeHd s.heap c P := by
  obtain ⟨o, vs, file, tf, flags, tg, inF, text, tt, e1, e2, r⟩ := C
  exact ⟨o, vs, file, tf, flags, tg, inF, text, tt, ok.base _ _ e1 (by unfold isTb; rw [e2]), e2, r⟩
 rcases hall _ he with hnf | ⟨c', o, vs, t, hf, e2, e3, e4, e5⟩
 ·refine wpAny_genexprCodeX hcode (C'.code h1 htr) (C'.tab h1) hnf fun c' h' tk hx hge hlt _ hrec htb htb' => ?_
  obtain ⟨ok', kp'⟩ := qv9 (tk := tk) ok hT h1 htr hnf hes hall hx htb.2 (by
   obtain ⟨P', _, _, ⟨o, vs, a1, a2, a3, _⟩, _⟩ := htb'
   obtain ⟨c2, o2, vs2, t2, b1, b2, b3, b4⟩ := hrec
   cases b1
   cases a1.symm.trans b2
   exact ⟨o, vs2, t2, a1, a2, b3, b4⟩)
  exact h _ _ _ kp' (fun b o hb e => hx _ _ hb e) ok'
 exact wpAny_genexprCode_hit hcode (C'.code h1 htr) hf (h _ s.heap s.toks (Kp.refl _) (fun _ _ _ e => e) ok)
theorem BA.run {M : Model} {A : Around} {E : Value → Shared → Prop} {s : Shared} {Q : Addr → Shared → Prop} {b0 : Addr} (ba : BA Γ) (ok : Γ.Ok s) (h : ∀ a, Q a s) : wpAny M A (builtinsFor mainGlobals b0) Q E s := by
 obtain ⟨bm, ob, hbm, hne0, hbo, hcls, hdict, hdata⟩ := ba.at_
 exact wpAny_builtinsFor (ns_kp Γ.g ok.kb) hbm hne0 (ok.base _ _ hbo (by unfold isTb; rw [hcls])) hcls hdict hdata (h _)
end
theorem qy5 {H : List Addr} {h : Heap} {vs : List Value} {xs : List (List Nat)} (d : Dens H h vs (xs.map PV.str)) (i : Nat) (v : Value) (e : vs[i]? = some v) : ∃ x t, xs[i]? = some x ∧ v = Value.str (S x) t := by
 obtain ⟨q, hq, dq⟩ := d.getV e
 rw [List.getElem?_map] at hq
 obtain ⟨x, hx, rfl⟩ := Option.map_eq_some_iff.mp hq
 cases dq using Den.s with | str t => exact ⟨x, t, hx, rfl⟩
section
variable {Γ : Cx} {n : Nat} {env : Env} {σ : St} {sc : Scope}
theorem Ev.joinGen {P c : Addr} {es : List (Pos × Str)} {sep : List Nat} {sep' : Str} {k0 : Nat} {p0 px gpos apos pos : Pos} {iter elt : Expr} {x : Str} {scope : Scope} {xs : List (List Nat)} {g : List Nat → List Nat}
  (G : EnvS env sc) (hT : Γ.tabs = [(P, es)]) (he : (gpos, env.qual ++ "<genexpr>") ∈ es) (hes : ∀ e ∈ es, e = (gpos, env.qual ++ "<genexpr>") ∨ ((gpos.line : Int) == e.1.line && (gpos.col : Int) == e.1.col) = false)
  (hcode : env.code = .ref c) (C : CodeHd Γ.hB c P) (ba : BA Γ) (hsep : sep' = S sep) (hline : (apos.endLine == pos.line) = true)
  (hco : scope.isCoroutine = false) (hclos : closureFor scope env = pure []) (hcell : ∀ y ∈ scope.names, y.2 ≠ .cell) (h0 : scope.names.lookup (".0" : Str) = some NameKind.local) (hx : scope.names.lookup x = some .local) (hkind : scope.kind = .function)
  (hs : ∀ x, genFold iter env x = pure x) (hi : Ev Γ n env σ iter (.pv (.list (xs.map .str)))) (hz1 : xs.length ≤ sizeLine) (hz2 : ((xs.map g).map List.length).sum + xs.length * sep.length ≤ 16777216)
  (hel : ∀ (A' : Around) (E' : Value → Shared → Prop) (cenv : Env) (y : List Nat) (t : Tok) (s₂ : Shared) (m₂ : Str → Option Value) (Q : Value → Shared → Prop), y ∈ xs → A'.handled = none → cenv.scope = scope → s₂.heap.Ns cenv.locals m₂ → m₂ x = some (.str (S y) t) → 1 ≤ s₂.toks →
   (∀ t' tk, Q (.str (S (g y)) t') { s₂ with toks := tk }) → wpAny (model Γ.prog Γ.w) A' (eval elt cenv) Q E' s₂)
  (hbase : ∀ env, attributeBase (.Constant (.str sep') k0 p0) (Str.ofString "join") env (eval (.Constant (.str sep') k0 p0) env) = eval (.Constant (.str sep') k0 p0) env) :
  Ev Γ n env σ (.Call (.Attribute (.Constant (.str sep') k0 p0) (Str.ofString "join") apos) [.GeneratorExp elt [⟨.Name x px, iter, [], 0⟩] scope gpos] [] pos) (.pv (.str (jn sep (xs.map g)))) :=
 .mk fun A E s φ H R ok lv eo Q k => by
  subst hsep
  refine wpAny_Call_method_lateS (hbase env) rfl hline (q03 ⟨"str", "str.join", F.plainAttrs_str, F.slot_str_join, F.type_str_join, rfl, fun a ea => (nomatch ea), ?_⟩)
  refine Calls.callWith_builtin rfl (Calls.evalArgs_plain ?_)
  show wpAny _ _ (spliced (backTo pos (starEach [.GeneratorExp elt [⟨.Name x px, iter, [], 0⟩] scope gpos] env))) _ _ _
  refine wpAny_items_cons (rest := []) (e := .GeneratorExp elt [⟨.Name x px, iter, [], 0⟩] scope gpos) ?_ (by rfl)
  have hd : A.depth < recursionLimit := by have := R.depth; show A.depth < 1000; lia
  refine wpAny_GeneratorExp_make hco hclos hcell h0 hkind hd ?_ hs
  haveI ok0 : Γ.Ok { s with toks := s.toks + 1 } := ok.toks
  refine hi.run A E _ φ H R ok0 lv eo _ fun V s1 k1 ok1 d => ?_
  cases d using Den.l with
  | @list a vs ha hl hd1 =>
   have hne : a ≠ s1.heap.objs.size := by obtain ⟨_, e⟩ := hl; exact Nat.ne_of_lt (Heap.lt_size e)
   haveI hlen := hd1.length
   simp only [Array.length_toList, List.length_map] at hlen
   refine wpAny_pyIter_list hl.isList ?_
   have ok2 := ok1.push0 { cls := .type "list_iterator", data := .fields #[.ref a, .int 0 0] }
   refine ⟨q19 Γ.nolimit ok2.kb, z21 ok2 hT he hes hcode C fun code h3 tk3 k3 kk3 ok3 => ?_⟩
   rw [G.globals]
   refine ba.run ok3 fun bi => ?_
   intro h4 hn4 hs4
   obtain ⟨ps, hP, _⟩ := ok1.tabs (P, es) (by rw [hT]; exact .head _)
   have hPI : P ≠ s1.heap.objs.size := Nat.ne_of_lt (Heap.lt_size hP)
   have haP : a ≠ P := fun q => by obtain ⟨_, e⟩ := hl; rw [q] at e; rw [e] at hP; have := congrArg Obj.cls (Option.some.inj hP); simp [tabObj] at this
   have hit3 : h3.IsListIter s1.heap.objs.size a 0 := ⟨_, kk3 _ _ hPI.symm (Heap.get?_push_size _ rfl), rfl, rfl⟩
   have hl3 : h3.IsList a vs := (hl.isList.push _).at fun o e => kk3 _ _ haP e
   generalize hI : s1.heap.objs.size = I at *
   have hIs : I < h3.objs.size := by obtain ⟨o, e, _⟩ := hit3; exact Heap.lt_size e
   have has : a < h3.objs.size := by obtain ⟨o, e, _⟩ := hl3; exact Heap.lt_size e
   haveI hnl1 := q19 Γ.nolimit ok1.kb
   haveI hnl3 := q19 Γ.nolimit ok3.kb
   have hcI : cStatics < I := by obtain ⟨_, hn, _⟩ := hnl1; rw [← hI]; exact hn.lt
   haveI keep4 : ∀ b o, h3.get? b = some o → h4.get? b = some o := fun b o e => hs4.extBut b o (Nat.ne_of_lt (Heap.lt_size e)) (Heap.get?_push_of_some _ e)
   have sz4 : h4.objs.size = h3.objs.size + 1 := by rw [hs4.1, Heap.size_push]
   have keep5 : ∀ (o5 : Obj) b o, h3.get? b = some o → (h4.push o5).get? b = some o := fun o5 b o e => Heap.get?_push_of_some _ (keep4 b o e)
   refine wpAny_items_nil ?_
   haveI hcC : cStatics ≠ h3.objs.size := Nat.ne_of_lt (Nat.lt_trans hcI hIs)
   have hfp3 : ∀ b ∈ [I, a, cStatics], b < h3.objs.size := fun b hb => by
    simp only [List.mem_cons, List.not_mem_nil, or_false] at hb
    rcases hb with rfl | rfl | rfl
    ·exact hIs
    ·exact has
    exact Nat.lt_trans hcI hIs
   have hsub : ∀ b ∈ [I], b ∈ [I, a, cStatics] := fun b hb => by simp only [List.mem_singleton] at hb; subst hb; exact .head _
   have hW := qx6 (prog := Γ.prog) (w := Γ.w) (A := A.in1.in1) R.handled h4.objs.size s1.gens.size h3.objs.size [I, a, cStatics] [I] xs.length (fun i y => ∃ x t, xs[i]? = some x ∧ y = Value.str (S (g x)) t) (by rw [sz4]; exact Nat.succ_ne_self _) (fun hm => by have := hfp3 _ hm; rw [sz4] at this; exact absurd this (Nat.not_lt_of_le (Nat.le_succ _))) hsub hd (by simp) hcC (fun hm => Nat.ne_of_lt hcI (List.mem_singleton.mp hm))
   have hwl : ∀ A' : Around, A'.handled = none → Walks Γ.prog Γ.w A' I [I, a, cStatics] [I] xs.length (fun i v => vs[i]? = some v) (fun i h => h.IsListIter I a i ∧ h.IsList a vs) := fun A' hA => by
    have W := Walks.list (prog := Γ.prog) (w := Γ.w) hA I a hne vs
    rw [hlen] at W
    exact W.mono_fp fun b hb => by simp only [List.mem_cons, List.not_mem_nil, or_false] at hb ⊢; rcases hb with rfl | rfl <;> simp
   refine SC.joinGen hW (fun i s st => st.1.typeIs) ⟨⟨_, _, _, Heap.get?_push_size _ rfl, rfl, rfl, rfl⟩, hnl3.keeps fun b o e => keep5 _ _ _ e, Nat.le_add_left 1 _, _, Array.getElem?_push_size .., fun s'' hal ht => ⟨rfl, ?_⟩⟩ (fun b hb => ?_) (.head _) (fun i v hF => ?_) (fun s' l hm hit => ?_) hz1
   ·refine qx7 (A := A.in1.in1.in1) (cenv := genEnv scope [] h3.objs.size code bi env) (St₀ := fun i h => h.IsListIter I a i ∧ h.IsList a vs) (P := fun i v => vs[i]? = some v) R.handled hwl hx (by simp [genEnv, hkind]) hco (fun hm => Nat.lt_irrefl _ (hfp3 _ hm)) ?_ s'' _ ?_ (hn4.at' fun o e => hal _ (.head _) o (Heap.get?_push_of_some _ e)) ht
    ·exact ⟨fun A' E' i v s₂ m₂ Q hA hi' hv hn hm ht k => by
      obtain ⟨y, t, hy, rfl⟩ := qy5 hd1 i v (by rw [Array.getElem?_toList]; exact hv)
      exact hel A' E' _ y t s₂ m₂ Q (List.mem_of_getElem? hy) hA rfl hn hm ht fun t' tk => k _ _ ⟨y, t', hy, rfl⟩⟩
    exact ⟨hit3.at fun o e => hal I (by simp) o (keep5 _ _ _ e), hl3.at fun o e => hal a (by simp) o (keep5 _ _ _ e)⟩
   ·show b < (h4.push _).objs.size
    rw [Heap.size_push, sz4]
    rcases List.mem_cons.mp hb with rfl | hb
    ·rw [sz4]; exact Nat.lt_succ_self _
    rcases List.mem_cons.mp hb with rfl | hb
    ·exact Nat.lt_succ_of_lt (Nat.lt_succ_self _)
    exact Nat.lt_succ_of_lt (Nat.lt_succ_of_lt (hfp3 _ hb))
   ·obtain ⟨x, t, _, rfl⟩ := hF
    exact ⟨_, _, rfl⟩
   have htx : l.map (·.1) = (xs.map g).map S := by
    obtain ⟨h1, h2⟩ := hit
    simp only [strValues, List.size_toArray, List.length_map] at h1
    refine List.ext_getElem (by simp [h1]) fun i hi1 hi2 => ?_
    simp only [List.length_map] at hi1 hi2
    obtain ⟨x, t, e1, e2⟩ := h2 i (.str l[i].1 l[i].2) (by simp [strValues, hi1])
    haveI e3 : xs[i]? = some xs[i] := List.getElem?_eq_getElem hi2
    rw [e3] at e1; cases e1
    simp only [List.getElem_map]
    injection e2
   rw [htx]
   refine ⟨?_, fun t' j => ?_⟩
   ·unfold JoinOk
    rw [StrLaws.joinTotal]
    haveI h1 : (((xs.map g).map S).map (·.length)) = (xs.map g).map List.length := by
     rw [List.map_map]; exact List.map_congr_left fun a _ => S_len a
    rw [h1, List.length_map, List.length_map, S_len]
    rw [show Builtin.Str.tooLong (((xs.map g).map List.length).sum + xs.length * sep.length) = false from decide_eq_false (by simp only [sizeLine]; lia)]; rfl
   haveI hjn : Txt.join (S sep) ((xs.map g).map S) = S (jn sep (xs.map g)) := by
    unfold Txt.join
    rw [StrLaws.glued_eq_join, qo9]
   rw [hjn]
   have fk : FK [h3.objs.size, I] h3 s'.heap := fun b o hb e => hm.heap b o hb (keep5 _ _ _ e)
   have n1 : ∀ b ∈ [h3.objs.size, I], s1.heap.get? b = none := fun b hb => by
    simp only [List.mem_cons, List.not_mem_nil, or_false] at hb
    rcases hb with rfl | rfl
    ·exact Heap.get?_none_of_le (by rw [hI]; exact Nat.le_of_lt hIs)
    exact Heap.get?_none_of_le (by rw [hI]; exact Nat.le_refl _)
   have okf := ok3.fk (t := j) fk (fun b hb => ok1.new (n1 b hb)) (fun b o e tt mm => ?_) (fun b hb ⟨o, e, f⟩ => ?_)
   ·refine k _ _ (k1.trans (KpH.kp (h₀ := s1.heap) fk.kpH n1 ((Kp.push _ _).trans k3))) ⟨okf.base, okf.tabs, hm.gens ?_, hm.os.trans ok3.os, okf.all, okf.frs, okf.off, okf.old⟩ (.str _ _)
    exact AllBare.push ok3.gens rfl
   ·simp only [List.mem_cons, List.not_mem_nil, or_false] at mm
    rcases mm with rfl | rfl
    ·rw [q00] at e; cases e
    obtain ⟨o2, e2, hc, hfd⟩ := hit3
    rw [show h3.get? b = some o2 from e2] at e; cases e
    rw [lot (q07 hc hfd)] at tt; nomatch tt
   refine ⟨o, fk _ _ (fun mm => ?_) e, f⟩
   simp only [List.mem_cons, List.not_mem_nil, or_false] at mm
   rcases mm with rfl | rfl
   ·exact Option.some_ne_none _ ((show h3.get? h3.objs.size = some o from e).symm.trans (q00 h3))
   obtain ⟨o2, e2, hc, hfd⟩ := hit3
   rw [show h3.get? b = some o2 from e2] at e; cases e
   rw [lof (q07 hc hfd)] at f; nomatch f
end
noncomputable def esc2 (y : List Nat) : List Nat := rpl1 45 [92, 45] (rpl1 92 [92, 92] y)
theorem z72 (y : List Nat) : esc2 y = rpl (rpl y [92] [92, 92]) [45] [92, 45] := by rw [qf2, qf2]; rfl
section
variable {prog : Program} {w : World} {A : Around} {E : Value → Shared → Prop} {s : Shared} {env : Env}
theorem q94 {o : Expr} {k1 k2 : Nat} {p1 p2 apos pos : Pos} {x y z : List Nat} {Q : Value → Shared → Prop} (hyz : (S y == S z) = false) (hb : x.length + (x.length + 1) * z.length ≤ 16777216)
  (hbase : attributeBase o (Str.ofString "replace") env (eval o env) = eval o env) (hline : (apos.endLine == pos.line) = true)
  (h : wpAny (model prog w) A (eval o env) (fun v s₁ => ∃ t, v = .str (S x) t ∧ 1 ≤ s₁.toks ∧ ∀ t' j, 1 ≤ j → Q (.str (S (rpl x y z)) t') { s₁ with toks := j }) E s) :
  wpAny (model prog w) A (eval (.Call (.Attribute o (Str.ofString "replace") apos) [.Constant (.str (S y)) k1 p1, .Constant (.str (S z)) k2 p2] [] pos) env) Q E s := by
 refine wpAny_Call_method_lateS hbase rfl hline (wpAny_mono h (fun v s₁ hv => ?_) fun _ _ e => e)
 obtain ⟨t, rfl, ht, hQ⟩ := hv
 refine ⟨"str", "str.replace", F.plainAttrs_str, F.slot_str_replace, F.type_str_replace, rfl, fun a ea => (nomatch ea), ?_⟩
 refine Calls.callWith_builtin rfl ?_
 refine Calls.evalArgs_plain ?_
 refine wpAny_items_cons (q03 (wpAny_items_cons (q03 (wpAny_items_nil ?_)) rfl)) rfl
 refine wpAny_with_toks (n := 1) (by show 1 ≤ s₁.toks + 1 + 1; lia) ?_
 refine SC.replace (by show s₁.toks ≠ 0; lia) (by show s₁.toks + 1 ≠ 0; lia) (by show s₁.toks ≠ s₁.toks + 1; lia) hyz (by rw [S_len, S_len]; exact hb) fun t' j hj => ?_
 rw [← S_rpl]
 exact hQ t' j hj
theorem z74 {x : String} {k1 k2 k3 k4 : Nat} {px p1 p2 p3 p4 a1 a2 q1 q2 : Pos} {m : Str → Option Value} {y : List Nat} {t : Tok} {Q : Value → Shared → Prop} {s1 s2 s3 s4 : Str} (e1 : s1 = S [92]) (e2 : s2 = S [92, 92]) (e3 : s3 = S [45]) (e4 : s4 = S [92, 45])
  (hl1 : (a1.endLine == q1.line) = true) (hl2 : (a2.endLine == q2.line) = true) (hk : env.scope.kind = .function) (hx : env.scope.names.lookup (Str.ofString x) = some .local) (hd : (Str.ofString x == ("__debug__" : Str)) = false)
  (hn : s.heap.Ns env.locals m) (hm : m (Str.ofString x) = some (.str (S y) t)) (ht : 1 ≤ s.toks) (hy : y.length ≤ 2 ^ 18) (h : ∀ t' tk, Q (.str (S (esc2 y)) t') { s with toks := tk }) :
  wpAny (model prog w) A (eval (.Call (.Attribute (.Call (.Attribute (.Name (Str.ofString x) px) (Str.ofString "replace") a1) [.Constant (.str s1) k1 p1, .Constant (.str s2) k2 p2] [] q1) (Str.ofString "replace") a2) [.Constant (.str s3) k3 p3, .Constant (.str s4) k4 p4] [] q2) env) Q E s := by
 subst e1; subst e2; subst e3; subst e4
 have hl : (rpl y [92] [92, 92]).length ≤ 3 * y.length := by
  rw [qf2]
  have := qa0 92 [92, 92] y
  simp only [List.length_cons, List.length_nil] at this
  lia
 refine q94 (x := rpl y [92] [92, 92]) (by decide) (by simp only [List.length_cons, List.length_nil]; lia) (by rfl) hl2 ?_
 refine q94 (x := y) (by decide) (by simp only [List.length_cons, List.length_nil]; lia) (by rfl) hl1 ?_
 refine wpAny_Name (wpAny_loadName_local hk hx hn hm ?_) hd
 refine ⟨t, rfl, ht, fun t1 j1 hj1 => ⟨t1, rfl, hj1, fun t2 j2 hj2 => ?_⟩⟩
 have := h t2 j2
 rw [z72] at this
 exact this
end
theorem ql2 : mroOf (.type "object") = pure [.type "object"] := by kernel_rfl
theorem q90 : typeLookup (.type "object") "__new__" = pure (some (.builtin "object.__new__")) := by rw [typeLookup_type, builtinLookup_eq_fast]; kernel_rfl
theorem qf7 : Slot "object" "__init__" "object.__init__" :=
 .of (owner := "object") (n := "__init__") (by rw [typeLookup_type, builtinLookup_eq_fast]; kernel_rfl) (by decide +kernel) (by decide +kernel) (by decide +kernel)
  (by first | exact .inl (by decide +kernel) | exact .inr (by decide +kernel)) (by rw [isSubtype_type]; kernel_rfl)
theorem qr7 : TypeCalled "object" "object.__new__" "object.__init__" :=
 ⟨by decide +kernel, by decide +kernel, ⟨_, _, ql2⟩, madeBy_type ql2 q90 (by decide +kernel), by decide +kernel, by rw [isSubtype_type]; kernel_rfl, qf7⟩
theorem qh4 : checkTypeCall "object" ⟨[], []⟩ = pure () := by kernel_rfl
theorem ql1 : checkBuiltinCall "object.__new__" ⟨[.type "object"], []⟩ = pure () := by kernel_rfl
theorem qj0 (obj : Value) : argsOk "object.__init__" ⟨[obj], []⟩ := by
 unfold argsOk; rw [signature?_of (id := "object.__init__") (n := ['_', '_', 't', 'i', 'n', 'i', '_', '_']) (o := ['t', 'c', 'e', 'j', 'b', 'o']) (by kernel_rfl) F.owner_object]; kernel_rfl
theorem qf6 : Meets (Builtin.«object.__new__» ⟨[.type "object"], []⟩) (fun _ R s => R (.ok (.ret (.ref s.heap.objs.size))) { s with heap := s.heap.push { cls := .type "object", data := .plain } }) :=
 .of_wp fun prog w A R s h => by
  obtain ⟨hp, g, d, tk, os⟩ := s
  haveI h0 := madeBy_type ql2 q90 (by decide +kernel)
  wp_walk
  exact ⟨_, rfl, h⟩
theorem qd3 {self : Value} : Meets (Builtin.«object.__init__» ⟨[self], []⟩) (fun _ R s => R (.ok (.ret .none)) s) := Meets.of_wp fun prog w A R s hs => wpAny_pure ⟨_, rfl, hs⟩
theorem q96 (a b c : Value) : checkTypeCall "range" ⟨[a, b, c], []⟩ = pure () := by kernel_rfl
theorem qb8 (a b c : Value) : checkBuiltinCall "range.__new__" ⟨[.type "range", a, b, c], []⟩ = pure () := by kernel_rfl
theorem q97 (obj a b c : Value) : argsOk "object.__init__" ⟨[obj, a, b, c], []⟩ := by
 unfold argsOk; rw [signature?_of (id := "object.__init__") (n := ['_', '_', 't', 'i', 'n', 'i', '_', '_']) (o := ['t', 'c', 'e', 'j', 'b', 'o']) (by kernel_rfl) F.owner_object]; kernel_rfl
section
variable {prog : Program} {w : World} {A : Around} {E : Value → Shared → Prop} {s : Shared}
theorem qn4 {Q : Value → Shared → Prop} (h : Q (.ref s.heap.objs.size) { s with heap := s.heap.push { cls := .type "object", data := .plain } }) : wpAny (model prog w) A (call (.type "object") []) Q E s :=
 callType_meets (Q₁ := fun obj s₁ => s₁.TypeIs obj "object" ∧ Q obj s₁) qr7 qh4 ql1 F.entry_object_new F.entry_object_init qf6 ⟨⟨_, Heap.get?_push_size _ rfl, rfl⟩, h⟩
  fun obj s₁ hq => ⟨hq.1, qj0 _, _, qd3, rfl, hq.2⟩
theorem qj9 {a b c : Int} {t u v : Tok} {Q : Value → Shared → Prop} (hc : ¬ (some c == some 0) = true) (hd : Builtin.divisionGoesByPylong (b - a) c = false)
  (h : Q (.ref s.heap.objs.size) { s with heap := s.heap.push { cls := .type "range", data := .fields #[.int a t, .int b u, .int c v] } }) :
  wpAny (model prog w) A (call (.type "range") [.int a t, .int b u, .int c v]) Q E s :=
 callType_new F.called_range (by decide) (q96 _ _ _) (qb8 _ _ _) (fun obj => q97 obj _ _ _) F.entry_range_new
  (AutoRange.range___new___type_int_int_int_1 a b c t u v F.called_range.sub hc) ⟨hd, ⟨_, Heap.get?_push_size _ rfl, rfl⟩, h⟩
end
theorem qk8 {prog : Program} {w : World} {A : Around} {E : Value → Shared → Prop} {s : Shared} {l : Addr} {vs : Array Value} {k : Int} {t : Tok} {v : Value} {Q : Unit → Shared → Prop} (hl : LstAt s.heap l vs) (h0 : k < 0) (h1 : -(vs.size : Int) ≤ k) (hfit : -(2 ^ 63) ≤ k)
  (hQ : ∀ h', Heap.SameBut l s.heap h' → LstAt h' l (vs.setIfInBounds (k + vs.size).toNat v) → Q () { s with heap := h' }) : wpAny (model prog w) A (setItem (.ref l) (.int k t) v) Q E s := by
 obtain ⟨n, ho⟩ := id hl
 haveI hL := hl.isList
 unfold setItem
 try with_reducible refine wpAny_holding ?_
 first | refine wpAny_bind (wpAny_pure ?_) | skip
 refine wpAny_bind (wpAny_sequenceKey hL.typeIs (by decide) ?_)
 refine wpAny_bind (wpAny_callSpecial?_slot (name := Str.ofString "__setitem__") hL.typeIs slot_list_setitem
  (wpAny_call_entry slot_list_setitem hL.typeIs entry_list_setitem ?_ (args_list_setitem _ _ _)))
 show wpAny _ _ (Builtin.List.listSubscript? (.int k t) >>= _) _ _ s
 refine wpAny_bind (wpAny_listSubscript_int (fitsIndex_neg h0 hfit) ?_)
 clear hfit
 haveI hidx := seqIndex_neg h0 h1
 generalize hj : (k + vs.size).toNat = j at *
 haveI hjl : j < vs.size := by lia
 haveI hx' : vs[j]? = some vs[j] := Array.getElem?_eq_getElem hjl
 obtain ⟨i, rfl⟩ : ∃ i : Nat, k = Int.negSucc i := by
  cases k with
  | ofNat n => exact absurd h0 (Int.not_lt.mpr (Int.natCast_nonneg n))
  | negSucc n => exact ⟨n, rfl⟩
 show wpAny _ _ ((Builtin.List.listItems (.ref l) >>= fun xs => pure ((seqIndex? (Int.negSucc i) xs.size).bind fun i => xs[i]?.map (i, ·))) >>= _) _ _ s
 refine wpAny_bind (wpAny_bind ?_)
 show wpAny _ _ (seqItems? (.ref l) >>= _) _ _ s
 refine wpAny_bind (wpAny_seqItems ho rfl (wpAny_pure (wpAny_pure ?_)))
 rw [hidx]
 simp only [Option.bind_some, hx', Option.map_some]
 show wpAny _ _ (setSeqItemAt l j v >>= _) _ _ s
 haveI hfin : LstAt (s.heap.update l (Obj.mapSeq (·.setIfInBounds j v))) l (vs.setIfInBounds j v) :=
  ⟨_, Heap.get?_update_self _ ho rfl⟩
 refine wpAny_bind (wpAny_setSeqItemAt ho rfl ?_)
 first
  | exact wpAny_bind (wpAny_pure (wpAny_pure ⟨.none, rfl, wpAny_pure (hQ _ (Heap.SameBut.update ..) hfin)⟩))
  | exact wpAny_pure ⟨.none, rfl, wpAny_pure (hQ _ (Heap.SameBut.update ..) hfin)⟩
theorem qs0 {prog : Program} {w : World} {A : Around} {E : Value → Shared → Prop} {s : Shared} {l : Addr} {vs : Array Value} {k : Nat} {t : Tok} {Q : Unit → Shared → Prop} (hl : LstAt s.heap l vs) (hk : k < vs.size) (hz : vs.size ≤ 2 ^ 24)
  (hQ : ∀ h', Heap.SameBut l s.heap h' → LstAt h' l (vs.eraseIdxIfInBounds k) → Q () { s with heap := h' }) : wpAny (model prog w) A (delItem (.ref l) (.int k t)) Q E s := by
 obtain ⟨n, ho⟩ := hl
 refine P.delItem_list (n := n) (k := k) ho (fitsIndex_of (by lia) (by lia)) (by rw [q38 (by lia) (by lia), Int.toNat_natCast]) (hQ _ (Heap.SameBut.update ..) ⟨_, Heap.get?_update_self _ ho rfl⟩) (by simp only [sizeLine]; lia)
section
variable {Γ : Cx} {τ n : Nat} {env : Env} {σ : St} {sc scope : Scope} {ns : List String} {α β : Type} {K : AF → St → Prop} {more : List Stmt}
theorem qr9 {H : List Addr} {h : Heap} {Vs : List Value} {xs : List PV} (j : Nat) (r : Dens H h Vs xs) : Dens H h (Vs.eraseIdx j) (xs.eraseIdx j) :=
 r.ind (M := fun Vs xs => ∀ j, Dens H h (Vs.eraseIdx j) (xs.eraseIdx j)) (fun _ => .nil) (fun a b ih j => by
  cases j with
  | zero => exact b
  | succ j => exact .cons a (ih j)) j
theorem Ex.del {x : String} {p pos pos' : Pos} {i : Expr} {k : Nat} {xs : List PV} {z : Nat} {orest : List (Nat × List PV)} (G : EnvG env) (hm : (x, RV.ptr k) ∈ σ.v) (ho : (k, xs) ∈ σ.o) (ko : KeepO k σ.o orest) (hi : Ev Γ n env σ i (.pv (.int z))) (h1 : z < xs.length) (hz : xs.length ≤ 2 ^ 24)
  (c : K .nx ⟨σ.v, (k, xs.eraseIdx z) :: orest⟩) (hd : (Str.ofString x == ("__debug__" : Str)) = false) :
  Ex Γ τ n env ns σ (exec (.Delete [.Subscript (.Name (Str.ofString x) p) i pos'] pos) env) K := .mk' fun A E s φ Mw Lo H R F τ0 Q q => by
 refine wpAny_Delete (wpAny_deleteEach_cons (wpAny_delete_Subscript ?_))
 obtain ⟨W, a, d⟩ := F.eo.vars _ _ hm
 have d' : W = .ref (φ k) := d
 subst d'
 refine wpAny_Name (q04 G.kind a ?_) hd
 refine F.ev R hi fun I s2 k2 F2 di => ?_
 obtain ⟨_, vs2, hl2, hd2⟩ := F2.eo.own _ _ ho
 have hlen := hd2.length
 simp only [Array.length_toList] at hlen
 have di' : Den (Mw ++ Lo ++ H) s2.heap I (.int z) := di
 cases di' using Den.i
 refine qs0 hl2 (by lia) (by lia) fun h' hs' hl' => wpAny_deleteEach_nil ?_
 obtain ⟨F3, G3⟩ := F2.setOwn (t := s2.toks) ho ko hs' hl' (ys := xs.eraseIdx z) (by rw [Array.toList_eraseIdxIfInBounds]; exact qr9 _ hd2)
 exact q .next { s2 with heap := h' } .nx _ φ Lo c F3 ((Gr.of k2).trans G3) trivial
theorem X.del {x : String} {p pos pos' : Pos} {i : Expr} {k : Nat} {xs : List PV} {z : Nat} {orest : List (Nat × List PV)} (G : EnvS env sc) (hm : (x, RV.ptr k) ∈ σ.v) (ho : (k, xs) ∈ σ.o) (ko : KeepO k σ.o orest) (hi : E Γ n env σ i (.pv (.int z))) (h1 : z < xs.length) (hz : xs.length ≤ 2 ^ 24)
  (hd : (Str.ofString x == ("__debug__" : Str)) = false) (c : X Γ τ n env ns ⟨σ.v, (k, xs.eraseIdx z) :: orest⟩ more K) : X Γ τ n env ns σ (.Delete [.Subscript (.Name (Str.ofString x) p) i pos'] pos :: more) K :=
 ⟨Ex.cons (Ex.del G.g hm ho ko hi.run h1 hz c.run hd)⟩
theorem Ex.augN {x : String} {p pos pos' : Pos} {e i : Expr} {k : Nat} {xs : List PV} {z : Int} {a b : List Nat} {orest : List (Nat × List PV)} (G : EnvG env) (hm : (x, RV.ptr k) ∈ σ.v) (ho : (k, xs) ∈ σ.o) (ko : KeepO k σ.o orest) (hi : Ev Γ n env σ i (.pv (.int z))) (h0 : z < 0) (h1 : -(xs.length : Int) ≤ z) (hz : xs.length ≤ 2 ^ 24)
  (hc : xs[(z + xs.length).toNat]? = some (.str a)) (h : Ev Γ n env σ e (.pv (.str b))) (hab : a.length + b.length ≤ 2 ^ 24) (c : K .nx ⟨σ.v, (k, xs.set (z + xs.length).toNat (.str (a ++ b))) :: orest⟩) (hd : (Str.ofString x == ("__debug__" : Str)) = false)
  (ha : ∀ ov iv new, augStore i ov iv new = (do holding [new, ov, iv] (setItem ov iv new); release [new, ov, iv] []; pure .next)) :
  Ex Γ τ n env ns σ (exec (.AugAssign (.Subscript (.Name (Str.ofString x) p) i pos') .Add e pos) env) K := .mk' fun A E s φ Mw Lo H R F τ0 Q q => by
 refine wpAny_AugAssign_SubscriptAny ?_ ha
 obtain ⟨W, at0, d⟩ := F.eo.vars _ _ hm
 have d' : W = .ref (φ k) := d
 subst d'
 refine wpAny_Name (q04 G.kind at0 ?_) hd
 refine F.ev R hi fun I s2 k2 F2 di => ?_
 obtain ⟨_, vs2, hl2, hd2⟩ := F2.eo.own _ _ ho
 have hlen := hd2.length
 simp only [Array.length_toList] at hlen
 have di' : Den (Mw ++ Lo ++ H) s2.heap I (.int z) := di
 cases di' using Den.i
 obtain ⟨V, hV, dV⟩ := hd2.get hc
 rw [Array.getElem?_toList] at hV
 refine wpAny_getItem_list_neg hl2.isList h0 (by rw [hlen]; exact h1) (by lia) (by rw [hlen]; exact hV) ?_
 refine F2.ev R h fun V4 s4 k4 F4 d4 => ?_
 obtain ⟨_, vs4, hl4, hd4⟩ := F4.eo.own _ _ ho
 haveI hlen4 := hd4.length
 simp only [Array.length_toList] at hlen4
 cases dV using Den.s with
 | str t1 =>
  cases d4 using Den.s with
  | str t2 =>
   refine PyProof.Rows.iadd_str (fun t' tk => ?_) (by simp only [Str.length, List.size_toArray, sizeLine]; lia)
   haveI hl4' : LstAt ({ s4 with toks := tk } : Shared).heap (φ k) vs4 := hl4
   refine qk8 hl4' h0 (by rw [hlen4]; exact h1) (by lia) fun h' hs' hl' => ?_
   rw [hlen4] at hl'
   haveI es : (⟨a.toArray⟩ : Str) ++ (⟨b.toArray⟩ : Str) = ⟨(a ++ b).toArray⟩ := by show Str.append _ _ = _; simp [Str.append]
   rw [es] at hl'
   obtain ⟨F5, G5⟩ := F4.setOwn (t := tk) ho ko hs' hl' (ys := xs.set (z + xs.length).toNat (.str (a ++ b))) (by rw [Array.toList_setIfInBounds]; exact Dens.set (.str _ _) _ hd4)
   exact q .next { s4 with heap := h', toks := tk } .nx _ φ Lo c F5 ((Gr.of (k2.trans k4)).trans G5) trivial
theorem X.augN {x : String} {p pos pos' : Pos} {e i : Expr} {k : Nat} {xs : List PV} {z : Int} {a b : List Nat} {orest : List (Nat × List PV)} (G : EnvS env sc) (hm : (x, RV.ptr k) ∈ σ.v) (ho : (k, xs) ∈ σ.o) (ko : KeepO k σ.o orest) (hi : E Γ n env σ i (.pv (.int z))) (h0 : z < 0) (h1 : -(xs.length : Int) ≤ z) (hz : xs.length ≤ 2 ^ 24)
  (hc : xs[(z + xs.length).toNat]? = some (.str a)) (h : E Γ n env σ e (.pv (.str b))) (hab : a.length + b.length ≤ 2 ^ 24) (hd : (Str.ofString x == ("__debug__" : Str)) = false) (ha : ∀ ov iv new, augStore i ov iv new = (do holding [new, ov, iv] (setItem ov iv new); release [new, ov, iv] []; pure .next))
  (c : X Γ τ n env ns ⟨σ.v, (k, xs.set (z + xs.length).toNat (.str (a ++ b))) :: orest⟩ more K) : X Γ τ n env ns σ (.AugAssign (.Subscript (.Name (Str.ofString x) p) i pos') .Add e pos :: more) K :=
 ⟨Ex.cons (Ex.augN G.g hm ho ko hi.run h0 h1 hz hc h.run hab c.run hd ha)⟩
end
section
variable {Γ : Cx} {τ n : Nat} {env : Env} {σ : St} {sc scope : Scope} {ns : List String} {α β : Type} {K : AF → St → Prop} {more : List Stmt}
noncomputable def rngD (a b : Int) : List Int := (List.range (a - b).toNat).map fun (i : Nat) => a - (i : Int)
noncomputable abbrev PRD (a b : Int) : Pred Value := fun _ _ h V => ∃ r t u v, V = .ref r ∧ IsRange h r a b (-1) t u v
theorem CallB.range3 {a b : Int} : CallB Γ n env σ (.type "range") [PR (.pv (.int a)), PR (.pv (.int b)), PR (.pv (.int (-1)))] (PRD a b) := fun Vs A E s φ H R ok lv eo c Q k => by
 obtain ⟨_, _, _, rfl, a1, a2, a3⟩ := c.three
 cases a1 using Den.i; cases a2 using Den.i; cases a3 using Den.i
 refine qj9 (by decide) (by unfold Builtin.divisionGoesByPylong; rfl) (k _ _ (Kp.push _ _) (ok.push0 _) ⟨_, _, _, _, rfl, Heap.get?_push_size _ rfl⟩)
theorem q47 (a b : Int) : Builtin.Range.rangeSize a b (-1) = ((a - b).toNat : Int) := by
 unfold Builtin.Range.rangeSize
 rw [if_neg (by decide)]
 split <;> simp <;> omega
theorem qq8 {a b : Int} (h0 : -(2 ^ 61) ≤ a ∧ a < 2 ^ 61) (h1 : -(2 ^ 61) ≤ b ∧ b < 2 ^ 61) : Builtin.Range.small a b (-1) = true := by
 unfold Builtin.Range.small
 rw [q47]
 simp only [Builtin.Range.rangeFitsLong, Bool.and_eq_true, Bool.or_eq_true, decide_eq_true_eq, beq_iff_eq, show ¬ ((-1 : Int) > 0) by decide, if_false]
 omega
theorem I.rngD {x : Str} {y : String} {p q pos : Pos} {e e' e'' : Expr} {a b : Int} (bn : BN Γ env sc x (.type "range")) (ha : E Γ n env σ e (.pv (.int a))) (hb : E Γ n env σ e' (.pv (.int b))) (hc : E Γ n env σ e'' (.pv (.int (-1)))) (he : ∀ env, starEach [e, e', e''] env = (false, eval e env) :: starEach [e', e''] env) (he' : ∀ env, starEach [e', e''] env = (false, eval e' env) :: starEach [e''] env) (he'' : ∀ env, starEach [e''] env = (false, eval e'' env) :: starEach [] env)
  (h0 : -(2 ^ 61) ≤ a ∧ a < 2 ^ 61) (h1 : -(2 ^ 61) ≤ b ∧ b < 2 ^ 61) : EvI Γ n env σ (.Call (.Name x p) [e, e', e''] [] pos) (.Name (Str.ofString y) q) ((rngD a b).map fun i => [.int i]) := by
 haveI hcall : EvP Γ n env σ (eval (.Call (.Name x p) [e, e', e''] [] pos) env) (PRD a b) := Ev.call_ty bn.ev (EvS.cons (mR _) ha.run (EvS.cons (mR _) hb.run (EvS.cons (mR _) hc.run EvS.nil he'') he') he) CallB.range3 he (fun env => by rw [he', he'']; rfl)
 refine .mk fun A E s φ H R ok lv eo Q k => hcall.run A E s φ H R ok lv eo _ fun V s1 k1 ok1 d => ?_
 obtain ⟨r, t, u, v, rfl, ho⟩ := d
 refine wpAny_pyIter_range ho (qq8 h0 h1) (k s1.heap.objs.size _ [s1.heap.objs.size] [s1.heap.objs.size] (fun i h => IsRangeIter h s1.heap.objs.size (a + (i : Nat) * (-1)) (((a - b).toNat : Int) - (i : Nat)) (-1)) s1.heap k1 (Kp.push _ _) (ok1.push0 _) ?_ (q41 _ _) ?_ ?_ ?_)
 ·intro c hc; simp only [List.mem_singleton] at hc; subst hc; exact ok1.new (q00 _)
 ·haveI hlen : (a - b).toNat = ((Mine.rngD a b).map PV.int).length := by simp [Mine.rngD]
  haveI W := Walks.range (prog := Γ.prog) (w := Γ.w) R.handled s1.heap.objs.size a (-1) (a - b).toNat
  haveI e2 : ((Mine.rngD a b).map fun i => [PV.int i]) = ((Mine.rngD a b).map PV.int).map fun y => [y] := by simp
  rw [e2]
  haveI W' : Walks Γ.prog Γ.w A s1.heap.objs.size [s1.heap.objs.size] [s1.heap.objs.size] ((Mine.rngD a b).map PV.int).length (fun i v => ∃ t, v = .int (a + i * (-1)) t) (fun i h => IsRangeIter h s1.heap.objs.size (a + (i : Nat) * (-1)) (((a - b).toNat : Int) - (i : Nat)) (-1)) := by
   rw [← hlen]; exact W
  refine Itr.ofWalks W' (fun c hc => by simp only [List.mem_singleton] at hc; subst hc; exact q00 _) (fun i h st c hc => by simp only [List.mem_singleton] at hc; subst hc; exact ⟨_, st, rfl⟩) fun i v y hv hy => ?_
  obtain ⟨t, rfl⟩ := hv
  haveI : y = .int (a + i * (-1)) := by
   simp only [Mine.rngD, List.map_map, List.getElem?_map] at hy
   obtain ⟨j, hj, rfl⟩ := Option.map_eq_some_iff.mp hy
   obtain ⟨_, hj⟩ := List.getElem?_eq_some_iff.mp hj
   simp at hj; subst hj
   show PV.int (a - (i : Nat)) = _
   congr 1; omega
  subst this
  exact .int _ _
 ·have e3 : a + ((0 : Nat) : Int) * (-1) = a := by simp
  have e4 : (((a - b).toNat : Int) - ((0 : Nat) : Int)) = Builtin.Range.rangeSize a b (-1) := by rw [q47]; omega
  show IsRangeIter _ _ _ _ _
  rw [e3, e4]; exact Heap.get?_push_size _ rfl
 intro c hc; simp only [List.mem_singleton] at hc; subst hc; exact ⟨(lv.kp k1).size, _, Heap.get?_push_size _ rfl, rfl⟩
end
section
variable {Γ : Cx} {τ n : Nat} {env : Env} {σ : St} {sc scope : Scope} {ns : List String} {α β : Type} {K : AF → St → Prop} {more : List Stmt}
theorem E.fmt {e : Expr} {k1 k2 : Nat} {p1 p2 fp pos : Pos} {a b x : List Nat} {a' b' : Str} (ea : a' = S a) (eb : b' = S b) (he : E Γ n env σ e (.pv (.str x))) (hz : a.length + x.length + b.length ≤ 16777216) :
  E Γ n env σ (.JoinedStr [.Constant (.str a') k1 p1, .FormattedValue e (-1) Option.none fp, .Constant (.str b') k2 p2] pos) (.pv (.str (a ++ x ++ b))) := ⟨.mk fun A E s φ H R ok lv eo Q k => by
 subst ea; subst eb
 refine wpAny_JoinedStr ?_
 haveI e1 : evalEach [.Constant (.str (S a)) k1 p1, .FormattedValue e (-1) Option.none fp, .Constant (.str (S b)) k2 p2] env = [eval (.Constant (.str (S a)) k1 p1) env, eval (.FormattedValue e (-1) Option.none fp) env, eval (.Constant (.str (S b)) k2 p2) env] := rfl
 rw [e1]
 haveI l0 : ∀ (u v : Str), (u ++ v).length = u.length + v.length := fun u v => by simp [Str.length, Str.cps_append]
 have l1 : (Str.empty ++ S a).length = a.length := by rw [l0, S_len]; simp [Str.length, Str.empty]
 refine q03 ⟨S a, _, rfl, by rw [l1]; simp only [sizeLine]; lia, ?_⟩
 refine wpAny_FormattedValue_plain (he.run.run A E { s with toks := s.toks + 1 } φ H R (ok.toks) lv eo _ fun V s1 e1 ok1 d => ?_)
 cases d using Den.s with
 | str t =>
  haveI hx : (⟨x.toArray⟩ : Str) = S x := rfl
  rw [hx]
  have l2 : (Str.empty ++ S a ++ S x).length = a.length + x.length := by rw [l0, l1, S_len]
  haveI l3 : (Str.empty ++ S a ++ S x ++ S b).length = a.length + x.length + b.length := by rw [l0, l2, S_len]
  haveI e5 : Str.empty ++ S a ++ S x ++ S b = ⟨(a ++ x ++ b).toArray⟩ := by
   show (⟨_⟩ : Str) = _
   simp [S, Str.empty, Str.cps_append]
  haveI fin : ∀ (tk : Nat) (t' : Tok), ∃ y t, Value.str (S x) t' = .str y t ∧ (Str.empty ++ S a ++ y).length ≤ sizeLine ∧ Joins (model Γ.prog Γ.w) A E [eval (.Constant (.str (S b)) k2 p2) env] (Str.empty ++ S a ++ y) (fun out s₁ => out.length ≤ sizeLine ∧ Q (.str out s₁.toks) { s₁ with toks := s₁.toks + 1 }) { s1 with toks := tk } := fun tk t' => by
   refine ⟨S x, t', rfl, by rw [l2]; simp only [sizeLine]; lia, ?_⟩
   refine q03 ⟨S b, _, rfl, by rw [l3]; simp only [sizeLine]; lia, by rw [l3]; simp only [sizeLine]; lia, ?_⟩
   rw [e5]
   exact k _ _ e1 ok1.toks (.str _ _)
  exact wpAny_formatField_str (fin _ _) (fin _ _) (by rw [S_len]; simp only [sizeLine]; lia)⟩
theorem Ex.obj {x : String} {f : Str} {xp p pos cpos : Pos} {rest : List (String × RV)} (b : BN Γ env sc f (.type "object")) (hx : x ∈ ns) (kr : Keep [x] σ.v rest) (k : ∀ a, K .nx ⟨(x, .pv (.obj a)) :: rest, σ.o⟩) (hs : swapsWith (.Call (.Name f p) [] [] cpos) (some (.Name (Str.ofString x) xp)) pos.line env = pure false) :
  Ex Γ τ n env ns σ (exec (.Assign [.Name (Str.ofString x) xp] (.Call (.Name f p) [] [] cpos) pos) env) K := .mk' fun A E s φ Mw Lo H R F τ0 Q q => by
 refine wpAny_Assign_Name ?_ hs
 refine wpAny_Call_Name_kw (F.ev R b.ev fun V s1 k1 F1 hV => ?_)
 subst hV
 refine PySem.callWith_type rfl (PySem.evalArgs_none ?_)
 refine qn4 ?_
 haveI F2 := F1.kp (s' := { s1 with heap := s1.heap.push { cls := .type "object", data := .plain } }) (Kp.push _ _) (F1.ok.push0 _)
 refine F2.storeName hx kr (r := .pv (.obj s1.heap.objs.size)) (.obj ?_ ⟨_, Heap.get?_push_size _ rfl, rfl⟩) fun s' F' g' => q .next s' .nx _ φ Lo (k _) F' ((Gr.of (k1.trans (Kp.push _ _))).trans g') trivial
 exact F1.live.size
theorem X.obj {x : String} {f : Str} {xp p pos cpos : Pos} {rest : List (String × RV)} (b : BN Γ env sc f (.type "object")) (hx : x ∈ ns) (kr : Keep [x] σ.v rest) (hs : swapsWith (.Call (.Name f p) [] [] cpos) (some (.Name (Str.ofString x) xp)) pos.line env = pure false)
  (k : ∀ a, X Γ τ n env ns ⟨(x, .pv (.obj a)) :: rest, σ.o⟩ more K) : X Γ τ n env ns σ (.Assign [.Name (Str.ofString x) xp] (.Call (.Name f p) [] [] cpos) pos :: more) K :=
 ⟨Ex.cons (Ex.obj b hx kr (fun a => (k a).run) hs)⟩
end
theorem FSpec.introC {Γ : Cx} {n : Nat} {K : Frag} {f : Addr} {fd : FuncData} {body : List Stmt} {ps ns : List String} {xs : List PV} {r : PV} {c : Addr} {cvs : Array Value} {t : Tok} {v : List (String × RV)} (KX : K.In Γ.hB) (e1 : (K.lookup f).map Obj.data = some (.func fd)) (hbody : fd.body = .stmts body)
  (hc : fd.code = .ref c) (e2 : (K.lookup c).map (fun o => (isTb o, o.data)) = some (false, .fields cvs)) (hc1 : cvs[1]? = some (.str fd.qualname t)) (C : FunOK fd.scope ps ns)
  (hbind : ∀ Vs : List Value, Vs.length = ps.length → bindArgs fd ⟨Vs, []⟩ = pure ((ps.map Str.ofString).zip Vs)) (hlen : xs.length = ps.length)
  (hrest : fd.closure = [] ∧ fd.globals = mainGlobals ∧ fd.builtins = builtinsNs ∧ fd.scope.isCoroutine = false ∧ fd.scope.isGenerator = false) (hv : (pvSt (ps.zip xs)).v = v)
  (h : ∀ kf env, EnvS env fd.scope → CodeQ env fd → X (Γ.on kf) 0 n env ns ⟨v, []⟩ body fun af _ => af = .rt r) : FSpec Γ (n + 1) f xs r := by
 obtain ⟨o, ho, hd⟩ := Option.map_eq_some_iff.mp e1
 obtain ⟨oc, hoc, hcd⟩ := Option.map_eq_some_iff.mp e2
 subst hv
 exact FSpec.intro0 C (KX _ _ ho) hd hbody hrest.1 hrest.2.1 hrest.2.2.1 hc (KX _ _ hoc) (congrArg Prod.fst hcd) (congrArg Prod.snd hcd) hc1 hbind hlen hrest.2.2.2.1 hrest.2.2.2.2 fun kf env G q => (h kf env G q).run
theorem PatAt.at {h h' : Heap} {pat : Addr} (x : PatAt h pat) (k : ∀ b o, h.get? b = some o → isTb o = false → h'.get? b = some o) : PatAt h' pat := by
 obtain ⟨o, a1, t1, fl, tf, ct, ho, hc, hdn, hd, n, hct⟩ := x
 exact ⟨o, a1, t1, fl, tf, ct, k _ _ ho (by unfold isTb; rw [hc]), hc, hdn, hd, n, k _ _ hct rfl⟩
section
variable {Γ : Cx} {n : Nat} {env : Env} {σ : St} {sc : Scope}
theorem E.twin {P c pat : Addr} {es : List (Pos × Str)} {f x : String} {fp px apos lpos pos p1 p2 p3 p4 p5 p6 p7 p8 : Pos} {params : Arguments} {scope : Scope} {text : List Nat}
  (G : EnvS env sc) (hT : Γ.tabs = [(P, es)]) (he : (lpos, env.qual ++ "<lambda>") ∈ es) (hes : ∀ e ∈ es, e = (lpos, env.qual ++ "<lambda>") ∨ ((lpos.line : Int) == e.1.line && (lpos.col : Int) == e.1.col) = false)
  (hcode : env.code = .ref c) (C : CodeHd Γ.hB c P) (ba : BA Γ) (hpat : PatAt Γ.hB pat) (hg : Γ.mg (Str.ofString f) = some (.ref pat)) (hk : sc.names.lookup (Str.ofString f) = some .globalImplicit) (hfd : (Str.ofString f == ("__debug__" : Str)) = false)
  (hm : (x, RV.pv (.str text)) ∈ σ.v) (hxd : (Str.ofString x == ("__debug__" : Str)) = false) (hz : text.length ≤ 2 ^ 20) (hline : (apos.endLine == pos.line) = true) (hline2 : (p3.endLine == p5.line) = true)
  (hdef : defaultsOf params env = ([], [])) (hcl : closureFor scope env = pure []) (hsc : scope.names = [(Str.ofString "_m", .local)]) (hsk : scope.kind = .function) (hco : scope.isCoroutine = false) (hgen : scope.isGenerator = false)
  (hbind : ∀ pm c' a, bindArgs (lamFn "<lambda>" (env.qual ++ "<lambda>") params (q31 p1 p2 p3 p4 p5 p6 p7 p8) scope pm c') ⟨[a], []⟩ = pure [(Str.ofString "_m", a)]) :
  E Γ (n + 2) env σ (.Call (.Attribute (.Name (Str.ofString f) fp) (Str.ofString "sub") apos) [.Lambda params (q31 p1 p2 p3 p4 p5 p6 p7 p8) scope lpos, .Name (Str.ofString x) px] [] pos) (.pv (.str (twinT text))) := ⟨.mk fun A E s φ H R ok lv eo Q k => by
 refine wpAny_Call_method_lateS (by rfl) (by rfl) hline ?_
 refine (Ev.global G hk hg hfd).run A E s φ H R ok lv eo _ fun V s1 k1 ok1 hV => ?_
 subst hV
 haveI hp1 : PatAt s1.heap pat := hpat.at fun b o e t => ok1.base _ _ e t
 obtain ⟨op, a1, t1, fl, tf, ct, hop, hoc, hdn, hd, nn, hct⟩ := id hp1
 refine ⟨"re.Pattern", "re.Pattern.sub", qi4, slot_resub, qq1, ⟨op, hop, hoc⟩, fun a ea => by cases ea; exact ⟨op, hop, hdn⟩, ?_⟩
 refine Calls.callWith_builtin (by rfl) (Calls.evalArgs_plain ?_)
 show wpAny _ _ (spliced (backTo pos (starEach [.Lambda params (q31 p1 p2 p3 p4 p5 p6 p7 p8) scope lpos, .Name (Str.ofString x) px] env))) _ _ _
 refine wpAny_items_cons (rest := [.Name (Str.ofString x) px]) (e := .Lambda params (q31 p1 p2 p3 p4 p5 p6 p7 p8) scope lpos) ?_ (by rfl)
 refine z16 ok1 G hT he hes hcode C ba hdef hcl fun fo c' pm h2 tk2 k2 ok2 hnone hf2 hrec2 => ?_
 refine wpAny_items_cons (rest := []) (e := .Name (Str.ofString x) px) ?_ (by rfl)
 obtain ⟨V, at0, d⟩ := ((eo.kp k1).kp k2).vars _ _ hm
 refine wpAny_Name (q04 G.g.kind at0 (wpAny_items_nil ?_)) hxd
 haveI d' : Den H h2 V (.str text) := d
 cases d' using Den.s with
 | str u =>
  have hp2 : PatAt h2 pat := hpat.at fun b o e t => ok2.base _ _ e t
  refine qs5 (s := { s1 with heap := h2, toks := tk2 }) (n := n + 1) ok2 R hp2 hf2 rfl hz (fun h3 L hL hLn hk3 => ?_) fun h3 tk3 v hk3 => ?_
  ·intro s' E' Q' fo' i cc hks ok' hmo hcc hQ
   have hfL : fo ≠ L := fun q => by rw [q] at hf2; rw [show h2.get? L = Option.none from hLn] at hf2; exact absurd hf2.symm (Option.some_ne_none _)
   refine qz5 (n := n) ok' R.in1 hline2 (hks _ _ hfL (hk3 _ _ hf2)) ?_ hsc hsk hco hgen (hbind pm c') hmo hcc hQ
   obtain ⟨c2, o2, vs2, t2, b1, b2, b3, b4⟩ := hrec2
   haveI hcL : c2 ≠ L := fun q => by rw [q] at b2; rw [show h2.get? L = Option.none from hLn] at b2; cases b2
   exact ⟨c2, o2, vs2, t2, b1, hks _ _ hcL (hk3 _ _ b2), b3, b4⟩
  refine k _ _ ((k1.trans k2).trans fun b o e t => .of (hk3 _ _ e)) (ok2.keeps hk3) (.str _ _)⟩
end
theorem qp4 (y : List Nat) : (esc2 y).length ≤ 9 * y.length := by
 haveI h1 := qa0 45 [92, 45] (rpl1 92 [92, 92] y)
 haveI h2 := qa0 92 [92, 92] y
 unfold esc2
 simp only [List.length_cons, List.length_nil] at h1 h2
 lia
section
variable {Γ : Cx} {n : Nat} {env : Env} {σ : St} {sc : Scope}
theorem qq6 {xs : List (List Nat)} {k : Nat} {f : List Nat → List Nat} (h : ∀ y ∈ xs, (f y).length ≤ k) : ((xs.map f).map List.length).sum ≤ xs.length * k := by
 induction xs with
 | nil => simp
 | cons y ys ih =>
  simp only [List.map_cons, List.sum_cons, List.length_cons, Nat.succ_mul]
  have := h y (.head _)
  have := ih fun z m => h z (.tail _ m)
  lia
theorem E.parts {P c : Addr} {es : List (Pos × Str)} {k0 k1 k2 k3 k4 : Nat} {p0 px gpos apos pos px' p1 p2 p3 p4 a1 a2 q1 q2 pl : Pos} {x l : String} {scope : Scope} {xs : List (List Nat)} {s0 s1 s2 s3 s4 : Str}
  (G : EnvS env sc) (hT : Γ.tabs = [(P, es)]) (he : (gpos, env.qual ++ "<genexpr>") ∈ es) (hes : ∀ e ∈ es, e = (gpos, env.qual ++ "<genexpr>") ∨ ((gpos.line : Int) == e.1.line && (gpos.col : Int) == e.1.col) = false)
  (hcode : env.code = .ref c) (C : CodeHd Γ.hB c P) (ba : BA Γ) (hline : (apos.endLine == pos.line) = true) (hl1 : (a1.endLine == q1.line) = true) (hl2 : (a2.endLine == q2.line) = true)
  (e0 : s0 = S [45]) (e1 : s1 = S [92]) (e2 : s2 = S [92, 92]) (e3 : s3 = S [45]) (e4 : s4 = S [92, 45])
  (hco : scope.isCoroutine = false) (hclos : closureFor scope env = pure []) (hcell : ∀ y ∈ scope.names, y.2 ≠ .cell) (h0 : scope.names.lookup (".0" : Str) = some NameKind.local) (hx : scope.names.lookup (Str.ofString x) = some .local) (hkind : scope.kind = .function)
  (hd : (Str.ofString x == ("__debug__" : Str)) = false) (hm : E Γ n env σ (.Name (Str.ofString l) pl) (.pv (.list (xs.map .str)))) (hz1 : xs.length ≤ 2 ^ 10) (hz2 : ∀ y ∈ xs, y.length ≤ 2 ^ 10) :
  E Γ n env σ (.Call (.Attribute (.Constant (.str s0) k0 p0) (Str.ofString "join") apos) [.GeneratorExp (.Call (.Attribute (.Call (.Attribute (.Name (Str.ofString x) px) (Str.ofString "replace") a1) [.Constant (.str s1) k1 p1, .Constant (.str s2) k2 p2] [] q1) (Str.ofString "replace") a2) [.Constant (.str s3) k3 p3, .Constant (.str s4) k4 p4] [] q2)
   [⟨.Name (Str.ofString x) px', .Name (Str.ofString l) pl, [], 0⟩] scope gpos] [] pos) (.pv (.str (jn [45] (xs.map esc2)))) := by
 refine ⟨Ev.joinGen G hT he hes hcode C ba e0 hline hco hclos hcell h0 hx hkind (fun v => by rfl) hm.run (by simp only [sizeLine]; lia) ?_ (fun A' E' cenv y t s₂ m₂ Q hy hA hsc hn hmx ht k => ?_) (fun env => by rfl)⟩
 ·have := qq6 (xs := xs) (k := 9 * 2 ^ 10) (f := esc2) fun y hy => Nat.le_trans (qp4 y) (Nat.mul_le_mul_left _ (hz2 y hy))
  haveI h3 : xs.length * (9 * 2 ^ 10) ≤ 2 ^ 10 * (9 * 2 ^ 10) := Nat.mul_le_mul_right _ hz1
  simp only [List.length_cons, List.length_nil]
  lia
 exact z74 e1 e2 e3 e4 hl1 hl2 (by rw [hsc]; exact hkind) (by rw [hsc]; exact hx) hd hn hmx ht (Nat.le_trans (hz2 y hy) (by decide)) k
end
end Mine
namespace Mine
open Builtin Builtin.Str StrLaws
theorem S_at (x : List Nat) (i : Nat) : (S x).cps.toList[i]? = x[i]? := by simp [S]
theorem z97 (x : List Nat) (c : Nat) : (!(occurrences (S x) (S [c]) 0 (S x).length 1).isEmpty) = x.contains c := by
 rw [Bool.eq_iff_iff, found_iff]
 haveI hy : S [c] = (⟨#[c]⟩ : Str) := rfl
 rw [hy, List.contains_iff_mem]
 constructor
 ·rintro ⟨i, h⟩
  have := (subAt_one (S x) c i).mp h
  rw [S_at] at this
  exact List.mem_of_getElem? this
 intro h
 obtain ⟨i, hi, he⟩ := List.getElem_of_mem h
 refine ⟨i, (subAt_one (S x) c i).mpr ?_⟩
 rw [S_at, List.getElem?_eq_getElem hi, he]
theorem z63 (x : List Nat) (c i j : Nat) (hj : j ≤ x.length) :
  (fnd x [c] i j = -1 ∧ ∀ v, i ≤ v → v < j → x[v]? ≠ some c) ∨
  ∃ k : Nat, fnd x [c] i j = (k : Int) ∧ i ≤ k ∧ k < j ∧ x[k]? = some c ∧ ∀ v, i ≤ v → v < k → x[v]? ≠ some c := by
 haveI hx : (S x).length = x.length := S_len x
 have f1 : ∀ k : Nat, fromIndex (S x).length (k : Int) = k := fun k => by
  unfold fromIndex
  rw [if_neg (by lia)]
  lia
 haveI f2 : min (fromIndex (S x).length (j : Int)) (S x).length = j := by rw [f1, hx]; lia
 have at1 : ∀ v : Nat, StrLaws.At (S x) (S [c]) j v ↔ v < j ∧ x[v]? = some c := fun v => by
  unfold StrLaws.At
  haveI hy : (S [c]).length = 1 := rfl
  rw [hy]
  constructor
  ·rintro ⟨h1, h2⟩
   have := (subAt_one (S x) c v).mp ⟨by rw [hx]; show v + 1 ≤ _; lia, h2⟩
   rw [S_at] at this
   exact ⟨by lia, this⟩
  rintro ⟨h1, h2⟩
  have := (subAt_one (S x) c v).mpr (by rw [S_at]; exact h2)
  exact ⟨by lia, this.2⟩
 unfold fnd fndS
 rw [f1, f2, occ_eq]
 rcases occ_first (S x) (S [c]) j 1 (Nat.le_refl 1) (List.range' i (j + 1 - i)) i (fun a ha => (List.mem_range'_1.mp ha).1) with ⟨h0, hn⟩ | ⟨pre, a, post, e, h0, ha, hn⟩
 ·rw [h0]
  refine .inl ⟨rfl, fun v h1 h2 he => hn v (by rw [List.mem_range'_1]; lia) ((at1 v).mpr ⟨h2, he⟩)⟩
 haveI hs := range'_split_from e
 generalize (forIn (List.range' i (j + 1 - i)) ((#[] : Array Nat), i) (occBody (S x) (S [c]) j 1)).run.fst = arr at h0
 have h1 : arr.toList[0]? = some a := by simpa using h0
 cases hL : arr.toList with
 | nil => rw [hL] at h1; nomatch h1
 | cons b t =>
  rw [hL] at h1
  simp at h1
  subst h1
  refine .inr ⟨b, rfl, hs.1, ((at1 b).mp ha).1, ((at1 b).mp ha).2, fun v hv1 hv2 he => hn v (hs.2 v hv1 hv2) ((at1 v).mpr ⟨?_, he⟩)⟩
  have := ((at1 b).mp ha).1
  lia
section
variable {Γ : Cx} {n : Nat} {env : Env} {σ : St}
theorem Cmp.notin_str {c : Nat} {x : List Nat} : Cmp Γ n .NotIn (PR (.pv (.str [c]))) (PR (.pv (.str x))) (!x.contains c) := fun A E s φ H V W R ok d1 d2 Q h => by
 cases d1 using Den.s; cases d2 using Den.s
 refine PyProof.Rows.notIn_str ?_
 have := z97 x c
 rw [show (⟨x.toArray⟩ : Str) = S x from rfl, show (⟨[c].toArray⟩ : Str) = S [c] from rfl, this]
 exact h
theorem B.notinC {l r : Expr} {pos : Pos} {c : Nat} {x : List Nat} (ha : E Γ n env σ l (.pv (.str [c]))) (hb : E Γ n env σ r (.pv (.str x))) (hm : behindInMarks .NotIn r = false) : B Γ n env σ (.Compare l [.NotIn] [r] pos) (!x.contains c) := ⟨Evb.cmp (mR _) Cmp.notin_str ha.run hb.run hm⟩
end
end Mine
namespace Mine
noncomputable def spc : List Nat := [40, 41, 91, 93, 123, 125, 63, 42, 43, 45, 124, 94, 36, 92, 46, 38, 126, 35, 32, 9, 10, 13, 11, 12]
noncomputable def escC (c : Nat) : List Nat := if spc.contains c then [92, c] else [c]
noncomputable def entOf (p : Nat × Tok × Tok) : DictEntry := { hash := (p.1 : Int), key := .int (p.1 : Int) p.2.1, val := .str (S [92, p.1]) p.2.2 }
theorem qy1 {prog : Program} {w : World} {l : List (Nat × Tok × Tok)} (hl : ∀ p ∈ l, hashInt (p.1 : Int) = (p.1 : Int)) : KeysOf (PySem.intKind prog w) (l.map entOf).toArray := fun e he => by
 obtain ⟨p, hp, rfl⟩ := List.mem_map.mp (List.mem_toArray.mp he)
 exact ⟨(p.1 : Int), by show ((p.1 : Int) == (p.1 : Int)) = true; simp, (hl p hp).symm⟩
theorem qy2 {l : List (Nat × Tok × Tok)} {c : Nat} (hl : l.map (·.1) = spc) : TrAt (fun k => findBy Value.isInt (l.map entOf).toArray k) c (escC c) := by
 haveI key : ∀ l : List (Nat × Tok × Tok), (c ∈ l.map (·.1) ∧ ∃ u, findBy Value.isInt (l.map entOf).toArray (c : Int) = some (.str (S [92, c]) u)) ∨ (c ∉ l.map (·.1) ∧ findBy Value.isInt (l.map entOf).toArray (c : Int) = none) := by
  intro l
  induction l with
  | nil => exact .inr ⟨by simp, rfl⟩
  | cons p l ih =>
   have e1 : findBy Value.isInt ((p :: l).map entOf).toArray (c : Int) = if (p.1 : Int) == (c : Int) then some (.str (S [92, p.1]) p.2.2) else findBy Value.isInt (l.map entOf).toArray (c : Int) := by
    unfold findBy
    simp only [List.find?_toArray, List.map_cons, List.find?_cons]
    show (match ((p.1 : Int) == (c : Int)) with | true => some (entOf p) | false => _).map _ = _
    cases ((p.1 : Int) == (c : Int)) <;> rfl
   rw [e1]
   by_cases h : p.1 = c
   ·subst h
    exact .inl ⟨by simp, _, by rw [if_pos (by simp)]⟩
   rw [if_neg (by simp; lia)]
   rcases ih with ⟨a, b⟩ | ⟨a, b⟩
   ·exact .inl ⟨by simp [a], b⟩
   exact .inr ⟨by simp only [List.map_cons, List.mem_cons, not_or]; exact ⟨fun e => h e.symm, a⟩, b⟩
 unfold TrAt escC
 rcases key l with ⟨a, u, b⟩ | ⟨a, b⟩
 ·rw [hl] at a
  rw [if_pos (List.contains_iff_mem.mpr a)]
  exact .inl ⟨u, b, rfl⟩
 rw [hl] at a
 rw [if_neg (fun q => a (List.contains_iff_mem.mp q))]
 exact .inr ⟨b, rfl⟩
theorem z27 {prog : Program} {w : World} {h : Heap} {d : Addr} {o : Obj} {l : List (Nat × Tok × Tok)} {k : Nat} (ho : h.get? d = some o) (hx : o.ExactDict) (hd : o.data = .dict (l.map entOf).toArray k) (hl : ∀ p ∈ l, hashInt (p.1 : Int) = (p.1 : Int)) :
  h.MapOf (PySem.intKind prog w) d (fun k => findBy Value.isInt (l.map entOf).toArray k) := ⟨o, _, _, ho, hx, hd, qy1 hl, fun k => rfl⟩
noncomputable abbrev Part := Option (List Nat)
noncomputable def PTv (a : Nat) : Part → PV
 | none => .obj a
 | some s => .str s
noncomputable def closeA (r : List Nat) : Nat := if r[0]? = some 33 then 1 else 0
noncomputable def closeB (r : List Nat) : Nat := closeA r + if r[closeA r]? = some 93 then 1 else 0
noncomputable def closeN (r : List Nat) : Nat := closeB r + ((r.drop (closeB r)).takeWhile (· != 93)).length
noncomputable def dashAt (m : Nat) (cur : List Nat) : Option Nat := ((cur.drop m).findIdx? (· == 45)).map (· + m)
noncomputable def chunksR : Nat → Nat → List Nat → List (List Nat) → Option (List (List Nat))
 | 0, _, _, _ => none
 | k + 1, m, cur, acc => match dashAt m cur with
  | some q => chunksR k 2 (cur.drop (q + 1)) (acc ++ [cur.take q])
  | none => if cur = [] then (match acc.getLast? with
    | some l => some (acc.dropLast ++ [l ++ [45]])
    | none => none) else some (acc ++ [cur])
noncomputable def merge1 (cs : List (List Nat)) (k : Nat) : Option (List (List Nat)) :=
 match cs[k - 1]?, cs[k]? with
 | some a, some b => match a.getLast?, b.head? with
  | some x, some y => if y < x then some ((cs.set (k - 1) (a.dropLast ++ b.tail)).eraseIdx k) else some cs
  | _, _ => none
 | _, _ => none
noncomputable def mergeR : List Nat → List (List Nat) → Option (List (List Nat))
 | [], cs => some cs
 | k :: ks, cs => (merge1 cs k).bind (mergeR ks)
noncomputable def downs (n : Nat) : List Nat := (List.range (n - 1)).map fun i => n - 1 - i
noncomputable def setR (t : List Nat) : Option (List Nat) :=
 if t.contains 45 then (chunksR (t.length + 1) (if t[0]? = some 33 then 2 else 1) t []).bind fun cs => (mergeR (downs cs.length) cs).map fun ms => jn [45] (ms.map esc2)
 else some (rpl1 92 [92, 92] t)
noncomputable def headR : List Nat → List Nat
 | [] => []
 | c :: r => if c = 33 then 94 :: r else if c = 94 ∨ c = 91 then 92 :: c :: r else c :: r
noncomputable def brkR (t : List Nat) : List Nat := if t = [] then [40, 63, 33, 41] else if t = [33] then [46] else [91] ++ headR t ++ [93]
noncomputable def trR : Nat → List Nat → List Part → Option (List Part)
 | 0, _, _ => none
 | k + 1, r, res => match r with
  | [] => some res
  | c :: r =>
   if c = 42 then trR k r (if res.getLast? = some none then res else res ++ [none])
   else if c = 63 then trR k r (res ++ [some [46]])
   else if c = 91 then
    if closeN r < r.length then (setR (r.take (closeN r))).bind fun t => trR k (r.drop (closeN r + 1)) (res ++ [some (brkR (twinT t))])
    else trR k r (res ++ [some [92, 91]])
   else trR k r (res ++ [some (escC c)])
theorem qa3 (n z : Nat) : clipAt n (z : Int) = min z n := by
 unfold clipAt
 rw [if_neg (Int.not_lt.mpr (Int.natCast_nonneg z))]
 rcases Nat.le_total z n with h | h
 ·rw [Nat.min_eq_left h, Int.min_eq_left (Int.ofNat_le.mpr h), Int.max_eq_right (Int.natCast_nonneg _)]; rfl
 rw [Nat.min_eq_right h, Int.min_eq_right (Int.ofNat_le.mpr h), Int.max_eq_right (Int.natCast_nonneg _)]; rfl
theorem qg9 (n k : Nat) : clipAt n (-((k + 1 : Nat) : Int)) = n - (k + 1) := by
 unfold clipAt
 rw [if_pos (Int.neg_neg_of_pos (Int.natCast_pos.mpr (Nat.succ_pos k))), Int.add_comm, ← Int.sub_eq_add_neg, Int.min_eq_left (Int.sub_le_self _ (Int.natCast_nonneg _))]
 rcases Int.le_total 0 ((n : Int) - ((k + 1 : Nat) : Int)) with h | h
 ·rw [Int.max_eq_right h, Int.toNat_sub]
 rw [Int.max_eq_left h, Nat.sub_eq_zero_of_le (Int.ofNat_le.mp (Int.le_of_sub_nonpos h))]; rfl
theorem neg1 (n : Nat) : ((-1 : Int) + (n : Int)).toNat = n - 1 := by rw [Int.add_comm]; exact Int.toNat_sub n 1
theorem q58 {α : Type} (a b : Nat) (xs : List α) : cut (some (a : Int)) (some (b : Int)) xs = (xs.take b).drop a := by
 unfold cut lowAt q49
 show (xs.drop (clipAt xs.length a)).take (clipAt xs.length b - clipAt xs.length a) = _
 rw [qa3, qa3, List.drop_take]
 by_cases h : a ≤ xs.length
 ·rw [Nat.min_eq_left h]
  by_cases h2 : b ≤ xs.length
  ·rw [Nat.min_eq_left h2]
  rw [Nat.min_eq_right (by lia)]
  rw [List.take_of_length_le (by simp), List.take_of_length_le (by simp; lia)]
 rw [List.drop_of_length_le (l := xs) (i := min a xs.length) (by lia), List.drop_of_length_le (l := xs) (i := a) (by lia)]; simp
theorem qp7 {α : Type} (xs : List α) : cut none (some (-1)) xs = xs.dropLast := by
 unfold cut lowAt q49
 show (xs.drop 0).take (clipAt xs.length (-1) - 0) = _
 haveI : clipAt xs.length (-1) = xs.length - 1 := qg9 _ 0
 rw [this, List.drop_zero, Nat.sub_zero, List.dropLast_eq_take]
theorem qt6 {pat : List Nat} {y J v : Nat} (hv : y ≤ v) (hJ : v < J) : ((pat.take J).drop y)[v - y]? = pat[v]? := by
 rw [List.getElem?_drop, List.getElem?_take]
 rw [if_pos (by lia)]
 congr 1; lia
theorem qy8 {m : Nat} {cur : List Nat} (h : ∀ v, m ≤ v → v < cur.length → cur[v]? ≠ some 45) : dashAt m cur = none := by
 unfold dashAt
 have : (cur.drop m).findIdx? (· == 45) = none := by
  rw [List.findIdx?_eq_none_iff]
  intro x hx
  obtain ⟨i, hi, rfl⟩ := List.getElem_of_mem hx
  rw [List.getElem_drop]
  have hi' : m + i < cur.length := by simp at hi; lia
  have := h (m + i) (by lia) hi'
  rw [List.getElem?_eq_getElem hi'] at this
  simpa using this
 rw [this]; rfl
theorem qy7 {m q : Nat} {cur : List Nat} (hm : m ≤ q) (hq : cur[q]? = some 45) (h : ∀ v, m ≤ v → v < q → cur[v]? ≠ some 45) : dashAt m cur = some q := by
 unfold dashAt
 have hql : q < cur.length := (List.getElem?_eq_some_iff.mp hq).1
 haveI : (cur.drop m).findIdx? (· == 45) = some (q - m) := by
  rw [List.findIdx?_eq_some_iff_getElem]
  refine ⟨by simp; lia, ?_, fun j hj => ?_⟩
  ·rw [List.getElem_drop]
   haveI : cur[m + (q - m)]? = some 45 := by rw [show m + (q - m) = q by lia]; exact hq
   rw [List.getElem?_eq_getElem (by lia)] at this
   simpa using this
  rw [List.getElem_drop]
  haveI h2 := h (m + j) (by lia) (by lia)
  rw [List.getElem?_eq_getElem (by lia)] at h2
  simpa using h2
 rw [this]
 show some (q - m + m) = _
 rw [show q - m + m = q by lia]
theorem z29 {pat : List Nat} {y m J : Nat} (hy : y ≤ J) (hJ : J ≤ pat.length) :
  (fnd pat [45] ((y + m : Nat) : Int) J = -1 ∧ dashAt m ((pat.take J).drop y) = none) ∨
  ∃ q, fnd pat [45] ((y + m : Nat) : Int) J = ((y + q : Nat) : Int) ∧ m ≤ q ∧ y + q < J ∧ dashAt m ((pat.take J).drop y) = some q := by
 have hl : ((pat.take J).drop y).length = J - y := by simp; lia
 rcases z63 pat 45 (y + m) J hJ with ⟨h1, h2⟩ | ⟨k, h1, h2, h3, h4, h5⟩
 ·refine .inl ⟨h1, qy8 fun v hv hv2 => ?_⟩
  rw [hl] at hv2
  have := h2 (y + v) (by lia) (by lia)
  rw [← qt6 (pat := pat) (y := y) (J := J) (by lia) (by lia)] at this
  rwa [show y + v - y = v by lia] at this
 refine .inr ⟨k - y, by rw [h1, show y + (k - y) = k by lia], by lia, by lia, qy7 (by lia) ?_ fun v hv hv2 => ?_⟩
 ·rw [qt6 (by lia) h3]; exact h4
 have := h5 (y + v) (by lia) (by lia)
 rw [← qt6 (pat := pat) (y := y) (J := J) (by lia) (by lia)] at this
 rwa [show y + v - y = v by lia] at this
noncomputable def tot (cs : List (List Nat)) : Nat := (cs.map List.length).sum + cs.length
theorem q33 (a b : List (List Nat)) : tot (a ++ b) = tot a + tot b := by unfold tot; rw [List.map_append, List.sum_append, List.length_append]; lia
theorem q32 (a : List Nat) : tot [a] = a.length + 1 := by simp [tot]
theorem q80 (cs : List (List Nat)) : cs.length ≤ tot cs := Nat.le_add_left ..
theorem qf0 {cs : List (List Nat)} {y : List Nat} (h : y ∈ cs) : y.length < tot cs := by
 induction cs with
 | nil => cases h
 | cons a cs ih =>
  have e : tot (a :: cs) = a.length + 1 + tot cs := by show tot ([a] ++ cs) = _; rw [q33, q32]
  rcases List.mem_cons.mp h with rfl | m
  ·lia
  have := ih m; lia
theorem qr8 {cs : List (List Nat)} {l : List Nat} (h : cs.getLast? = some l) : cs = cs.dropLast ++ [l] := by
 cases cs with
 | nil => exact absurd h.symm (Option.some_ne_none _)
 | cons a r =>
  have := List.dropLast_concat_getLast (l := a :: r) (by simp)
  rw [List.getLast?_eq_some_getLast (by simp)] at h
  rw [← Option.some.inj h]; exact this.symm
theorem z08 {α : Type} {xs : List α} {v : α} (h : xs ≠ []) : xs.set (xs.length - 1) v = xs.dropLast ++ [v] := by
 have := List.dropLast_concat_getLast h
 haveI hl : xs.dropLast.length = xs.length - 1 := List.length_dropLast
 calc xs.set (xs.length - 1) v = (xs.dropLast ++ [xs.getLast h]).set (xs.length - 1) v := by rw [this]
  _ = _ := by rw [List.set_append_right _ _ (by lia), hl, Nat.sub_self]; rfl
theorem qb9 {cs c : List (List Nat)} {k : Nat} (h : merge1 cs k = some c) : ∃ a b x y, cs[k - 1]? = some a ∧ cs[k]? = some b ∧ a.getLast? = some x ∧ b.head? = some y ∧ c = (if y < x then (cs.set (k - 1) (a.dropLast ++ b.tail)).eraseIdx k else cs) := by
 unfold merge1 at h
 cases h1 : cs[k - 1]? with
 | none => rw [h1] at h; exact absurd h.symm (Option.some_ne_none _)
 | some a =>
  cases h2 : cs[k]? with
  | none => rw [h1, h2] at h; exact absurd h.symm (Option.some_ne_none _)
  | some b =>
   rw [h1, h2] at h
   cases h3 : a.getLast? with
   | none => simp [h3] at h
   | some x =>
    cases h4 : b.head? with
    | none => simp [h3, h4] at h
    | some y =>
     simp only [h3, h4] at h
     refine ⟨a, b, x, y, rfl, rfl, h3, h4, ?_⟩
     split at h <;> rename_i q <;> simp only [q, if_true, if_false] <;> exact (Option.some.inj h).symm
theorem qt5 {cs : List (List Nat)} {k : Nat} {b : List Nat} (h : cs[k]? = some b) : tot cs = tot (cs.eraseIdx k) + b.length + 1 := by
 induction cs generalizing k with
 | nil => simp at h
 | cons a cs ih =>
  have e : ∀ l : List (List Nat), tot (a :: l) = a.length + 1 + tot l := fun l => by show tot ([a] ++ l) = _; rw [q33, q32]
  cases k with
  | zero => cases h; rw [e]; simp; lia
  | succ k =>
   have := ih (k := k) (by simpa using h)
   rw [e, List.eraseIdx_cons_succ, e]; lia
theorem z48 {cs : List (List Nat)} {k : Nat} {a v : List Nat} (h : cs[k]? = some a) : tot (cs.set k v) + a.length = tot cs + v.length := by
 induction cs generalizing k with
 | nil => simp at h
 | cons b cs ih =>
  have e : ∀ (b : List Nat) (l : List (List Nat)), tot (b :: l) = b.length + 1 + tot l := fun b l => by show tot ([b] ++ l) = _; rw [q33, q32]
  cases k with
  | zero => cases h; rw [List.set_cons_zero, e, e]; lia
  | succ k =>
   have := ih (k := k) (by simpa using h)
   rw [List.set_cons_succ, e, e]; lia
theorem qe3 {cs c : List (List Nat)} {k : Nat} (hk : 1 ≤ k) (h : merge1 cs k = some c) : tot c ≤ tot cs := by
 obtain ⟨a, b, x, y, h1, h2, h3, h4, rfl⟩ := qb9 h
 split
 ·haveI e1 : (cs.set (k - 1) (a.dropLast ++ b.tail))[k]? = some b := by rw [List.getElem?_set_ne (by lia)]; exact h2
  haveI t1 := qt5 e1
  haveI t2 := z48 (v := a.dropLast ++ b.tail) h1
  rw [List.length_append, List.length_dropLast, List.length_tail, t1] at t2
  refine Nat.le_of_add_le_add_right (b := b.length + 1 + a.length) ?_
  rw [← Nat.add_assoc, ← Nat.add_assoc, t2]
  exact Nat.add_le_add_left (Nat.le_trans (Nat.add_le_add (Nat.sub_le a.length 1) (Nat.sub_le b.length 1)) (by rw [Nat.add_comm a.length]; exact Nat.add_le_add_right (Nat.le_succ _) _)) _
 exact Nat.le_refl _
theorem qp5 {n i k : Nat} (h : (downs n)[i]? = some k) : 1 ≤ k ∧ k < n := by
 unfold downs at h
 rw [List.getElem?_map] at h
 obtain ⟨j, hj, rfl⟩ := Option.map_eq_some_iff.mp h
 have q := List.mem_range.mp (List.mem_of_getElem? hj)
 exact ⟨Nat.sub_pos_of_lt q, Nat.lt_of_le_of_lt (Nat.sub_le ..) (Nat.sub_one_lt_of_lt (Nat.lt_of_lt_of_le q (Nat.sub_le ..)))⟩
theorem qr2 (n : Nat) : rngD ((n : Int) - 1) 0 = (downs n).map fun k : Nat => (k : Int) := by
 unfold rngD downs
 rw [List.map_map, show ((n : Int) - 1 - 0).toNat = n - 1 from by rw [Int.sub_zero]; exact Int.toNat_sub n 1]
 refine List.map_congr_left fun i hi => ?_
 have := List.mem_range.mp hi
 show (n : Int) - 1 - (i : Int) = ((n - 1 - i : Nat) : Int)
 rw [Int.natCast_sub (Nat.le_of_lt this), Int.natCast_sub (Nat.le_trans (Nat.succ_le_of_lt (Nat.lt_of_le_of_lt (Nat.zero_le i) this)) (Nat.sub_le ..))]; rfl
theorem z32 (r : List Nat) : closeN r ≤ r.length := by
 have h1 : closeA r ≤ r.length := by
  unfold closeA
  split
  ·rename_i h; have := (List.getElem?_eq_some_iff.mp h).1; lia
  lia
 have h2 : closeB r ≤ r.length := by
  unfold closeB
  split
  ·rename_i h; have := (List.getElem?_eq_some_iff.mp h).1; lia
  lia
 unfold closeN
 have := (List.takeWhile_sublist (l := r.drop (closeB r)) (· != 93)).length_le
 rw [List.length_drop] at this
 lia
theorem qu4 {pat : List Nat} {j : Nat} (h : j < pat.length ∧ pat[j]? ≠ some 93) : j + ((pat.drop j).takeWhile (· != 93)).length = (j + 1) + ((pat.drop (j + 1)).takeWhile (· != 93)).length := by
 rw [List.drop_eq_getElem_cons h.1, List.takeWhile_cons]
 haveI : (pat[j] != 93) = true := by
  have := h.2
  rw [List.getElem?_eq_getElem h.1] at this
  simpa using this
 rw [this]
 simp only [if_true, List.length_cons]
 lia
theorem qu3 {pat : List Nat} {j : Nat} (h : ¬ (j < pat.length ∧ pat[j]? ≠ some 93)) : j + ((pat.drop j).takeWhile (· != 93)).length = j := by
 by_cases hj : j < pat.length
 ·haveI h93 : pat[j]? = some 93 := Classical.byContradiction fun e => h ⟨hj, e⟩
  rw [List.drop_eq_getElem_cons hj, List.takeWhile_cons]
  rw [List.getElem?_eq_getElem hj] at h93
  rw [Option.some.inj h93]
  simp
 rw [List.drop_of_length_le (by lia)]; simp
theorem qt7 (cs : List (List Nat)) (k : Nat) (v : List Nat) : (cs.map PV.str).set k (.str v) = (cs.set k v).map PV.str := by rw [List.map_set]
theorem qt8 (cs : List (List Nat)) (k : Nat) : (cs.map PV.str).eraseIdx k = (cs.eraseIdx k).map PV.str := by
 induction cs generalizing k with
 | nil => rfl
 | cons a cs ih => cases k with
  | zero => rfl
  | succ k => simp [ih]
section
variable {Γ : Cx} {n : Nat} {env : Env} {σ : St}
theorem E.addE {l r : Expr} {pos : Pos} {a b c : Int} (ha : E Γ n env σ l (.pv (.int a))) (hb : E Γ n env σ r (.pv (.int b))) (hc : a + b = c) : E Γ n env σ (.BinOp l .Add r pos) (.pv (.int c)) := hc ▸ E.add ha hb
theorem E.subE {l r : Expr} {pos : Pos} {a b c : Int} (ha : E Γ n env σ l (.pv (.int a))) (hb : E Γ n env σ r (.pv (.int b))) (hc : a - b = c) : E Γ n env σ (.BinOp l .Sub r pos) (.pv (.int c)) := hc ▸ E.sub ha hb
theorem E.appA {sc : Scope} {x : String} {p pos : Pos} {k : Nat} {xs : List PV} (G : EnvS env sc) (hm : (x, RV.ptr k) ∈ σ.v) (ho : (k, xs) ∈ σ.o) (hd : (Str.ofString x == ("__debug__" : Str)) = false)
  (he : eval (.Attribute (.Name (Str.ofString x) p) (Str.ofString "append") pos) env = (do
   let o ← eval (.Name (Str.ofString x) p) env
   standAt pos.atName
   let r ← holding [o] (getAttr o (Str.ofString "append") true)
   letTemporaryGo (.Name (Str.ofString x) p) o r
   pure r)) : E Γ n env σ (.Attribute (.Name (Str.ofString x) p) (Str.ofString "append") pos) (.app k) := ⟨Ev.appAttr G.g hm ho hd he⟩
theorem B.atEq {lt1 lt2 : Pos} {ej en e1 ej' er : Expr} {bpos sp : Pos} {pat : List Nat} {j : Nat} {c : Nat} (h1 : E Γ n env σ ej (.pv (.int j))) (h2 : E Γ n env σ en (.pv (.int pat.length))) (h3 : E Γ n env σ e1 (.pv (.str pat))) (h4 : E Γ n env σ ej' (.pv (.int j))) (h5 : E Γ n env σ er (.pv (.str [c]))) (hz : pat.length ≤ 2 ^ 20)
  (hm1 : behindInMarks .Lt en = false) (hm2 : behindInMarks .Eq er = false) (hsub : ∀ o i, subscripted ej' false o i = operate [o, i] (getItem o i)) :
  B Γ n env σ (.BoolOp .And [.Compare ej [.Lt] [en] lt1, .Compare (.Subscript e1 ej' sp) [.Eq] [er] lt2] bpos) (decide (pat[j]? = some c)) := by
 by_cases h : j < pat.length
 ·have hg : pat[j]? = some pat[j] := List.getElem?_eq_getElem h
  have hb := B.and (pos := bpos) (B.lti (pos := lt1) h1 h2 hm1) fun _ => B.and (pos := bpos) (B.eqs (pos := lt2) (a := [pat[j]]) (E.items (pos := sp) h3 h4 (by lia) (sat hg) hsub) h5 hm2) fun _ => B.and0
  have e : (decide ((j : Int) < (pat.length : Int)) && (([pat[j]] == [c]) && true)) = decide (pat[j]? = some c) := by
   rw [hg]
   have : decide ((j : Int) < (pat.length : Int)) = true := decide_eq_true (by lia)
   rw [this, Bool.true_and, Bool.and_true]
   by_cases q : pat[j] = c
   ·rw [q]; simp
   simp [q]
  exact e ▸ hb
 haveI hg : pat[j]? = Option.none := List.getElem?_eq_none (by lia)
 haveI hb := B.and (pos := bpos) (c := false) (rest := [.Compare (.Subscript e1 ej' sp) [.Eq] [er] lt2]) (B.lti (pos := lt1) h1 h2 hm1) fun e => absurd e (by rw [decide_eq_false (by lia)]; decide)
 haveI e : (decide ((j : Int) < (pat.length : Int)) && false) = decide (pat[j]? = some c) := by rw [hg]; simp
 exact e ▸ hb
theorem B.atNe {lt1 lt2 : Pos} {ej en e1 ej' er : Expr} {bpos sp : Pos} {pat : List Nat} {j : Nat} {c : Nat} (h1 : E Γ n env σ ej (.pv (.int j))) (h2 : E Γ n env σ en (.pv (.int pat.length))) (h3 : E Γ n env σ e1 (.pv (.str pat))) (h4 : E Γ n env σ ej' (.pv (.int j))) (h5 : E Γ n env σ er (.pv (.str [c]))) (hz : pat.length ≤ 2 ^ 20)
  (hm1 : behindInMarks .Lt en = false) (hm2 : behindInMarks .NotEq er = false) (hsub : ∀ o i, subscripted ej' false o i = operate [o, i] (getItem o i)) :
  B Γ n env σ (.BoolOp .And [.Compare ej [.Lt] [en] lt1, .Compare (.Subscript e1 ej' sp) [.NotEq] [er] lt2] bpos) (decide (j < pat.length ∧ pat[j]? ≠ some c)) := by
 by_cases h : j < pat.length
 ·have hg : pat[j]? = some pat[j] := List.getElem?_eq_getElem h
  have hb := B.and (pos := bpos) (B.lti (pos := lt1) h1 h2 hm1) fun _ => B.and (pos := bpos) (B.nes (pos := lt2) (a := [pat[j]]) (E.items (pos := sp) h3 h4 (by lia) (sat hg) hsub) h5 hm2) fun _ => B.and0
  have e : (decide ((j : Int) < (pat.length : Int)) && (([pat[j]] != [c]) && true)) = decide (j < pat.length ∧ pat[j]? ≠ some c) := by
   rw [hg]
   have : decide ((j : Int) < (pat.length : Int)) = true := decide_eq_true (by lia)
   rw [this, Bool.true_and, Bool.and_true]
   by_cases q : pat[j] = c
   ·rw [q]; simp
   simp [q, h]
  exact e ▸ hb
 haveI hb := B.and (pos := bpos) (c := false) (rest := [.Compare (.Subscript e1 ej' sp) [.NotEq] [er] lt2]) (B.lti (pos := lt1) h1 h2 hm1) fun e => absurd e (by rw [decide_eq_false (by lia)]; decide)
 haveI e : (decide ((j : Int) < (pat.length : Int)) && false) = decide (j < pat.length ∧ pat[j]? ≠ some c) := by simp [h]
 exact e ▸ hb
end
theorem qc9 : ∀ (k m : Nat) (cur : List Nat) (acc cs : List (List Nat)), chunksR k m cur acc = some cs → tot cs ≤ tot acc + cur.length + 1 := by
 intro k
 induction k with
 | zero => exact fun _ _ _ _ h => nomatch h
 | succ k ih =>
  intro m cur acc cs h
  unfold chunksR at h
  cases hq : dashAt m cur with
  | some q =>
   rw [hq] at h
   have := ih 2 _ _ _ h
   rw [q33, q32, List.length_take, List.length_drop] at this
   have hql : q < cur.length := by
    unfold dashAt at hq
    obtain ⟨j, hj, rfl⟩ := Option.map_eq_some_iff.mp hq
    rw [List.findIdx?_eq_some_iff_getElem] at hj
    obtain ⟨hl, _⟩ := hj
    simp at hl; lia
   lia
  | none =>
   rw [hq] at h
   dsimp only at h
   split at h
   ·cases hl : acc.getLast? with
    | none => rw [hl] at h; exact absurd h.symm (Option.some_ne_none _)
    | some l =>
     rw [hl] at h
     cases h
     have := qr8 hl
     haveI e : tot acc = tot acc.dropLast + (l.length + 1) := by rw [this, q33, q32]; simp
     rw [q33, q32, List.length_append, List.length_singleton]
     lia
   cases h
   rw [q33, q32]; lia
theorem qe2 : ∀ (ks : List Nat) (cs ms : List (List Nat)), (∀ k ∈ ks, 1 ≤ k) → mergeR ks cs = some ms → tot ms ≤ tot cs
 | [], cs, ms, _, h => by cases h; exact Nat.le_refl _
 | k :: ks, cs, ms, hk, h => by
  unfold mergeR at h
  cases q : merge1 cs k with
  | none => rw [q] at h; nomatch h
  | some c =>
   rw [q] at h
   exact Nat.le_trans (qe2 ks c ms (fun j m => hk j (.tail _ m)) h) (qe3 (hk k (.head _)) q)
theorem qy4 (n : Nat) : ∀ k ∈ downs n, 1 ≤ k := fun k m => by
 obtain ⟨i, hi, e⟩ := List.getElem_of_mem m
 exact (qp5 (n := n) (i := i) (by rw [List.getElem?_eq_getElem hi, e])).1
theorem qx1 (sep : List Nat) : ∀ l : List (List Nat), (jn sep l).length ≤ (l.map List.length).sum + l.length * sep.length
 | [] => Nat.zero_le _
 | [a] => by show a.length ≤ _; simp
 | a :: b :: l => by
  have := qx1 sep (b :: l)
  show (a ++ sep ++ jn sep (b :: l)).length ≤ _
  rw [List.length_append, List.length_append, List.map_cons, List.sum_cons, List.length_cons, Nat.succ_mul]
  lia
theorem z24 (ms : List (List Nat)) : ((ms.map esc2).map List.length).sum ≤ 9 * tot ms := by
 induction ms with
 | nil => exact Nat.zero_le _
 | cons a ms ih =>
  have e : tot (a :: ms) = a.length + 1 + tot ms := by show tot ([a] ++ ms) = _; rw [q33, q32]
  have := qp4 a
  simp only [List.map_cons, List.sum_cons]
  lia
theorem z09 {s t : List Nat} (h : setR s = some t) : t.length ≤ 10 * (s.length + 1) := by
 unfold setR at h
 split at h
 ·obtain ⟨cl, h1, h2⟩ := Option.bind_eq_some_iff.mp h
  obtain ⟨ms, h3, rfl⟩ := Option.map_eq_some_iff.mp h2
  haveI a1 := qc9 _ _ _ _ _ h1
  haveI a2 := qe2 _ _ _ (qy4 _) h3
  haveI a3 := qx1 [45] (ms.map esc2)
  haveI a4 := z24 ms
  haveI a5 := q80 ms
  haveI e : tot [] = 0 := rfl
  simp only [List.length_map, List.length_singleton] at a3
  lia
 cases h
 have := qa0 92 [92, 92] s
 simp only [List.length_cons, List.length_nil] at this
 lia
theorem z95 {x : List Nat} {c : Nat} (h : x.getLast? = some c) : (seqIndex? (-1) x.length).bind (x[·]?) = some c := by
 rw [List.getLast?_eq_getElem?] at h
 haveI hl := (List.getElem?_eq_some_iff.mp h).1
 rw [seqIndex_neg (by decide) (by lia), neg1]
 exact h
theorem z38 (x y : Nat) : decide (([y] : List Nat) < [x]) = decide (y < x) := by
 rw [StrLaws.lt_cons_cons]; simp
noncomputable def runN (l : List Part) : Nat := (l.takeWhile (·.isSome)).length
noncomputable def txts (l : List Part) : List (List Nat) := l.map (·.getD [])
noncomputable def loopR : Nat → List Part → List (List Nat) → Option (List (List Nat))
 | 0, _, _ => none
 | k + 1, l, acc => match l with
  | [] => some acc
  | some _ :: _ => none
  | none :: r => if r = [] then some (acc ++ [[46, 42]]) else if runN r = 0 then none
   else if r.drop (runN r) = [] then some (acc ++ [[46, 42], jn [] (txts (r.take (runN r)))])
   else loopR k (r.drop (runN r)) (acc ++ [[40, 63, 62, 46, 42, 63] ++ jn [] (txts (r.take (runN r))) ++ [41]])
noncomputable def joinR (l : List Part) : Option (List Nat) := (loopR (l.length + 1) (l.drop (runN l)) (txts (l.take (runN l)))).map fun acc => [40, 63, 115, 58] ++ jn [] acc ++ [41, 92, 90]
theorem qo2 {l : List Part} {i : Nat} {s : List Nat} (h : l[i]? = some (some s)) : i + runN (l.drop i) = (i + 1) + runN (l.drop (i + 1)) := by
 obtain ⟨hi, e⟩ := List.getElem?_eq_some_iff.mp h
 unfold runN
 rw [List.drop_eq_getElem_cons hi, e, List.takeWhile_cons]
 simp only [Option.isSome_some, if_true, List.length_cons]
 lia
theorem qf1 {l : List Part} {i : Nat} (h : ∀ s, l[i]? ≠ some (some s)) : runN (l.drop i) = 0 := by
 unfold runN
 by_cases hi : i < l.length
 ·rw [List.drop_eq_getElem_cons hi, List.takeWhile_cons]
  haveI : l[i].isSome = false := by
   cases q : l[i] with
   | none => rfl
   | some s => exact absurd (by rw [List.getElem?_eq_getElem hi, q]) (h s)
  rw [this]; rfl
 rw [List.drop_of_length_le (by lia)]; rfl
theorem z36 (l : List Part) : runN l ≤ l.length := (List.takeWhile_sublist (l := l) _).length_le
noncomputable def wt (l : List Part) : Nat := (l.map fun p => (p.getD []).length + 10).sum
theorem qt2 (a b : List Part) : wt (a ++ b) = wt a + wt b := by unfold wt; rw [List.map_append, List.sum_append]
theorem qa5 (p : Part) (l : List Part) : wt (p :: l) = (p.getD []).length + 10 + wt l := by unfold wt; rw [List.map_cons, List.sum_cons]
theorem qt1 (l : List Part) : ((txts l).map List.length).sum ≤ wt l := by
 induction l with
 | nil => exact Nat.le_refl _
 | cons p l ih =>
  rw [qa5]
  show ((p.getD []).length :: ((txts l).map List.length)).sum ≤ _
  dsimp only [List.sum_cons]; lia
theorem q84 (l : List (List Nat)) : (jn [] l).length ≤ (l.map List.length).sum := by
 have := qx1 [] l
 simpa using this
theorem qh5 {l : List Part} {i : Nat} {s : List Nat} (h : l[i]? = some (some s)) (b : Nat) (hb : b ≤ i) : txts ((l.take (i + 1)).drop b) = txts ((l.take i).drop b) ++ [s] := by
 obtain ⟨hi, e⟩ := List.getElem?_eq_some_iff.mp h
 unfold txts
 rw [List.take_succ_eq_append_getElem hi, List.drop_append_of_le_length (by simp; lia), List.map_append, e]
 rfl
section
variable {Γ : Cx} {n : Nat} {env : Env} {σ : St}
theorem B.fixAt {lt1 lt2 : Pos} {ei en e1 ei' er : Expr} {bpos sp : Pos} {l : List Part} {i a : Nat} (h1 : E Γ n env σ ei (.pv (.int i))) (h2 : E Γ n env σ en (.pv (.int l.length))) (h3 : E Γ n env σ e1 (.pv (.list (l.map (PTv a))))) (h4 : E Γ n env σ ei' (.pv (.int i))) (h5 : E Γ n env σ er (.pv (.obj a))) (hz : l.length ≤ 2 ^ 20)
  (hm1 : behindInMarks .Lt en = false) (hm2 : behindInMarks .IsNot er = false) (hsub : ∀ o i, subscripted ei' false o i = operate [o, i] (getItem o i)) :
  B Γ n env σ (.BoolOp .And [.Compare ei [.Lt] [en] lt1, .Compare (.Subscript e1 ei' sp) [.IsNot] [er] lt2] bpos) (l[i]?.bind id).isSome := by
 by_cases h : i < l.length
 ·haveI hlt : decide ((i : Int) < (l.length : Int)) = true := decide_eq_true (by lia)
  have hg : (l.map (PTv a))[((i : Nat) : Int).toNat]? = some (PTv a l[i]) := by rw [Int.toNat_natCast, List.getElem?_map, List.getElem?_eq_getElem h]; rfl
  cases q : l[i] with
  | none =>
   rw [q] at hg
   have hb := B.and (pos := bpos) (B.lti (pos := lt1) h1 h2 hm1) fun _ => B.and (pos := bpos) (B.isnotO (pos := lt2) (a := a) (b := a) (E.iteml (pos := sp) (EL.of h3) h4 (by lia) (by lia) hg hsub) h5 hm2) fun _ => B.and0
   have e : (decide ((i : Int) < (l.length : Int)) && ((a != a) && true)) = (l[i]?.bind id).isSome := by
    rw [hlt, List.getElem?_eq_getElem h, q]; simp
   exact e ▸ hb
  | some s =>
   rw [q] at hg
   haveI hb := B.and (pos := bpos) (B.lti (pos := lt1) h1 h2 hm1) fun _ => B.and (pos := bpos) (B.isnotS (pos := lt2) (a := s) (b := a) (E.iteml (pos := sp) (EL.of h3) h4 (by lia) (by lia) hg hsub) h5 hm2) fun _ => B.and0
   have e : (decide ((i : Int) < (l.length : Int)) && (true && true)) = (l[i]?.bind id).isSome := by
    rw [hlt, List.getElem?_eq_getElem h, q]; rfl
   exact e ▸ hb
 have hb := B.and (pos := bpos) (c := false) (rest := [.Compare (.Subscript e1 ei' sp) [.IsNot] [er] lt2]) (B.lti (pos := lt1) h1 h2 hm1) fun e => absurd e (by rw [decide_eq_false (by lia)]; decide)
 have e : (decide ((i : Int) < (l.length : Int)) && false) = (l[i]?.bind id).isSome := by rw [List.getElem?_eq_none (by lia)]; simp
 exact e ▸ hb
end
theorem qp1 {l : List Part} {i : Nat} (h : (l[i]?.bind id).isSome = true) : ∃ s, l[i]? = some (some s) := by
 cases q : l[i]? with
 | none => rw [q] at h; exact absurd h Bool.false_ne_true
 | some p => cases p with
  | none => rw [q] at h; nomatch h
  | some s => exact ⟨s, rfl⟩
theorem qp2 {l : List Part} {i : Nat} (h : (l[i]?.bind id).isSome = false) : ∀ s, l[i]? ≠ some (some s) := fun s e => by rw [e] at h; exact absurd h.symm Bool.false_ne_true
noncomputable def bareG (x y : List Nat) : List Nat := if x = [33] then [33] else if x = [45] then [45] else if x = [33, 45] then [91, 45, 33, 93] else y
theorem S_inj {a b : List Nat} : S a = S b ↔ a = b := by
 constructor
 ·intro h
  have := congrArg (fun s : Str => s.cps.toList) h
  simpa [S] using this
 intro h; rw [h]
theorem z80 (x : List Nat) (a b c : Value) : valueAt (merged [] [(S [33], a), (S [45], b), (S [33, 45], c)]) (S x) = if x = [33] then some a else if x = [45] then some b else if x = [33, 45] then some c else none := by
 haveI e : merged [] [(S [33], a), (S [45], b), (S [33, 45], c)] = [(S [33], a), (S [45], b), (S [33, 45], c)] := by
  rfl
 rw [e]
 unfold valueAt
 dsimp only [List.find?_cons, List.find?_nil]
 by_cases h1 : x = [33]
 ·subst h1; simp
 by_cases h2 : x = [45]
 ·subst h2; simp [S_inj]
 by_cases h3 : x = [33, 45]
 ·subst h3; simp [S_inj]
 simp [S_inj, h1, h2, h3, Ne.symm h1, Ne.symm h2, Ne.symm h3, eq_comm]
section
variable {Γ : Cx} {n : Nat} {env : Env} {σ : St} {sc : Scope}
theorem E.bareGet {dpos apos pos q1 q2 q3 q4 q5 q6 p1 p2 p3 b1 b2 b3 : Pos} {a1 a2 a3 a4 a5 a6 k1 k2 : Nat} {xv : String} {x : List Nat} (G : EnvS env sc) (hm : (xv, RV.pv (.str x)) ∈ σ.v) (hd : (Str.ofString xv == ("__debug__" : Str)) = false) (hz : x.length ≤ 2 ^ 20) (hline : (apos.endLine == pos.line) = true) :
  E Γ n env σ (.Call (.Attribute (.Dict [some (.Constant (.str (Str.ofString "!")) a1 q1), some (.Constant (.str (Str.ofString "-")) a2 q2), some (.Constant (.str (Str.ofString "!-")) a3 q3)] [.Constant (.str (Str.ofString "!")) a4 q4, .Constant (.str (Str.ofString "-")) a5 q5, .Constant (.str (Str.ofString "[-!]")) a6 q6] dpos) (Str.ofString "get") apos) [.Name (Str.ofString xv) p1, .BinOp (.BinOp (.Constant (.str (Str.ofString "[")) k1 p2) .Add (.Name (Str.ofString xv) p3) b1) .Add (.Constant (.str (Str.ofString "]")) k2 b2) b3] [] pos) (.pv (.str (bareG x ([91] ++ x ++ [93])))) := ⟨.mk fun A E s φ H R ok lv eo Q k => by
 refine wpAny_Call_method_lateS (by rfl) (by rfl) hline ?_
 refine wpAny_Dict_walk (knd := strKind Γ.prog Γ.w) rfl rfl (by simp) (by simp) ?_
 refine pairTrees_cons_walk (q03 (q03 (pairTrees_cons_walk (q03 (q03 (pairTrees_cons_walk (q03 (q03 (pairTrees_nil_walk ?_)))))))))
 dsimp only
 refine ⟨[(S [33], .str (S [33]) _), (S [45], .str (S [45]) _), (S [33, 45], .str (S [91, 45, 33, 93]) _)], ⟨by rfl, rfl, by rfl, rfl, by rfl, rfl, trivial⟩, Heap.DictOf.new _, fun h' hmd hs => ?_⟩
 haveI keep : ∀ b o, s.heap.get? b = some o → h'.get? b = some o := fun b o e => hs.extBut b o (Nat.ne_of_lt (Heap.lt_size e)) (Heap.get?_push_of_some _ e)
 haveI hdS : (s.heap.objs.size == sysModules) = false := by
  obtain ⟨_, hn, _⟩ := q19 Γ.nolimit ok.kb
  have h1 : cStatics < s.heap.objs.size := hn.lt
  have h2 : sysModules ≤ cStatics := by decide
  exact beq_eq_false_iff_ne.mpr (Nat.ne_of_gt (Nat.lt_of_le_of_lt h2 h1))
 refine ⟨"dict", "dict.get", F.plainAttrs_dict, F.slot_dict_get, F.type_dict_get, hmd.typeIs, hmd.mapOf.noDict, ?_⟩
 show wpAny _ _ (callWith pos (.builtin "dict.get") [.ref s.heap.objs.size] [(false, eval (.Name (Str.ofString xv) p1) env), (false, eval (.BinOp (.BinOp (.Constant (.str (Str.ofString "[")) k1 p2) .Add (.Name (Str.ofString xv) p3) b1) .Add (.Constant (.str (Str.ofString "]")) k2 b2) b3) env)] []) _ _ _
 refine wpAny_dict_get2 (knd := strKind Γ.prog Γ.w) hdS ?_
 obtain ⟨V, at0, d⟩ := (eo.kp (Kp.of keep)).vars _ _ hm
 haveI d' : Den H h' V (.str x) := d
 cases d' using Den.s with
 | str u =>
  refine wpAny_Name (q04 G.g.kind at0 ?_) hd
  refine wpAny_BinOp (wpAny_BinOp (q03 (wpAny_Name (q04 G.g.kind at0 ?_) hd)))
  haveI hx : (⟨x.toArray⟩ : Str) = S x := rfl
  rw [hx]
  refine PyProof.Rows.add_str (fun t' tk => ?_) (by rw [S_len, show (Str.ofString "[").length = 1 from rfl]; simp only [sizeLine]; lia)
  refine q03 ?_
  haveI e1 : Str.ofString "[" ++ S x = S ([91] ++ x) := by rw [S_app]; rfl
  rw [e1]
  refine PyProof.Rows.add_str (fun t2 tk2 => ?_) (by rw [S_len, show (Str.ofString "]").length = 1 from rfl]; simp only [sizeLine, List.length_append, List.length_singleton]; lia)
  haveI e2 : S ([91] ++ x) ++ Str.ofString "]" = S ([91] ++ x ++ [93]) := by rw [S_app ([91] ++ x)]; rfl
  rw [e2]
  refine ⟨S x, _, by show Value.isStrOf (S x) (.str (S x) u) = true; simp [Value.isStrOf], hmd.mapOf, ?_⟩
  rw [z80]
  have fin : ∀ (r : List Nat) (t : Tok) (tk : Nat), bareG x ([91] ++ x ++ [93]) = r → Q (.str (S r) t) { s with heap := h', toks := tk } := fun r t tk e => by
   rw [e] at k
   exact k _ _ (Kp.of keep) (ok.keeps keep) (.str r t)
  by_cases h1 : x = [33]
  ·rw [if_pos h1]
   exact fin _ _ _ (by unfold bareG; rw [if_pos h1])
  rw [if_neg h1]
  by_cases h2 : x = [45]
  ·rw [if_pos h2]
   exact fin _ _ _ (by unfold bareG; rw [if_neg h1, if_pos h2])
  rw [if_neg h2]
  by_cases h3 : x = [33, 45]
  ·rw [if_pos h3]
   exact fin _ _ _ (by unfold bareG; rw [if_neg h1, if_neg h2, if_pos h3])
  rw [if_neg h3]
  exact fin _ _ _ (by unfold bareG; rw [if_neg h1, if_neg h2, if_neg h3])⟩
end
theorem qt3 {prog : Program} {w : World} {A : Around} {I : Addr} {fp wr : List Addr} {n : Nat} {P : Nat → Value → Prop} {St : Nat → Heap → Prop} (W : Walks prog w A I fp wr n P St) : WalksS prog w A I fp wr (fun a b => b = a) n P (fun i s => St i s.heap) where
 sub := W.sub
 grefl := fun _ => rfl
 gtrans := fun _ _ _ x y => y.trans x
 frame := fun i s h' tk st _ hk => W.frame i _ _ st hk
 item := fun i s Q E hi st hQ => wpAny_with_toks (Nat.le_refl s.toks) (W.item i s _ _ hi st fun v h' tk hP hst hk htk => hQ v _ hP hst ⟨hk, rfl, rfl, rfl, htk⟩)
 done := fun s Q E st hQ => wpAny_with_toks (Nat.le_refl s.toks) (W.done s _ _ st fun h' tk hk htk => hQ _ ⟨hk, rfl, rfl, rfl, htk⟩)
 self := fun i s Q E st hQ => W.self i s Q E st hQ
theorem qj7 {H : List Addr} {h : Heap} {vs : List Value} {xs : List Int} (d : Dens H h vs (xs.map PV.int)) (i : Nat) (v : Value) (e : vs[i]? = some v) : ∃ t, v = Value.int (xs.getD i 0) t := by
 obtain ⟨q, hq, dq⟩ := d.getV e
 rw [List.getElem?_map] at hq
 obtain ⟨x, hx, rfl⟩ := Option.map_eq_some_iff.mp hq
 rw [List.getD_eq_getElem?_getD, hx]
 cases dq using Den.i with | int t => exact ⟨t, rfl⟩
theorem qb6 (xs : List Int) : ∀ n, n ≤ xs.length → preSum (fun i => xs.getD i 0) n = (xs.take n).sum
 | 0, _ => by simp [preSum]
 | n + 1, h => by
  show preSum _ n + xs.getD n 0 = _
  rw [qb6 xs n (by lia), List.take_succ_eq_append_getElem (by lia), List.sum_append, List.getD_eq_getElem?_getD, List.getElem?_eq_getElem (by lia)]
  simp
section
variable {Γ : Cx} {n : Nat} {env : Env} {σ : St} {sc : Scope}
theorem CallB.sum {xs : List Int} : CallB Γ n env σ (.builtin "sum") [PR (.pv (.list (xs.map .int)))] (PR (.pv (.int xs.sum))) := fun Vs A E s φ H R ok lv eo c Q k => by
 obtain ⟨V, rfl, d⟩ := c.one
 cases d using Den.l with
 | @list a vs ha hl hd =>
  have hne : a ≠ s.heap.objs.size := by obtain ⟨_, e⟩ := hl; exact Nat.ne_of_lt (Heap.lt_size e)
  haveI has : a < s.heap.objs.size := by obtain ⟨_, e⟩ := hl; exact Heap.lt_size e
  haveI hlen := hd.length
  simp only [Array.length_toList, List.length_map] at hlen
  refine call_sum_walkAnyS (wpAny_pyIter_list hl.isList ?_)
  refine ⟨_, [s.heap.objs.size, a], [s.heap.objs.size], _, vs.size, _, _, fun i => xs.getD i 0, rfl, qt3 (Walks.list (A := A.in1) R.handled s.heap.objs.size a hne vs), ⟨⟨_, Heap.get?_push_size _ rfl, rfl, rfl⟩, hl.isList.push _⟩, fun b hb => ?_, fun i v hv => qj7 hd i v (by rw [Array.getElem?_toList]; exact hv), fun s' t' hm => ?_⟩
  ·show b < (s.heap.push _).objs.size
   rw [Heap.size_push]
   simp only [List.mem_cons, List.not_mem_nil, or_false] at hb
   rcases hb with rfl | rfl
   ·exact Nat.lt_succ_self _
   exact Nat.lt_succ_of_lt has
  rw [hlen, qb6 xs _ (Nat.le_refl _), List.take_length]
  have keep : ∀ b o, s.heap.get? b = some o → s'.heap.get? b = some o := fun b o e => hm.heap b o (by simp only [List.mem_singleton]; intro q; rw [q, q00] at e; nomatch e) (Heap.get?_push_of_some _ e)
  have okk := ok.keeps (t := s'.toks) keep
  exact k _ _ (Kp.of keep) ⟨okk.base, okk.tabs, by rw [hm.gens]; exact ok.gens, hm.os.trans ok.os, okk.all, okk.frs, okk.off, okk.old⟩ (.int _ _)
theorem E.sum {x : Str} {p pos : Pos} {e : Expr} {xs : List Int} (b : BN Γ env sc x (.builtin "sum")) (ha : E Γ n env σ e (.pv (.list (xs.map .int)))) (he : ∀ env, starEach [e] env = (false, eval e env) :: starEach [] env) : E Γ n env σ (.Call (.Name x p) [e] [] pos) (.pv (.int xs.sum)) :=
 ⟨Ev.call_fn b.ev (EvS.cons (mR _) ha.run EvS.nil he) CallB.sum he⟩
end
section
variable {Γ : Cx} {n : Nat} {env : Env} {σ : St}
theorem E.gei {l r : Expr} {pos : Pos} {a b : Int} (ha : E Γ n env σ l (.pv (.int a))) (hb : E Γ n env σ r (.pv (.int b))) (hm : behindInMarks .GtE r = false) : E Γ n env σ (.Compare l [.GtE] [r] pos) (.pv (.bool (decide (b ≤ a)))) := ⟨Ev.cmp (mR _) Cmp.ge_int ha.run hb.run hm⟩
theorem E.andB {x y : Expr} {pos : Pos} {a b : Bool} (h : E Γ n env σ x (.pv (.bool a))) (h' : a = true → E Γ n env σ y (.pv (.bool b))) : E Γ n env σ (.BoolOp .And [x, y] pos) (.pv (.bool (a && b))) :=
 ⟨Ev.and2 h.run Tru.bool (fun hb φ H h V d => by subst hb; exact d) fun hb => by subst hb; exact (h' rfl).run⟩
end
section
variable {Γ : Cx} {n : Nat} {env : Env} {σ : St} {sc : Scope}
theorem CallB.min2 {a b : Int} : CallB Γ n env σ (.builtin "min") [PR (.pv (.tup [.int a, .int b]))] (PR (.pv (.int (min a b)))) := fun Vs A E s φ H R ok lv eo c Q k => by
 obtain ⟨V, rfl, d⟩ := c.one
 replace d : Den H s.heap V (.tup [.int a, .int b]) := d
 cases d using Den.t with
 | @tup q vs ha hl hd =>
  have hne : q ≠ s.heap.objs.size := by obtain ⟨_, e⟩ := hl; exact Nat.ne_of_lt (Heap.lt_size e)
  have hlen := hd.length
  simp only [Array.length_toList, List.length_cons, List.length_nil] at hlen
  have hi : ∀ (i : Nat) (v : Value), vs[i]? = some v → ∃ t, v = .int (([a, b] : List Int).getD i 0) t := fun i v hv => qj7 (xs := [a, b]) hd i v (by rw [Array.getElem?_toList]; exact hv)
  refine call_min_walk (wpAny_pyIter_tuple hl.isTuple ?_)
  refine ⟨s.heap.objs.size, [s.heap.objs.size, q], [s.heap.objs.size], vs.size, _, _, _, rfl, Walks.tuple (A := A.in1) R.handled s.heap.objs.size q hne vs, ⟨⟨_, Heap.get?_push_size _ rfl, rfl, rfl⟩, hl.isTuple.push _⟩, fun b hb => ?_, by lia, CmpOf.ints_lt (fun i => ([a, b] : List Int).getD i 0) hi, fun v h' tk hv hk => ?_⟩
  ·show b < (s.heap.push _).objs.size
   rw [Heap.size_push]
   simp only [List.mem_cons, List.not_mem_nil, or_false] at hb
   rcases hb with rfl | rfl
   ·exact Nat.lt_succ_self _
   obtain ⟨_, e⟩ := hl; exact Nat.lt_succ_of_lt (Heap.lt_size e)
  obtain ⟨t, rfl⟩ := hi _ _ hv
  have keep : ∀ b o, s.heap.get? b = some o → h'.get? b = some o := fun b o e => hk b o (by simp only [List.mem_singleton]; intro q; rw [q, q00] at e; cases e) (Heap.get?_push_of_some _ e)
  have e : ([a, b] : List Int).getD (argBest (fun i j => decide (([a, b] : List Int).getD i 0 < ([a, b] : List Int).getD j 0)) (vs.size - 1)) 0 = min a b := by
   rw [hlen]
   show ([a, b] : List Int).getD (if decide (b < a) = true then 1 else 0) 0 = min a b
   by_cases h : b < a
   ·rw [if_pos (decide_eq_true h)]; exact (Int.min_eq_right (Int.le_of_lt h)).symm
   rw [if_neg (by simpa using h)]; exact (Int.min_eq_left (Int.not_lt.mp h)).symm
  rw [e]
  exact k _ _ (Kp.of keep) (ok.keeps (t := tk) keep) (.int _ _)
theorem E.min2 {x : Str} {p pos : Pos} {e : Expr} {a b : Int} (bn : BN Γ env sc x (.builtin "min")) (ha : E Γ n env σ e (.pv (.tup [.int a, .int b]))) (he : ∀ env, starEach [e] env = (false, eval e env) :: starEach [] env) : E Γ n env σ (.Call (.Name x p) [e] [] pos) (.pv (.int (min a b))) :=
 ⟨Ev.call_fn bn.ev (EvS.cons (mR _) ha.run EvS.nil he) CallB.min2 he⟩
end
end Mine
section
open PySem PySem.W PyProof.Rows
namespace Mine
noncomputable abbrev hdH : Hook := kmHook hdK hdA za3 [101]
noncomputable def hdV : Program := view PySem.Challenge.pw_ik0025_02 [0, 21]
noncomputable def hdL : List Str := ["filterfalse", "_filter", "_twin_re_1", "translate", "_special_chars_map", "escape", "_translate", "_join_translated_parts", "_law_signs", "_law_sets", "_law_piece", "_law_read", "_law_taken", "_law_fits"].map Str.ofString
noncomputable def hdAt (w : World) : Prop := (openEnds treeTable PySem.Challenge.pw_ik0025_02 w 4244).map (fun s => (openSeen hdV hdL (importedModules PySem.Challenge.pw_ik0025_02.main.body) (fun s => xlAt hdV [] s && recOk [] s) true s, Hook.obs hdH s)) = some (openGood hdV hdL, Hook.val hdH w)
noncomputable def hdQ (w : World) : Prop := (((Fast.tw10274390034422433532 Fast.tw14364793385576792824 (opening PySem.Challenge.pw_ik0025_02) w 4244 (Fast.tw1435165496053646825 (opening PySem.Challenge.pw_ik0025_02)).1 (Fast.tw1435165496053646825 (opening PySem.Challenge.pw_ik0025_02)).2).bind (Fast.tw14289696077712309145 PySem.Challenge.pw_ik0025_02)).bind fun s₀ => match s₀.heap.isNs mainGlobals && s₀.gens.size == 0 with
 | true => (Fast.tw14082659384304107361 Fast.tw14364793385576792824 PySem.Challenge.pw_ik0025_02 w s₀.heap.objs.size (Fast.tw8920871248978507458 s₀.heap mainGlobals "__annotations__") 4244 s₀ (topStub PySem.Challenge.pw_ik0025_02)).bind fun s₁ => match staticsOk (importedModules PySem.Challenge.pw_ik0025_02.main.body) s₀.heap s₁.heap && namesBound PySem.Challenge.pw_ik0025_02 s₁.heap && gensDone s₁ && laidKept s₀.heap s₁.heap with
   | true => some s₁
   | false => none
 | false => none).map (fun s => (Fast.tw4187177175401517315 hdV hdL (importedModules PySem.Challenge.pw_ik0025_02.main.body) (fun s => xlAt hdV [] s && recOk [] s) true s, Hook.obs hdH s)) = some (openGood hdV hdL, Hook.val hdH w)
theorem z62 {w : World} (h : hdQ w) : hdAt w := by
 unfold hdAt openEnds fencedOpening topFrom
 rw [Fast.te14082659384304107361, Fast.te10274390034422433532, Fast.te14364793385576792824, Fast.te1435165496053646825, Fast.te14289696077712309145, Fast.te4187177175401517315, Fast.te8920871248978507458]
 exact h
theorem za2 (w : World) : hdQ ((w.withFollow "special-get-raises" false).withFollow "comprehension-iter-twice" false) := by unfold hdQ; kernel_rfl
theorem za0 (w : World) : hdQ ((w.withFollow "special-get-raises" true).withFollow "comprehension-iter-twice" false) := by unfold hdQ; kernel_rfl
theorem za1 (w : World) : hdQ ((w.withFollow "special-get-raises" false).withFollow "comprehension-iter-twice" true) := by unfold hdQ; kernel_rfl
theorem z99 (w : World) : hdQ ((w.withFollow "special-get-raises" true).withFollow "comprehension-iter-twice" true) := by unfold hdQ; kernel_rfl
theorem hd_left : LeftO PySem.Challenge.pw_ik0025_02 hdV hdL (fun s => xlAt hdV [] s && recOk [] s) (Hook.obs hdH) (Hook.val hdH) 4244 :=
 fun w => z62 (byRow2 "comprehension-iter-twice" (byRow2 "special-get-raises" (P := fun w => hdQ (w.withFollow "comprehension-iter-twice" false)) za2 za0) (byRow2 "special-get-raises" (P := fun w => hdQ (w.withFollow "comprehension-iter-twice" true)) za1 z99) w)
end Mine
namespace Mine
noncomputable def isF : Data → Bool
 | .func _ => true
 | _ => false
theorem z19 {d : Data} (h : isF d = true) : ∃ fd, d = .func fd := by
 cases d <;> first | exact ⟨_, rfl⟩ | exact Bool.noConfusion h
noncomputable def isFn (K : Frag) (f : Addr) : Bool := (K.lookup f).elim false fun o => isF o.data
theorem fn_in {Γ : Cx} {K : Frag} {f : Addr} (KX : K.In Γ.hB) (e : isFn K f = true) : ∃ o fd, Γ.hB.get? f = some o ∧ o.data = .func fd := by
 unfold isFn at e
 cases h : K.lookup f with
 | none => rw [h] at e; exact Bool.noConfusion e
 | some o => rw [h] at e; obtain ⟨fd, hd⟩ := z19 e; exact ⟨o, fd, KX _ _ h, hd⟩
theorem FSpec.introY {Γ : Cx} {n : Nat} {K : Frag} {f : Addr} {nm qn : Str} {pr : Arguments} {body : List Stmt} {sc : Scope} {gl : Addr} {cl : List (Str × Addr)} {df kd dc pm : Value} {an : Option Addr} {ct : Value} {bi : Addr} {ps ns : List String} {xs : List PV} {r : PV} {c : Addr} {cvs : Array Value} {t : Tok} {v : List (String × RV)} (KX : K.In Γ.hB)
  (e1 : (K.lookup f).map Obj.data = some (.func (FuncData.mk nm qn pr (.stmts body) sc gl cl df kd dc pm an (.ref c) ct bi)))
  (e2 : (K.lookup c).map (fun o => (isTb o, o.data)) = some (false, .fields cvs)) (hc1 : cvs[1]? = some (.str qn t)) (C : FunOK sc ps ns)
  (hbind : ∀ Vs : List Value, Vs.length = ps.length → bindArgs (FuncData.mk nm qn pr (.stmts body) sc gl cl df kd dc pm an (.ref c) ct bi) ⟨Vs, []⟩ = pure ((ps.map Str.ofString).zip Vs)) (hlen : xs.length = ps.length)
  (hrest : cl = [] ∧ gl = mainGlobals ∧ bi = builtinsNs ∧ sc.isCoroutine = false ∧ sc.isGenerator = false) (hv : (pvSt (ps.zip xs)).v = v)
  (h : ∀ kf env, EnvS env sc → X (Γ.on kf) 0 n env ns ⟨v, []⟩ body fun af _ => af = .rt r) : FSpec Γ (n + 1) f xs r :=
 FSpec.introX KX e1 rfl rfl e2 hc1 C hbind hlen hrest hv h
theorem memV {x : String} {r : RV} {l : List (String × RV)} (h : l.lookup x = some r) : (x, r) ∈ l := by
 induction l with
 | nil => cases h
 | cons p l ih =>
  rw [List.lookup_cons] at h
  split at h
  ·rename_i e; cases h; rw [eq_of_beq e]; exact .head _
  exact .tail _ (ih h)
theorem memO {x : Nat} {r : List PV} {l : List (Nat × List PV)} (h : l.lookup x = some r) : (x, r) ∈ l := by
 induction l with
 | nil => cases h
 | cons p l ih =>
  rw [List.lookup_cons] at h
  split at h
  ·rename_i e; cases h; rw [eq_of_beq e]; exact .head _
  exact .tail _ (ih h)
theorem HasV.ofL {v : List (String × RV)} : ∀ {l : List (String × RV)}, l.map (fun p => v.lookup p.1) = l.map (fun p => some p.2) → HasV v l
 | [], _ => .nil
 | p :: l, h => by
  rw [List.map_cons, List.map_cons] at h
  exact .cons (memV (List.cons.inj h).1) (HasV.ofL (List.cons.inj h).2)
theorem HasO.ofL {v : List (Nat × List PV)} : ∀ {l : List (Nat × List PV)}, l.map (fun p => v.lookup p.1) = l.map (fun p => some p.2) → HasO v l
 | [], _ => .nil
 | p :: l, h => by
  rw [List.map_cons, List.map_cons] at h
  exact .cons (memO (List.cons.inj h).1) (HasO.ofL (List.cons.inj h).2)
noncomputable def kindIs (l : List (Str × NameKind)) (x : Str) (k : NameKind) : Bool := decide (l.lookup x = some k)
theorem kindIs.of {l : List (Str × NameKind)} {x : Str} {k : NameKind} (h : kindIs l x k = true) : l.lookup x = some k := of_decide_eq_true h
noncomputable def compB (scope sc : Scope) (ns : List String) : Bool :=
 decide (scope.kind = .function) && (kindIs scope.names (Str.ofString ".0") .local && ((scope.names.all fun p => match p.2 with
  | .local => kindIs scope.names p.1 .local
  | .cell => kindIs scope.names p.1 .cell && ns.any fun y => decide (p.1 = Str.ofString y)
  | .free => kindIs scope.names p.1 .free && (kindIs sc.names p.1 .cell || kindIs sc.names p.1 .free)
  | _ => true) && ns.all fun y => kindIs scope.names (Str.ofString y) .local || kindIs scope.names (Str.ofString y) .cell))
theorem CompOK.ofB {scope sc : Scope} {ns : List String} (h : compB scope sc ns = true) : CompOK scope sc ns := by
 unfold compB at h
 simp only [Bool.and_eq_true, List.all_eq_true] at h
 obtain ⟨h1, h2, h3, h4⟩ := h
 refine ⟨of_decide_eq_true h1, fun p m e => ?_, fun p m e => ?_, fun p m e => ?_, fun p m e => ?_, fun y m => ?_, kindIs.of h2⟩
 ·have := h3 p m; rw [e] at this; exact kindIs.of this
 ·have := h3 p m; rw [e] at this; exact kindIs.of (Bool.and_eq_true_iff.mp this).1
 ·have := h3 p m; rw [e] at this
  exact ⟨kindIs.of (Bool.and_eq_true_iff.mp this).1, (Bool.or_eq_true_iff.mp (Bool.and_eq_true_iff.mp this).2).imp kindIs.of kindIs.of⟩
 ·have := h3 p m; rw [e] at this
  obtain ⟨y, hy, q⟩ := List.any_eq_true.mp (Bool.and_eq_true_iff.mp this).2
  exact ⟨y, hy, of_decide_eq_true q⟩
 exact (Bool.or_eq_true_iff.mp (h4 y m)).imp kindIs.of kindIs.of
noncomputable def funB (sc : Scope) (ps ns : List String) : Bool :=
 decide (sc.kind = .function) && ((sc.names.all fun p => match p.2 with
  | .cell => kindIs sc.names p.1 .cell && ns.any fun y => decide (p.1 = Str.ofString y)
  | .free => false
  | _ => true) && ((ns.all fun y => kindIs sc.names (Str.ofString y) .local || kindIs sc.names (Str.ofString y) .cell) && ((ps.all fun x => ns.contains x) && decide ps.Nodup)))
theorem FunOK.ofB {sc : Scope} {ps ns : List String} (h : funB sc ps ns = true) : FunOK sc ps ns := by
 unfold funB at h
 simp only [Bool.and_eq_true, List.all_eq_true] at h
 obtain ⟨h1, h2, h3, h4, h5⟩ := h
 refine ⟨of_decide_eq_true h1, fun p m e => ?_, fun p m e => ?_, fun p m e => ?_, fun y m => ?_, fun x m => List.contains_iff_mem.mp (h4 x m), of_decide_eq_true h5⟩
 ·have := h2 p m; rw [e] at this; exact kindIs.of (Bool.and_eq_true_iff.mp this).1
 ·have := h2 p m; rw [e] at this; cases this
 ·have := h2 p m; rw [e] at this
  obtain ⟨y, hy, q⟩ := List.any_eq_true.mp (Bool.and_eq_true_iff.mp this).2
  exact ⟨y, hy, of_decide_eq_true q⟩
 exact (Bool.or_eq_true_iff.mp (h3 y m)).imp kindIs.of kindIs.of
theorem lenS {n : Nat} : ∀ {l : List Value}, l.length = n + 1 → ∃ a t, l = a :: t ∧ t.length = n
 | a :: t, h => ⟨a, t, rfl, Nat.succ.inj h⟩
theorem len1 {l : List Value} (h : l.length = 1) : ∃ a, l = [a] := by
 obtain ⟨a, t, rfl, g⟩ := lenS h
 exact ⟨a, congrArg _ (List.length_eq_zero_iff.mp g)⟩
theorem len2 {l : List Value} (h : l.length = 2) : ∃ a b, l = [a, b] := by
 obtain ⟨a, t, rfl, g⟩ := lenS h
 obtain ⟨b, rfl⟩ := len1 g; exact ⟨a, b, rfl⟩
theorem len3 {l : List Value} (h : l.length = 3) : ∃ a b c, l = [a, b, c] := by
 obtain ⟨a, t, rfl, g⟩ := lenS h
 obtain ⟨b, c, rfl⟩ := len2 g; exact ⟨a, b, c, rfl⟩
theorem sgT {c d : Nat} (h : ([c] == [d]) = true) : c = d := (List.cons.inj (eq_of_beq h)).1
theorem sgF {c d : Nat} (h : ([c] == [d]) = false) : ¬ c = d := fun e => by rw [e, beq_self_eq_true] at h; cases h
@[elab_as_elim] theorem lt2 {P : Nat → Prop} (a : P 0) (b : P 1) {i : Nat} (h : i < 2) : P i := by
 rcases Nat.lt_or_ge i 1 with q | q
 ·rw [Nat.lt_one_iff.mp q]; exact a
 rw [Nat.le_antisymm (Nat.le_of_lt_succ h) q]; exact b
@[elab_as_elim] theorem lt3 {P : Nat → Prop} (a : P 0) (b : P 1) (c : P 2) {i : Nat} (h : i < 3) : P i := by
 rcases Nat.lt_or_ge i 2 with q | q
 ·exact lt2 a b q
 rw [Nat.le_antisymm (Nat.le_of_lt_succ h) q]; exact c
@[elab_as_elim] theorem lt4 {P : Nat → Prop} (a : P 0) (b : P 1) (c : P 2) (d : P 3) {i : Nat} (h : i < 4) : P i := by
 rcases Nat.lt_or_ge i 3 with q | q
 ·exact lt3 a b c q
 rw [Nat.le_antisymm (Nat.le_of_lt_succ h) q]; exact d
theorem qd9 {env : Env} {sc : Scope} {T : List Expr} {V : Expr} {r : Sem (Option (List Str))} (G : EnvS env sc) (h : ∀ e : Env, swappedStores T V { e with scope := sc } = r) : swappedStores T V env = r := by
 have q : env = { env with scope := sc } := by rw [← G.scope]
 rw [q]; exact h env
def wkLf (s : String) : Lean.Syntax := match s.splitOn ":" with
 | k :: a :: r => .node .none k.toName #[.atom .none a, if r.isEmpty then Lean.mkNullNode else .node .none `Lean.Parser.Tactic.optConfig #[Lean.mkNullNode]]
 | _ => .missing
def wkAt (s : String) : Lean.Syntax := if s.startsWith "%" then wkLf ("Lean.Parser.Tactic." ++ (s.drop 1).toString) else if s.startsWith "@" then wkLf (s.drop 1).toString else .node .none `PyProof.Rows.tacticWalk_at_ #[.atom .none "walk_at", Lean.Syntax.mkStrLit s]
def wkSq (l : List Lean.Syntax) : Lean.Syntax := .node .none `Lean.Parser.Tactic.tacticSeq #[.node .none `Lean.Parser.Tactic.tacticSeq1Indented #[Lean.mkNullNode (l.foldl (fun a t => if a.isEmpty then #[t] else (a.push (.atom .none ";")).push t) #[])]]
def wkPar (l : List Lean.Syntax) : Lean.Syntax := .node .none `Lean.Parser.Tactic.paren #[.atom .none "(", wkSq l, .atom .none ")"]
def wkOne (e : String) : List Lean.Syntax := match e.splitOn " " with
 | [] => []
 | n :: ks => (if n == "&" then [] else [.node .none `Lean.Parser.Tactic.apply #[.atom .none "apply", Lean.mkIdent (if n.startsWith "." then (n.drop 1).toString.toName else `Mine ++ n.toName)]]) ++ ks.map wkAt
def wkFst (e : String) : Lean.Syntax := .node .none `Lean.Parser.Tactic.first #[.atom .none "first", Lean.mkNullNode ((e.splitOn "|").map fun a => .node .none `group #[.atom .none "|", wkSq (wkOne a)]).toArray]
def wkTab (s : String) : Option String := (("rf=>%tacticRfl:rfl;dc=>%decide:decide:;as=>%assumption:assumption;kr=>@tacticKernel_rfl:kernel_rfl;star=|& %intros:intros %tacticRfl:rfl;fs=>star;rs=|& %rotateLeft:rotate_left fs;e=>ev;sd=>side;s=>star;n=>bn;l=>el;p=>ep;m=>mem;vs=>evs;kp=>keep;t=|& e e rf;q=|& e e sd;pp=|& p p sd;asg=|X.asg dc rf kp;asgs=|& asg e;bn=|BN.mk as dc as rf dc dc;mem=|memV rf|memO rf|& mt;mt=*.List.Mem.head|.List.Mem.tail;side=|& %decide:decide:|& %lia:lia:|.Nat.le_of_ble_eq_true rf|& as;cok=|CompOK.ofB kr|FunOK.ofB kr;has=|Has.mk hv ho;hv=|HasV.ofL kr;ho=|HasO.ofL kr;keep=*Keep.take dc|Keep.drop|Keep.nil;keepo=*KeepO.take rf|KeepO.drop|KeepO.nil;frz=*Frz.sub|Frz.take rf|Frz.drop|Frz.nil;caps=*Caps.nil|Caps.cons m dc;evs=*EA.nil|EA.cons e rs;ep=|EP.no|EP.yes e;el=|EL.own as m m dc|EL.of e;ev=|E.int|E.str|E.bool|E.none|E.var as m dc|E.add e e|E.sub e e|E.neg e|E.fmod q|E.fdiv q sd|E.pow q sd sd|E.mul q|E.list vs sd|E.tup vs sd|E.adds q|E.chr n e sd sd s|E.len_str n e sd s|E.len_list n l sd s|E.range1 n e s|E.cuts e pp|E.cutl l pp|E.addl l l sd;tst=|B.eqi t|B.nei t|B.lti t|B.gti t|B.gei t|B.eqs t|B.nes t|B.lts t|B.gts t|B.isnotO t|B.isnotS t|B.not tst|B.ofBool e rf|B.ofStr e sd rf|B.ofList l sd rf".splitOn ";").find? fun r => r.startsWith (s ++ "=")).map fun r => (r.drop (s.length + 1)).toString
end Mine
namespace Mine
local macro_rules | `(tactic| walk_at $s:str) => match wkTab s.getString with
 | some r =>
  let b := (r.drop 1).toString
  pure (if r.startsWith ">" then wkPar [.node .none `Lean.Parser.Tactic.focus #[.atom .none "focus", wkSq [wkAt b, wkAt "%done:done"]]] else if r.startsWith "*" then .node .none `Lean.Parser.Tactic.tacticRepeat_ #[.atom .none "repeat", wkSq [wkFst b]] else wkFst b)
 | none => Lean.Macro.throwUnsupported
noncomputable def rowsL : List (List Nat) := ["!-", "]x", "x!", "[x", "x-", "^x", "\\x", "*x", "x?", "&x"].map cs
noncomputable def q01 (d : Int) : List Nat := (rowsL.getD (d.fmod 10).toNat []).map fun c => if [c] == cs "x" then (192 + (d.fdiv 10).fmod 50000).toNat else c
theorem z10 (k : Nat) : (rowsL.getD k []).length ≤ 4 := by
 rw [List.getD_eq_getElem?_getD]
 match k with
 | 0 | 1 | 2 | 3 | 4 | 5 | 6 | 7 | 8 | 9 => exact Nat.le_of_ble_eq_true rfl
 | k + 10 => rw [List.getElem?_eq_none (by show 10 ≤ _; lia)]; simp
theorem qq9 {Γ : Cx} {P : Params} (KX : (hdK P).In Γ.hB) (d : Int) (bchr : Γ.mg (Str.ofString "chr") = none) : FSpec Γ 6 118 [.int d] (.list ((q01 d).map fun c => .str [c])) := by
 refine FSpec.introY KX (ps := ["drawn"]) (ns := ["drawn", "row"]) (v := [("drawn", .pv (.int d))]) (by rfl) (by rfl) (by rfl) ?_ ?_ (by rfl) ⟨rfl, rfl, rfl, rfl, rfl⟩ (by rfl) ?_
 ·walk_at "cok"
 ·intro Vs h
  obtain ⟨a, rfl⟩ := len1 h; rfl
 intro kf env G
 try dsimp only at G
 have l0 := q43 d (b := 10) (by decide)
 have l1 := q44 d (b := 10) (by decide)
 walk_at "asg"
 ·refine E.iteml (EL.of (xs := rowsL.map .str) ?_) (i := d.fmod 10) (v := .str (rowsL.getD (d.fmod 10).toNat [])) ?_ l0 (by lia) ?_
  ·walk_at "ev"
  ·walk_at "ev"
  rw [List.getElem?_map, List.getD_eq_getElem?_getD]
  have : (d.fmod 10).toNat < rowsL.length := by show _ < 10; lia
  rw [List.getElem?_eq_getElem this]; rfl
 refine X.ret (v := .list ((q01 d).map fun c => .str [c])) ?_ rfl
 have m0 := q43 (d.fdiv 10) (b := 50000) (by decide)
 have m1 := q44 (d.fdiv 10) (b := 50000) (by decide)
 have hl := z10 (d.fmod 10).toNat
 unfold q01
 rw [List.map_map]
 refine E.comp (xs := ["sign"]) (l := [("drawn", .int d)]) (cv := fun c => [.str [c]]) G ?_ ?_ (.name _ _) (by decide) (fun _ => rfl) (I.str ?_) (by lia) fun cenv G' c hc => ?_
 ·walk_at "cok"
 ·walk_at "caps"
 ·walk_at "ev"
 dsimp only [Function.comp]
 refine E.ife (b := [c] == cs "x") ?_ (fun h => ?_) fun h => ?_
 ·walk_at "tst"
 ·rw [h]; walk_at "ev"
 rw [h]; walk_at "ev"
noncomputable def chs (l : List Nat) : PV := .list (l.map fun c => .str [c])
noncomputable def tabL : List (List Int) := [[0, 1], [0], [1], [1, 0], [0, 0], [1, 1], [0, 1, 0], [0], [1], []]
noncomputable def setOf (d : Int) (signs : List Nat) (k : Int) : List Nat := (tabL.getD ((d.fdiv (10 ^ k.toNat)).fmod 10).toNat []).map fun p => signs.getD p.toNat 0
noncomputable def q18 (d count : Int) (signs : List Nat) : List (List Nat) := (rngL 0 count).map (setOf d signs)
theorem z35 (k : Nat) : (tabL.getD k []).length ≤ 3 ∧ ∀ p ∈ tabL.getD k [], 0 ≤ p ∧ p < 2 := by
 rw [List.getD_eq_getElem?_getD]
 match k with
 | 0 | 1 | 2 | 3 | 4 | 5 | 6 | 7 | 8 | 9 => exact ⟨Nat.le_of_ble_eq_true rfl, by decide⟩
 | k + 10 => rw [List.getElem?_eq_none (by show 10 ≤ _; lia)]; simp
theorem q59 {α β : Type} (f : α → β) (a b : Option Int) (l : List α) : cut a b (l.map f) = (cut a b l).map f := by
 unfold cut; rw [List.length_map, List.map_drop.symm, List.map_take.symm]
theorem qc7 {α : Type} {a b : Option Int} {l : List α} {x : α} (h : x ∈ cut a b l) : x ∈ l := List.mem_of_mem_drop (List.mem_of_mem_take h)
theorem q25 {α : Type} (a b : Option Int) (l : List α) : (cut a b l).length ≤ l.length := by
 unfold cut; rw [List.length_take, List.length_drop]; lia
theorem qh8 {Γ : Cx} {P : Params} (KX : (hdK P).In Γ.hB) (d count : Int) (signs : List Nat) (hs : signs.length = 2) (hc0 : 0 ≤ count) (hc : count ≤ 4) (brange : Γ.mg (Str.ofString "range") = none) : FSpec Γ 6 123 [.int d, .int count, chs signs] (.list ((q18 d count signs).map chs)) := by
 refine FSpec.introY KX (ps := ["drawn", "count", "signs"]) (ns := ["drawn", "count", "signs", "table"]) (v := [("drawn", .pv (.int d)), ("count", .pv (.int count)), ("signs", .pv (chs signs))]) (by rfl) (by rfl) (by rfl) ?_ ?_ (by rfl) ⟨rfl, rfl, rfl, rfl, rfl⟩ (by rfl) ?_
 ·walk_at "cok"
 ·intro Vs h
  obtain ⟨a, b, c, rfl⟩ := len3 h; rfl
 intro kf env G
 try dsimp only at G
 have hr : ∀ k ∈ rngL 0 count, 0 ≤ k ∧ k < 4 := fun k hk => by
  unfold rngL at hk
  obtain ⟨q, hq, rfl⟩ := List.mem_map.mp hk
  have := List.mem_range.mp hq
  lia
 have hl : (rngL 0 count).length ≤ 4 := by unfold rngL; rw [List.length_map, List.length_range]; lia
 walk_at "asg"
 ·refine (?_ : E _ _ _ _ _ (.pv (.list (tabL.map fun l => .list (l.map .int)))))
  show E _ _ _ _ _ (.pv (.list [.list [.int 0, .int 1], .list [.int 0], .list [.int 1], .list [.int 1, .int 0], .list [.int 0, .int 0], .list [.int 1, .int 1], .list [.int 0, .int 1, .int 0], .list [.int 0], .list [.int 1], .list []]))
  walk_at "ev"
 refine X.ret (v := .list ((q18 d count signs).map chs)) ?_ rfl
 unfold q18
 rw [List.map_map]
 refine E.comp (its := rngL 0 count) (cv := fun k => [.int k]) (xs := ["k"]) (l := [("drawn", .int d), ("table", .list (tabL.map fun l => .list (l.map .int))), ("signs", chs signs)]) G ?_ ?_ (.name _ _) (by decide) (fun _ => rfl) (I.rng (a := 0) (b := count) ?_ (by lia) (by lia)) (by lia) fun cenv G' k hk => ?_
 ·walk_at "cok"
 ·walk_at "caps"
 ·walk_at "ev"
 have := hr k hk
 have hp : (10 : Int) ^ k.toNat ≠ 0 := Int.pow_ne_zero (by decide)
 have hq : ((10 : Int) ^ k.toNat).natAbs < 2 ^ 200 := by
  have h8 : k.toNat ≤ 4 := by lia
  rw [Int.natAbs_pow]
  exact Nat.lt_of_le_of_lt (Nat.pow_le_pow_right (by decide) h8) (by decide)
 have m0 := q43 (d.fdiv (10 ^ k.toNat)) (b := 10) (by decide)
 have m1 := q44 (d.fdiv (10 ^ k.toNat)) (b := 10) (by decide)
 have hT := z35 ((d.fdiv (10 ^ k.toNat)).fmod 10).toNat
 dsimp only [Function.comp]
 unfold chs setOf
 rw [List.map_map]
 refine E.comp (its := tabL.getD ((d.fdiv (10 ^ k.toNat)).fmod 10).toNat []) (cv := fun p => [.int p]) (xs := ["place"]) (l := [("signs", chs signs)]) G' ?_ ?_ (.name _ _) (by decide) (fun _ => rfl) (I.listA (c := .int) ?_) (by lia) fun c2 G2 p hp => ?_
 ·walk_at "cok"
 ·walk_at "caps"
 ·refine E.iteml (EL.of (xs := tabL.map fun l => .list (l.map .int)) ?_) (i := (d.fdiv (10 ^ k.toNat)).fmod 10) ?_ m0 (by lia) ?_
  ·walk_at "ev"
  ·walk_at "ev"
  rw [List.getElem?_map, List.getD_eq_getElem?_getD]
  have : ((d.fdiv (10 ^ k.toNat)).fmod 10).toNat < tabL.length := by show _ < 10; lia
  rw [List.getElem?_eq_getElem this]; rfl
 have h2 := hT.2 p hp
 dsimp only [Function.comp]
 refine E.iteml (EL.of (xs := signs.map fun c => .str [c]) ?_) (i := p) ?_ h2.1 (by lia) ?_
 ·walk_at "ev"
 ·walk_at "ev"
 rw [List.getElem?_map, List.getD_eq_getElem?_getD]
 have : p.toNat < signs.length := by lia
 rw [List.getElem?_eq_getElem this]; rfl
theorem qn8 (l : List Nat) (x : List Nat) : ((l.map fun c => PV.str [c]).any fun v => eqp .str v (.str x)) = l.any fun c => [c] == x := by
 rw [List.any_map]; rfl
theorem q73 (l : List Nat) : ∀ y ∈ (l.map fun c => PV.str [c]), HasTy .str y := fun y hy => by
 obtain ⟨c, _, rfl⟩ := List.mem_map.mp hy; trivial
noncomputable def qw3 (name : List Nat) (at_ : Int) (sets : List (List Nat)) : List Int := (rngL 0 sets.length).filter fun k => !((sets.getD k.toNat []).any fun c => [c] == cut (some (at_ + k)) (some (at_ + k + 1)) name)
noncomputable def q21 (name : List Nat) (at_ : Int) (sets : List (List Nat)) : Bool := decide (0 ≤ at_) && (qw3 name at_ sets).isEmpty
theorem z26 (l : List Int) : eqp (.list .int) (.list (l.map .int)) (.list []) = l.isEmpty := by
 cases l <;> rfl
theorem qx9 {Γ : Cx} {P : Params} (KX : (hdK P).In Γ.hB) (name : List Nat) (at_ : Int) (sets : List (List Nat)) (hn : name.length ≤ 100) (hs : sets.length ≤ 100) (blen : Γ.mg (Str.ofString "len") = none) (brange : Γ.mg (Str.ofString "range") = none) :
  FSpec Γ 6 145 [.str name, .int at_, .list (sets.map chs)] (.bool (q21 name at_ sets)) := by
 refine FSpec.introY KX (ps := ["name", "at", "sets"]) (ns := ["name", "at", "sets"]) (v := [("name", .pv (.str name)), ("at", .pv (.int at_)), ("sets", .pv (.list (sets.map chs)))]) (by rfl) (by rfl) (by rfl) ?_ ?_ (by rfl) ⟨rfl, rfl, rfl, rfl, rfl⟩ (by rfl) ?_
 ·walk_at "cok"
 ·intro Vs h
  obtain ⟨a, b, c, rfl⟩ := len3 h; rfl
 intro kf env G
 try dsimp only at G
 have hz : name.length ≤ 2 ^ 24 := by lia
 have hml : (sets.map chs).length = sets.length := List.length_map ..
 have hz2 : (sets.map chs).length ≤ 2 ^ 24 := by lia
 refine X.ret (v := .bool (q21 name at_ sets)) ?_ rfl
 unfold q21
 refine E.andB (E.gei ?_ ?_ (by rfl)) fun h => ?_
 ·walk_at "ev"
 ·walk_at "ev"
 rw [← z26]
 refine E.eqt (.list .int) ?_ (E.list EA.nil (by decide)) ?_ ?_ (by decide) (by rfl)
 ·unfold qw3
  refine E.compIf (its := rngL 0 (sets.length : Int)) (cv := fun k => [.int k]) (f := fun k => .int k) (xs := ["k"]) (l := [("name", .str name), ("at", .int at_), ("sets", .list (sets.map chs))]) G ?_ ?_ (.name _ _) (by decide) (fun _ => rfl) (I.rng (a := 0) (b := (sets.length : Int)) ?_ (by lia) (by lia)) ?_ (fun c2 G2 k hk => ?_) fun c2 G2 k hk hb => ?_
  ·walk_at "cok"
  ·walk_at "caps"
  ·rw [← hml]
   walk_at "ev"
  ·unfold rngL; rw [List.length_map, List.length_range]; lia
  ·have hk2 : 0 ≤ k ∧ k < sets.length := by
    unfold rngL at hk
    obtain ⟨q, hq, rfl⟩ := List.mem_map.mp hk
    have := List.mem_range.mp hq
    lia
   rw [← qn8]
   refine B.notinl .str ?_ (EL.of (E.iteml (EL.of (xs := sets.map chs) ?_) (i := k) ?_ hk2.1 (by lia) ?_)) trivial (q73 _) (by decide) (by rfl)
   ·walk_at "ev"
   ·walk_at "ev"
   ·walk_at "ev"
   rw [List.getElem?_map, List.getD_eq_getElem?_getD]
   have : k.toNat < sets.length := by lia
   rw [List.getElem?_eq_getElem this]; rfl
  walk_at "ev"
 ·intro y hy
  obtain ⟨p, _, rfl⟩ := List.mem_map.mp hy; trivial
 intro y hy; cases hy
noncomputable def sel (signs : List Nat) (low high : Nat) : List Nat := signs.filter fun s => (decide (low ≤ s) && decide (s ≤ high)) || decide (high < low)
noncomputable def inR (rest : List Nat) (first : Nat) (signs : List Nat) : Nat → Nat → List Nat → Option (Nat × List Nat)
 | 0, _, _ => none
 | k + 1, size, mem =>
  if size ≠ first ∧ rest[size]? = some 93 then some (size, mem)
  else match rest[size]? with
   | none => none
   | some c => let s1 := size + if c = 92 then 2 else 1
    match rest[s1 - 1]?, rest[s1]? with
    | some low, some d => if d = 45 then (match rest[s1 + 1]? with
      | some high => inR rest first signs k (s1 + 2) (mem ++ sel signs low high)
      | none => none) else inR rest first signs k s1 (mem ++ sel signs low low)
    | _, _ => none
noncomputable def stepR (signs rest : List Nat) (items : List (List Nat)) (star : Int) : Option (List Nat × List (List Nat) × Int) :=
 if cut none (some 2) rest = [46, 42] then some (rest.drop 2, items, items.length)
 else if cut none (some 4) rest = [40, 63, 33, 41] then some (rest.drop 4, items ++ [[]], star)
 else match rest with
  | [] => none
  | c :: r => if c = 46 then some (r, items ++ [signs], star)
   else if c = 91 then match r with
    | [] => none
    | b :: _ => let first := if b = 94 then 2 else 1
     match inR rest first signs (rest.length + 1) first [] with
     | none => none
     | some (size, mem) => some (rest.drop (size + 1), items ++ [signs.filter fun s => (mem.any fun c => c == s) != (b == 94)], star)
   else match rest[if c = 92 then 1 else 0]? with
    | none => none
    | some d => some (rest.drop (if c = 92 then 2 else 1), items ++ [signs.filter fun s => s == d], star)
noncomputable def readR (signs : List Nat) : Nat → List Nat → List (List Nat) → Int → Option (List (List Nat) × Int)
 | 0, _, _, _ => none
 | k + 1, rest, items, star => if rest = [] then some (items, star) else match stepR signs rest items star with
  | none => none
  | some (r, i, s) => readR signs k r i s
theorem q29 {α : Type} (z : Nat) (xs : List α) : cut (some (z : Int)) none xs = xs.drop z := by
 unfold cut lowAt q49
 show (xs.drop (clipAt xs.length z)).take (xs.length - clipAt xs.length z) = _
 rw [qa3, List.take_of_length_le (by rw [List.length_drop]; lia)]
 by_cases h : z ≤ xs.length
 ·rw [Nat.min_eq_left h]
 rw [Nat.min_eq_right (by lia), List.drop_of_length_le (Nat.le_refl _), List.drop_of_length_le (by lia)]
theorem qu8 {Γ : Cx} {P : Params} (KX : (hdK P).In Γ.hB) (text signs : List Nat) (res : List (List Nat)) (star : Int) (k : Nat) (hz : text.length ≤ 2 ^ 16) (hs : signs.length ≤ 10) (hk : readR signs k (cut (some 4) (some (-3)) text) [] (-1) = some (res, star)) (blen : Γ.mg (Str.ofString "len") = none) :
  FSpec Γ 6 135 [.str text, chs signs] (.tup [.list (res.map chs), .int star]) := by
 refine FSpec.introY KX (ps := ["text", "signs"]) (ns := ["text", "signs", "items", "star", "rest", "size", "barred", "first", "members", "low", "high"]) (v := [("text", .pv (.str text)), ("signs", .pv (chs signs))]) (by rfl) (by rfl) (by rfl) ?_ ?_ (by rfl) ⟨rfl, rfl, rfl, rfl, rfl⟩ (by rfl) ?_
 ·walk_at "cok"
 ·intro Vs h
  obtain ⟨a, b, rfl⟩ := len2 h; rfl
 intro kf env G
 try dsimp only at G
 have hz2 : text.length ≤ 2 ^ 24 := by lia
 apply X.own 0 (xs := [])
 ·decide
 ·rfl
 ·walk_at "keep"
 ·rfl
 ·rfl
 ·exact EF.list EA.nil (by decide)
 walk_at "asgs"
 walk_at "asgs"
 have hc := q25 (some 4) (some (-3)) text
 refine X.whileM (ι := List Nat × List (List Nat) × Int × Nat) (fun i => ⟨[("rest", .pv (.str i.1)), ("star", .pv (.int i.2.2.1)), ("signs", .pv (chs signs)), ("items", .ptr 0)], [(0, i.2.1.map chs)]⟩)
  (fun i => readR signs i.2.2.2 i.1 i.2.1 i.2.2.1 = some (res, star) ∧ i.2.1.length + i.1.length ≤ 2 ^ 16) (fun i => i.1.length) (cut (some 4) (some (-3)) text, [], -1, k) ?_ ⟨hk, Nat.le_trans (by show 0 + _ ≤ _; rw [Nat.zero_add]; exact hc) hz⟩ fun i hi => ?_
 ·walk_at "has"
 obtain ⟨rest, items, st, f⟩ := i
 obtain ⟨hr, hlen⟩ := hi
 dsimp only at hr hlen ⊢
 refine ⟨rest != [], ?_, fun hb => ?_, fun hb => ?_⟩
 ·haveI : cs "" = [] := rfl
  rw [← this]
  walk_at "tst"
 ·haveI : rest = [] := by simpa using hb
  subst this
  have : (items, st) = (res, star) := by
   cases f with
   | zero => exact absurd hr.symm (Option.some_ne_none _)
   | succ f => unfold readR at hr; rw [if_pos rfl] at hr; exact Option.some.inj hr
  cases this
  apply X.freeze (k := 0)
  ·walk_at "mem"
  ·walk_at "frz"
  ·walk_at "keepo"
  refine X.ret ?_ rfl
  walk_at "ev"
 have hne : rest ≠ [] := by simpa using hb
 haveI hrl : rest.length ≤ 2 ^ 24 := by lia
 obtain ⟨f, rfl⟩ : ∃ g, f = g + 1 := by
  cases f with
  | zero => exact absurd hr.symm (Option.some_ne_none _)
  | succ g => exact ⟨g, rfl⟩
 unfold readR at hr
 rw [if_neg hne] at hr
 walk_at "asgs"
 refine X.cut (fun s => ∃ (z : Nat) (i' : List (List Nat)) (s' : Int), 0 < z ∧ readR signs f (rest.drop z) i' s' = some (res, star) ∧ i'.length + (rest.drop z).length ≤ 2 ^ 16 ∧
  Has ⟨[("rest", .pv (.str rest)), ("star", .pv (.int s')), ("signs", .pv (chs signs)), ("items", .ptr 0), ("size", .pv (.int z))], [(0, i'.map chs)]⟩ s) ?_ fun s hs => ?_
 ·have hil : items.length ≤ 2 ^ 16 := by lia
  have hlm : (items.map chs).length = items.length := List.length_map ..
  haveI hlm2 : (items.map chs).length < 2 ^ 60 := by lia
  have hlm3 : (items.map chs).length ≤ 2 ^ 24 := by lia
  have dl : ∀ z, (rest.drop z).length = rest.length - z := fun z => List.length_drop ..
  have rp : 0 < rest.length := List.length_pos_iff.mpr hne
  refine X.ite (b := cut none (some 2) rest == cs ".*") ?_ (fun h => ?_) (fun h => ?_)
  ·walk_at "tst"
  ·haveI h' : cut none (some 2) rest = [46, 42] := eq_of_beq h
   have e : stepR signs rest items st = some (rest.drop 2, items, (items.length : Int)) := by unfold stepR; rw [if_pos h']
   rw [e] at hr
   walk_at "asgs"
   walk_at "asgs"
   refine X.end (X.nil ⟨rfl, 2, items, items.length, by decide, hr, by rw [dl]; lia, ?_⟩)
   rw [hlm]
   walk_at "has"
  have n1 : ¬ cut none (some 2) rest = [46, 42] := fun e => by rw [e] at h; exact absurd h.symm Bool.false_ne_true
  refine X.ite (b := cut none (some 4) rest == cs "(?!)") ?_ (fun h2 => ?_) (fun h2 => ?_)
  ·walk_at "tst"
  ·have h' : cut none (some 4) rest = [40, 63, 33, 41] := eq_of_beq h2
   have e : stepR signs rest items st = some (rest.drop 4, items ++ [[]], st) := by unfold stepR; rw [if_neg n1, if_pos h']
   rw [e] at hr
   apply X.app (v := .list []) G
   ·decide
   ·rfl
   ·intro _; rfl
   ·decide
   ·walk_at "mem"
   ·walk_at "mem"
   ·walk_at "keepo"
   ·exact E.list EA.nil (by decide)
   ·exact hlm3
   walk_at "asgs"
   refine X.end (X.end (X.nil ⟨rfl, 4, items ++ [[]], st, by decide, hr, ?_, ?_⟩))
   ·rw [dl, List.length_append, List.length_singleton]; lia
   rw [List.map_append]
   walk_at "has"
  have n2 : ¬ cut none (some 4) rest = [40, 63, 33, 41] := fun e => by rw [e] at h2; exact absurd h2.symm Bool.false_ne_true
  obtain ⟨c, r, rfl⟩ : ∃ c r, rest = c :: r := by
   cases rest with
   | nil => exact absurd rfl hne
   | cons c r => exact ⟨c, r, rfl⟩
  have g0 : (seqIndex? 0 (c :: r).length).bind ((c :: r)[·]?) = some c := by rw [q38 (by decide) (by simp)]; rfl
  refine X.ite (b := [c] == cs ".") ?_ (fun h3 => ?_) (fun h3 => ?_)
  ·refine B.eqs (E.items (i := 0) (x := c :: r) ?_ ?_ (by decide) g0) ?_ (by rfl)
   ·walk_at "ev"
   ·walk_at "ev"
   walk_at "ev"
  ·haveI hc : c = 46 := sgT h3
   have e : stepR signs (c :: r) items st = some (r, items ++ [signs], st) := by unfold stepR; rw [if_neg n1, if_neg n2]; simp only [hc, if_true]
   rw [e] at hr
   apply X.app (v := chs signs) G
   ·decide
   ·rfl
   ·intro _; rfl
   ·decide
   ·walk_at "mem"
   ·walk_at "mem"
   ·walk_at "keepo"
   ·walk_at "ev"
   ·exact hlm3
   refine X.end (X.end (X.end (X.nil ⟨rfl, 1, items ++ [signs], st, by decide, hr, ?_, ?_⟩)))
   ·rw [dl, List.length_append, List.length_singleton]; lia
   rw [List.map_append]
   walk_at "has"
  haveI n3 : ¬ c = 46 := sgF h3
  refine X.ite (b := [c] == cs "[") ?_ (fun h4 => ?_) (fun h4 => ?_)
  ·refine B.eqs (E.items (i := 0) (x := c :: r) ?_ ?_ (by decide) g0) ?_ (by rfl)
   ·walk_at "ev"
   ·walk_at "ev"
   walk_at "ev"
  ·have hc : c = 91 := sgT h4
   subst hc
   obtain ⟨b, r2, rfl⟩ : ∃ b r2, r = b :: r2 := by
    cases r with
    | nil => unfold stepR at hr; rw [if_neg n1, if_neg n2] at hr; simp at hr
    | cons b r2 => exact ⟨b, r2, rfl⟩
   generalize hfirst : (if b = 94 then 2 else 1 : Nat) = first at *
   generalize hrest : (91 :: b :: r2 : List Nat) = rest at *
   have e : ∃ zs zm, inR rest first signs (rest.length + 1) first [] = some (zs, zm) ∧ readR signs f (rest.drop (zs + 1)) (items ++ [signs.filter fun s => (zm.any fun c => c == s) != (b == 94)]) st = some (res, star) := by
    subst hrest
    unfold stepR at hr
    rw [if_neg n1, if_neg n2] at hr
    simp only [if_neg n3, if_true, hfirst] at hr
    cases hin : inR (91 :: b :: r2) first signs ((91 :: b :: r2).length + 1) first [] with
    | none => rw [hin] at hr; exact absurd hr.symm (Option.some_ne_none _)
    | some p => rw [hin] at hr; exact ⟨p.1, p.2, rfl, hr⟩
   obtain ⟨zs, zm, hin, hr2⟩ := e
   clear hr
   haveI g1 : rest[1]? = some b := hrest ▸ rfl
   walk_at "asg"
   ·refine E.eqs (a := [b]) (b := cs "^") (E.items (i := ((1 : Nat) : Int)) (x := rest) ?_ ?_ (by decide) (sat g1)) ?_ (by rfl)
    ·walk_at "ev"
    ·walk_at "ev"
    walk_at "ev"
   walk_at "asg"
   ·refine E.ife (r := .pv (.int (first : Int))) (b := [b] == cs "^") ?_ (fun h => ?_) fun h => ?_
    ·walk_at "tst"
    ·have : b = 94 := sgT h
     rw [← hfirst, if_pos this]; walk_at "ev"
    have : ¬ b = 94 := sgF h
    rw [← hfirst, if_neg this]; walk_at "ev"
   walk_at "asgs"
   apply X.own 1 (xs := [])
   ·decide
   ·rfl
   ·walk_at "keep"
   ·rfl
   ·rfl
   ·exact EF.list EA.nil (by decide)
   have sing : ∀ a b : Nat, (([a] : List Nat) == [b]) = (a == b) := fun a b => by
    cases h : a == b with
    | true => rw [beq_iff_eq.mp h]; exact beq_self_eq_true _
    | false => simpa using h
   have f12 : 1 ≤ first ∧ first ≤ 2 := by rw [← hfirst]; split <;> decide
   refine X.whileM (ι := Nat × List Nat × Nat) (fun i => ⟨[("size", .pv (.int (i.1 : Int))), ("rest", .pv (.str rest)), ("star", .pv (.int st)), ("signs", .pv (chs signs)), ("items", .ptr 0), ("first", .pv (.int (first : Int))), ("barred", .pv (.bool ([b] == cs "^"))), ("members", .ptr 1)], [(1, i.2.1.map fun c => .str [c]), (0, items.map chs)]⟩)
    (fun i => inR rest first signs i.2.2 i.1 i.2.1 = some (zs, zm) ∧ i.2.1.length ≤ 10 * i.1 ∧ 1 ≤ i.1 ∧ i.1 ≤ rest.length + 1) (fun i => i.2.2) (first, [], rest.length + 1) ?_ ⟨hin, Nat.zero_le _, f12.1, Nat.le_trans f12.2 (Nat.succ_le_succ rp)⟩ fun i hi => ?_
   ·walk_at "has"
   obtain ⟨size, mem, fu⟩ := i
   obtain ⟨hin2, hml, hs1, hs2⟩ := hi
   dsimp only at hin2 hml hs1 hs2 ⊢
   obtain ⟨fu, rfl⟩ : ∃ g, fu = g + 1 := by
    cases fu with
    | zero => exact absurd hin2.symm (Option.some_ne_none _)
    | succ g => exact ⟨g, rfl⟩
   unfold inR at hin2
   haveI hcx : ∃ c', rest[size]? = some c' := by
    cases q : rest[size]? with
    | none => simp [q] at hin2
    | some c' => exact ⟨c', rfl⟩
   obtain ⟨c', hc'⟩ := hcx
   haveI hlt : size < rest.length := (List.getElem?_eq_some_iff.mp hc').1
   haveI hmm : (mem.map fun c => PV.str [c]).length = mem.length := List.length_map ..
   refine ⟨((size : Int) == (first : Int)) || (([c'] != cs "]") || false), ?_, fun hb => ?_, fun hb => ?_⟩
   ·refine B.or (B.eqi ?_ ?_ (by rfl)) fun _ => B.or (B.nes (E.items (i := (size : Int)) (x := rest) ?_ ?_ (by lia) (sat hc')) ?_ (by rfl)) fun _ => B.or0
    ·walk_at "ev"
    ·walk_at "ev"
    ·walk_at "ev"
    ·walk_at "ev"
    walk_at "ev"
   ·simp only [Bool.or_false, Bool.or_eq_false_iff] at hb
    obtain ⟨hb1, hb2⟩ := hb
    haveI hne1 : size ≠ first := fun e => by rw [e] at hb1; simp at hb1
    haveI h93 : c' = 93 := by
     cases q : ([c'] == cs "]") with
     | true => have := eq_of_beq q; cases this; rfl
     | false => unfold bne at hb2; rw [q] at hb2; exact absurd hb2.symm Bool.false_ne_true
    subst h93
    rw [if_pos ⟨hne1, hc'⟩] at hin2
    obtain ⟨rfl, rfl⟩ := Prod.mk.inj (Option.some.inj hin2)
    apply X.freeze (k := 1)
    ·walk_at "mem"
    ·walk_at "frz"
    ·walk_at "keepo"
    apply X.app (v := chs (signs.filter fun s => (mem.any fun c => c == s) != (b == 94))) G
    ·decide
    ·rfl
    ·intro _; rfl
    ·decide
    ·walk_at "mem"
    ·walk_at "mem"
    ·walk_at "keepo"
    ·refine E.compIf (its := signs) (cv := fun c => [.str [c]]) (xs := ["sign"]) (l := [("members", .list (mem.map fun c => .str [c])), ("barred", .bool ([b] == cs "^"))]) G ?_ ?_ (.name _ _) (by decide) (fun _ => rfl) (I.listA (c := fun c => .str [c]) ?_) (by lia) (fun c2 G2 s hs => ?_) fun c2 G2 s hs hb => ?_
     ·walk_at "cok"
     ·walk_at "caps"
     ·walk_at "ev"
     ·have e1 : ((mem.any fun c => c == s) != (b == 94)) = (((mem.map fun c => PV.str [c]).any fun v => eqp .str v (.str [s])) != ([b] == cs "^")) := by
       rw [qn8, show ([b] == cs "^") = (b == 94) from sing b 94]
       congr 2; funext c; exact (sing c s).symm
      rw [e1]
      refine B.neb (E.inl .str ?_ (EL.of ?_) trivial (q73 _) (by decide) (by rfl)) ?_ (by rfl)
      ·walk_at "ev"
      ·walk_at "ev"
      walk_at "ev"
     walk_at "ev"
    ·exact hlm3
    apply X.augE (c := ((size + 1 : Nat) : Int))
    ·decide
    ·walk_at "mem"
    ·walk_at "keep"
    ·walk_at "ev"
    ·lia
    refine X.end (X.end (X.end (X.end (X.nil ⟨rfl, size + 1, items ++ [signs.filter fun s => (mem.any fun c => c == s) != (b == 94)], st, by lia, hr2, ?_, ?_⟩))))
    ·rw [dl, List.length_append, List.length_singleton]; lia
    rw [List.map_append]
    walk_at "has"
   have hstop : ¬ (size ≠ first ∧ rest[size]? = some 93) := fun ⟨h1, h2⟩ => by
    rw [hc'] at h2
    cases h2
    haveI : ((size : Int) == (first : Int)) = false := by simp; lia
    rw [this] at hb
    exact absurd hb (by decide)
   rw [if_neg hstop, hc'] at hin2
   dsimp only at hin2
   generalize hw : (if c' = 92 then 2 else 1 : Nat) = w at hin2
   have w12 : 1 ≤ w ∧ w ≤ 2 := by rw [← hw]; split <;> decide
   haveI hld : ∃ low d, rest[size + w - 1]? = some low ∧ rest[size + w]? = some d := by
    cases q1 : rest[size + w - 1]? with
    | none => rw [q1] at hin2; exact absurd hin2.symm (Option.some_ne_none _)
    | some low =>
     cases q2 : rest[size + w]? with
     | none => rw [q1, q2] at hin2; exact absurd hin2.symm (Option.some_ne_none _)
     | some d => exact ⟨low, d, rfl, rfl⟩
   obtain ⟨low, d, hlow, hd⟩ := hld
   rw [hlow, hd] at hin2
   dsimp only at hin2
   have hdl : size + w < rest.length := (List.getElem?_eq_some_iff.mp hd).1
   apply X.augE (b := (w : Int)) (c := ((size + w : Nat) : Int))
   ·decide
   ·walk_at "mem"
   ·walk_at "keep"
   ·refine E.ife (r := .pv (.int (w : Int))) (b := [c'] == cs "\\") ?_ (fun h => ?_) fun h => ?_
    ·refine B.eqs (E.items (i := (size : Int)) (x := rest) ?_ ?_ (by lia) (sat hc')) ?_ (by rfl)
     ·walk_at "ev"
     ·walk_at "ev"
     walk_at "ev"
    ·have : c' = 92 := sgT h
     rw [← hw, if_pos this]; walk_at "ev"
    have : ¬ c' = 92 := sgF h
    rw [← hw, if_neg this]; walk_at "ev"
   ·lia
   haveI ei : ((size + w : Nat) : Int) - 1 = ((size + w - 1 : Nat) : Int) := by lia
   walk_at "asg"
   ·refine E.items (i := ((size + w : Nat) : Int) - 1) (x := rest) (c := low) ?_ ?_ (by lia) ((ei) ▸ sat hlow)
    ·walk_at "ev"
    walk_at "ev"
   walk_at "asgs"
   refine X.cut (fun s => ∃ (z hi : Nat), size < z ∧ z ≤ rest.length + 1 ∧ inR rest first signs fu z (mem ++ sel signs low hi) = some (zs, zm) ∧
    Has ⟨[("size", .pv (.int (z : Int))), ("low", .pv (.str [low])), ("high", .pv (.str [hi])), ("rest", .pv (.str rest)), ("star", .pv (.int st)), ("signs", .pv (chs signs)), ("items", .ptr 0), ("first", .pv (.int (first : Int))), ("barred", .pv (.bool ([b] == cs "^"))), ("members", .ptr 1)], [(1, mem.map fun c => .str [c]), (0, items.map chs)]⟩ s) ?_ fun s hs => ?_
   ·refine X.ite (b := [d] == cs "-") ?_ (fun h => ?_) fun h => ?_
    ·refine B.eqs (E.items (i := ((size + w : Nat) : Int)) (x := rest) ?_ ?_ (by lia) (sat hd)) ?_ (by rfl)
     ·walk_at "ev"
     ·walk_at "ev"
     walk_at "ev"
    ·haveI : d = 45 := sgT h
     rw [if_pos this] at hin2
     have hh : ∃ hi, rest[size + w + 1]? = some hi := by
      cases q : rest[size + w + 1]? with
      | none => rw [q] at hin2; exact absurd hin2.symm (Option.some_ne_none _)
      | some hi => exact ⟨hi, rfl⟩
     obtain ⟨hi, hhi⟩ := hh
     rw [hhi] at hin2
     dsimp only at hin2
     have hhl : size + w + 1 < rest.length := (List.getElem?_eq_some_iff.mp hhi).1
     apply X.augE (c := ((size + w + 2 : Nat) : Int))
     ·decide
     ·walk_at "mem"
     ·walk_at "keep"
     ·walk_at "ev"
     ·lia
     have ej : ((size + w + 2 : Nat) : Int) - 1 = ((size + w + 1 : Nat) : Int) := by lia
     walk_at "asg"
     ·refine E.items (i := ((size + w + 2 : Nat) : Int) - 1) (x := rest) (c := hi) ?_ ?_ (by lia) ((ej) ▸ sat hhi)
      ·walk_at "ev"
      walk_at "ev"
     exact X.end (X.nil ⟨rfl, size + w + 2, hi, by lia, by lia, hin2, by walk_at "has"⟩)
    have : ¬ d = 45 := sgF h
    rw [if_neg this] at hin2
    exact X.end (X.nil ⟨rfl, size + w, low, by lia, by lia, hin2, by walk_at "has"⟩)
   obtain ⟨z, hi, hz1, hz3, hin3, hh⟩ := hs
   refine X.has hh ?_
   haveI hsl : (sel signs low hi).length ≤ 10 := Nat.le_trans (List.length_filter_le _ _) (by assumption)
   apply X.ext (ys := (sel signs low hi).map fun c => .str [c]) G
   ·decide
   ·rfl
   ·intro _; rfl
   ·decide
   ·walk_at "mem"
   ·walk_at "mem"
   ·walk_at "keepo"
   ·refine E.compIf (its := signs) (cv := fun c => [.str [c]]) (xs := ["sign"]) (l := [("low", .str [low]), ("high", .str [hi])]) G ?_ ?_ (.name _ _) (by decide) (fun _ => rfl) (I.listA (c := fun c => .str [c]) ?_) (by lia) (fun c2 G2 s hs => ?_) fun c2 G2 s hs hb => ?_
    ·walk_at "cok"
    ·walk_at "caps"
    ·walk_at "ev"
    ·haveI e1 : ((decide (low ≤ s) && decide (s ≤ hi)) || decide (hi < low)) = ((decide (low ≤ s) && decide (s ≤ hi)) || (decide (hi < low) || false)) := by rw [Bool.or_false]
     rw [e1]
     refine B.or (B.between ?_ ?_ ?_ (by rfl)) fun _ => B.or (B.lt1 ?_ ?_ (by rfl)) fun _ => B.or0
     ·walk_at "ev"
     ·walk_at "ev"
     ·walk_at "ev"
     ·walk_at "ev"
     walk_at "ev"
    walk_at "ev"
   ·rw [hmm, List.length_map]; lia
   refine X.endL ⟨(z, mem ++ sel signs low hi, fu), ⟨hin3, ?_, by lia, hz3⟩, Nat.lt_succ_self _, ?_⟩
   ·show (mem ++ sel signs low hi).length ≤ 10 * z
    rw [List.length_append]; lia
   rw [← List.map_append]
   walk_at "has"
  haveI n4 : ¬ c = 91 := sgF h4
  generalize hw : (if c = 92 then 2 else 1 : Nat) = w at *
  have w12 : 1 ≤ w ∧ w ≤ 2 := by rw [← hw]; split <;> decide
  have hw1 : (if c = 92 then 1 else 0 : Nat) = w - 1 := by rw [← hw]; split <;> rfl
  haveI hd : ∃ d, (c :: r)[w - 1]? = some d ∧ readR signs f ((c :: r).drop w) (items ++ [signs.filter fun s => s == d]) st = some (res, star) := by
   unfold stepR at hr
   rw [if_neg n1, if_neg n2] at hr
   simp only [if_neg n3, if_neg n4, hw1, hw] at hr
   cases q : (c :: r)[w - 1]? with
   | none => rw [q] at hr; exact absurd hr.symm (Option.some_ne_none _)
   | some d => rw [q] at hr; exact ⟨d, rfl, hr⟩
  obtain ⟨d, hd1, hr2⟩ := hd
  clear hr
  have ei : ((w : Nat) : Int) - 1 = ((w - 1 : Nat) : Int) := by lia
  walk_at "asg"
  ·refine E.ife (r := .pv (.int (w : Int))) (b := [c] == cs "\\") ?_ (fun h => ?_) fun h => ?_
   ·refine B.eqs (E.items (i := 0) (x := c :: r) ?_ ?_ (by decide) g0) ?_ (by rfl)
    ·walk_at "ev"
    ·walk_at "ev"
    walk_at "ev"
   ·have : c = 92 := sgT h
    rw [← hw, if_pos this]; walk_at "ev"
   have : ¬ c = 92 := sgF h
   rw [← hw, if_neg this]; walk_at "ev"
  apply X.app (v := chs (signs.filter fun s => s == d)) G
  ·decide
  ·rfl
  ·intro _; rfl
  ·decide
  ·walk_at "mem"
  ·walk_at "mem"
  ·walk_at "keepo"
  ·refine E.compIf (its := signs) (cv := fun c => [.str [c]]) (xs := ["sign"]) (l := [("rest", .str (c :: r)), ("size", .int (w : Int))]) G ?_ ?_ (.name _ _) (by decide) (fun _ => rfl) (I.listA (c := fun c => .str [c]) ?_) (by lia) (fun c2 G2 s hs => ?_) fun c2 G2 s hs hb => ?_
   ·walk_at "cok"
   ·walk_at "caps"
   ·walk_at "ev"
   ·have e1 : (s == d) = (([s] : List Nat) == [d]) := by
     cases h : s == d with
     | true => rw [beq_iff_eq.mp h]; exact (beq_self_eq_true _).symm
     | false => symm; simpa using h
    rw [e1]
    refine B.eqs ?_ (E.items (i := ((w : Nat) : Int) - 1) (x := c :: r) (c := d) ?_ ?_ (by lia) ((ei) ▸ sat hd1)) (by rfl)
    ·walk_at "ev"
    ·walk_at "ev"
    walk_at "ev"
   walk_at "ev"
  ·exact hlm3
  refine X.end (X.end (X.end (X.end (X.nil ⟨rfl, w, items ++ [signs.filter fun s => s == d], st, by lia, hr2, ?_, ?_⟩))))
  ·rw [dl, List.length_append, List.length_singleton]; lia
  rw [List.map_append]
  walk_at "has"
 obtain ⟨z, i', s', hz0, hr', hl', hh⟩ := hs
 refine X.has hh ?_
 walk_at "asgs"
 refine X.endL ⟨(rest.drop z, i', s', f), ⟨hr', hl'⟩, ?_, ?_⟩
 ·show (rest.drop z).length < rest.length
  haveI : rest.length ≠ 0 := fun e => hne (List.length_eq_zero_iff.mp e)
  rw [List.length_drop]; lia
 rw [q29]; walk_at "has"
noncomputable def rowT (signs : List Nat) (items : List (List Nat)) (star : Int) (m : Nat) : List (List Nat) :=
 if 0 ≤ star then cut none (some star) items ++ List.replicate (m - items.length) signs ++ cut (some star) none items else items
noncomputable def misT (name : List Nat) (row : List (List Nat)) : List (Nat × List Nat) := (name.zip row).filter fun p => !p.2.any fun c => c == p.1
noncomputable def fitT (signs : List Nat) (items : List (List Nat)) (star : Int) (name : List Nat) : Bool :=
 ((rowT signs items star name.length).length == name.length) && (misT name (rowT signs items star name.length)).isEmpty
theorem z73 (l : List PV) : eqp (.list .str) (.list l) (.list []) = l.isEmpty := by
 cases l <;> rfl
theorem qq5 {Γ : Cx} {P : Params} (KX : (hdK P).In Γ.hB) (text signs : List Nat) (names : List (List Nat)) (res : List (List Nat)) (star : Int) (k : Nat) (hz : text.length ≤ 2 ^ 16) (hs : signs.length ≤ 10)
  (hk : readR signs k (cut (some 4) (some (-3)) text) [] (-1) = some (res, star)) (hres : res.length ≤ 1000) (hst : -1 ≤ star ∧ star ≤ 1000) (hn : ∀ x ∈ names, x.length ≤ 10) (hnl : names.length ≤ 1000)
  (blen : Γ.mg (Str.ofString "len") = none) (bzip : Γ.mg (Str.ofString "zip") = none) (gread : Γ.mg (Str.ofString "_law_read") = some (.ref 135)) :
  FSpec Γ 7 140 [.str text, chs signs, .list (names.map .str)] (.list ((names.filter (fitT signs res star)).map .str)) := by
 refine FSpec.introY KX (ps := ["text", "signs", "names"]) (ns := ["text", "signs", "names", "items", "star", "taken", "name", "row"]) (v := [("text", .pv (.str text)), ("signs", .pv (chs signs)), ("names", .pv (.list (names.map .str)))]) (by rfl) (by rfl) (by rfl) ?_ ?_ (by rfl) ⟨rfl, rfl, rfl, rfl, rfl⟩ (by rfl) ?_
 ·walk_at "cok"
 ·intro Vs h
  obtain ⟨a, b, c, rfl⟩ := len3 h; rfl
 intro kf env G
 try dsimp only at G
 haveI F := (qu8 KX text signs res star k hz hs hk blen).on (k := kf)
 haveI D : DN (Γ.on kf) env _ (Str.ofString "_law_read") 135 := ⟨G, by rfl, gread, by decide, fn_in KX (by rfl)⟩
 apply X.unp (xs := ["items", "star"]) (its := [.list (res.map chs), .int star]) (.tup ["items", "star"] [_, _] _ _ rfl) (by decide)
 ·decide
 ·walk_at "keep"
 ·refine E.call D F ?_ (by intro _; rfl)
  walk_at "evs"
 ·rfl
 ·intro _; rfl
 dsimp only [List.zip, List.zipWith, List.map, List.cons_append, List.nil_append]
 apply X.own 0 (xs := [])
 ·decide
 ·rfl
 ·walk_at "keep"
 ·rfl
 ·rfl
 ·exact EF.list EA.nil (by decide)
 have hrl : (res.map chs).length = res.length := List.length_map ..
 haveI hnm : (names.map PV.str).length = names.length := List.length_map ..
 refine X.forM (ι := List (List Nat)) (its := names.map fun y => [.str y]) (xs := ["name"]) (fun t => ⟨[("items", .pv (.list (res.map chs))), ("star", .pv (.int star)), ("signs", .pv (chs signs)), ("taken", .ptr 0)], [(0, t.map .str)]⟩)
  (fun j t => t = (names.take j).filter (fitT signs res star)) (.name _ _) (by decide) (by decide) (I.listA (c := .str) ?_) ?_ ?_ [] ?_ rfl (fun j x t hx ht => ?_) (fun t ht => ?_) ?_
 ·walk_at "ev"
 ·intro x hx
  obtain ⟨y, _, rfl⟩ := List.mem_map.mp hx
  rfl
 ·intro t p hp
  simp only [List.mem_cons, List.not_mem_nil, or_false] at hp
  rcases hp with rfl | rfl | rfl | rfl <;> simp
 ·walk_at "has"
 ·rw [List.getElem?_map] at hx
  obtain ⟨name, hname, rfl⟩ := Option.map_eq_some_iff.mp hx
  have hnn : name.length ≤ 10 := hn _ (List.mem_of_getElem? hname)
  haveI hnn2 : name.length ≤ 2 ^ 24 := by lia
  haveI htl : (t.map PV.str).length ≤ 2 ^ 24 := by
   rw [List.length_map, ht]
   have h1 := List.length_filter_le (fitT signs res star) (names.take j)
   have h2 : (names.take j).length ≤ names.length := by rw [List.length_take]; lia
   lia
  haveI htake : names.take (j + 1) = names.take j ++ [name] := by rw [List.take_add_one, hname]; rfl
  dsimp only [List.zip, List.zipWith, List.map, List.cons_append, List.nil_append]
  generalize hrow : rowT signs res star name.length = row
  have hro : row.length ≤ 3000 := by
   rw [← hrow]; unfold rowT
   haveI h1 := q25 none (some star) res
   haveI h2 := q25 (some star) none res
   split
   ·simp only [List.length_append, List.length_replicate]; lia
   lia
  walk_at "asgs"
  refine X.cut (fun s => Has ⟨[("name", .pv (.str name)), ("row", .pv (.list (row.map chs))), ("items", .pv (.list (res.map chs))), ("star", .pv (.int star)), ("signs", .pv (chs signs)), ("taken", .ptr 0)], [(0, t.map .str)]⟩ s) ?_ fun s hs => X.has hs ?_
  ·haveI hil3 : (res.map chs).length ≤ 2 ^ 24 := by lia
   refine X.ite (b := decide (0 ≤ star)) ?_ (fun h => ?_) (fun h => ?_)
   ·refine B.gei (a := star) (b := 0) ?_ ?_ (by rfl)
    ·walk_at "ev"
    walk_at "ev"
   ·haveI h0 : 0 ≤ star := of_decide_eq_true h
    have e : PV.list (row.map chs) = .list (cut none (some star) (res.map chs) ++ (List.replicate ((name.length : Int) - ((res.map chs).length : Int)).toNat [chs signs]).flatten ++ cut (some star) none (res.map chs)) := by
     rw [← hrow]; unfold rowT
     rw [if_pos h0, List.map_append, List.map_append, q59, q59, List.map_replicate, hrl]
     congr 3
     haveI : ((name.length : Int) - (res.length : Int)).toNat = name.length - res.length := by lia
     rw [this]
     generalize name.length - res.length = m
     induction m with
     | zero => rfl
     | succ m ih => rw [List.replicate_succ, List.replicate_succ, List.flatten_cons, ← ih]; rfl
    walk_at "asg"
    ·haveI c1 := q25 none (some star) (res.map chs)
     haveI c2 := q25 (some star) none (res.map chs)
     haveI c3 : ((List.replicate ((name.length : Int) - ((res.map chs).length : Int)).toNat [chs signs]).flatten).length ≤ 10 := by
      simp only [List.length_flatten, List.map_replicate, List.sum_replicate_nat, List.length_singleton]; lia
     refine E.addl (b := cut (some star) none (res.map chs)) (EL.of (E.addl (a := cut none (some star) (res.map chs)) (EL.of ?_) (EL.of (E.mull (x := (name.length : Int) - ((res.map chs).length : Int)) (a := [chs signs]) (EL.of (E.list (EA.cons ?_ EA.nil (by intro _; rfl)) (Nat.le_of_ble_eq_true rfl))) (E.sub ?_ ?_) (by lia) ?_)) (by lia))) (EL.of ?_) ?_
     ·walk_at "ev"
     ·walk_at "ev"
     ·walk_at "ev"
     ·walk_at "ev"
     ·show 1 * _ ≤ _; lia
     ·walk_at "ev"
     rw [List.length_append]; lia
    rw [← e]
    exact X.end (X.nil ⟨rfl, by walk_at "has"⟩)
   have h0 : ¬ 0 ≤ star := of_decide_eq_false h
   have e : row = res := by rw [← hrow]; unfold rowT; rw [if_neg h0]
   rw [e]
   exact X.end (X.nil ⟨rfl, by walk_at "has"⟩)
  haveI hrm : (row.map chs).length = row.length := List.length_map ..
  haveI hrm2 : (row.map chs).length < 2 ^ 60 := by lia
  haveI hrm3 : (row.map chs).length ≤ 2 ^ 24 := by lia
  refine X.ite (b := fitT signs res star name) ?_ (fun h => ?_) (fun h => ?_)
  ·have e : fitT signs res star name = ((((row.map chs).length : Int) == (name.length : Int)) && ((eqp (.list .str) (.list ((misT name row).map fun p => .str [p.1])) (.list [])) && true)) := by
    unfold fitT
    rw [hrow, z73, hrm, Bool.and_true]
    congr 1
    ·cases h : row.length == name.length with
     | true => rw [beq_iff_eq.mp h]; exact (beq_self_eq_true _).symm
     | false => have := ne_of_beq_false h; symm; simp; lia
    cases misT name row <;> rfl
   rw [e]
   refine B.and (B.eqi ?_ ?_ (by rfl)) fun _ => B.and (B.eqt (.list .str) ?_ (E.list EA.nil (by decide)) ?_ ?_ (by decide) (by rfl)) fun _ => B.and0
   ·walk_at "ev"
   ·walk_at "ev"
   ·unfold misT
    refine E.compIf (its := name.zip row) (cv := fun p => [.str [p.1], chs p.2]) (xs := ["sign", "item"]) (l := []) G ?_ ?_ (.tup ["sign", "item"] [_, _] _ _ rfl) (by decide) (fun _ => rfl) ?_ ?_ (fun c2 G2 s hs => ?_) fun c2 G2 s hs hb => ?_
    ·walk_at "cok"
    ·walk_at "caps"
    ·haveI e2 : ((name.zip row).map fun p => [PV.str [p.1], chs p.2]) = ((name.zip (row.map chs)).map fun p => [.str [p.1], p.2]) := by
      rw [List.zip_map_right, List.map_map]; rfl
     rw [e2]
     apply I.zipS
     ·walk_at "bn"
     ·walk_at "ev"
     ·walk_at "ev"
     ·intro _; rfl
     intro _; rfl
    ·rw [List.length_zip]; lia
    ·have e1 : (!s.2.any fun c => c == s.1) = !((s.2.map fun c => PV.str [c]).any fun v => eqp .str v (.str [s.1])) := by
      rw [qn8]
      congr 2; funext c
      cases h : c == s.1 with
      | true => rw [beq_iff_eq.mp h]; exact (beq_self_eq_true _).symm
      | false => symm; simpa using h
     rw [e1]
     refine B.notinl .str ?_ (EL.of ?_) trivial (q73 _) (by decide) (by rfl)
     ·walk_at "ev"
     walk_at "ev"
    walk_at "ev"
   ·intro y hy
    obtain ⟨p, _, rfl⟩ := List.mem_map.mp hy; trivial
   intro y hy; cases hy
  ·apply X.app (v := .str name) G
   ·decide
   ·rfl
   ·intro _; rfl
   ·decide
   ·walk_at "mem"
   ·walk_at "mem"
   ·walk_at "keepo"
   ·walk_at "ev"
   ·exact htl
   refine X.end (X.endL ⟨t ++ [name], ?_, ?_⟩)
   ·rw [htake, List.filter_append, ← ht]
    congr 1
    show _ = List.filter _ [name]
    rw [List.filter_cons_of_pos h]; rfl
   rw [List.map_append]; walk_at "has"
  refine X.end (X.endL ⟨t, ?_, ?_⟩)
  ·rw [htake, List.filter_append, ← ht]
   haveI : List.filter (fitT signs res star) [name] = [] := by rw [List.filter_cons_of_neg (by rw [h]; decide)]; rfl
   rw [this, List.append_nil]
  walk_at "has"
 ·haveI e : t = names.filter (fitT signs res star) := by
   rw [ht, List.length_map, List.take_length]
  rw [← e]
  apply X.freeze (k := 0)
  ·walk_at "mem"
  ·walk_at "frz"
  ·walk_at "keepo"
  refine X.ret ?_ rfl
  walk_at "ev"
 intro _; rfl
theorem ffK (P : Params) : FF (hdK P) 64 46 53 60 65 66 := by constructor <;> rfl
theorem qm5 {K : Frag} {hB : Heap} {f : Addr} {fd : FuncData} {body : List Stmt} {c : Addr} {cvs : Array Value} {t : Tok} (KX : K.In hB) (e1 : (K.lookup f).map Obj.data = some (.func fd)) (hb : fd.body = .stmts body)
  (hc : fd.code = .ref c) (e2 : (K.lookup c).map (fun o => (isTb o, o.data)) = some (false, .fields cvs)) (hc1 : cvs[1]? = some (.str fd.qualname t))
  (hr : fd.closure = [] ∧ fd.globals = mainGlobals ∧ fd.builtins = builtinsNs ∧ fd.scope.kind = .function ∧ fd.scope.isCoroutine = false ∧ fd.scope.isGenerator = false) : FnAt hB f fd body := by
 obtain ⟨o, ho, hd⟩ := Option.map_eq_some_iff.mp e1
 obtain ⟨oc, hoc, hcd⟩ := Option.map_eq_some_iff.mp e2
 exact ⟨⟨o, KX _ _ ho, hd⟩, ⟨c, oc, cvs, t, hc, KX _ _ hoc, congrArg Prod.fst hcd, congrArg Prod.snd hcd, hc1⟩, hb, hr.1, hr.2.1, hr.2.2.1, hr.2.2.2.1, hr.2.2.2.2.1, hr.2.2.2.2.2⟩
theorem ffS {Γ : Cx} {P : Params} (KX : (hdK P).In Γ.hB) (gi : Γ.mg (Str.ofString "iter") = none) (gn : Γ.mg (Str.ofString "next") = none) (gb : Γ.mg (Str.ofString "bool") = none) (k : List Addr) : FFs (Γ.on k) (hdK P) 64 46 53 60 65 66 where
 FC := ffK P
 KX := KX
 init := by
  refine ⟨_, qm5 KX (by rfl) (by rfl) (by rfl) (by rfl) (by rfl) ⟨rfl, rfl, rfl, rfl, rfl, rfl⟩, by rfl, fun a b c => by rfl⟩
 iter := by
  refine ⟨_, qm5 KX (by rfl) (by rfl) (by rfl) (by rfl) (by rfl) ⟨rfl, rfl, rfl, rfl, rfl, rfl⟩, by rfl, fun a => by rfl⟩
 next := by
  refine ⟨_, qm5 KX (by rfl) (by rfl) (by rfl) (by rfl) (by rfl) ⟨rfl, rfl, rfl, rfl, rfl, rfl⟩, by rfl, fun a => by rfl⟩
 gi := gi
 gn := gn
 gb := gb
theorem qc5 {Γ : Cx} {P : Params} (KX : (hdK P).In Γ.hB) (gi : Γ.mg (Str.ofString "iter") = none) (gn : Γ.mg (Str.ofString "next") = none) (gb : Γ.mg (Str.ofString "bool") = none) (gl : Γ.mg (Str.ofString "list") = none) (gf : Γ.mg (Str.ofString "filterfalse") = some (.ref 64)) (xs ys : List (List Nat)) (hz : xs.length ≤ 2 ^ 24) :
  FSpec Γ 6 75 [.list (xs.map .str), .list (ys.map .str)] (.list ((xs.filter fun x => !ys.any fun y => y == x).map .str)) := by
 refine qm7 (ffS KX gi gn gb) (by rfl) (by rfl) (by rfl) (by rfl) (by rfl) (by rfl) (by rfl) (fun Vs h => ?_) ⟨rfl, rfl, rfl, rfl, rfl⟩ gl gf xs ys hz
 obtain ⟨a, b, rfl⟩ := len2 h; rfl
noncomputable def mapL : List (Nat × Tok × Tok) := spc.zipIdx.map fun p => (p.1, 396 + 6 * p.2, 400 + 6 * p.2)
theorem qm8 {n : Nat} {Γ : Cx} {P : Params} (KX : (hdK P).In Γ.hB) (c : Nat) (gi : Γ.mg (Str.ofString "isinstance") = none) (gs : Γ.mg (Str.ofString "str") = none) (gm : Γ.mg (Str.ofString "_special_chars_map") = some (.ref 89)) :
  FSpec Γ (n + 1) 99 [.str [c]] (.str (escC c)) := by
 refine FSpec.introY KX (ps := ["pattern"]) (ns := ["pattern"]) (v := [("pattern", .pv (.str [c]))]) (by rfl) (by rfl) (by rfl) ?_ ?_ (by rfl) ⟨rfl, rfl, rfl, rfl, rfl⟩ (by rfl) ?_
 ·walk_at "cok"
 ·intro Vs h
  obtain ⟨a, rfl⟩ := len1 h; rfl
 intro kf env G
 try dsimp only at G
 have hm : (Γ.on kf).hB.MapOf (PySem.intKind (Γ.on kf).prog (Γ.on kf).w) 89 (fun k => findBy Value.isInt (mapL.map entOf).toArray k) :=
  z27 (KX 89 _ (by rfl)) ⟨rfl, rfl, rfl⟩ (k := 24) (by rfl) (by decide)
 apply X.ite
 ·have b1 : BN (Γ.on kf) env _ (Str.ofString "isinstance") (.builtin "isinstance") := ⟨G, by rfl, gi, by rfl, by decide, by decide⟩
  have b2 : BN (Γ.on kf) env _ (Str.ofString "str") (.type "str") := ⟨G, by rfl, gs, by rfl, by decide, by decide⟩
  refine B.ofBool (E.isStr (a := [c]) b1 b2 ?_ ?_ ?_) (by rfl)
  ·walk_at "ev"
  ·intro _; rfl
  intro _; rfl
 ·intro _
  apply X.ret
  ·refine E.translate1 (c := c) G (by rfl) gm (by rfl) hm (by rfl) (qy2 (by rfl)) ?_ (by rfl) (by rfl)
   walk_at "ev"
  rfl
 intro h; cases h
noncomputable def trEs : List (Pos × Str) := [(⟨85, 37, 85, 98⟩, Str.ofString "_translate" ++ ".<locals>." ++ "<genexpr>"), (⟨86, 39, 86, 76⟩, Str.ofString "_translate" ++ ".<locals>." ++ "<lambda>")]
theorem q24 (d : Nat) (r : List Nat) : headR (d :: r) = if d = 33 then 94 :: r else if d = 94 ∨ d = 91 then 92 :: d :: r else d :: r := rfl
theorem z84 {P : Params} {h : Heap} (KX : (hdK P).In h) : PatAt h 80 :=
 have e : (twinCode.map fun k : Nat => rawInt (k : Int)) = #[rawInt 14, rawInt 14, rawInt 4, rawInt 1, rawInt 1, rawInt 9, rawInt 0, rawInt 64, rawInt 0, rawInt 1342177280, rawInt 0, rawInt 0, rawInt 0, rawInt 0, rawInt 0, rawInt 17, rawInt 0, rawInt 13, rawInt 11, rawInt 9, rawInt 0, rawInt 64, rawInt 0, rawInt 1342177280, rawInt 0, rawInt 0, rawInt 0, rawInt 0, rawInt 0, rawInt 17, rawInt 1, rawInt 1] := by simp [twinCode]
 ⟨_, _, _, _, _, 79, KX 80 _ (by rfl), rfl, rfl, rfl, 0, by rw [e]; exact KX 79 _ (by rfl)⟩
theorem trR_s {k c : Nat} {r : List Nat} {res : List Part} (h : c = 42) : trR (k + 1) (c :: r) res = trR k r (if res.getLast? = some none then res else res ++ [none]) := by rw [h]; rfl
theorem trR_q {k c : Nat} {r : List Nat} {res : List Part} (h : c = 63) : trR (k + 1) (c :: r) res = trR k r (res ++ [some [46]]) := by rw [h]; rfl
theorem trR_b {k c : Nat} {r : List Nat} {res : List Part} (h : c = 91) : trR (k + 1) (c :: r) res = if closeN r < r.length then (setR (r.take (closeN r))).bind fun t => trR k (r.drop (closeN r + 1)) (res ++ [some (brkR (twinT t))]) else trR k r (res ++ [some [92, 91]]) := by rw [h]; rfl
theorem trR_e {k c : Nat} {r : List Nat} {res : List Part} (n1 : ¬ c = 42) (n2 : ¬ c = 63) (n3 : ¬ c = 91) : trR (k + 1) (c :: r) res = trR k r (res ++ [some (escC c)]) := (if_neg n1).trans ((if_neg n2).trans (if_neg n3))
theorem trR_n {k : Nat} {a b : List Part} (h : trR (k + 1) [] a = some b) : a = b := Option.some.inj h
theorem qq4 {Γ : Cx} {P : Params} (KX : (hdK P).In Γ.hB) (m : Nat) (pat : List Nat) (a k : Nat) (res : List Part) (hz : pat.length ≤ 2 ^ 9) (hk : trR k pat [] = some res)
  (gi : Γ.mg (Str.ofString "isinstance") = none) (gs : Γ.mg (Str.ofString "str") = none) (gm : Γ.mg (Str.ofString "_special_chars_map") = some (.ref 89)) (gl : Γ.mg (Str.ofString "len") = none) (gr : Γ.mg (Str.ofString "range") = none)
  (ge : Γ.mg (Str.ofString "escape") = some (.ref 99)) (gt : Γ.mg (Str.ofString "_twin_re_1") = some (.ref 80)) (hT : Γ.tabs = [(101, trEs)]) (ba : BA Γ) :
  FSpec Γ (m + 3) 106 [.str pat, .obj a, .str [46]] (.list (res.map (PTv a))) := by
 refine FSpec.introC KX (ps := ["pat", "STAR", "QUESTION_MARK"]) (ns := ["pat", "STAR", "QUESTION_MARK", "res", "add", "i", "n", "c", "j", "stuff", "chunks", "k", "chunk"]) (v := [("pat", .pv (.str pat)), ("STAR", .pv (.obj a)), ("QUESTION_MARK", .pv (.str [46]))]) (by rfl) (by rfl) (by rfl) (by rfl) (by rfl) ?_ ?_ (by rfl) ⟨rfl, rfl, rfl, rfl, rfl⟩ (by rfl) ?_
 ·walk_at "cok"
 ·intro Vs h
  obtain ⟨a, b, c, rfl⟩ := len3 h; rfl
 intro kf env G cq
 try dsimp only at G
 obtain ⟨cq1, cq2⟩ := cq
 apply X.own 0 (xs := [])
 ·decide
 ·rfl
 ·walk_at "keep"
 ·rfl
 ·rfl
 ·exact EF.list EA.nil (by decide)
 walk_at "asg"
 ·apply E.appA G
  ·walk_at "mem"
  ·walk_at "mem"
  ·decide
  with_unfolding_all rfl
 haveI bl : BN (Γ.on kf) env _ (Str.ofString "len") (.builtin "len") := ⟨G, by rfl, gl, by rfl, by decide, by decide⟩
 apply X.swap2 (v := .int (pat.length : Int))
 ·decide
 ·decide
 ·walk_at "keep"
 ·walk_at "keep"
 ·refine E.len_str bl ?_ (by lia) (by intro _; rfl)
  walk_at "ev"
 ·intro _; rfl
 ·intro _; rfl
 ·rfl
 ·exact qd9 G fun _ => by kernel_rfl
 have CH : CodeHd Γ.hB 105 101 := codeHd_of_K KX (by rfl)
 haveI hcode : env.code = .ref 105 := cq1
 haveI hqual : env.qual = Str.ofString "_translate" ++ ".<locals>." := cq2
 have hPl : ∀ l : List Part, (l.map (PTv a)).length = l.length := fun l => List.length_map ..
 refine X.whileM (ι := Nat × List Part × Nat) (fun i => ⟨[("pat", .pv (.str pat)), ("STAR", .pv (.obj a)), ("QUESTION_MARK", .pv (.str [46])), ("res", .ptr 0), ("add", .app 0), ("i", .pv (.int (i.1 : Int))), ("n", .pv (.int (pat.length : Int)))], [(0, i.2.1.map (PTv a))]⟩)
  (fun i => i.1 ≤ pat.length ∧ trR i.2.2 (pat.drop i.1) i.2.1 = some res ∧ i.2.1.length ≤ i.1) (fun i => pat.length - i.1) (0, [], k) ?_ ⟨Nat.zero_le _, by rw [List.drop_zero]; exact hk, Nat.le_refl _⟩ fun i hi => ?_
 ·walk_at "has"
 obtain ⟨z, out, f⟩ := i
 obtain ⟨hz1, hr, hol⟩ := hi
 dsimp only at hz1 hr hol ⊢
 haveI hz2 : pat.length ≤ 2 ^ 24 := by lia
 obtain ⟨f, rfl⟩ : ∃ g, f = g + 1 := by
  cases f with
  | zero => exact absurd hr.symm (Option.some_ne_none _)
  | succ g => exact ⟨g, rfl⟩
 refine ⟨decide ((z : Int) < (pat.length : Int)), ?_, fun hb => ?_, fun hb => ?_⟩
 ·walk_at "tst"
 ·have hze : z = pat.length := by have := of_decide_eq_false hb; lia
  subst hze
  have hres : out = res := by
   rw [List.drop_length] at hr
   exact trR_n hr
  subst hres
  apply X.assert
  ·haveI : ((pat.length : Int) == (pat.length : Int)) = true := beq_self_eq_true _
   rw [← this]
   walk_at "tst"
  apply X.freeze (k := 0)
  ·walk_at "mem"
  ·walk_at "frz"
  ·walk_at "keepo"
  refine X.ret ?_ rfl
  walk_at "ev"
 have hlt : z < pat.length := by have := of_decide_eq_true hb; lia
 have hdrop : pat.drop z = pat[z] :: pat.drop (z + 1) := List.drop_eq_getElem_cons hlt
 rw [hdrop] at hr
 haveI hcz : pat[z]? = some pat[z] := List.getElem?_eq_getElem hlt
 generalize hc : pat[z] = c at hr hcz
 have hoz : (out.map (PTv a)).length ≤ 2 ^ 24 := by rw [hPl]; lia
 walk_at "asg"
 ·refine E.items (i := (z : Int)) (x := pat) (c := c) ?_ ?_ (by lia) (sat hcz)
  ·walk_at "ev"
  walk_at "ev"
 walk_at "asg"
 ·refine E.addE (a := (z : Int)) (b := 1) (c := ((z + 1 : Nat) : Int)) ?_ ?_ rfl
  ·walk_at "ev"
  walk_at "ev"
 refine X.ite (b := [c] == cs "*") ?_ (fun h1 => ?_) (fun h1 => ?_)
 ·walk_at "tst"
 ·have hc2 : c = 42 := sgT h1
  rw [trR_s hc2] at hr
  have hlast : ∀ p, out.getLast? = some p → (out.map (PTv a))[((-1 : Int) + (out.map (PTv a)).length).toNat]? = some (PTv a p) ∧ 1 ≤ out.length := fun p hp => by
   rw [List.getLast?_eq_getElem?] at hp
   haveI hpl := (List.getElem?_eq_some_iff.mp hp).1
   rw [hPl, neg1, List.getElem?_map, hp]
   exact ⟨rfl, by lia⟩
  refine X.ite (b := decide (out.getLast? ≠ some none)) ?_ (fun hs => ?_) (fun hs => ?_)
  ·cases hlo : out.getLast? with
   | none =>
    haveI ho0 : out = [] := List.getLast?_eq_none_iff.mp hlo
    have e : ((!(!(out.map (PTv a)).isEmpty)) || true) = decide ((none : Option Part) ≠ some none) := by rw [Bool.or_true]; rfl
    rw [← e]
    refine B.or (B.not (B.ofList (EL.own (j := 0) G ?_ ?_ (by decide)) (by rw [hPl]; lia) (by rfl))) fun h => ?_
    ·walk_at "mem"
    ·walk_at "mem"
    subst ho0; exact absurd h.symm Bool.false_ne_true
   | some p =>
    obtain ⟨hg, h1l⟩ := hlast p hlo
    have he0 : (out.map (PTv a)).isEmpty = false := by
     cases out with
     | nil => simp at h1l
     | cons q r => rfl
    cases p with
    | none =>
     have e : ((!(!(out.map (PTv a)).isEmpty)) || ((a != a) || false)) = decide (some (none : Part) ≠ some none) := by rw [he0]; simp
     rw [← e]
     refine B.or (B.not (B.ofList (EL.own (j := 0) G ?_ ?_ (by decide)) (by rw [hPl]; lia) (by rfl))) fun h => B.or (B.isnotO (a := a) (b := a) (E.itemlN (i := -1) (EL.own (j := 0) G ?_ ?_ (by decide)) ?_ (by decide) (by decide) (by rw [hPl]; lia) hg) ?_ (by rfl)) fun _ => B.or0
     ·walk_at "mem"
     ·walk_at "mem"
     ·walk_at "mem"
     ·walk_at "mem"
     ·walk_at "ev"
     walk_at "ev"
    | some s =>
     have e : ((!(!(out.map (PTv a)).isEmpty)) || (true || false)) = decide (some (some s : Part) ≠ some none) := by rw [he0]; simp
     rw [← e]
     refine B.or (B.not (B.ofList (EL.own (j := 0) G ?_ ?_ (by decide)) (by rw [hPl]; lia) (by rfl))) fun h => B.or (B.isnotS (a := s) (b := a) (E.itemlN (i := -1) (EL.own (j := 0) G ?_ ?_ (by decide)) ?_ (by decide) (by decide) (by rw [hPl]; lia) hg) ?_ (by rfl)) fun _ => B.or0
     ·walk_at "mem"
     ·walk_at "mem"
     ·walk_at "mem"
     ·walk_at "mem"
     ·walk_at "ev"
     walk_at "ev"
  ·rw [if_neg (of_decide_eq_true hs)] at hr
   apply X.add (v := .obj a) G
   ·rfl
   ·intro _; rfl
   ·decide
   ·walk_at "mem"
   ·walk_at "mem"
   ·walk_at "keepo"
   ·walk_at "ev"
   ·exact hoz
   refine X.end (X.end (X.endL ⟨(z + 1, out ++ [none], f), ⟨hlt, hr, by rw [List.length_append, List.length_singleton]; exact Nat.succ_le_succ hol⟩, by dsimp only; exact Nat.sub_lt_sub_left hlt (Nat.lt_succ_self z), ?_⟩))
   dsimp only
   rw [List.map_append]
   walk_at "has"
  rw [if_pos (by simpa using hs)] at hr
  refine X.end (X.end (X.endL ⟨(z + 1, out, f), ⟨hlt, hr, Nat.le_succ_of_le hol⟩, by dsimp only; exact Nat.sub_lt_sub_left hlt (Nat.lt_succ_self z), ?_⟩))
  walk_at "has"
 have n1 : ¬ c = 42 := sgF h1
 refine X.ite (b := [c] == cs "?") ?_ (fun h2 => ?_) (fun h2 => ?_)
 ·walk_at "tst"
 ·have hc2 : c = 63 := sgT h2
  rw [trR_q hc2] at hr
  apply X.add (v := .str [46]) G
  ·rfl
  ·intro _; rfl
  ·decide
  ·walk_at "mem"
  ·walk_at "mem"
  ·walk_at "keepo"
  ·walk_at "ev"
  ·exact hoz
  refine X.end (X.end (X.endL ⟨(z + 1, out ++ [some [46]], f), ⟨hlt, hr, by rw [List.length_append, List.length_singleton]; exact Nat.succ_le_succ hol⟩, by dsimp only; exact Nat.sub_lt_sub_left hlt (Nat.lt_succ_self z), ?_⟩))
  dsimp only
  rw [List.map_append]
  walk_at "has"
 haveI n2 : ¬ c = 63 := sgF h2
 refine X.ite (b := [c] == cs "[") ?_ (fun h3 => ?_) (fun h3 => ?_)
 ·walk_at "tst"
 ·haveI hc3 : c = 91 := sgT h3
  rw [trR_b hc3] at hr
  generalize hrr : pat.drop (z + 1) = r at hr
  have hrat : ∀ v : Nat, r[v]? = pat[z + 1 + v]? := fun v => by rw [← hrr, List.getElem?_drop]
  have hrl : r.length = pat.length - (z + 1) := by rw [← hrr, List.length_drop]
  haveI hclose := z32 r
  walk_at "asgs"
  refine X.cut (fun s => Has ⟨[("pat", .pv (.str pat)), ("STAR", .pv (.obj a)), ("QUESTION_MARK", .pv (.str [46])), ("res", .ptr 0), ("add", .app 0), ("i", .pv (.int ((z + 1 : Nat) : Int))), ("n", .pv (.int (pat.length : Int))), ("j", .pv (.int ((z + 1 + closeA r : Nat) : Int)))], [(0, out.map (PTv a))]⟩ s) ?_ fun s1 hs1 => ?_
  ·refine X.ite (b := decide (pat[z + 1]? = some 33)) (B.atEq ?_ ?_ ?_ ?_ ?_ (by lia) (by rfl) (by rfl) (by intro _ _; rfl)) (fun h => ?_) fun h => ?_
   ·walk_at "ev"
   ·walk_at "ev"
   ·walk_at "ev"
   ·walk_at "ev"
   ·exact E.str
   ·have e1 : closeA r = 1 := by unfold closeA; rw [hrat, if_pos (of_decide_eq_true h)]
    rw [e1]
    walk_at "asg"
    ·refine E.addE (a := ((z + 1 : Nat) : Int)) (b := 1) (c := ((z + 1 + 1 : Nat) : Int)) ?_ ?_ rfl
     ·walk_at "ev"
     walk_at "ev"
    refine X.end (X.nil ⟨rfl, ?_⟩)
    walk_at "has"
   have e1 : closeA r = 0 := by unfold closeA; rw [hrat, if_neg (of_decide_eq_false h)]
   rw [e1]
   refine X.end (X.nil ⟨rfl, ?_⟩)
   walk_at "has"
  refine X.has hs1 ?_
  clear hs1 s1
  refine X.cut (fun s => Has ⟨[("pat", .pv (.str pat)), ("STAR", .pv (.obj a)), ("QUESTION_MARK", .pv (.str [46])), ("res", .ptr 0), ("add", .app 0), ("i", .pv (.int ((z + 1 : Nat) : Int))), ("n", .pv (.int (pat.length : Int))), ("j", .pv (.int ((z + 1 + closeB r : Nat) : Int)))], [(0, out.map (PTv a))]⟩ s) ?_ fun s1 hs1 => ?_
  ·refine X.ite (b := decide (pat[z + 1 + closeA r]? = some 93)) (B.atEq ?_ ?_ ?_ ?_ ?_ (by lia) (by rfl) (by rfl) (by intro _ _; rfl)) (fun h => ?_) fun h => ?_
   ·walk_at "ev"
   ·walk_at "ev"
   ·walk_at "ev"
   ·walk_at "ev"
   ·exact E.str
   ·have e1 : closeB r = closeA r + 1 := by unfold closeB; rw [hrat, if_pos (of_decide_eq_true h)]
    rw [e1]
    walk_at "asg"
    ·refine E.addE (a := ((z + 1 + closeA r : Nat) : Int)) (b := 1) (c := ((z + 1 + (closeA r + 1) : Nat) : Int)) ?_ ?_ rfl
     ·walk_at "ev"
     walk_at "ev"
    refine X.end (X.nil ⟨rfl, ?_⟩)
    walk_at "has"
   have e1 : closeB r = closeA r := by unfold closeB; rw [hrat, if_neg (of_decide_eq_false h)]; rfl
   rw [e1]
   refine X.end (X.nil ⟨rfl, ?_⟩)
   walk_at "has"
  refine X.has hs1 ?_
  clear hs1 s1
  haveI hJ : z + 1 + closeB r + ((pat.drop (z + 1 + closeB r)).takeWhile (· != 93)).length = z + 1 + closeN r := by
   unfold closeN
   rw [← hrr, List.drop_drop]
   lia
  refine X.whileM (ι := Nat) (fun j => ⟨[("pat", .pv (.str pat)), ("STAR", .pv (.obj a)), ("QUESTION_MARK", .pv (.str [46])), ("res", .ptr 0), ("add", .app 0), ("i", .pv (.int ((z + 1 : Nat) : Int))), ("n", .pv (.int (pat.length : Int))), ("j", .pv (.int (j : Int)))], [(0, out.map (PTv a))]⟩)
   (fun j => j + ((pat.drop j).takeWhile (· != 93)).length = z + 1 + closeN r) (fun j => pat.length - j) (z + 1 + closeB r) ?_ hJ fun j hj => ?_
  ·walk_at "has"
  refine ⟨decide (j < pat.length ∧ pat[j]? ≠ some 93), B.atNe ?_ ?_ ?_ ?_ ?_ (by lia) (by rfl) (by rfl) (by intro _ _; rfl), fun hb2 => ?_, fun hb2 => ?_⟩
  ·walk_at "ev"
  ·walk_at "ev"
  ·walk_at "ev"
  ·walk_at "ev"
  ·exact E.str
  rotate_left
  ·have hjc := of_decide_eq_true hb2
   walk_at "asg"
   ·refine E.addE (a := (j : Int)) (b := 1) (c := ((j + 1 : Nat) : Int)) ?_ ?_ rfl
    ·walk_at "ev"
    walk_at "ev"
   refine X.endL ⟨j + 1, ?_, Nat.sub_lt_sub_left (by lia) (Nat.lt_succ_self j), ?_⟩
   ·rw [← qu4 hjc]; exact hj
   walk_at "has"
  haveI hjz := qu3 (of_decide_eq_false hb2)
  rw [hjz] at hj
  subst hj
  clear hjz hb2 hJ
  generalize hN : closeN r = N at *
  refine X.ite (b := decide ((pat.length : Int) ≤ ((z + 1 + N : Nat) : Int))) ?_ (fun h4 => ?_) (fun h4 => ?_)
  ·walk_at "tst"
  ·haveI hnot : ¬ N < r.length := by have := of_decide_eq_true h4; lia
   rw [if_neg hnot] at hr
   apply X.add (v := .str [92, 91]) G
   ·rfl
   ·intro _; rfl
   ·decide
   ·walk_at "mem"
   ·walk_at "mem"
   ·walk_at "keepo"
   ·exact E.str
   ·exact hoz
   refine X.end (X.end (X.end (X.end (X.endL ⟨(z + 1, out ++ [some [92, 91]], f), ⟨hlt, (hrr) ▸ hr, by rw [List.length_append, List.length_singleton]; exact Nat.succ_le_succ hol⟩, by dsimp only; exact Nat.sub_lt_sub_left hlt (Nat.lt_succ_self z), ?_⟩))))
   dsimp only
   rw [List.map_append]
   walk_at "has"
  haveI hyes : N < r.length := by have := of_decide_eq_false h4; lia
  rw [if_pos hyes] at hr
  obtain ⟨t, ht, hr2⟩ : ∃ t, setR (r.take N) = some t ∧ trR f (r.drop (N + 1)) (out ++ [some (brkR (twinT t))]) = some res := by
   cases q : setR (r.take N) with
   | none => rw [q] at hr; exact absurd hr.symm (Option.some_ne_none _)
   | some t => rw [q] at hr; exact ⟨t, rfl, hr⟩
  clear hr
  have hsub : (pat.take (z + 1 + N)).drop (z + 1) = r.take N := by rw [← hrr, List.drop_take]; congr 1; lia
  generalize hS : r.take N = S0 at *
  have hS0 : S0.length = N := by rw [← hS, List.length_take]; lia
  haveI hN9 : N ≤ 2 ^ 9 := by lia
  have hcutS : cut (some ((z + 1 : Nat) : Int)) (some ((z + 1 + N : Nat) : Int)) pat = S0 := by rw [q58, hsub]
  apply X.asg (r := .pv (.str S0))
  ·decide
  ·rfl
  ·walk_at "keep"
  ·rw [← hcutS]
   walk_at "ev"
  refine X.cut (fun s => Has ⟨[("pat", .pv (.str pat)), ("STAR", .pv (.obj a)), ("QUESTION_MARK", .pv (.str [46])), ("res", .ptr 0), ("add", .app 0), ("n", .pv (.int (pat.length : Int))), ("j", .pv (.int ((z + 1 + N : Nat) : Int))), ("stuff", .pv (.str t))], [(0, out.map (PTv a))]⟩ s) ?_ fun s1 hs1 => ?_
  ·refine X.ite (b := !S0.contains 45) (B.notinC (c := 45) ?_ ?_ (by rfl)) (fun h5 => ?_) (fun h5 => ?_)
   ·exact E.str
   ·walk_at "ev"
   ·have h45 : S0.contains 45 = false := by simpa using h5
    haveI hte : t = rpl1 92 [92, 92] S0 := by
     unfold setR at ht
     rw [if_neg (by rw [h45]; decide)] at ht
     exact (Option.some.inj ht).symm
    subst hte
    apply X.asgT (r := .pv (.str (rpl1 92 [92, 92] S0)))
    ·decide
    ·rfl
    ·walk_at "keep"
    ·rw [← qf2]
     refine ET.replace (x := S0) (y := "\\") (z := "\\\\") (Nat.le_refl 1) (ET.of ?_) (by decide) ?_ (by rfl) (by rfl)
     ·walk_at "ev"
     show S0.length + (S0.length + 1) * 2 ≤ 16777216
     lia
    refine X.end (X.nil ⟨rfl, ?_⟩)
    walk_at "has"
   have h45 : S0.contains 45 = true := by simpa using h5
   obtain ⟨d, S1, hSd⟩ : ∃ d S1, S0 = d :: S1 := by
    cases S0 with
    | nil => exact absurd h45 Bool.false_ne_true
    | cons d S1 => exact ⟨d, S1, rfl⟩
   have hd0 : S0[0]? = some d := by rw [hSd]; rfl
   have hpd : pat[z + 1]? = some d := by
    rw [← hsub] at hd0
    rw [List.getElem?_drop, List.getElem?_take] at hd0
    split at hd0
    ·exact hd0
    exact absurd hd0.symm (Option.some_ne_none _)
   generalize hm0 : (if S0[0]? = some 33 then 2 else 1 : Nat) = m0 at *
   obtain ⟨cl, ms, hcl, hms, hte⟩ : ∃ cl ms, chunksR (S0.length + 1) m0 S0 [] = some cl ∧ mergeR (downs cl.length) cl = some ms ∧ t = jn [45] (ms.map esc2) := by
    unfold setR at ht
    rw [if_pos h45, hm0] at ht
    cases q : chunksR (S0.length + 1) m0 S0 [] with
    | none => rw [q] at ht; exact absurd ht.symm (Option.some_ne_none _)
    | some cl =>
     rw [q] at ht
     cases q2 : mergeR (downs cl.length) cl with
     | none => simp [q2] at ht
     | some ms => simp [q2] at ht; exact ⟨cl, ms, rfl, q2, ht.symm⟩
   apply X.own 1 (xs := [])
   ·decide
   ·rfl
   ·walk_at "keep"
   ·rfl
   ·rfl
   ·exact EF.list EA.nil (by decide)
   haveI hm12 : 1 ≤ m0 ∧ m0 ≤ 2 := by rw [← hm0]; split <;> decide
   apply X.asg (r := .pv (.int ((z + 1 + m0 : Nat) : Int)))
   ·decide
   ·rfl
   ·walk_at "keep"
   ·refine E.ife (b := [d] == cs "!") ?_ (fun h => ?_) fun h => ?_
    ·refine B.eqs (E.items (i := ((z + 1 : Nat) : Int)) (x := pat) (c := d) ?_ ?_ (by lia) (sat hpd)) ?_ (by rfl)
     ·walk_at "ev"
     ·walk_at "ev"
     exact E.str
    ·have e1 : d = 33 := sgT h
     have e2 : m0 = 2 := by rw [← hm0, hd0, e1]; rfl
     rw [e2]
     refine E.addE (a := ((z + 1 : Nat) : Int)) (b := 2) ?_ ?_ rfl
     ·walk_at "ev"
     walk_at "ev"
    have e1 : ¬ d = 33 := sgF h
    have e2 : m0 = 1 := by rw [← hm0, hd0, if_neg (fun e => e1 (Option.some.inj e))]
    rw [e2]
    refine E.addE (a := ((z + 1 : Nat) : Int)) (b := 1) ?_ ?_ rfl
    ·walk_at "ev"
    walk_at "ev"
   refine X.cut (fun s => ∃ (y : Nat) (acc : List (List Nat)), z + 1 ≤ y ∧ y ≤ z + 1 + N ∧ tot acc + (z + 1 + N - y) ≤ N ∧
    (if (pat.take (z + 1 + N)).drop y = [] then (match acc.getLast? with | some l => some (acc.dropLast ++ [l ++ [45]]) | none => none) else some (acc ++ [(pat.take (z + 1 + N)).drop y])) = some cl ∧
    Has ⟨[("pat", .pv (.str pat)), ("STAR", .pv (.obj a)), ("QUESTION_MARK", .pv (.str [46])), ("res", .ptr 0), ("add", .app 0), ("n", .pv (.int (pat.length : Int))), ("j", .pv (.int ((z + 1 + N : Nat) : Int))), ("i", .pv (.int (y : Int))), ("chunks", .ptr 1)], [(1, acc.map .str), (0, out.map (PTv a))]⟩ s) ?_ fun s1 hs1 => ?_
   ·refine X.whileM (ι := Nat × Nat × List (List Nat) × Nat) (fun i => ⟨[("pat", .pv (.str pat)), ("STAR", .pv (.obj a)), ("QUESTION_MARK", .pv (.str [46])), ("res", .ptr 0), ("add", .app 0), ("n", .pv (.int (pat.length : Int))), ("j", .pv (.int ((z + 1 + N : Nat) : Int))), ("i", .pv (.int (i.1 : Int))), ("k", .pv (.int ((i.1 + i.2.1 : Nat) : Int))), ("chunks", .ptr 1)], [(1, i.2.2.1.map .str), (0, out.map (PTv a))]⟩)
     (fun i => chunksR i.2.2.2 i.2.1 ((pat.take (z + 1 + N)).drop i.1) i.2.2.1 = some cl ∧ z + 1 ≤ i.1 ∧ i.1 ≤ z + 1 + N ∧ tot i.2.2.1 + (z + 1 + N - i.1) ≤ N) (fun i => z + 1 + N - i.1) (z + 1, m0, [], S0.length + 1) ?_ ⟨by rw [hsub]; exact hcl, Nat.le_refl _, Nat.le_add_right .., by show 0 + _ ≤ _; lia⟩ fun i hi => ?_
    ·walk_at "has"
    obtain ⟨y, m1, acc, f1⟩ := i
    obtain ⟨hc1, hy1, hy2, hy3⟩ := hi
    dsimp only at hc1 hy1 hy2 hy3 ⊢
    obtain ⟨f1, rfl⟩ : ∃ g, f1 = g + 1 := by
     cases f1 with
     | zero => exact absurd hc1.symm (Option.some_ne_none _)
     | succ g => exact ⟨g, rfl⟩
    refine ⟨true, B.ofBool E.bool (by rfl), (fun h => by exact absurd h.symm Bool.false_ne_true), fun _ => ?_⟩
    unfold chunksR at hc1
    haveI htl := q80 acc
    have hacl : (acc.map PV.str).length = acc.length := List.length_map ..
    rcases z29 (pat := pat) (y := y) (m := m1) (J := z + 1 + N) hy2 (by lia) with ⟨q1, q2⟩ | ⟨q, q1, q2, q3, q4⟩
    ·rw [q2] at hc1
     dsimp only at hc1
     apply X.asg (r := .pv (.int (-1)))
     ·decide
     ·rfl
     ·walk_at "keep"
     ·rw [← q1]
      refine E.find4 ?_ ?_ (by rfl) (by rfl) (by intro _; rfl) (by intro _; rfl)
      ·walk_at "ev"
      haveI : [45] = cs "-" := rfl
      rw [this]
      walk_at "evs"
     refine X.ite (b := decide ((-1 : Int) < 0)) ?_ (fun _ => ?_) (fun h => by exact absurd h.symm Bool.false_ne_true)
     ·walk_at "tst"
     refine X.brk (X.nil ⟨rfl, y, acc, hy1, hy2, hy3, hc1, ?_⟩)
     walk_at "has"
    rw [q4] at hc1
    dsimp only at hc1
    haveI ht1 : (((pat.take (z + 1 + N)).drop y).take q) = (pat.take (y + q)).drop y := by
     rw [List.take_drop, List.take_take, Nat.min_eq_left (by lia)]
    haveI ht2 : ((pat.take (z + 1 + N)).drop y).drop (q + 1) = (pat.take (z + 1 + N)).drop (y + q + 1) := by
     rw [List.drop_drop]; congr 1
    rw [ht1, ht2] at hc1
    haveI htq : ((pat.take (y + q)).drop y).length = q := by rw [List.length_drop, List.length_take, Nat.min_eq_left (by lia), Nat.add_sub_cancel_left]
    apply X.asg (r := .pv (.int ((y + q : Nat) : Int)))
    ·decide
    ·rfl
    ·walk_at "keep"
    ·rw [← q1]
     refine E.find4 ?_ ?_ (by rfl) (by rfl) (by intro _; rfl) (by intro _; rfl)
     ·walk_at "ev"
     haveI : [45] = cs "-" := rfl
     rw [this]
     walk_at "evs"
    refine X.ite (b := decide (((y + q : Nat) : Int) < 0)) ?_ (fun h => ?_) (fun _ => ?_)
    ·walk_at "tst"
    ·have := of_decide_eq_true h; lia
    refine X.end ?_
    apply X.app (v := .str ((pat.take (y + q)).drop y)) G
    ·decide
    ·rfl
    ·intro _; rfl
    ·decide
    ·walk_at "mem"
    ·walk_at "mem"
    ·walk_at "keepo"
    ·rw [← q58]
     walk_at "ev"
    ·rw [hacl]; lia
    apply X.asg (r := .pv (.int ((y + q + 1 : Nat) : Int)))
    ·decide
    ·rfl
    ·walk_at "keep"
    ·refine E.addE (a := ((y + q : Nat) : Int)) (b := 1) ?_ ?_ rfl
     ·walk_at "ev"
     walk_at "ev"
    apply X.asg (r := .pv (.int ((y + q + 1 + 2 : Nat) : Int)))
    ·decide
    ·rfl
    ·walk_at "keep"
    ·refine E.addE (a := ((y + q : Nat) : Int)) (b := 3) ?_ ?_ rfl
     ·walk_at "ev"
     walk_at "ev"
    refine X.endL ⟨(y + q + 1, 2, acc ++ [(pat.take (y + q)).drop y], f1), ⟨hc1, by dsimp only; lia, by dsimp only; lia, ?_⟩, by dsimp only; exact Nat.sub_lt_sub_left (by lia) (by lia), ?_⟩
    ·dsimp only
     rw [q33, q32, htq]; lia
    dsimp only
    rw [List.map_append]
    walk_at "has"
   obtain ⟨y, acc, hy1, hy2, hy3, hfin, hs1⟩ := hs1
   refine X.has hs1 ?_
   clear hs1 s1
   haveI htl := q80 acc
   have hacl : (acc.map PV.str).length = acc.length := List.length_map ..
   have hcul : ((pat.take (z + 1 + N)).drop y).length = z + 1 + N - y := by rw [List.length_drop, List.length_take, Nat.min_eq_left (by lia)]
   apply X.asg (r := .pv (.str ((pat.take (z + 1 + N)).drop y)))
   ·decide
   ·rfl
   ·walk_at "keep"
   ·rw [← q58]
    walk_at "ev"
   generalize hcu : (pat.take (z + 1 + N)).drop y = cu at *
   have hclt : tot cl ≤ N + 1 := by
    have := qc9 _ _ _ _ _ hcl
    have e : tot [] = 0 := rfl
    rw [e, hS0] at this; lia
   refine X.cut (fun s => Has ⟨[("pat", .pv (.str pat)), ("STAR", .pv (.obj a)), ("QUESTION_MARK", .pv (.str [46])), ("res", .ptr 0), ("add", .app 0), ("n", .pv (.int (pat.length : Int))), ("j", .pv (.int ((z + 1 + N : Nat) : Int))), ("chunks", .ptr 1)], [(1, cl.map .str), (0, out.map (PTv a))]⟩ s) ?_ fun s1 hs1 => ?_
   ·refine X.ite (b := !cu.isEmpty) ?_ (fun h => ?_) (fun h => ?_)
    ·walk_at "tst"
    ·have hne : ¬ cu = [] := fun e => by rw [e] at h; exact absurd h Bool.false_ne_true
     rw [if_neg hne] at hfin
     have hcl2 := Option.some.inj hfin
     apply X.app (v := .str cu) G
     ·decide
     ·rfl
     ·intro _; rfl
     ·decide
     ·walk_at "mem"
     ·walk_at "mem"
     ·walk_at "keepo"
     ·walk_at "ev"
     ·rw [hacl]; lia
     refine X.end (X.nil ⟨rfl, ?_⟩)
     rw [← hcl2, List.map_append]
     walk_at "has"
    have hnil : cu = [] := by cases cu with
     | nil => rfl
     | cons _ _ => exact absurd h.symm Bool.false_ne_true
    rw [if_pos hnil] at hfin
    obtain ⟨l, hl, hcl2⟩ : ∃ l, acc.getLast? = some l ∧ acc.dropLast ++ [l ++ [45]] = cl := by
     cases q : acc.getLast? with
     | none => rw [q] at hfin; exact absurd hfin.symm (Option.some_ne_none _)
     | some l => rw [q] at hfin; exact ⟨l, rfl, Option.some.inj hfin⟩
    have hl' := hl
    rw [List.getLast?_eq_getElem?] at hl'
    have hal := (List.getElem?_eq_some_iff.mp hl').1
    haveI hidx : ((-1 : Int) + (acc.map PV.str).length).toNat = acc.length - 1 := by rw [hacl]; exact neg1 _
    haveI hll : l.length < tot acc := qf0 (List.mem_of_getElem? hl')
    apply X.augN (z := -1) (a := l) (b := [45]) G
    ·walk_at "mem"
    ·walk_at "mem"
    ·walk_at "keepo"
    ·walk_at "ev"
    ·decide
    ·rw [hacl]; lia
    ·rw [hacl]; lia
    ·rw [hidx, List.getElem?_map, hl']; rfl
    ·exact E.str
    ·rw [List.length_singleton]; lia
    ·decide
    ·intros; rfl
    rw [hidx, qt7, z08 (by intro e; rw [e] at hal; simp at hal), hcl2]
    refine X.end (X.nil ⟨rfl, ?_⟩)
    walk_at "has"
   refine X.has hs1 ?_
   clear hs1 s1 hfin hcl
   haveI br : BN (Γ.on kf) env _ (Str.ofString "range") (.type "range") := ⟨G, by rfl, gr, by rfl, by decide, by decide⟩
   haveI hcll := q80 cl
   refine X.forM (ι := List (List Nat)) (its := (downs cl.length).map fun v : Nat => [PV.int (v : Int)]) (xs := ["k"]) (fun c => ⟨[("pat", .pv (.str pat)), ("STAR", .pv (.obj a)), ("QUESTION_MARK", .pv (.str [46])), ("res", .ptr 0), ("add", .app 0), ("n", .pv (.int (pat.length : Int))), ("j", .pv (.int ((z + 1 + N : Nat) : Int))), ("chunks", .ptr 1)], [(1, c.map .str), (0, out.map (PTv a))]⟩)
    (fun i c => mergeR ((downs cl.length).drop i) c = some ms ∧ tot c ≤ N + 1) (.name _ _) (by decide) (by decide) ?_ ?_ ?_ cl ?_ ⟨hms, hclt⟩ (fun i x c hx hc => ?_) (fun c hc => ?_) ?_
   ·have e2 : ((rngD ((cl.length : Int) - 1) 0).map fun i => [PV.int i]) = (downs cl.length).map fun v : Nat => [PV.int (v : Int)] := by rw [qr2, List.map_map]; rfl
    rw [← e2]
    refine I.rngD (a := (cl.length : Int) - 1) (b := 0) br ?_ ?_ ?_ (by intro _; rfl) (by intro _; rfl) (by intro _; rfl) (by lia) (by decide)
    ·refine E.subE (a := ((cl.map PV.str).length : Int)) (b := 1) (E.len_list bl (EL.own (j := 1) G ?_ ?_ (by decide)) (by rw [List.length_map]; lia) (by intro _; rfl)) ?_ (by rw [List.length_map])
     ·walk_at "mem"
     ·walk_at "mem"
     walk_at "ev"
    ·walk_at "ev"
    walk_at "ev"
   ·intro x hx
    obtain ⟨v, _, rfl⟩ := List.mem_map.mp hx
    rfl
   ·intro c p hp
    simp only [List.mem_cons, List.not_mem_nil, or_false] at hp
    rcases hp with rfl | rfl | rfl | rfl | rfl | rfl | rfl | rfl <;> simp
   ·walk_at "has"
   ·obtain ⟨hmg, htc⟩ := hc
    rw [List.getElem?_map] at hx
    obtain ⟨v, hv, rfl⟩ := Option.map_eq_some_iff.mp hx
    obtain ⟨hv1, hv2⟩ := qp5 hv
    have hdi : (downs cl.length).drop i = v :: (downs cl.length).drop (i + 1) := by
     obtain ⟨h1, h2⟩ := List.getElem?_eq_some_iff.mp hv
     rw [List.drop_eq_getElem_cons h1, h2]
    rw [hdi] at hmg
    unfold mergeR at hmg
    obtain ⟨c', hc1, hc2⟩ := Option.bind_eq_some_iff.mp hmg
    obtain ⟨sa, sb, xx, yy, ha, hb', hxx, hyy, hce⟩ := qb9 hc1
    haveI hct := qe3 hv1 hc1
    haveI hcl2 : (c.map PV.str).length = c.length := List.length_map ..
    haveI htcl := q80 c
    haveI hva : v < c.length := (List.getElem?_eq_some_iff.mp hb').1
    haveI hal := qf0 (List.mem_of_getElem? ha)
    haveI hbl := qf0 (List.mem_of_getElem? hb')
    have ga : (c.map PV.str)[((v - 1 : Nat) : Int).toNat]? = some (.str sa) := by rw [Int.toNat_natCast, List.getElem?_map, ha]; rfl
    have gb : (c.map PV.str)[((v : Nat) : Int).toNat]? = some (.str sb) := by rw [Int.toNat_natCast, List.getElem?_map, hb']; rfl
    haveI hb0 : sb[0]? = some yy := by rw [← hyy, List.head?_eq_getElem?]
    haveI ev1 : (v : Int) - 1 = ((v - 1 : Nat) : Int) := by lia
    dsimp only [List.zip, List.zipWith, List.map, List.cons_append, List.nil_append]
    refine X.ite (b := decide (([yy] : List Nat) < [xx])) (B.gts (a := [xx]) (b := [yy]) (E.items (i := -1) (x := sa) (c := xx) (E.iteml (i := ((v - 1 : Nat) : Int)) (EL.own (j := 1) G ?_ ?_ (by decide)) (E.subE (a := (v : Int)) (b := 1) ?_ ?_ ev1) (by lia) (by lia) ga) ?_ (by decide) (z95 hxx)) (E.items (i := ((0 : Nat) : Int)) (x := sb) (c := yy) (E.iteml (i := (v : Int)) (EL.own (j := 1) G ?_ ?_ (by decide)) ?_ (by lia) (by lia) gb) ?_ (by decide) (sat hb0)) (by rfl)) (fun h => ?_) (fun h => ?_)
    ·walk_at "mem"
    ·walk_at "mem"
    ·walk_at "ev"
    ·walk_at "ev"
    ·walk_at "ev"
    ·walk_at "mem"
    ·walk_at "mem"
    ·walk_at "ev"
    ·walk_at "ev"
    ·rw [z38] at h
     rw [if_pos (of_decide_eq_true h)] at hce
     apply X.put (z := ((v - 1 : Nat) : Int)) (v := .str (sa.dropLast ++ sb.tail)) G
     ·walk_at "mem"
     ·walk_at "mem"
     ·walk_at "keepo"
     ·rw [← qp7 sa, ← List.drop_one, ← q29]
      refine E.adds (E.cuts (E.iteml (i := ((v - 1 : Nat) : Int)) (EL.own (j := 1) G ?_ ?_ (by decide)) (E.subE (a := (v : Int)) (b := 1) ?_ ?_ ev1) (by lia) (by lia) ga) EP.no ?_ (by lia)) (E.cuts (E.iteml (i := (v : Int)) (EL.own (j := 1) G ?_ ?_ (by decide)) ?_ (by lia) (by lia) gb) ?_ EP.no (by lia)) ?_
      ·walk_at "mem"
      ·walk_at "mem"
      ·walk_at "ev"
      ·walk_at "ev"
      ·walk_at "ep"
      ·walk_at "mem"
      ·walk_at "mem"
      ·walk_at "ev"
      ·walk_at "ep"
      rw [qp7, q29, List.length_dropLast, List.length_drop]; exact Nat.le_trans (Nat.add_le_add (Nat.sub_le ..) (Nat.sub_le ..)) (by lia)
     ·refine E.subE (a := (v : Int)) (b := 1) ?_ ?_ ev1
      ·walk_at "ev"
      walk_at "ev"
     ·lia
     ·rw [hcl2]; lia
     ·rw [hcl2]; lia
     ·rfl
     ·decide
     rw [Int.toNat_natCast, qt7]
     apply X.del (z := v) G
     ·walk_at "mem"
     ·walk_at "mem"
     ·walk_at "keepo"
     ·walk_at "ev"
     ·rw [List.length_map, List.length_set]; exact hva
     ·rw [List.length_map, List.length_set]; lia
     ·decide
     rw [qt8, ← hce]
     refine X.end (X.endL ⟨c', ⟨hc2, Nat.le_trans hct htc⟩, ?_⟩)
     walk_at "has"
    rw [z38] at h
    rw [if_neg (of_decide_eq_false h)] at hce
    subst hce
    refine X.end (X.endL ⟨c', ⟨hc2, htc⟩, ?_⟩)
    walk_at "has"
   ·obtain ⟨hmg, htc⟩ := hc
    haveI hdz : (downs cl.length).drop ((downs cl.length).map fun v : Nat => [PV.int (v : Int)]).length = [] := by rw [List.length_map, List.drop_length]
    rw [hdz] at hmg
    haveI hcm : c = ms := by unfold mergeR at hmg; exact Option.some.inj hmg
    subst hcm
    haveI htcl := q80 c
    haveI hqg : env.qual ++ "<genexpr>" = Str.ofString "_translate" ++ ".<locals>." ++ "<genexpr>" := by rw [hqual]
    apply X.freeze (k := 1)
    ·walk_at "mem"
    ·walk_at "frz"
    ·walk_at "keepo"
    apply X.asg (r := .pv (.str (jn [45] (c.map esc2))))
    ·decide
    ·rfl
    ·walk_at "keep"
    ·refine E.parts (Γ := Γ.on kf) (P := 101) (c := 105) (es := trEs) G hT ?_ ?_ hcode CH ⟨ba.at_⟩ (by rfl) (by rfl) (by rfl) (by rfl) (by rfl) (by rfl) (by rfl) (by rfl) (by rfl) (by rfl) (by decide) (by rfl) (by rfl) (by rfl) (by decide) ?_ (by lia) (fun y hy => ?_)
     ·rw [hqg]; exact .head _
     ·rw [hqg]
      intro e he
      simp only [trEs, List.mem_cons, List.not_mem_nil, or_false] at he
      rcases he with rfl | rfl
      ·exact .inl rfl
      exact .inr (by rfl)
     ·walk_at "ev"
     have := qf0 hy; lia
    rw [← hte]
    refine X.end (X.nil ⟨rfl, ?_⟩)
    walk_at "has"
   intro _; rfl
  refine X.has hs1 ?_
  clear hs1 s1
  have htl := z09 ht
  have hql : env.qual ++ "<lambda>" = Str.ofString "_translate" ++ ".<locals>." ++ "<lambda>" := by rw [hqual]
  apply X.asg (r := .pv (.str (twinT t)))
  ·decide
  ·rfl
  ·walk_at "keep"
  ·refine E.twin (Γ := Γ.on kf) (n := m) (P := 101) (c := 105) (pat := 80) (es := trEs) (text := t) G hT ?_ ?_ hcode CH ⟨ba.at_⟩ (z84 KX) gt (by rfl) (by decide) ?_ (by decide) (by lia) (by rfl) (by rfl) (by rfl) (by rfl) (by rfl) (by rfl) (by rfl) (by rfl) (fun pm c' v => by rfl)
   ·rw [hql]; exact .tail _ (.head _)
   ·rw [hql]
    intro e he
    simp only [trEs, List.mem_cons, List.not_mem_nil, or_false] at he
    rcases he with rfl | rfl
    ·exact .inr (by rfl)
    exact .inl rfl
   walk_at "mem"
  haveI hul := qh6 t
  generalize twinT t = u at *
  apply X.asg (r := .pv (.int ((z + 1 + N + 1 : Nat) : Int)))
  ·decide
  ·rfl
  ·walk_at "keep"
  ·refine E.addE (a := ((z + 1 + N : Nat) : Int)) (b := 1) ?_ ?_ rfl
   ·walk_at "ev"
   walk_at "ev"
  have hnext : (z + 1 + N + 1) ≤ pat.length ∧ trR f (pat.drop (z + 1 + N + 1)) (out ++ [some (brkR u)]) = some res ∧ (out ++ [some (brkR u)]).length ≤ z + 1 + N + 1 := by
   refine ⟨by lia, ?_, by rw [List.length_append, List.length_singleton]; lia⟩
   rw [← hr2, ← hrr, List.drop_drop]
   congr 2
  refine X.ite (b := !(!u.isEmpty)) ?_ (fun h => ?_) (fun h => ?_)
  ·walk_at "tst"
  ·haveI hu : u = [] := by cases u with
    | nil => rfl
    | cons _ _ => exact absurd h Bool.false_ne_true
   have hbr : brkR u = cs "(?!)" := by rw [hu]; rfl
   apply X.add (v := .str (brkR u)) G
   ·rfl
   ·intro _; rfl
   ·decide
   ·walk_at "mem"
   ·walk_at "mem"
   ·walk_at "keepo"
   ·rw [hbr]; exact E.str
   ·exact hoz
   refine X.end (X.end (X.end (X.end (X.end (X.endL ⟨(z + 1 + N + 1, out ++ [some (brkR u)], f), hnext, by dsimp only; exact Nat.sub_lt_sub_left hlt (Nat.lt_of_lt_of_le (Nat.lt_succ_self z) (Nat.le_trans (Nat.le_add_right (z + 1) N) (Nat.le_succ _))), ?_⟩)))))
   dsimp only
   rw [List.map_append]
   walk_at "has"
  have hune : u ≠ [] := fun e => by rw [e] at h; exact absurd h.symm Bool.false_ne_true
  refine X.ite (b := u == cs "!") ?_ (fun h2 => ?_) (fun h2 => ?_)
  ·walk_at "tst"
  ·haveI hu : u = [33] := eq_of_beq h2
   haveI hbr : brkR u = cs "." := by rw [hu]; rfl
   apply X.add (v := .str (brkR u)) G
   ·rfl
   ·intro _; rfl
   ·decide
   ·walk_at "mem"
   ·walk_at "mem"
   ·walk_at "keepo"
   ·rw [hbr]; exact E.str
   ·exact hoz
   refine X.end (X.end (X.end (X.end (X.end (X.end (X.endL ⟨(z + 1 + N + 1, out ++ [some (brkR u)], f), hnext, by dsimp only; exact Nat.sub_lt_sub_left hlt (Nat.lt_of_lt_of_le (Nat.lt_succ_self z) (Nat.le_trans (Nat.le_add_right (z + 1) N) (Nat.le_succ _))), ?_⟩))))))
   dsimp only
   rw [List.map_append]
   walk_at "has"
  have hun : u ≠ [33] := fun e => by rw [e] at h2; exact absurd h2.symm Bool.false_ne_true
  obtain ⟨d, u1, hud⟩ : ∃ d u1, u = d :: u1 := by
   cases u with
   | nil => exact absurd rfl hune
   | cons d u1 => exact ⟨d, u1, rfl⟩
  have hd0 : u[0]? = some d := by rw [hud]; rfl
  haveI hut : u.drop 1 = u1 := by rw [hud]; rfl
  haveI hbr : brkR u = [91] ++ headR u ++ [93] := by unfold brkR; rw [if_neg hune, if_neg hun]
  haveI hhl : (headR u).length ≤ u.length + 1 := by
   rw [hud, q24]
   split
   ·simp
   split <;> simp
  refine X.cut (fun s => Has ⟨[("pat", .pv (.str pat)), ("STAR", .pv (.obj a)), ("QUESTION_MARK", .pv (.str [46])), ("res", .ptr 0), ("add", .app 0), ("n", .pv (.int (pat.length : Int))), ("i", .pv (.int ((z + 1 + N + 1 : Nat) : Int))), ("stuff", .pv (.str (headR u)))], [(0, out.map (PTv a))]⟩ s) ?_ fun s1 hs1 => ?_
  ·refine X.ite (b := [d] == cs "!") (B.eqs (E.items (i := ((0 : Nat) : Int)) (x := u) (c := d) ?_ ?_ (by decide) (sat hd0)) ?_ (by rfl)) (fun h3' => ?_) (fun h3' => ?_)
   ·walk_at "ev"
   ·walk_at "ev"
   ·exact E.str
   ·have e1 : d = 33 := by have := eq_of_beq h3'; cases this; rfl
    have e2 : headR u = cs "^" ++ u.drop 1 := by rw [hut, hud]; rw [q24, if_pos e1]; rfl
    rw [e2, ← q29]
    apply X.asg (r := .pv (.str (cs "^" ++ cut (some ((1 : Nat) : Int)) none u)))
    ·decide
    ·rfl
    ·walk_at "keep"
    ·refine E.adds E.str (E.cuts (x := u) ?_ (EP.yes ?_) EP.no (by lia)) ?_
     ·walk_at "ev"
     ·walk_at "ev"
     rw [q29, List.length_drop]; show 1 + _ ≤ _; lia
    refine X.end (X.nil ⟨rfl, ?_⟩)
    walk_at "has"
   have e1 : ¬ d = 33 := fun e => by rw [e] at h3'; cases h3'
   have hin : ([PV.str (cs "^"), PV.str (cs "[")].any fun v => eqp .str v (.str [d])) = decide (d = 94 ∨ d = 91) := by
    show (([94] == [d]) || (([91] == [d]) || false)) = _
    by_cases q1 : d = 94
    ·subst q1; rfl
    by_cases q2 : d = 91
    ·subst q2; rfl
    rw [decide_eq_false (by rintro (e | e); exact q1 e; exact q2 e)]
    haveI a1 : (([94] : List Nat) == [d]) = false := by simp; lia
    haveI a2 : (([91] : List Nat) == [d]) = false := by simp; lia
    rw [a1, a2]; rfl
   refine X.ite (b := decide (d = 94 ∨ d = 91)) ?_ (fun h4' => ?_) (fun h4' => ?_)
   ·rw [← hin]
    refine B.int .str (E.items (i := ((0 : Nat) : Int)) (x := u) (c := d) ?_ ?_ (by decide) (sat hd0)) (E.tup (xs := [.str (cs "^"), .str (cs "[")]) ?_ (by decide)) trivial ?_ (by decide) (by rfl)
    ·walk_at "ev"
    ·walk_at "ev"
    ·walk_at "evs"
    intro y hy
    simp only [List.mem_cons, List.not_mem_nil, or_false] at hy
    rcases hy with rfl | rfl <;> trivial
   ·have e2 : headR u = cs "\\" ++ u := by rw [hud]; rw [q24, if_neg e1, if_pos (of_decide_eq_true h4')]; rfl
    rw [e2]
    apply X.asg (r := .pv (.str (cs "\\" ++ u)))
    ·decide
    ·rfl
    ·walk_at "keep"
    ·refine E.adds E.str ?_ ?_
     ·walk_at "ev"
     show 1 + _ ≤ _; lia
    refine X.end (X.end (X.nil ⟨rfl, ?_⟩))
    walk_at "has"
   have e2 : headR u = u := by rw [hud]; rw [q24, if_neg e1, if_neg (of_decide_eq_false h4')]
   rw [e2]
   refine X.end (X.end (X.nil ⟨rfl, ?_⟩))
   walk_at "has"
  refine X.has hs1 ?_
  clear hs1 s1
  apply X.add (v := .str (brkR u)) G
  ·rfl
  ·intro _; rfl
  ·decide
  ·walk_at "mem"
  ·walk_at "mem"
  ·walk_at "keepo"
  ·rw [hbr]
   refine E.fmt (by rfl) (by rfl) ?_ (by simp only [List.length_singleton]; lia)
   walk_at "ev"
  ·exact hoz
  refine X.end (X.end (X.end (X.end (X.end (X.end (X.endL ⟨(z + 1 + N + 1, out ++ [some (brkR u)], f), hnext, by dsimp only; exact Nat.sub_lt_sub_left hlt (Nat.lt_of_lt_of_le (Nat.lt_succ_self z) (Nat.le_trans (Nat.le_add_right (z + 1) N) (Nat.le_succ _))), ?_⟩))))))
  dsimp only
  rw [List.map_append]
  walk_at "has"
 have n3 : ¬ c = 91 := sgF h3
 rw [trR_e n1 n2 n3] at hr
 have F := (qm8 (n := m + 1) KX c gi gs gm).on (k := kf)
 have D : DN (Γ.on kf) env _ (Str.ofString "escape") 99 := ⟨G, by rfl, ge, by decide, fn_in KX (by rfl)⟩
 apply X.add (v := .str (escC c)) G
 ·rfl
 ·intro _; rfl
 ·decide
 ·walk_at "mem"
 ·walk_at "mem"
 ·walk_at "keepo"
 ·refine E.call D F ?_ (by intro _; rfl)
  walk_at "evs"
 ·exact hoz
 refine X.end (X.end (X.end (X.endL ⟨(z + 1, out ++ [some (escC c)], f), ⟨hlt, hr, by rw [List.length_append, List.length_singleton]; exact Nat.succ_le_succ hol⟩, by dsimp only; exact Nat.sub_lt_sub_left hlt (Nat.lt_succ_self z), ?_⟩)))
 dsimp only
 rw [List.map_append]
 walk_at "has"
theorem qw8 {Γ : Cx} {P : Params} (KX : (hdK P).In Γ.hB) (m : Nat) (l : List Part) (a : Nat) (r : List Nat) (hw : wt l ≤ 2 ^ 20) (hk : joinR l = some r) (gl : Γ.mg (Str.ofString "len") = none) :
  FSpec Γ (m + 1) 113 [.list (l.map (PTv a)), .obj a] (.str r) := by
 refine FSpec.introY KX (ps := ["inp", "STAR"]) (ns := ["inp", "STAR", "res", "add", "i", "n", "fixed"]) (v := [("inp", .pv (.list (l.map (PTv a)))), ("STAR", .pv (.obj a))]) (by rfl) (by rfl) (by rfl) ?_ ?_ (by rfl) ⟨rfl, rfl, rfl, rfl, rfl⟩ (by rfl) ?_
 ·walk_at "cok"
 ·intro Vs h
  obtain ⟨a, b, rfl⟩ := len2 h; rfl
 intro kf env G
 try dsimp only at G
 haveI hml : (l.map (PTv a)).length = l.length := List.length_map ..
 have hwl : 10 * l.length ≤ wt l := by
  haveI : ∀ l : List Part, 10 * l.length ≤ wt l := fun l => by
   induction l with
   | nil => exact Nat.zero_le _
   | cons p l ih => rw [qa5, List.length_cons]; lia
  exact this l
 apply X.own 0 (xs := [])
 ·decide
 ·rfl
 ·walk_at "keep"
 ·rfl
 ·rfl
 ·exact EF.list EA.nil (by decide)
 walk_at "asg"
 ·apply E.appA G
  ·walk_at "mem"
  ·walk_at "mem"
  ·decide
  with_unfolding_all rfl
 haveI bl : BN (Γ.on kf) env _ (Str.ofString "len") (.builtin "len") := ⟨G, by rfl, gl, by rfl, by decide, by decide⟩
 apply X.swap2 (v := .int (l.length : Int))
 ·decide
 ·decide
 ·walk_at "keep"
 ·walk_at "keep"
 ·rw [← hml]
  refine E.len_list bl (EL.of ?_) (by rw [hml]; lia) (by intro _; rfl)
  walk_at "ev"
 ·intro _; rfl
 ·intro _; rfl
 ·rfl
 ·exact qd9 G fun _ => by kernel_rfl
 obtain ⟨accF, hlp, hre⟩ : ∃ accF, loopR (l.length + 1) (l.drop (runN l)) (txts (l.take (runN l))) = some accF ∧ r = [40, 63, 115, 58] ++ jn [] accF ++ [41, 92, 90] := by
  unfold joinR at hk
  obtain ⟨acc, h1, h2⟩ := Option.map_eq_some_iff.mp hk
  exact ⟨acc, h1, h2.symm⟩
 refine X.cut (fun s => Has ⟨[("inp", .pv (.list (l.map (PTv a)))), ("STAR", .pv (.obj a)), ("res", .ptr 0), ("add", .app 0), ("i", .pv (.int (runN l : Int))), ("n", .pv (.int (l.length : Int)))], [(0, (txts (l.take (runN l))).map .str)]⟩ s) ?_ fun s1 hs1 => ?_
 ·refine X.whileM (ι := Nat) (fun i => ⟨[("inp", .pv (.list (l.map (PTv a)))), ("STAR", .pv (.obj a)), ("res", .ptr 0), ("add", .app 0), ("i", .pv (.int (i : Int))), ("n", .pv (.int (l.length : Int)))], [(0, (txts (l.take i)).map .str)]⟩)
   (fun i => i + runN (l.drop i) = runN l) (fun i => l.length - i) 0 ?_ (by rw [List.drop_zero, Nat.zero_add]) fun i hi => ?_
  ·walk_at "has"
  refine ⟨(l[i]?.bind id).isSome, B.fixAt (a := a) ?_ ?_ ?_ ?_ ?_ (by lia) (by rfl) (by rfl) (by intro _ _; rfl), fun hb => ?_, fun hb => ?_⟩
  ·walk_at "ev"
  ·walk_at "ev"
  ·walk_at "ev"
  ·walk_at "ev"
  ·walk_at "ev"
  ·have := qf1 (qp2 hb)
   have e : i = runN l := by lia
   rw [e]
   refine X.nil ⟨rfl, ?_⟩
   walk_at "has"
  obtain ⟨s, hs⟩ := qp1 hb
  have hil := (List.getElem?_eq_some_iff.mp hs).1
  have hg : (l.map (PTv a))[((i : Nat) : Int).toNat]? = some (.str s) := by rw [Int.toNat_natCast, List.getElem?_map, hs]; rfl
  have htl : ((txts (l.take i)).map PV.str).length ≤ i := by unfold txts; simp; lia
  apply X.add (v := .str s) G
  ·rfl
  ·intro _; rfl
  ·decide
  ·walk_at "mem"
  ·walk_at "mem"
  ·walk_at "keepo"
  ·refine E.iteml (i := (i : Int)) (EL.of ?_) ?_ (by lia) (by lia) hg
   ·walk_at "ev"
   walk_at "ev"
  ·lia
  apply X.augE (b := 1) (c := ((i + 1 : Nat) : Int))
  ·decide
  ·walk_at "mem"
  ·walk_at "keep"
  ·walk_at "ev"
  ·rfl
  haveI ht := qh5 hs 0 (Nat.zero_le _)
  rw [List.drop_zero, List.drop_zero] at ht
  refine X.endL ⟨i + 1, (qo2 hs) ▸ hi, by lia, ?_⟩
  rw [ht, List.map_append]
  walk_at "has"
 refine X.has hs1 ?_
 clear hs1 s1
 haveI hrl := z36 l
 refine X.cut (fun s => (accF.map List.length).sum ≤ 2 ^ 21 ∧ accF.length ≤ 2 ^ 20 ∧ Has ⟨[("res", .ptr 0), ("i", .pv (.int (l.length : Int))), ("n", .pv (.int (l.length : Int)))], [(0, accF.map .str)]⟩ s) ?_ fun s1 hs1 => ?_
 ·refine X.whileM (ι := Nat × List (List Nat) × Nat) (fun i => ⟨[("inp", .pv (.list (l.map (PTv a)))), ("STAR", .pv (.obj a)), ("res", .ptr 0), ("add", .app 0), ("i", .pv (.int (i.1 : Int))), ("n", .pv (.int (l.length : Int)))], [(0, i.2.1.map .str)]⟩)
   (fun i => i.1 ≤ l.length ∧ loopR i.2.2 (l.drop i.1) i.2.1 = some accF ∧ (i.2.1.map List.length).sum + wt (l.drop i.1) ≤ 2 ^ 20 ∧ i.2.1.length ≤ 2 * i.1) (fun i => l.length - i.1) (runN l, txts (l.take (runN l)), l.length + 1) ?_ ⟨hrl, hlp, ?_, ?_⟩ fun i hi => ?_
  ·walk_at "has"
  ·dsimp only
   haveI h1 := qt1 (l.take (runN l))
   haveI h2 := qt2 (l.take (runN l)) (l.drop (runN l))
   rw [List.take_append_drop] at h2
   lia
  ·dsimp only; unfold txts; simp; lia
  obtain ⟨i, acc, f⟩ := i
  obtain ⟨hi1, hi2, hi3, hi4⟩ := hi
  dsimp only at hi1 hi2 hi3 hi4 ⊢
  obtain ⟨f, rfl⟩ : ∃ g, f = g + 1 := by
   cases f with
   | zero => exact absurd hi2.symm (Option.some_ne_none _)
   | succ g => exact ⟨g, rfl⟩
  have hacl : (acc.map PV.str).length ≤ 2 ^ 24 := by rw [List.length_map]; lia
  refine ⟨decide ((i : Int) < (l.length : Int)), ?_, fun hb => ?_, fun hb => ?_⟩
  ·walk_at "tst"
  ·have e : i = l.length := by have := of_decide_eq_false hb; lia
   subst e
   rw [List.drop_length] at hi2 hi3
   have hac : acc = accF := Option.some.inj hi2
   subst hac
   refine X.nil ⟨rfl, by lia, by lia, ?_⟩
   walk_at "has"
  have hlt : i < l.length := by have := of_decide_eq_true hb; lia
  have hcons : l.drop i = l[i] :: l.drop (i + 1) := List.drop_eq_getElem_cons hlt
  have hri : ∀ v : Nat, (l.drop (i + 1))[v]? = l[i + 1 + v]? := fun v => List.getElem?_drop ..
  have hrlen : (l.drop (i + 1)).length = l.length - (i + 1) := List.length_drop ..
  rw [hcons] at hi2 hi3
  have hli : l[i]? = some l[i] := List.getElem?_eq_getElem hlt
  rw [qa5] at hi3
  generalize hp : l[i] = p at hi2 hli hi3
  generalize hr : l.drop (i + 1) = rr at hi2 hri hrlen hi3
  cases p with
  | some s => exact absurd hi2.symm (Option.some_ne_none _)
  | none =>
   have hg : (l.map (PTv a))[((i : Nat) : Int).toNat]? = some (.obj a) := by rw [Int.toNat_natCast, List.getElem?_map, hli]; rfl
   apply X.assert
   ·refine B.isO (a := a) (E.iteml (i := (i : Int)) (EL.of ?_) ?_ (by lia) (by lia) hg) ?_ (by rfl)
    ·walk_at "ev"
    ·walk_at "ev"
    walk_at "ev"
   apply X.augE (b := 1) (c := ((i + 1 : Nat) : Int))
   ·decide
   ·walk_at "mem"
   ·walk_at "keep"
   ·walk_at "ev"
   ·rfl
   unfold loopR at hi2
   dsimp only at hi2
   refine X.ite (b := ((i + 1 : Nat) : Int) == (l.length : Int)) ?_ (fun h => ?_) (fun h => ?_)
   ·walk_at "tst"
   ·have e : i + 1 = l.length := by have := eq_of_beq h; lia
    have hrn : rr = [] := by rw [← List.length_eq_zero_iff, hrlen]; lia
    rw [if_pos hrn] at hi2
    have hac := Option.some.inj hi2
    apply X.add (v := .str [46, 42]) G
    ·rfl
    ·intro _; rfl
    ·decide
    ·walk_at "mem"
    ·walk_at "mem"
    ·walk_at "keepo"
    ·exact E.str
    ·exact hacl
    refine X.brk (X.nil ⟨rfl, ?_, ?_, ?_⟩)
    ·rw [← hac, List.map_append, List.sum_append]
     show _ + (2 + 0) ≤ _; lia
    ·rw [← hac, List.length_append, List.length_singleton]; lia
    rw [← hac, ← e, List.map_append]
    walk_at "has"
   have hrn : rr ≠ [] := fun e => by
    have h1 : i + 1 = l.length := by rw [e] at hrlen; simp at hrlen; lia
    rw [h1] at h; simp at h
   rw [if_neg hrn] at hi2
   have hq0 : runN rr ≠ 0 := fun e => by rw [if_pos e] at hi2; exact absurd hi2.symm (Option.some_ne_none _)
   rw [if_neg hq0] at hi2
   haveI hql := z36 rr
   obtain ⟨s0, hs0⟩ : ∃ s, l[i + 1]? = some (some s) := by
    by_cases q : ∃ s, l[i + 1]? = some (some s)
    ·exact q
    exact absurd (by rw [← hr]; exact qf1 (fun s e => q ⟨s, e⟩)) hq0
   haveI hg1 : (l.map (PTv a))[((i + 1 : Nat) : Int).toNat]? = some (.str s0) := by rw [Int.toNat_natCast, List.getElem?_map, hs0]; rfl
   refine X.end ?_
   apply X.assert
   ·refine B.isnotS (a := s0) (b := a) (E.iteml (i := ((i + 1 : Nat) : Int)) (EL.of ?_) ?_ (by lia) (by lia) hg1) ?_ (by rfl)
    ·walk_at "ev"
    ·walk_at "ev"
    walk_at "ev"
   apply X.own 1 (xs := [])
   ·decide
   ·rfl
   ·walk_at "keep"
   ·rfl
   ·rfl
   ·exact EF.list EA.nil (by decide)
   refine X.cut (fun s => Has ⟨[("inp", .pv (.list (l.map (PTv a)))), ("STAR", .pv (.obj a)), ("res", .ptr 0), ("add", .app 0), ("i", .pv (.int ((i + 1 + runN rr : Nat) : Int))), ("n", .pv (.int (l.length : Int))), ("fixed", .ptr 1)], [(1, (txts (rr.take (runN rr))).map .str), (0, acc.map .str)]⟩ s) ?_ fun s1 hs1 => ?_
   ·refine X.whileM (ι := Nat) (fun j => ⟨[("inp", .pv (.list (l.map (PTv a)))), ("STAR", .pv (.obj a)), ("res", .ptr 0), ("add", .app 0), ("i", .pv (.int (j : Int))), ("n", .pv (.int (l.length : Int))), ("fixed", .ptr 1)], [(1, (txts ((l.take j).drop (i + 1))).map .str), (0, acc.map .str)]⟩)
     (fun j => j + runN (l.drop j) = i + 1 + runN rr ∧ i + 1 ≤ j) (fun j => l.length - j) (i + 1) ?_ ⟨by rw [hr], Nat.le_refl _⟩ fun j hj => ?_
    ·haveI e0 : txts ((l.take (i + 1)).drop (i + 1)) = [] := by unfold txts; rw [List.drop_of_length_le (by simp; lia)]; rfl
     dsimp only
     rw [e0]
     walk_at "has"
    obtain ⟨hj1, hj2⟩ := hj
    refine ⟨(l[j]?.bind id).isSome, B.fixAt (a := a) ?_ ?_ ?_ ?_ ?_ (by lia) (by rfl) (by rfl) (by intro _ _; rfl), fun hb => ?_, fun hb => ?_⟩
    ·walk_at "ev"
    ·walk_at "ev"
    ·walk_at "ev"
    ·walk_at "ev"
    ·walk_at "ev"
    ·have := qf1 (qp2 hb)
     have e : j = i + 1 + runN rr := by lia
     haveI e2 : (l.take (i + 1 + runN rr)).drop (i + 1) = rr.take (runN rr) := by rw [← hr, List.drop_take]; congr 1; lia
     rw [e, e2]
     refine X.nil ⟨rfl, ?_⟩
     walk_at "has"
    obtain ⟨s, hs⟩ := qp1 hb
    haveI hil := (List.getElem?_eq_some_iff.mp hs).1
    haveI hgj : (l.map (PTv a))[((j : Nat) : Int).toNat]? = some (.str s) := by rw [Int.toNat_natCast, List.getElem?_map, hs]; rfl
    haveI htl : ((txts ((l.take j).drop (i + 1))).map PV.str).length ≤ j := by unfold txts; simp; lia
    apply X.app (v := .str s) G
    ·decide
    ·rfl
    ·intro _; rfl
    ·decide
    ·walk_at "mem"
    ·walk_at "mem"
    ·walk_at "keepo"
    ·refine E.iteml (i := (j : Int)) (EL.of ?_) ?_ (by lia) (by lia) hgj
     ·walk_at "ev"
     walk_at "ev"
    ·lia
    apply X.augE (b := 1) (c := ((j + 1 : Nat) : Int))
    ·decide
    ·walk_at "mem"
    ·walk_at "keep"
    ·walk_at "ev"
    ·rfl
    refine X.endL ⟨j + 1, ⟨by rw [← qo2 hs]; exact hj1, by lia⟩, by lia, ?_⟩
    rw [qh5 hs (i + 1) hj2, List.map_append]
    walk_at "has"
   refine X.has hs1 ?_
   clear hs1 s1
   have hwr := qt2 (rr.take (runN rr)) (rr.drop (runN rr))
   rw [List.take_append_drop] at hwr
   have hwt := qt1 (rr.take (runN rr))
   haveI htl : (txts (rr.take (runN rr))).length ≤ l.length := by unfold txts; simp; lia
   have hfx := q84 (txts (rr.take (runN rr)))
   generalize hts : txts (rr.take (runN rr)) = ts at *
   apply X.asg (r := .pv (.str (jn [] ts)))
   ·decide
   ·rfl
   ·walk_at "keep"
   ·refine E.join (ts := ts) (sep := []) ?_ (EL.own (j := 1) G ?_ ?_ (by decide)) (by simp only [List.length_nil, Nat.mul_zero]; lia) (by rfl) (by rfl) (by intro _; rfl)
    ·exact E.str
    ·walk_at "mem"
    walk_at "mem"
   have hnx : l.drop (i + 1 + runN rr) = rr.drop (runN rr) := by rw [← hr, List.drop_drop]
   refine X.ite (b := ((i + 1 + runN rr : Nat) : Int) == (l.length : Int)) ?_ (fun h => ?_) (fun h => ?_)
   ·walk_at "tst"
   ·have e : i + 1 + runN rr = l.length := by have := eq_of_beq h; lia
    have hrn2 : rr.drop (runN rr) = [] := by rw [← hnx, e, List.drop_length]
    rw [if_pos hrn2] at hi2
    apply X.add (v := .str [46, 42]) G
    ·rfl
    ·intro _; rfl
    ·decide
    ·walk_at "mem"
    ·walk_at "mem"
    ·walk_at "keepo"
    ·exact E.str
    ·exact hacl
    apply X.add (v := .str (jn [] ts)) G
    ·rfl
    ·intro _; rfl
    ·decide
    ·walk_at "mem"
    ·walk_at "mem"
    ·walk_at "keepo"
    ·walk_at "ev"
    ·rw [List.length_append, List.length_singleton, List.length_map]; lia
    refine X.end (X.endL ⟨(i + 1 + runN rr, acc ++ [[46, 42], jn [] ts], 1), ⟨by lia, ?_, ?_, ?_⟩, by dsimp only; exact Nat.sub_lt_sub_left hlt (Nat.lt_of_lt_of_le (Nat.lt_succ_self i) (Nat.le_add_right ..)), ?_⟩)
    ·dsimp only
     rw [hnx, hrn2]; exact hi2
    ·dsimp only
     rw [hnx, hrn2, List.map_append, List.sum_append]
     show _ + (2 + ((jn [] ts).length + 0)) + 0 ≤ _
     lia
    ·dsimp only
     rw [List.length_append]
     show _ + 2 ≤ _
     lia
    dsimp only
    rw [show acc ++ [[46, 42], jn [] ts] = acc ++ [[46, 42]] ++ [jn [] ts] by simp, List.map_append, List.map_append]
    walk_at "has"
   have hne2 : ¬ i + 1 + runN rr = l.length := fun e => by rw [e] at h; simp at h
   have hrn2 : ¬ rr.drop (runN rr) = [] := fun e => by
    have := congrArg List.length e
    rw [List.length_drop] at this
    simp at this
    lia
   rw [if_neg hrn2] at hi2
   apply X.add (v := .str ([40, 63, 62, 46, 42, 63] ++ jn [] ts ++ [41])) G
   ·rfl
   ·intro _; rfl
   ·decide
   ·walk_at "mem"
   ·walk_at "mem"
   ·walk_at "keepo"
   ·refine E.fmt (by rfl) (by rfl) ?_ ?_
    ·walk_at "ev"
    show 6 + _ + 1 ≤ _; lia
   ·exact hacl
   refine X.end (X.endL ⟨(i + 1 + runN rr, acc ++ [[40, 63, 62, 46, 42, 63] ++ jn [] ts ++ [41]], f), ⟨by lia, by dsimp only; rw [hnx]; exact hi2, ?_, ?_⟩, by dsimp only; exact Nat.sub_lt_sub_left hlt (Nat.lt_of_lt_of_le (Nat.lt_succ_self i) (Nat.le_add_right ..)), ?_⟩)
   ·dsimp only
    rw [hnx, List.map_append, List.sum_append]
    haveI : ([[40, 63, 62, 46, 42, 63] ++ jn [] ts ++ [41]].map List.length).sum = 7 + (jn [] ts).length := by simp; lia
    rw [this]
    simp at hi3
    lia
   ·dsimp only
    rw [List.length_append, List.length_singleton]; lia
   dsimp only
   rw [List.map_append]
   walk_at "has"
 obtain ⟨hb1, hb2, hs1⟩ := hs1
 refine X.has hs1 ?_
 clear hs1 s1
 apply X.assert
 ·have : ((l.length : Int) == (l.length : Int)) = true := beq_self_eq_true _
  rw [← this]
  walk_at "tst"
 haveI hjl := q84 accF
 apply X.asg (r := .pv (.str (jn [] accF)))
 ·decide
 ·rfl
 ·walk_at "keep"
 ·refine E.join (ts := accF) (sep := []) ?_ (EL.own (j := 0) G ?_ ?_ (by decide)) (by simp only [List.length_nil, Nat.mul_zero]; lia) (by rfl) (by rfl) (by intro _; rfl)
  ·exact E.str
  ·walk_at "mem"
  walk_at "mem"
 refine X.ret (v := .str r) ?_ rfl
 rw [hre]
 refine E.fmt (by rfl) (by rfl) ?_ ?_
 ·walk_at "ev"
 show 4 + _ + 3 ≤ _; lia
theorem qd2 {Γ : Cx} {P : Params} (KX : (hdK P).In Γ.hB) (m : Nat) (pat : List Nat) (k : Nat) (parts : List Part) (r : List Nat) (hz : pat.length ≤ 2 ^ 9) (hk : trR k pat [] = some parts) (hw : wt parts ≤ 2 ^ 20) (hj : joinR parts = some r)
  (gi : Γ.mg (Str.ofString "isinstance") = none) (gs : Γ.mg (Str.ofString "str") = none) (gm : Γ.mg (Str.ofString "_special_chars_map") = some (.ref 89)) (gl : Γ.mg (Str.ofString "len") = none) (gr : Γ.mg (Str.ofString "range") = none) (go : Γ.mg (Str.ofString "object") = none)
  (ge : Γ.mg (Str.ofString "escape") = some (.ref 99)) (gt : Γ.mg (Str.ofString "_twin_re_1") = some (.ref 80)) (gtr : Γ.mg (Str.ofString "_translate") = some (.ref 106)) (gj : Γ.mg (Str.ofString "_join_translated_parts") = some (.ref 113)) (hT : Γ.tabs = [(101, trEs)]) (ba : BA Γ) :
  FSpec Γ (m + 4) 87 [.str pat] (.str r) := by
 refine FSpec.introY KX (ps := ["pat"]) (ns := ["pat", "STAR", "parts"]) (v := [("pat", .pv (.str pat))]) (by rfl) (by rfl) (by rfl) ?_ ?_ (by rfl) ⟨rfl, rfl, rfl, rfl, rfl⟩ (by rfl) ?_
 ·walk_at "cok"
 ·intro Vs h
  obtain ⟨a, rfl⟩ := len1 h; rfl
 intro kf env G
 try dsimp only at G
 have bo : BN (Γ.on kf) env _ (Str.ofString "object") (.type "object") := ⟨G, by rfl, go, by rfl, by decide, by decide⟩
 apply X.obj bo
 ·decide
 ·walk_at "keep"
 ·rfl
 intro a
 have F1 := (qq4 KX m pat a k parts hz hk gi gs gm gl gr ge gt hT ba).on (k := kf)
 have D1 : DN (Γ.on kf) env _ (Str.ofString "_translate") 106 := ⟨G, by rfl, gtr, by decide, fn_in KX (by rfl)⟩
 have F2 := (qw8 KX (m + 2) parts a r hw hj gl).on (k := kf)
 have D2 : DN (Γ.on kf) env _ (Str.ofString "_join_translated_parts") 113 := ⟨G, by rfl, gj, by decide, fn_in KX (by rfl)⟩
 apply X.asg (r := .pv (.list (parts.map (PTv a))))
 ·decide
 ·rfl
 ·walk_at "keep"
 ·refine E.call D1 F1 ?_ (by intro _; rfl)
  have : [46] = cs "." := rfl
  rw [this]
  walk_at "evs"
 refine X.ret (v := .str r) ?_ rfl
 refine E.call D2 F2 ?_ (by intro _; rfl)
 walk_at "evs"
noncomputable def outOf (signs mem : List Nat) : List Nat := signs.filter fun c => !mem.contains c
noncomputable def q88 (signs held : List Nat) : List Nat := if held = signs then [32, 45, 50192] else if held = [] then [98, 45, 97] else held
noncomputable def textN (held : List Nat) : List Nat := if held = [] then [98, 45, 97] else held
noncomputable def q13 (signs mem : List Nat) (barred : Bool) : List Nat :=
 if barred then [91, 33] ++ q88 signs (outOf signs mem) ++ [93]
 else bareG (textN (outOf signs (outOf signs mem))) ([91] ++ textN (outOf signs (outOf signs mem)) ++ [93])
theorem qx0 (l : List Nat) : jn [] (l.map fun c => [c]) = l := by
 induction l with
 | nil => rfl
 | cons a l ih =>
  cases l with
  | nil => rfl
  | cons b l =>
   show [a] ++ [] ++ jn [] ((b :: l).map fun c => [c]) = _
   rw [ih]; rfl
theorem qo1 (l : List Nat) : ((l.map fun c => [c]).map List.length).sum = l.length := by
 induction l with
 | nil => rfl
 | cons a l ih => rw [List.map_cons, List.map_cons, List.sum_cons, ih]; show 0 + 1 + l.length = l.length + 1; lia
theorem z07 (mem : List Nat) (c : Nat) : ((mem.map fun c => [c]).any fun y => y == [c]) = mem.contains c := by
 induction mem with
 | nil => rfl
 | cons a l ih =>
  rw [List.map_cons, List.any_cons, ih, List.contains_cons]
  congr 1
  by_cases h : a = c
  ·subst h; simp
  have h1 : (([a] : List Nat) == [c]) = false := by simp [h]
  have h2 : (c == a) = false := by simp [show ¬ c = a from fun e => h e.symm]
  rw [h1, h2]
theorem qj3 (signs mem : List Nat) : ((signs.map fun c => [c]).filter fun x => !(mem.map fun c => [c]).any fun y => y == x) = (outOf signs mem).map fun c => [c] := by
 unfold outOf
 rw [List.filter_map]
 congr 1
 refine List.filter_congr fun c _ => ?_
 show (!(mem.map fun c => [c]).any fun y => y == [c]) = _
 rw [z07]
theorem q92 (l : List Nat) : chs l = .list ((l.map fun c => [c]).map .str) := by
 unfold chs; rw [List.map_map]; rfl
theorem qf9 (l : List Nat) : HasTy (.list .str) (chs l) := q73 l
theorem z76 {a b : List Nat} (h : chs a = chs b) : a = b := by
 unfold chs at h
 have h := PV.list.inj h
 have := congrArg (List.map fun v : PV => match v with | .str [c] => c | _ => 0) h
 simpa [List.map_map, Function.comp_def] using this
theorem z41 (a b : List Nat) : eqp (.list .str) (chs a) (chs b) = decide (a = b) := by
 rw [Bool.eq_iff_iff, qg3 _ _ _ (qf9 a) (qf9 b), decide_eq_true_iff]
 exact ⟨z76, fun e => by rw [e]⟩
theorem E.joinE {Γ : Cx} {n : Nat} {env : Env} {σ : St} {o e : Expr} {apos pos : Pos} {sep : List Nat} {ts : List (List Nat)} {r : List Nat} (hr : jn sep ts = r) (ho : E Γ n env σ o (.pv (.str sep))) (ha : EL Γ n env σ e (ts.map .str)) (hz : (ts.map List.length).sum + ts.length * sep.length ≤ 2 ^ 24) (hbase : attributeBase o (Str.ofString "join") env (eval o env) = eval o env) (hline : (apos.endLine == pos.line) = true) (he : ∀ env, starEach [e] env = [(false, eval e env)]) :
  E Γ n env σ (.Call (.Attribute o (Str.ofString "join") apos) [e] [] pos) (.pv (.str r)) := hr ▸ E.join ho ha hz hbase hline he
theorem qr5 {Γ : Cx} {P : Params} (KX : (hdK P).In Γ.hB) (signs mem : List Nat) (barred : Bool) (hs : signs.length ≤ 10) (hm : mem.length ≤ 100)
  (gi : Γ.mg (Str.ofString "iter") = none) (gn : Γ.mg (Str.ofString "next") = none) (gb : Γ.mg (Str.ofString "bool") = none) (gl : Γ.mg (Str.ofString "list") = none) (gf : Γ.mg (Str.ofString "filterfalse") = some (.ref 64)) (gc : Γ.mg (Str.ofString "chr") = none) (gfi : Γ.mg (Str.ofString "_filter") = some (.ref 75)) :
  FSpec Γ 7 130 [chs mem, chs signs, .bool barred] (.str (q13 signs mem barred)) := by
 refine FSpec.introY KX (ps := ["members", "signs", "barred"]) (ns := ["members", "signs", "barred", "outside", "text"]) (v := [("members", .pv (chs mem)), ("signs", .pv (chs signs)), ("barred", .pv (.bool barred))]) (by rfl) (by rfl) (by rfl) ?_ ?_ (by rfl) ⟨rfl, rfl, rfl, rfl, rfl⟩ (by rfl) ?_
 ·walk_at "cok"
 ·intro Vs h
  obtain ⟨a, b, c, rfl⟩ := len3 h; rfl
 intro kf env G
 try dsimp only at G
 have D : DN (Γ.on kf) env _ (Str.ofString "_filter") 75 := ⟨G, by rfl, gfi, by decide, fn_in KX (by rfl)⟩
 have F : ∀ ys : List Nat, FSpec (Γ.on kf) 6 75 [chs signs, chs ys] (chs (outOf signs ys)) := fun ys => by
  have := (qc5 KX gi gn gb gl gf (signs.map fun c => [c]) (ys.map fun c => [c]) (by rw [List.length_map]; lia)).on (k := kf)
  rw [qj3, ← q92, ← q92, ← q92] at this
  exact this
 have ol : ∀ l m : List Nat, (outOf l m).length ≤ l.length := fun l m => List.length_filter_le ..
 apply X.asg (r := .pv (chs (outOf signs mem)))
 ·decide
 ·rfl
 ·walk_at "keep"
 ·refine E.call D (F mem) ?_ (by intro _; rfl)
  walk_at "evs"
 have hbl : BN (Γ.on kf) env _ (Str.ofString "chr") (.builtin "chr") := ⟨G, by rfl, gc, by rfl, by decide, by decide⟩
 have ho := ol signs mem
 have ho2 := ol signs (outOf signs mem)
 have htl : (q88 signs (outOf signs mem)).length ≤ 20 := by unfold q88; split; decide; split; decide; lia
 have htn : (textN (outOf signs (outOf signs mem))).length ≤ 20 := by unfold textN; split; decide; lia
 refine X.ite (b := barred) ?_ (fun h => ?_) (fun h => ?_)
 ·walk_at "tst"
 ·refine X.ret (v := .str (q13 signs mem barred)) ?_ rfl
  have e : q13 signs mem barred = cs "[!" ++ q88 signs (outOf signs mem) ++ cs "]" := by
   unfold q13
   rw [if_pos h]; rfl
  rw [e]
  generalize hheld : outOf signs mem = held at *
  refine E.adds (E.adds E.str ?_ ?_) E.str ?_
  ·refine E.ife (b := eqp (.list .str) (chs held) (chs signs)) ?_ (fun h => ?_) (fun h => ?_)
   ·refine B.eqt (.list .str) ?_ ?_ ?_ ?_ (by decide) (by rfl)
    ·walk_at "ev"
    ·walk_at "ev"
    ·exact qf9 _
    exact qf9 _
   ·rw [z41] at h
    unfold q88
    rw [if_pos (of_decide_eq_true h)]
    have e : ([32, 45, 50192] : List Nat) = cs " -" ++ [(50192 : Int).toNat] := rfl
    rw [e]
    refine E.adds E.str (E.chr hbl E.int (by decide) (by decide) (by intro _; rfl)) (by decide)
   rw [z41] at h
   unfold q88
   rw [if_neg (of_decide_eq_false h)]
   refine E.ors (a := held) (b := [98, 45, 97]) (E.joinE (ts := held.map fun c => [c]) (sep := []) (qx0 held) ?_ (EL.of ?_) ?_ (by rfl) (by rfl) (by intro _; rfl)) (by lia) fun _ => ?_
   ·exact E.str
   ·rw [← q92]
    walk_at "ev"
   ·have : ((held.map fun c => [c]).map List.length).sum = held.length := qo1 held
    rw [this]
    simp only [List.length_nil, Nat.mul_zero]; lia
   exact E.str
  ·show 2 + _ ≤ _; lia
  rw [List.length_append]; show 2 + _ + 1 ≤ _; lia
 refine X.end ?_
 have eF := F (outOf signs mem)
 generalize hheld : outOf signs (outOf signs mem) = held at *
 apply X.asg (r := .pv (.str (textN held)))
 ·decide
 ·rfl
 ·walk_at "keep"
 ·unfold textN
  refine E.ors (a := held) (b := [98, 45, 97]) (E.joinE (ts := held.map fun c => [c]) (sep := []) (qx0 held) ?_ (EL.of ?_) ?_ (by rfl) (by rfl) (by intro _; rfl)) (by lia) fun _ => ?_
  ·exact E.str
  ·rw [← q92]
   refine E.call D eF ?_ (by intro _; rfl)
   walk_at "evs"
  ·have : ((held.map fun c => [c]).map List.length).sum = held.length := qo1 held
   rw [this]
   simp only [List.length_nil, Nat.mul_zero]; lia
  exact E.str
 refine X.ret (v := .str (q13 signs mem barred)) ?_ rfl
 have e : q13 signs mem barred = bareG (textN held) ([91] ++ textN held ++ [93]) := by
  unfold q13
  rw [if_neg (by rw [h]; decide), hheld]
 rw [e]
 refine E.bareGet G ?_ (by decide) (by lia) (by rfl)
 walk_at "mem"
noncomputable def scL : Scope := match (pB[21]? : Option Stmt) with | some (.FunctionDef _ _ _ _ _ _ sc _ _ _) => sc | _ => default
noncomputable def lns : List String := ["script", "drawn", "signs", "sizes", "wide", "head", "tail", "names", "size", "begins", "ends", "both", "rows", "due", "lap", "start", "meets", "taken", "r", "row", "star", "stars", "figure", "pieces", "text", "shared"]
structure LG (Γ : Cx) (P : Params) : Prop where
 KX : (hdK P).In Γ.hB
 gi : Γ.mg (Str.ofString "isinstance") = none
 gs : Γ.mg (Str.ofString "str") = none
 gm : Γ.mg (Str.ofString "_special_chars_map") = some (.ref 89)
 gl : Γ.mg (Str.ofString "len") = none
 gr : Γ.mg (Str.ofString "range") = none
 go : Γ.mg (Str.ofString "object") = none
 ge : Γ.mg (Str.ofString "escape") = some (.ref 99)
 gt : Γ.mg (Str.ofString "_twin_re_1") = some (.ref 80)
 gtr : Γ.mg (Str.ofString "_translate") = some (.ref 106)
 gj : Γ.mg (Str.ofString "_join_translated_parts") = some (.ref 113)
 hT : Γ.tabs = [(101, trEs)]
 ba : BA Γ
 git : Γ.mg (Str.ofString "iter") = none
 gn : Γ.mg (Str.ofString "next") = none
 gb : Γ.mg (Str.ofString "bool") = none
 gli : Γ.mg (Str.ofString "list") = none
 gff : Γ.mg (Str.ofString "filterfalse") = some (.ref 64)
 gc : Γ.mg (Str.ofString "chr") = none
 gfi : Γ.mg (Str.ofString "_filter") = some (.ref 75)
 gzip : Γ.mg (Str.ofString "zip") = none
 gen : Γ.mg (Str.ofString "enumerate") = none
 gsum : Γ.mg (Str.ofString "sum") = none
 gmin : Γ.mg (Str.ofString "min") = none
 gread : Γ.mg (Str.ofString "_law_read") = some (.ref 135)
 gsi : Γ.mg (Str.ofString "_law_signs") = some (.ref 118)
 gse : Γ.mg (Str.ofString "_law_sets") = some (.ref 123)
 gpi : Γ.mg (Str.ofString "_law_piece") = some (.ref 130)
 gta : Γ.mg (Str.ofString "_law_taken") = some (.ref 140)
 gfa : Γ.mg (Str.ofString "_law_fits") = some (.ref 145)
 gtl : Γ.mg (Str.ofString "translate") = some (.ref 87)
noncomputable def owns : List Int := [246, 135, 10010, 0]
noncomputable def stepL (script : List Int) (p : Int) : List Int :=
 (sliceRange (sliceBounds (some p) none (some 4) script.length).1 (sliceBounds (some p) none (some 4) script.length).2.1 (sliceBounds (some p) none (some 4) script.length).2.2).filterMap (script[·]?)
noncomputable def qn2 (script : List Int) (p : Int × Nat) : Int := p.1 + (stepL script p.2).sum
noncomputable def sizesL : List (Nat × Nat) := [(2, 2), (2, 1), (1, 2), (3, 1), (1, 3), (1, 1), (2, 2), (2, 2), (2, 1), (1, 2)]
noncomputable def szOf (d : Int) : Nat × Nat := sizesL.getD (d.fmod 10).toNat (1, 1)
noncomputable def q02 (signs : List Nat) : Nat → List (List Nat)
 | 0 => [[]]
 | q + 1 => q02 signs q ++ (cut (some (-((2 : Int) ^ q))) none (q02 signs q)).flatMap fun a => signs.map fun b => a ++ [b]
noncomputable def begR (names hd : List (List Nat)) : List (List Nat) := names.filter fun n => q21 n 0 hd
noncomputable def endR (names tl : List (List Nat)) (t : Nat) : List (List Nat) := names.filter fun n => q21 n ((n.length : Int) - (t : Int)) tl
noncomputable def bothR (b e : List (List Nat)) : List (List Nat) := b.filter fun n => e.any fun y => y == n
noncomputable def longR (bo : List (List Nat)) (w : Int) : List (List Nat) := bo.filter fun n => decide (w ≤ (n.length : Int))
noncomputable def lenR (bo : List (List Nat)) (w : Int) : List (List Nat) := bo.filter fun n => (n.length : Int) == w
noncomputable def meetR (x y : List Nat) : List Nat := outOf x (outOf x y)
noncomputable def lapR (hd tl : List (List Nat)) (h l : Nat) : List (List Nat) := hd.take (h - l) ++ ((List.range l).map fun k => meetR (hd.getD (h - l + k) []) (tl.getD k [])) ++ tl.drop l
noncomputable def rowsQ (hd tl : List (List Nat)) (h q : Nat) : List (List (List Nat) × Int) := [(hd, (h : Int)), (tl, 0), (hd ++ tl, (h : Int))] ++ (List.range q).map fun l => (lapR hd tl h (l + 1), -1)
noncomputable def dueQ (b e : List (List Nat)) (w q : Nat) : List (List (List Nat)) := [b, e, longR (bothR b e) w] ++ (List.range q).map fun l => lenR (bothR b e) ((w : Int) - ((l + 1 : Nat) : Int))
noncomputable def q11 (star : Int) : List (List Nat) := if 0 ≤ star then [[42]] else []
noncomputable def bitF (d : Int) (r k : Nat) : Bool := (d.fdiv (10 ^ (r + 1)) + (k : Int)).fmod 2 == 1
noncomputable def q05 (signs : List Nat) (row : List (List Nat)) (b : Nat → Bool) : List (List Nat) := (List.range row.length).map fun k => q13 signs (row.getD k []) (b k)
noncomputable def patOf (signs : List Nat) (row : List (List Nat)) (b : Nat → Bool) (star : Int) : List Nat := jn [] (cut none (some star) (q05 signs row b) ++ q11 star ++ cut (some star) none (q05 signs row b))
noncomputable abbrev rowP (row : List (List Nat)) : PV := .list (row.map chs)
noncomputable abbrev tupP (p : List (List Nat) × Int) : PV := .tup [rowP p.1, .int p.2]
noncomputable abbrev nmP (l : List (List Nat)) : PV := .list (l.map .str)
noncomputable abbrev nmsP (l : List (List (List Nat))) : PV := .list (l.map nmP)
noncomputable def RowOK (signs : List Nat) (row : List (List Nat)) (b : Nat → Bool) (star : Int) (names due : List (List Nat)) : Prop :=
 ∃ k parts txt k2 items st, trR k (patOf signs row b star) [] = some parts ∧ wt parts ≤ 2 ^ 20 ∧ joinR parts = some txt ∧ txt.length ≤ 2 ^ 16 ∧ cut none (some 4) txt ++ cut (some (-3)) none txt = [40, 63, 115, 58, 41, 92, 90] ∧
  cnt txt [46, 42] = (q11 star).length ∧ readR signs k2 (cut (some 4) (some (-3)) txt) [] (-1) = some (items, st) ∧ items.length ≤ 1000 ∧ -1 ≤ st ∧ st ≤ 1000 ∧ names.filter (fitT signs items st) = due
noncomputable def LawOK (d0 d1 d2 d3 : Int) : Prop :=
 ∀ r row star due, (rowsQ (q18 d0 (szOf d2).1 (q01 d3)) (q18 d1 (szOf d2).2 (q01 d3)) (szOf d2).1 (min (szOf d2).1 (szOf d2).2))[r]? = some (row, star) →
  (dueQ (begR (q02 (q01 d3) 4) (q18 d0 (szOf d2).1 (q01 d3))) (endR (q02 (q01 d3) 4) (q18 d1 (szOf d2).2 (q01 d3)) (szOf d2).2) ((szOf d2).1 + (szOf d2).2) (min (szOf d2).1 (szOf d2).2))[r]? = some due →
  RowOK (q01 d3) row (bitF d2 r) star (q02 (q01 d3) 4) due
theorem i60 {n : Nat} (h : n ≤ 1000) : (n : Int) ≤ 2 ^ 60 := Int.le_trans (Int.ofNat_le.mpr h) (by decide)
theorem n24 {n : Nat} (h : n ≤ 2000) : n ≤ 2 ^ 24 := Nat.le_trans h (by decide)
theorem n60 {n : Nat} (h : n ≤ 2000) : n < 2 ^ 60 := Nat.lt_of_le_of_lt h (by decide)
theorem n20 {n : Nat} (h : n ≤ 1000) : n ≤ 2 ^ 20 := Nat.le_trans h (by decide)
theorem ixL {h l k : Nat} (a : l ≤ h) (b : k < l) : h - l + k < h := by omega
theorem subI {h l : Nat} (a : l ≤ h) : (h : Int) - (l : Int) = ((h - l : Nat) : Int) := (Int.ofNat_sub a).symm
theorem minC (h t : Nat) : min (h : Int) (t : Int) = ((min h t : Nat) : Int) := by omega
theorem lap5 {h t l : Nat} (a : l ≤ h) (b : l ≤ t) (c : h + t ≤ 4) : min (h - l) h + l + (t - l) ≤ 5 := by omega
theorem qp0 {l : List (List Nat)} {k : Nat} (h : k < l.length) : l.getD k [] ∈ l := by
 rw [List.getD_eq_getElem?_getD, List.getElem?_eq_getElem h]
 exact List.getElem_mem _
theorem sz_ok (d : Int) : 1 ≤ (szOf d).1 ∧ 1 ≤ (szOf d).2 ∧ (szOf d).1 + (szOf d).2 ≤ 4 := by
 unfold szOf
 have h1 := q43 d (b := 10) (by decide)
 have h2 := q44 d (b := 10) (by decide)
 have h3 : (d.fmod 10).toNat < 10 := by lia
 have : ∀ k < 10, 1 ≤ (sizesL.getD k (1, 1)).1 ∧ 1 ≤ (sizesL.getD k (1, 1)).2 ∧ (sizesL.getD k (1, 1)).1 + (sizesL.getD k (1, 1)).2 ≤ 4 := by decide
 exact this _ h3
theorem qz9 (x y : List Nat) : (bareG x y).length ≤ 4 + y.length := by
 unfold bareG
 split
 ·exact Nat.le_trans (Nat.le_of_ble_eq_true rfl : 1 ≤ 4) (Nat.le_add_right ..)
 split
 ·exact Nat.le_trans (Nat.le_of_ble_eq_true rfl : 1 ≤ 4) (Nat.le_add_right ..)
 split
 ·exact Nat.le_add_right 4 _
 exact Nat.le_add_left ..
theorem qv3 (signs mem : List Nat) (b : Bool) (hs : signs.length ≤ 10) : (q13 signs mem b).length ≤ 40 := by
 have ol : ∀ l m : List Nat, (outOf l m).length ≤ l.length := fun l m => List.length_filter_le ..
 have h1 := ol signs mem
 have h2 := ol signs (outOf signs mem)
 unfold q13
 split
 ·rw [List.length_append, List.length_append]
  have : (q88 signs (outOf signs mem)).length ≤ 10 := by
   unfold q88
   split
   ·exact Nat.le_of_ble_eq_true rfl
   split
   ·exact Nat.le_of_ble_eq_true rfl
   lia
  show 2 + _ + 1 ≤ 40; lia
 have h3 := qz9 (textN (outOf signs (outOf signs mem))) ([91] ++ textN (outOf signs (outOf signs mem)) ++ [93])
 have : (textN (outOf signs (outOf signs mem))).length ≤ 10 := by
  unfold textN
  split
  ·exact Nat.le_of_ble_eq_true rfl
  lia
 rw [List.length_append, List.length_append] at h3
 simp only [List.length_singleton] at h3
 lia
theorem sum40 {l : List (List Nat)} (hl : ∀ x ∈ l, x.length ≤ 40) : (l.map List.length).sum ≤ 40 * l.length := by
 induction l with
 | nil => exact Nat.le_refl _
 | cons a l ih =>
  rw [List.map_cons, List.sum_cons, List.length_cons, Nat.mul_succ, Nat.add_comm]
  exact Nat.add_le_add (ih fun x m => hl x (.tail _ m)) (hl a (.head _))
theorem qv5 (signs : List Nat) (row : List (List Nat)) (b : Nat → Bool) (star : Int) (hs : signs.length ≤ 10) (hr : row.length ≤ 5) : ((cut none (some star) (q05 signs row b) ++ q11 star ++ cut (some star) none (q05 signs row b)).map List.length).sum ≤ 500 := by
 refine Nat.le_trans (sum40 fun x hx => ?_) ?_
 ·have hp : ∀ y ∈ q05 signs row b, y.length ≤ 40 := fun y hy => by
   obtain ⟨k, _, rfl⟩ := List.mem_map.mp hy
   exact qv3 _ _ _ hs
  rcases List.mem_append.mp hx with hx | hx
  ·rcases List.mem_append.mp hx with hx | hx
   ·exact hp _ (qc7 hx)
   unfold q11 at hx
   split at hx
   ·rw [List.mem_singleton.mp hx]; exact Nat.le_of_ble_eq_true rfl
   cases hx
  exact hp _ (qc7 hx)
 have hl : (q05 signs row b).length ≤ 5 := by unfold q05; rw [List.length_map, List.length_range]; exact hr
 have h1 := q25 none (some star) (q05 signs row b)
 have h2 := q25 (some star) none (q05 signs row b)
 have h3 : (q11 star).length ≤ 1 := by unfold q11; split <;> decide
 rw [List.length_append, List.length_append]
 lia
theorem z54 (signs : List Nat) (row : List (List Nat)) (b : Nat → Bool) (star : Int) (hs : signs.length ≤ 10) (hr : row.length ≤ 5) : (patOf signs row b star).length ≤ 500 :=
 Nat.le_trans (q84 _) (qv5 signs row b star hs hr)
theorem q17 (l : List (List Nat)) : HasTy (.list .str) (nmP l) := fun x hx => by
 obtain ⟨i, _, rfl⟩ := List.mem_map.mp hx
 trivial
theorem q72 (l : List (List (List Nat))) : HasTy (.list (.list .str)) (nmsP l) := fun x hx => by
 obtain ⟨i, _, rfl⟩ := List.mem_map.mp hx
 exact q17 i
theorem qb1 (l : List (List Nat)) : eqp (.list .str) (nmP l) (nmP l) = true := (qg3 _ _ _ (q17 l) (q17 l)).mpr rfl
theorem qq7 (l : List (List (List Nat))) : eqp (.list (.list .str)) (nmsP l) (nmsP l) = true := (qg3 _ _ _ (q72 l) (q72 l)).mpr rfl
theorem B.cast {Γ : Cx} {n : Nat} {env : Env} {σ : St} {x : Expr} {b c : Bool} (e : b = c) (h : B Γ n env σ x b) : B Γ n env σ x c := e ▸ h
theorem E.cast {Γ : Cx} {n : Nat} {env : Env} {σ : St} {x : Expr} {b c : PV} (e : b = c) (h : E Γ n env σ x (.pv b)) : E Γ n env σ x (.pv c) := e ▸ h
theorem qh2 {l : List (List Nat)} {p : List Nat → Bool} {n : List Nat} (h : n ∈ l) : ((l.filter p).any fun y => y == n) = p n := by
 rw [Bool.eq_iff_iff, List.any_eq_true]
 constructor
 ·rintro ⟨y, hy, e⟩
  have : y = n := eq_of_beq e
  subst this
  exact (List.mem_filter.mp hy).2
 intro hp
 exact ⟨n, List.mem_filter.mpr ⟨h, hp⟩, beq_self_eq_true _⟩
theorem qp9 (l : List (List Nat)) (x : List Nat) : ((l.map PV.str).any fun v => eqp .str v (.str x)) = l.any fun y => y == x := by
 rw [List.any_map]; rfl
theorem FSpec.up {Γ : Cx} {n : Nat} {f : Addr} {xs : List PV} {r : PV} (F : FSpec Γ n f xs r) : FSpec Γ (n + 1) f xs r := fun k A s H Vs Rm => F k A s H Vs ⟨Rm.frames, Rm.handled, by have := Rm.depth; lia, by have := Rm.units; lia⟩
theorem qu2 (d : Int) : (q01 d).length = 2 := by
 unfold q01
 rw [List.length_map]
 have h1 := q43 d (b := 10) (by decide)
 have h2 := q44 d (b := 10) (by decide)
 have h3 : (d.fmod 10).toNat < 10 := by lia
 have : ∀ k < 10, (rowsL.getD k []).length = 2 := by decide
 exact this _ h3
theorem z06 (script : List Int) (p : Int) : (sliceRange (sliceBounds (some p) none (some 4) (script.map PV.int).length).1 (sliceBounds (some p) none (some 4) (script.map PV.int).length).2.1 (sliceBounds (some p) none (some 4) (script.map PV.int).length).2.2).filterMap ((script.map PV.int)[·]?) = (stepL script p).map PV.int := by
 unfold stepL
 rw [List.length_map, List.map_filterMap]
 congr 1
 funext i
 exact List.getElem?_map ..
section
variable {Γ : Cx} {n : Nat} {env : Env} {σ : St}
theorem I.rngN {e : Expr} {x : String} {p : Pos} {m : Nat} (hm : m ≤ 2 ^ 20) (he : E Γ n env σ e (.pv (.rng 0 (m : Int)))) : EvI Γ n env σ e (.Name (Str.ofString x) p) ((List.range m).map fun k : Nat => [.int (k : Int)]) := by
 have := I.rng (x := x) (p := p) he (by decide) (by lia)
 have e2 : (rngL 0 (m : Int)).map (fun i => [PV.int i]) = (List.range m).map fun k : Nat => [.int (k : Int)] := by
  unfold rngL
  rw [Int.sub_zero, Int.toNat_natCast, List.map_map]
  refine List.map_congr_left fun k _ => ?_
  show [PV.int (0 + (k : Int))] = _
  rw [Int.zero_add]
 rwa [e2] at this
theorem I.rng1N {e : Expr} {x : String} {p : Pos} {m : Nat} (hm : m ≤ 2 ^ 20) (he : E Γ n env σ e (.pv (.rng 1 ((m : Int) + 1)))) : EvI Γ n env σ e (.Name (Str.ofString x) p) ((List.range m).map fun k : Nat => [.int ((k + 1 : Nat) : Int)]) := by
 have := I.rng (x := x) (p := p) he (by decide) (by lia)
 have e2 : (rngL 1 ((m : Int) + 1)).map (fun i => [PV.int i]) = (List.range m).map fun k : Nat => [.int ((k + 1 : Nat) : Int)] := by
  unfold rngL
  rw [show ((m : Int) + 1 - 1).toNat = m by lia, List.map_map]
  refine List.map_congr_left fun k _ => ?_
  show [PV.int (1 + (k : Int))] = _
  rw [Int.natCast_add, Int.add_comm]; rfl
 rwa [e2] at this
end
theorem qg5 {α : Type} (n : Nat) (l : List α) : cut none (some (n : Int)) l = l.take n := by
 have : cut (none : Option Int) (some (n : Int)) l = cut (some ((0 : Nat) : Int)) (some (n : Int)) l := rfl
 rw [this, q58, List.drop_zero]
theorem qs6 (b e : List (List Nat)) : b.filter (fun x => !(b.filter fun x => !e.any fun y => y == x).any fun y => y == x) = bothR b e := by
 refine List.filter_congr fun n hn => ?_
 rw [qh2 hn, Bool.not_not]
theorem qs7 (b e : List (List Nat)) (w : Int) : (bothR b e).filter (fun x => !(longR (bothR b e) w).any fun y => y == x) = (bothR b e).filter fun n => decide ((n.length : Int) < w) := by
 refine List.filter_congr fun n hn => ?_
 unfold longR
 rw [qh2 hn, Bool.eq_iff_iff]
 simp only [Bool.not_eq_true', decide_eq_false_iff_not, decide_eq_true_iff, Int.not_le]
theorem z34 (b e : List (List Nat)) (n : List Nat) (h : n ∈ e) : ((bothR b e).any fun y => y == n) = b.any fun y => y == n := by
 rw [Bool.eq_iff_iff, List.any_eq_true, List.any_eq_true]
 constructor
 ·rintro ⟨y, hy, q⟩; exact ⟨y, (List.mem_filter.mp hy).1, q⟩
 rintro ⟨y, hy, q⟩
 have : y = n := eq_of_beq q
 subst this
 exact ⟨y, List.mem_filter.mpr ⟨hy, List.any_eq_true.mpr ⟨y, h, beq_self_eq_true _⟩⟩, q⟩
theorem qz7 (b e : List (List Nat)) : (e ++ e).filter (fun x => !(bothR b e).any fun y => y == x) = (e.filter fun n => !b.any fun y => y == n) ++ e.filter fun n => !b.any fun y => y == n := by
 have : e.filter (fun x => !(bothR b e).any fun y => y == x) = e.filter fun n => !b.any fun y => y == n := List.filter_congr fun n hn => by rw [z34 b e n hn]
 rw [List.filter_append, this]
theorem z91 {Γ : Cx} {P : Params} (Q : LG Γ P) (kf : List Addr) {τ : Nat} {env : Env} (G : EnvS env scL) (b e : List (List Nat)) (w : Int) (rest : List (List (List Nat))) (hb : b.length ≤ 1000) (he : e.length ≤ 1000) (hbl : ∀ n ∈ b, n.length ≤ 10) :
  X (Γ.on kf) τ 7 env lns ⟨[("taken", .pv (nmsP (b :: e :: longR (bothR b e) w :: rest))), ("due", .pv (nmsP (b :: e :: longR (bothR b e) w :: rest))), ("begins", .pv (nmP b)), ("ends", .pv (nmP e)), ("both", .pv (nmP (bothR b e))), ("wide", .pv (.int w))], []⟩
   ((bd pB[21]?).drop 16) fun af _ => af = .rt (.bool true) := by
 have KX := Q.KX
 refine X.ite (b := false) ?_ (fun h => by cases h) (fun _ => ?_)
 ·refine B.cast (b := !eqp (.list (.list .str)) (nmsP (b :: e :: longR (bothR b e) w :: rest)) (nmsP (b :: e :: longR (bothR b e) w :: rest))) (by rw [qq7]; rfl) ?_
  refine B.net (.list (.list .str)) ?_ ?_ (q72 _) (q72 _) (by decide) (by rfl)
  ·walk_at "ev"
  walk_at "ev"
 refine X.end ?_
 have hbo : (bothR b e).length ≤ 1000 := Nat.le_trans (List.length_filter_le ..) hb
 have D : DN (Γ.on kf) env _ (Str.ofString "_filter") 75 := ⟨G, by rfl, Q.gfi, by decide, fn_in KX (by rfl)⟩
 have F : ∀ xs ys : List (List Nat), xs.length ≤ 2000 → FSpec (Γ.on kf) 7 75 [nmP xs, nmP ys] (nmP (xs.filter fun x => !ys.any fun y => y == x)) := fun xs ys hx => (FSpec.up (qc5 KX Q.git Q.gn Q.gb Q.gli Q.gff xs ys (by lia))).on (k := kf)
 have F0 := F b e (by lia)
 have F1 := F b (b.filter fun x => !e.any fun y => y == x) (by lia)
 rw [qs6] at F1
 have F2 := F (bothR b e) (longR (bothR b e) w) (by lia)
 rw [qs7] at F2
 have F3 := F (e ++ e) (bothR b e) (by rw [List.length_append]; lia)
 rw [qz7] at F3
 have g0 : ((b :: e :: longR (bothR b e) w :: rest).map nmP)[(0 : Int).toNat]? = some (nmP b) := rfl
 have g1 : ((b :: e :: longR (bothR b e) w :: rest).map nmP)[(1 : Int).toNat]? = some (nmP e) := rfl
 have g2 : ((b :: e :: longR (bothR b e) w :: rest).map nmP)[(2 : Int).toNat]? = some (nmP (longR (bothR b e) w)) := rfl
 have dbl : ∀ l : List (List Nat), PV.list (List.replicate (2 : Int).toNat (l.map PV.str)).flatten = nmP (l ++ l) := fun l => by
  show _ = PV.list _
  rw [List.map_append]; show PV.list (l.map PV.str ++ (l.map PV.str ++ [])) = _; rw [List.append_nil]
 have hty : ∀ (l : List (List Nat)), ∀ y ∈ l.map PV.str, HasTy .str y := fun l => q17 l
 apply X.asg (r := .pv (nmP (bothR b e)))
 ·decide
 ·rfl
 ·walk_at "keep"
 ·refine E.call D F1 (EA.cons (E.iteml (i := 0) (EL.of ?_) E.int (by decide) (by decide) g0) (EA.cons (E.call D F0 (EA.cons (E.iteml (i := 0) (EL.of ?_) E.int (by decide) (by decide) g0) (EA.cons (E.iteml (i := 1) (EL.of ?_) E.int (by decide) (by decide) g1) EA.nil (by intro _; rfl)) (by intro _; rfl)) (by intro _; rfl)) EA.nil (by intro _; rfl)) (by intro _; rfl)) (by intro _; rfl)
  ·walk_at "ev"
  ·walk_at "ev"
  walk_at "ev"
 have bln : ∀ {cenv cs}, EnvS cenv cs → cs.names.lookup (Str.ofString "len") = some .globalImplicit → BN (Γ.on kf) cenv cs (Str.ofString "len") (.builtin "len") := fun G h => ⟨G, h, Q.gl, by rfl, by decide, by decide⟩
 refine X.ite (b := false) ?_ (fun h => by cases h) (fun _ => ?_)
 ·refine B.cast (b := (!eqp (.list .str) (nmP (bothR b e)) (nmP (bothR b e))) || ((!eqp (.list .str) (nmP ((bothR b e).filter fun n => decide ((n.length : Int) < w))) (nmP ((bothR b e).filter fun n => decide ((n.length : Int) < w)))) || false)) (by rw [qb1, qb1]; rfl) ?_
  refine B.or (B.net (.list .str) ?_ ?_ (q17 _) (q17 _) (by decide) (by rfl)) fun _ => B.or (B.net (.list .str) ?_ ?_ (q17 _) (q17 _) (by decide) (by rfl)) fun _ => B.or0
  ·walk_at "ev"
  ·walk_at "ev"
  ·refine E.call D F2 (EA.cons ?_ (EA.cons (E.iteml (i := 2) (EL.of ?_) E.int (by decide) (by decide) g2) EA.nil (by intro _; rfl)) (by intro _; rfl)) (by intro _; rfl)
   ·walk_at "ev"
   walk_at "ev"
  refine E.compIf (its := bothR b e) (cv := fun n => [.str n]) (f := PV.str) (xs := ["name"]) (l := [("wide", .int w)]) G ?_ ?_ (.name _ _) (by decide) (fun _ => rfl) (I.listA (c := PV.str) ?_) (by lia) (fun cenv G' n hn => ?_) fun cenv G' n hn hh => ?_
  ·walk_at "cok"
  ·walk_at "caps"
  ·walk_at "ev"
  ·have hnl : n.length < 2 ^ 60 := by have := hbl n (List.mem_filter.mp hn).1; lia
   refine B.lti (E.len_str (bln G' (by rfl)) ?_ hnl (by intro _; rfl)) ?_ (by rfl)
   ·walk_at "ev"
   walk_at "ev"
  walk_at "ev"
 refine X.end (X.ret (v := .bool true) ?_ rfl)
 refine E.cast (b := .bool (eqp (.list .str) (nmP ((e.filter fun n => !b.any fun y => y == n) ++ e.filter fun n => !b.any fun y => y == n)) (nmP ((e.filter fun n => !b.any fun y => y == n) ++ e.filter fun n => !b.any fun y => y == n)))) (by rw [qb1]) ?_
 have hel : (e.filter fun n => !b.any fun y => y == n).length ≤ 1000 := Nat.le_trans (List.length_filter_le ..) he
 refine E.eqt (.list .str) ?_ ?_ (q17 _) (q17 _) (by decide) (by rfl)
 ·refine E.call D F3 (EA.cons (E.cast (dbl e) (E.mull (EL.of (E.iteml (i := 1) (EL.of ?_) E.int (by decide) (by decide) g1)) E.int (by decide) (by rw [List.length_map]; show _ * 2 ≤ _; lia))) (EA.cons ?_ EA.nil (by intro _; rfl)) (by intro _; rfl)) (by intro _; rfl)
  ·walk_at "ev"
  walk_at "ev"
 refine E.cast (dbl _) (E.mull (EL.of ?_) E.int (by decide) (by rw [List.length_map]; show _ * 2 ≤ _; lia))
 refine E.compIf (its := e) (cv := fun n => [.str n]) (f := PV.str) (xs := ["name"]) (l := [("begins", nmP b)]) G ?_ ?_ (.name _ _) (by decide) (fun _ => rfl) (I.listA (c := PV.str) ?_) (by lia) (fun cenv G' n hn => ?_) fun cenv G' n hn hh => ?_
 ·walk_at "cok"
 ·walk_at "caps"
 ·walk_at "ev"
 ·rw [← qp9]
  refine B.notinl .str ?_ (EL.of ?_) trivial (hty b) (by decide) (by rfl)
  ·walk_at "ev"
  walk_at "ev"
 walk_at "ev"
theorem z92 {Γ : Cx} {P : Params} (Q : LG Γ P) (kf : List Addr) {τ : Nat} {env : Env} (G : EnvS env scL) (d0 d1 d2 d3 : Int) (signs : List Nat) (hs : signs.length = 2) (names : List (List Nat)) (rows : List (List (List Nat) × Int)) (b e : List (List Nat)) (w : Int) (rest : List (List (List Nat)))
  (hb : b.length ≤ 1000) (he : e.length ≤ 1000) (hbl : ∀ n ∈ b, n.length ≤ 10) (hn : ∀ n ∈ names, n.length ≤ 10) (hnl : names.length ≤ 1000) (hlen : rows.length = (b :: e :: longR (bothR b e) w :: rest).length) (hm : rows.length ≤ 10)
  (hrows : ∀ p ∈ rows, p.1.length ≤ 5 ∧ -1 ≤ p.2 ∧ p.2 ≤ 100 ∧ ∀ s ∈ p.1, s.length ≤ 100)
  (hL : ∀ r row star due, rows[r]? = some (row, star) → (b :: e :: longR (bothR b e) w :: rest)[r]? = some due → RowOK signs row (bitF d2 r) star names due) :
  X (Γ.on kf) τ 7 env lns ⟨[("drawn", .pv (.list [.int d0, .int d1, .int d2, .int d3])), ("signs", .pv (chs signs)), ("names", .pv (nmP names)), ("rows", .pv (.list (rows.map tupP))), ("due", .pv (nmsP (b :: e :: longR (bothR b e) w :: rest))), ("begins", .pv (nmP b)), ("ends", .pv (nmP e)), ("both", .pv (nmP (bothR b e))), ("wide", .pv (.int w))], []⟩
   ((bd pB[21]?).drop 14) fun af _ => af = .rt (.bool true) := by
 have KX := Q.KX
 have T3 := z91 Q kf (τ := τ) G b e w rest hb he hbl
 generalize hdue : (b :: e :: longR (bothR b e) w :: rest) = dueL at *
 generalize hbo : bothR b e = bo at *
 clear hbo
 apply X.own 1 (xs := [])
 ·decide
 ·rfl
 ·walk_at "keep"
 ·rfl
 ·rfl
 ·exact EF.list EA.nil (by decide)
 have bln : BN (Γ.on kf) env _ (Str.ofString "len") (.builtin "len") := ⟨G, by rfl, Q.gl, by rfl, by decide, by decide⟩
 have brg : BN (Γ.on kf) env _ (Str.ofString "range") (.type "range") := ⟨G, by rfl, Q.gr, by rfl, by decide, by decide⟩
 refine X.forM (ι := List PV) (its := (List.range rows.length).map fun v : Nat => [PV.int (v : Int)]) (xs := ["r"]) (fun c => ⟨[("drawn", .pv (.list [.int d0, .int d1, .int d2, .int d3])), ("signs", .pv (chs signs)), ("names", .pv (nmP names)), ("rows", .pv (.list (rows.map tupP))), ("due", .pv (nmsP dueL)), ("begins", .pv (nmP b)), ("ends", .pv (nmP e)), ("both", .pv (nmP bo)), ("wide", .pv (.int w)), ("taken", .ptr 1)], [(1, c)]⟩)
  (fun q c => c = (dueL.take q).map nmP) (.name _ _) (by decide) (by decide) (I.rngN (by lia) (E.range1 brg (E.cast (b := .int ((rows.map tupP).length : Int)) (by rw [List.length_map]) (E.len_list bln (EL.of ?_) (by rw [List.length_map]; lia) (by intro _; rfl))) (by intro _; rfl))) ?_ ?_ [] ?_ rfl (fun q x c hx hc => ?_) (fun c hc => ?_) ?_
 ·walk_at "ev"
 ·intro x hx
  obtain ⟨v, _, rfl⟩ := List.mem_map.mp hx
  rfl
 ·intro c p hp
  simp only [List.mem_cons, List.not_mem_nil, or_false] at hp
  rcases hp with rfl | rfl | rfl | rfl | rfl | rfl | rfl | rfl | rfl | rfl <;> simp
 ·walk_at "has"
 ·rw [List.getElem?_map] at hx
  obtain ⟨v, hv, rfl⟩ := Option.map_eq_some_iff.mp hx
  have hvq : v = q ∧ q < rows.length := by
   have h1 := (List.getElem?_eq_some_iff.mp hv).1
   rw [List.getElem?_range (by simpa using h1)] at hv
   exact ⟨(Option.some.inj hv).symm, by simpa using h1⟩
  obtain ⟨rfl, hq⟩ := hvq
  dsimp only [List.zip, List.zipWith, List.map, List.cons_append, List.nil_append]
  obtain ⟨⟨row, star⟩, hrg⟩ : ∃ p, rows[v]? = some p := ⟨_, List.getElem?_eq_getElem hq⟩
  obtain ⟨due, hdg⟩ : ∃ p, dueL[v]? = some p := ⟨_, List.getElem?_eq_getElem (hlen ▸ hq)⟩
  obtain ⟨kk, parts, txt, k2, items, st, t1, t2, t3, t4, t5, t6, t7, t8, t9, t10, t11⟩ := hL v row star due hrg hdg
  obtain ⟨hr5, hs0, hs1, hset⟩ := hrows _ (List.mem_of_getElem? hrg)
  dsimp only at hr5 hs0 hs1 hset
  have hrp : (rows.map tupP)[((v : Nat) : Int).toNat]? = some (.tup [rowP row, .int star]) := by rw [Int.toNat_natCast, List.getElem?_map, hrg]; rfl
  apply X.unp (xs := ["row", "star"]) (its := [rowP row, .int star]) (.tup ["row", "star"] [_, _] _ _ rfl) (by decide)
  ·decide
  ·walk_at "keep"
  ·refine E.iteml (i := (v : Int)) (EL.of (xs := rows.map tupP) ?_) ?_ (by lia) (by lia) hrp
   ·walk_at "ev"
   walk_at "ev"
  ·rfl
  ·intro _; rfl
  dsimp only [List.zip, List.zipWith, List.map, List.cons_append, List.nil_append]
  apply X.asg (r := .pv (.list ((q11 star).map .str)))
  ·decide
  ·rfl
  ·walk_at "keep"
  ·unfold q11
   refine E.ife (b := decide (0 ≤ star)) ?_ (fun h => ?_) (fun h => ?_)
   ·walk_at "tst"
   ·rw [if_pos (of_decide_eq_true h)]
    exact E.list (EA.cons E.str EA.nil (by intro _; rfl)) (by decide)
   rw [if_neg (of_decide_eq_false h)]
   exact E.list EA.nil (by decide)
  have hpw : ((10 : Int) ^ ((v : Int) + 1).toNat) = 10 ^ (v + 1) := by rw [show ((v : Int) + 1).toNat = v + 1 by lia]
  have hp : (10 : Int) ^ ((v : Int) + 1).toNat ≠ 0 := Int.pow_ne_zero (by decide)
  have hp2 : ((10 : Int) ^ ((v : Int) + 1).toNat).natAbs < 2 ^ 200 := by
   have h8 : ((v : Int) + 1).toNat ≤ 15 := by lia
   rw [Int.natAbs_pow]
   exact Nat.lt_of_le_of_lt (Nat.pow_le_pow_right (by decide) h8) (by decide)
  apply X.asg (r := .pv (.int (d2.fdiv (10 ^ (v + 1)))))
  ·decide
  ·rfl
  ·walk_at "keep"
  ·rw [← hpw]
   refine E.fdiv (E.iteml (xs := [.int d0, .int d1, .int d2, .int d3]) (i := 2) (EL.of ?_) ?_ (by decide) (by decide) (by rfl)) (E.pow E.int (E.add ?_ E.int) (by lia) (by lia) (by decide)) hp hp2
   ·walk_at "ev"
   ·walk_at "ev"
   walk_at "ev"
  apply X.comp (its := List.range row.length) (cv := fun k : Nat => [.int (k : Int)]) (f := fun k => .str (q13 signs (row.getD k []) (bitF d2 v k))) (xs := ["k"]) (l := [("row", rowP row), ("signs", chs signs), ("figure", .int (d2.fdiv (10 ^ (v + 1))))]) G
  ·decide
  ·walk_at "keep"
  ·walk_at "cok"
  ·walk_at "caps"
  ·exact .name _ _
  ·decide
  ·intro _; rfl
  ·refine I.rngN (by lia) (E.range1 brg (E.cast (b := .int ((row.map chs).length : Int)) (by rw [List.length_map]) (E.len_list bln (EL.of ?_) (by rw [List.length_map]; lia) (by intro _; rfl))) (by intro _; rfl))
   walk_at "ev"
  ·rw [List.length_range]; lia
  ·intro cenv G' k hk
   have hk2 : k < row.length := List.mem_range.mp hk
   have D : DN (Γ.on kf) cenv _ (Str.ofString "_law_piece") 130 := ⟨G', by rfl, Q.gpi, by decide, fn_in KX (by rfl)⟩
   have hrk : (row.map chs)[((k : Nat) : Int).toNat]? = some (chs (row.getD k [])) := by
    rw [Int.toNat_natCast, List.getElem?_map, List.getD_eq_getElem?_getD, List.getElem?_eq_getElem hk2]; rfl
   have hml : (row.getD k []).length ≤ 100 := hset _ (by rw [List.getD_eq_getElem?_getD, List.getElem?_eq_getElem hk2]; exact List.getElem_mem _)
   refine E.call D (qr5 KX signs (row.getD k []) (bitF d2 v k) (by lia) hml Q.git Q.gn Q.gb Q.gli Q.gff Q.gc Q.gfi).on (EA.cons (E.iteml (i := (k : Int)) (EL.of (xs := row.map chs) ?_) ?_ (by lia) (by lia) hrk) (EA.cons ?_ (EA.cons (E.eqi (E.fmod (E.add ?_ ?_) E.int (by decide)) E.int (by rfl)) EA.nil (by intro _; rfl)) (by intro _; rfl)) (by intro _; rfl)) (by intro _; rfl)
   ·walk_at "ev"
   ·walk_at "ev"
   ·walk_at "ev"
   ·walk_at "ev"
   walk_at "ev"
  ·rfl
  have hpe : ((List.range row.length).map fun k => PV.str (q13 signs (row.getD k []) (bitF d2 v k))) = (q05 signs row (bitF d2 v)).map .str := by unfold q05; rw [List.map_map]; rfl
  rw [hpe]
  have hpl : ((q05 signs row (bitF d2 v)).map PV.str).length ≤ 5 := by rw [List.length_map]; unfold q05; rw [List.length_map, List.length_range]; exact hr5
  have D : DN (Γ.on kf) env _ (Str.ofString "translate") 87 := ⟨G, by rfl, Q.gtl, by decide, fn_in KX (by rfl)⟩
  have F := (qd2 KX 3 (patOf signs row (bitF d2 v) star) kk parts txt (by have := z54 signs row (bitF d2 v) star (by lia) hr5; lia) t1 t2 t3 Q.gi Q.gs Q.gm Q.gl Q.gr Q.go Q.ge Q.gt Q.gtr Q.gj Q.hT Q.ba).on (k := kf)
  have hst1 : ((q11 star).map PV.str).length ≤ 1 := by unfold q11; split <;> decide
  apply X.asg (r := .pv (.str txt))
  ·decide
  ·rfl
  ·walk_at "keep"
  ·refine E.call D F (EA.cons ?_ EA.nil (by intro _; rfl)) (by intro _; rfl)
   unfold patOf
   have hsum := qv5 signs row (bitF d2 v) star (by lia) hr5
   have h1 := q25 none (some star) ((q05 signs row (bitF d2 v)).map PV.str)
   have h2 := q25 (some star) none ((q05 signs row (bitF d2 v)).map PV.str)
   refine E.join (ts := cut none (some star) (q05 signs row (bitF d2 v)) ++ q11 star ++ cut (some star) none (q05 signs row (bitF d2 v))) (sep := []) E.str (EL.of ?_) (by simp only [List.length_nil, Nat.mul_zero]; lia) (by rfl) (by rfl) (by intro _; rfl)
   rw [List.map_append, List.map_append, ← q59, ← q59]
   refine E.addl (EL.of (E.addl (EL.of (E.cutl (EL.of ?_) EP.no (EP.yes ?_) (by lia))) (EL.of ?_) ?_)) (EL.of (E.cutl (EL.of ?_) (EP.yes ?_) EP.no (by lia))) ?_
   ·walk_at "ev"
   ·walk_at "ev"
   ·walk_at "ev"
   ·lia
   ·walk_at "ev"
   ·walk_at "ev"
   rw [List.length_append]
   lia
  refine X.ite (b := false) ?_ (fun h => by cases h) (fun _ => ?_)
  ·have e : (((cut none (some 4) txt ++ cut (some (-3)) none txt) != cs "(?s:)\\Z") || ((cnt txt (cs ".*") != (((q11 star).map PV.str).length : Int)) || false)) = false := by
    rw [t5, List.length_map, show cs ".*" = [46, 42] from rfl, t6]
    simp
    rfl
   rw [← e]
   have htl2 : txt.length ≤ 2 ^ 24 := by lia
   have h1 := q25 none (some 4) txt
   have h2 := q25 (some (-3)) none txt
   refine B.or (B.nes (E.adds (E.cuts ?_ EP.no (EP.yes E.int) htl2) (E.cuts ?_ (EP.yes ?_) EP.no htl2) (by lia)) E.str (by rfl)) fun _ => B.or (B.nei (E.count ?_ E.str (by rfl) (by rfl) (by intro _; rfl)) (E.len_list bln (EL.of ?_) (by lia) (by intro _; rfl)) (by rfl)) fun _ => B.or0
   ·walk_at "ev"
   ·walk_at "ev"
   ·walk_at "ev"
   ·walk_at "ev"
   walk_at "ev"
  refine X.end ?_
  have DT : DN (Γ.on kf) env _ (Str.ofString "_law_taken") 140 := ⟨G, by rfl, Q.gta, by decide, fn_in KX (by rfl)⟩
  have FT := (qq5 KX txt signs names items st k2 t4 (by lia) t7 t8 ⟨t9, t10⟩ hn hnl Q.gl Q.gzip Q.gread).on (k := kf)
  have hcl : c.length ≤ 10 := by rw [hc, List.length_map, List.length_take]; lia
  apply X.app (v := nmP due) G
  ·decide
  ·rfl
  ·intro _; rfl
  ·decide
  ·walk_at "mem"
  ·walk_at "mem"
  ·walk_at "keepo"
  ·rw [← t11]
   refine E.call DT FT ?_ (by intro _; rfl)
   walk_at "evs"
  ·lia
  refine X.endL ⟨c ++ [nmP due], ?_, ?_⟩
  ·rw [hc, List.take_add_one, hdg, List.map_append]; rfl
  walk_at "has"
 ·have hcd : c = dueL.map nmP := by
   rw [hc]
   congr 1
   refine List.take_of_length_le ?_
   rw [List.length_map, List.length_range]; lia
  subst hcd
  clear hc
  apply X.freeze (k := 1)
  ·walk_at "mem"
  ·walk_at "frz"
  ·walk_at "keepo"
  refine X.has ?_ T3
  walk_at "has"
 intro _; rfl
theorem qu6 (hd tl : List (List Nat)) (h q : Nat) : (rowsQ hd tl h (q + 1)).map tupP = (rowsQ hd tl h q).map tupP ++ [tupP (lapR hd tl h (q + 1), -1)] := by
 unfold rowsQ
 rw [List.range_succ, List.map_append, List.map_append, List.map_append, List.map_append, List.append_assoc]; rfl
theorem z28 (b e : List (List Nat)) (w q : Nat) : (dueQ b e w (q + 1)).map nmP = (dueQ b e w q).map nmP ++ [nmP (lenR (bothR b e) ((w : Int) - ((q + 1 : Nat) : Int)))] := by
 unfold dueQ
 rw [List.range_succ, List.map_append, List.map_append, List.map_append, List.map_append, List.append_assoc]; rfl
theorem qo4 (hd tl : List (List Nat)) (h t q : Nat) (hh : hd.length = h) (ht : tl.length = t) (hht : h + t ≤ 4) (hset : ∀ s ∈ hd ++ tl, s.length ≤ 100) (hq : q ≤ min h t) :
  (rowsQ hd tl h q).length = q + 3 ∧ ∀ p ∈ rowsQ hd tl h q, p.1.length ≤ 5 ∧ -1 ≤ p.2 ∧ p.2 ≤ 100 ∧ ∀ s ∈ p.1, s.length ≤ 100 := by
 have h4 : h ≤ 4 := Nat.le_trans (Nat.le_add_right h t) hht
 have e5 : hd.length ≤ 5 := hh.symm ▸ Nat.le_succ_of_le h4
 have f5 : tl.length ≤ 5 := ht.symm ▸ Nat.le_succ_of_le (Nat.le_trans (Nat.le_add_left t h) hht)
 have z0 : (-1 : Int) ≤ (h : Int) := Int.le_trans (by decide) (Int.natCast_nonneg h)
 have z1 : (h : Int) ≤ 100 := Int.ofNat_le.mpr (Nat.le_trans h4 (by decide))
 refine ⟨by unfold rowsQ; rw [List.length_append, List.length_map, List.length_range]; exact Nat.add_comm 3 q, fun p hp => ?_⟩
 unfold rowsQ at hp
 rcases List.mem_append.mp hp with hp | hp
 ·simp only [List.mem_cons, List.not_mem_nil, or_false] at hp
  rcases hp with rfl | rfl | rfl
  ·exact ⟨e5, z0, z1, fun s m => hset s (List.mem_append_left _ m)⟩
  ·exact ⟨f5, (by decide : (-1 : Int) ≤ 0), (by decide : (0 : Int) ≤ 100), fun s m => hset s (List.mem_append_right _ m)⟩
  exact ⟨by rw [List.length_append, hh, ht]; exact Nat.le_succ_of_le hht, z0, z1, hset⟩
 obtain ⟨l, hl, rfl⟩ := List.mem_map.mp hp
 have hl2 := List.mem_range.mp hl
 have l1 : l + 1 ≤ h := Nat.le_trans hl2 (Nat.le_trans hq (Nat.min_le_left ..))
 have l2 : l + 1 ≤ t := Nat.le_trans hl2 (Nat.le_trans hq (Nat.min_le_right ..))
 refine ⟨?_, Int.le_refl _, (by decide : (-1 : Int) ≤ 100), fun s m => ?_⟩
 ·dsimp only
  unfold lapR
  rw [List.length_append, List.length_append, List.length_map, List.length_range, List.length_take, List.length_drop, hh, ht]
  exact lap5 l1 l2 hht
 unfold lapR at m
 rcases List.mem_append.mp m with m | m
 ·rcases List.mem_append.mp m with m | m
  ·exact hset s (List.mem_append_left _ (List.mem_of_mem_take m))
  obtain ⟨k, hk, rfl⟩ := List.mem_map.mp m
  have hk2 := List.mem_range.mp hk
  refine Nat.le_trans (List.length_filter_le ..) (hset _ (List.mem_append_left _ ?_))
  exact qp0 (hh.symm ▸ ixL l1 hk2)
 exact hset s (List.mem_append_right _ (List.mem_of_mem_drop m))
theorem z93 {Γ : Cx} {P : Params} (Q : LG Γ P) (kf : List Addr) {τ : Nat} {env : Env} (G : EnvS env scL) (d0 d1 d2 d3 : Int) (signs : List Nat) (hs : signs.length = 2) (names hd tl : List (List Nat)) (h t : Nat) (b e : List (List Nat))
  (hh : hd.length = h) (ht : tl.length = t) (hht : h + t ≤ 4) (hset : ∀ s ∈ hd ++ tl, s.length ≤ 100)
  (hb : b.length ≤ 1000) (he : e.length ≤ 1000) (hbl : ∀ n ∈ b, n.length ≤ 10) (hn : ∀ n ∈ names, n.length ≤ 10) (hnl : names.length ≤ 1000)
  (hL : ∀ r row star due, (rowsQ hd tl h (min h t))[r]? = some (row, star) → (dueQ b e (h + t) (min h t))[r]? = some due → RowOK signs row (bitF d2 r) star names due) :
  X (Γ.on kf) τ 7 env lns ⟨[("drawn", .pv (.list [.int d0, .int d1, .int d2, .int d3])), ("signs", .pv (chs signs)), ("sizes", .pv (.tup [.int (h : Int), .int (t : Int)])), ("wide", .pv (.int ((h + t : Nat) : Int))), ("head", .pv (rowP hd)), ("tail", .pv (rowP tl)), ("names", .pv (nmP names)), ("begins", .pv (nmP b)), ("ends", .pv (nmP e)), ("both", .pv (nmP (bothR b e)))], []⟩
   ((bd pB[21]?).drop 11) fun af _ => af = .rt (.bool true) := by
 have KX := Q.KX
 have hbol : (bothR b e).length ≤ 1000 := Nat.le_trans (List.length_filter_le ..) hb
 have hbon : ∀ n ∈ bothR b e, n.length < 2 ^ 60 := fun n m => n60 (Nat.le_trans (hbl n (List.mem_filter.mp m).1) (by decide))
 have h4 : h ≤ 4 := Nat.le_trans (Nat.le_add_right h t) hht
 have t4 : t ≤ 4 := Nat.le_trans (Nat.le_add_left t h) hht
 have bz : (bothR b e).length ≤ 2 ^ 24 := n24 (Nat.le_trans hbol (by decide))
 have RF := qo4 hd tl h t _ hh ht hht hset (Nat.le_refl _)
 have hcx : (rowsQ hd tl h (min h t)).length = (b :: e :: longR (bothR b e) ((h + t : Nat) : Int) :: (List.range (min h t)).map fun l => lenR (bothR b e) (((h + t : Nat) : Int) - ((l + 1 : Nat) : Int))).length := by
  rw [RF.1, List.length_cons, List.length_cons, List.length_cons, List.length_map, List.length_range]
 have T2 := z92 Q kf (τ := τ) G d0 d1 d2 d3 signs hs names (rowsQ hd tl h (min h t)) b e ((h + t : Nat) : Int) ((List.range (min h t)).map fun l => lenR (bothR b e) (((h + t : Nat) : Int) - ((l + 1 : Nat) : Int))) hb he hbl hn hnl hcx (by rw [RF.1]; exact Nat.add_le_add (Nat.le_trans (Nat.min_le_left h t) h4) (by decide : 3 ≤ 6)) RF.2 hL
 have sz0 : ([.int (h : Int), .int (t : Int)] : List PV)[(0 : Int).toNat]? = some (.int (h : Int)) := rfl
 apply X.own 0 (xs := (rowsQ hd tl h 0).map tupP)
 ·decide
 ·rfl
 ·walk_at "keep"
 ·rfl
 ·rfl
 ·show EF _ _ _ _ _ [.tup [rowP hd, .int h], .tup [rowP tl, .int 0], .tup [rowP (hd ++ tl), .int h]]
  refine EF.list (EA.cons (E.tup (EA.cons ?_ (EA.cons (E.itemt (i := 0) ?_ E.int (by decide) (by decide) sz0) EA.nil (by intro _; rfl)) (by intro _; rfl)) (by show 2 ≤ 2 ^ 24; decide)) (EA.cons (E.tup (EA.cons ?_ (EA.cons E.int EA.nil (by intro _; rfl)) (by intro _; rfl)) (by show 2 ≤ 2 ^ 24; decide)) (EA.cons (E.tup (EA.cons ?_ (EA.cons (E.itemt (i := 0) ?_ E.int (by decide) (by decide) sz0) EA.nil (by intro _; rfl)) (by intro _; rfl)) (by show 2 ≤ 2 ^ 24; decide)) EA.nil (by intro _; rfl)) (by intro _; rfl)) (by intro _; rfl)) (by show 3 ≤ 2 ^ 24; decide)
  ·walk_at "ev"
  ·walk_at "ev"
  ·walk_at "ev"
  ·refine E.cast (b := .list (hd.map chs ++ tl.map chs)) (by show _ = PV.list _; rw [List.map_append]) (E.addl (EL.of ?_) (EL.of ?_) (by rw [List.length_map, List.length_map, hh, ht]; exact Nat.le_trans hht (by decide)))
   ·walk_at "ev"
   walk_at "ev"
  walk_at "ev"
 have bln : ∀ {cenv cs}, EnvS cenv cs → cs.names.lookup (Str.ofString "len") = some .globalImplicit → BN (Γ.on kf) cenv cs (Str.ofString "len") (.builtin "len") := fun G h => ⟨G, h, Q.gl, by rfl, by decide, by decide⟩
 apply X.own 1 (xs := (dueQ b e (h + t) 0).map nmP)
 ·decide
 ·rfl
 ·walk_at "keep"
 ·rfl
 ·rfl
 ·show EF _ _ _ _ _ [nmP b, nmP e, nmP (longR (bothR b e) ((h + t : Nat) : Int))]
  refine EF.list (EA.cons ?_ (EA.cons ?_ (EA.cons ?_ EA.nil (by intro _; rfl)) (by intro _; rfl)) (by intro _; rfl)) (by show 3 ≤ 2 ^ 24; decide)
  ·walk_at "ev"
  ·walk_at "ev"
  refine E.compIf (its := bothR b e) (cv := fun n => [.str n]) (f := PV.str) (xs := ["name"]) (l := [("wide", .int ((h + t : Nat) : Int))]) G ?_ ?_ (.name _ _) (by decide) (fun _ => rfl) (I.listA (c := PV.str) ?_) bz (fun cenv G' n hn => ?_) fun cenv G' n hn hh => ?_
  ·walk_at "cok"
  ·walk_at "caps"
  ·walk_at "ev"
  ·refine B.gei (E.len_str (bln G' (by rfl)) ?_ (hbon n hn) (by intro _; rfl)) ?_ (by rfl)
   ·walk_at "ev"
   walk_at "ev"
  walk_at "ev"
 have brg : ∀ {cenv cs}, EnvS cenv cs → cs.names.lookup (Str.ofString "range") = some .globalImplicit → BN (Γ.on kf) cenv cs (Str.ofString "range") (.type "range") := fun G h => ⟨G, h, Q.gr, by rfl, by decide, by decide⟩
 have bmn : BN (Γ.on kf) env _ (Str.ofString "min") (.builtin "min") := ⟨G, by rfl, Q.gmin, by rfl, by decide, by decide⟩
 refine X.forM (ι := List PV × List PV) (its := (List.range (min h t)).map fun v : Nat => [PV.int ((v + 1 : Nat) : Int)]) (xs := ["lap"]) (fun c => ⟨[("drawn", .pv (.list [.int d0, .int d1, .int d2, .int d3])), ("signs", .pv (chs signs)), ("sizes", .pv (.tup [.int (h : Int), .int (t : Int)])), ("wide", .pv (.int ((h + t : Nat) : Int))), ("head", .pv (rowP hd)), ("tail", .pv (rowP tl)), ("names", .pv (nmP names)), ("begins", .pv (nmP b)), ("ends", .pv (nmP e)), ("both", .pv (nmP (bothR b e))), ("rows", .ptr 0), ("due", .ptr 1)], [(0, c.1), (1, c.2)]⟩)
  (fun q c => c = ((rowsQ hd tl h q).map tupP, (dueQ b e (h + t) q).map nmP)) (.name _ _) (by decide) (by decide) (I.rng1N (n20 (Nat.le_trans (Nat.min_le_left h t) (Nat.le_trans h4 (by decide)))) (E.range2 (brg G (by rfl)) E.int (E.add (E.cast (b := .int (min (h : Int) (t : Int))) (by congr 1; exact minC h t) (E.min2 bmn ?_ (by intro _; rfl))) E.int) (by intro _; rfl) (by intro _; rfl))) ?_ ?_ ((rowsQ hd tl h 0).map tupP, (dueQ b e (h + t) 0).map nmP) ?_ rfl (fun q x c hx hc => ?_) (fun c hc => ?_) ?_
 ·walk_at "ev"
 ·intro x hx
  obtain ⟨v, _, rfl⟩ := List.mem_map.mp hx
  rfl
 ·intro c p hp
  simp only [List.mem_cons, List.not_mem_nil, or_false] at hp
  rcases hp with rfl | rfl | rfl | rfl | rfl | rfl | rfl | rfl | rfl | rfl | rfl | rfl <;> simp
 ·walk_at "has"
 ·rw [List.getElem?_map] at hx
  obtain ⟨v, hv, rfl⟩ := Option.map_eq_some_iff.mp hx
  have hvq : v = q ∧ q < min h t := by
   have h1 := (List.getElem?_eq_some_iff.mp hv).1
   rw [List.getElem?_range (by simpa using h1)] at hv
   exact ⟨(Option.some.inj hv).symm, by simpa using h1⟩
  obtain ⟨rfl, hq⟩ := hvq
  subst hc
  dsimp only [List.zip, List.zipWith, List.map, List.cons_append, List.nil_append]
  have v1 : v + 1 ≤ h := Nat.le_trans hq (Nat.min_le_left ..)
  have v2 : v + 1 ≤ t := Nat.le_trans hq (Nat.min_le_right ..)
  have v4 : v + 1 ≤ 4 := Nat.le_trans v1 h4
  have hm : ∀ l : List (List Nat), l.length ≤ 4 → (l.map chs).length ≤ 2 ^ 24 := fun l h => by rw [List.length_map]; exact Nat.le_trans h (by decide)
  have hd4 : hd.length ≤ 4 := hh.symm ▸ h4
  have tl4 : tl.length ≤ 4 := ht.symm ▸ t4
  apply X.asg (r := .pv (.int ((h - (v + 1) : Nat) : Int)))
  ·decide
  ·rfl
  ·walk_at "keep"
  ·refine E.subE (a := (h : Int)) (b := ((v + 1 : Nat) : Int)) (E.itemt (i := 0) ?_ E.int (by decide) (by decide) sz0) ?_ (subI v1)
   ·walk_at "ev"
   walk_at "ev"
  have hgd : ∀ (l : List (List Nat)) (k : Nat), k < l.length → (l.map chs)[((k : Nat) : Int).toNat]? = some (chs (l.getD k [])) := fun l k hk => by
   rw [Int.toNat_natCast, List.getElem?_map, List.getD_eq_getElem?_getD, List.getElem?_eq_getElem hk]; rfl
  apply X.comp (its := List.range (v + 1)) (cv := fun k : Nat => [.int (k : Int)]) (f := fun k => chs (meetR (hd.getD (h - (v + 1) + k) []) (tl.getD k []))) (xs := ["k"]) (l := [("head", rowP hd), ("start", .int ((h - (v + 1) : Nat) : Int)), ("tail", rowP tl)]) G
  ·decide
  ·walk_at "keep"
  ·walk_at "cok"
  ·walk_at "caps"
  ·exact .name _ _
  ·decide
  ·intro _; rfl
  ·refine I.rngN (Nat.le_trans v4 (by decide)) (E.range1 (brg G (by rfl)) ?_ (by intro _; rfl))
   walk_at "ev"
  ·rw [List.length_range]; exact Nat.le_trans v4 (by decide)
  ·intro cenv G' k hk
   have hk2 : k < v + 1 := List.mem_range.mp hk
   have D : DN (Γ.on kf) cenv _ (Str.ofString "_filter") 75 := ⟨G', by rfl, Q.gfi, by decide, fn_in KX (by rfl)⟩
   have F : ∀ xs ys : List Nat, xs.length ≤ 2 ^ 24 → FSpec (Γ.on kf) 7 75 [chs xs, chs ys] (chs (outOf xs ys)) := fun xs ys hx => by
    have := (FSpec.up (qc5 KX Q.git Q.gn Q.gb Q.gli Q.gff (xs.map fun c => [c]) (ys.map fun c => [c]) (by rw [List.length_map]; exact hx))).on (k := kf)
    rw [qj3, ← q92, ← q92, ← q92] at this
    exact this
   have hx : (hd.map chs)[((h - (v + 1) + k : Nat) : Int).toNat]? = some (chs (hd.getD (h - (v + 1) + k) [])) := hgd hd _ (hh.symm ▸ ixL v1 hk2)
   have hy := hgd tl k (ht.symm ▸ Nat.lt_of_lt_of_le hk2 v2)
   have hxl : (hd.getD (h - (v + 1) + k) []).length ≤ 2 ^ 24 := by
    exact n24 (Nat.le_trans (hset _ (List.mem_append_left _ (qp0 (hh.symm ▸ ixL v1 hk2)))) (by decide))
   have ix0 := Int.natCast_nonneg (h - (v + 1) + k)
   have ix1 : ((h - (v + 1) + k : Nat) : Int) ≤ 2 ^ 60 := i60 (Nat.le_trans (Nat.le_of_lt (ixL v1 hk2)) (Nat.le_trans h4 (by decide)))
   refine E.call D (F _ _ hxl) (EA.cons (E.iteml (i := ((h - (v + 1) + k : Nat) : Int)) (EL.of ?_) (E.addE (a := ((h - (v + 1) : Nat) : Int)) (b := (k : Int)) ?_ ?_ rfl) ix0 ix1 hx) (EA.cons (E.call D (F _ _ hxl) (EA.cons (E.iteml (i := ((h - (v + 1) + k : Nat) : Int)) (EL.of ?_) (E.addE (a := ((h - (v + 1) : Nat) : Int)) (b := (k : Int)) ?_ ?_ rfl) ix0 ix1 hx) (EA.cons (E.iteml (i := (k : Int)) (EL.of ?_) ?_ (Int.natCast_nonneg k) (i60 (Nat.le_trans (Nat.le_of_lt hk2) (Nat.le_trans v4 (by decide)))) hy) EA.nil (by intro _; rfl)) (by intro _; rfl)) (by intro _; rfl)) EA.nil (by intro _; rfl)) (by intro _; rfl)) (by intro _; rfl)
   all_goals walk_at "ev"
  ·rfl
  have hr := qo4 hd tl h t v hh ht hht hset (Nat.le_of_lt hq)
  apply X.app (v := tupP (lapR hd tl h (v + 1), -1)) G
  ·decide
  ·rfl
  ·intro _; rfl
  ·decide
  ·walk_at "mem"
  ·walk_at "mem"
  ·walk_at "keepo"
  ·refine E.tup (EA.cons (E.cast (b := .list (cut none (some ((h - (v + 1) : Nat) : Int)) (hd.map chs) ++ ((List.range (v + 1)).map fun k => chs (meetR (hd.getD (h - (v + 1) + k) []) (tl.getD k []))) ++ cut (some ((v + 1 : Nat) : Int)) none (tl.map chs))) ?_ (E.addl (EL.of (E.addl (EL.of (E.cutl (EL.of ?_) EP.no (EP.yes ?_) ?_)) (EL.of ?_) ?_)) (EL.of (E.cutl (EL.of ?_) (EP.yes ?_) EP.no ?_)) ?_)) (EA.cons (E.neg E.int) EA.nil (by intro _; rfl)) (by intro _; rfl)) (by show 2 ≤ 2 ^ 24; decide)
   ·unfold lapR rowP
    rw [q59, q59, qg5, q29, List.map_append, List.map_append, List.map_map]; rfl
   ·walk_at "ev"
   ·walk_at "ev"
   ·exact hm _ hd4
   ·walk_at "ev"
   ·rw [List.length_map, List.length_range]
    exact n24 (Nat.le_trans (Nat.add_le_add (Nat.le_trans (q25 ..) (by rw [List.length_map]; exact hd4)) v4) (by decide))
   ·walk_at "ev"
   ·walk_at "ev"
   ·exact hm _ tl4
   rw [List.length_append, List.length_map, List.length_range]
   exact n24 (Nat.le_trans (Nat.add_le_add (Nat.add_le_add (Nat.le_trans (q25 ..) (by rw [List.length_map]; exact hd4)) v4) (Nat.le_trans (q25 ..) (by rw [List.length_map]; exact tl4))) (by decide))
  ·rw [List.length_map, hr.1]; exact Nat.le_trans (Nat.add_le_add_right (Nat.le_of_succ_le v4) 3) (by decide)
  apply X.app (v := nmP (lenR (bothR b e) (((h + t : Nat) : Int) - ((v + 1 : Nat) : Int)))) G
  ·decide
  ·rfl
  ·intro _; rfl
  ·decide
  ·walk_at "mem"
  ·walk_at "mem"
  ·walk_at "keepo"
  ·refine E.compIf (its := bothR b e) (cv := fun n => [.str n]) (f := PV.str) (xs := ["name"]) (l := [("wide", .int ((h + t : Nat) : Int)), ("lap", .int ((v + 1 : Nat) : Int))]) G ?_ ?_ (.name _ _) (by decide) (fun _ => rfl) (I.listA (c := PV.str) ?_) bz (fun cenv G' n hn => ?_) fun cenv G' n hn hh => ?_
   ·walk_at "cok"
   ·walk_at "caps"
   ·walk_at "ev"
   ·refine B.eqi (E.len_str (bln G' (by rfl)) ?_ (hbon n hn) (by intro _; rfl)) (E.sub ?_ ?_) (by rfl)
    ·walk_at "ev"
    ·walk_at "ev"
    walk_at "ev"
   walk_at "ev"
  ·unfold dueQ; rw [List.length_map, List.length_append, List.length_map, List.length_range]; exact Nat.le_trans (Nat.add_le_add_left (Nat.le_of_succ_le v4) 3) (by decide)
  refine X.endL ⟨(_, _), by rw [qu6, z28], ?_⟩
  walk_at "has"
 ·have hm : ((List.range (min h t)).map fun v : Nat => [PV.int ((v + 1 : Nat) : Int)]).length = min h t := by rw [List.length_map, List.length_range]
  rw [hm] at hc
  subst hc
  apply X.freeze (k := 0)
  ·walk_at "mem"
  ·walk_at "frz"
  ·walk_at "keepo"
  apply X.freeze (k := 1)
  ·walk_at "mem"
  ·walk_at "frz"
  ·walk_at "keepo"
  refine X.has ?_ T2
  walk_at "has"
 intro _; rfl
theorem z71 {signs : List Nat} (h : signs.length = 2) (l : List (List Nat)) : (l.flatMap fun a => signs.map fun b => a ++ [b]).length = 2 * l.length := by
 induction l with
 | nil => rfl
 | cons a l ih => rw [List.flatMap_cons, List.length_append, List.length_map, ih, h, List.length_cons]; lia
theorem qi5 {signs : List Nat} (h : signs.length = 2) : ∀ q, (q02 signs q).length ≤ 3 ^ q
 | 0 => Nat.le_refl _
 | q + 1 => by
  show (q02 signs q ++ _).length ≤ _
  have h1 := qi5 h q
  have h2 := q25 (some (-((2 : Int) ^ q))) none (q02 signs q)
  rw [List.length_append, z71 h, Nat.pow_succ]
  lia
theorem q35 (signs : List Nat) : ∀ q, ∀ n ∈ q02 signs q, n.length ≤ q
 | 0, n, hn => by rw [List.mem_singleton.mp hn]; exact Nat.le_refl _
 | q + 1, n, hn => by
  rcases List.mem_append.mp hn with hn | hn
  ·exact Nat.le_succ_of_le (q35 signs q n hn)
  obtain ⟨a, ha, hn⟩ := List.mem_flatMap.mp hn
  obtain ⟨b, _, rfl⟩ := List.mem_map.mp hn
  rw [List.length_append]
  exact Nat.succ_le_succ (q35 signs q a (qc7 ha))
theorem q99 (d : Int) (count : Nat) (signs : List Nat) : (q18 d count signs).length = count := by
 unfold q18 rngL
 rw [List.length_map, List.length_map, List.length_range]; lia
theorem qe0 (d : Int) (count : Int) (signs : List Nat) : ∀ s ∈ q18 d count signs, s.length ≤ 100 := fun s hs => by
 obtain ⟨k, _, rfl⟩ := List.mem_map.mp hs
 unfold setOf
 rw [List.length_map]
 exact Nat.le_trans (z35 _).1 (by decide)
theorem z15 {Γ : Cx} {P : Params} (Q : LG Γ P) (script : List Int) (hz : script.length ≤ 2 ^ 10) (hlaw : ∀ d0 d1 d2 d3, LawOK d0 d1 d2 d3) : FSpec Γ 8 150 [.list (script.map .int)] (.bool true) := by
 have KX := Q.KX
 refine FSpec.introY KX (ps := ["script"]) (ns := lns) (v := [("script", .pv (.list (script.map .int)))]) (by rfl) (by rfl) (by rfl) ?_ ?_ (by rfl) ⟨rfl, rfl, rfl, rfl, rfl⟩ (by rfl) ?_
 ·walk_at "cok"
 ·intro Vs h
  obtain ⟨a, rfl⟩ := len1 h; rfl
 intro kf env G
 try dsimp only at G
 have hsl : (script.map PV.int).length ≤ 2 ^ 24 := by rw [List.length_map]; lia
 have bsum : ∀ {cenv cs}, EnvS cenv cs → cs.names.lookup (Str.ofString "sum") = some .globalImplicit → BN (Γ.on kf) cenv cs (Str.ofString "sum") (.builtin "sum") := fun G h => ⟨G, h, Q.gsum, by rfl, by decide, by decide⟩
 have ben : BN (Γ.on kf) env _ (Str.ofString "enumerate") (.type "enumerate") := ⟨G, by rfl, Q.gen, by rfl, by decide, by decide⟩
 apply X.comp (its := owns.zipIdx) (cv := fun p => [.int p.2, .int p.1]) (f := fun p => .int (qn2 script p)) (xs := ["place", "own"]) (l := [("script", .list (script.map .int))]) G
 ·decide
 ·walk_at "keep"
 ·walk_at "cok"
 ·walk_at "caps"
 ·exact .tup ["place", "own"] [_, _] _ _ rfl
 ·decide
 ·intro _; rfl
 ·rw [show (owns.zipIdx.map fun p => [PV.int p.2, PV.int p.1]) = ((owns.map PV.int).zipIdx.map fun p => [PV.int p.2, p.1]) from rfl]
  refine I.enum ben ?_ (by intro _; rfl)
  show E _ _ _ _ _ (.pv (.list [.int 246, .int 135, .int 10010, .int 0]))
  walk_at "ev"
 ·decide
 ·intro cenv G' p hp
  unfold qn2
  refine E.add ?_ (E.sum (bsum G' (by rfl)) ?_ (by intro _; rfl))
  ·walk_at "ev"
  rw [← z06]
  refine E.cutstep (EL.of ?_) (EP.yes ?_) EP.no E.int (by decide) hsl
  ·walk_at "ev"
  walk_at "ev"
 ·rfl
 obtain ⟨d0, d1, d2, d3, hd⟩ : ∃ d0 d1 d2 d3, (owns.zipIdx.map fun p => PV.int (qn2 script p)) = [.int d0, .int d1, .int d2, .int d3] := ⟨_, _, _, _, rfl⟩
 rw [hd]
 have L := hlaw d0 d1 d2 d3
 clear hd hlaw
 unfold LawOK at L
 have hs2 := qu2 d3
 have D1 : DN (Γ.on kf) env _ (Str.ofString "_law_signs") 118 := ⟨G, by rfl, Q.gsi, by decide, fn_in KX (by rfl)⟩
 apply X.asg (r := .pv (chs (q01 d3)))
 ·decide
 ·rfl
 ·walk_at "keep"
 ·refine E.call D1 (FSpec.up (qq9 KX d3 Q.gc)).on (EA.cons (E.iteml (xs := [.int d0, .int d1, .int d2, .int d3]) (i := 3) (EL.of ?_) ?_ (by decide) (by decide) (by rfl)) EA.nil (by intro _; rfl)) (by intro _; rfl)
  ·walk_at "ev"
  walk_at "ev"
 generalize q01 d3 = signs at *
 have z1 := q43 d2 (b := 10) (by decide)
 have z2 := q44 d2 (b := 10) (by decide)
 have hzg : (sizesL.map fun p => PV.tup [.int (p.1 : Int), .int (p.2 : Int)])[(d2.fmod 10).toNat]? = some (.tup [.int ((szOf d2).1 : Int), .int ((szOf d2).2 : Int)]) := by
  unfold szOf
  have : (d2.fmod 10).toNat < sizesL.length := by show _ < 10; lia
  rw [List.getElem?_map, List.getD_eq_getElem?_getD, List.getElem?_eq_getElem this]; rfl
 apply X.asg (r := .pv (.tup [.int ((szOf d2).1 : Int), .int ((szOf d2).2 : Int)]))
 ·decide
 ·rfl
 ·walk_at "keep"
 ·refine E.iteml (xs := sizesL.map fun p => PV.tup [.int (p.1 : Int), .int (p.2 : Int)]) (i := d2.fmod 10) (EL.of ?_) (E.fmod (E.iteml (xs := [.int d0, .int d1, .int d2, .int d3]) (i := 2) (EL.of ?_) ?_ (by decide) (by decide) (by rfl)) E.int (by decide)) z1 (by lia) hzg
  ·show E _ _ _ _ _ (.pv (.list [.tup [.int 2, .int 2], .tup [.int 2, .int 1], .tup [.int 1, .int 2], .tup [.int 3, .int 1], .tup [.int 1, .int 3], .tup [.int 1, .int 1], .tup [.int 2, .int 2], .tup [.int 2, .int 2], .tup [.int 2, .int 1], .tup [.int 1, .int 2]]))
   walk_at "ev"
  ·walk_at "ev"
  walk_at "ev"
 have hsz := sz_ok d2
 clear hzg
 generalize szOf d2 = sz at *
 obtain ⟨h, t⟩ := sz
 dsimp only at hsz L
 obtain ⟨hh1, ht1, hht⟩ := hsz
 have sz0 : ([.int (h : Int), .int (t : Int)] : List PV)[(0 : Int).toNat]? = some (.int (h : Int)) := rfl
 have sz1 : ([.int (h : Int), .int (t : Int)] : List PV)[(1 : Int).toNat]? = some (.int (t : Int)) := rfl
 apply X.asg (r := .pv (.int ((h + t : Nat) : Int)))
 ·decide
 ·rfl
 ·walk_at "keep"
 ·refine E.addE (E.itemt (i := 0) ?_ E.int (by decide) (by decide) sz0) (E.itemt (i := 1) ?_ E.int (by decide) (by decide) sz1) (by lia)
  ·walk_at "ev"
  walk_at "ev"
 have D2 : DN (Γ.on kf) env _ (Str.ofString "_law_sets") 123 := ⟨G, by rfl, Q.gse, by decide, fn_in KX (by rfl)⟩
 apply X.asg (r := .pv (rowP (q18 d0 h signs)))
 ·decide
 ·rfl
 ·walk_at "keep"
 ·refine E.call D2 (FSpec.up (qh8 KX d0 h signs hs2 (by lia) (by lia) Q.gr)).on (EA.cons (E.iteml (xs := [.int d0, .int d1, .int d2, .int d3]) (i := 0) (EL.of ?_) ?_ (by decide) (by decide) (by rfl)) (EA.cons (E.itemt (i := 0) ?_ E.int (by decide) (by decide) sz0) (EA.cons ?_ EA.nil (by intro _; rfl)) (by intro _; rfl)) (by intro _; rfl)) (by intro _; rfl)
  all_goals walk_at "ev"
 apply X.asg (r := .pv (rowP (q18 d1 t signs)))
 ·decide
 ·rfl
 ·walk_at "keep"
 ·refine E.call D2 (FSpec.up (qh8 KX d1 t signs hs2 (by lia) (by lia) Q.gr)).on (EA.cons (E.iteml (xs := [.int d0, .int d1, .int d2, .int d3]) (i := 1) (EL.of ?_) ?_ (by decide) (by decide) (by rfl)) (EA.cons (E.itemt (i := 1) ?_ E.int (by decide) (by decide) sz1) (EA.cons ?_ EA.nil (by intro _; rfl)) (by intro _; rfl)) (by intro _; rfl)) (by intro _; rfl)
  all_goals walk_at "ev"
 have hhd := q99 d0 h signs
 have htl := q99 d1 t signs
 have hset : ∀ s ∈ q18 d0 h signs ++ q18 d1 t signs, s.length ≤ 100 := fun s m => by
  rcases List.mem_append.mp m with m | m
  ·exact qe0 _ _ _ s m
  exact qe0 _ _ _ s m
 generalize q18 d0 h signs = hd at *
 generalize q18 d1 t signs = tl at *
 have hnq : ∀ q, q ≤ 4 → (q02 signs q).length ≤ 81 := fun q hq => Nat.le_trans (qi5 hs2 q) (Nat.pow_le_pow_right (by decide) hq)
 have hn4 := q35 signs 4
 apply X.own 0 (xs := (q02 signs 0).map .str)
 ·decide
 ·rfl
 ·walk_at "keep"
 ·rfl
 ·rfl
 ·exact EF.list (EA.cons E.str EA.nil (by intro _; rfl)) (by show 1 ≤ 2 ^ 24; decide)
 have brg : BN (Γ.on kf) env _ (Str.ofString "range") (.type "range") := ⟨G, by rfl, Q.gr, by rfl, by decide, by decide⟩
 refine X.forM (ι := List PV) (its := (List.range 4).map fun v : Nat => [PV.int (v : Int)]) (xs := ["size"]) (fun c => ⟨[("drawn", .pv (.list [.int d0, .int d1, .int d2, .int d3])), ("signs", .pv (chs signs)), ("sizes", .pv (.tup [.int (h : Int), .int (t : Int)])), ("wide", .pv (.int ((h + t : Nat) : Int))), ("head", .pv (rowP hd)), ("tail", .pv (rowP tl)), ("names", .ptr 0)], [(0, c)]⟩)
  (fun q c => c = (q02 signs q).map .str) (.name _ _) (by decide) (by decide) (I.rngN (m := 4) (by decide) (E.range1 brg E.int (by intro _; rfl))) ?_ ?_ ((q02 signs 0).map .str) ?_ rfl (fun q x c hx hc => ?_) (fun c hc => ?_) ?_
 ·intro x hx
  obtain ⟨v, _, rfl⟩ := List.mem_map.mp hx
  rfl
 ·intro c p hp
  simp only [List.mem_cons, List.not_mem_nil, or_false] at hp
  rcases hp with rfl | rfl | rfl | rfl | rfl | rfl | rfl <;> simp
 ·walk_at "has"
 ·rw [List.getElem?_map] at hx
  obtain ⟨v, hv, rfl⟩ := Option.map_eq_some_iff.mp hx
  have hvq : v = q ∧ q < 4 := by
   have h1 := (List.getElem?_eq_some_iff.mp hv).1
   rw [List.getElem?_range (by simpa using h1)] at hv
   exact ⟨(Option.some.inj hv).symm, by simpa using h1⟩
  obtain ⟨rfl, hq⟩ := hvq
  subst hc
  dsimp only [List.zip, List.zipWith, List.map, List.cons_append, List.nil_append]
  have hl1 := hnq v (by lia)
  have hl2 := hnq (v + 1) (by lia)
  have hfl : ((cut (some (-((2 : Int) ^ v))) none (q02 signs v)).flatMap fun a => signs.map fun b => PV.str (a ++ [b])).length ≤ 81 := by
   have e : ((cut (some (-((2 : Int) ^ v))) none (q02 signs v)).flatMap fun a => signs.map fun b => PV.str (a ++ [b])) = ((cut (some (-((2 : Int) ^ v))) none (q02 signs v)).flatMap fun a => signs.map fun b => a ++ [b]).map .str := by
    rw [List.map_flatMap]
    simp only [List.map_map]
    rfl
   rw [e, List.length_map]
   have : (q02 signs (v + 1)).length = (q02 signs v).length + ((cut (some (-((2 : Int) ^ v))) none (q02 signs v)).flatMap fun a => signs.map fun b => a ++ [b]).length := by
    show (q02 signs v ++ _).length = _
    rw [List.length_append]
   lia
  apply X.ext (ys := (cut (some (-((2 : Int) ^ v))) none (q02 signs v)).flatMap fun a => signs.map fun b => PV.str (a ++ [b])) G
  ·rfl
  ·rfl
  ·intro _; rfl
  ·decide
  ·walk_at "mem"
  ·walk_at "mem"
  ·walk_at "keepo"
  ·refine E.comp2 (its := cut (some (-((2 : Int) ^ v))) none (q02 signs v)) (its' := fun _ => signs) (cv := fun n => [.str n]) (cv' := fun c => [.str [c]]) (f := fun a b => .str (a ++ [b])) (xs := ["name"]) (xs' := ["sign"]) (l := [("signs", chs signs)]) G ?_ ?_ (.name _ _) (.name _ _) (by decide) (by decide) (by decide) (fun _ => rfl) (fun _ => rfl) (I.listA (c := PV.str) ?_) (by lia) (fun cenv G' a ha => I.listA (c := fun c => .str [c]) ?_) (fun cenv G' a ha b hb => ?_) (by intro _ _; rfl) (by intro _ _; rfl)
   ·walk_at "cok"
   ·walk_at "caps"
   ·rw [← q59]
    have e : (2 : Int) ^ v = 2 ^ ((v : Int)).toNat := by rw [Int.toNat_natCast]
    rw [e]
    refine E.cutl ?_ (EP.yes (E.neg (E.pow E.int ?_ (by lia) (by lia) (by decide)))) EP.no (by rw [List.length_map]; lia)
    ·walk_at "el"
    walk_at "ev"
   ·walk_at "ev"
   have hal := q35 signs v a (qc7 ha)
   refine E.adds ?_ ?_ (by rw [List.length_singleton]; lia)
   ·walk_at "ev"
   walk_at "ev"
  ·rw [List.length_map]; lia
  refine X.endL ⟨(q02 signs v).map PV.str ++ ((cut (some (-((2 : Int) ^ v))) none (q02 signs v)).flatMap fun a => signs.map fun b => PV.str (a ++ [b])), ?_, ?_⟩
  ·show (q02 signs v).map PV.str ++ _ = (q02 signs v ++ _).map PV.str
   rw [List.map_append, List.map_flatMap]
   simp only [List.map_map]
   rfl
  walk_at "has"
 ·have hc : c = (q02 signs 4).map .str := hc
  subst hc
  apply X.freeze (k := 0)
  ·walk_at "mem"
  ·walk_at "frz"
  ·walk_at "keepo"
  have hn31 := hnq 4 (by decide)
  generalize q02 signs 4 = names at *
  have D3 : ∀ {cenv cs}, EnvS cenv cs → cs.names.lookup (Str.ofString "_law_fits") = some .globalImplicit → DN (Γ.on kf) cenv cs (Str.ofString "_law_fits") 145 := fun G h => ⟨G, h, Q.gfa, by decide, fn_in KX (by rfl)⟩
  have F3 : ∀ (n : List Nat) (i : Int) (s : List (List Nat)), n ∈ names → s.length ≤ 4 → FSpec (Γ.on kf) 7 145 [.str n, .int i, rowP s] (.bool (q21 n i s)) := fun n i s hn hs => (FSpec.up (qx9 KX n i s (by have := hn4 n hn; lia) (by lia) Q.gl Q.gr)).on (k := kf)
  apply X.compC (r := .pv (nmP (begR names hd))) G
  ·decide
  ·decide
  ·walk_at "keep"
  ·refine E.compIf (its := names) (cv := fun n => [.str n]) (f := PV.str) (tb := fun n => q21 n 0 hd) (xs := ["name"]) (l := [("head", rowP hd)]) G ?_ ?_ (.name _ _) (by decide) (fun _ => rfl) (I.listA (c := PV.str) ?_) (by lia) (fun cenv G' n hn => ?_) fun cenv G' n hn hb => ?_
   ·walk_at "cok"
   ·walk_at "caps"
   ·walk_at "ev"
   ·refine B.ofBool (E.call (D3 G' (by rfl)) (F3 n 0 hd hn (by lia)) (EA.cons ?_ (EA.cons E.int (EA.cons ?_ EA.nil (by intro _; rfl)) (by intro _; rfl)) (by intro _; rfl)) (by intro _; rfl)) (by rfl)
    ·walk_at "ev"
    walk_at "ev"
   walk_at "ev"
  have bln : ∀ {cenv cs}, EnvS cenv cs → cs.names.lookup (Str.ofString "len") = some .globalImplicit → BN (Γ.on kf) cenv cs (Str.ofString "len") (.builtin "len") := fun G h => ⟨G, h, Q.gl, by rfl, by decide, by decide⟩
  apply X.compC (r := .pv (nmP (endR names tl t))) G
  ·decide
  ·decide
  ·walk_at "keep"
  ·refine E.compIf (its := names) (cv := fun n => [.str n]) (f := PV.str) (tb := fun n => q21 n ((n.length : Int) - (t : Int)) tl) (xs := ["name"]) (l := [("sizes", .tup [.int (h : Int), .int (t : Int)]), ("tail", rowP tl)]) G ?_ ?_ (.name _ _) (by decide) (fun _ => rfl) (I.listA (c := PV.str) ?_) (by lia) (fun cenv G' n hn => ?_) fun cenv G' n hn hb => ?_
   ·walk_at "cok"
   ·walk_at "caps"
   ·walk_at "ev"
   ·have hnl : n.length < 2 ^ 60 := by have := hn4 n hn; lia
    refine B.ofBool (E.call (D3 G' (by rfl)) (F3 n _ tl hn (by lia)) (EA.cons ?_ (EA.cons (E.sub (E.len_str (bln G' (by rfl)) ?_ hnl (by intro _; rfl)) (E.itemt (i := 1) ?_ E.int (by decide) (by decide) sz1)) (EA.cons ?_ EA.nil (by intro _; rfl)) (by intro _; rfl)) (by intro _; rfl)) (by intro _; rfl)) (by rfl)
    all_goals walk_at "ev"
   walk_at "ev"
  have hbl : (begR names hd).length ≤ 1000 := Nat.le_trans (List.length_filter_le ..) (by lia)
  have hel : (endR names tl t).length ≤ 1000 := Nat.le_trans (List.length_filter_le ..) (by lia)
  have hbn : ∀ n ∈ begR names hd, n.length ≤ 10 := fun n m => by have := hn4 n (List.mem_filter.mp m).1; lia
  have T1 := z93 Q kf (τ := 0) (env := env) G d0 d1 d2 d3 signs hs2 names hd tl h t (begR names hd) (endR names tl t) hhd htl hht hset hbl hel hbn (fun n m => by have := hn4 n m; lia) (by lia) L
  clear L
  generalize begR names hd = b at *
  generalize endR names tl t = e at *
  apply X.compIf (its := b) (cv := fun n => [.str n]) (f := PV.str) (tb := fun n => e.any fun y => y == n) (xs := ["name"]) (l := [("ends", nmP e)]) G
  ·decide
  ·walk_at "keep"
  ·walk_at "cok"
  ·walk_at "caps"
  ·exact .name _ _
  ·decide
  ·intro _; rfl
  ·refine I.listA (c := PV.str) ?_
   walk_at "ev"
  ·lia
  ·intro cenv G' n hn
   rw [← qp9]
   refine B.inl .str ?_ (EL.of ?_) trivial (q17 e) (by decide) (by rfl)
   ·walk_at "ev"
   walk_at "ev"
  ·intro cenv G' n hn hb
   walk_at "ev"
  ·rfl
  refine X.has ?_ T1
  walk_at "has"
 intro _; rfl
end Mine
namespace Mine
theorem qo0 (k c : Nat) (r : List Nat) (res : List Part) : trR (k + 1) (c :: r) res = (if c = 42 then trR k r (if res.getLast? = some none then res else res ++ [none])
   else if c = 63 then trR k r (res ++ [some [46]])
   else if c = 91 then
    if closeN r < r.length then (setR (r.take (closeN r))).bind fun t => trR k (r.drop (closeN r + 1)) (res ++ [some (brkR (twinT t))])
    else trR k r (res ++ [some [92, 91]])
   else trR k r (res ++ [some (escC c)])) := by conv => lhs; unfold trR
theorem qr4 (signs : List Nat) (k : Nat) (rest : List Nat) (items : List (List Nat)) (star : Int) : readR signs (k + 1) rest items star = (if rest = [] then some (items, star) else match stepR signs rest items star with
  | none => none
  | some (r, i, s) => readR signs k r i s) := by
 conv => lhs; unfold readR
 all_goals
  by_cases h : rest = []
  ·rw [if_pos h, if_pos h]
  rw [if_neg h, if_neg h]; cases stepR signs rest items star <;> rfl
theorem qs3 {q rest : List Nat} (h : closeN q < q.length) : closeN (q ++ rest) = closeN q := by
 have hB : closeB q ≤ closeN q := Nat.le_add_right ..
 haveI hA : closeA q ≤ closeB q := Nat.le_add_right ..
 have at_ : ∀ i, i < q.length → (q ++ rest)[i]? = q[i]? := fun i hi => List.getElem?_append_left hi
 haveI eA : closeA (q ++ rest) = closeA q := by unfold closeA; rw [at_ 0 (by lia)]
 haveI eB : closeB (q ++ rest) = closeB q := by unfold closeB; rw [eA, at_ _ (by lia)]
 unfold closeN at h ⊢
 rw [eB, List.drop_append_of_le_length (by lia), List.takeWhile_append]
 rw [if_neg]
 haveI : (q.drop (closeB q)).length = q.length - closeB q := List.length_drop ..
 lia
noncomputable def outR (p : List Nat) : Option (List Nat) :=
 match p with
 | [] => none
 | c :: q => if c = 91 then (if closeN q + 1 = q.length then (setR (q.take (closeN q))).map fun t => brkR (twinT t) else none)
  else if q = [] ∧ c ≠ 42 ∧ c ≠ 63 then some (escC c) else none
theorem z03 {p out : List Nat} (h : outR p = some out) (k : Nat) (rest : List Nat) (res : List Part) : trR (k + 1) (p ++ rest) res = trR k rest (res ++ [some out]) := by
 cases p with
 | nil => exact absurd h.symm (Option.some_ne_none _)
 | cons c q =>
  unfold outR at h
  dsimp only at h
  show trR (k + 1) (c :: (q ++ rest)) res = _
  rw [qo0]
  split at h
  ·rename_i hc
   subst hc
   split at h
   ·rename_i hN
    obtain ⟨t, ht, rfl⟩ := Option.map_eq_some_iff.mp h
    rw [if_neg (by decide), if_neg (by decide), if_pos rfl, qs3 (by lia), if_pos (by rw [List.length_append]; lia), List.take_append_of_le_length (by lia), ht]
    haveI : (q ++ rest).drop (closeN q + 1) = rest := by rw [hN, List.drop_left]
    rw [this]
    rfl
   exact absurd h.symm (Option.some_ne_none _)
  rename_i hc
  split at h
  ·rename_i hq
   cases h
   rw [if_neg hq.2.1, if_neg hq.2.2, if_neg hc, hq.1]
   rfl
  exact absurd h.symm (Option.some_ne_none _)
theorem z47 (k : Nat) (rest : List Nat) (res : List Part) (h : res.getLast? ≠ some none) : trR (k + 1) ([42] ++ rest) res = trR k rest (res ++ [none]) := by
 show trR (k + 1) (42 :: rest) res = _
 rw [qo0, if_pos rfl, if_neg h]
theorem qm2 {l rest : List Nat} {first : Nat} {signs : List Nat} {r : Nat × List Nat} : ∀ {k k' s : Nat} {m : List Nat}, k ≤ k' → inR l first signs k s m = some r → inR (l ++ rest) first signs k' s m = some r
 | 0, _, _, _, _, h => by exact absurd h.symm (Option.some_ne_none _)
 | k + 1, 0, _, _, hk, _ => by lia
 | k + 1, k' + 1, s, m, hk, h => by
  have at_ : ∀ (i : Nat) (c : Nat), l[i]? = some c → (l ++ rest)[i]? = some c := fun i c e => by
   rw [List.getElem?_append_left (List.getElem?_eq_some_iff.mp e).1]; exact e
  unfold inR at h ⊢
  cases hs : l[s]? with
  | none =>
   rw [hs] at h
   simp at h
  | some c =>
   rw [hs] at h
   rw [at_ _ _ hs]
   split at h
   ·rename_i q
    rw [if_pos q]
    exact h
   rename_i q
   rw [if_neg q]
   dsimp only at h ⊢
   generalize s + (if c = 92 then 2 else 1) = s1 at h ⊢
   cases h1 : l[s1 - 1]? with
   | none => rw [h1] at h; exact absurd h.symm (Option.some_ne_none _)
   | some low =>
    cases h2 : l[s1]? with
    | none => rw [h1, h2] at h; exact absurd h.symm (Option.some_ne_none _)
    | some d =>
     rw [h1, h2] at h
     rw [at_ _ _ h1, at_ _ _ h2]
     dsimp only at h ⊢
     split at h
     ·rename_i hd
      rw [if_pos hd]
      cases h3 : l[s1 + 1]? with
      | none => rw [h3] at h; exact absurd h.symm (Option.some_ne_none _)
      | some high =>
       rw [h3] at h
       rw [at_ _ _ h3]
       dsimp only at h ⊢
       exact qm2 (Nat.le_of_succ_le_succ hk) h
     rename_i hd
     rw [if_neg hd]
     exact qm2 (Nat.le_of_succ_le_succ hk) h
noncomputable def selR (signs out : List Nat) : Option (List Nat) :=
 if out = [40, 63, 33, 41] then some []
 else if out = [46] then some signs
 else match out with
  | [] => none
  | c :: q => if c = 91 then (match q with
    | [] => none
    | b :: _ => match inR out (if b = 94 then 2 else 1) signs (out.length + 1) (if b = 94 then 2 else 1) [] with
     | some (size, mem) => if size + 1 = out.length then some (signs.filter fun s => (mem.any fun c => c == s) != (b == 94)) else none
     | none => none)
   else if c = 92 then (match q with
    | [d] => some (signs.filter fun s => s == d)
    | _ => none)
   else if q = [] ∧ c ≠ 40 ∧ c ≠ 46 then some (signs.filter fun s => s == c) else none
theorem cut2 (c : Nat) (r : List Nat) (k : Nat) : cut none (some ((k + 1 : Nat) : Int)) (c :: r) = c :: r.take k := by
 haveI : cut (none : Option Int) (some ((k + 1 : Nat) : Int)) (c :: r) = cut (some ((0 : Nat) : Int)) (some ((k + 1 : Nat) : Int)) (c :: r) := rfl
 rw [this, q58]; rfl
theorem q65 {signs : List Nat} {c : Nat} {r : List Nat} {items : List (List Nat)} {star : Int} : (c = 46 → r.head? ≠ some 42) → c ≠ 40 →
  stepR signs (c :: r) items star = (if c = 46 then some (r, items ++ [signs], star)
   else if c = 91 then match r with
    | [] => none
    | b :: _ =>
     match inR (c :: r) (if b = 94 then 2 else 1) signs ((c :: r).length + 1) (if b = 94 then 2 else 1) [] with
     | none => none
     | some (size, mem) => some ((c :: r).drop (size + 1), items ++ [signs.filter fun s => (mem.any fun c => c == s) != (b == 94)], star)
   else match (c :: r)[if c = 92 then 1 else 0]? with
    | none => none
    | some d => some ((c :: r).drop (if c = 92 then 2 else 1), items ++ [signs.filter fun s => s == d], star)) := by
 intro h1 h2
 unfold stepR
 have e2 := cut2 c r 1
 have e4 := cut2 c r 3
 rw [show ((1 + 1 : Nat) : Int) = 2 from rfl] at e2
 rw [show ((3 + 1 : Nat) : Int) = 4 from rfl] at e4
 rw [e2, e4]
 rw [if_neg (fun e => by
  haveI hc : c = 46 := by injection e
  haveI hr : r.take 1 = [42] := by injection e
  refine h1 hc ?_
  cases r with
  | nil => cases hr
  | cons a r => simp at hr; rw [hr]; rfl), if_neg (fun e => h2 (by injection e))]
 all_goals try dsimp only
 all_goals (cases r <;> rfl)
theorem qr3 {signs out sel : List Nat} (h : selR signs out = some sel) {rest : List Nat} (hr : rest.head? ≠ some 42) (items : List (List Nat)) (star : Int) :
  stepR signs (out ++ rest) items star = some (rest, items ++ [sel], star) := by
 unfold selR at h
 split at h
 ·rename_i ho
  cases h
  subst ho
  unfold stepR
  haveI e2 := cut2 40 ([63, 33, 41] ++ rest) 1
  haveI e4 := cut2 40 ([63, 33, 41] ++ rest) 3
  rw [show ((1 + 1 : Nat) : Int) = 2 from rfl] at e2
  rw [show ((3 + 1 : Nat) : Int) = 4 from rfl] at e4
  rw [show ([40, 63, 33, 41] : List Nat) ++ rest = 40 :: ([63, 33, 41] ++ rest) from rfl, e2, e4]
  rw [if_neg (by intro e; injection e with e1 _; exact absurd e1 (by decide)), if_pos (by rfl)]
  rfl
 split at h
 ·rename_i ho
  cases h
  subst ho
  show stepR signs (46 :: rest) items star = _
  rw [q65 (fun _ => hr) (by decide), if_pos rfl]
 rename_i hn1 hn2
 cases out with
 | nil => exact absurd h.symm (Option.some_ne_none _)
 | cons c q =>
  dsimp only at h
  show stepR signs (c :: (q ++ rest)) items star = _
  split at h
  ·rename_i hc
   subst hc
   cases q with
   | nil => exact absurd h.symm (Option.some_ne_none _)
   | cons b q2 =>
    dsimp only at h
    generalize hf : (if b = 94 then 2 else 1 : Nat) = first at h
    cases hin : inR (91 :: b :: q2) first signs ((91 :: b :: q2).length + 1) first [] with
    | none => rw [hin] at h; exact absurd h.symm (Option.some_ne_none _)
    | some p =>
     obtain ⟨size, mem⟩ := p
     rw [hin] at h
     dsimp only at h
     split at h
     ·rename_i hsz
      cases h
      rw [q65 (by intro e; exact absurd e (by decide)) (by decide), if_neg (by decide), if_pos rfl]
      dsimp only [List.cons_append]
      rw [hf]
      have := qm2 (rest := rest) (k' := (91 :: b :: (q2 ++ rest)).length + 1) (by simp) hin
      rw [show (91 :: b :: q2) ++ rest = 91 :: b :: (q2 ++ rest) from rfl] at this
      rw [this]
      dsimp only
      haveI hd : (91 :: b :: (q2 ++ rest)).drop (size + 1) = rest := by
       rw [hsz, show 91 :: b :: (q2 ++ rest) = (91 :: b :: q2) ++ rest from rfl, List.drop_left]
      rw [hd]
     exact absurd h.symm (Option.some_ne_none _)
  rename_i hc91
  split at h
  ·rename_i hc
   subst hc
   cases q with
   | nil => exact absurd h.symm (Option.some_ne_none _)
   | cons d q2 =>
    cases q2 with
    | nil =>
     cases h
     rw [q65 (by intro e; exact absurd e (by decide)) (by decide), if_neg (by decide), if_neg (by decide)]
     rfl
    | cons _ _ => exact absurd h.symm (Option.some_ne_none _)
  rename_i hc92
  split at h
  ·rename_i hq
   cases h
   rw [hq.1]
   rw [q65 (fun e => absurd e hq.2.2) hq.2.1, if_neg hq.2.2, if_neg hc91, if_neg hc92, if_neg hc92]
   rfl
  exact absurd h.symm (Option.some_ne_none _)
theorem qu7 {signs rest : List Nat} (items : List (List Nat)) (star : Int) : stepR signs ([46, 42] ++ rest) items star = some (rest, items, (items.length : Int)) := by
 unfold stepR
 haveI e2 := cut2 46 ([42] ++ rest) 1
 rw [show ((1 + 1 : Nat) : Int) = 2 from rfl] at e2
 rw [show ([46, 42] : List Nat) ++ rest = 46 :: ([42] ++ rest) from rfl, e2, if_pos (by rfl)]
 rfl
theorem qe1 {signs rest rest' : List Nat} {items items' : List (List Nat)} {star star' : Int} {k : Nat} (hne : rest ≠ []) (h : stepR signs rest items star = some (rest', items', star')) : readR signs (k + 1) rest items star = readR signs k rest' items' star' := by
 rw [qr4, if_neg hne, h]
end Mine
namespace Mine
open Builtin.Str StrLaws
noncomputable def cntP : List Nat → Nat
 | [] => 0
 | a :: r => (if a = 46 ∧ r.head? = some 42 then 1 else 0) + cntP r
theorem qa2 : ∀ (a b : List Nat), b.head? ≠ some 42 → cntP (a ++ b) = cntP a + cntP b
 | [], b, _ => by simp [cntP]
 | [c], b, h => by
  show (if c = 46 ∧ b.head? = some 42 then 1 else 0) + cntP b = (if c = 46 ∧ ([] : List Nat).head? = some 42 then 1 else 0) + 0 + cntP b
  rw [if_neg (fun e => h e.2), if_neg (fun e => by cases e.2)]
 | c :: d :: r, b, h => by
  haveI ih := qa2 (d :: r) b h
  show (if c = 46 ∧ (d :: (r ++ b)).head? = some 42 then 1 else 0) + cntP ((d :: r) ++ b) = (if c = 46 ∧ (d :: r).head? = some 42 then 1 else 0) + cntP (d :: r) + cntP b
  rw [ih]
  show (if c = 46 ∧ some d = some 42 then 1 else 0) + _ = (if c = 46 ∧ some d = some 42 then 1 else 0) + _ + _
  lia
theorem z49 (x : List Nat) (i : Nat) : (i + (S [46, 42]).length ≤ (S x).length ∧ subAt (S x) (S [46, 42]) i = true) ↔ (x[i]? = some 46 ∧ x[i + 1]? = some 42) := by
 rw [subAt_eq, S_len, S_len]
 haveI e1 : (S x).cps.toList = x := by simp [S]
 haveI e2 : (S [46, 42]).cps.toList = [46, 42] := by simp [S]
 rw [e1, e2, beq_iff_eq]
 show (i + 2 ≤ x.length ∧ (x.drop i).take 2 = [46, 42]) ↔ _
 constructor
 ·rintro ⟨h1, h2⟩
  rw [List.drop_eq_getElem_cons (by lia), List.drop_eq_getElem_cons (by lia)] at h2
  simp only [List.take_succ_cons, List.take_zero] at h2
  injection h2 with a b
  injection b with b _
  rw [List.getElem?_eq_getElem (by lia), List.getElem?_eq_getElem (by lia), a, b]
  exact ⟨rfl, rfl⟩
 rintro ⟨h1, h2⟩
 obtain ⟨l1, a⟩ := List.getElem?_eq_some_iff.mp h1
 obtain ⟨l2, b⟩ := List.getElem?_eq_some_iff.mp h2
 refine ⟨by lia, ?_⟩
 rw [List.drop_eq_getElem_cons l1, List.drop_eq_getElem_cons l2, a, b]
 rfl
theorem z31 (x : List Nat) : ∀ (n a : Nat) (acc : Array Nat) (free : Nat), a + n = x.length + 1 → acc.size ≤ a → (free ≤ a ∨ (free = a + 1 ∧ x[a]? = some 42)) →
  (forIn (List.range' a n) (acc, free) (occBody (S x) (S [46, 42]) (S x).length ((S x).length + 1))).run.fst.size = acc.size + cntP (x.drop a) := by
 intro n
 induction n with
 | zero =>
  intro a acc free hn _ _
  rw [List.drop_of_length_le (by lia)]; rfl
 | succ n ih =>
  intro a acc free hn hs hf
  rw [List.range'_succ, List.forIn_cons]
  unfold occBody
  haveI key := z49 x a
  by_cases h : x[a]? = some 46 ∧ x[a + 1]? = some 42
  ·haveI hk := key.mpr h
   haveI hfree : free ≤ a := by
    rcases hf with q | ⟨_, q⟩
    ·exact q
    rw [h.1] at q; nomatch q
   haveI hsz : acc.size < (S x).length + 1 := by rw [S_len]; lia
   rw [if_pos ⟨⟨⟨hsz, hfree⟩, hk.1⟩, hk.2⟩]
   haveI ih1 := ih (a + 1) (acc.push a) (a + (S [46, 42]).length) (by lia) (by rw [Array.size_push]; lia) (.inr ⟨rfl, h.2⟩)
   refine Eq.trans ih1 ?_
   obtain ⟨l1, e1⟩ := List.getElem?_eq_some_iff.mp h.1
   rw [List.drop_eq_getElem_cons l1, Array.size_push]
   show acc.size + 1 + cntP (x.drop (a + 1)) = acc.size + ((if x[a] = 46 ∧ (x.drop (a + 1)).head? = some 42 then 1 else 0) + cntP (x.drop (a + 1)))
   rw [if_pos ⟨e1, by rw [List.head?_drop]; exact h.2⟩]
   lia
  have hno : ¬ ((((acc, free).fst.size < (S x).length + 1 ∧ (acc, free).snd ≤ a) ∧ a + (S [46, 42]).length ≤ (S x).length) ∧ subAt (S x) (S [46, 42]) a = true) := fun q => h (key.mp ⟨q.1.2, q.2⟩)
  rw [if_neg hno]
  haveI ih1 := ih (a + 1) acc free (by lia) (by lia) (by
   rcases hf with q | ⟨q, _⟩
   ·exact .inl (by lia)
   exact .inl (by lia))
  refine Eq.trans ih1 ?_
  by_cases hl : a < x.length
  ·rw [List.drop_eq_getElem_cons hl]
   show _ = acc.size + ((if x[a] = 46 ∧ (x.drop (a + 1)).head? = some 42 then 1 else 0) + cntP (x.drop (a + 1)))
   rw [if_neg (fun e => h ⟨by rw [List.getElem?_eq_getElem hl, e.1], by rw [← List.head?_drop]; exact e.2⟩)]
   lia
  rw [List.drop_of_length_le (by lia), List.drop_of_length_le (by lia)]
theorem z42 (x : List Nat) : cnt x [46, 42] = (cntP x : Int) := by
 unfold cnt Txt.count
 rw [occ_eq, Array.length_toList, Nat.sub_zero]
 have := z31 x (x.length + 1) 0 #[] 0 (by lia) (Nat.le_refl _) (.inl (Nat.le_refl _))
 rw [S_len] at *
 rw [this]
 simp
end Mine
namespace Mine
theorem qi6 {α β : Type} (g : α → β) : ∀ (l : List α) (k : Nat), (l.map g).eraseIdx k = (l.eraseIdx k).map g
 | [], _ => rfl
 | _ :: _, 0 => rfl
 | a :: l, k + 1 => by
  rw [List.map_cons, List.eraseIdx_cons_succ, List.eraseIdx_cons_succ, List.map_cons, qi6 g l k]
structure Mon (f : Nat → Nat) : Prop where
 fix : ∀ c, c < 192 → f c = c
 mono : ∀ a b, a < b → f a < f b
section
variable {f : Nat → Nat} (M : Mon f)
include M
theorem Mon.inj {a b : Nat} : f a = f b ↔ a = b := by
 constructor
 ·intro e
  rcases Nat.lt_trichotomy a b with h | h | h
  ·have := M.mono _ _ h; lia
  ·exact h
  have := M.mono _ _ h; lia
 intro e; rw [e]
theorem Mon.at {a k : Nat} (hk : k < 192) : f a = k ↔ a = k := by
 have := M.inj (a := a) (b := k)
 rw [M.fix k hk] at this
 exact this
theorem Mon.lt {a b : Nat} : f a < f b ↔ a < b := by
 constructor
 ·intro h
  rcases Nat.lt_trichotomy a b with q | q | q
  ·exact q
  ·rw [q] at h; lia
  have := M.mono _ _ q; lia
 exact M.mono a b
theorem Mon.le {a b : Nat} : f a ≤ f b ↔ a ≤ b := by
 have := M.lt (a := b) (b := a)
 lia
theorem Mon.get {l : List Nat} {i k : Nat} (hk : k < 192) : (l.map f)[i]? = some k ↔ l[i]? = some k := by
 rw [List.getElem?_map]
 cases l[i]? with
 | none => simp
 | some c => simp [M.at hk]
theorem Mon.beq {a k : Nat} (hk : k < 192) : (f a == k) = (a == k) := by
 rw [Bool.eq_iff_iff, beq_iff_eq, beq_iff_eq]; exact M.at hk
theorem Mon.fixl {z : List Nat} (h : ∀ c ∈ z, c < 192) : z.map f = z := by
 conv => rhs; rw [← List.map_id z]
 exact List.map_congr_left fun c hc => M.fix c (h c hc)
theorem Mon.closeA {r : List Nat} : closeA (r.map f) = closeA r := by
 unfold Mine.closeA
 simp only [M.get (show (33 : Nat) < 192 by decide)]
theorem Mon.closeB {r : List Nat} : closeB (r.map f) = closeB r := by
 unfold Mine.closeB
 simp only [M.closeA, M.get (show (93 : Nat) < 192 by decide)]
theorem Mon.closeN {r : List Nat} : closeN (r.map f) = closeN r := by
 unfold Mine.closeN
 rw [M.closeB, ← List.map_drop, List.takeWhile_map, List.length_map]
 congr 2
 haveI : (fun x => x != 93) ∘ f = fun x => x != 93 := by
  funext x
  show (f x != 93) = (x != 93)
  unfold bne
  rw [M.beq (by decide)]
 rw [this]
theorem Mon.contains {l : List Nat} {k : Nat} (hk : k < 192) : (l.map f).contains k = l.contains k := by
 rw [Bool.eq_iff_iff, List.contains_iff_mem, List.contains_iff_mem, List.mem_map]
 constructor
 ·rintro ⟨a, h, e⟩
  rw [← (M.at hk).mp e]; exact h
 intro h; exact ⟨k, h, M.fix k hk⟩
theorem Mon.dashAt {m : Nat} {cur : List Nat} : dashAt m (cur.map f) = dashAt m cur := by
 unfold Mine.dashAt
 rw [← List.map_drop, List.findIdx?_map]
 haveI : (fun x => x == 45) ∘ f = fun x => x == 45 := by
  funext x; exact M.beq (by decide)
 rw [this]
theorem Mon.chunksR : ∀ (k m : Nat) (cur : List Nat) (acc : List (List Nat)), chunksR k m (cur.map f) (acc.map (List.map f)) = (chunksR k m cur acc).map (List.map (List.map f)) := by
 intro k
 induction k with
 | zero => exact fun _ _ _ => rfl
 | succ k ih =>
  intro m cur acc
  unfold Mine.chunksR
  rw [M.dashAt]
  cases Mine.dashAt m cur with
  | some q =>
   dsimp only
   rw [← List.map_drop, ← List.map_take]
   have := ih 2 (cur.drop (q + 1)) (acc ++ [cur.take q])
   rw [List.map_append] at this
   exact this
  | none =>
   dsimp only
   cases cur with
   | nil =>
    rw [if_pos rfl]
    simp only [List.map_nil, if_true]
    rw [List.getLast?_map]
    cases acc.getLast? with
    | none => rfl
    | some l =>
     show some _ = some _
     rw [List.map_append, List.map_dropLast, List.map_singleton, List.map_append]
     rw [show ([45] : List Nat).map f = [45] from by rw [List.map_singleton, M.fix 45 (by decide)]]
   | cons c r =>
    rw [if_neg (by simp), if_neg (by simp)]
    simp
theorem Mon.merge1 {cs : List (List Nat)} {k : Nat} : merge1 (cs.map (List.map f)) k = (merge1 cs k).map (List.map (List.map f)) := by
 unfold Mine.merge1
 rw [List.getElem?_map, List.getElem?_map]
 cases cs[k - 1]? with
 | none => rfl
 | some a =>
  cases cs[k]? with
  | none => rfl
  | some b =>
   dsimp only [Option.map_some]
   rw [List.getLast?_map, List.head?_map]
   cases a.getLast? with
   | none => rfl
   | some x =>
    cases b.head? with
    | none => rfl
    | some y =>
     simp only [Option.map_some, M.lt]
     by_cases h : y < x
     ·rw [if_pos h, if_pos h]
      simp only [Option.map_some]
      congr 1
      rw [← List.map_dropLast, ← List.map_tail, ← List.map_append, ← List.map_set]
      exact qi6 _ _ _
     rw [if_neg h, if_neg h]; rfl
theorem Mon.mergeR : ∀ (ks : List Nat) (cs : List (List Nat)), mergeR ks (cs.map (List.map f)) = (mergeR ks cs).map (List.map (List.map f))
 | [], _ => rfl
 | k :: ks, cs => by
  unfold Mine.mergeR
  rw [M.merge1]
  cases Mine.merge1 cs k with
  | none => rfl
  | some c => exact Mon.mergeR ks c
theorem Mon.rpl1 {c : Nat} {z l : List Nat} (hc : c < 192) (hz : z.map f = z) : rpl1 c z (l.map f) = (rpl1 c z l).map f := by
 unfold Mine.rpl1
 rw [List.flatMap_map, List.map_flatMap]
 congr 1
 funext d
 show (if f d = c then z else [f d]) = (if d = c then z else [d]).map f
 simp only [M.at hc]
 split
 ·exact hz.symm
 rfl
theorem Mon.esc2 {y : List Nat} : esc2 (y.map f) = (esc2 y).map f := by
 unfold Mine.esc2
 rw [M.rpl1 (by decide) (M.fixl (by decide)), M.rpl1 (by decide) (M.fixl (by decide))]
omit M in
theorem z37 (sep : List Nat) (f : Nat → Nat) : ∀ l : List (List Nat), (jn sep l).map f = jn (sep.map f) (l.map (List.map f))
 | [] => rfl
 | [a] => rfl
 | a :: b :: l => by
  show (a ++ sep ++ jn sep (b :: l)).map f = _
  rw [List.map_append, List.map_append, z37 sep f (b :: l)]; rfl
theorem Mon.setR {t : List Nat} : setR (t.map f) = (setR t).map (List.map f) := by
 unfold Mine.setR
 rw [M.contains (by decide), List.length_map]
 simp only [M.get (show (33 : Nat) < 192 by decide)]
 by_cases h : t.contains 45 = true
 ·rw [if_pos h, if_pos h]
  have := M.chunksR (t.length + 1) (if t[0]? = some 33 then 2 else 1) t []
  rw [List.map_nil] at this
  rw [this]
  cases Mine.chunksR (t.length + 1) (if t[0]? = some 33 then 2 else 1) t [] with
  | none => rfl
  | some cl =>
   simp only [Option.map_some, Option.bind_some]
   rw [List.length_map, M.mergeR]
   cases Mine.mergeR (downs cl.length) cl with
   | none => rfl
   | some ms =>
    simp only [Option.map_some]
    congr 1
    rw [z37, M.fixl (z := [45]) (by decide), List.map_map, List.map_map]
    congr 1
    exact List.map_congr_left fun y _ => M.esc2 (y := y)
 rw [if_neg h, if_neg h, M.rpl1 (by decide) (M.fixl (by decide))]; rfl
theorem Mon.twin {c : Nat} : q06 (f c) = q06 c := by
 unfold q06
 simp only [M.beq (show (38 : Nat) < 192 by decide), M.beq (show (124 : Nat) < 192 by decide), M.beq (show (126 : Nat) < 192 by decide)]
theorem Mon.twinT {t : List Nat} : twinT (t.map f) = (twinT t).map f := by
 unfold Mine.twinT
 rw [List.flatMap_map, List.map_flatMap]
 congr 1
 funext c
 show (if q06 (f c) then [92, f c] else [f c]) = (if q06 c then [92, c] else [c]).map f
 rw [M.twin]
 split
 ·simp [M.fix 92 (by decide)]
 rfl
theorem Mon.headR {t : List Nat} : headR (t.map f) = (headR t).map f := by
 cases t with
 | nil => rfl
 | cons c r =>
  show Mine.headR (f c :: r.map f) = _
  rw [q24, q24]
  simp only [M.at (show (33 : Nat) < 192 by decide), M.at (show (94 : Nat) < 192 by decide), M.at (show (91 : Nat) < 192 by decide)]
  split
  ·simp [M.fix 94 (by decide)]
  split
  ·simp [M.fix 92 (by decide)]
  rfl
theorem Mon.eqk {t z : List Nat} (hz : ∀ c ∈ z, c < 192) : t.map f = z ↔ t = z := by
 constructor
 ·intro h
  haveI h2 : t.map f = z.map f := h.trans (M.fixl hz).symm
  exact (List.map_inj_right fun a b e => M.inj.mp e).mp h2
 intro h; rw [h]; exact M.fixl hz
theorem Mon.brkR {t : List Nat} : brkR (t.map f) = (brkR t).map f := by
 unfold Mine.brkR
 simp only [M.eqk (t := t) (z := []) (by decide), M.eqk (t := t) (z := [33]) (by decide)]
 split
 ·exact (M.fixl (by decide)).symm
 split
 ·exact (M.fixl (by decide)).symm
 rw [M.headR, List.map_append, List.map_append, M.fixl (z := [91]) (by decide), M.fixl (z := [93]) (by decide)]
omit M in
theorem qu0 : ∀ c ∈ spc, c < 192 := by decide
theorem Mon.escC {c : Nat} : escC (f c) = (escC c).map f := by
 have e : spc.contains (f c) = spc.contains c := by
  rw [Bool.eq_iff_iff, List.contains_iff_mem, List.contains_iff_mem]
  constructor
  ·intro h
   have h1 := qu0 _ h
   have : c = f c := (M.at (a := c) (k := f c) h1).mp rfl
   rw [← this] at h; exact h
  intro h
  rw [M.fix c (qu0 _ h)]; exact h
 unfold Mine.escC
 rw [e]
 split
 ·simp [M.fix 92 (by decide)]
 rfl
theorem Mon.outR {p : List Nat} : outR (p.map f) = (outR p).map (List.map f) := by
 cases p with
 | nil => rfl
 | cons c q =>
  show Mine.outR (f c :: q.map f) = _
  unfold Mine.outR
  dsimp only
  simp only [M.at (show (91 : Nat) < 192 by decide), M.closeN, List.length_map, ← List.map_take, M.setR, List.map_eq_nil_iff, ne_eq, M.at (show (42 : Nat) < 192 by decide), M.at (show (63 : Nat) < 192 by decide)]
  split
  ·split
   ·cases Mine.setR (q.take (Mine.closeN q)) with
    | none => rfl
    | some t => simp only [Option.map_some]; rw [M.twinT, M.brkR]
   rfl
  split
  ·rw [M.escC]; rfl
  rfl
end
noncomputable def textB (big : Nat) (signs held : List Nat) : List Nat := if held = signs then [32, 45, big] else if held = [] then [98, 45, 97] else held
noncomputable def pieceB (big : Nat) (signs mem : List Nat) (barred : Bool) : List Nat :=
 if barred then [91, 33] ++ textB big signs (outOf signs mem) ++ [93]
 else bareG (textN (outOf signs (outOf signs mem))) ([91] ++ textN (outOf signs (outOf signs mem)) ++ [93])
theorem qv4 (signs mem : List Nat) (b : Bool) : pieceB 50192 signs mem b = q13 signs mem b := rfl
section
variable {f : Nat → Nat} (M : Mon f)
include M
theorem Mon.inj_map {a b : List Nat} : a.map f = b.map f ↔ a = b := List.map_inj_right fun a b e => M.inj.mp e
theorem Mon.mem {l : List Nat} {c : Nat} : (l.map f).contains (f c) = l.contains c := by
 rw [Bool.eq_iff_iff, List.contains_iff_mem, List.contains_iff_mem, List.mem_map]
 constructor
 ·rintro ⟨a, h, e⟩
  rw [← M.inj.mp e]; exact h
 intro h; exact ⟨c, h, rfl⟩
theorem Mon.outOf {signs mem : List Nat} : outOf (signs.map f) (mem.map f) = (outOf signs mem).map f := by
 unfold Mine.outOf
 rw [List.filter_map]
 congr 1
 refine List.filter_congr fun c _ => ?_
 show (!(mem.map f).contains (f c)) = _
 rw [M.mem]
theorem Mon.textB {big : Nat} {signs held : List Nat} : textB (f big) (signs.map f) (held.map f) = (textB big signs held).map f := by
 unfold Mine.textB
 simp only [M.inj_map, List.map_eq_nil_iff]
 split
 ·simp [M.fix 32 (by decide), M.fix 45 (by decide)]
 split
 ·exact (M.fixl (by decide)).symm
 rfl
theorem Mon.textN {held : List Nat} : textN (held.map f) = (textN held).map f := by
 unfold Mine.textN
 simp only [List.map_eq_nil_iff]
 split
 ·exact (M.fixl (by decide)).symm
 rfl
theorem Mon.bareG {x y : List Nat} : bareG (x.map f) (y.map f) = (bareG x y).map f := by
 unfold Mine.bareG
 simp only [M.eqk (t := x) (z := [33]) (by decide), M.eqk (t := x) (z := [45]) (by decide), M.eqk (t := x) (z := [33, 45]) (by decide)]
 split
 ·exact (M.fixl (by decide)).symm
 split
 ·exact (M.fixl (by decide)).symm
 split
 ·exact (M.fixl (by decide)).symm
 rfl
theorem Mon.pieceB {big : Nat} {signs mem : List Nat} {b : Bool} : pieceB (f big) (signs.map f) (mem.map f) b = (pieceB big signs mem b).map f := by
 unfold Mine.pieceB
 rw [M.outOf, M.outOf, M.textB, M.textN]
 split
 ·rw [List.map_append, List.map_append, M.fixl (z := [91, 33]) (by decide), M.fixl (z := [93]) (by decide)]
 rw [← M.bareG, List.map_append, List.map_append, M.fixl (z := [91]) (by decide), M.fixl (z := [93]) (by decide)]
theorem Mon.sel {signs : List Nat} {low high : Nat} : sel (signs.map f) (f low) (f high) = (sel signs low high).map f := by
 unfold Mine.sel
 rw [List.filter_map]
 congr 1
 refine List.filter_congr fun c _ => ?_
 show ((decide (f low ≤ f c) && decide (f c ≤ f high)) || decide (f high < f low)) = _
 simp only [M.le, M.lt]
theorem Mon.getE {l : List Nat} {i : Nat} : (l.map f)[i]? = l[i]?.map f := List.getElem?_map ..
theorem Mon.inR {l signs : List Nat} {first : Nat} : ∀ (k s : Nat) (m : List Nat), inR (l.map f) first (signs.map f) k s (m.map f) = (inR l first signs k s m).map fun r => (r.1, r.2.map f) := by
 intro k
 induction k with
 | zero => exact fun _ _ => rfl
 | succ k ih =>
  intro s m
  unfold Mine.inR
  simp only [M.get (show (93 : Nat) < 192 by decide)]
  by_cases h : s ≠ first ∧ l[s]? = some 93
  ·rw [if_pos h, if_pos h]; rfl
  rw [if_neg h, if_neg h, M.getE]
  cases l[s]? with
  | none => rfl
  | some c =>
   simp only [Option.map_some, M.at (show (92 : Nat) < 192 by decide)]
   generalize s + (if c = 92 then 2 else 1) = s1
   rw [M.getE, M.getE, M.getE]
   cases l[s1 - 1]? with
   | none => rfl
   | some low =>
    cases l[s1]? with
    | none => rfl
    | some d =>
     simp only [Option.map_some, M.at (show (45 : Nat) < 192 by decide)]
     split
     ·cases l[s1 + 1]? with
      | none => rfl
      | some high =>
       simp only [Option.map_some]
       rw [M.sel, ← List.map_append]
       exact ih (s1 + 2) (m ++ Mine.sel signs low high)
     rw [M.sel, ← List.map_append]
     exact ih s1 (m ++ Mine.sel signs low low)
theorem Mon.anyE {m : List Nat} {s : Nat} : ((m.map f).any fun c => c == f s) = m.any fun c => c == s := by
 rw [List.any_map]
 congr 1
 funext c
 show (f c == f s) = (c == s)
 rw [Bool.eq_iff_iff, beq_iff_eq, beq_iff_eq]; exact M.inj
theorem Mon.filterE {signs : List Nat} {c : Nat} : ((signs.map f).filter fun s => s == f c) = (signs.filter fun s => s == c).map f := by
 rw [List.filter_map]
 congr 1
 refine List.filter_congr fun s _ => ?_
 show (f s == f c) = (s == c)
 rw [Bool.eq_iff_iff, beq_iff_eq, beq_iff_eq]; exact M.inj
theorem Mon.selR {signs out : List Nat} : selR (signs.map f) (out.map f) = (selR signs out).map (List.map f) := by
 unfold Mine.selR
 simp only [M.eqk (t := out) (z := [40, 63, 33, 41]) (by decide), M.eqk (t := out) (z := [46]) (by decide)]
 split
 ·rfl
 split
 ·rfl
 cases out with
 | nil => rfl
 | cons c q =>
  simp only [List.map_cons, M.at (show (91 : Nat) < 192 by decide), M.at (show (92 : Nat) < 192 by decide), M.at (show (40 : Nat) < 192 by decide), M.at (show (46 : Nat) < 192 by decide), List.map_eq_nil_iff, ne_eq]
  split
  ·rename_i hc
   cases q with
   | nil => rfl
   | cons b q2 =>
    simp only [List.map_cons, M.at (show (94 : Nat) < 192 by decide), List.length_cons, List.length_map]
    have hi := M.inR (l := c :: b :: q2) (signs := signs) (first := if b = 94 then 2 else 1) (q2.length + 1 + 1 + 1) (if b = 94 then 2 else 1) []
    simp only [List.map_cons, List.map_nil] at hi
    rw [hi]
    cases Mine.inR (c :: b :: q2) (if b = 94 then 2 else 1) signs (q2.length + 1 + 1 + 1) (if b = 94 then 2 else 1) [] with
    | none => rfl
    | some p =>
     obtain ⟨size, mem⟩ := p
     simp only [Option.map_some]
     split
     ·simp only [Option.map_some]
      congr 1
      rw [List.filter_map]
      congr 1
      refine List.filter_congr fun s _ => ?_
      show (((mem.map f).any fun c => c == f s) != (f b == 94)) = _
      rw [M.anyE, M.beq (by decide)]
     rfl
  split
  ·cases q with
   | nil => rfl
   | cons d q2 =>
    cases q2 with
    | nil =>
     simp only [List.map_cons, List.map_nil, Option.map_some]
     rw [M.filterE]
    | cons _ _ => rfl
  split
  ·simp only [Option.map_some]
   rw [M.filterE]
  rfl
end
noncomputable def baseL : List (List Nat) := rowsL.map fun r => r.map fun c => if c = 120 then 192 else c
noncomputable def subs : List Nat → List (List Nat)
 | [] => [[]]
 | a :: l => subs l ++ (subs l).map (a :: ·)
theorem q50 (p : Nat → Bool) : ∀ l : List Nat, l.filter p ∈ subs l
 | [] => .head _
 | a :: l => by
  unfold subs
  rw [List.filter_cons]
  split
  ·exact List.mem_append_right _ (List.mem_map.mpr ⟨_, q50 p l, rfl⟩)
  exact List.mem_append_left _ (q50 p l)
noncomputable def qa4 (signs mem : List Nat) (b : Bool) : Bool :=
 match outR (pieceB 193 signs mem b) with
 | none => false
 | some out => match selR signs out with
  | none => false
  | some sel => (signs.all fun s => sel.contains s == mem.contains s) && (out.head? != some 42) && (cntP out == 0) && decide (out.length ≤ 40) && (!out.isEmpty)
theorem qz2 : (baseL.all fun signs => (subs signs).all fun mem => qa4 signs mem true && qa4 signs mem false) = true := by decide +kernel
theorem Mon.cntP {f : Nat → Nat} (M : Mon f) : ∀ l : List Nat, cntP (l.map f) = cntP l
 | [] => rfl
 | a :: r => by
  show (if f a = 46 ∧ (r.map f).head? = some 42 then 1 else 0) + Mine.cntP (r.map f) = (if a = 46 ∧ r.head? = some 42 then 1 else 0) + Mine.cntP r
  rw [Mon.cntP M r]
  have : (r.map f).head? = some 42 ↔ r.head? = some 42 := by
   cases r with
   | nil => simp
   | cons b r => simp [M.at (show (42 : Nat) < 192 by decide)]
  simp only [M.at (show (46 : Nat) < 192 by decide), this]
structure PieceOK (signs mem : List Nat) (p out sel : List Nat) : Prop where
 hout : outR p = some out
 hsel : selR signs out = some sel
 hmem : ∀ s ∈ signs, sel.contains s = mem.contains s
 head : out.head? ≠ some 42
 cnt : cntP out = 0
 len : out.length ≤ 40
 ne : out ≠ []
noncomputable def fOf (x c : Nat) : Nat := if c < 192 then c else if c = 192 then x else c + 49999
theorem z70 (x : Nat) (h1 : 192 ≤ x) (h2 : x < 50192) : Mon (fOf x) where
 fix c h := by unfold fOf; rw [if_pos h]
 mono a b h := by
  unfold fOf
  split <;> split <;> (try split) <;> (try split) <;> omega
theorem qr0 (d : Int) : ∃ base x, base ∈ baseL ∧ 192 ≤ x ∧ x < 50192 ∧ q01 d = base.map (fOf x) := by
 have h1 := q43 d (b := 10) (by decide)
 have h2 := q44 d (b := 10) (by decide)
 have h3 := q43 (d.fdiv 10) (b := 50000) (by decide)
 have h4 := q44 (d.fdiv 10) (b := 50000) (by decide)
 have hk : (d.fmod 10).toNat < rowsL.length := by show _ < 10; omega
 refine ⟨(rowsL.getD (d.fmod 10).toNat []).map fun c => if c = 120 then 192 else c, (192 + (d.fdiv 10).fmod 50000).toNat, ?_, by omega, by omega, ?_⟩
 ·unfold baseL
  refine List.mem_map.mpr ⟨_, ?_, rfl⟩
  rw [List.getD_eq_getElem?_getD, List.getElem?_eq_getElem hk]
  exact List.getElem_mem _
 unfold q01
 rw [List.map_map]
 have hrow : ∀ c ∈ rowsL.getD (d.fmod 10).toNat [], c < 192 := by
  have : ∀ k < 10, ∀ c ∈ rowsL.getD k [], c < 192 := by decide
  exact this _ hk
 refine List.map_congr_left fun c hc => ?_
 have h192 := hrow c hc
 have e : ([c] == cs "x") = (c == 120) := by
  show (([c] : List Nat) == [120]) = _
  by_cases q : c = 120
  ·subst q; rfl
  have a1 : (([c] : List Nat) == [120]) = false := by simp [q]
  have a2 : (c == 120) = false := by simp [q]
  rw [a1, a2]
 rw [e]
 show _ = fOf _ (if c = 120 then 192 else c)
 by_cases q : c = 120
 ·subst q; rfl
 rw [if_neg (by simp [q]), if_neg q]
 unfold fOf
 rw [if_pos h192]
theorem qv7 {signs m m' : List Nat} (h : ∀ s ∈ signs, m.contains s = m'.contains s) : outOf signs m = outOf signs m' := by
 unfold outOf
 exact List.filter_congr fun c hc => by rw [h c hc]
theorem ql0 {signs m m' : List Nat} {b : Bool} (h : ∀ s ∈ signs, m.contains s = m'.contains s) : q13 signs m b = q13 signs m' b := by
 unfold q13
 rw [qv7 h]
theorem z11 (d : Int) (mem : List Nat) (b : Bool) : ∃ out sel, PieceOK (q01 d) mem (q13 (q01 d) mem b) out sel := by
 obtain ⟨base, x, hb, hx1, hx2, hs⟩ := qr0 d
 have M := z70 x hx1 hx2
 rw [hs]
 have hm0 := q50 (fun s => mem.contains (fOf x s)) base
 generalize hm : base.filter (fun s => mem.contains (fOf x s)) = mem0 at hm0
 have hc : ∀ s ∈ base, mem0.contains s = mem.contains (fOf x s) := fun s hs => by
  rw [← hm, Bool.eq_iff_iff, List.contains_iff_mem, List.mem_filter]
  exact ⟨fun h => h.2, fun h => ⟨hs, h⟩⟩
 have hcf : ∀ s ∈ base.map (fOf x), mem.contains s = (mem0.map (fOf x)).contains s := fun s hs => by
  obtain ⟨t, ht, rfl⟩ := List.mem_map.mp hs
  rw [M.mem, hc t ht]
 have hcheck : qa4 base mem0 b = true := by
  have h1 := List.all_eq_true.mp qz2 base hb
  have h2 := List.all_eq_true.mp h1 mem0 hm0
  rw [Bool.and_eq_true] at h2
  cases b
  ·exact h2.2
  exact h2.1
 have hbig : fOf x 193 = 50192 := rfl
 have hp : q13 (base.map (fOf x)) mem b = (pieceB 193 base mem0 b).map (fOf x) := by
  rw [ql0 hcf, ← qv4, ← hbig, M.pieceB]
 unfold qa4 at hcheck
 cases ho : outR (pieceB 193 base mem0 b) with
 | none => rw [ho] at hcheck; cases hcheck
 | some out =>
  rw [ho] at hcheck
  dsimp only at hcheck
  cases hsl : selR base out with
  | none => rw [hsl] at hcheck; cases hcheck
  | some sel =>
   rw [hsl] at hcheck
   simp only [Bool.and_eq_true, List.all_eq_true, beq_iff_eq, bne_iff_ne, ne_eq, decide_eq_true_eq, Bool.not_eq_true'] at hcheck
   obtain ⟨⟨⟨⟨c1, c2⟩, c3⟩, c4⟩, c5⟩ := hcheck
   refine ⟨out.map (fOf x), sel.map (fOf x), ?_, ?_, fun s hs => ?_, ?_, ?_, ?_, ?_⟩
   ·rw [hp, M.outR, ho]; rfl
   ·rw [M.selR, hsl]; rfl
   ·obtain ⟨t, ht, rfl⟩ := List.mem_map.mp hs
    rw [M.mem, c1 t ht, hc t ht]
   ·cases out with
    | nil => simp
    | cons a r =>
     intro e
     apply c2
     simp only [List.map_cons, List.head?_cons, Option.some.injEq] at e ⊢
     exact (M.at (by decide)).mp e
   ·rw [M.cntP, c3]
   ·rw [List.length_map]; exact c4
   intro e
   rw [List.map_eq_nil_iff] at e
   rw [e] at c5; cases c5
noncomputable def oR (p : List Nat) : List Nat := (outR p).getD []
noncomputable def eR (signs p : List Nat) : List Nat := (selR signs (oR p)).getD []
structure POK (signs p : List Nat) : Prop where
 hout : outR p = some (oR p)
 hsel : selR signs (oR p) = some (eR signs p)
 head : (oR p).head? ≠ some 42
 cnt : cntP (oR p) = 0
 len : (oR p).length ≤ 40
 ne : oR p ≠ []
theorem PieceOK.pok {signs mem p out sel : List Nat} (P : PieceOK signs mem p out sel) : POK signs p ∧ ∀ s ∈ signs, (eR signs p).contains s = mem.contains s := by
 have h1 : oR p = out := by unfold oR; rw [P.hout]; rfl
 have h2 : eR signs p = sel := by unfold eR; rw [h1, P.hsel]; rfl
 exact ⟨⟨by rw [h1]; exact P.hout, by rw [h1, h2]; exact P.hsel, by rw [h1]; exact P.head, by rw [h1]; exact P.cnt, by rw [h1]; exact P.len, by rw [h1]; exact P.ne⟩, by rw [h2]; exact P.hmem⟩
theorem qn9 {signs : List Nat} (k : Nat) (rest : List Nat) : ∀ (ps : List (List Nat)) (res : List Part), (∀ p ∈ ps, POK signs p) → trR (k + ps.length) (ps.flatten ++ rest) res = trR k rest (res ++ (ps.map oR).map some)
 | [], res, _ => by simp
 | p :: ps, res, h => by
  rw [List.flatten_cons, List.append_assoc]
  show trR (k + ps.length + 1) _ _ = _
  rw [z03 (h p (.head _)).hout, qn9 k rest ps _ fun q m => h q (.tail _ m), List.append_assoc]; rfl
theorem q45 {signs : List Nat} {rest : List Nat} (hr : rest.head? ≠ some 42) : ∀ ps : List (List Nat), (∀ p ∈ ps, POK signs p) → ((ps.map oR).flatten ++ rest).head? ≠ some 42
 | [], _ => hr
 | p :: ps, h => by
  rw [List.map_cons, List.flatten_cons, List.append_assoc]
  have P := h p (.head _)
  cases q : oR p with
  | nil => exact absurd q P.ne
  | cons a r => have := P.head; rw [q] at this; exact this
theorem qa1 {signs : List Nat} (k : Nat) {rest : List Nat} (hr : rest.head? ≠ some 42) (star : Int) : ∀ (ps : List (List Nat)) (items : List (List Nat)), (∀ p ∈ ps, POK signs p) → readR signs (k + ps.length) ((ps.map oR).flatten ++ rest) items star = readR signs k rest (items ++ ps.map (eR signs)) star
 | [], items, _ => by simp
 | p :: ps, items, h => by
  have P := h p (.head _)
  have hh := q45 hr ps fun q m => h q (.tail _ m)
  rw [List.map_cons, List.flatten_cons, List.append_assoc]
  show readR signs (k + ps.length + 1) _ _ _ = _
  rw [qe1 (fun e => P.ne (List.append_eq_nil_iff.mp e).1) (qr3 P.hsel hh _ _), qa1 k hr star ps _ fun q m => h q (.tail _ m), List.append_assoc]; rfl
theorem qg6 {signs : List Nat} {rest : List Nat} (hr : rest.head? ≠ some 42) : ∀ ps : List (List Nat), (∀ p ∈ ps, POK signs p) → cntP ((ps.map oR).flatten ++ rest) = cntP rest
 | [], _ => rfl
 | p :: ps, h => by
  rw [List.map_cons, List.flatten_cons, List.append_assoc, qa2 _ _ (q45 hr ps fun q m => h q (.tail _ m)), (h p (.head _)).cnt, qg6 hr ps fun q m => h q (.tail _ m), Nat.zero_add]
theorem q56 : ∀ l : List (List Nat), jn [] l = l.flatten
 | [] => rfl
 | [a] => by show a = a ++ []; rw [List.append_nil]
 | a :: b :: r => by
  show a ++ [] ++ jn [] (b :: r) = a ++ (b :: r).flatten
  rw [q56 (b :: r), List.append_nil]
theorem qb3 (l : List (List Nat)) (r : List Part) (hr : r = [] ∨ r.head? = some none) : runN (l.map some ++ r) = l.length := by
 unfold runN
 induction l with
 | nil =>
  cases r with
  | nil => rfl
  | cons a r =>
   rcases hr with h | h
   ·cases h
   simp only [List.head?_cons, Option.some.injEq] at h
   subst h; rfl
 | cons a l ih =>
  show ((some a :: (l.map some ++ r)).takeWhile _).length = _
  rw [List.takeWhile_cons]
  show ((some a) :: (l.map some ++ r).takeWhile _).length = _
  rw [List.length_cons, ih]; rfl
theorem qa6 (l : List (List Nat)) : txts (l.map some) = l := by
 unfold txts
 rw [List.map_map]
 exact List.map_id' l
theorem qw9 (a : List (List Nat)) : joinR (a.map some) = some ([40, 63, 115, 58] ++ a.flatten ++ [41, 92, 90]) := by
 have hn := qb3 a [] (.inl rfl)
 rw [List.append_nil] at hn
 unfold joinR
 rw [hn, List.drop_of_length_le (by rw [List.length_map]; exact Nat.le_refl _), List.take_of_length_le (by rw [List.length_map]; exact Nat.le_refl _), qa6]
 show some _ = _
 dsimp only
 rw [q56]
theorem z18 (a b : List (List Nat)) : joinR (a.map some ++ none :: b.map some) = some ([40, 63, 115, 58] ++ (a.flatten ++ ([46, 42] ++ b.flatten)) ++ [41, 92, 90]) := by
 have hn := qb3 a (none :: b.map some) (.inr rfl)
 have hb := qb3 b [] (.inl rfl)
 rw [List.append_nil] at hb
 have hl : a.length = (a.map (some (α := List Nat))).length := (List.length_map ..).symm
 unfold joinR
 rw [hn]
 have h1 : (a.map some ++ none :: b.map some).drop a.length = none :: b.map some := by rw [hl, List.drop_left]
 have h2 : (a.map some ++ none :: b.map some).take a.length = a.map some := by rw [hl, List.take_left]
 rw [h1, h2, qa6]
 have h3 : ∃ k, (a.map some ++ none :: b.map some).length + 1 = k + 1 := ⟨_, rfl⟩
 obtain ⟨k, hk⟩ := h3
 rw [hk]
 unfold loopR
 dsimp only
 cases b with
 | nil =>
  rw [List.map_nil, if_pos rfl]
  show some _ = _
  dsimp only
  rw [q56, List.flatten_append]
  show some ([40, 63, 115, 58] ++ (a.flatten ++ ([46, 42] ++ [])) ++ [41, 92, 90]) = _
  rfl
 | cons c b =>
  rw [if_neg (by simp), hb, if_neg (by simp), List.drop_of_length_le (by rw [List.length_map]; exact Nat.le_refl _), if_pos rfl, List.take_of_length_le (by rw [List.length_map]; exact Nat.le_refl _), qa6]
  show some _ = _
  dsimp only
  rw [q56, q56, List.flatten_append]
  show some ([40, 63, 115, 58] ++ (a.flatten ++ ([46, 42] ++ ((c :: b).flatten ++ []))) ++ [41, 92, 90]) = _
  rw [List.append_nil]
theorem z30 {α : Type} (i : Int) (l : List α) : cut none (some i) l = l.take (clipAt l.length i) ∧ cut (some i) none l = l.drop (clipAt l.length i) := by
 constructor
 ·show (l.drop 0).take (clipAt l.length i - 0) = _
  rw [List.drop_zero, Nat.sub_zero]
 show (l.drop (clipAt l.length i)).take (l.length - clipAt l.length i) = _
 exact List.take_of_length_le (by rw [List.length_drop]; exact Nat.le_refl _)
theorem qp6 {α : Type} (m : List α) (a b c : α) (p : List α) : cut (some (-3)) none (p ++ m ++ [a, b, c]) = [a, b, c] := by
 unfold cut lowAt q49
 show ((p ++ m ++ [a, b, c]).drop (clipAt (p ++ m ++ [a, b, c]).length (-3))).take ((p ++ m ++ [a, b, c]).length - clipAt (p ++ m ++ [a, b, c]).length (-3)) = _
 have hl : (p ++ m ++ [a, b, c]).length = (p ++ m).length + 3 := by rw [List.length_append (as := p ++ m)]; rfl
 have : clipAt (p ++ m ++ [a, b, c]).length (-3) = (p ++ m).length := (qg9 _ 2).trans (by rw [hl]; rfl)
 rw [this, List.drop_left, hl]
 rw [List.take_of_length_le (by simp)]
theorem qy9 {α : Type} (m : List α) (a b c d x y z : α) : cut (some 4) (some (-3)) ([a, b, c, d] ++ m ++ [x, y, z]) = m := by
 unfold cut lowAt q49
 show (([a, b, c, d] ++ m ++ [x, y, z]).drop (clipAt ([a, b, c, d] ++ m ++ [x, y, z]).length 4)).take (clipAt ([a, b, c, d] ++ m ++ [x, y, z]).length (-3) - clipAt ([a, b, c, d] ++ m ++ [x, y, z]).length 4) = m
 have hl : ([a, b, c, d] ++ m ++ [x, y, z]).length = m.length + 7 := by simp
 have h1 : clipAt ([a, b, c, d] ++ m ++ [x, y, z]).length 4 = 4 := (qa3 _ 4).trans (by rw [hl]; exact Nat.min_eq_left (Nat.le_trans (by decide) (Nat.le_add_left 7 _)))
 have h2 : clipAt ([a, b, c, d] ++ m ++ [x, y, z]).length (-3) = m.length + 4 := (qg9 _ 2).trans (by rw [hl]; rfl)
 rw [h1, h2]
 show (m ++ [x, y, z]).take (m.length + 4 - 4) = m
 rw [Nat.add_sub_cancel, List.take_left]
theorem qm6 : ∀ l : List (List Nat), (∀ x ∈ l, x.length ≤ 40) → l.flatten.length ≤ 40 * l.length
 | [], _ => Nat.le_refl _
 | a :: l, h => by
  rw [List.flatten_cons, List.length_append, List.length_cons]
  have := qm6 l fun x m => h x (.tail _ m)
  have := h a (.head _)
  lia
theorem qe9 : ∀ l : List (List Nat), (∀ x ∈ l, x.length ≤ 40) → wt (l.map some) ≤ 50 * l.length
 | [], _ => Nat.le_refl _
 | a :: l, h => by
  rw [List.map_cons, qa5, List.length_cons]
  have := qe9 l fun x m => h x (.tail _ m)
  have := h a (.head _)
  show a.length + 10 + _ ≤ _
  lia
theorem z88 {signs : List Nat} {ps : List (List Nat)} (h : ∀ p ∈ ps, POK signs p) (hn : 1 ≤ ps.length) (hn5 : ps.length ≤ 5) (star : Int) (hs : star = -1 ∨ ∃ s : Nat, star = s ∧ s ≤ ps.length) :
  ∃ k parts txt k2, trR k (jn [] (cut none (some star) ps ++ q11 star ++ cut (some star) none ps)) [] = some parts ∧ wt parts ≤ 2 ^ 20 ∧ joinR parts = some txt ∧ txt.length ≤ 2 ^ 16 ∧ cut none (some 4) txt ++ cut (some (-3)) none txt = [40, 63, 115, 58, 41, 92, 90] ∧
   cnt txt [46, 42] = (q11 star).length ∧ readR signs k2 (cut (some 4) (some (-3)) txt) [] (-1) = some (ps.map (eR signs), star) := by
 have hlen : ∀ x ∈ ps.map oR, x.length ≤ 40 := fun x hx => by
  obtain ⟨p, hp, rfl⟩ := List.mem_map.mp hx
  exact (h p hp).len
 have c4 : ∀ m : List Nat, cut none (some 4) ([40, 63, 115, 58] ++ m ++ [41, 92, 90]) = [40, 63, 115, 58] := fun m => by
  have : cut (none : Option Int) (some 4) ([40, 63, 115, 58] ++ m ++ [41, 92, 90]) = cut (some ((0 : Nat) : Int)) (some ((4 : Nat) : Int)) ([40, 63, 115, 58] ++ m ++ [41, 92, 90]) := rfl
  rw [this, q58, List.append_assoc]; rfl
 have hc : ∀ m : List Nat, m.head? ≠ some 42 → cntP ([40, 63, 115, 58] ++ m ++ [41, 92, 90]) = cntP (m ++ [41, 92, 90]) := fun m hm => by
  rw [List.append_assoc, qa2 _ _ (by cases m with | nil => simp | cons a m => exact hm)]
  show 0 + _ = _
  rw [Nat.zero_add]
 rcases hs with rfl | ⟨s, rfl, hsl⟩
 ·obtain ⟨e1, e2⟩ := z30 (-1) ps
  have hst : q11 (-1) = [] := rfl
  have hp : cut none (some (-1)) ps ++ q11 (-1) ++ cut (some (-1)) none ps = ps := by rw [e1, e2, hst, List.append_nil, List.take_append_drop]
  have ht := qn9 1 [] ps [] h
  rw [List.append_nil, List.nil_append] at ht
  have hr := qa1 1 (rest := []) (by simp) (-1) ps [] h
  rw [List.append_nil, List.nil_append] at hr
  have hf := qm6 (ps.map oR) hlen
  have hh := q45 (rest := []) (by simp) ps h
  rw [List.length_map] at hf
  rw [List.append_nil] at hh
  refine ⟨1 + ps.length, (ps.map oR).map some, [40, 63, 115, 58] ++ (ps.map oR).flatten ++ [41, 92, 90], 1 + ps.length, ?_, ?_, qw9 _, ?_, ?_, ?_, ?_⟩
  ·rw [hp, q56, ht]; rfl
  ·have := qe9 (ps.map oR) hlen
   rw [List.length_map] at this; lia
  ·rw [List.length_append, List.length_append]; show 4 + _ + 3 ≤ _; lia
  ·rw [c4, qp6]; rfl
  ·rw [z42, hc _ hh, qg6 (by simp) ps h]; rfl
  rw [qy9, hr]; rfl
 have hpt : ∀ p ∈ ps.take s, POK signs p := fun p m => h p (List.mem_of_mem_take m)
 have hpd : ∀ p ∈ ps.drop s, POK signs p := fun p m => h p (List.mem_of_mem_drop m)
 have hst : q11 (s : Int) = [[42]] := if_pos (Int.natCast_nonneg s)
 have hp : jn [] (cut none (some (s : Int)) ps ++ q11 (s : Int) ++ cut (some (s : Int)) none ps) = (ps.take s).flatten ++ ([42] ++ ((ps.drop s).flatten ++ [])) := by
  rw [qg5, q29, hst, q56, List.flatten_append, List.flatten_append, List.append_assoc, List.append_nil]; rfl
 have hl2 : (ps.take s).length + (ps.drop s).length = ps.length := by rw [← List.length_append, List.take_append_drop]
 have ht0 := qn9 1 [] (ps.drop s) ([] ++ ((ps.take s).map oR).map some ++ [none]) hpd
 have ht1 := qn9 (signs := signs) (1 + (ps.drop s).length + 1) ([42] ++ ((ps.drop s).flatten ++ [])) (ps.take s) [] hpt
 rw [z47 _ _ _ (by
  rw [List.nil_append]
  intro e
  have := List.mem_of_getLast? e
  obtain ⟨x, _, q⟩ := List.mem_map.mp this
  cases q), ht0] at ht1
 have hr0 := qa1 1 (rest := []) (by simp) (((ps.take s).map (eR signs)).length : Int) (ps.drop s) ([] ++ (ps.take s).map (eR signs)) hpd
 have hd2 : ([46, 42] ++ (((ps.drop s).map oR).flatten ++ [])).head? ≠ some 42 := by simp
 have hr1 := qa1 (1 + (ps.drop s).length + 1) hd2 (-1) (ps.take s) [] hpt
 rw [qe1 (by simp) (qu7 _ _), List.nil_append] at hr1
 rw [List.nil_append] at hr0
 rw [hr0] at hr1
 have hlt : ((ps.take s).map (eR signs)).length = s := by rw [List.length_map, List.length_take]; lia
 rw [hlt] at hr1
 have hfl := qm6 (ps.map oR) hlen
 rw [List.length_map] at hfl
 have hfe : (ps.map oR).flatten = ((ps.take s).map oR).flatten ++ ((ps.drop s).map oR).flatten := by rw [← List.flatten_append, ← List.map_append, List.take_append_drop]
 refine ⟨1 + (ps.drop s).length + 1 + (ps.take s).length, ((ps.take s).map oR).map some ++ none :: ((ps.drop s).map oR).map some, [40, 63, 115, 58] ++ (((ps.take s).map oR).flatten ++ ([46, 42] ++ ((ps.drop s).map oR).flatten)) ++ [41, 92, 90], 1 + (ps.drop s).length + 1 + (ps.take s).length, ?_, ?_, z18 _ _, ?_, ?_, ?_, ?_⟩
 ·rw [hp, ht1, List.nil_append, List.append_assoc]; rfl
 ·rw [qt2, qa5]
  have h1 := qe9 ((ps.take s).map oR) fun x hx => by
   obtain ⟨p, hp, rfl⟩ := List.mem_map.mp hx
   exact (hpt p hp).len
  have h2 := qe9 ((ps.drop s).map oR) fun x hx => by
   obtain ⟨p, hp, rfl⟩ := List.mem_map.mp hx
   exact (hpd p hp).len
  rw [List.length_map] at h1 h2
  show _ + (0 + 10 + _) ≤ _
  lia
 ·rw [hfe, List.length_append] at hfl
  rw [List.length_append, List.length_append, List.length_append, List.length_append]; show 4 + (_ + (2 + _)) + 3 ≤ _; lia
 ·rw [c4, qp6]; rfl
 ·have hd3 : ([46, 42] ++ (((ps.drop s).map oR).flatten ++ [41, 92, 90])).head? ≠ some 42 := by simp
  rw [z42, hc _ (q45 (by simp) _ hpt), List.append_assoc, List.append_assoc, qg6 hd3 _ hpt, qa2 _ _ (q45 (by simp) _ hpd), qg6 (by simp) _ hpd, hst]; rfl
 rw [qy9]
 have e : ((ps.take s).map oR).flatten ++ ([46, 42] ++ ((ps.drop s).map oR).flatten) = ((ps.take s).map oR).flatten ++ ([46, 42] ++ (((ps.drop s).map oR).flatten ++ [])) := by rw [List.append_nil]
 rw [e, hr1, ← List.map_append, List.take_append_drop]; rfl
theorem ar90 {s L m : Nat} (a : s ≤ L) (b : L ≤ m) : s + (m - L) = m - (L - s) := by omega
theorem z96 {h t l : Nat} (a : l ≤ h) (b : l ≤ t) : min (h - l) h + l + (t - l) = h + t - l := by omega
theorem lap1 {h t l : Nat} (a : l ≤ h) (b : 1 ≤ t) : 1 ≤ h + t - l := by omega
theorem arA {h t l m : Nat} (a : l ≤ h) (q : h + t - l = m) : t ≤ m ∧ m - t = h - l := by omega
theorem arC {h t l m : Nat} (a : l ≤ h) (e : (m : Int) = ((h + t : Nat) : Int) - (l : Int)) : h + t - l = m := by omega
noncomputable def pre : List (List Nat) → List Nat → Bool
 | [], _ => true
 | _ :: _, [] => false
 | s :: ss, c :: n => s.contains c && pre ss n
theorem qv0 : ∀ (ss : List (List Nat)) (n : List Nat), pre ss n = true → ss.length ≤ n.length
 | [], _, _ => Nat.zero_le _
 | _ :: _, [], h => by cases h
 | s :: ss, c :: n, h => by
  unfold pre at h
  rw [Bool.and_eq_true] at h
  exact Nat.succ_le_succ (qv0 ss n h.2)
theorem q51 : ∀ (a b : List (List Nat)) (n : List Nat), pre (a ++ b) n = (pre a n && pre b (n.drop a.length))
 | [], _, _ => by simp [pre]
 | s :: a, b, [] => rfl
 | s :: a, b, c :: n => by
  show (s.contains c && pre (a ++ b) n) = ((s.contains c && pre a n) && pre b (n.drop a.length))
  rw [q51 a b n, Bool.and_assoc]
theorem qv2 {signs : List Nat} : ∀ (j : Nat) (n : List Nat), (∀ c ∈ n, c ∈ signs) → j ≤ n.length → pre (List.replicate j signs) n = true
 | 0, _, _, _ => rfl
 | j + 1, [], _, h => by simp at h
 | j + 1, c :: n, hc, h => by
  show (signs.contains c && pre (List.replicate j signs) n) = true
  rw [List.contains_iff_mem.mpr (hc c (.head _)), qv2 j n (fun d m => hc d (.tail _ m)) (Nat.le_of_succ_le_succ h)]; rfl
theorem qi2 {signs : List Nat} : ∀ (a b : List (List Nat)) (n : List Nat), (∀ c ∈ n, c ∈ signs) → a.length = b.length → (∀ k, ∀ c ∈ signs, (a.getD k []).contains c = (b.getD k []).contains c) → pre a n = pre b n
 | [], [], _, _, _, _ => rfl
 | [], _ :: _, _, _, h, _ => by cases h
 | _ :: _, [], _, _, h, _ => by cases h
 | _ :: _, _ :: _, [], _, _, _ => rfl
 | s :: a, t :: b, c :: n, hc, h, hk => by
  show (s.contains c && pre a n) = (t.contains c && pre b n)
  have h0 := hk 0 c (hc c (.head _))
  rw [show s.contains c = t.contains c from h0, qi2 a b n (fun d m => hc d (.tail _ m)) (Nat.succ.inj h) fun k => hk (k + 1)]
theorem z00 (e : List Nat) (a : Nat) : (e.any fun c => c == a) = e.contains a := by
 rw [Bool.eq_iff_iff, List.any_eq_true, List.contains_iff_mem]
 constructor
 ·rintro ⟨c, h, q⟩
  rw [← eq_of_beq q]; exact h
 intro h; exact ⟨a, h, beq_self_eq_true _⟩
theorem qq0 (e : List Nat) (a : Nat) : (e.any fun c => [c] == [a]) = e.contains a := by
 rw [← z00]
 congr 1
 funext c
 by_cases h : c = a
 ·subst h; simp
 have h1 : (([c] : List Nat) == [a]) = false := by simp [h]
 have h2 : (c == a) = false := by simp [h]
 rw [h1, h2]
theorem ql3 : ∀ (row : List (List Nat)) (n : List Nat), row.length = n.length → (misT n row).isEmpty = pre row n
 | [], [], _ => rfl
 | [], _ :: _, h => by cases h
 | _ :: _, [], h => by cases h
 | s :: row, c :: n, h => by
  have ih := ql3 row n (Nat.succ.inj h)
  unfold misT at ih ⊢
  rw [List.zip_cons_cons, List.filter_cons, z00]
  show _ = (s.contains c && pre row n)
  cases s.contains c with
  | true => exact ih
  | false => rfl
theorem z23 (signs : List Nat) (items : List (List Nat)) (n : List Nat) : fitT signs items (-1) n = (decide (items.length = n.length) && pre items n) := by
 unfold fitT rowT
 rw [if_neg (by decide)]
 by_cases h : items.length = n.length
 ·rw [ql3 _ _ h, h]; simp
 have h1 : (items.length == n.length) = false := by simp [h]
 rw [h1, decide_eq_false h]; rfl
theorem qg0 {signs : List Nat} {items : List (List Nat)} {s : Nat} (hs : s ≤ items.length) {n : List Nat} (hn : ∀ c ∈ n, c ∈ signs) : fitT signs items (s : Int) n = (decide (items.length ≤ n.length) && (pre (items.take s) n && pre (items.drop s) (n.drop (n.length - (items.length - s))))) := by
 unfold fitT rowT
 rw [if_pos (Int.natCast_nonneg s), qg5, q29]
 have hl : (items.take s ++ List.replicate (n.length - items.length) signs ++ items.drop s).length = items.length + (n.length - items.length) := by
  rw [List.length_append, List.length_append, List.length_replicate, List.length_take, List.length_drop, Nat.min_eq_left hs, Nat.add_right_comm, Nat.add_sub_of_le hs]
 by_cases h : items.length ≤ n.length
 ·have hl2 : (items.take s ++ List.replicate (n.length - items.length) signs ++ items.drop s).length = n.length := hl.trans (Nat.add_sub_of_le h)
  have ht : (items.take s).length = s := by rw [List.length_take, Nat.min_eq_left hs]
  rw [ql3 _ _ hl2, hl2, q51, q51, List.length_append, ht, List.length_replicate, decide_eq_true h]
  rw [qv2 (n.length - items.length) (n.drop s) (fun c m => hn c (List.mem_of_mem_drop m)) (by rw [List.length_drop]; exact Nat.sub_le_sub_left hs _)]
  have : s + (n.length - items.length) = n.length - (items.length - s) := ar90 hs h
  rw [this]; simp
 have h1 : ((items.take s ++ List.replicate (n.length - items.length) signs ++ items.drop s).length == n.length) = false := by
  rw [hl]; exact beq_eq_false_iff_ne.mpr fun e => h (e ▸ Nat.le_add_right ..)
 rw [h1, decide_eq_false h]; rfl
theorem qv1 : ∀ (ss : List (List Nat)) (n : List Nat), pre ss n = true ↔ ∀ k, k < ss.length → ((ss.getD k []).any fun c => [c] == (n.drop k).take 1) = true
 | [], n => by simp [pre]
 | s :: ss, [] => by
  constructor
  ·intro h; cases h
  intro h
  have := h 0 (by simp)
  simp at this
 | s :: ss, c :: n => by
  show (s.contains c && pre ss n) = true ↔ _
  rw [Bool.and_eq_true, qv1 ss n]
  constructor
  ·rintro ⟨h0, h1⟩ k hk
   match k with
   | 0 => show (s.any fun d => [d] == [c]) = true; rw [qq0]; exact h0
   | k + 1 => exact h1 k (Nat.lt_of_succ_lt_succ hk)
  intro h
  refine ⟨?_, fun k hk => h (k + 1) (Nat.succ_lt_succ hk)⟩
  have := h 0 (Nat.zero_lt_succ _)
  rw [← qq0]; exact this
theorem qp3 (n : List Nat) (i : Nat) (ss : List (List Nat)) : q21 n (i : Int) ss = pre ss (n.drop i) := by
 unfold q21 qw3
 rw [decide_eq_true (Int.natCast_nonneg i), Bool.true_and, Bool.eq_iff_iff, qv1, List.isEmpty_iff, List.filter_eq_nil_iff]
 have hcut : ∀ k : Nat, cut (some ((i : Int) + (k : Int))) (some ((i : Int) + (k : Int) + 1)) n = ((n.drop i).drop k).take 1 := fun k => by
  rw [show ((i : Int) + (k : Int) + 1) = ((i + k + 1 : Nat) : Int) from rfl, show ((i : Int) + (k : Int)) = ((i + k : Nat) : Int) from rfl, q58, List.drop_take, List.drop_drop, Nat.add_sub_cancel_left]
 constructor
 ·intro h k hk
  have := h (k : Int) (by
   unfold rngL
   exact List.mem_map.mpr ⟨k, List.mem_range.mpr (by rw [Int.sub_zero, Int.toNat_natCast]; exact hk), Int.zero_add _⟩)
  rw [Int.toNat_natCast, hcut] at this
  simpa using this
 intro h k hk
 unfold rngL at hk
 obtain ⟨q, hq, rfl⟩ := List.mem_map.mp hk
 have hq2 := List.mem_range.mp hq
 rw [Int.sub_zero, Int.toNat_natCast] at hq2
 rw [Int.zero_add, Int.toNat_natCast, hcut, h q hq2]; decide
theorem z22 (n : List Nat) (i : Int) (hi : i < 0) (ss : List (List Nat)) : q21 n i ss = false := by
 unfold q21
 rw [decide_eq_false (Int.not_le.mpr hi)]; rfl
theorem qf8 {signs : List Nat} : ∀ q, ∀ n ∈ q02 signs q, ∀ c ∈ n, c ∈ signs
 | 0, n, hn, c, hc => by rw [List.mem_singleton.mp hn] at hc; cases hc
 | q + 1, n, hn, c, hc => by
  rcases List.mem_append.mp hn with hn | hn
  ·exact qf8 q n hn c hc
  obtain ⟨a, ha, hn⟩ := List.mem_flatMap.mp hn
  obtain ⟨b, hb, rfl⟩ := List.mem_map.mp hn
  rcases List.mem_append.mp hc with hc | hc
  ·exact qf8 q a (qc7 ha) c hc
  rw [List.mem_singleton.mp hc]; exact hb
theorem z13 (x y : List Nat) (c : Nat) : (meetR x y).contains c = (x.contains c && y.contains c) := by
 unfold meetR outOf
 rw [Bool.eq_iff_iff, List.contains_iff_mem, Bool.and_eq_true, List.contains_iff_mem, List.contains_iff_mem, List.mem_filter, Bool.not_eq_true']
 constructor
 ·rintro ⟨h, q⟩
  refine ⟨h, ?_⟩
  cases hy : y.contains c with
  | true => exact List.contains_iff_mem.mp hy
  | false =>
   have : (x.filter fun c => !y.contains c).contains c = true := List.contains_iff_mem.mpr (List.mem_filter.mpr ⟨h, by rw [hy]; rfl⟩)
   rw [this] at q; cases q
 rintro ⟨h, q⟩
 refine ⟨h, ?_⟩
 cases hy : (x.filter fun c => !y.contains c).contains c with
 | false => rfl
 | true =>
  have := (List.mem_filter.mp (List.contains_iff_mem.mp hy)).2
  rw [List.contains_iff_mem.mpr q] at this; cases this
theorem qo7 : ∀ (ks : List Nat) (x y : Nat → List Nat) (n : List Nat), pre (ks.map fun k => meetR (x k) (y k)) n = (pre (ks.map x) n && pre (ks.map y) n)
 | [], _, _, _ => rfl
 | _ :: _, _, _, [] => rfl
 | k :: ks, x, y, c :: n => by
  show ((meetR (x k) (y k)).contains c && pre (ks.map fun k => meetR (x k) (y k)) n) = (((x k).contains c && pre (ks.map x) n) && ((y k).contains c && pre (ks.map y) n))
  rw [qo7 ks x y n, z13]
  cases (x k).contains c <;> cases (y k).contains c <;> cases pre (ks.map x) n <;> cases pre (ks.map y) n <;> rfl
theorem qi1 (l : List (List Nat)) (a m : Nat) (h : a + m ≤ l.length) : ((List.range m).map fun k => l.getD (a + k) []) = (l.drop a).take m := by
 refine List.ext_getElem ?_ fun i h1 h2 => ?_
 ·rw [List.length_map, List.length_range, List.length_take, List.length_drop, Nat.min_eq_left (Nat.le_sub_of_add_le' h)]
 rw [List.length_map, List.length_range] at h1
 rw [List.getElem_map, List.getElem_range, List.getElem_take, List.getElem_drop, List.getD_eq_getElem?_getD, List.getElem?_eq_getElem (Nat.lt_of_lt_of_le (Nat.add_lt_add_left h1 a) h)]; rfl
theorem z59 (hd tl : List (List Nat)) (l : Nat) (n : List Nat) (h1 : l ≤ hd.length) (h2 : l ≤ tl.length) : pre (lapR hd tl hd.length l) n = (pre hd n && pre tl (n.drop (hd.length - l))) := by
 unfold lapR
 have e1 : ((List.range l).map fun k => hd.getD (hd.length - l + k) []) = hd.drop (hd.length - l) := by
  rw [qi1 hd _ _ (Nat.le_of_eq (Nat.sub_add_cancel h1)), List.take_of_length_le (by rw [List.length_drop]; exact Nat.le_of_eq (Nat.sub_sub_self h1))]
 have e2 : ((List.range l).map fun k => tl.getD k []) = tl.take l := by
  have := qi1 tl 0 l (by rw [Nat.zero_add]; exact h2)
  simp only [Nat.zero_add, List.drop_zero] at this
  exact this
 have t1 : (hd.take (hd.length - l)).length = hd.length - l := by rw [List.length_take, Nat.min_eq_left (Nat.sub_le ..)]
 have t2 : (tl.take l).length = l := by rw [List.length_take, Nat.min_eq_left h2]
 have hh := q51 (hd.take (hd.length - l)) (hd.drop (hd.length - l)) n
 have ht := q51 (tl.take l) (tl.drop l) (n.drop (hd.length - l))
 rw [List.take_append_drop, t1] at hh
 rw [List.take_append_drop, t2, List.drop_drop] at ht
 rw [q51, q51, List.length_append, t1, List.length_map, List.length_range, qo7, e1, e2, hh, ht]
 cases pre (hd.take (hd.length - l)) n <;> cases pre (hd.drop (hd.length - l)) (n.drop (hd.length - l)) <;> cases pre (tl.take l) (n.drop (hd.length - l)) <;> cases pre (tl.drop l) (n.drop (hd.length - l + l)) <;> rfl
theorem z60 (hd tl : List (List Nat)) (l : Nat) (h1 : l ≤ hd.length) (h2 : l ≤ tl.length) : (lapR hd tl hd.length l).length = hd.length + tl.length - l := by
 unfold lapR
 rw [List.length_append, List.length_append, List.length_map, List.length_range, List.length_take, List.length_drop, z96 h1 h2]
theorem qo5 (d : Int) (row : List (List Nat)) (b : Nat → Bool) (star : Int) (names due : List (List Nat)) (h1 : 1 ≤ row.length) (h5 : row.length ≤ 5) (hs : star = -1 ∨ ∃ s : Nat, star = s ∧ s ≤ row.length)
  (hf : ∀ items : List (List Nat), items.length = row.length → (∀ a n, (∀ c ∈ n, c ∈ q01 d) → ∀ m, pre ((items.drop a).take m) n = pre ((row.drop a).take m) n) → names.filter (fitT (q01 d) items star) = due) : RowOK (q01 d) row b star names due := by
 have hp := fun k => (z11 d (row.getD k []) (b k))
 have hpk : ∀ k, POK (q01 d) (q13 (q01 d) (row.getD k []) (b k)) ∧ ∀ s ∈ q01 d, (eR (q01 d) (q13 (q01 d) (row.getD k []) (b k))).contains s = (row.getD k []).contains s := fun k => by
  obtain ⟨o, e, P⟩ := hp k
  exact P.pok
 have hps : ∀ p ∈ q05 (q01 d) row b, POK (q01 d) p := fun p m => by
  obtain ⟨k, _, rfl⟩ := List.mem_map.mp m
  exact (hpk k).1
 have hl : (q05 (q01 d) row b).length = row.length := by unfold q05; rw [List.length_map, List.length_range]
 obtain ⟨k, parts, txt, k2, r1, r2, r3, r4, r5, r6, r7⟩ := z88 hps (by rw [hl]; exact h1) (by rw [hl]; exact h5) star (by rw [hl]; exact hs)
 refine ⟨k, parts, txt, k2, _, _, r1, r2, r3, r4, r5, r6, r7, ?_, ?_, ?_, hf _ ?_ ?_⟩
 ·rw [List.length_map, hl]; exact Nat.le_trans h5 (by decide)
 ·rcases hs with rfl | ⟨s, rfl, _⟩
  ·exact Int.le_refl _
  exact Int.le_trans (by decide) (Int.natCast_nonneg s)
 ·rcases hs with rfl | ⟨s, rfl, q⟩
  ·decide
  exact Int.ofNat_le.mpr (Nat.le_trans q (Nat.le_trans h5 (by decide)))
 ·rw [List.length_map, hl]
 intro a n hn m
 refine qi2 (signs := q01 d) _ _ _ hn ?_ fun q c hc => ?_
 ·rw [List.length_take, List.length_take, List.length_drop, List.length_drop, List.length_map, hl]
 rw [List.getD_eq_getElem?_getD, List.getD_eq_getElem?_getD, List.getElem?_take, List.getElem?_take]
 by_cases hq : q < m
 ·rw [if_pos hq, if_pos hq, List.getElem?_drop, List.getElem?_drop, List.getElem?_map]
  unfold q05
  rw [List.getElem?_map]
  by_cases hr : a + q < row.length
  ·rw [List.getElem?_range hr]
   have := (hpk (a + q)).2 c hc
   rw [List.getD_eq_getElem?_getD] at this
   show (eR (q01 d) (q13 (q01 d) (row.getD (a + q) []) (b (a + q)))).contains c = _
   rw [List.getD_eq_getElem?_getD]
   exact this
  rw [show (List.range row.length)[a + q]? = none from List.getElem?_eq_none (by rw [List.length_range]; exact Nat.not_lt.mp hr), show row[a + q]? = none from List.getElem?_eq_none (Nat.not_lt.mp hr)]; rfl
 rw [if_neg hq, if_neg hq]
theorem qn7 {names : List (List Nat)} {f g : List Nat → Bool} : bothR (names.filter f) (names.filter g) = names.filter fun n => f n && g n := by
 unfold bothR
 rw [List.filter_filter]
 refine List.filter_congr fun n hn => ?_
 rw [qh2 hn, Bool.and_comm]
theorem z94 (d0 d1 d2 d3 : Int) : LawOK d0 d1 d2 d3 := by
 unfold LawOK
 obtain ⟨z1, z2, z3⟩ := sz_ok d2
 generalize szOf d2 = sz at *
 obtain ⟨h, t⟩ := sz
 dsimp only at *
 have hh := q99 d0 h (q01 d3)
 have ht := q99 d1 t (q01 d3)
 generalize q18 d0 h (q01 d3) = hd at *
 generalize q18 d1 t (q01 d3) = tl at *
 subst hh
 subst ht
 have d5 : hd.length ≤ 5 := Nat.le_trans (Nat.le_add_right _ _) (Nat.le_succ_of_le z3)
 have l5 : tl.length ≤ 5 := Nat.le_trans (Nat.le_add_left _ _) (Nat.le_succ_of_le z3)
 have hN := qf8 (signs := q01 d3) 4
 generalize q02 (q01 d3) 4 = names at *
 have fH : ∀ n : List Nat, q21 n 0 hd = pre hd n := fun n => qp3 n 0 hd
 have fT : ∀ n : List Nat, q21 n ((n.length : Int) - (tl.length : Int)) tl = (decide (tl.length ≤ n.length) && pre tl (n.drop (n.length - tl.length))) := fun n => by
  by_cases q : tl.length ≤ n.length
  ·rw [show ((n.length : Int) - (tl.length : Int)) = ((n.length - tl.length : Nat) : Int) from subI q, qp3, decide_eq_true q, Bool.true_and]
  rw [z22 _ _ (Int.sub_neg_of_lt (Int.ofNat_lt.mpr (Nat.not_le.mp q))), decide_eq_false q]; rfl
 have hB : bothR (begR names hd) (endR names tl tl.length) = names.filter fun n => q21 n 0 hd && q21 n ((n.length : Int) - (tl.length : Int)) tl := qn7
 intro r row star due hr hdue
 have hrow : ∀ (items rw_ : List (List Nat)), items.length = rw_.length → (∀ a n, (∀ c ∈ n, c ∈ q01 d3) → ∀ m, pre ((items.drop a).take m) n = pre ((rw_.drop a).take m) n) → ∀ n, (∀ c ∈ n, c ∈ q01 d3) → (∀ s, pre (items.take s) n = pre (rw_.take s) n) ∧ (∀ s, pre (items.drop s) n = pre (rw_.drop s) n) ∧ pre items n = pre rw_ n := fun items rw_ hl H n hn => by
  refine ⟨fun s => by have := H 0 n hn s; rwa [List.drop_zero, List.drop_zero] at this, fun s => ?_, ?_⟩
  ·have := H s n hn (rw_.length)
   rwa [List.take_of_length_le (by rw [List.length_drop, hl]; exact Nat.sub_le ..), List.take_of_length_le (by rw [List.length_drop]; exact Nat.sub_le ..)] at this
  have := H 0 n hn (rw_.length)
  rwa [List.drop_zero, List.drop_zero, List.take_of_length_le (Nat.le_of_eq hl), List.take_of_length_le (Nat.le_refl _)] at this
 have dropin : ∀ (n : List Nat) (k : Nat), (∀ c ∈ n, c ∈ q01 d3) → ∀ c ∈ n.drop k, c ∈ q01 d3 := fun n k hn c m => hn c (List.mem_of_mem_drop m)
 match r, hr, hdue with
 | 0, hr, hdue =>
  cases hr; cases hdue
  refine qo5 d3 _ _ _ _ _ z1 d5 (.inr ⟨_, rfl, Nat.le_refl _⟩) fun items hl H => ?_
  unfold begR
  refine List.filter_congr fun n hn => ?_
  obtain ⟨p1, p2, p3⟩ := hrow items hd hl H n (hN n hn)
  rw [qg0 (Nat.le_of_eq hl.symm) (hN n hn), fH, List.take_of_length_le (Nat.le_of_eq hl), List.drop_of_length_le (Nat.le_of_eq hl), p3]
  show (decide _ && (pre hd n && true)) = _
  rw [Bool.and_true]
  cases q : pre hd n with
  | false => rw [Bool.and_false]
  | true => rw [decide_eq_true (by rw [hl]; exact qv0 _ _ q)]; rfl
 | 1, hr, hdue =>
  cases hr; cases hdue
  refine qo5 d3 _ _ _ _ _ z2 l5 (.inr ⟨0, rfl, Nat.zero_le _⟩) fun items hl H => ?_
  unfold endR
  refine List.filter_congr fun n hn => ?_
  obtain ⟨_, _, p3⟩ := hrow items tl hl H _ (dropin n (n.length - tl.length) (hN n hn))
  rw [show (0 : Int) = ((0 : Nat) : Int) from rfl, qg0 (Nat.zero_le _) (hN n hn), fT, List.drop_zero, Nat.sub_zero, hl, p3]
  show (decide _ && (true && _)) = _
  rw [Bool.true_and]
 | 2, hr, hdue =>
  cases hr; cases hdue
  refine qo5 d3 _ _ _ _ _ (by rw [List.length_append]; exact Nat.le_trans z1 (Nat.le_add_right ..)) (by rw [List.length_append]; exact Nat.le_succ_of_le z3) (.inr ⟨_, rfl, by rw [List.length_append]; exact Nat.le_add_right ..⟩) fun items hl H => ?_
  have hl2 : items.length = hd.length + tl.length := by rw [hl, List.length_append]
  rw [hB]
  unfold longR
  rw [List.filter_filter]
  refine List.filter_congr fun n hn => ?_
  obtain ⟨p1, _, _⟩ := hrow items (hd ++ tl) hl H n (hN n hn)
  obtain ⟨_, p2, _⟩ := hrow items (hd ++ tl) hl H _ (dropin n (n.length - tl.length) (hN n hn))
  rw [qg0 (by rw [hl2]; exact Nat.le_add_right ..) (hN n hn), fH, fT, hl2, p1, Nat.add_sub_cancel_left, p2, List.take_left, List.drop_left]
  by_cases q : hd.length + tl.length ≤ n.length
  ·rw [decide_eq_true q, decide_eq_true (Nat.le_trans (Nat.le_add_left ..) q), decide_eq_true (Int.ofNat_le.mpr q), Bool.true_and, Bool.true_and, Bool.true_and]
  rw [decide_eq_false q, decide_eq_false fun e => q (Int.ofNat_le.mp e), Bool.false_and, Bool.false_and]
 | r + 3, hr, hdue =>
  have hr' : ((List.range (min hd.length tl.length)).map fun l => ((lapR hd tl hd.length (l + 1), -1) : List (List Nat) × Int))[r]? = some (row, star) := hr
  have hd' : ((List.range (min hd.length tl.length)).map fun l => lenR (bothR (begR names hd) (endR names tl tl.length)) (((hd.length + tl.length : Nat) : Int) - ((l + 1 : Nat) : Int)))[r]? = some due := hdue
  rw [List.getElem?_map] at hr' hd'
  obtain ⟨l, hl, e1⟩ := Option.map_eq_some_iff.mp hr'
  rw [hl] at hd'
  cases e1
  cases hd'
  have hlm := List.mem_range.mp (List.mem_of_getElem? hl)
  have L1 : l + 1 ≤ hd.length := Nat.le_trans hlm (Nat.min_le_left ..)
  have L2 : l + 1 ≤ tl.length := Nat.le_trans hlm (Nat.min_le_right ..)
  have hll := z60 hd tl (l + 1) L1 L2
  refine qo5 d3 _ _ _ _ _ (by rw [hll]; exact lap1 L1 z2) (by rw [hll]; exact Nat.le_trans (Nat.sub_le ..) (Nat.le_succ_of_le z3)) (.inl rfl) fun items hil H => ?_
  rw [hB]
  unfold lenR
  dsimp only
  rw [List.filter_filter]
  refine List.filter_congr fun n hn => ?_
  obtain ⟨_, _, p3⟩ := hrow items _ hil H n (hN n hn)
  rw [z23, p3, z59 hd tl (l + 1) n L1 L2, fH, fT, hil, hll]
  by_cases q : hd.length + tl.length - (l + 1) = n.length
  ·have q2 : (n.length : Int) = ((hd.length + tl.length : Nat) : Int) - ((l + 1 : Nat) : Int) := by rw [← q]; exact Int.ofNat_sub (Nat.le_trans L1 (Nat.le_add_right ..))
   rw [decide_eq_true q, decide_eq_true (arA L1 q).1, (arA L1 q).2, Bool.true_and, Bool.true_and, show ((n.length : Int) == ((hd.length + tl.length : Nat) : Int) - ((l + 1 : Nat) : Int)) = true by rw [q2]; exact beq_self_eq_true _, Bool.true_and]
  have q2 : ((n.length : Int) == ((hd.length + tl.length : Nat) : Int) - ((l + 1 : Nat) : Int)) = false := by
   exact beq_eq_false_iff_ne.mpr fun e => q (arC L1 e)
  rw [decide_eq_false q, q2, Bool.false_and, Bool.false_and]
theorem qj6 {h : Heap} {vs : List Value} {xs : List Int} (i : IntsAre vs xs) : Dens [] h vs (xs.map .int) := by
 induction i with
 | nil => exact .nil
 | cons n t _ ih => exact .cons (.int n t) ih
noncomputable def cxOf {p : Program} {loose : List Str} {mean : ExcName → Option Value} {mg mb : Str → Option Value} (prog : Program) (w : World) (s : Shared) (T : Top p loose mean mg mb s.heap) : Cx :=
 { prog, w, hB := s.heap, os := s.os, mg, mb, tabs := [(101, trEs)], stk := [], g := T.g, b := T.b, builtins := T.builtins, nolimit := T.nolimit }
theorem law_call {p prog : Program} {loose : List Str} {mean : ExcName → Option Value} {mg mb : Str → Option Value} {w : World} {s : Shared} (T : Top p loose mean mg mb s.heap) (KX : (hdK w.params).In s.heap) (hT8 : ∀ P : Addr, P ∈ [101] → s.heap.get? P = some (tabObj #[])) (hg : s.gens = #[])
  {fa a : Addr} {vs : List Value} {script : List Int} (hmg : mg (Str.ofString "law") = some (.ref fa)) (ho : s.heap.get? a = some { cls := .type "list", data := .seq vs.toArray }) (hI : IntsAre vs script) (hlen : script.length ≤ 63) {Q : Value → Shared → Prop} {E : Value → Shared → Prop}
  (hQ : ∀ s', OldK s.heap s'.heap → s'.os = s.os → AllBare s'.gens → Q (.bool true) s') : wpAny (model prog w) callerA (call (.ref fa) [.ref a]) Q E s := by
 have m := fun {n : Str} {v : Value} (e : nsIn (hdK w.params) mainGlobals n = some (some v)) => mg_of KX T.g e
 have z := fun {n : Str} (e : nsIn (hdK w.params) mainGlobals n = some none) => mg_none_of KX T.g e
 have hl : mg (Str.ofString "law") = some (.ref 150) := m (by kernel_rfl)
 rw [hl] at hmg
 cases hmg
 have ok : (cxOf prog w s T).Ok s := by
  refine ⟨fun b o e _ => e, fun q hq => ?_, by rw [hg]; exact AllBare.empty, rfl, fun b hb => hb, (fun L hL => by cases hL), (fun L hL => by cases hL), fun b o e _ => e⟩
  have hq' : q = (101, trEs) := List.mem_singleton.mp hq
  subst hq'
  exact ⟨#[], hT8 101 (.head _), trivial, fun e _ => .inl rfl⟩
 have Rm : Room ((cxOf prog w s T).on []) callerA 8 := ⟨⟨[], rfl, rfl, fun _ h => nomatch h⟩, rfl, by show 301 + 4 * 8 ≤ 900; decide, by show 4 + 64 * 8 + 200 ≤ 9900; decide⟩
 have Q : LG (cxOf prog w s T) w.params := {
  KX := KX, gi := z (by kernel_rfl), gs := z (by kernel_rfl), gm := m (by kernel_rfl), gl := z (by kernel_rfl), gr := z (by kernel_rfl), go := z (by kernel_rfl)
  ge := m (by kernel_rfl), gt := m (by kernel_rfl), gtr := m (by kernel_rfl), gj := m (by kernel_rfl), hT := rfl, ba := ⟨T.bmain⟩, git := z (by kernel_rfl), gn := z (by kernel_rfl), gb := z (by kernel_rfl), gli := z (by kernel_rfl), gff := m (by kernel_rfl), gc := z (by kernel_rfl), gfi := m (by kernel_rfl)
  gzip := z (by kernel_rfl), gen := z (by kernel_rfl), gsum := z (by kernel_rfl), gmin := z (by kernel_rfl), gread := m (by kernel_rfl), gsi := m (by kernel_rfl), gse := m (by kernel_rfl), gpi := m (by kernel_rfl), gta := m (by kernel_rfl), gfa := m (by kernel_rfl), gtl := m (by kernel_rfl) }
 have F := z15 Q script (by omega) z94
 have hd : Dens [] s.heap [.ref a] [.list (script.map .int)] := .cons (.list (by simp) ⟨0, ho⟩ (by simpa using qj6 hI)) .nil
 refine wpAny_call (F [] callerA s [] [.ref a] Rm ok (fun b hb => by cases hb) hd _ fun V s' kp ok' d => ?_)
 cases d
 refine hQ s' ⟨fun b o e => ?_, fun b o e => ?_⟩ ok'.os ok'.gens
 ·by_cases hb : b = 101
  ·subst hb
   obtain ⟨ps, hps, _⟩ := ok'.tabs (101, trEs) (.head _)
   have e2 := hT8 101 (.head _)
   rw [e] at e2
   cases e2
   refine .inr (.inl ⟨?_, rfl, #[], ps, rfl, ?_⟩)
   ·exact ⟨105, _, _, KX 105 _ (by rfl), rfl, rfl, by rfl⟩
   rw [hps]; simp [tabObj]
  exact .inl (ok'.old b o e fun q hq => by
   have hq' : q = (101, trEs) := List.mem_singleton.mp hq
   rw [hq']; exact fun e => hb e.symm)
 exact Option.ne_none_iff_exists'.mp (ok'.all b (by show s.heap.get? b ≠ none; rw [e]; simp))
end Mine
set_option maxRecDepth 100000 in
set_option maxHeartbeats 8000000 in
theorem PySem.Challenge.cw_ik0025_02_holds : PySem.Challenge.rw_ik0025_02.Holds := by
 refine holds_law (by kernel_rfl) fun said => ?_
 refine holds_open (r := PySem.Challenge.rw_ik0025_02.row) Mine.hd_left (Hook.of Mine.hdH) (Hook.keeps Mine.hdH) (fun s e => xl_of s (Bool.and_eq_true_iff.mp e).1) XL.keeps (by rfl) (by rfl) (by rfl) (fun s e => recFacts_of (Bool.and_eq_true_iff.mp e).2) (by rfl) said (by decide +kernel) ⟨rfl, rfl, rfl, rfl, rfl, by decide +kernel⟩ ?hw ?hc
 case hw => w_witness2
 intro w s₀ s₁ mg mb G Y fa o pm cd doc dV kV ho hd hcd hD hmg hg args vals as hpre hlay hrd hwl hlo
 have KX := km_in_of Y
 have hT8 := km_tabs_of Y
 refine Ground.open G ?_
 intro T B D TE TW
 clear D
 wrow_args hpre hlay hrd hwl hlo
 rename_i script _ _ _ _ _ _ _ a vs _ hL ra w1 r0 hI hr hlen hc
 have hlen' : script.length ≤ 63 := by omega
 have hobj : ∃ vs' : List Value, s₁.heap.get? a = some { cls := .type "list", data := .seq vs'.toArray } ∧ IntsAre vs' script := by
  cases w1 with
  | list e _ =>
   obtain ⟨o2, ho2, _, _, hd2⟩ := hL
   rw [e] at ho2
   cases ho2
   cases hd2
   exact ⟨_, e, hI⟩
 obtain ⟨vs', e, hI'⟩ := hobj
 refine Mine.law_call T KX hT8 hg hmg e hI' hlen' fun s' hK hos hb => ?_
 exact ⟨.inl ⟨.bool true, .bool true, [], rfl, fun _ => rfl, .bool true, by kernel_rfl, fun _ => ⟨List.nodup_nil, fun _ h => nomatch h⟩⟩, hK, hos, hb⟩
