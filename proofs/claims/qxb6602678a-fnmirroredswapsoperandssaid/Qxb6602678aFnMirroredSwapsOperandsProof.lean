/-
  A PROOF OF 'Rows.FnMirroredSwapsOperandsSaid'. The frame is the guide's template at this function's number and types; the contracts and the walk are ours.
-/
import Derived.Test.Qxb6602678aRows
import Derived.WalkKit
import Derived.ProofKit
import Derived.OpenShut
import Derived.ShutString
namespace Go.Proofs.Qxb6602678a.fnMirroredSwapsOperands
open Go.ChangeShapes Go.WideShapes Go.ChangeAt Go.RowKit
open Go.ChangeMaps (open_string shut_string)
set_option linter.unusedVariables false      -- a walk need not use every 'w<i>' (that an integer argument fits its kind)

theorem own : ownKnob Try.prog.godebug = none := by kernel_rfl

/-! ### THE PLAIN FUNCTIONS AND THE PLAIN LAW -/
def holdsB (c o : Int) : Bool := if c = 0 then o == 0 else if c = 1 then o != 0 else if c = 2 then decide (o < 0) else if c = 3 then decide (o ≤ 0) else if c = 4 then decide (0 < o) else decide (0 ≤ o)
def mir (c : Int) : Int := if c = 2 then 4 else if c = 3 then 5 else if c = 4 then 2 else if c = 5 then 3 else c

/-! ### THE CONTRACTS -/
theorem holds_any (c o : Int) (w : World) :
    Calls Try.prog 10 #[.int .u8 c, .int .i64 o] w fun e w' => e = .returned (.bool (holdsB c o)) ∧ w = w' := by
  by_cases c0 : c = 0
  · subst c0
    go_enter Try.func10, Try.ntmps10
    go_wp2
    go_ret
    exact ⟨by simp [holdsB], rfl⟩
  have b0 : (c == 0) = false := beq_eq_false_iff_ne.2 c0
  by_cases c1 : c = 1
  · subst c1
    go_enter Try.func10, Try.ntmps10
    go_wp2
    go_ret
    exact ⟨by simp [holdsB], rfl⟩
  have b1 : (c == 1) = false := beq_eq_false_iff_ne.2 c1
  by_cases c2 : c = 2
  · subst c2
    go_enter Try.func10, Try.ntmps10
    go_wp2
    go_ret
    exact ⟨by simp [holdsB], rfl⟩
  have b2 : (c == 2) = false := beq_eq_false_iff_ne.2 c2
  by_cases c3 : c = 3
  · subst c3
    go_enter Try.func10, Try.ntmps10
    go_wp2
    go_ret
    exact ⟨by simp [holdsB], rfl⟩
  have b3 : (c == 3) = false := beq_eq_false_iff_ne.2 c3
  by_cases c4 : c = 4
  · subst c4
    go_enter Try.func10, Try.ntmps10
    go_wp2
    go_ret
    exact ⟨by simp [holdsB], rfl⟩
  have b4 : (c == 4) = false := beq_eq_false_iff_ne.2 c4
  go_enter Try.func10, Try.ntmps10
  go_wp2
  go_ret
  exact ⟨by simp [holdsB, c0, c1, c2, c3, c4], rfl⟩

theorem mir_any (c : Int) (w0 : (Lit.int .u8 c).wf = true) (w : World) :
    Calls Try.prog 11 #[.int .u8 c] w fun e w' => e = .returned (.int .u8 (mir c)) ∧ w = w' := by
  by_cases c2 : c = 2
  · subst c2
    go_enter Try.func11, Try.ntmps11
    go_wp2
    go_ret
    exact ⟨by simp [mir], rfl⟩
  have b2 : (c == 2) = false := beq_eq_false_iff_ne.2 c2
  by_cases c3 : c = 3
  · subst c3
    go_enter Try.func11, Try.ntmps11
    go_wp2
    go_ret
    exact ⟨by simp [mir], rfl⟩
  have b3 : (c == 3) = false := beq_eq_false_iff_ne.2 c3
  by_cases c4 : c = 4
  · subst c4
    go_enter Try.func11, Try.ntmps11
    go_wp2
    go_ret
    exact ⟨by simp [mir], rfl⟩
  have b4 : (c == 4) = false := beq_eq_false_iff_ne.2 c4
  by_cases c5 : c = 5
  · subst c5
    go_enter Try.func11, Try.ntmps11
    go_wp2
    go_ret
    exact ⟨by simp [mir], rfl⟩
  have b5 : (c == 5) = false := beq_eq_false_iff_ne.2 c5
  have hb := bounds_u8 w0
  go_enter Try.func11, Try.ntmps11
  go_wp2
  go_ret
  exact ⟨by simp [mir, c2, c3, c4, c5], rfl⟩

theorem law_neg (c o : Int) (h0 : 0 ≤ c) (h5 : c ≤ 5) (h : o < 0) : (holdsB (mir c) o == holdsB c 1) = true := by
  have hc : c = 0 ∨ c = 1 ∨ c = 2 ∨ c = 3 ∨ c = 4 ∨ c = 5 := by omega
  rcases hc with rfl | rfl | rfl | rfl | rfl | rfl <;> simp [holdsB, mir] <;> omega
theorem law_zero (c : Int) (h0 : 0 ≤ c) (h5 : c ≤ 5) : (holdsB (mir c) 0 == holdsB c 0) = true := by
  have hc : c = 0 ∨ c = 1 ∨ c = 2 ∨ c = 3 ∨ c = 4 ∨ c = 5 := by omega
  rcases hc with rfl | rfl | rfl | rfl | rfl | rfl <;> simp [holdsB, mir]
theorem law_pos (c o : Int) (h0 : 0 ≤ c) (h5 : c ≤ 5) (h : 0 < o) : (holdsB (mir c) o == holdsB c (-1)) = true := by
  have hc : c = 0 ∨ c = 1 ∨ c = 2 ∨ c = 3 ∨ c = 4 ∨ c = 5 := by omega
  rcases hc with rfl | rfl | rfl | rfl | rfl | rfl <;> simp [holdsB, mir] <;> omega

/-! ### STEP 1: THE WALK: the Go text returns true. 'Grown w w'': the world has at most new blocks (Derived/RowKit3.lean). Part the cases AHEAD of 'go_enter' where a test parts the walk; take each callee by a contract of your own. -/
theorem walk (a0 : Int) (a1 : Int) (w0 : (Lit.int .u8 a0).wf = true) (w1 : (Lit.int .i64 a1).wf = true) (w : World) :
    Calls Try.prog 6 #[.int .u8 a0, .int .i64 a1] w fun e w' => e = .returned (.bool true) ∧ Grown w w' := by
  have hb := bounds_u8 w0
  by_cases h5 : 5 < a0
  · go_enter Try.func6, Try.ntmps6
    go_wp2
    go_ret
    exact ⟨rfl, Grown.refl _⟩
  rcases Int.lt_trichotomy a1 0 with h | h | h
  · have L : Hid ((holdsB (mir a0) a1 == holdsB a0 1) = true) := law_neg a0 a1 (by omega) (by omega) h
    go_enter Try.func6, Try.ntmps6
    go_wp2_with (first | (go_at_call 11; refine (mir_any a0 w0 _).mono ?_; rintro e w' ⟨rfl, rfl⟩) | (go_at_call 10; refine (holds_any _ _ _).mono ?_; rintro e w' ⟨rfl, rfl⟩))
    go_ret
    exact ⟨by rw [L.out]; rfl, Grown.refl _⟩
  · subst h
    have L : Hid ((holdsB (mir a0) 0 == holdsB a0 0) = true) := law_zero a0 (by omega) (by omega)
    go_enter Try.func6, Try.ntmps6
    go_wp2_with (first | (go_at_call 11; refine (mir_any a0 w0 _).mono ?_; rintro e w' ⟨rfl, rfl⟩) | (go_at_call 10; refine (holds_any _ _ _).mono ?_; rintro e w' ⟨rfl, rfl⟩))
    go_ret
    exact ⟨by rw [L.out]; rfl, Grown.refl _⟩
  · have hn : ¬ a1 < 0 := by omega
    have L : Hid ((holdsB (mir a0) a1 == holdsB a0 (-1)) = true) := law_pos a0 a1 (by omega) (by omega) h
    go_enter Try.func6, Try.ntmps6
    go_wp2_with (first | (go_at_call 11; refine (mir_any a0 w0 _).mono ?_; rintro e w' ⟨rfl, rfl⟩) | (go_at_call 10; refine (holds_any _ _ _).mono ?_; rintro e w' ⟨rfl, rfl⟩))
    go_ret
    exact ⟨by rw [L.out]; rfl, Grown.refl _⟩

/-! ### THE ROW's STEP: WRITTEN OUT: LEAVE IT -/
set_option maxRecDepth 100000 in
theorem lifted (os : Os) (started : os.Started) (H : Type) (enc : TypeId × Value → H) :
    ReturnsInHanded {} Try.checked os 6 .any (Rows.fnMirroredSwapsOperandsSpec.pre6 enc Try.prog Try.f6 Rows.fnMirroredSwapsOperandsRow.domain false) (Rows.fnMirroredSwapsOperandsSpec.post enc Try.prog Try.f6 false true false false) := by
  refine returnsInHanded_of_change (C := Try.checked) own started (by kernel_rfl) Try.func6
    (ChangeSpec.witness6 (enc := enc) (C := Try.checked) false ⟨#[], #[.int .u8 0, .int .i64 0], []⟩ 8 (by kernel_rfl) (by kernel_rfl) (by kernel_rfl) (by kernel_rfl)) ?_
  intro W base args ds gs before hval0 hW hcnd _
  have hval : ∀ (j : Nat) t v, Try.f6.params[j]? = some t → args[j]? = some v → Value.okWide Try.prog W .any base t v := hval0
  have hW' := hW
  obtain ⟨p, q, hA0, hV, rfl, hfz, hnd⟩ := hW
  have hA : DataW.TrodAll enc Try.prog W 0 (fun _ => true) true Try.f6.params.toList args.toList ds p := hA0
  rw [Try.params6] at hA hval
  obtain ⟨v0, vs0, d0, ds0, p0, q0, hargs, rfl, rfl, h0, r0⟩ := trodAll_cons hA
  obtain ⟨v1, vs1, d1, ds1, p1, q1, rfl, rfl, rfl, h1, r1⟩ := trodAll_cons r0
  obtain ⟨rfl, rfl, rfl⟩ := trodAll_nil r1
  obtain rfl : args = #[v0, v1] := by cases args; simp_all
  obtain ⟨rfl, rfl⟩ := trodVars_none hV
  obtain ⟨a0, rfl, rfl, rfl, w0⟩ := open_int Try.underlying5 (hval 0 5 v0 rfl rfl) h0
  obtain ⟨a1, rfl, rfl, rfl, w1⟩ := open_int Try.underlying3 (hval 1 3 v1 rfl rfl) h1
  clear hA0 hval0
  simp only [List.append_nil] at hW'
  refine (walk a0 a1 w0 w1 W).mono fun e W' ⟨he, hg⟩ => ?_
  subst he
  exact ⟨_, rfl, post_of_same (pa := []) (pv := []) hW' (fun _ _ _ => (trodAll_cons_mk (shut_bool Try.underlying4 _) trodAll_mk0)) (fun sp _ => (trodAll_cons_mk (shut_int Try.underlying5 w0) (trodAll_cons_mk (shut_int Try.underlying3 w1) trodAll_mk0))) (fun _ _ => rfl) rfl
    (hg.frame _) hg.2.1 (ok_one (by kernel_rfl) rfl (okWide_bool_mk Try.underlying4 _))⟩

theorem over : Rows.fnMirroredSwapsOperandsRow.holds Try.pinned (OpenSpec.ofChange Rows.fnMirroredSwapsOperandsSpec) :=
  OpenClaim.holds_of_wide 6 Try.f6 rfl rfl rfl rfl rfl rfl rfl ⟨rfl, rfl, rfl, rfl, rfl⟩ rfl rfl rfl rfl rfl (by kernel_rfl) Try.func6 (by kernel_rfl)
    (of_decide_eq_true (by kernel_rfl)) (by unfold Func.isWrapper; first | (rw [if_pos (by decide +kernel)]; kernel_rfl) | (rw [if_neg (by decide +kernel)]; exact ⟨rfl, rfl⟩))
    (fun os started H enc _ => lifted os started H enc)

/-- ████ THE STATEMENT ████ -/
theorem proved : Rows.FnMirroredSwapsOperandsSaid :=
  over
end Go.Proofs.Qxb6602678a.fnMirroredSwapsOperands
