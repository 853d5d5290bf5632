/-
  A PROOF OF 'Rows.FnTagLessIsStrictTotalSaid'. The frame is the guide's template at this function's number and types; the contracts and the walk are ours.
-/
import Derived.Test.Qxb6603306aRows
import Derived.WalkKit
import Derived.ProofKit
import Derived.OpenShut
import Derived.ShutString
namespace Go.Proofs.Qxb6603306a.fnTagLessIsStrictTotal
open Go.ChangeShapes Go.WideShapes Go.ChangeAt Go.RowKit
open Go.ChangeMaps (open_string shut_string)
set_option linter.unusedVariables false      -- a walk need not use every 'w<i>' (that an integer argument fits its kind)

theorem own : ownKnob Try.prog.godebug = none := by kernel_rfl

/-! ### THE PLAIN FUNCTION -/
def lessB (tc : Int) (tw : ByteArray) (ts : Int) (uc : Int) (uw : ByteArray) (us : Int) : Bool :=
  if (tc == uc) = false then decide (tc < uc) else if (tw.toList == uw.toList) = false then Op.bytesLess tw.toList uw.toList else decide (ts < us)

theorem bl_total (x : List UInt8) : ∀ y, (x == y) = false → Op.bytesLess y x = !Op.bytesLess x y := by
  induction x with
  | nil => intro y h; cases y <;> simp_all [Op.bytesLess]
  | cons a x ih =>
    intro y h
    cases y with
    | nil => simp [Op.bytesLess]
    | cons b y =>
      simp only [Op.bytesLess]
      by_cases hab : a = b
      · subst hab
        have hxy : (x == y) = false := by
          cases q : (x == y)
          · rfl
          · have : x = y := eq_of_beq q
            subst this
            simp at h
        simp [ih y hxy, UInt8.lt_irrefl]
      · have h1 : (a == b) = false := by simp [hab]
        have h2 : (b == a) = false := by simp; exact fun h => hab h.symm
        rw [h1, h2]
        simp only [Bool.false_and, Bool.or_false]
        by_cases hl : a < b
        · have : ¬ b < a := fun h => UInt8.lt_irrefl _ (UInt8.lt_trans hl h)
          simp [hl, this]
        · have : b < a := by
            rw [UInt8.lt_iff_toNat_lt] at *
            have : a.toNat ≠ b.toNat := fun h => hab (UInt8.toNat_inj.1 h)
            omega
          simp [hl, this]

/-! ### THE CONTRACT -/
theorem less_any (tc : Int) (tw : ByteArray) (ts : Int) (uc : Int) (uw : ByteArray) (us : Int) (w : World) :
    Calls Try.prog 17 #[.int .u64 tc, .string tw, .int .u64 ts, .int .u64 uc, .string uw, .int .u64 us] w fun e w' => e = .returned (.bool (lessB tc tw ts uc uw us)) ∧ Grown w w' := by
  cases h1 : (tc == uc)
  · have H : Hid (lessB tc tw ts uc uw us = decide (tc < uc)) := if_pos h1
    have h1' : (tc != uc) = true := by simp [bne, h1]
    go_enter Try.func17, Try.ntmps17
    go_wp2
    go_ret
    exact ⟨by rw [H.out]; rfl, by repeat (first | exact Grown.refl _ | apply Grown.drew | apply Grown.alloc)⟩
  · have h1' : (tc != uc) = false := by simp [bne, h1]
    cases h2 : (tw.toList == uw.toList)
    · have H : Hid (lessB tc tw ts uc uw us = Op.bytesLess tw.toList uw.toList) := (if_neg (by simp [h1])).trans (if_pos h2)
      have h2' : (tw.toList != uw.toList) = true := by simp [bne, h2]
      go_enter Try.func17, Try.ntmps17
      go_wp2
      go_ret
      exact ⟨by rw [H.out]; rfl, by repeat (first | exact Grown.refl _ | apply Grown.drew | apply Grown.alloc)⟩
    · have H : Hid (lessB tc tw ts uc uw us = decide (ts < us)) := (if_neg (by simp [h1])).trans (if_neg (by simp [h2]))
      have h2' : (tw.toList != uw.toList) = false := by simp [bne, h2]
      go_enter Try.func17, Try.ntmps17
      go_wp2
      go_ret
      exact ⟨by rw [H.out]; rfl, by repeat (first | exact Grown.refl _ | apply Grown.drew | apply Grown.alloc)⟩

theorem less_is (tc : Int) (tw : ByteArray) (ts : Int) (uc : Int) (uw : ByteArray) (us : Int) (b : Bool) (w : World) (L : Hid (lessB tc tw ts uc uw us = b)) :
    Calls Try.prog 17 #[.int .u64 tc, .string tw, .int .u64 ts, .int .u64 uc, .string uw, .int .u64 us] w fun e w' => e = .returned (.bool b) ∧ Grown w w' := by
  refine (less_any tc tw ts uc uw us w).mono ?_
  rintro e w' ⟨rfl, hg⟩
  rw [L.out]
  exact ⟨rfl, hg⟩

theorem zzb_ok (tc : Int) (tw : ByteArray) (ts : Int) (uc : Int) (uw : ByteArray) (us : Int) (w : World) (h1 : tw.size ≤ 524288) (h4 : uw.size ≤ 524288) :
    Calls Try.prog 16 #[.int .u64 tc, .string tw, .int .u64 ts, .int .u64 uc, .string uw, .int .u64 us] w fun e w' => e = .returned (.bool true) ∧ w = w' := by
  go_enter Try.func16, Try.ntmps16
  go_wp2
  go_ret
  exact ⟨rfl, rfl⟩

theorem grown_trans {u v w : World} (h : Grown u v) (g : Grown v w) : Grown u w :=
  ⟨World.keptBut_trans h.1 g.1, fun a => (g.2.1 a).trans (h.2.1 a), Nat.le_trans h.2.2 g.2.2⟩

theorem main_walk (a0 : Int) (a1 : ByteArray) (a2 : Int) (a3 : Int) (a4 : ByteArray) (a5 : Int) (h1 : a1.size ≤ 524288) (h4 : a4.size ≤ 524288) (w : World) (b1 b2 : Bool)
    (L1 : Hid (lessB a0 a1 a2 a3 a4 a5 = b1)) (L2 : Hid (lessB a3 a4 a5 a0 a1 a2 = b2))
    (h : (b1 = true ∧ b2 = false ∧ ((a0 == a3) = false ∨ ((a0 == a3) = true ∧ (a1.toList == a4.toList) = false) ∨ ((a0 == a3) = true ∧ (a1.toList == a4.toList) = true ∧ (a2 == a5) = false))) ∨ (b1 = false ∧ b2 = true ∧ ((a0 == a3) = false ∨ ((a0 == a3) = true ∧ (a1.toList == a4.toList) = false) ∨ ((a0 == a3) = true ∧ (a1.toList == a4.toList) = true ∧ (a2 == a5) = false))) ∨ (b1 = false ∧ b2 = false ∧ (a0 == a3) = true ∧ (a1.toList == a4.toList) = true ∧ (a2 == a5) = true)) :
    Calls Try.prog 8 #[.int .u64 a0, .string a1, .int .u64 a2, .int .u64 a3, .string a4, .int .u64 a5] w fun e w' => e = .returned (.bool true) ∧ Grown w w' := by
  rcases h with ⟨rfl, rfl, e1 | ⟨e1, e2⟩ | ⟨e1, e2, e3⟩⟩ | ⟨rfl, rfl, e1 | ⟨e1, e2⟩ | ⟨e1, e2, e3⟩⟩ | ⟨rfl, rfl, e1, e2, e3⟩
  all_goals
    go_enter Try.func8, Try.ntmps8
    go_wp2_with fail
    refine (zzb_ok a0 a1 a2 a3 a4 a5 _ h1 h4).mono ?_
    rintro e w' ⟨rfl, rfl⟩
    go_wp2_with fail
    refine (less_is a0 a1 a2 a3 a4 a5 _ _ L1).mono ?_
    rintro e w1 ⟨rfl, g1⟩
    go_wp2_with fail
    refine (less_is a3 a4 a5 a0 a1 a2 _ _ L2).mono ?_
    rintro e w2 ⟨rfl, g2⟩
    go_wp2_with fail
    go_ret
    exact ⟨rfl, grown_trans g1 g2⟩

/-! ### STEP 1: THE WALK: the Go text returns true. 'Grown w w'': the world has at most new blocks (Derived/RowKit3.lean). Part the cases AHEAD of 'go_enter' where a test parts the walk; take each callee by a contract of your own. -/
theorem walk (a0 : Int) (a1 : ByteArray) (a2 : Int) (a3 : Int) (a4 : ByteArray) (a5 : Int) (w0 : (Lit.int .u64 a0).wf = true) (w1 : a1.size ≤ maxLen) (w2 : (Lit.int .u64 a2).wf = true) (w3 : (Lit.int .u64 a3).wf = true) (w4 : a4.size ≤ maxLen) (w5 : (Lit.int .u64 a5).wf = true) (w : World) :
    Calls Try.prog 8 #[.int .u64 a0, .string a1, .int .u64 a2, .int .u64 a3, .string a4, .int .u64 a5] w fun e w' => e = .returned (.bool true) ∧ Grown w w' := by
  by_cases g1 : 1048576 < a1.size
  · go_enter Try.func8, Try.ntmps8
    go_wp2
    go_ret
    exact ⟨rfl, Grown.refl _⟩
  by_cases g4 : 1048576 < a4.size
  · go_enter Try.func8, Try.ntmps8
    go_wp2
    go_ret
    exact ⟨rfl, Grown.refl _⟩
  by_cases g14 : 1048576 < a1.size + a4.size
  · go_enter Try.func8, Try.ntmps8
    go_wp2
    go_ret
    exact ⟨rfl, Grown.refl _⟩
  by_cases l1 : 524288 < a1.size
  · go_enter Try.func8, Try.ntmps8
    go_wp2
    go_ret
    exact ⟨rfl, Grown.refl _⟩
  by_cases l4 : 524288 < a4.size
  · go_enter Try.func8, Try.ntmps8
    go_wp2
    go_ret
    exact ⟨rfl, Grown.refl _⟩
  refine main_walk a0 a1 a2 a3 a4 a5 (by omega) (by omega) w _ _ rfl rfl ?_
  rcases Int.lt_trichotomy a0 a3 with h | h | h
  · have e1 : (a0 == a3) = false := beq_eq_false_iff_ne.2 (by omega)
    have e1' : (a3 == a0) = false := beq_eq_false_iff_ne.2 (by omega)
    exact .inl ⟨by simp [lessB, e1, h], by simp [lessB, e1']; omega, .inl e1⟩
  · subst h
    cases e2 : (a1.toList == a4.toList)
    · have e2' : (a4.toList == a1.toList) = false := by
        rw [beq_eq_false_iff_ne] at e2 ⊢
        exact e2.symm
      have ht := bl_total _ _ e2
      cases hb : Op.bytesLess a1.toList a4.toList
      · rw [hb] at ht
        exact .inr (.inl ⟨by simp [lessB, e2, hb], by simp [lessB, e2', ht], .inr (.inl ⟨by simp, rfl⟩)⟩)
      · rw [hb] at ht
        exact .inl ⟨by simp [lessB, e2, hb], by simp [lessB, e2', ht], .inr (.inl ⟨by simp, rfl⟩)⟩
    · have e2' : (a4.toList == a1.toList) = true := by
        rw [beq_iff_eq] at e2 ⊢
        exact e2.symm
      rcases Int.lt_trichotomy a2 a5 with k | k | k
      · have e3 : (a2 == a5) = false := beq_eq_false_iff_ne.2 (by omega)
        exact .inl ⟨by simp [lessB, e2, k], by simp [lessB, e2']; omega, .inr (.inr ⟨by simp, rfl, e3⟩)⟩
      · subst k
        exact .inr (.inr ⟨by simp [lessB, e2], by simp [lessB, e2'], by simp, rfl, by simp⟩)
      · have e3 : (a2 == a5) = false := beq_eq_false_iff_ne.2 (by omega)
        exact .inr (.inl ⟨by simp [lessB, e2]; omega, by simp [lessB, e2', k], .inr (.inr ⟨by simp, rfl, e3⟩)⟩)
  · have e1 : (a0 == a3) = false := beq_eq_false_iff_ne.2 (by omega)
    have e1' : (a3 == a0) = false := beq_eq_false_iff_ne.2 (by omega)
    exact .inr (.inl ⟨by simp [lessB, e1]; omega, by simp [lessB, e1', h], .inl e1⟩)

/-! ### THE ROW's STEP: WRITTEN OUT: LEAVE IT -/
set_option maxRecDepth 100000 in
theorem lifted (os : Os) (started : os.Started) (H : Type) (enc : TypeId × Value → H) :
    ReturnsInHanded {} Try.checked os 8 .any (Rows.fnTagLessIsStrictTotalSpec.pre6 enc Try.prog Try.f8 Rows.fnTagLessIsStrictTotalRow.domain false) (Rows.fnTagLessIsStrictTotalSpec.post enc Try.prog Try.f8 false true false false) := by
  refine returnsInHanded_of_change (C := Try.checked) own started (by kernel_rfl) Try.func8
    (ChangeSpec.witness6 (enc := enc) (C := Try.checked) false ⟨#[], #[.int .u64 0, .string ByteArray.empty, .int .u64 0, .int .u64 0, .string ByteArray.empty, .int .u64 0], []⟩ 8 (by kernel_rfl) (by kernel_rfl) (by kernel_rfl) (by kernel_rfl)) ?_
  intro W base args ds gs before hval0 hW hcnd _
  have hval : ∀ (j : Nat) t v, Try.f8.params[j]? = some t → args[j]? = some v → Value.okWide Try.prog W .any base t v := hval0
  have hW' := hW
  obtain ⟨p, q, hA0, hV, rfl, hfz, hnd⟩ := hW
  have hA : DataW.TrodAll enc Try.prog W 0 (fun _ => true) true Try.f8.params.toList args.toList ds p := hA0
  rw [Try.params8] at hA hval
  obtain ⟨v0, vs0, d0, ds0, p0, q0, hargs, rfl, rfl, h0, r0⟩ := trodAll_cons hA
  obtain ⟨v1, vs1, d1, ds1, p1, q1, rfl, rfl, rfl, h1, r1⟩ := trodAll_cons r0
  obtain ⟨v2, vs2, d2, ds2, p2, q2, rfl, rfl, rfl, h2, r2⟩ := trodAll_cons r1
  obtain ⟨v3, vs3, d3, ds3, p3, q3, rfl, rfl, rfl, h3, r3⟩ := trodAll_cons r2
  obtain ⟨v4, vs4, d4, ds4, p4, q4, rfl, rfl, rfl, h4, r4⟩ := trodAll_cons r3
  obtain ⟨v5, vs5, d5, ds5, p5, q5, rfl, rfl, rfl, h5, r5⟩ := trodAll_cons r4
  obtain ⟨rfl, rfl, rfl⟩ := trodAll_nil r5
  obtain rfl : args = #[v0, v1, v2, v3, v4, v5] := by cases args; simp_all
  obtain ⟨rfl, rfl⟩ := trodVars_none hV
  obtain ⟨a0, rfl, rfl, rfl, w0⟩ := open_int Try.underlying32 (hval 0 32 v0 rfl rfl) h0
  obtain ⟨a1, rfl, rfl, rfl, w1⟩ := open_string Try.underlying9 (hval 1 9 v1 rfl rfl) h1
  obtain ⟨a2, rfl, rfl, rfl, w2⟩ := open_int Try.underlying32 (hval 2 32 v2 rfl rfl) h2
  obtain ⟨a3, rfl, rfl, rfl, w3⟩ := open_int Try.underlying32 (hval 3 32 v3 rfl rfl) h3
  obtain ⟨a4, rfl, rfl, rfl, w4⟩ := open_string Try.underlying9 (hval 4 9 v4 rfl rfl) h4
  obtain ⟨a5, rfl, rfl, rfl, w5⟩ := open_int Try.underlying32 (hval 5 32 v5 rfl rfl) h5
  clear hA0 hval0
  simp only [List.append_nil] at hW'
  refine (walk a0 a1 a2 a3 a4 a5 w0 w1 w2 w3 w4 w5 W).mono fun e W' ⟨he, hg⟩ => ?_
  subst he
  exact ⟨_, rfl, post_of_same (pa := []) (pv := []) hW' (fun _ _ _ => (trodAll_cons_mk (shut_bool Try.underlying4 _) trodAll_mk0)) (fun sp _ => (trodAll_cons_mk (shut_int Try.underlying32 w0) (trodAll_cons_mk (shut_string Try.underlying9 w1) (trodAll_cons_mk (shut_int Try.underlying32 w2) (trodAll_cons_mk (shut_int Try.underlying32 w3) (trodAll_cons_mk (shut_string Try.underlying9 w4) (trodAll_cons_mk (shut_int Try.underlying32 w5) trodAll_mk0))))))) (fun _ _ => rfl) rfl
    (hg.frame _) hg.2.1 (ok_one (by kernel_rfl) rfl (okWide_bool_mk Try.underlying4 _))⟩

theorem over : Rows.fnTagLessIsStrictTotalRow.holds Try.pinned (OpenSpec.ofChange Rows.fnTagLessIsStrictTotalSpec) :=
  OpenClaim.holds_of_wide 8 Try.f8 rfl rfl rfl rfl rfl rfl rfl ⟨rfl, rfl, rfl, rfl, rfl⟩ rfl rfl rfl rfl rfl (by kernel_rfl) Try.func8 (by kernel_rfl)
    (of_decide_eq_true (by kernel_rfl)) (by unfold Func.isWrapper; first | (rw [if_pos (by decide +kernel)]; kernel_rfl) | (rw [if_neg (by decide +kernel)]; exact ⟨rfl, rfl⟩))
    (fun os started H enc _ => lifted os started H enc)

/-- ████ THE STATEMENT ████ -/
theorem proved : Rows.FnTagLessIsStrictTotalSaid :=
  over
end Go.Proofs.Qxb6603306a.fnTagLessIsStrictTotal
