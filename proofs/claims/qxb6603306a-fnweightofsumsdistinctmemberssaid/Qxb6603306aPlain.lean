/-
  THE PLAIN MATHEMATICS OF 'FnWeightOfSumsDistinctMembers': the order of byte strings, insertion, and the sum over the distinct names. No Go program in sight.
-/
import GoSem.Op.String
namespace Go.Proofs.Qxb6603306a.Plain

/-! ### the order -/
def lt (x y : List UInt8) : Bool := Op.bytesLess x y
theorem lt_nil_right (x : List UInt8) : lt x [] = false := by cases x <;> rfl
theorem lt_nil_cons (b : UInt8) (y : List UInt8) : lt [] (b :: y) = true := rfl
theorem lt_cons (a b : UInt8) (x y : List UInt8) : lt (a :: x) (b :: y) = (decide (a < b) || (a == b && lt x y)) := rfl

theorem lt_irrefl : ∀ x : List UInt8, lt x x = false
  | [] => rfl
  | a :: x => by rw [lt_cons, lt_irrefl x]; simp [UInt8.lt_irrefl]

theorem lt_total : ∀ x y : List UInt8, x ≠ y → lt y x = !lt x y
  | [], [], h => absurd rfl h
  | [], _ :: _, _ => rfl
  | _ :: _, [], _ => rfl
  | a :: x, b :: y, h => by
    rw [lt_cons, lt_cons]
    by_cases hab : a = b
    · subst hab
      have hxy : x ≠ y := fun e => h (by rw [e])
      simp [lt_total x y hxy, UInt8.lt_irrefl]
    · have h1 : (a == b) = false := by simp [hab]
      have h2 : (b == a) = false := by simp; exact fun h => hab h.symm
      rw [h1, h2]
      simp only [Bool.false_and, Bool.or_false]
      have hne : a.toNat ≠ b.toNat := fun h => hab (UInt8.toNat_inj.1 h)
      by_cases hl : a.toNat < b.toNat
      · have l1 : a < b := UInt8.lt_iff_toNat_lt.2 hl
        have l2 : ¬ b < a := fun q => by have := UInt8.lt_iff_toNat_lt.1 q; omega
        simp [l1, l2]
      · have l1 : ¬ a < b := fun q => hl (UInt8.lt_iff_toNat_lt.1 q)
        have l2 : b < a := UInt8.lt_iff_toNat_lt.2 (by omega)
        simp [l1, l2]

theorem lt_trans : ∀ x y z : List UInt8, lt x y = true → lt y z = true → lt x z = true
  | _, _, [], _, h => by rw [lt_nil_right] at h; cases h
  | _, [], _ :: _, h, _ => by rw [lt_nil_right] at h; cases h
  | [], _ :: _, _ :: _, _, _ => rfl
  | a :: x, b :: y, c :: z, h, k => by
    rw [lt_cons] at h k ⊢
    simp only [Bool.or_eq_true, Bool.and_eq_true, decide_eq_true_eq, beq_iff_eq] at h k ⊢
    rcases h with h | ⟨rfl, h⟩
    · rcases k with k | ⟨rfl, _⟩
      · exact .inl (UInt8.lt_trans h k)
      · exact .inl h
    · rcases k with k | ⟨rfl, k⟩
      · exact .inl k
      · exact .inr ⟨rfl, lt_trans x y z h k⟩

def le (x y : List UInt8) : Prop := lt y x = false
theorem le_of_lt {x y : List UInt8} (h : lt x y = true) : le x y := by
  unfold le
  have hne : x ≠ y := fun e => by rw [e, lt_irrefl] at h; cases h
  rw [lt_total x y hne, h]; rfl
theorem le_refl (x : List UInt8) : le x x := lt_irrefl x
theorem le_trans {x y z : List UInt8} (h : le x y) (k : le y z) : le x z := by
  unfold le at *
  cases q : lt z x
  · rfl
  · exfalso
    by_cases e : x = y
    · subst e; rw [k] at q; cases q
    · have h1 : lt x y = true := by have q2 := lt_total x y e; rw [h] at q2; simpa using q2.symm
      have h2 := lt_trans z x y q h1
      rw [k] at h2; cases h2
theorem le_antisymm {x y : List UInt8} (h : le x y) (k : le y x) : x = y := by
  unfold le at *
  by_cases e : x = y
  · exact e
  · have := lt_total x y e
    rw [h, k] at this
    simp at this

/-! ### the sum over the distinct names: of each name its last occurrence counts -/
def G (wt : List UInt8 → Int) : List (List UInt8) → Int
  | [] => 0
  | x :: t => (if x ∈ t then 0 else wt x) + G wt t

theorem G_perm (wt : List UInt8 → Int) {l l' : List (List UInt8)} (h : l.Perm l') : G wt l = G wt l' := by
  induction h with
  | nil => rfl
  | cons x p ih => simp only [G, ih, p.mem_iff]
  | swap x y l =>
    simp only [G, List.mem_cons]
    by_cases e : y = x
    · subst e; rfl
    · have e' : ¬ x = y := fun q => e q.symm
      simp only [e, e', false_or]
      omega
  | trans _ _ i1 i2 => exact i1.trans i2

/-- the sum over the first k -/
def S (wt : List UInt8 → Int) (l : List (List UInt8)) (k : Nat) : Int := G wt (l.take k).reverse
theorem S_zero (wt : List UInt8 → Int) (l : List (List UInt8)) : S wt l 0 = 0 := rfl
theorem S_all (wt : List UInt8 → Int) (l : List (List UInt8)) : S wt l l.length = G wt l.reverse := by
  unfold S; rw [List.take_length]
theorem S_step (wt : List UInt8 → Int) (l : List (List UInt8)) (k : Nat) (h : k < l.length) : S wt l (k + 1) = (if l[k] ∈ l.take k then 0 else wt l[k]) + S wt l k := by
  unfold S
  rw [List.take_succ_eq_append_getElem h, List.reverse_append]
  simp only [List.reverse_cons, List.reverse_nil, List.nil_append, List.singleton_append, G, List.mem_reverse]
theorem S_perm (wt : List UInt8 → Int) {l l' : List (List UInt8)} (h : l.Perm l') : S wt l l.length = S wt l' l'.length := by
  rw [S_all, S_all]
  exact G_perm wt ((List.reverse_perm l).trans (h.trans (List.reverse_perm l').symm))

/-- in a sorted list a name stands before just where it stands right before -/
theorem sorted_mem {l : List (List UInt8)} (hs : l.Pairwise le) (k : Nat) (h : k + 1 < l.length) : l[k + 1] ∈ l.take (k + 1) ↔ l[k + 1] = l[k] := by
  constructor
  · intro hm
    obtain ⟨j, hj, e⟩ := List.getElem_of_mem hm
    have hj' : j < k + 1 := by rw [List.length_take] at hj; omega
    rw [List.getElem_take] at e
    have p1 : le l[j] l[k] := by
      by_cases q : j = k
      · subst q; exact le_refl _
      · exact (List.pairwise_iff_getElem.1 hs) j k (by omega) (by omega) (by omega)
    have p2 : le l[k] l[k + 1] := (List.pairwise_iff_getElem.1 hs) k (k + 1) (by omega) h (by omega)
    rw [e] at p1
    exact le_antisymm p1 p2
  · intro e
    rw [e]
    exact List.mem_take_iff_getElem.2 ⟨k, by omega, rfl⟩

/-! ### insertion -/
/-- what holds inside the inner loop: the array is 'A, a gap, M, R'; x belongs before M -/
structure Ins (x : List UInt8) (R L0 C : List (List UInt8)) (i j : Nat) : Prop where
  ex : ∃ A M g, C = A ++ g :: (M ++ R) ∧ A.length = j ∧ (A ++ M).length = i ∧ (A ++ M).Pairwise le ∧ (∀ y ∈ M, lt x y = true) ∧ (A ++ x :: (M ++ R)).Perm L0

theorem Ins.start {S R L0 : List (List UInt8)} {x : List UInt8} (hs : S.Pairwise le) (hp : (S ++ x :: R).Perm L0) : Ins x R L0 (S ++ x :: R) S.length S.length :=
  ⟨⟨S, [], x, by simp, rfl, by simp, by simpa using hs, by simp, by simpa using hp⟩⟩

theorem Ins.bnd {x : List UInt8} {R L0 C : List (List UInt8)} {i j : Nat} (h : Ins x R L0 C i j) : j ≤ i ∧ i < C.length ∧ C.length = i + 1 + R.length := by
  obtain ⟨A, M, g, rfl, rfl, rfl, _⟩ := h.ex
  simp
  omega

theorem Ins.step {x : List UInt8} {R L0 C : List (List UInt8)} {i j : Nat} (h : Ins x R L0 C i (j + 1)) (hj : j < C.length) (hx : lt x C[j] = true) : Ins x R L0 (C.set (j + 1) C[j]) i j := by
  obtain ⟨A, M, g, hC, hA, hi, hs, hM, hp⟩ := h.ex
  obtain ⟨A', a, rfl⟩ : ∃ A' a, A = A' ++ [a] := by
    rcases List.eq_nil_or_concat A with e | ⟨A', a, e⟩
    · subst e; simp at hA
    · exact ⟨A', a, by simpa using e⟩
  have hA' : A'.length = j := by simp at hA; exact hA
  have ha : C[j] = a := by
    subst hC
    simp [hA']
  rw [ha] at hx ⊢
  refine ⟨⟨A', a :: M, a, ?_, hA', ?_, ?_, ?_, ?_⟩⟩
  · subst hC
    have e : j + 1 = (A' ++ [a]).length := by simp [hA']
    rw [e, List.set_append_right _ _ (Nat.le_refl _)]
    simp
  · simpa using hi
  · simpa using hs
  · intro y hy
    rcases List.mem_cons.1 hy with e | e
    · subst e; exact hx
    · exact hM y e
  · refine List.Perm.trans ?_ hp
    simp only [List.append_assoc, List.cons_append, List.nil_append]
    exact List.Perm.append_left A' (List.Perm.swap _ _ _)

theorem Ins.finish {x : List UInt8} {R L0 C : List (List UInt8)} {i j : Nat} (h : Ins x R L0 C i j) (hx : ∀ k, j = k + 1 → ∀ hk : k < C.length, lt x C[k] = false) :
    ∃ T, C.set j x = T ++ R ∧ T.length = i + 1 ∧ T.Pairwise le ∧ (T ++ R).Perm L0 := by
  obtain ⟨A, M, g, hC, hA, hi, hs, hM, hp⟩ := h.ex
  refine ⟨A ++ x :: M, ?_, ?_, ?_, by simpa using hp⟩
  · subst hC
    rw [← hA, List.set_append_right _ _ (Nat.le_refl _)]
    simp
  · simp at hi ⊢; omega
  · rw [List.pairwise_append] at hs ⊢
    obtain ⟨s1, s2, s3⟩ := hs
    refine ⟨s1, List.pairwise_cons.2 ⟨fun y hy => le_of_lt (hM y hy), s2⟩, ?_⟩
    intro a ha b hb
    have hax : le a x := by
      rcases List.eq_nil_or_concat A with e | ⟨A', l, e⟩
      · subst e; cases ha
      · have e' : A = A' ++ [l] := by simpa using e
        have hk : A'.length < C.length := by subst hC; rw [e']; simp
        have hl : C[A'.length] = l := by subst hC; simp [e']
        have hlx := hx A'.length (by rw [← hA, e']; simp) hk
        rw [hl] at hlx
        rw [e'] at ha s1
        rcases List.mem_append.1 ha with q | q
        · exact le_trans ((List.pairwise_append.1 s1).2.2 a q l (by simp)) hlx
        · have : a = l := by simpa using q
          subst this; exact hlx
    rcases List.mem_cons.1 hb with e | e
    · subst e; exact hax
    · exact s3 a ha b e

end Go.Proofs.Qxb6603306a.Plain
