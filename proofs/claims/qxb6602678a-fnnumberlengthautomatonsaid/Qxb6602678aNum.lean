/-
  THE PLAIN MATHEMATICS OF 'numberLength' AND OF THE AUTOMATON, over lists of bytes. No Go in sight.
-/
namespace Go.Proofs.Qxb6602678a.Num

def dig (b : UInt8) : Bool := decide (48 ≤ b.toNat ∧ b.toNat ≤ 57)
/-- how many digits the list starts with -/
def run (l : List UInt8) : Nat := (l.takeWhile dig).length
/-- digitsEnd -/
def dE (l : List UInt8) (i : Nat) : Nat := i + run (l.drop i)

theorem run_le (l : List UInt8) : run l ≤ l.length := by
  unfold run
  induction l with
  | nil => simp
  | cons b t ih => simp only [List.takeWhile]; split <;> simp <;> omega

theorem run_cons (b : UInt8) (t : List UInt8) : run (b :: t) = if dig b = true then run t + 1 else 0 := by
  unfold run
  simp only [List.takeWhile]
  cases h : dig b <;> simp

theorem le_dE (l : List UInt8) (i : Nat) : i ≤ dE l i := by unfold dE; omega
theorem dE_le (l : List UInt8) (i : Nat) (h : i ≤ l.length) : dE l i ≤ l.length := by
  unfold dE
  have := run_le (l.drop i)
  rw [List.length_drop] at this
  omega
theorem dE_end (l : List UInt8) (i : Nat) (h : l.length ≤ i) : dE l i = i := by
  unfold dE
  rw [List.drop_of_length_le h]
  rfl
theorem dE_step (l : List UInt8) (i : Nat) (h : i < l.length) (hd : dig l[i] = true) : dE l (i + 1) = dE l i := by
  unfold dE
  rw [List.drop_eq_getElem_cons h, run_cons, if_pos hd]
  omega
theorem dE_stop (l : List UInt8) (i : Nat) (h : i < l.length) (hd : dig l[i] = false) : dE l i = i := by
  unfold dE
  rw [List.drop_eq_getElem_cons h, run_cons, hd]
  simp

/-- the exponent, index by index -/
def ex (l : List UInt8) (i : Nat) : Nat :=
  if l[i]? = some 101 ∨ l[i]? = some 69 then
    if l[i + 1]? = some 43 ∨ l[i + 1]? = some 45 then
      if i + 2 < dE l (i + 2) then dE l (i + 2) else i
    else if i + 1 < dE l (i + 1) then dE l (i + 1) else i
  else i
/-- numberLength -/
def nl (l : List UInt8) : Nat :=
  if l[dE l 0]? = some 46 then
    if dE l 0 = 0 ∧ dE l (dE l 0 + 1) = dE l 0 + 1 then 0 else ex l (dE l (dE l 0 + 1))
  else if dE l 0 = 0 then 0 else ex l (dE l 0)

/-- the automaton: its step -/
def next (q : Nat) (b : UInt8) : Option Nat :=
  if q = 0 then (if dig b = true then some 1 else if b = 46 then some 3 else none)
  else if q = 1 then (if dig b = true then some 1 else if b = 46 then some 2 else if b = 101 ∨ b = 69 then some 4 else none)
  else if q = 2 then (if dig b = true then some 2 else if b = 101 ∨ b = 69 then some 4 else none)
  else if q = 3 then (if dig b = true then some 2 else none)
  else if q = 4 then (if dig b = true then some 6 else if b = 43 ∨ b = 45 then some 5 else none)
  else if q = 5 then (if dig b = true then some 6 else none)
  else if q = 6 then (if dig b = true then some 6 else none)
  else none
def acc (q : Nat) : Bool := q == 1 || q == 2 || q == 6
def aut (q k best : Nat) : List UInt8 → Nat
  | [] => best
  | b :: t => match next q b with
    | none => best
    | some q' => aut q' (k + 1) (if acc q' = true then k + 1 else best) t

theorem aut_none (q k best : Nat) (b : UInt8) (t : List UInt8) (h : next q b = none) : aut q k best (b :: t) = best := by
  simp only [aut, h]
theorem aut_some (q k best q' : Nat) (b : UInt8) (t : List UInt8) (h : next q b = some q') :
    aut q k best (b :: t) = aut q' (k + 1) (if acc q' = true then k + 1 else best) t := by
  simp only [aut, h]

theorem aut6 (l : List UInt8) : ∀ k best, aut 6 k best l = if 0 < run l then k + run l else best := by
  induction l with
  | nil => intro k best; simp [aut, run]
  | cons b t ih =>
    intro k best
    rw [run_cons]
    cases hd : dig b
    · rw [aut_none _ _ _ _ _ (by simp [next, hd])]; simp
    · rw [aut_some _ _ _ 6 _ _ (by simp [next, hd]), ih]
      simp only [acc]
      by_cases h : 0 < run t
      · simp [h]; omega
      · have : run t = 0 := by omega
        simp [this]
theorem aut5 (l : List UInt8) (k best : Nat) : aut 5 k best l = if 0 < run l then k + run l else best := by
  cases l with
  | nil => simp [aut, run]
  | cons b t =>
    rw [run_cons]
    cases hd : dig b
    · rw [aut_none _ _ _ _ _ (by simp [next, hd])]; simp
    · rw [aut_some _ _ _ 6 _ _ (by simp [next, hd]), aut6]
      simp only [acc]
      by_cases h : 0 < run t
      · simp [h]; omega
      · have : run t = 0 := by omega
        simp [this]
/-- the exponent, on what is left -/
def expS (l : List UInt8) (i : Nat) : Nat :=
  match l with
  | [] => i
  | b :: t => if b = 101 ∨ b = 69 then aut 4 (i + 1) i t else i
theorem aut2 (l : List UInt8) : ∀ k, aut 2 k k l = expS (l.drop (run l)) (k + run l) := by
  induction l with
  | nil => intro k; simp [aut, run, expS]
  | cons b t ih =>
    intro k
    rw [run_cons]
    cases hd : dig b
    · by_cases he : b = 101 ∨ b = 69
      · rw [aut_some _ _ _ 4 _ _ (by simp [next, hd, he])]; simp [expS, he, acc]
      · rw [aut_none _ _ _ _ _ (by simp [next, hd, he])]; simp [expS, he]
    · rw [aut_some _ _ _ 2 _ _ (by simp [next, hd])]
      simp only [acc]
      have e : k + (run t + 1) = k + 1 + run t := by omega
      simp [ih, e]
theorem aut1 (l : List UInt8) : ∀ k, aut 1 k k l = if (l.drop (run l)).head? = some 46 then aut 2 (k + run l + 1) (k + run l + 1) (l.drop (run l + 1)) else expS (l.drop (run l)) (k + run l) := by
  induction l with
  | nil => intro k; simp [aut, run, expS]
  | cons b t ih =>
    intro k
    rw [run_cons]
    cases hd : dig b
    · by_cases hp : b = 46
      · rw [aut_some _ _ _ 2 _ _ (by subst hp; rfl)]; simp [hp, acc]
      · by_cases he : b = 101 ∨ b = 69
        · rw [aut_some _ _ _ 4 _ _ (by simp [next, hd, hp, he])]; simp [expS, he, acc, hp]
        · rw [aut_none _ _ _ _ _ (by simp [next, hd, hp, he])]; simp [expS, he, hp]
    · rw [aut_some _ _ _ 1 _ _ (by simp [next, hd])]
      simp only [acc]
      have e : k + (run t + 1) = k + 1 + run t := by omega
      simp [ih, e]

theorem ex_eq (l : List UInt8) (i : Nat) : ex l i = expS (l.drop i) i := by
  unfold ex
  by_cases h : i < l.length
  · rw [List.drop_eq_getElem_cons h]
    simp only [expS, List.getElem?_eq_getElem h, Option.some.injEq]
    by_cases he : l[i] = 101 ∨ l[i] = 69
    · rw [if_pos he, if_pos he]
      by_cases h1 : i + 1 < l.length
      · rw [List.drop_eq_getElem_cons h1, List.getElem?_eq_getElem h1]
        simp only [Option.some.injEq]
        by_cases hs : l[i + 1] = 43 ∨ l[i + 1] = 45
        · have hd : dig l[i + 1] = false := by rcases hs with e | e <;> rw [e] <;> decide
          rw [if_pos hs, aut_some _ _ _ 5 _ _ (by simp [next, hd, hs]), aut5]
          unfold dE
          simp only [acc]
          by_cases hr : 0 < run (l.drop (i + 1 + 1))
          · have hr' : 0 < run (l.drop (i + 2)) := hr
            simp [hr']
          · have hr' : run (l.drop (i + 2)) = 0 := by have : run (l.drop (i + 2)) = run (l.drop (i + 1 + 1)) := rfl; omega
            simp [hr']
        · rw [if_neg hs]
          unfold dE
          rw [List.drop_eq_getElem_cons h1, run_cons]
          cases hd : dig l[i + 1]
          · rw [aut_none _ _ _ _ _ (by simp [next, hd, hs])]; simp
          · rw [aut_some _ _ _ 6 _ _ (by simp [next, hd]), aut6]
            simp only [acc]
            by_cases hr : 0 < run (l.drop (i + 1 + 1))
            · simp [hr]; omega
            · have hr' : run (l.drop (i + 1 + 1)) = 0 := by omega
              simp [hr']
      · have e1 : l[i + 1]? = none := List.getElem?_eq_none (by omega)
        rw [e1, List.drop_of_length_le (by omega), dE_end _ (i + 1) (by omega)]
        simp [aut]
    · rw [if_neg he, if_neg he]
  · have e1 : l[i]? = none := List.getElem?_eq_none (by omega)
    rw [e1, List.drop_of_length_le (by omega)]
    simp [expS]

theorem head_drop (l : List UInt8) (i : Nat) : (l.drop i).head? = l[i]? := by
  simp [List.head?_drop]

/-- THE PLAIN LAW: numberLength is what the automaton says -/
theorem nl_aut (l : List UInt8) : nl l = aut 0 0 0 l := by
  cases l with
  | nil => simp [nl, aut, dE, run]
  | cons b t =>
    have e0 : dE (b :: t) 0 = run (b :: t) := by simp [dE]
    unfold nl
    rw [e0, run_cons]
    cases hd : dig b
    · by_cases hp : b = 46
      · rw [aut_some _ _ _ 3 _ _ (by subst hp; rfl)]
        simp only [Bool.false_eq_true, if_false, List.getElem?_cons_zero, hp, acc]
        simp only [if_true, Nat.zero_add, true_and]
        have e1 : dE (46 :: t) 1 = 1 + run t := by simp [dE]
        rw [e1]
        cases t with
        | nil => simp [run, aut]
        | cons c u =>
          rw [run_cons]
          cases hc : dig c
          · rw [aut_none _ _ _ _ _ (by simp [next, hc])]; simp
          · rw [aut_some _ _ _ 2 _ _ (by simp [next, hc])]
            simp only [acc, ex_eq]
            have e : 1 + (run u + 1) = run u + 1 + 1 := by omega
            have e2 : 2 + run u = run u + 1 + 1 := by omega
            simp [aut2, e, e2]
      · rw [aut_none _ _ _ _ _ (by simp [next, hd, hp])]; simp [hp]
    · rw [aut_some _ _ _ 1 _ _ (by simp [next, hd])]
      simp only [if_true, acc]
      simp only [Nat.zero_add, Nat.reduceBEq, Bool.true_or, if_true, aut1, head_drop, List.getElem?_cons_succ]
      by_cases hp : t[run t]? = some 46
      · rw [if_pos hp, if_pos hp, if_neg (by omega), ex_eq, aut2]
        have e : dE (b :: t) (run t + 1 + 1) = 1 + run t + 1 + run (t.drop (run t + 1)) := by simp [dE]; omega
        rw [e]
        have e2 : 1 + run t + 1 + run (t.drop (run t + 1)) = (run t + 1 + run (t.drop (run t + 1))) + 1 := by omega
        rw [e2]
        simp
      · rw [if_neg hp, if_neg hp, if_neg (by omega), ex_eq]
        have e2 : 1 + run t = run t + 1 := by omega
        simp [e2]

/-! ### the refusal's facts -/
theorem le_ex (l : List UInt8) (i : Nat) : i ≤ ex l i := by
  unfold ex
  repeat (first | split | omega)
theorem nl_digit (l : List UInt8) (h : 0 < l.length) (hd : dig l[0] = true) : 1 ≤ nl l := by
  have h1 : 1 ≤ dE l 0 := by rw [← dE_step l 0 h hd]; exact le_dE _ _
  unfold nl
  split
  · rw [if_neg (by omega)]
    have := le_ex l (dE l (dE l 0 + 1))
    have := le_dE l (dE l 0 + 1)
    omega
  · rw [if_neg (by omega)]
    have := le_ex l (dE l 0)
    omega
theorem nl_dot (l : List UInt8) (h : 1 < l.length) (h0 : l[0] = 46) (hd : dig l[1] = true) : 2 ≤ nl l := by
  have e0 : dE l 0 = 0 := dE_stop l 0 (by omega) (by rw [h0]; decide)
  have h1 : 2 ≤ dE l 1 := by rw [← dE_step l 1 h hd]; exact le_dE _ _
  unfold nl
  rw [e0, if_pos (by rw [List.getElem?_eq_getElem (by omega), h0]), if_neg (by simp; omega)]
  have := le_ex l (dE l (0 + 1))
  exact Nat.le_trans h1 this
theorem nl_zero (l : List UInt8) (h : ∀ h : 0 < l.length, dig l[0] = false) (h1 : ∀ h : 1 < l.length, l[0] = 46 → dig l[1] = false) : nl l = 0 := by
  have e0 : dE l 0 = 0 := by
    by_cases hl : 0 < l.length
    · exact dE_stop l 0 hl (h hl)
    · exact dE_end l 0 (by omega)
  unfold nl
  rw [e0]
  split
  · rename_i hp
    rw [if_pos]
    refine ⟨rfl, ?_⟩
    by_cases hl : 1 < l.length
    · rw [List.getElem?_eq_getElem (by omega), Option.some.injEq] at hp
      exact dE_stop l 1 hl (h1 hl hp)
    · exact dE_end l 1 (by omega)
  · simp

end Go.Proofs.Qxb6602678a.Num
