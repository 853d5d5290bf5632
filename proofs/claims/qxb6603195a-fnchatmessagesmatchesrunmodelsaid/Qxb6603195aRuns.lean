/-
  RUNS, IN PLAIN WORDS: what the law reckons over a run, and what 'alternating' makes of it. No walk, no memory.
-/
import Derived.Test.Qxb6603195aMsg
namespace Go.Proofs.Qxb6603195a.W6

def seg (bs : List B) (i t : Nat) : List B := (bs.drop i).take (t - i)
def segT (bs : List B) (i t : Nat) : List UInt8 := ((seg bs i t).map (·.content.toList)).foldl jl []
def segC (bs : List B) (i t : Nat) : List TC := (seg bs i t).flatMap (·.calls)

theorem seg_self (bs : List B) (i : Nat) : seg bs i i = [] := by simp [seg]
theorem seg_step (bs : List B) {i t : Nat} (hi : i ≤ t) (ht : t < bs.length) : seg bs i (t + 1) = seg bs i t ++ [bs[t]] := by
  unfold seg
  have e : t + 1 - i = (t - i) + 1 := by omega
  have hl : t - i < (bs.drop i).length := by simp; omega
  rw [e, List.take_succ_eq_append_getElem hl, List.getElem_drop]
  congr 3
  omega
theorem seg_cons (bs : List B) {i j : Nat} (hi : i < j) (hl : i < bs.length) : seg bs i j = bs[i] :: seg bs (i + 1) j := by
  unfold seg
  rw [List.drop_eq_getElem_cons hl, show j - i = (j - (i + 1)) + 1 by omega, List.take_succ_cons]
theorem segT_self (bs : List B) (i : Nat) : segT bs i i = [] := by simp [segT, seg_self]
theorem segC_self (bs : List B) (i : Nat) : segC bs i i = [] := by simp [segC, seg_self]
theorem segT_step (bs : List B) {i t : Nat} (hi : i ≤ t) (ht : t < bs.length) : segT bs i (t + 1) = jl (segT bs i t) bs[t].content.toList := by
  unfold segT
  rw [seg_step bs hi ht, List.map_append, List.foldl_append]
  rfl
theorem segC_step (bs : List B) {i t : Nat} (hi : i ≤ t) (ht : t < bs.length) : segC bs i (t + 1) = segC bs i t ++ bs[t].calls := by
  unfold segC
  rw [seg_step bs hi ht, List.flatMap_append]
  simp

theorem jl_nil_left (b : List UInt8) : jl [] b = b := rfl
theorem jl_nil_right (a : List UInt8) : jl a [] = a := by cases a <;> rfl
theorem jl_both {a b : List UInt8} (ha : a ≠ []) (hb : b ≠ []) : jl a b = a ++ [10, 10] ++ b := by
  cases a <;> cases b <;> simp_all [jl]
theorem jl_prefix (a b : List UInt8) : a <+: jl a b := by
  by_cases ha : a = []
  · rw [ha]; exact List.nil_prefix
  · by_cases hb : b = []
    · rw [hb, jl_nil_right]; exact List.prefix_refl _
    · rw [jl_both ha hb, List.append_assoc]; exact List.prefix_append _ _
theorem jl_eq_nil {a b : List UInt8} (h : jl a b = []) : a = [] ∧ b = [] := by
  by_cases ha : a = []
  · rw [ha, jl_nil_left] at h; exact ⟨ha, h⟩
  · by_cases hb : b = []
    · rw [hb, jl_nil_right] at h; exact ⟨h, hb⟩
    · rw [jl_both ha hb] at h; simp at h
theorem segT_prefix (bs : List B) {i : Nat} : ∀ {t j : Nat}, i ≤ t → t ≤ j → j ≤ bs.length → segT bs i t <+: segT bs i j
  | t, j, hi, hj, hl => by
    by_cases h : t = j
    · rw [h]; exact List.prefix_refl _
    · obtain ⟨j', rfl⟩ : ∃ j', j = j' + 1 := ⟨j - 1, by omega⟩
      rw [segT_step bs (by omega : i ≤ j') (by omega)]
      exact (segT_prefix bs (t := t) (j := j') hi (by omega) (by omega)).trans (jl_prefix _ _)
theorem segC_prefix (bs : List B) {i : Nat} : ∀ {t j : Nat}, i ≤ t → t ≤ j → j ≤ bs.length → segC bs i t <+: segC bs i j
  | t, j, hi, hj, hl => by
    by_cases h : t = j
    · rw [h]; exact List.prefix_refl _
    · obtain ⟨j', rfl⟩ : ∃ j', j = j' + 1 := ⟨j - 1, by omega⟩
      rw [segC_step bs (by omega : i ≤ j') (by omega)]
      exact (segC_prefix bs (t := t) (j := j') hi (by omega) (by omega)).trans (List.prefix_append _ _)
/-- a text that is not empty makes the run's text not empty -/
theorem segT_ne (bs : List B) {i t j : Nat} (hi : i ≤ t) (ht : t < j) (hl : j ≤ bs.length) (hc : bs[t].content.toList ≠ []) : segT bs i j ≠ [] := by
  intro h
  have hp := segT_prefix bs (i := i) (t := t + 1) (j := j) (by omega) (by omega) hl
  rw [h, List.prefix_nil, segT_step bs hi (by omega)] at hp
  exact hc (jl_eq_nil hp).2
/-- the call of a run by its place -/
theorem segC_get (bs : List B) {i t j u : Nat} (hi : i ≤ t) (ht : t < j) (hl : j ≤ bs.length) (hu : u < bs[t].calls.length) : (segC bs i j)[(segC bs i t).length + u]? = some bs[t].calls[u] := by
  have hp := segC_prefix bs (i := i) (t := t + 1) (j := j) (by omega) (by omega) hl
  rw [segC_step bs hi (by omega)] at hp
  obtain ⟨r, hr⟩ := hp
  rw [← hr, List.append_assoc, List.getElem?_append_right (by omega), show (segC bs i t).length + u - (segC bs i t).length = u by omega, List.getElem?_append_left hu]
  simp

/-! ### what a run becomes -/
theorem fold_merge_role (r : List B) : ∀ x : B, (r.foldl merge x).role = x.role ∧ (r.foldl merge x).tcid = x.tcid := by
  induction r with
  | nil => intro x; exact ⟨rfl, rfl⟩
  | cons m t ih => intro x; exact ih (merge x m)
theorem fold_merge_calls (r : List B) : ∀ x : B, (r.foldl merge x).calls = x.calls ++ r.flatMap (·.calls) := by
  induction r with
  | nil => intro x; simp
  | cons m t ih => intro x; rw [List.foldl_cons, ih (merge x m)]; simp [merge]
theorem fold_merge_text (r : List B) : ∀ x : B, (r.foldl merge x).content.toList = (r.map (·.content.toList)).foldl jl x.content.toList := by
  induction r with
  | nil => intro x; rfl
  | cons m t ih =>
    intro x
    rw [List.foldl_cons, ih (merge x m), List.map_cons, List.foldl_cons]
    show List.foldl jl (joinTwo x.content m.content).toList _ = _
    rw [joinTwo_list]
theorem runs_run : ∀ (r : List B) (x : B) (rest : List B), (∀ m ∈ r, joins x m) → (∀ m t, rest = m :: t → ¬ joins x m) → runs x (r ++ rest) = r.foldl merge x :: (match rest with | [] => [] | m :: t => runs m t)
  | [], x, [], _, _ => rfl
  | [], x, m :: t, _, h => by
    have := h m t rfl
    simp [runs, this]
  | y :: r, x, rest, hr, h => by
    have hy := hr y (by simp)
    have e : runs x (y :: r ++ rest) = runs (merge x y) (r ++ rest) := by simp [runs, hy]
    rw [e, runs_run r (merge x y) rest (fun m hm => hr m (by simp [hm])) (fun m t e q => h m t e q)]
    rfl

structure RunTo (bs : List B) (i j : Nat) : Prop where
  lo : i < j
  hi : j ≤ bs.length
  mid : ∀ t (h : t < bs.length) (h0 : i < bs.length), i < t → t < j → joins bs[i] bs[t]
  fin : ∀ (h : j < bs.length) (h0 : i < bs.length), ¬ joins bs[i] bs[j]

/-- what is left of the joined messages, once the first i are told -/
def left (bs : List B) (i : Nat) : List B := match bs.drop i with
  | [] => []
  | x :: t => runs x t
theorem left_zero (bs : List B) : left bs 0 = alt bs := by
  cases bs with
  | nil => rfl
  | cons x t => rw [alt_cons]; rfl
theorem left_end (bs : List B) {i : Nat} (h : bs.length ≤ i) : left bs i = [] := by
  unfold left
  rw [List.drop_eq_nil_of_le h]
theorem left_run (bs : List B) {i j : Nat} (h : RunTo bs i j) (hi : i < bs.length) : left bs i = (seg bs (i + 1) j).foldl merge bs[i] :: left bs j := by
  have e : bs.drop i = bs[i] :: (seg bs (i + 1) j ++ bs.drop j) := by
    rw [List.drop_eq_getElem_cons hi]
    congr 1
    unfold seg
    have e2 : bs.drop j = (bs.drop (i + 1)).drop (j - (i + 1)) := by
      rw [List.drop_drop]
      congr 1
      have := h.lo
      omega
    rw [e2, List.take_append_drop]
  have e3 : left bs i = runs bs[i] (seg bs (i + 1) j ++ bs.drop j) := by
    unfold left
    rw [e]
  rw [e3, runs_run]
  · rfl
  · intro m hm
    unfold seg at hm
    obtain ⟨q, hq, rfl⟩ := List.getElem_of_mem hm
    rw [List.getElem_take, List.getElem_drop]
    have : q < j - (i + 1) := by simp at hq; omega
    exact h.mid (i + 1 + q) _ hi (by omega) (by omega)
  · intro m t e
    by_cases hj : j < bs.length
    · rw [List.drop_eq_getElem_cons hj] at e
      injection e with e1 e2
      rw [← e1]
      exact h.fin hj hi
    · rw [List.drop_eq_nil_of_le (by omega)] at e
      cases e
/-- the message of a run -/
theorem run_is (bs : List B) {i j : Nat} (h : RunTo bs i j) (hi : i < bs.length) (o : B) (ho : o = (seg bs (i + 1) j).foldl merge bs[i]) : o.role = bs[i].role ∧ o.tcid = bs[i].tcid ∧ o.content.toList = segT bs i j ∧ o.calls = segC bs i j := by
  subst ho
  refine ⟨(fold_merge_role _ _).1, (fold_merge_role _ _).2, ?_, ?_⟩
  · rw [fold_merge_text]
    unfold segT
    rw [seg_cons bs h.lo hi, List.map_cons, List.foldl_cons, jl_nil_left]
  · rw [fold_merge_calls]
    unfold segC
    rw [seg_cons bs h.lo hi, List.flatMap_cons]
end Go.Proofs.Qxb6603195a.W6
