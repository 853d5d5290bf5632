/-
  THE CONTRACT OF numberLength (function 20) AND OF ZZNumberLength (13).
-/
import Derived.Test.Qxb6602678aNumWalks
namespace Go.Proofs.Qxb6602678a.NumW
open Go.ChangeShapes Go.WideShapes Go.ChangeAt Go.RowKit

theorem dE_is (s : ByteArray) (a : Int) (i n : Nat) (w : World) (hs : s.size ≤ maxLen) (ha : a = i) (hi : i ≤ s.size) (H : Hid (Num.dE s.data.toList i = n)) :
    Calls Try.prog 21 #[.string s, .int .i64 a] w fun e w' => e = .returned (.int .i64 (n : Nat)) ∧ w = w' := by
  subst ha
  refine (dE_any s (i : Int) w hs (by omega) (by omega)).mono ?_
  rintro e w' ⟨rfl, rfl⟩
  rw [Int.toNat_natCast, H.out]
  exact ⟨rfl, rfl⟩

theorem at_yes {s : ByteArray} {k : Nat} (h : k < s.size) {c : UInt8} (e : ((s[k].toNat : Int) == (c.toNat : Int)) = true) : s.data.toList[k]? = some c := by
  rw [List.getElem?_eq_getElem (by simpa using h)]
  have : s[k].toNat = c.toNat := by have := eq_of_beq e; omega
  exact congrArg some (UInt8.toNat_inj.1 this)
theorem at_no {s : ByteArray} {k : Nat} (h : k < s.size) {c : UInt8} (e : ((s[k].toNat : Int) == (c.toNat : Int)) = false) : ¬ s.data.toList[k]? = some c := by
  rw [List.getElem?_eq_getElem (by simpa using h)]
  intro q
  have q' : s[k] = c := Option.some.inj q
  rw [q'] at e
  simp at e
theorem at_out {s : ByteArray} {k : Nat} (h : ¬ k < s.size) {c : UInt8} : ¬ s.data.toList[k]? = some c := by
  rw [List.getElem?_eq_none (by simp; omega)]
  simp

theorem ex_no {l : List UInt8} {p : Nat} (h1 : ¬ l[p]? = some 101) (h2 : ¬ l[p]? = some 69) : Num.ex l p = p := by
  unfold Num.ex; rw [if_neg (fun h => h.elim h1 h2)]
theorem ex_sign {l : List UInt8} {p n : Nat} (he : l[p]? = some 101 ∨ l[p]? = some 69) (hs : l[p + 1]? = some 43 ∨ l[p + 1]? = some 45) (hn : Num.dE l (p + 2) = n) : Num.ex l p = if p + 2 < n then n else p := by
  unfold Num.ex; rw [if_pos he, if_pos hs, hn]
theorem ex_plain {l : List UInt8} {p n : Nat} (he : l[p]? = some 101 ∨ l[p]? = some 69) (h1 : ¬ l[p + 1]? = some 43) (h2 : ¬ l[p + 1]? = some 45) (hn : Num.dE l (p + 1) = n) : Num.ex l p = if p + 1 < n then n else p := by
  unfold Num.ex; rw [if_pos he, if_neg (fun h => h.elim h1 h2), hn]

theorem nl_dot0 {l : List UInt8} {i j : Nat} (hi : Num.dE l 0 = i) (hd : l[i]? = some 46) (hj : Num.dE l (i + 1) = j) (h : i = 0 ∧ j = i + 1) : Num.nl l = 0 := by
  unfold Num.nl; rw [hi, if_pos hd, hj, if_pos h]
theorem nl_dot1 {l : List UInt8} {i j : Nat} (hi : Num.dE l 0 = i) (hd : l[i]? = some 46) (hj : Num.dE l (i + 1) = j) (h : ¬ (i = 0 ∧ j = i + 1)) (h0 : j ≠ 0) : Num.nl l = if j = 0 then 0 else Num.ex l j := by
  unfold Num.nl; rw [hi, if_pos hd, hj, if_neg h, if_neg h0]
theorem nl_nodot {l : List UInt8} {i : Nat} (hi : Num.dE l 0 = i) (hd : ¬ l[i]? = some 46) : Num.nl l = if i = 0 then 0 else Num.ex l i := by
  unfold Num.nl; rw [hi, if_neg hd]

/-- every way through the exponent, in the walk's own forms -/
theorem ex_cases (s : ByteArray) (p : Nat) :
    (∃ _ : ¬ p < s.size, Hid (Num.ex s.data.toList p = p))
    ∨ (∃ _ : p < s.size, ((s[p].toNat : Int) == 101) = false ∧ ((s[p].toNat : Int) == 69) = false ∧ Hid (Num.ex s.data.toList p = p))
    ∨ (∃ _ : p < s.size, (((s[p].toNat : Int) == 101) = true ∨ (((s[p].toNat : Int) == 101) = false ∧ ((s[p].toNat : Int) == 69) = true)) ∧
        ((∃ n, Hid (Num.dE s.data.toList (p + 1) = n) ∧ n ≤ s.size ∧ ¬ p + 1 < n ∧ ¬ p + 1 < s.size ∧ Hid (Num.ex s.data.toList p = p))
        ∨ (∃ _ : p + 1 < s.size, (((s[p + 1].toNat : Int) == 43) = true ∨ (((s[p + 1].toNat : Int) == 43) = false ∧ ((s[p + 1].toNat : Int) == 45) = true)) ∧
            ∃ n, Hid (Num.dE s.data.toList (p + 2) = n) ∧ n ≤ s.size ∧ ((p + 2 < n ∧ Hid (Num.ex s.data.toList p = n)) ∨ (¬ p + 2 < n ∧ Hid (Num.ex s.data.toList p = p))))
        ∨ (∃ _ : p + 1 < s.size, ((s[p + 1].toNat : Int) == 43) = false ∧ ((s[p + 1].toNat : Int) == 45) = false ∧
            ∃ n, Hid (Num.dE s.data.toList (p + 1) = n) ∧ n ≤ s.size ∧ ((p + 1 < n ∧ Hid (Num.ex s.data.toList p = n)) ∨ (¬ p + 1 < n ∧ Hid (Num.ex s.data.toList p = p)))))) := by
  have hlen : s.data.toList.length = s.size := by simp
  by_cases h : p < s.size
  rotate_left
  · exact .inl ⟨h, ex_no (at_out h) (at_out h)⟩
  by_cases he : ((s[p].toNat : Int) == 101) = true ∨ (((s[p].toNat : Int) == 101) = false ∧ ((s[p].toNat : Int) == 69) = true)
  rotate_left
  · have e1 : ((s[p].toNat : Int) == 101) = false := by cases q : ((s[p].toNat : Int) == 101) <;> simp_all
    have e2 : ((s[p].toNat : Int) == 69) = false := by cases q : ((s[p].toNat : Int) == 69) <;> simp_all
    exact .inr (.inl ⟨h, e1, e2, ex_no (at_no h e1) (at_no h e2)⟩)
  have hE : s.data.toList[p]? = some 101 ∨ s.data.toList[p]? = some 69 := by
    rcases he with q | ⟨_, q⟩
    · exact .inl (at_yes h q)
    · exact .inr (at_yes h q)
  refine .inr (.inr ⟨h, he, ?_⟩)
  by_cases h1 : p + 1 < s.size
  rotate_left
  · have e : Num.dE s.data.toList (p + 1) = p + 1 := Num.dE_end _ _ (by omega)
    refine .inl ⟨p + 1, e, by omega, by omega, h1, ?_⟩
    have := ex_plain hE (at_out h1) (at_out h1) e
    rw [if_neg (by omega)] at this
    exact this
  by_cases hs : ((s[p + 1].toNat : Int) == 43) = true ∨ (((s[p + 1].toNat : Int) == 43) = false ∧ ((s[p + 1].toNat : Int) == 45) = true)
  · have hS : s.data.toList[p + 1]? = some 43 ∨ s.data.toList[p + 1]? = some 45 := by
      rcases hs with q | ⟨_, q⟩
      · exact .inl (at_yes h1 q)
      · exact .inr (at_yes h1 q)
    refine .inr (.inl ⟨h1, hs, _, rfl, ?_, ?_⟩)
    · have := Num.dE_le s.data.toList (p + 2) (by omega); omega
    · have := ex_sign hE hS rfl
      by_cases hn : p + 2 < Num.dE s.data.toList (p + 2)
      · rw [if_pos hn] at this; exact .inl ⟨hn, this⟩
      · rw [if_neg hn] at this; exact .inr ⟨hn, this⟩
  · have e1 : ((s[p + 1].toNat : Int) == 43) = false := by cases q : ((s[p + 1].toNat : Int) == 43) <;> simp_all
    have e2 : ((s[p + 1].toNat : Int) == 45) = false := by cases q : ((s[p + 1].toNat : Int) == 45) <;> simp_all
    refine .inr (.inr ⟨h1, e1, e2, _, rfl, ?_, ?_⟩)
    · have := Num.dE_le s.data.toList (p + 1) (by omega); omega
    · have := ex_plain hE (at_no h1 e1) (at_no h1 e2) rfl
      by_cases hn : p + 1 < Num.dE s.data.toList (p + 1)
      · rw [if_pos hn] at this; exact .inl ⟨hn, this⟩
      · rw [if_neg hn] at this; exact .inr ⟨hn, this⟩

set_option maxHeartbeats 2000000 in
theorem nl_A2 (s : ByteArray) (w : World) (hs : s.size ≤ 1048576) (i j : Nat) (Hi : Hid (Num.dE s.data.toList 0 = i)) (hi : i < s.size) (bd : ((s[i].toNat : Int) == 46) = true) (Hj : Hid (Num.dE s.data.toList (i + 1) = j)) (hj1 : i + 1 ≤ j) (hj2 : j ≤ s.size) (hij : (0 < i) ∨ (¬ 0 < i ∧ ((j : Int) == (i : Int) + 1) = false)) :
    Calls Try.prog 20 #[.string s] w fun e w' => e = .returned (.int .i64 (Num.nl s.data.toList : Nat)) ∧ w = w' := by
  have hm : s.size ≤ maxLen := by unfold maxLen; omega
  have hij' : ¬ (i = 0 ∧ j = i + 1) := by
    rcases hij with h | ⟨_, h⟩
    · omega
    · have := beq_eq_false_iff_ne.1 h; omega
  have HN : Hid (Num.nl s.data.toList = Num.ex s.data.toList j) := (nl_dot1 Hi.out (at_yes hi bd) Hj.out hij' (by omega)).trans (if_neg (by omega))
  clear hij'
  have bj : ((j : Int) == 0) = false := beq_eq_false_iff_ne.2 (by omega)
  rcases hij with hi0 | ⟨hi0, bij⟩
  all_goals
    rcases ex_cases s j with ⟨g, HE⟩ | ⟨g, b1, b2, HE⟩ | ⟨g, he, hx⟩
    ·
      go_enter Try.func20, Try.ntmps20
      go_wp2_with (first | (go_at_call 21; refine (dE_is s _ 0 i _ hm ?_ ?_ Hi).mono ?_; (· omega); (· omega); rintro e w' ⟨rfl, rfl⟩) | (go_at_call 21; refine (dE_is s _ (i + 1) j _ hm ?_ ?_ Hj).mono ?_; (· omega); (· omega); rintro e w' ⟨rfl, rfl⟩))
      go_ret
      exact ⟨ret_int (by rw [HN.out, HE.out]), rfl⟩
    ·
      go_enter Try.func20, Try.ntmps20
      go_wp2_with (first | (go_at_call 21; refine (dE_is s _ 0 i _ hm ?_ ?_ Hi).mono ?_; (· omega); (· omega); rintro e w' ⟨rfl, rfl⟩) | (go_at_call 21; refine (dE_is s _ (i + 1) j _ hm ?_ ?_ Hj).mono ?_; (· omega); (· omega); rintro e w' ⟨rfl, rfl⟩))
      go_ret
      exact ⟨ret_int (by rw [HN.out, HE.out]), rfl⟩
    rcases he with b1 | ⟨b1, b2⟩
    all_goals
      rcases hx with ⟨n, Hn, hn, hlt, g1, HE⟩ | ⟨g1, hsg, n, Hn, hn, hx⟩ | ⟨g1, c1, c2, n, Hn, hn, hx⟩
      ·
        go_enter Try.func20, Try.ntmps20
        go_wp2_with (first | (go_at_call 21; refine (dE_is s _ 0 i _ hm ?_ ?_ Hi).mono ?_; (· omega); (· omega); rintro e w' ⟨rfl, rfl⟩) | (go_at_call 21; refine (dE_is s _ (i + 1) j _ hm ?_ ?_ Hj).mono ?_; (· omega); (· omega); rintro e w' ⟨rfl, rfl⟩) | (go_at_call 21; refine (dE_is s _ (j + 1) n _ hm ?_ ?_ Hn).mono ?_; (· omega); (· omega); rintro e w' ⟨rfl, rfl⟩))
        go_ret
        exact ⟨ret_int (by rw [HN.out, HE.out]), rfl⟩
      · rcases hsg with c1 | ⟨c1, c2⟩
        all_goals
          rcases hx with ⟨hlt, HE⟩ | ⟨hlt, HE⟩
          all_goals
            go_enter Try.func20, Try.ntmps20
            go_wp2_with (first | (go_at_call 21; refine (dE_is s _ 0 i _ hm ?_ ?_ Hi).mono ?_; (· omega); (· omega); rintro e w' ⟨rfl, rfl⟩) | (go_at_call 21; refine (dE_is s _ (i + 1) j _ hm ?_ ?_ Hj).mono ?_; (· omega); (· omega); rintro e w' ⟨rfl, rfl⟩) | (go_at_call 21; refine (dE_is s _ (j + 2) n _ hm ?_ ?_ Hn).mono ?_; (· omega); (· omega); rintro e w' ⟨rfl, rfl⟩))
            go_ret
            exact ⟨ret_int (by rw [HN.out, HE.out]), rfl⟩
      · rcases hx with ⟨hlt, HE⟩ | ⟨hlt, HE⟩
        all_goals
          go_enter Try.func20, Try.ntmps20
          go_wp2_with (first | (go_at_call 21; refine (dE_is s _ 0 i _ hm ?_ ?_ Hi).mono ?_; (· omega); (· omega); rintro e w' ⟨rfl, rfl⟩) | (go_at_call 21; refine (dE_is s _ (i + 1) j _ hm ?_ ?_ Hj).mono ?_; (· omega); (· omega); rintro e w' ⟨rfl, rfl⟩) | (go_at_call 21; refine (dE_is s _ (j + 1) n _ hm ?_ ?_ Hn).mono ?_; (· omega); (· omega); rintro e w' ⟨rfl, rfl⟩))
          go_ret
          exact ⟨ret_int (by rw [HN.out, HE.out]), rfl⟩

set_option maxHeartbeats 2000000 in
theorem nl_B2 (s : ByteArray) (w : World) (hs : s.size ≤ 1048576) (i : Nat) (Hi : Hid (Num.dE s.data.toList 0 = i)) (hi : i ≤ s.size) (bd : (¬ i < s.size) ∨ (∃ _ : i < s.size, ((s[i].toNat : Int) == 46) = false)) (hi0 : 0 < i) :
    Calls Try.prog 20 #[.string s] w fun e w' => e = .returned (.int .i64 (Num.nl s.data.toList : Nat)) ∧ w = w' := by
  have hm : s.size ≤ maxLen := by unfold maxLen; omega
  have hd : Hid (¬ s.data.toList[i]? = some 46) := by
    rcases bd with h | ⟨h, b⟩
    · exact at_out h
    · exact at_no h b
  have HN : Hid (Num.nl s.data.toList = Num.ex s.data.toList i) := (nl_nodot Hi.out hd.out).trans (if_neg (by omega))
  clear hd
  have bj : ((i : Int) == 0) = false := beq_eq_false_iff_ne.2 (by omega)
  rcases bd with gd | ⟨gd, bd⟩
  · have HE : Hid (Num.ex s.data.toList i = i) := ex_no (at_out gd) (at_out gd)
    go_enter Try.func20, Try.ntmps20
    go_wp2_with (first | (go_at_call 21; refine (dE_is s _ 0 i _ hm ?_ ?_ Hi).mono ?_; (· omega); (· omega); rintro e w' ⟨rfl, rfl⟩))
    go_ret
    exact ⟨ret_int (by rw [HN.out, HE.out]), rfl⟩
  rcases ex_cases s i with ⟨g, HE⟩ | ⟨g, b1, b2, HE⟩ | ⟨g, he, hx⟩
  · exact absurd gd g
  ·
    go_enter Try.func20, Try.ntmps20
    go_wp2_with (first | (go_at_call 21; refine (dE_is s _ 0 i _ hm ?_ ?_ Hi).mono ?_; (· omega); (· omega); rintro e w' ⟨rfl, rfl⟩))
    go_ret
    exact ⟨ret_int (by rw [HN.out, HE.out]), rfl⟩
  rcases he with b1 | ⟨b1, b2⟩
  all_goals
    rcases hx with ⟨n, Hn, hn, hlt, g1, HE⟩ | ⟨g1, hsg, n, Hn, hn, hx⟩ | ⟨g1, c1, c2, n, Hn, hn, hx⟩
    ·
      go_enter Try.func20, Try.ntmps20
      go_wp2_with (first | (go_at_call 21; refine (dE_is s _ 0 i _ hm ?_ ?_ Hi).mono ?_; (· omega); (· omega); rintro e w' ⟨rfl, rfl⟩) | (go_at_call 21; refine (dE_is s _ (i + 1) n _ hm ?_ ?_ Hn).mono ?_; (· omega); (· omega); rintro e w' ⟨rfl, rfl⟩))
      go_ret
      exact ⟨ret_int (by rw [HN.out, HE.out]), rfl⟩
    · rcases hsg with c1 | ⟨c1, c2⟩
      all_goals
        rcases hx with ⟨hlt, HE⟩ | ⟨hlt, HE⟩
        all_goals
          go_enter Try.func20, Try.ntmps20
          go_wp2_with (first | (go_at_call 21; refine (dE_is s _ 0 i _ hm ?_ ?_ Hi).mono ?_; (· omega); (· omega); rintro e w' ⟨rfl, rfl⟩) | (go_at_call 21; refine (dE_is s _ (i + 2) n _ hm ?_ ?_ Hn).mono ?_; (· omega); (· omega); rintro e w' ⟨rfl, rfl⟩))
          go_ret
          exact ⟨ret_int (by rw [HN.out, HE.out]), rfl⟩
    · rcases hx with ⟨hlt, HE⟩ | ⟨hlt, HE⟩
      all_goals
        go_enter Try.func20, Try.ntmps20
        go_wp2_with (first | (go_at_call 21; refine (dE_is s _ 0 i _ hm ?_ ?_ Hi).mono ?_; (· omega); (· omega); rintro e w' ⟨rfl, rfl⟩) | (go_at_call 21; refine (dE_is s _ (i + 1) n _ hm ?_ ?_ Hn).mono ?_; (· omega); (· omega); rintro e w' ⟨rfl, rfl⟩))
        go_ret
        exact ⟨ret_int (by rw [HN.out, HE.out]), rfl⟩

set_option maxHeartbeats 1000000 in
theorem nl_any (s : ByteArray) (w : World) (hs : s.size ≤ 1048576) :
    Calls Try.prog 20 #[.string s] w fun e w' => e = .returned (.int .i64 (Num.nl s.data.toList : Nat)) ∧ w = w' := by
  have hm : s.size ≤ maxLen := by unfold maxLen; omega
  have hlen : s.data.toList.length = s.size := by simp
  obtain ⟨i, Hi, hi⟩ : ∃ i, Hid (Num.dE s.data.toList 0 = i) ∧ i ≤ s.size := ⟨_, rfl, by have := Num.dE_le s.data.toList 0 (by omega); omega⟩
  by_cases hlt : i < s.size
  rotate_left
  · by_cases h0 : 0 < i
    · exact nl_B2 s w hs i Hi hi (.inl hlt) h0
    · have HN : Hid (Num.nl s.data.toList = 0) := (nl_nodot Hi.out (at_out hlt)).trans (if_pos (by omega))
      have bj : ((i : Int) == 0) = true := beq_iff_eq.2 (by omega)
      go_enter Try.func20, Try.ntmps20
      go_wp2_with (first | (go_at_call 21; refine (dE_is s _ 0 i _ hm ?_ ?_ Hi).mono ?_; (· omega); (· omega); rintro e w' ⟨rfl, rfl⟩))
      go_ret
      exact ⟨ret_int (by rw [HN.out]; rfl), rfl⟩
  cases bd : ((s[i].toNat : Int) == 46)
  · by_cases h0 : 0 < i
    · exact nl_B2 s w hs i Hi hi (.inr ⟨hlt, bd⟩) h0
    · have HN : Hid (Num.nl s.data.toList = 0) := (nl_nodot Hi.out (at_no hlt bd)).trans (if_pos (by omega))
      have bj : ((i : Int) == 0) = true := beq_iff_eq.2 (by omega)
      go_enter Try.func20, Try.ntmps20
      go_wp2_with (first | (go_at_call 21; refine (dE_is s _ 0 i _ hm ?_ ?_ Hi).mono ?_; (· omega); (· omega); rintro e w' ⟨rfl, rfl⟩))
      go_ret
      exact ⟨ret_int (by rw [HN.out]; rfl), rfl⟩
  · obtain ⟨j, Hj, hj1, hj2⟩ : ∃ j, Hid (Num.dE s.data.toList (i + 1) = j) ∧ i + 1 ≤ j ∧ j ≤ s.size := ⟨_, rfl, Num.le_dE _ _, by have := Num.dE_le s.data.toList (i + 1) (by omega); omega⟩
    by_cases h0 : 0 < i
    · exact nl_A2 s w hs i j Hi hlt bd Hj hj1 hj2 (.inl h0)
    · cases bij : ((j : Int) == (i : Int) + 1)
      · exact nl_A2 s w hs i j Hi hlt bd Hj hj1 hj2 (.inr ⟨h0, bij⟩)
      · have HN : Hid (Num.nl s.data.toList = 0) := nl_dot0 Hi.out (at_yes hlt bd) Hj.out ⟨by omega, by have := eq_of_beq bij; omega⟩
        go_enter Try.func20, Try.ntmps20
        go_wp2_with (first | (go_at_call 21; refine (dE_is s _ 0 i _ hm ?_ ?_ Hi).mono ?_; (· omega); (· omega); rintro e w' ⟨rfl, rfl⟩) | (go_at_call 21; refine (dE_is s _ (i + 1) j _ hm ?_ ?_ Hj).mono ?_; (· omega); (· omega); rintro e w' ⟨rfl, rfl⟩))
        go_ret
        exact ⟨ret_int (by rw [HN.out]; rfl), rfl⟩

theorem zznl_any (s : ByteArray) (w : World) (hs : s.size ≤ 1048576) :
    Calls Try.prog 13 #[.string s] w fun e w' => e = .returned (.int .i64 (Num.nl s.data.toList : Nat)) ∧ w = w' := by
  go_enter Try.func13, Try.ntmps13
  go_wp2_with (go_at_call 20; refine (nl_any s _ hs).mono ?_; rintro e w' ⟨rfl, rfl⟩)
  go_ret
  exact ⟨rfl, rfl⟩
end Go.Proofs.Qxb6602678a.NumW
