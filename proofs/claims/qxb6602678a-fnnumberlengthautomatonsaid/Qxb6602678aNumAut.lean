/-
  THE CONTRACT OF numberAutomaton (function 14).
-/
import Derived.Test.Qxb6602678aNumWalks
namespace Go.Proofs.Qxb6602678a.NumW
open Go.ChangeShapes Go.WideShapes Go.ChangeAt Go.RowKit

theorem aut_go {s : ByteArray} {k q best q' N : Nat} (h : k < s.size) (H : Num.aut q k best (s.data.toList.drop k) = N) (hn : Num.next q s[k] = some q') :
    Num.aut q' (k + 1) (if Num.acc q' = true then k + 1 else best) (s.data.toList.drop (k + 1)) = N := by
  rw [List.drop_eq_getElem_cons (by simpa using h)] at H
  exact (Num.aut_some q k best q' s[k] _ hn).symm.trans H
theorem aut_stop {s : ByteArray} {k q best N : Nat} (h : k < s.size) (H : Num.aut q k best (s.data.toList.drop k) = N) (hn : Num.next q s[k] = none) : N = best := by
  rw [List.drop_eq_getElem_cons (by simpa using h)] at H
  exact H.symm.trans (Num.aut_none q k best s[k] _ hn)
theorem aut_end {s : ByteArray} {k q best N : Nat} (h : ¬ k < s.size) (H : Num.aut q k best (s.data.toList.drop k) = N) : N = best := by
  rw [List.drop_of_length_le (by simp; omega)] at H
  exact H.symm

theorem byte_eq {b c : UInt8} (e : ((b.toNat : Int) == (c.toNat : Int)) = true) : b = c := UInt8.toNat_inj.1 (by have := eq_of_beq e; omega)
theorem byte_ne {b c : UInt8} (e : ((b.toNat : Int) == (c.toNat : Int)) = false) : b ≠ c := by
  intro q; rw [q] at e; simp at e

set_option maxHeartbeats 4000000 in
theorem aut_any (s : ByteArray) (w : World) (hs : s.size ≤ 1048576) :
    Calls Try.prog 14 #[.string s] w fun e w' => e = .returned (.int .i64 (Num.aut 0 0 0 s.data.toList : Nat)) ∧ w = w' := by
  obtain ⟨N, HN⟩ : ∃ N, Hid (Num.aut 0 0 0 s.data.toList = N) := ⟨_, rfl⟩
  rw [HN.out]
  go_enter Try.func14, Try.ntmps14
  go_wp2_with fail
  go_loop [3, 4, 5] (fun st b i => ∃ q best k : Nat, st = .int .i64 q ∧ b = .int .i64 best ∧ i = .int .i64 k ∧ q ≤ 6 ∧ k ≤ s.size ∧ Hid (Num.aut q k best (s.data.toList.drop k) = N)) (fun _ _ i => s.size - (intOf i).toNat)
  case atStart => exact ⟨0, 0, 0, rfl, rfl, rfl, by omega, by omega, HN⟩
  case round =>
    obtain ⟨q, best, k, rfl, rfl, rfl, hq, hk, H⟩ := hrel
    by_cases hlt : k < s.size
    rotate_left
    · have H' : Hid (N = best) := aut_end hlt H.out
      go_wp2_with fail
      go_ret
      exact ⟨ret_int (by rw [H'.out]), rfl⟩
    have hq' : q = 0 ∨ q = 1 ∨ q = 2 ∨ q = 3 ∨ q = 4 ∨ q = 5 ∨ q = 6 := by omega
    clear hq
    rcases hq' with rfl | rfl | rfl | rfl | rfl | rfl | rfl
    · cases hd : Num.dig s[k]
      rotate_left
      ·
        have H2 : Hid (Num.aut 1 (k + 1) (k + 1) (s.data.toList.drop (k + 1)) = N) := aut_go hlt H.out (by simp [Num.next, hd])
        clear H
        go_wp2_with (go_at_call 16; refine (dig_any _ _).mono ?_; rintro e w' ⟨rfl, rfl⟩)
        go_round
        case rel => exact ⟨1, (k + 1), k + 1, by go_num, by go_num, by go_num, by omega, by omega, H2⟩
        case measure => simp [intOf]; omega
      cases c46 : ((s[k].toNat : Int) == 46)
      rotate_left
      · have e46 : Hid (s[k] = 46) := byte_eq c46
        have H2 : Hid (Num.aut 3 (k + 1) best (s.data.toList.drop (k + 1)) = N) := aut_go hlt H.out (by simp [Num.next, e46.out, show Num.dig 46 = false from rfl])
        clear H
        go_wp2_with (go_at_call 16; refine (dig_any _ _).mono ?_; rintro e w' ⟨rfl, rfl⟩)
        go_round
        case rel => exact ⟨3, best, k + 1, by go_num, by go_num, by go_num, by omega, by omega, H2⟩
        case measure => simp [intOf]; omega
      have n46 : Hid (s[k] ≠ 46) := byte_ne c46
      have H' : Hid (N = best) := aut_stop hlt H.out (by simp [Num.next, hd, n46.out])
      clear H
      go_wp2_with (go_at_call 16; refine (dig_any _ _).mono ?_; rintro e w' ⟨rfl, rfl⟩)
      go_ret
      exact ⟨ret_int (by rw [H'.out]), rfl⟩
    · cases hd : Num.dig s[k]
      rotate_left
      ·
        have H2 : Hid (Num.aut 1 (k + 1) (k + 1) (s.data.toList.drop (k + 1)) = N) := aut_go hlt H.out (by simp [Num.next, hd])
        clear H
        go_wp2_with (go_at_call 16; refine (dig_any _ _).mono ?_; rintro e w' ⟨rfl, rfl⟩)
        go_round
        case rel => exact ⟨1, (k + 1), k + 1, by go_num, by go_num, by go_num, by omega, by omega, H2⟩
        case measure => simp [intOf]; omega
      cases c46 : ((s[k].toNat : Int) == 46)
      rotate_left
      · have e46 : Hid (s[k] = 46) := byte_eq c46
        have H2 : Hid (Num.aut 2 (k + 1) (k + 1) (s.data.toList.drop (k + 1)) = N) := aut_go hlt H.out (by simp [Num.next, e46.out, show Num.dig 46 = false from rfl])
        clear H
        go_wp2_with (go_at_call 16; refine (dig_any _ _).mono ?_; rintro e w' ⟨rfl, rfl⟩)
        go_round
        case rel => exact ⟨2, (k + 1), k + 1, by go_num, by go_num, by go_num, by omega, by omega, H2⟩
        case measure => simp [intOf]; omega
      have n46 : Hid (s[k] ≠ 46) := byte_ne c46
      cases c101 : ((s[k].toNat : Int) == 101)
      rotate_left
      · have e101 : Hid (s[k] = 101) := byte_eq c101
        have H2 : Hid (Num.aut 4 (k + 1) best (s.data.toList.drop (k + 1)) = N) := aut_go hlt H.out (by simp [Num.next, e101.out, show Num.dig 101 = false from rfl])
        clear H
        go_wp2_with (go_at_call 16; refine (dig_any _ _).mono ?_; rintro e w' ⟨rfl, rfl⟩)
        go_round
        case rel => exact ⟨4, best, k + 1, by go_num, by go_num, by go_num, by omega, by omega, H2⟩
        case measure => simp [intOf]; omega
      have n101 : Hid (s[k] ≠ 101) := byte_ne c101
      cases c69 : ((s[k].toNat : Int) == 69)
      rotate_left
      · have e69 : Hid (s[k] = 69) := byte_eq c69
        have H2 : Hid (Num.aut 4 (k + 1) best (s.data.toList.drop (k + 1)) = N) := aut_go hlt H.out (by simp [Num.next, e69.out, show Num.dig 69 = false from rfl])
        clear H
        go_wp2_with (go_at_call 16; refine (dig_any _ _).mono ?_; rintro e w' ⟨rfl, rfl⟩)
        go_round
        case rel => exact ⟨4, best, k + 1, by go_num, by go_num, by go_num, by omega, by omega, H2⟩
        case measure => simp [intOf]; omega
      have n69 : Hid (s[k] ≠ 69) := byte_ne c69
      have H' : Hid (N = best) := aut_stop hlt H.out (by simp [Num.next, hd, n46.out, n101.out, n69.out])
      clear H
      go_wp2_with (go_at_call 16; refine (dig_any _ _).mono ?_; rintro e w' ⟨rfl, rfl⟩)
      go_ret
      exact ⟨ret_int (by rw [H'.out]), rfl⟩
    · cases hd : Num.dig s[k]
      rotate_left
      ·
        have H2 : Hid (Num.aut 2 (k + 1) (k + 1) (s.data.toList.drop (k + 1)) = N) := aut_go hlt H.out (by simp [Num.next, hd])
        clear H
        go_wp2_with (go_at_call 16; refine (dig_any _ _).mono ?_; rintro e w' ⟨rfl, rfl⟩)
        go_round
        case rel => exact ⟨2, (k + 1), k + 1, by go_num, by go_num, by go_num, by omega, by omega, H2⟩
        case measure => simp [intOf]; omega
      cases c101 : ((s[k].toNat : Int) == 101)
      rotate_left
      · have e101 : Hid (s[k] = 101) := byte_eq c101
        have H2 : Hid (Num.aut 4 (k + 1) best (s.data.toList.drop (k + 1)) = N) := aut_go hlt H.out (by simp [Num.next, e101.out, show Num.dig 101 = false from rfl])
        clear H
        go_wp2_with (go_at_call 16; refine (dig_any _ _).mono ?_; rintro e w' ⟨rfl, rfl⟩)
        go_round
        case rel => exact ⟨4, best, k + 1, by go_num, by go_num, by go_num, by omega, by omega, H2⟩
        case measure => simp [intOf]; omega
      have n101 : Hid (s[k] ≠ 101) := byte_ne c101
      cases c69 : ((s[k].toNat : Int) == 69)
      rotate_left
      · have e69 : Hid (s[k] = 69) := byte_eq c69
        have H2 : Hid (Num.aut 4 (k + 1) best (s.data.toList.drop (k + 1)) = N) := aut_go hlt H.out (by simp [Num.next, e69.out, show Num.dig 69 = false from rfl])
        clear H
        go_wp2_with (go_at_call 16; refine (dig_any _ _).mono ?_; rintro e w' ⟨rfl, rfl⟩)
        go_round
        case rel => exact ⟨4, best, k + 1, by go_num, by go_num, by go_num, by omega, by omega, H2⟩
        case measure => simp [intOf]; omega
      have n69 : Hid (s[k] ≠ 69) := byte_ne c69
      have H' : Hid (N = best) := aut_stop hlt H.out (by simp [Num.next, hd, n101.out, n69.out])
      clear H
      go_wp2_with (go_at_call 16; refine (dig_any _ _).mono ?_; rintro e w' ⟨rfl, rfl⟩)
      go_ret
      exact ⟨ret_int (by rw [H'.out]), rfl⟩
    · cases hd : Num.dig s[k]
      rotate_left
      ·
        have H2 : Hid (Num.aut 2 (k + 1) (k + 1) (s.data.toList.drop (k + 1)) = N) := aut_go hlt H.out (by simp [Num.next, hd])
        clear H
        go_wp2_with (go_at_call 16; refine (dig_any _ _).mono ?_; rintro e w' ⟨rfl, rfl⟩)
        go_round
        case rel => exact ⟨2, (k + 1), k + 1, by go_num, by go_num, by go_num, by omega, by omega, H2⟩
        case measure => simp [intOf]; omega
      have H' : Hid (N = best) := aut_stop hlt H.out (by simp [Num.next, hd])
      clear H
      go_wp2_with (go_at_call 16; refine (dig_any _ _).mono ?_; rintro e w' ⟨rfl, rfl⟩)
      go_ret
      exact ⟨ret_int (by rw [H'.out]), rfl⟩
    · cases hd : Num.dig s[k]
      rotate_left
      ·
        have H2 : Hid (Num.aut 6 (k + 1) (k + 1) (s.data.toList.drop (k + 1)) = N) := aut_go hlt H.out (by simp [Num.next, hd])
        clear H
        go_wp2_with (go_at_call 16; refine (dig_any _ _).mono ?_; rintro e w' ⟨rfl, rfl⟩)
        go_round
        case rel => exact ⟨6, (k + 1), k + 1, by go_num, by go_num, by go_num, by omega, by omega, H2⟩
        case measure => simp [intOf]; omega
      cases c43 : ((s[k].toNat : Int) == 43)
      rotate_left
      · have e43 : Hid (s[k] = 43) := byte_eq c43
        have H2 : Hid (Num.aut 5 (k + 1) best (s.data.toList.drop (k + 1)) = N) := aut_go hlt H.out (by simp [Num.next, e43.out, show Num.dig 43 = false from rfl])
        clear H
        go_wp2_with (go_at_call 16; refine (dig_any _ _).mono ?_; rintro e w' ⟨rfl, rfl⟩)
        go_round
        case rel => exact ⟨5, best, k + 1, by go_num, by go_num, by go_num, by omega, by omega, H2⟩
        case measure => simp [intOf]; omega
      have n43 : Hid (s[k] ≠ 43) := byte_ne c43
      cases c45 : ((s[k].toNat : Int) == 45)
      rotate_left
      · have e45 : Hid (s[k] = 45) := byte_eq c45
        have H2 : Hid (Num.aut 5 (k + 1) best (s.data.toList.drop (k + 1)) = N) := aut_go hlt H.out (by simp [Num.next, e45.out, show Num.dig 45 = false from rfl])
        clear H
        go_wp2_with (go_at_call 16; refine (dig_any _ _).mono ?_; rintro e w' ⟨rfl, rfl⟩)
        go_round
        case rel => exact ⟨5, best, k + 1, by go_num, by go_num, by go_num, by omega, by omega, H2⟩
        case measure => simp [intOf]; omega
      have n45 : Hid (s[k] ≠ 45) := byte_ne c45
      have H' : Hid (N = best) := aut_stop hlt H.out (by simp [Num.next, hd, n43.out, n45.out])
      clear H
      go_wp2_with (go_at_call 16; refine (dig_any _ _).mono ?_; rintro e w' ⟨rfl, rfl⟩)
      go_ret
      exact ⟨ret_int (by rw [H'.out]), rfl⟩
    · cases hd : Num.dig s[k]
      rotate_left
      ·
        have H2 : Hid (Num.aut 6 (k + 1) (k + 1) (s.data.toList.drop (k + 1)) = N) := aut_go hlt H.out (by simp [Num.next, hd])
        clear H
        go_wp2_with (go_at_call 16; refine (dig_any _ _).mono ?_; rintro e w' ⟨rfl, rfl⟩)
        go_round
        case rel => exact ⟨6, (k + 1), k + 1, by go_num, by go_num, by go_num, by omega, by omega, H2⟩
        case measure => simp [intOf]; omega
      have H' : Hid (N = best) := aut_stop hlt H.out (by simp [Num.next, hd])
      clear H
      go_wp2_with (go_at_call 16; refine (dig_any _ _).mono ?_; rintro e w' ⟨rfl, rfl⟩)
      go_ret
      exact ⟨ret_int (by rw [H'.out]), rfl⟩
    · cases hd : Num.dig s[k]
      rotate_left
      ·
        have H2 : Hid (Num.aut 6 (k + 1) (k + 1) (s.data.toList.drop (k + 1)) = N) := aut_go hlt H.out (by simp [Num.next, hd])
        clear H
        go_wp2_with (go_at_call 16; refine (dig_any _ _).mono ?_; rintro e w' ⟨rfl, rfl⟩)
        go_round
        case rel => exact ⟨6, (k + 1), k + 1, by go_num, by go_num, by go_num, by omega, by omega, H2⟩
        case measure => simp [intOf]; omega
      have H' : Hid (N = best) := aut_stop hlt H.out (by simp [Num.next, hd])
      clear H
      go_wp2_with (go_at_call 16; refine (dig_any _ _).mono ?_; rintro e w' ⟨rfl, rfl⟩)
      go_ret
      exact ⟨ret_int (by rw [H'.out]), rfl⟩
end Go.Proofs.Qxb6602678a.NumW
