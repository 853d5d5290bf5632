/-
  THE CONTRACTS OF digitsEnd, isDigitByte, numberLength: each computes the plain function of Qxb6602678aNum.
-/
import Derived.Test.Qxb6602678aRows
import Derived.Test.Qxb6602678aNum
import Derived.WalkKit
import Derived.ProofKit
import Derived.OpenShut
import Derived.ShutString
namespace Go.Proofs.Qxb6602678a.NumW
open Go.ChangeShapes Go.WideShapes Go.ChangeAt Go.RowKit

theorem ret_int {k : IntKind} {a b : Int} (h : a = b) : Ending.returned (.int k a) = .returned (.int k b) := by rw [h]

theorem dig_of {b : UInt8} (h1 : 48 ≤ (b.toNat : Int)) (h2 : (b.toNat : Int) ≤ 57) : Num.dig b = true := by
  simp only [Num.dig, decide_eq_true_eq]; omega
theorem dig_not1 {b : UInt8} (h1 : ¬ 48 ≤ (b.toNat : Int)) : Num.dig b = false := by
  simp only [Num.dig, decide_eq_false_iff_not]; omega
theorem dig_not2 {b : UInt8} (h2 : ¬ (b.toNat : Int) ≤ 57) : Num.dig b = false := by
  simp only [Num.dig, decide_eq_false_iff_not]; omega

theorem at_ (s : ByteArray) (k : Nat) (h : k < s.size) : s.data.toList[k]'(by simpa using h) = s[k] := rfl

set_option maxHeartbeats 400000 in
theorem dE_any (s : ByteArray) (a : Int) (w : World) (hs : s.size ≤ maxLen) (h0 : 0 ≤ a) (h1 : a ≤ s.size) :
    Calls Try.prog 21 #[.string s, .int .i64 a] w fun e w' => e = .returned (.int .i64 (Num.dE s.data.toList a.toNat : Nat)) ∧ w = w' := by
  unfold maxLen at hs
  obtain ⟨i, rfl⟩ := Int.eq_ofNat_of_zero_le h0
  rw [Int.toNat_natCast]
  go_enter Try.func21, Try.ntmps21
  go_wp2
  go_loop [1] (fun n => ∃ k : Nat, k ≤ s.size ∧ n = .int .i64 k ∧ Hid (Num.dE s.data.toList k = Num.dE s.data.toList i)) (fun n => s.size - (intOf n).toNat)
  case atStart => exact ⟨i, by omega, rfl, rfl⟩
  case round =>
    obtain ⟨k, hk, rfl, H⟩ := hrel
    by_cases hlt : k < s.size
    · by_cases g1 : 48 ≤ (s[k].toNat : Int)
      · by_cases g2 : (s[k].toNat : Int) ≤ 57
        · have H' : Hid (Num.dE s.data.toList (k + 1) = Num.dE s.data.toList i) := (Num.dE_step s.data.toList k (by simpa using hlt) (dig_of g1 g2)).trans H.out
          go_wp2
          go_round
          case rel => exact ⟨k + 1, by omega, by go_num, H'⟩
          case measure => simp [intOf]; omega
        · have H' : Hid (Num.dE s.data.toList i = k) := H.out.symm.trans (Num.dE_stop s.data.toList k (by simpa using hlt) (dig_not2 g2))
          go_wp2
          go_ret
          exact ⟨ret_int (by rw [H'.out]), rfl⟩
      · have H' : Hid (Num.dE s.data.toList i = k) := H.out.symm.trans (Num.dE_stop s.data.toList k (by simpa using hlt) (dig_not1 g1))
        go_wp2
        go_ret
        exact ⟨ret_int (by rw [H'.out]), rfl⟩
    · have H' : Hid (Num.dE s.data.toList i = k) := H.out.symm.trans (Num.dE_end s.data.toList k (by simp; omega))
      go_wp2
      go_ret
      exact ⟨ret_int (by rw [H'.out]), rfl⟩

theorem dig_any (b : UInt8) (w : World) :
    Calls Try.prog 16 #[.int .u8 (b.toNat : Int)] w fun e w' => e = .returned (.bool (Num.dig b)) ∧ w = w' := by
  by_cases g1 : 48 ≤ (b.toNat : Int)
  · by_cases g2 : (b.toNat : Int) ≤ 57
    · have H : Hid (Num.dig b = true) := dig_of g1 g2
      go_enter Try.func16, Try.ntmps16
      go_wp2
      go_ret
      exact ⟨by rw [H.out]; rfl, rfl⟩
    · have H : Hid (Num.dig b = false) := dig_not2 g2
      go_enter Try.func16, Try.ntmps16
      go_wp2
      go_ret
      exact ⟨by rw [H.out]; rfl, rfl⟩
  · have H : Hid (Num.dig b = false) := dig_not1 g1
    go_enter Try.func16, Try.ntmps16
    go_wp2
    go_ret
    exact ⟨by rw [H.out]; rfl, rfl⟩

end Go.Proofs.Qxb6602678a.NumW
