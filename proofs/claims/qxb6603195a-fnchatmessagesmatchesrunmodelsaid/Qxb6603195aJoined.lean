/-
  b1JoinedMatches (19).
-/
import Derived.Test.Qxb6603195aCheck
namespace Go.Proofs.Qxb6603195a.W6
open Go.ChangeShapes Go.WideShapes Go.ChangeAt Go.RowKit
open W5 (ret_int empty_iff Fr cells_ne lt_of_block size_of_empty)

theorem ba_ext {a b : ByteArray} (h : a.toList = b.toList) : a = b := by
  rw [ByteArray.toList_eq, ByteArray.toList_eq] at h
  cases a; cases b
  simp at h
  rw [h]
theorem ext_eq (got x : ByteArray) (p r : List UInt8) (h : got.toList = p ++ x.toList ++ r) : got.extract p.length (p.length + x.size) = x := by
  have e : got = ByteArray.mk got.toList.toArray := by
    apply ba_ext
    simp [ByteArray.toList_eq]
  apply ba_ext
  rw [e, ByteArray.extract_mk, ByteArray.toList_eq]
  show List.take (p.length + x.size - p.length) (List.drop p.length got.toList) = x.toList
  rw [h, List.append_assoc, List.drop_left, show p.length + x.size - p.length = x.toList.length by rw [size_list]; omega, List.take_left]

set_option maxHeartbeats 1000000 in
theorem joined_any (got : ByteArray) (b off c i j : Nat) (ms : List M) (w : World) (h : MsgsIn w (.slice (some ⟨b, off, none⟩) ms.length c) ms) (hi : i < j) (hj : j ≤ ms.length) (hs : ms.length ≤ 1048576) (hg : got.toList = segT (ms.map M.b) i j) (hsz : got.size ≤ 140737488355328) :
    Calls Try.prog 19 #[.string got, .slice (some ⟨b, off, none⟩) ms.length c, .int .i64 (i : Nat), .int .i64 (j : Nat)] w fun e w' => e = .returned (.bool true) ∧ w = w' := by
  have HM : Hid (MsgsIn w (.slice (some ⟨b, off, none⟩) ms.length c) ms) := h
  have HG : Hid (got.toList = segT (ms.map M.b) i j) := hg
  obtain ⟨n, hn⟩ : ∃ n, n = ms.length := ⟨_, rfl⟩
  rw [← hn] at hj hs
  rw [← hn]
  have HN : Hid (n = ms.length) := hn
  clear h hn hg
  have HE : Hid (∀ t, (ht : t < ms.length) → (ms.map M.b)[t]'(by simpa using ht) = ms[t].b) := fun t ht => bs_get ms ht
  go_enter Try.func19, Try.ntmps19
  go_wp2_with fail
  go_loop [9, 10, 11] (fun o f v => ∃ (t : Nat) (p : List UInt8) (z : Bool), v = .int .i64 (t : Nat) ∧ i ≤ t ∧ t ≤ j ∧ Hid (p = segT (ms.map M.b) i t) ∧ o = .int .i64 (p.length : Nat) ∧ f = .bool z ∧ Hid (z = p.isEmpty)) (fun _ _ v => j - (intOf v).toNat)
  case atStart => exact ⟨i, [], true, rfl, by omega, by omega, (segT_self _ _).symm, rfl, rfl, rfl⟩
  case round =>
    obtain ⟨t, p, z, rfl, hit, htj, HP, rfl, rfl, HZ⟩ := hrel
    by_cases ht : t < j
    · have htl : t < ms.length := by rw [← HN.out]; omega
      obtain ⟨x, hx⟩ : ∃ x, x = ms[t] := ⟨_, rfl⟩
      have c1 : w.cell? ⟨b, off + t * 5 + 1, none⟩ = some (.string x.b.content) := by
        rw [HM.out.cell htl (j := 1) (by omega), ← hx]; rfl
      have HST : Hid (segT (ms.map M.b) i (t + 1) = jl p x.b.content.toList) := by
        have q := segT_step (ms.map M.b) hit (by simpa using htl)
        rw [HE.out t htl, ← hx, ← HP.out] at q
        exact q
      have HPR : Hid (∃ r, got.toList = segT (ms.map M.b) i (t + 1) ++ r) := by
        obtain ⟨r, hr⟩ := segT_prefix (ms.map M.b) (i := i) (t := t + 1) (j := j) (by omega) (by omega) (by rw [List.length_map, ← HN.out]; exact hj)
        exact ⟨r, by rw [HG.out, hr]⟩
      clear hx
      generalize x.b.content = C at *
      rcases empty_iff C with ⟨e0, ex⟩ | ⟨e0, ex⟩
      · have HP2 : Hid (p = segT (ms.map M.b) i (t + 1)) := by rw [HST.out, e0, jl_nil_right]; exact rfl
        clear e0
        go_wp2_with fail
        go_round
        case rel => exact ⟨t + 1, p, z, by go_num, by omega, by omega, HP2, rfl, rfl, HZ⟩
        case measure => simp [intOf]; omega
      · by_cases hp : p = []
        · have hz : z = true := by rw [HZ.out, hp]; rfl
          subst hz
          subst hp
          obtain ⟨r, hr⟩ := HPR.out
          rw [HST.out, jl_nil_left] at hr
          have hx0 : ((got.extract 0 C.size).toList == C.toList) = true := by
            have q := ext_eq got C [] r (by simpa using hr)
            rw [List.length_nil, Nat.zero_add] at q
            rw [q]; simp
          have hle : C.size ≤ got.size := by rw [size_list, size_list, hr]; simp
          have hle2 : ¬ (got.size < C.size) := by omega
          have HP2 : Hid (C.toList = segT (ms.map M.b) i (t + 1)) := by rw [HST.out, jl_nil_left]; exact rfl
          have HZ2 : Hid (false = C.toList.isEmpty) := ex.symm
          have HSL : Hid (C.toList.length = C.size) := (size_list C).symm
          clear hr e0
          go_wp2_with fail
          go_round
          case rel => exact ⟨t + 1, C.toList, false, by go_num, by omega, by omega, HP2, by rw [HSL.out], rfl, HZ2⟩
          case measure => simp [intOf]; omega
        · have hz : z = false := by
            rw [HZ.out]
            cases p with
            | nil => exact absurd rfl hp
            | cons _ _ => rfl
          subst hz
          obtain ⟨r, hr⟩ := HPR.out
          rw [HST.out, jl_both hp e0] at hr
          obtain ⟨L, hL⟩ : ∃ L, L = p.length := ⟨_, rfl⟩
          have hx0 : ((got.extract L (L + 2)).toList == [10, 10]) = true := by
            have q := ext_eq got ⟨#[10, 10]⟩ p (C.toList ++ r) (by rw [hr, ByteArray.toList_eq]; simp)
            rw [hL]
            have q2 : p.length + (ByteArray.mk #[10, 10]).size = p.length + 2 := rfl
            rw [q2] at q
            rw [q, ByteArray.toList_eq]; rfl
          have hx1 : ((got.extract (L + 2) (L + 2 + C.size)).toList == C.toList) = true := by
            have q := ext_eq got C (p ++ [10, 10]) r (by rw [hr])
            rw [List.length_append, ← hL] at q
            rw [show (([10, 10] : List UInt8)).length = 2 from rfl] at q
            rw [q]; simp
          have hle : L + 2 + C.size ≤ got.size := by
            rw [size_list, size_list got, hr, hL]
            simp only [List.length_append, List.length_cons, List.length_nil]; omega
          have HP2 : Hid (p ++ [10, 10] ++ C.toList = segT (ms.map M.b) i (t + 1)) := by rw [HST.out, jl_both hp e0]; exact rfl
          have HZ2 : Hid (false = (p ++ [10, 10] ++ C.toList).isEmpty) := by
            cases p with
            | nil => exact absurd rfl hp
            | cons _ _ => rfl
          have HSL : Hid ((p ++ [10, 10] ++ C.toList).length = L + 2 + C.size) := by
            rw [List.length_append, List.length_append, ← hL, ← size_list]; exact rfl
          rw [← hL]
          clear hr e0 hp hL
          go_wp2_with fail
          go_round
          case rel => exact ⟨t + 1, p ++ [10, 10] ++ C.toList, false, by go_num, by omega, by omega, HP2, by rw [HSL.out]; go_num, rfl, HZ2⟩
          case measure => simp [intOf]; omega
    · have : t = j := by omega
      subst this
      have hL : p.length = got.size := by rw [size_list, HG.out, HP.out]
      rw [hL]
      go_wp2_with fail
      go_ret
      simp
end Go.Proofs.Qxb6603195a.W6
