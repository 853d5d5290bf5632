/-
  b1MsgsFit (15).
-/
import Derived.Test.Qxb6603195aMsgFit
namespace Go.Proofs.Qxb6603195a.W6
open Go.ChangeShapes Go.WideShapes Go.ChangeAt Go.RowKit
open W5 (ret_int empty_iff Fr cells_ne lt_of_block size_of_empty grow_any)

set_option maxRecDepth 20000 in
set_option maxHeartbeats 4000000 in
theorem fit_some (b off c : Nat) (ms : List M) (w : World) (h : MsgsIn w (.slice (some ⟨b, off, none⟩) ms.length c) ms) (hm : ms.length ≤ 1048576) (hwf : ∀ m ∈ ms, m.wf) (hsm : ∀ m ∈ ms, m.small) : Calls Try.prog 15 #[.slice (some ⟨b, off, none⟩) ms.length c] w (FitPost w) := by
  have HM : Hid (MsgsIn w (.slice (some ⟨b, off, none⟩) ms.length c) ms) := h
  have HW : Hid (∀ m ∈ ms, m.wf) := hwf
  have HSM : Hid (∀ m ∈ ms, m.small) := hsm
  obtain ⟨n, hn⟩ : ∃ n, n = ms.length := ⟨_, rfl⟩
  rw [← hn] at hm
  rw [← hn]
  have HN : Hid (n = ms.length) := hn
  clear h hn hwf hsm
  by_cases hbig : 131072 < n
  · go_enter Try.func15, Try.ntmps15
    go_wp2_with fail
    go_ret
    exact ⟨false, rfl, rfl⟩
  have hd1 : decide ((131072 : Int) < (n : Int)) = false := decide_eq_false (by omega)
  go_enter Try.func15, Try.ntmps15
  go_wp2_with fail
  go_loopw [3, 4] (fun t i wr => ∃ (k : Nat) (m : Int), k ≤ n ∧ 0 ≤ m ∧ m ≤ 1048577 ∧ t = .int .i64 m ∧ i = .int .i64 k ∧ w = wr) (fun _ i _ => n - (intOf i).toNat)
  case atStart => exact ⟨0, 0, by omega, by omega, by omega, rfl, rfl, rfl⟩
  case round =>
    obtain ⟨k, m, hk, hm0, hmm, rfl, rfl, rfl⟩ := hrel
    by_cases hkn : k < n
    · have hkl : k < ms.length := by rw [← HN.out]; exact hkn
      obtain ⟨x, hx⟩ : ∃ x, x = ms[k] := ⟨_, rfl⟩
      have hxm : x ∈ ms := by rw [hx]; exact List.getElem_mem _
      obtain ⟨ca, cc, hcv, hcl⟩ := HM.out.calls x hxm
      have HCL : Hid (x.b.calls.length = 0 ∨ ∃ b off, ca = some ⟨b, off, none⟩ ∧ ∀ j u, (rowOf x.b.calls)[j]? = some u → w.cell? ⟨b, off + j, none⟩ = some u) := hcl
      have c0 : w.cell? ⟨b, off + k * 5, none⟩ = some (.string x.b.role) := by rw [hx]; exact HM.out.cell hkl (j := 0) (by omega)
      have c1 : w.cell? ⟨b, off + k * 5 + 1, none⟩ = some (.string x.b.content) := by rw [hx]; exact HM.out.cell hkl (j := 1) (by omega)
      have c2 : w.cell? ⟨b, off + k * 5 + 2, none⟩ = some (.slice ca x.b.calls.length cc) := by rw [← hcv, hx]; exact HM.out.cell hkl (j := 2) (by omega)
      have c3 : w.cell? ⟨b, off + k * 5 + 3, none⟩ = some (.string x.b.tcid) := by rw [hx]; exact HM.out.cell hkl (j := 3) (by omega)
      have s1 := (HW.out x hxm).role
      have s2 := (HW.out x hxm).content
      have s3 := (HW.out x hxm).tcid
      have HWC : Hid (∀ c ∈ x.b.calls, c.id.size ≤ maxLen ∧ c.name.size ≤ maxLen ∧ c.args.size ≤ maxLen) := (HW.out x hxm).calls
      have hKs := (HSM.out x hxm).2
      unfold maxLen at s1 s2 s3
      obtain ⟨K, hK⟩ : ∃ K, K = x.b.calls.length := ⟨_, rfl⟩
      rw [← hK] at c2 hKs
      have HK : Hid (K = x.b.calls.length) := hK
      clear hx hcv hcl hK hxm
      go_wp2_with fail
      refine (grow_any m 8 _ hm0 hmm (by omega) (by omega)).mono ?_
      rintro e w' ⟨r1, rfl, p1, q1, rfl⟩
      go_wp2_with fail
      refine (grow_any r1 x.b.role.size _ p1 q1 (by omega) (by omega)).mono ?_
      rintro e w' ⟨r2, rfl, p2, q2, rfl⟩
      go_wp2_with fail
      refine (grow_any r2 x.b.content.size _ p2 q2 (by omega) (by omega)).mono ?_
      rintro e w' ⟨r3, rfl, p3, q3, rfl⟩
      go_wp2_with fail
      refine (grow_any r3 x.b.tcid.size _ p3 q3 (by omega) (by omega)).mono ?_
      rintro e w' ⟨r4, rfl, p4, q4, rfl⟩
      by_cases gK : 131072 < K
      · go_wp2_with fail
        go_ret
        exact ⟨false, rfl, rfl⟩
      go_wp2_with fail
      refine (grow_any r4 (8 * (K : Int)) _ p4 q4 (by omega) (by omega)).mono ?_
      rintro e w' ⟨r5, rfl, p5, q5, rfl⟩
      by_cases g5 : 1048576 < r5
      · go_wp2_with fail
        go_ret
        exact ⟨false, rfl, rfl⟩
      have hd5 : decide ((1048576 : Int) < r5) = false := decide_eq_false (by omega)
      go_wp2_with fail
      go_loopw [3, 5] (fun t i wr => ∃ (u : Nat) (z : Int), u ≤ K ∧ 0 ≤ z ∧ z ≤ 1048577 ∧ t = .int .i64 z ∧ i = .int .i64 u ∧ w = wr) (fun _ i _ => K - (intOf i).toNat)
      case atStart => exact ⟨0, r5, by omega, p5, q5, rfl, rfl, rfl⟩
      case round =>
        obtain ⟨u, z, hu, hz0, hzm, rfl, rfl, rfl⟩ := hrel
        by_cases huK : u < K
        · have huL : u < x.b.calls.length := by rw [← HK.out]; exact huK
          obtain ⟨cb, coff, rfl, t0, t1, t2⟩ := callCells HCL.out (u := u) huL
          obtain ⟨v1, v2, v3⟩ := HWC.out x.b.calls[u] (List.getElem_mem _)
          generalize x.b.calls[u].id = y0 at *
          generalize x.b.calls[u].name = y1 at *
          generalize x.b.calls[u].args = y2 at *
          unfold maxLen at v1 v2 v3
          go_wp2_with fail
          refine (grow_any z y0.size _ hz0 hzm (by omega) (by omega)).mono ?_
          rintro e w' ⟨r6, rfl, p6, q6, rfl⟩
          go_wp2_with fail
          refine (grow_any r6 y1.size _ p6 q6 (by omega) (by omega)).mono ?_
          rintro e w' ⟨r7, rfl, p7, q7, rfl⟩
          go_wp2_with fail
          refine (grow_any r7 y2.size _ p7 q7 (by omega) (by omega)).mono ?_
          rintro e w' ⟨r8, rfl, p8, q8, rfl⟩
          by_cases g8 : 1048576 < r8
          · go_wp2_with fail
            go_ret
            exact ⟨false, rfl, rfl⟩
          · go_wp2_with fail
            go_roundw
            case rel => exact ⟨u + 1, r8, by omega, p8, q8, by go_num, by go_num, by trivial⟩
            case measure => simp [intOf]; omega
        · go_wp2_with fail
          go_roundw
          case rel => exact ⟨k + 1, z, by omega, hz0, hzm, by go_num, by go_num, by trivial⟩
          case measure => simp [intOf]; omega
    · go_wp2_with fail
      go_ret
      exact ⟨true, rfl, rfl⟩
end Go.Proofs.Qxb6603195a.W6
