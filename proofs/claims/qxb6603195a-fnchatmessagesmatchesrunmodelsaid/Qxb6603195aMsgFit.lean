/-
  zzBytes (24) AND b1MsgsFit (15).
-/
import Derived.Test.Qxb6603195aCheck
namespace Go.Proofs.Qxb6603195a.W6
open Go.ChangeShapes Go.WideShapes Go.ChangeAt Go.RowKit
open W5 (ret_int empty_iff Fr cells_ne lt_of_block size_of_empty grow_any)

def M.small (m : M) : Prop := m.b.content.size ≤ 1048576 ∧ m.b.calls.length ≤ 1048576
structure M.wf (m : M) : Prop where
  role : m.b.role.size ≤ maxLen
  content : m.b.content.size ≤ maxLen
  tcid : m.b.tcid.size ≤ maxLen
  calls : ∀ c ∈ m.b.calls, c.id.size ≤ maxLen ∧ c.name.size ≤ maxLen ∧ c.args.size ≤ maxLen

def BytesPost (ms : List M) (w : World) (e : Ending) (w' : World) : Prop := ∃ r : Bool, e = .returned (.bool r) ∧ (r = true → ms.length ≤ 1048576 ∧ ∀ m ∈ ms, m.small) ∧ w = w'

theorem small_step {ms : List M} {k : Nat} (hk : k < ms.length) (h : ∀ m ∈ ms.take k, m.small) (hs : ms[k].small) : ∀ m ∈ ms.take (k + 1), m.small := by
  intro m hm
  rw [List.take_succ_eq_append_getElem hk] at hm
  rcases List.mem_append.1 hm with q | q
  · exact h m q
  · have : m = ms[k] := by simpa using q
    rw [this]; exact hs

/-- the cells of one call -/
theorem callCells {w : World} {x : M} {ca : Option Addr} (h : x.b.calls.length = 0 ∨ ∃ b off, ca = some ⟨b, off, none⟩ ∧ ∀ j u, (rowOf x.b.calls)[j]? = some u → w.cell? ⟨b, off + j, none⟩ = some u) {u : Nat} (hu : u < x.b.calls.length) :
    ∃ cb coff, ca = some ⟨cb, coff, none⟩ ∧ w.cell? ⟨cb, coff + u * 3, none⟩ = some (.string x.b.calls[u].id) ∧ w.cell? ⟨cb, coff + u * 3 + 1, none⟩ = some (.string x.b.calls[u].name) ∧ w.cell? ⟨cb, coff + u * 3 + 2, none⟩ = some (.string x.b.calls[u].args) := by
  rcases h with q | ⟨cb, coff, e, h⟩
  · omega
  · refine ⟨cb, coff, e, ?_, ?_, ?_⟩
    · exact h (u * 3 + 0) _ (rowOf_get x.b.calls u 0 hu (by omega))
    · exact h (u * 3 + 1) _ (rowOf_get x.b.calls u 1 hu (by omega))
    · exact h (u * 3 + 2) _ (rowOf_get x.b.calls u 2 hu (by omega))

set_option maxRecDepth 20000 in
set_option maxHeartbeats 4000000 in
theorem bytes_some (b off c : Nat) (ms : List M) (w : World) (h : MsgsIn w (.slice (some ⟨b, off, none⟩) ms.length c) ms) (h0 : 0 < ms.length) : Calls Try.prog 24 #[.slice (some ⟨b, off, none⟩) ms.length c] w (BytesPost ms w) := by
  have HM : Hid (MsgsIn w (.slice (some ⟨b, off, none⟩) ms.length c) ms) := h
  obtain ⟨n, hn⟩ : ∃ n, n = ms.length := ⟨_, rfl⟩
  rw [← hn] at h0
  rw [← hn]
  have HN : Hid (n = ms.length) := hn
  clear h hn
  by_cases hbig : 1048576 < n
  · go_enter Try.func24, Try.ntmps24
    go_wp2
    go_ret
    exact ⟨false, rfl, (fun h => by cases h), rfl⟩
  have hd1 : decide ((1048576 : Int) < (n : Int)) = false := decide_eq_false (by omega)
  go_enter Try.func24, Try.ntmps24
  go_wp2
  go_loop [3, 4] (fun t i => ∃ k m : Nat, k ≤ n ∧ m ≤ 1048576 ∧ t = .int .i64 m ∧ i = .int .i64 k ∧ Hid (∀ f ∈ ms.take k, f.small)) (fun _ i => n - (intOf i).toNat)
  case atStart => exact ⟨0, n, by omega, by omega, by go_num, rfl, by simp [Hid]⟩
  case round =>
    obtain ⟨k, m, hk, hmm, rfl, rfl, HS⟩ := hrel
    by_cases hkn : k < n
    · have hkl : k < ms.length := by rw [← HN.out]; exact hkn
      obtain ⟨x, hx⟩ : ∃ x, x = ms[k] := ⟨_, rfl⟩
      obtain ⟨ca, cc, hcv, hcl⟩ := HM.out.calls x (by rw [hx]; exact List.getElem_mem _)
      have HCL : Hid (x.b.calls.length = 0 ∨ ∃ b off, ca = some ⟨b, off, none⟩ ∧ ∀ j u, (rowOf x.b.calls)[j]? = some u → w.cell? ⟨b, off + j, none⟩ = some u) := hcl
      have c0 : w.cell? ⟨b, off + k * 5, none⟩ = some (.string x.b.role) := by rw [hx]; exact HM.out.cell hkl (j := 0) (by omega)
      have c1 : w.cell? ⟨b, off + k * 5 + 1, none⟩ = some (.string x.b.content) := by rw [hx]; exact HM.out.cell hkl (j := 1) (by omega)
      have c2 : w.cell? ⟨b, off + k * 5 + 2, none⟩ = some (.slice ca x.b.calls.length cc) := by rw [← hcv, hx]; exact HM.out.cell hkl (j := 2) (by omega)
      have c3 : w.cell? ⟨b, off + k * 5 + 3, none⟩ = some (.string x.b.tcid) := by rw [hx]; exact HM.out.cell hkl (j := 3) (by omega)
      have HX : Hid (x = ms[k]) := hx
      obtain ⟨K, hK⟩ : ∃ K, K = x.b.calls.length := ⟨_, rfl⟩
      rw [← hK] at c2
      have HK : Hid (K = x.b.calls.length) := hK
      clear hx hcv hcl hK
      by_cases g1 : 1048576 < x.b.role.size
      · go_wp2
        go_ret
        exact ⟨false, rfl, (fun h => by cases h), rfl⟩
      by_cases g1' : 1048576 < m + x.b.role.size
      · go_wp2
        go_ret
        exact ⟨false, rfl, (fun h => by cases h), rfl⟩
      by_cases g2 : 1048576 < x.b.content.size
      · go_wp2
        go_ret
        exact ⟨false, rfl, (fun h => by cases h), rfl⟩
      by_cases g2' : 1048576 < m + x.b.role.size + x.b.content.size
      · go_wp2
        go_ret
        exact ⟨false, rfl, (fun h => by cases h), rfl⟩
      by_cases g3 : 1048576 < K
      · go_wp2
        go_ret
        exact ⟨false, rfl, (fun h => by cases h), rfl⟩
      by_cases g3' : 1048576 < m + x.b.role.size + x.b.content.size + K
      · go_wp2
        go_ret
        exact ⟨false, rfl, (fun h => by cases h), rfl⟩
      have HS' : Hid (∀ f ∈ ms.take (k + 1), f.small) := small_step hkl HS.out (by rw [← HX.out]; exact ⟨by omega, by rw [← HK.out]; omega⟩)
      go_wp2
      go_loop [3, 5] (fun t i => ∃ u z : Nat, u ≤ K ∧ z ≤ 1048576 ∧ t = .int .i64 z ∧ i = .int .i64 u) (fun _ i => K - (intOf i).toNat)
      case atStart => exact ⟨0, m + x.b.role.size + x.b.content.size + K, by omega, by omega, by go_num, rfl⟩
      case round =>
        obtain ⟨u, z, hu, hz, rfl, rfl⟩ := hrel
        by_cases huK : u < K
        · obtain ⟨cb, coff, rfl, s0, s1, s2⟩ := callCells HCL.out (u := u) (by rw [← HK.out]; exact huK)
          generalize x.b.calls[u].id = y0 at *
          generalize x.b.calls[u].name = y1 at *
          generalize x.b.calls[u].args = y2 at *
          by_cases q1 : 1048576 < y0.size
          · go_wp2
            go_ret
            exact ⟨false, rfl, (fun h => by cases h), rfl⟩
          by_cases q1' : 1048576 < z + y0.size
          · go_wp2
            go_ret
            exact ⟨false, rfl, (fun h => by cases h), rfl⟩
          by_cases q2 : 1048576 < y1.size
          · go_wp2
            go_ret
            exact ⟨false, rfl, (fun h => by cases h), rfl⟩
          by_cases q2' : 1048576 < z + y0.size + y1.size
          · go_wp2
            go_ret
            exact ⟨false, rfl, (fun h => by cases h), rfl⟩
          by_cases q3 : 1048576 < y2.size
          · go_wp2
            go_ret
            exact ⟨false, rfl, (fun h => by cases h), rfl⟩
          by_cases q3' : 1048576 < z + y0.size + y1.size + y2.size
          · go_wp2
            go_ret
            exact ⟨false, rfl, (fun h => by cases h), rfl⟩
          · go_wp2
            go_round
            case rel => exact ⟨u + 1, z + y0.size + y1.size + y2.size, by omega, by omega, by go_num, by go_num⟩
            case measure => simp [intOf]; omega
        · by_cases q1 : 1048576 < x.b.tcid.size
          · go_wp2
            go_ret
            exact ⟨false, rfl, (fun h => by cases h), rfl⟩
          by_cases q1' : 1048576 < z + x.b.tcid.size
          · go_wp2
            go_ret
            exact ⟨false, rfl, (fun h => by cases h), rfl⟩
          · go_wp2
            go_round
            case rel => exact ⟨k + 1, z + x.b.tcid.size, by omega, by omega, by go_num, by go_num, HS'⟩
            case measure => simp [intOf]; omega
    · have HS' : Hid (∀ f ∈ ms, f.small) := by
        have := HS.out
        rw [List.take_of_length_le (by rw [← HN.out]; omega)] at this
        exact this
      have HNs : Hid (ms.length ≤ 1048576) := by rw [← HN.out]; exact (by omega : n ≤ 1048576)
      clear HS
      go_wp2
      go_ret
      exact ⟨true, rfl, (fun _ => ⟨HNs.out, HS'.out⟩), rfl⟩

set_option maxRecDepth 20000 in
set_option maxHeartbeats 1000000 in
theorem bytes_none (a : Option Addr) (c : Nat) (w : World) : Calls Try.prog 24 #[.slice a 0 c] w (BytesPost [] w) := by
  go_enter Try.func24, Try.ntmps24
  go_wp2
  go_loop [3, 4] (fun t i => i = .int .i64 0 ∧ t = .int .i64 0) (fun _ _ => 0)
  case atStart => exact ⟨rfl, rfl⟩
  case round =>
    obtain ⟨rfl, rfl⟩ := hrel
    go_wp2
    go_ret
    exact ⟨true, rfl, (fun _ => ⟨by simp, by simp⟩), rfl⟩

def FitPost (w : World) (e : Ending) (w' : World) : Prop := ∃ r : Bool, e = .returned (.bool r) ∧ w = w'

set_option maxHeartbeats 1000000 in
theorem fit_none (a : Option Addr) (c : Nat) (w : World) : Calls Try.prog 15 #[.slice a 0 c] w (FitPost w) := by
  go_enter Try.func15, Try.ntmps15
  go_wp2_with fail
  go_loop [3, 4] (fun t i => i = .int .i64 0 ∧ t = .int .i64 0) (fun _ _ => 0)
  case atStart => exact ⟨rfl, rfl⟩
  case round =>
    obtain ⟨rfl, rfl⟩ := hrel
    go_wp2_with fail
    go_ret
    exact ⟨true, rfl, rfl⟩
end Go.Proofs.Qxb6603195a.W6
