/-
  b1RunEnd (18), b1CallCount (21), b1AllEmpty (26).
-/
import Derived.Test.Qxb6603195aRuns
import Derived.BigQuiet
import Derived.Deep.QuietTactic
namespace Go.Proofs.Qxb6603195a.W6
open Go.ChangeShapes Go.WideShapes Go.ChangeAt Go.RowKit
open W5 (ret_int empty_iff Fr cells_ne lt_of_block size_of_empty)

theorem MsgsIn.cell {w : World} {b off c : Nat} {ms : List M} (h : MsgsIn w (.slice (some ⟨b, off, none⟩) ms.length c) ms) {k : Nat} (hk : k < ms.length) {j : Nat} (hj : j < 5) : w.cell? ⟨b, off + k * 5 + j, none⟩ = (mCells ms[k])[j]? := by
  have e := mRow_get ms k j hk hj
  have hl : j < (mCells ms[k]).length := hj
  rw [List.getElem?_eq_getElem hl] at e ⊢
  rw [Nat.add_assoc]
  exact h.row.cell (by omega) e
theorem bs_get (ms : List M) {t : Nat} (h : t < ms.length) : (ms.map M.b)[t]'(by simpa using h) = ms[t].b := by simp

def RunPost (ms : List M) (i : Nat) (w : World) (e : Ending) (w' : World) : Prop := ∃ j : Nat, e = .returned (.int .i64 (j : Nat)) ∧ RunTo (ms.map M.b) i j ∧ Below w.heap.size w w'

theorem below_drewN' (w : World) (n : Nat) : Below w.heap.size w (w.drewN n) := ⟨rfl, rfl, rfl, Nat.le_refl _, fun _ _ => rfl⟩

set_option maxHeartbeats 1000000 in
theorem runEnd_any (b off c i : Nat) (ms : List M) (w : World) (h : MsgsIn w (.slice (some ⟨b, off, none⟩) ms.length c) ms) (hi : i < ms.length) (hs : ms.length ≤ 1048576) :
    Calls Try.prog 18 #[.slice (some ⟨b, off, none⟩) ms.length c, .int .i64 (i : Nat)] w (RunPost ms i w) := by
  have HM : Hid (MsgsIn w (.slice (some ⟨b, off, none⟩) ms.length c) ms) := h
  obtain ⟨x, hx⟩ : ∃ x, x = ms[i] := ⟨_, rfl⟩
  have c0 : w.cell? ⟨b, off + i * 5, none⟩ = some (.string x.b.role) := by rw [hx]; exact h.cell hi (j := 0) (by omega)
  have HX : Hid (x = ms[i]) := hx
  obtain ⟨n, hn⟩ : ∃ n, n = ms.length := ⟨_, rfl⟩
  rw [← hn] at hi hs
  rw [← hn]
  have HN : Hid (n = ms.length) := hn
  clear h hx hn
  have HE : Hid (∀ t, (ht : t < ms.length) → (ms.map M.b)[t]'(by simpa using ht) = ms[t].b) := fun t ht => bs_get ms ht
  by_cases ht : x.b.role.toList = toolB
  · have z2 : (x.b.role.toList == [116, 111, 111, 108]) = true := by rw [ht]; rfl
    have HR : Hid (RunTo (ms.map M.b) i (i + 1)) := by
      refine ⟨by omega, by rw [List.length_map, ← HN.out]; omega, fun t _ _ h1 h2 => by omega, fun h1 h2 q => ?_⟩
      rw [HE.out i (by rw [← HN.out]; exact hi), ← HX.out] at q
      exact q.1 (q.2.symm.trans ht)
    clear ht
    go_enter Try.func18, Try.ntmps18
    go_wp2_with fail
    go_ret
    exact ⟨i + 1, ret_int (by omega), HR.out, Below.refl _ _⟩
  · have z2 : (x.b.role.toList == [116, 111, 111, 108]) = false := beq_false_of_ne ht
    have HT : Hid (x.b.role.toList ≠ toolB) := ht
    clear ht
    go_enter Try.func18, Try.ntmps18
    go_wp2_with fail
    go_loopw [5] (fun v wr => ∃ j : Nat, v = .int .i64 (j : Nat) ∧ i < j ∧ j ≤ n ∧ Hid (∀ t (h : t < ms.length), i < t → t < j → ms[t].b.role.toList = x.b.role.toList) ∧ Hid (∃ d, wr = w.drewN d)) (fun v _ => n - (intOf v).toNat)
    case atStart => exact ⟨i + 1, by go_num, by omega, by omega, fun t _ h1 h2 => by omega, ⟨0, rfl⟩⟩
    case round =>
      obtain ⟨j, rfl, hij, hjn, HJ, HD⟩ := hrel
      have e0 : wr.cell? ⟨b, off + i * 5, none⟩ = some (.string x.b.role) := by obtain ⟨d, rfl⟩ := HD.out; exact c0
      by_cases hj : j < n
      · obtain ⟨y, hy⟩ : ∃ y, y = ms[j]'(by rw [← HN.out]; exact hj) := ⟨_, rfl⟩
        have e1 : wr.cell? ⟨b, off + j * 5, none⟩ = some (.string y.b.role) := by
          obtain ⟨d, rfl⟩ := HD.out
          rw [hy]
          exact HM.out.cell (by rw [← HN.out]; exact hj) (j := 0) (by omega)
        have HY : Hid (y = ms[j]'(by rw [← HN.out]; exact hj)) := hy
        clear hy
        have zj : decide ((j : Int) < (n : Int)) = true := decide_eq_true (by omega)
        have zj2 : (j : Int) < (n : Int) := by omega
        have zi2 : (i : Int) < (n : Int) := by omega
        by_cases hr : y.b.role.toList = x.b.role.toList
        · have zr : (y.b.role.toList == x.b.role.toList) = true := beq_iff_eq.2 hr
          have HJ2 : Hid (∀ t (h : t < ms.length), i < t → t < j + 1 → ms[t].b.role.toList = x.b.role.toList) := by
            intro t h h1 h2
            by_cases q : t = j
            · subst q; rw [← HY.out]; exact hr
            · exact HJ.out t h h1 (by omega)
          clear hr
          go_wp2_with fail
          go_quiet (fail)
          have HD2 : Hid (∃ d, wr.drewN nq = w.drewN d) := by obtain ⟨d, rfl⟩ := HD.out; exact ⟨d + nq, by simp [World.drewN, Nat.add_assoc]⟩
          go_wp2_with fail
          go_roundw
          case rel => exact ⟨j + 1, by go_num, by omega, by omega, HJ2, HD2⟩
          case measure => simp [intOf]; omega
        · have zr : (y.b.role.toList == x.b.role.toList) = false := beq_false_of_ne hr
          have HR : Hid (RunTo (ms.map M.b) i j) := by
            refine ⟨hij, by rw [List.length_map, ← HN.out]; omega, fun t h1 h2 h3 h4 => ?_, fun h1 h2 q => ?_⟩
            · rw [HE.out i (by simpa using h2), HE.out t (by simpa using h1), ← HX.out]
              have q := HJ.out t (by simpa using h1) h3 h4
              exact ⟨by rw [q]; exact HT.out, q.symm⟩
            · rw [HE.out i (by simpa using h2), HE.out j (by simpa using h1), ← HX.out, ← HY.out] at q
              exact hr q.2.symm
          clear hr
          go_wp2_with fail
          go_quiet (fail)
          have HD2 : Hid (∃ d, wr.drewN nq = w.drewN d) := by obtain ⟨d, rfl⟩ := HD.out; exact ⟨d + nq, by simp [World.drewN, Nat.add_assoc]⟩
          go_wp2_with fail
          go_ret
          refine ⟨j, rfl, HR.out, ?_⟩
          obtain ⟨d, hd⟩ := HD2.out
          rw [hd]
          exact below_drewN' w d
      · have zj : decide ((j : Int) < (n : Int)) = false := decide_eq_false (by omega)
        have HR : Hid (RunTo (ms.map M.b) i j) := by
          refine ⟨hij, by rw [List.length_map, ← HN.out]; omega, fun t h1 h2 h3 h4 => ?_, fun h1 h2 q => ?_⟩
          · rw [HE.out i (by simpa using h2), HE.out t (by simpa using h1), ← HX.out]
            have q := HJ.out t (by simpa using h1) h3 h4
            exact ⟨by rw [q]; exact HT.out, q.symm⟩
          · rw [List.length_map, ← HN.out] at h1
            omega
        go_wp2_with fail
        go_quiet (fail)
        have HD2 : Hid (∃ d, wr.drewN nq = w.drewN d) := by obtain ⟨d, rfl⟩ := HD.out; exact ⟨d + nq, by simp [World.drewN, Nat.add_assoc]⟩
        go_wp2_with fail
        go_ret
        refine ⟨j, rfl, HR.out, ?_⟩
        obtain ⟨d, hd⟩ := HD2.out
        rw [hd]
        exact below_drewN' w d

def CountPost (ms : List M) (i j : Nat) (w : World) (e : Ending) (w' : World) : Prop := e = .returned (.int .i64 ((segC (ms.map M.b) i j).length : Nat)) ∧ w = w'

theorem seg_len_le (bs : List B) {i t : Nat} (hb : ∀ o ∈ bs, o.calls.length ≤ 1048576) : ∀ d, t = i + d → t ≤ bs.length → (segC bs i t).length ≤ d * 1048576
  | 0, ht, _ => by rw [ht, Nat.add_zero, segC_self]; simp
  | d + 1, ht, hl => by
    subst ht
    have hlt : i + d < bs.length := by omega
    have h1 := seg_len_le bs (i := i) (t := i + d) hb d rfl (by omega)
    rw [show i + (d + 1) = (i + d) + 1 by omega, segC_step bs (by omega) hlt, List.length_append]
    have h2 := hb bs[i + d] (List.getElem_mem _)
    omega

set_option maxHeartbeats 1000000 in
theorem count_any (b off c i j : Nat) (ms : List M) (w : World) (h : MsgsIn w (.slice (some ⟨b, off, none⟩) ms.length c) ms) (hi : i < j) (hj : j ≤ ms.length) (hs : ms.length ≤ 1048576) (hc : ∀ m ∈ ms, m.b.calls.length ≤ 1048576) :
    Calls Try.prog 21 #[.slice (some ⟨b, off, none⟩) ms.length c, .int .i64 (i : Nat), .int .i64 (j : Nat)] w (CountPost ms i j w) := by
  have HM : Hid (MsgsIn w (.slice (some ⟨b, off, none⟩) ms.length c) ms) := h
  have HB : Hid (∀ o ∈ ms.map M.b, o.calls.length ≤ 1048576) := fun o ho => by obtain ⟨m, hm, rfl⟩ := List.mem_map.1 ho; exact hc m hm
  obtain ⟨n, hn⟩ : ∃ n, n = ms.length := ⟨_, rfl⟩
  rw [← hn] at hj hs
  rw [← hn]
  have HN : Hid (n = ms.length) := hn
  clear h hn hc
  have HE : Hid (∀ t, (ht : t < ms.length) → (ms.map M.b)[t]'(by simpa using ht) = ms[t].b) := fun t ht => bs_get ms ht
  go_enter Try.func21, Try.ntmps21
  go_wp2_with fail
  go_loop [7, 8] (fun s v => ∃ t : Nat, v = .int .i64 (t : Nat) ∧ i ≤ t ∧ t ≤ j ∧ s = .int .i64 ((segC (ms.map M.b) i t).length : Nat)) (fun _ v => j - (intOf v).toNat)
  case atStart => exact ⟨i, rfl, by omega, by omega, by rw [segC_self]; rfl⟩
  case round =>
    obtain ⟨t, rfl, hit, htj, rfl⟩ := hrel
    by_cases ht : t < j
    · have htl : t < ms.length := by rw [← HN.out]; omega
      obtain ⟨x, hx⟩ : ∃ x, x = ms[t] := ⟨_, rfl⟩
      obtain ⟨ca, cc, hcv, _⟩ := HM.out.calls x (by rw [hx]; exact List.getElem_mem _)
      have c2 : w.cell? ⟨b, off + t * 5 + 2, none⟩ = some (.slice ca x.b.calls.length cc) := by
        rw [HM.out.cell htl (j := 2) (by omega), ← hx, ← hcv]; rfl
      have hl1 := seg_len_le (ms.map M.b) (i := i) (t := t) HB.out (t - i) (by omega) (by simp; omega)
      have hl2 : x.b.calls.length ≤ 1048576 := HB.out _ (List.mem_map.2 ⟨x, by rw [hx]; exact List.getElem_mem _, rfl⟩)
      have hst : (segC (ms.map M.b) i (t + 1)).length = (segC (ms.map M.b) i t).length + x.b.calls.length := by
        rw [segC_step (ms.map M.b) hit (by simpa using htl), List.length_append, HE.out t htl, hx]
      have HST : Hid ((segC (ms.map M.b) i (t + 1)).length = (segC (ms.map M.b) i t).length + x.b.calls.length) := hst
      have hb1 : (segC (ms.map M.b) i t).length ≤ 1099511627776 := by
        have : (t - i) * 1048576 ≤ 1048576 * 1048576 := Nat.mul_le_mul_right _ (by omega)
        omega
      clear hst hl1 hcv hx
      generalize (segC (ms.map M.b) i t).length = L at *
      go_wp2_with fail
      go_round
      case rel => exact ⟨t + 1, by go_num, by omega, by omega, by rw [HST.out]; go_num⟩
      case measure => simp [intOf]; omega
    · have : t = j := by omega
      subst this
      go_wp2_with fail
      go_ret
      exact ⟨rfl, rfl⟩

def EmptyPost (ms : List M) (i j : Nat) (w : World) (e : Ending) (w' : World) : Prop := ∃ r : Bool, e = .returned (.bool r) ∧ (r = true → segT (ms.map M.b) i j = []) ∧ (r = false → segT (ms.map M.b) i j ≠ []) ∧ w = w'

set_option maxHeartbeats 1000000 in
theorem empty_any (b off c i j : Nat) (ms : List M) (w : World) (h : MsgsIn w (.slice (some ⟨b, off, none⟩) ms.length c) ms) (hi : i < j) (hj : j ≤ ms.length) (hs : ms.length ≤ 1048576) :
    Calls Try.prog 26 #[.slice (some ⟨b, off, none⟩) ms.length c, .int .i64 (i : Nat), .int .i64 (j : Nat)] w (EmptyPost ms i j w) := by
  have HM : Hid (MsgsIn w (.slice (some ⟨b, off, none⟩) ms.length c) ms) := h
  obtain ⟨n, hn⟩ : ∃ n, n = ms.length := ⟨_, rfl⟩
  rw [← hn] at hj hs
  rw [← hn]
  have HN : Hid (n = ms.length) := hn
  clear h hn
  have HE : Hid (∀ t, (ht : t < ms.length) → (ms.map M.b)[t]'(by simpa using ht) = ms[t].b) := fun t ht => bs_get ms ht
  go_enter Try.func26, Try.ntmps26
  go_wp2_with fail
  go_loop [7] (fun v => ∃ t : Nat, v = .int .i64 (t : Nat) ∧ i ≤ t ∧ t ≤ j ∧ Hid (segT (ms.map M.b) i t = [])) (fun v => j - (intOf v).toNat)
  case atStart => exact ⟨i, rfl, by omega, by omega, segT_self _ _⟩
  case round =>
    obtain ⟨t, rfl, hit, htj, HZ⟩ := hrel
    by_cases ht : t < j
    · have htl : t < ms.length := by rw [← HN.out]; omega
      obtain ⟨x, hx⟩ : ∃ x, x = ms[t] := ⟨_, rfl⟩
      have c1 : w.cell? ⟨b, off + t * 5 + 1, none⟩ = some (.string x.b.content) := by
        rw [HM.out.cell htl (j := 1) (by omega), ← hx]; rfl
      have HX : Hid (x = ms[t]) := hx
      clear hx
      rcases empty_iff x.b.content with ⟨e0, ex⟩ | ⟨e0, ex⟩
      · have HZ2 : Hid (segT (ms.map M.b) i (t + 1) = []) := by
          have q := segT_step (ms.map M.b) hit (by simpa using htl)
          rw [HE.out t htl, ← HX.out, e0, HZ.out] at q
          exact q
        clear e0
        go_wp2_with fail
        go_round
        case rel => exact ⟨t + 1, by go_num, by omega, by omega, HZ2⟩
        case measure => simp [intOf]; omega
      · have HNE : Hid (segT (ms.map M.b) i j ≠ []) := segT_ne (ms.map M.b) hit ht (by rw [List.length_map, ← HN.out]; exact hj) (by rw [HE.out t htl, ← HX.out]; exact e0)
        clear e0
        go_wp2_with fail
        go_ret
        exact ⟨false, rfl, (fun q => by cases q), fun _ => HNE.out, rfl⟩
    · have : t = j := by omega
      subst this
      go_wp2_with fail
      go_ret
      exact ⟨true, rfl, fun _ => HZ.out, (fun q => by cases q), rfl⟩
end Go.Proofs.Qxb6603195a.W6
