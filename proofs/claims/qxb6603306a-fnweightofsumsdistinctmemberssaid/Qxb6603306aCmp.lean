/-
  THE CONTRACTS OF compareBytes (14), slices.Index and slices.Contains at strings (25, 23), idsBytesFit (13).
-/
import Derived.Test.Qxb6603306aRows
import Derived.Test.Qxb6603306aPlain
import Derived.WalkKit
import Derived.ProofKit
import Derived.OpenShut
import Derived.ShutString
import Derived.Deep.QuietTactic
import Derived.BigQuiet
namespace Go.Proofs.Qxb6603306a.W8
open Go.ChangeShapes Go.WideShapes Go.ChangeAt Go.RowKit

theorem ret_int {k : IntKind} {a b : Int} (h : a = b) : Ending.returned (.int k a) = .returned (.int k b) := by rw [h]

theorem drewN_add (w : World) (n m : Nat) : (w.drewN n).drewN m = w.drewN (n + m) := by simp [World.drewN, Nat.add_assoc]

theorem drop_at (s : ByteArray) (k : Nat) (h : k < s.size) : s.data.toList.drop k = s[k] :: s.data.toList.drop (k + 1) :=
  List.drop_eq_getElem_cons (by simpa using h)
theorem drop_end (s : ByteArray) (k : Nat) (h : ¬ k < s.size) : s.data.toList.drop k = [] := List.drop_of_length_le (by simp; omega)

theorem cmp_lt {a b : ByteArray} {k : Nat} (ha : k < a.size) (hb : k < b.size) (h : (a[k].toNat : Int) < (b[k].toNat : Int)) : Plain.lt (b.data.toList.drop k) (a.data.toList.drop k) = false := by
  rw [drop_at a k ha, drop_at b k hb, Plain.lt_cons]
  have l1 : ¬ b[k] < a[k] := fun q => by have := UInt8.lt_iff_toNat_lt.1 q; omega
  have l2 : ¬ b[k] = a[k] := fun q => by rw [q] at h; omega
  simp [l1, l2]
theorem cmp_gt {a b : ByteArray} {k : Nat} (ha : k < a.size) (hb : k < b.size) (h : (b[k].toNat : Int) < (a[k].toNat : Int)) : Plain.lt (b.data.toList.drop k) (a.data.toList.drop k) = true := by
  rw [drop_at a k ha, drop_at b k hb, Plain.lt_cons]
  have l1 : b[k] < a[k] := UInt8.lt_iff_toNat_lt.2 (by omega)
  simp [l1]
theorem cmp_eq {a b : ByteArray} {k : Nat} (ha : k < a.size) (hb : k < b.size) (h : (b[k].toNat : Int) = (a[k].toNat : Int)) : Plain.lt (b.data.toList.drop k) (a.data.toList.drop k) = Plain.lt (b.data.toList.drop (k + 1)) (a.data.toList.drop (k + 1)) := by
  rw [drop_at a k ha, drop_at b k hb, Plain.lt_cons]
  have l2 : b[k] = a[k] := UInt8.toNat_inj.1 (by omega)
  rw [l2]
  simp [UInt8.lt_irrefl]

set_option maxHeartbeats 1000000 in
theorem cmp_any (a b : ByteArray) (w : World) (ha : a.size ≤ maxLen) (hb : b.size ≤ maxLen) :
    Calls Try.prog 14 #[.string a, .string b] w fun e w' => ∃ c : Int, e = .returned (.int .i64 c) ∧ Hid (decide (0 < c) = Plain.lt b.data.toList a.data.toList) ∧ ∃ n, w' = w.drewN n := by
  unfold maxLen at ha hb
  go_enter Try.func14, Try.ntmps14
  go_wp2
  go_loopw [5] (fun i wr => ∃ k : Nat, k ≤ a.size ∧ k ≤ b.size ∧ i = .int .i64 k ∧ Hid (Plain.lt (b.data.toList.drop k) (a.data.toList.drop k) = Plain.lt b.data.toList a.data.toList) ∧ ∃ n, wr = w.drewN n) (fun i _ => a.size - (intOf i).toNat)
  case atStart => exact ⟨0, by omega, by omega, rfl, rfl, 0, rfl⟩
  case round =>
    obtain ⟨k, hka, hkb, rfl, H, n, rfl⟩ := hrel
    by_cases ga : k < a.size
    · by_cases gb : k < b.size
      · rcases Int.lt_trichotomy (a[k].toNat : Int) (b[k].toNat : Int) with q | q | q
        · have H' : Hid (Plain.lt b.data.toList a.data.toList = false) := H.out.symm.trans (cmp_lt ga gb q)
          go_wp2
          go_quiet (fail)
          go_wp2
          go_ret
          exact ⟨-1, rfl, by rw [H'.out]; exact rfl, _, drewN_add _ _ _⟩
        · have q1 : ¬ (a[k].toNat : Int) < (b[k].toNat : Int) := by omega
          have q2 : ¬ (b[k].toNat : Int) < (a[k].toNat : Int) := by omega
          have H' : Hid (Plain.lt (b.data.toList.drop (k + 1)) (a.data.toList.drop (k + 1)) = Plain.lt b.data.toList a.data.toList) := (cmp_eq ga gb q.symm).symm.trans H.out
          clear q
          go_wp2
          go_quiet (fail)
          go_wp2
          go_quiet (fail)
          go_wp2
          go_roundw
          case rel => exact ⟨k + 1, by omega, by omega, by go_num, H', _, rfl⟩
          case measure => simp [intOf]; omega
        · have q1 : ¬ (a[k].toNat : Int) < (b[k].toNat : Int) := by omega
          have H' : Hid (Plain.lt b.data.toList a.data.toList = true) := H.out.symm.trans (cmp_gt ga gb q)
          go_wp2
          go_quiet (fail)
          go_wp2
          go_quiet (fail)
          go_wp2
          go_ret
          exact ⟨1, rfl, by rw [H'.out]; exact rfl, _, by rw [drewN_add, drewN_add]⟩
      · have H' : Hid (Plain.lt b.data.toList a.data.toList = true) := by
          refine H.out.symm.trans ?_
          rw [drop_end b k gb, drop_at a k ga]
          rfl
        have g1 : ¬ a.size < b.size := by omega
        have g2 : b.size < a.size := by omega
        go_wp2
        go_ret
        exact ⟨1, rfl, by rw [H'.out]; exact rfl, n, rfl⟩
    · have H' : Hid (Plain.lt b.data.toList a.data.toList = false) := by
        refine H.out.symm.trans ?_
        rw [drop_end a k ga]
        exact Plain.lt_nil_right _
      have g2 : ¬ b.size < a.size := by omega
      by_cases g1 : a.size < b.size
      · go_wp2
        go_ret
        exact ⟨-1, rfl, by rw [H'.out]; exact rfl, n, rfl⟩
      · go_wp2
        go_ret
        exact ⟨0, rfl, by rw [H'.out]; exact rfl, n, rfl⟩

/-! ### a slice of strings that is read -/
def key (s : ByteArray) : List UInt8 := s.data.toList
theorem key_beq (s t : ByteArray) : (s.toList == t.toList) = (key s == key t) := by rw [ByteArray.toList_eq, ByteArray.toList_eq]; rfl

/-- the slice value (a, n, ..) reads as the strings ss in w -/
structure IdsAt (w : World) (a : Option Addr) (n : Nat) (ss : List ByteArray) : Prop where
  len : ss.length = n
  small : ∀ s ∈ ss, s.size ≤ maxLen
  row : n = 0 ∨ ∃ b off, a = some ⟨b, off, none⟩ ∧ b < w.heap.size ∧ ∀ k, (h : k < ss.length) → w.cell? ⟨b, off + k, none⟩ = some (.string ss[k])

theorem IdsAt.take {w : World} {a : Option Addr} {n : Nat} {ss : List ByteArray} (h : IdsAt w a n ss) (k : Nat) (hk : k ≤ n) : IdsAt w a k (ss.take k) := by
  have hl := h.len
  refine ⟨by rw [List.length_take]; omega, fun s hs => h.small s (List.mem_of_mem_take hs), ?_⟩
  rcases h.row with q | ⟨b, off, rfl, hb, hc⟩
  · exact .inl (by omega)
  · refine .inr ⟨b, off, rfl, hb, fun j hj => ?_⟩
    rw [List.length_take] at hj
    rw [List.getElem_take]
    exact hc j (by omega)
theorem IdsAt.below {w w' : World} {a : Option Addr} {n B : Nat} {ss : List ByteArray} (h : IdsAt w a n ss) (hb : Below B w w') (hB : w.heap.size ≤ B) : IdsAt w' a n ss := by
  refine ⟨h.len, h.small, ?_⟩
  rcases h.row with q | ⟨b, off, rfl, hlt, hc⟩
  · exact .inl q
  · exact .inr ⟨b, off, rfl, Nat.lt_of_lt_of_le hlt hb.size, fun k hk => (hb.cell (p := ⟨b, off + k, none⟩) (Nat.lt_of_lt_of_le hlt hB)).trans (hc k hk)⟩

/-- is x among them? -/
def hasB (l : List (List UInt8)) (x : List UInt8) : Bool := l.contains x
theorem hasB_iff (l : List (List UInt8)) (x : List UInt8) : hasB l x = true ↔ x ∈ l := List.contains_iff_mem

theorem key_inj {s t : ByteArray} (h : key s = key t) : s = t := bytes_inj h

theorem mem_take_succ {L : List (List UInt8)} {x : List UInt8} {k : Nat} (hk : k < L.length) (h : x ∉ L.take k) (hne : ¬ x = L[k]) : x ∉ L.take (k + 1) := by
  rw [List.take_succ_eq_append_getElem hk]
  simp only [List.mem_append, List.mem_singleton, not_or]
  exact ⟨h, hne⟩

set_option maxHeartbeats 1000000 in
theorem index_any (a : Option Addr) (n c : Nat) (ss : List ByteArray) (x : ByteArray) (w : World) (h : IdsAt w a n ss) (hn : n ≤ 1048576) :
    Calls Try.prog 25 #[.slice a n c, .string x] w fun e w' => ∃ r : Int, e = .returned (.int .i64 r) ∧ Hid (decide (0 ≤ r) = hasB (ss.map key) (key x)) ∧ w = w' := by
  have hl := h.len
  rcases h.row with q | ⟨b, off, rfl, hlt, hc⟩
  · have es : Hid (hasB (ss.map key) (key x) = false) := by
      have : ss = [] := List.eq_nil_of_length_eq_zero (by omega)
      rw [this]; rfl
    clear h hl
    subst q
    go_enter Try.func25, Try.ntmps25
    go_wp2
    go_loop [8] (fun i => i = .int .i64 0) (fun _ => 0)
    case atStart => rfl
    case round =>
      subst hrel
      go_wp2
      go_ret
      exact ⟨-1, rfl, by rw [es.out]; exact rfl, rfl⟩
  · clear h
    have hl' : Hid (ss.length = n) := hl
    clear hl
    have HC : Hid (∀ k, (h : k < ss.length) → w.cell? ⟨b, off + k, none⟩ = some (.string ss[k])) := hc
    clear hc
    go_enter Try.func25, Try.ntmps25
    go_wp2
    go_loop [8] (fun i => ∃ k : Nat, k ≤ n ∧ i = .int .i64 k ∧ Hid (key x ∉ (ss.map key).take k)) (fun i => n - (intOf i).toNat)
    case atStart => exact ⟨0, by omega, rfl, by simp [Hid]⟩
    case round =>
      obtain ⟨k, hk, rfl, H⟩ := hrel
      by_cases hkn : k < n
      · have hkl : k < ss.length := by rw [hl'.out]; exact hkn
        obtain ⟨s, hs⟩ : ∃ s, s = ss[k] := ⟨_, rfl⟩
        have hcs : w.cell? ⟨b, off + k, none⟩ = some (.string s) := by rw [hs]; exact HC.out k hkl
        have HS : Hid (s = ss[k]) := hs
        clear hs
        cases e : (x.toList == s.toList)
        · have e' : Hid (key x ∉ (ss.map key).take (k + 1)) := by
            refine mem_take_succ (by simpa using hkl) H.out ?_
            rw [key_beq] at e
            have := beq_eq_false_iff_ne.1 e
            rw [HS.out] at this
            simpa using this
          clear H
          go_wp2
          go_round
          case rel => exact ⟨k + 1, by omega, by go_num, e'⟩
          case measure => simp [intOf]; omega
        · have e' : Hid (hasB (ss.map key) (key x) = true) := by
            rw [key_beq] at e
            have e1 : key x = key s := eq_of_beq e
            rw [e1, HS.out]
            exact (hasB_iff _ _).2 (List.mem_map.2 ⟨ss[k], List.getElem_mem _, rfl⟩)
          clear H
          go_wp2
          go_ret
          exact ⟨k, rfl, by rw [e'.out]; simp [Hid], rfl⟩
      · have e' : Hid (hasB (ss.map key) (key x) = false) := by
          have := H.out
          rw [List.take_of_length_le (by simp; have := hl'.out; omega)] at this
          rw [← Bool.not_eq_true]
          exact fun q => this ((hasB_iff _ _).1 q)
        clear H
        go_wp2
        go_ret
        exact ⟨-1, rfl, by rw [e'.out]; exact rfl, rfl⟩

theorem contains_any (a : Option Addr) (n c : Nat) (ss : List ByteArray) (x : ByteArray) (w : World) (h : IdsAt w a n ss) (hn : n ≤ 1048576) :
    Calls Try.prog 23 #[.slice a n c, .string x] w fun e w' => e = .returned (.bool (hasB (ss.map key) (key x))) ∧ w = w' := by
  go_enter Try.func23, Try.ntmps23
  go_wp2_with (go_at_call 25; refine (index_any a n c ss x _ h hn).mono ?_; rintro e w' ⟨r, rfl, hr, rfl⟩)
  go_ret
  exact ⟨by rw [← hr.out]; rfl, rfl⟩

def FitPost (n : Nat) (w : World) (e : Ending) (w' : World) : Prop := ∃ r : Bool, e = .returned (.bool r) ∧ (r = true → n ≤ 4096) ∧ w = w'
set_option maxHeartbeats 1000000 in
theorem fit_any (a : Option Addr) (n c : Nat) (ss : List ByteArray) (w : World) (h : IdsAt w a n ss) (hm : n ≤ maxLen) :
    Calls Try.prog 13 #[.slice a n c] w (FitPost n w) := by
  unfold maxLen at hm
  have hl := h.len
  by_cases hbig : 4096 < n
  · go_enter Try.func13, Try.ntmps13
    go_wp2
    go_ret
    exact ⟨false, rfl, (fun h => by cases h), rfl⟩
  rcases h.row with q | ⟨b, off, rfl, hlt, hc⟩
  · clear h hl
    subst q
    go_enter Try.func13, Try.ntmps13
    go_wp2
    go_loop [4] (fun i => i = .int .i64 0) (fun _ => 0)
    case atStart => rfl
    case round =>
      subst hrel
      go_wp2
      go_ret
      exact ⟨true, rfl, fun _ => by omega, rfl⟩
  · have hsm := h.small
    have HSM : Hid (∀ s ∈ ss, s.size ≤ maxLen) := hsm
    clear h hsm
    have hl' : Hid (ss.length = n) := hl
    clear hl
    have HC : Hid (∀ k, (h : k < ss.length) → w.cell? ⟨b, off + k, none⟩ = some (.string ss[k])) := hc
    clear hc
    go_enter Try.func13, Try.ntmps13
    go_wp2
    go_loop [3, 4] (fun t i => ∃ k m : Nat, k ≤ n ∧ m ≤ 1048576 ∧ t = .int .i64 m ∧ i = .int .i64 k) (fun _ i => n - (intOf i).toNat)
    case atStart => exact ⟨0, 8 * n, by omega, by omega, by go_num, rfl⟩
    case round =>
      obtain ⟨k, m, hk, hmm, rfl, rfl⟩ := hrel
      by_cases hkn : k < n
      · have hkl : k < ss.length := by rw [hl'.out]; exact hkn
        obtain ⟨s, hs⟩ : ∃ s, s = ss[k] := ⟨_, rfl⟩
        have hcs : w.cell? ⟨b, off + k, none⟩ = some (.string s) := by rw [hs]; exact HC.out k hkl
        clear hs
        by_cases g1 : 1048576 < s.size
        · go_wp2
          go_ret
          exact ⟨false, rfl, (fun h => by cases h), rfl⟩
        by_cases g2 : 1048576 < m + s.size
        · go_wp2
          go_ret
          exact ⟨false, rfl, (fun h => by cases h), rfl⟩
        · go_wp2
          go_round
          case rel => exact ⟨k + 1, m + s.size, by omega, by omega, by go_num, by go_num⟩
          case measure => simp [intOf]; omega
      · go_wp2
        go_ret
        exact ⟨true, rfl, fun _ => by omega, rfl⟩
end Go.Proofs.Qxb6603306a.W8
