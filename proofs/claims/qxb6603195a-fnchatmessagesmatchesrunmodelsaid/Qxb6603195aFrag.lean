/-
  THE FRAGMENTS THAT CAME IN; b1Grow (30), zzBytes (8), b1FragsFit (9).
-/
import Derived.Test.Qxb6603195aPart
namespace Go.Proofs.Qxb6603195a.W5
open Go.ChangeShapes Go.WideShapes Go.ChangeAt Go.RowKit

structure Frag where
  ix : Int
  id : ByteArray
  name : ByteArray
  args : ByteArray

def Frag.small (f : Frag) : Prop := f.id.size ≤ 1048576 ∧ f.name.size ≤ 1048576 ∧ f.args.size ≤ 1048576

structure FragsAt (w : World) (a : Option Addr) (n : Nat) (fs : List Frag) : Prop where
  len : fs.length = n
  wf : ∀ f ∈ fs, (Lit.int .i64 f.ix).wf = true ∧ f.id.size ≤ maxLen ∧ f.name.size ≤ maxLen ∧ f.args.size ≤ maxLen
  row : n = 0 ∨ ∃ b off, a = some ⟨b, off, none⟩ ∧ b < w.heap.size ∧ ∀ k, (h : k < fs.length) → w.cell? ⟨b, off + k * 4, none⟩ = some (.int .i64 fs[k].ix) ∧ w.cell? ⟨b, off + k * 4 + 1, none⟩ = some (.string fs[k].id) ∧ w.cell? ⟨b, off + k * 4 + 2, none⟩ = some (.string fs[k].name) ∧ w.cell? ⟨b, off + k * 4 + 3, none⟩ = some (.string fs[k].args)

/-! ### b1Grow -/
def GrowPost (w : World) (e : Ending) (w' : World) : Prop := ∃ r : Int, e = .returned (.int .i64 r) ∧ 0 ≤ r ∧ r ≤ 1048577 ∧ w = w'
theorem grow_any (t m : Int) (w : World) (h0 : 0 ≤ t) (h1 : t ≤ 1048577) (h2 : 0 ≤ m) (h3 : m ≤ 9223372036854775807) : Calls Try.prog 30 #[.int .i64 t, .int .i64 m] w (GrowPost w) := by
  by_cases g1 : 1048576 < t
  · go_enter Try.func30, Try.ntmps30
    go_wp2
    go_ret
    exact ⟨1048577, rfl, by omega, by omega, rfl⟩
  have g2 : ¬ m < 0 := by omega
  by_cases g3 : 1048576 - t < m
  · go_enter Try.func30, Try.ntmps30
    go_wp2
    go_ret
    exact ⟨1048577, rfl, by omega, by omega, rfl⟩
  · go_enter Try.func30, Try.ntmps30
    go_wp2
    go_ret
    exact ⟨t + m, rfl, by omega, by omega, rfl⟩

/-! ### zzBytes -/
def BytesPost (n : Nat) (fs : List Frag) (w : World) (e : Ending) (w' : World) : Prop := ∃ r : Bool, e = .returned (.bool r) ∧ (r = true → n ≤ 1048576 ∧ ∀ f ∈ fs, f.small) ∧ w = w'

theorem small_step {fs : List Frag} {k : Nat} (hk : k < fs.length) (h : ∀ f ∈ fs.take k, f.small) (hs : fs[k].small) : ∀ f ∈ fs.take (k + 1), f.small := by
  intro f hf
  rw [List.take_succ_eq_append_getElem hk] at hf
  rcases List.mem_append.1 hf with q | q
  · exact h f q
  · have : f = fs[k] := by simpa using q
    rw [this]; exact hs

set_option maxHeartbeats 2000000 in
theorem bytes_any (a : Option Addr) (n c : Nat) (fs : List Frag) (w : World) (h : FragsAt w a n fs) (hm : n ≤ maxLen) : Calls Try.prog 8 #[.slice a n c] w (BytesPost n fs w) := by
  unfold maxLen at hm
  by_cases hbig : 1048576 < n
  · go_enter Try.func8, Try.ntmps8
    go_wp2
    go_ret
    exact ⟨false, rfl, (fun h => by cases h), rfl⟩
  have hl := h.len
  rcases h.row with q | ⟨b, off, rfl, hlt, hc⟩
  · have hfs : Hid (fs = []) := List.eq_nil_of_length_eq_zero (by omega)
    clear h hl
    subst q
    go_enter Try.func8, Try.ntmps8
    go_wp2
    go_loop [3, 4] (fun t i => i = .int .i64 0 ∧ t = .int .i64 0) (fun _ _ => 0)
    case atStart => exact ⟨rfl, rfl⟩
    case round =>
      obtain ⟨rfl, rfl⟩ := hrel
      go_wp2
      go_ret
      exact ⟨true, rfl, (fun _ => ⟨by omega, by rw [hfs.out]; simp⟩), rfl⟩
  · clear h
    have hl' : Hid (fs.length = n) := hl
    clear hl
    have HC : Hid (∀ k, (h : k < fs.length) → w.cell? ⟨b, off + k * 4, none⟩ = some (.int .i64 fs[k].ix) ∧ w.cell? ⟨b, off + k * 4 + 1, none⟩ = some (.string fs[k].id) ∧ w.cell? ⟨b, off + k * 4 + 2, none⟩ = some (.string fs[k].name) ∧ w.cell? ⟨b, off + k * 4 + 3, none⟩ = some (.string fs[k].args)) := hc
    clear hc
    have hd1 : decide ((1048576 : Int) < (n : Int)) = false := decide_eq_false (by omega)
    go_enter Try.func8, Try.ntmps8
    go_wp2
    go_loop [3, 4] (fun t i => ∃ k m : Nat, k ≤ n ∧ m ≤ 1048576 ∧ t = .int .i64 m ∧ i = .int .i64 k ∧ Hid (∀ f ∈ fs.take k, f.small)) (fun _ i => n - (intOf i).toNat)
    case atStart => exact ⟨0, n, by omega, by omega, by go_num, rfl, by simp [Hid]⟩
    case round =>
      obtain ⟨k, m, hk, hmm, rfl, rfl, HS⟩ := hrel
      by_cases hkn : k < n
      · have hkl : k < fs.length := by rw [hl'.out]; exact hkn
        obtain ⟨f, hf⟩ : ∃ f, f = fs[k] := ⟨_, rfl⟩
        obtain ⟨_, c1, c2, c3⟩ := HC.out k hkl
        rw [← hf] at c1 c2 c3
        have HF : Hid (f = fs[k]) := hf
        clear hf
        by_cases g1 : 1048576 < f.id.size
        · go_wp2
          go_ret
          exact ⟨false, rfl, (fun h => by cases h), rfl⟩
        by_cases g1' : 1048576 < m + f.id.size
        · go_wp2
          go_ret
          exact ⟨false, rfl, (fun h => by cases h), rfl⟩
        by_cases g2 : 1048576 < f.name.size
        · go_wp2
          go_ret
          exact ⟨false, rfl, (fun h => by cases h), rfl⟩
        by_cases g2' : 1048576 < m + f.id.size + f.name.size
        · go_wp2
          go_ret
          exact ⟨false, rfl, (fun h => by cases h), rfl⟩
        by_cases g3 : 1048576 < f.args.size
        · go_wp2
          go_ret
          exact ⟨false, rfl, (fun h => by cases h), rfl⟩
        by_cases g3' : 1048576 < m + f.id.size + f.name.size + f.args.size
        · go_wp2
          go_ret
          exact ⟨false, rfl, (fun h => by cases h), rfl⟩
        · have HS' : Hid (∀ f ∈ fs.take (k + 1), f.small) := small_step hkl HS.out (by rw [← HF.out]; exact ⟨by omega, by omega, by omega⟩)
          clear HS
          go_wp2
          go_round
          case rel => exact ⟨k + 1, m + f.id.size + f.name.size + f.args.size, by omega, by omega, by go_num, by go_num, HS'⟩
          case measure => simp [intOf]; omega
      · have HS' : Hid (∀ f ∈ fs, f.small) := by
          have := HS.out
          rw [List.take_of_length_le (by rw [hl'.out]; omega)] at this
          exact this
        clear HS
        go_wp2
        go_ret
        exact ⟨true, rfl, (fun _ => ⟨by omega, HS'.out⟩), rfl⟩

/-! ### b1FragsFit -/
def FitPost (w : World) (e : Ending) (w' : World) : Prop := ∃ r : Bool, e = .returned (.bool r) ∧ w = w'

set_option maxHeartbeats 2000000 in
theorem fit_any (a : Option Addr) (n c : Nat) (fs : List Frag) (w : World) (h : FragsAt w a n fs) (hm : n ≤ 1048576) : Calls Try.prog 9 #[.slice a n c] w (FitPost w) := by
  by_cases hbig : 131072 < n
  · go_enter Try.func9, Try.ntmps9
    go_wp2
    go_ret
    exact ⟨false, rfl, rfl⟩
  have hl := h.len
  rcases h.row with q | ⟨b, off, rfl, hlt, hc⟩
  · clear h hl
    subst q
    go_enter Try.func9, Try.ntmps9
    go_wp2
    go_loop [3, 4] (fun t i => i = .int .i64 0 ∧ t = .int .i64 0) (fun _ _ => 0)
    case atStart => exact ⟨rfl, rfl⟩
    case round =>
      obtain ⟨rfl, rfl⟩ := hrel
      go_wp2_with fail
      go_ret
      exact ⟨true, rfl, rfl⟩
  · have HW : Hid (∀ f ∈ fs, (Lit.int .i64 f.ix).wf = true ∧ f.id.size ≤ maxLen ∧ f.name.size ≤ maxLen ∧ f.args.size ≤ maxLen) := h.wf
    clear h
    have hl' : Hid (fs.length = n) := hl
    clear hl
    have HC : Hid (∀ k, (h : k < fs.length) → w.cell? ⟨b, off + k * 4, none⟩ = some (.int .i64 fs[k].ix) ∧ w.cell? ⟨b, off + k * 4 + 1, none⟩ = some (.string fs[k].id) ∧ w.cell? ⟨b, off + k * 4 + 2, none⟩ = some (.string fs[k].name) ∧ w.cell? ⟨b, off + k * 4 + 3, none⟩ = some (.string fs[k].args)) := hc
    clear hc
    have hd1 : decide ((131072 : Int) < (n : Int)) = false := decide_eq_false (by omega)
    go_enter Try.func9, Try.ntmps9
    go_wp2
    go_loopw [3, 4] (fun t i wr => ∃ (k : Nat) (m : Int), k ≤ n ∧ 0 ≤ m ∧ m ≤ 1048577 ∧ t = .int .i64 m ∧ i = .int .i64 k ∧ wr = w) (fun _ i _ => n - (intOf i).toNat)
    case atStart => exact ⟨0, 0, by omega, by omega, by omega, rfl, rfl, rfl⟩
    case round =>
      obtain ⟨k, m, hk, hm0, hmm, rfl, rfl, rfl⟩ := hrel
      by_cases hkn : k < n
      · have hkl : k < fs.length := by rw [hl'.out]; exact hkn
        obtain ⟨f, hf⟩ : ∃ f, f = fs[k] := ⟨_, rfl⟩
        obtain ⟨_, c1, c2, c3⟩ := HC.out k hkl
        rw [← hf] at c1 c2 c3
        obtain ⟨_, s1, s2, s3⟩ := HW.out f (by rw [hf]; exact List.getElem_mem _)
        unfold maxLen at s1 s2 s3
        clear hf
        go_wp2_with fail
        refine (grow_any m 8 _ hm0 hmm (by omega) (by omega)).mono ?_
        rintro e w' ⟨r1, rfl, p1, q1, rfl⟩
        go_wp2_with fail
        refine (grow_any r1 f.id.size _ p1 q1 (by omega) (by omega)).mono ?_
        rintro e w' ⟨r2, rfl, p2, q2, rfl⟩
        go_wp2_with fail
        refine (grow_any r2 f.name.size _ p2 q2 (by omega) (by omega)).mono ?_
        rintro e w' ⟨r3, rfl, p3, q3, rfl⟩
        go_wp2_with fail
        refine (grow_any r3 f.args.size _ p3 q3 (by omega) (by omega)).mono ?_
        rintro e w' ⟨r4, rfl, p4, q4, rfl⟩
        by_cases g : 1048576 < r4
        · go_wp2_with fail
          go_ret
          exact ⟨false, rfl, rfl⟩
        · go_wp2_with fail
          go_roundw
          case rel => exact ⟨k + 1, r4, by omega, p4, q4, by go_num, by go_num, by trivial⟩
          case measure => simp [intOf]; omega
      · go_wp2_with fail
        go_ret
        exact ⟨true, rfl, rfl⟩
end Go.Proofs.Qxb6603195a.W5
