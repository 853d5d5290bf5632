/-
  THE WALK OF FnCallBuilderAddReturnsWhatCallsHold (3).
-/
import Derived.Test.Qxb6603195aFrag
namespace Go.Proofs.Qxb6603195a.W5
open Go.ChangeShapes Go.WideShapes Go.ChangeAt Go.RowKit

def LPost (w : World) (e : Ending) (w' : World) : Prop := e = .returned (.bool true) ∧ Below w.heap.size w w'

theorem held_take_le (ps : List PC) (k : Nat) : held (ps.take k) ≤ held ps := by
  have h : held ps = held (ps.take k) + held (ps.drop k) := by
    conv => lhs; rw [← List.take_append_drop k ps]
    unfold held
    rw [List.map_append, List.sum_append]
  omega

set_option maxHeartbeats 4000000 in
theorem law_some (b off n c : Nat) (fs : List Frag) (w : World) (HA : Hid (FragsAt w (some ⟨b, off, none⟩) n fs)) (hm : n ≤ maxLen) (hn1 : 1 ≤ n) (hlt : b < w.heap.size)
    (HC : Hid (∀ k, (h : k < fs.length) → w.cell? ⟨b, off + k * 4, none⟩ = some (.int .i64 fs[k].ix) ∧ w.cell? ⟨b, off + k * 4 + 1, none⟩ = some (.string fs[k].id) ∧ w.cell? ⟨b, off + k * 4 + 2, none⟩ = some (.string fs[k].name) ∧ w.cell? ⟨b, off + k * 4 + 3, none⟩ = some (.string fs[k].args))) :
    Calls Try.prog 3 #[.slice (some ⟨b, off, none⟩) n c] w (LPost w) := by
  have HK : Hid (fs.length = n) := HA.out.len
  go_enter Try.func3, Try.ntmps3
  go_wp2_with fail
  refine (bytes_any _ n c fs _ HA.out hm).mono ?_
  rintro e w' ⟨r, rfl, hr, rfl⟩
  cases r
  · go_wp2_with fail
    go_ret
    exact ⟨rfl, Below.refl _ _⟩
  obtain ⟨hn, hsm⟩ := hr rfl
  have HSM : Hid (∀ f ∈ fs, f.small) := hsm
  clear hr hsm
  go_wp2_with fail
  refine (fit_any _ n c fs _ HA.out hn).mono ?_
  rintro e w' ⟨r, rfl, rfl⟩
  cases r
  · go_wp2_with fail
    go_ret
    exact ⟨rfl, Below.refl _ _⟩
  go_wp2_with fail
  refine (newBuilder _).mono ?_
  rintro e w' ⟨rfl, rfl⟩
  have HF : Hid (Inv (w.alloc (.cells #[.slice none 0 0, .map none] 62)) w.heap.size w.heap.size [] (.map []) 0 (.slice none 0 0) (.map none)) := Inv.fresh w
  go_wp2_with fail
  go_loopw [4, 5] (fun t i wr => ∃ (k : Nat) (ps : List PC) (D : DataW Unit) (m : Nat) (pv mv : Value), k ≤ n ∧ i = .int .i64 k ∧ t = .int .i64 (held ps : Nat) ∧ Hid (Inv wr w.heap.size w.heap.size ps D m pv mv) ∧ m ≤ k ∧ ps.length ≤ k ∧ (1 ≤ k → 1 ≤ ps.length) ∧ held ps ≤ k * 3146752 ∧ Hid (Below w.heap.size w wr)) (fun _ i _ => n - (intOf i).toNat)
  case atStart => exact ⟨0, [], _, 0, _, _, by omega, rfl, rfl, HF, by omega, by simp, by omega, by simp [held], (Below.refl _ _).alloc (Nat.le_refl _) _⟩
  case round =>
    clear HF
    obtain ⟨k, ps, D, m, pv, mv, hk, rfl, rfl, HI, hmk, hpk, hp1, hh, HB⟩ := hrel
    have hhb : held ps ≤ 3299707256832 := by have : k * 3146752 ≤ 1048576 * 3146752 := Nat.mul_le_mul_right _ (by omega); omega
    by_cases hkn : k < n
    · have hkl : k < fs.length := by rw [HK.out]; exact hkn
      obtain ⟨f, hf⟩ : ∃ f, f = fs[k] := ⟨_, rfl⟩
      obtain ⟨c0, c1, c2, c3⟩ := HC.out k hkl
      rw [← hf] at c0 c1 c2 c3
      have d0 : wr.cell? ⟨b, off + k * 4, none⟩ = some (.int .i64 f.ix) := (HB.out.cell (p := ⟨b, _, none⟩) hlt).trans c0
      have d1 : wr.cell? ⟨b, off + k * 4 + 1, none⟩ = some (.string f.id) := (HB.out.cell (p := ⟨b, _, none⟩) hlt).trans c1
      have d2 : wr.cell? ⟨b, off + k * 4 + 2, none⟩ = some (.string f.name) := (HB.out.cell (p := ⟨b, _, none⟩) hlt).trans c2
      have d3 : wr.cell? ⟨b, off + k * 4 + 3, none⟩ = some (.string f.args) := (HB.out.cell (p := ⟨b, _, none⟩) hlt).trans c3
      clear c0 c1 c2 c3
      have HWF : Hid ((Lit.int .i64 f.ix).wf = true) := (HA.out.wf f (by rw [hf]; exact List.getElem_mem _)).1
      have hs : f.small := HSM.out f (by rw [hf]; exact List.getElem_mem _)
      obtain ⟨s1, s2, s3⟩ := hs
      clear hf
      have hFr := Fr.alloc wr (.cells #[.int .i64 f.ix, .string f.id, .string f.name, .string f.args] 27)
      have HI1 : Hid (Inv (wr.alloc (.cells #[.int .i64 f.ix, .string f.id, .string f.name, .string f.args] 27)) w.heap.size w.heap.size ps D m pv mv) := HI.out.kept hFr
      have HB1 : Hid (Below w.heap.size w (wr.alloc (.cells #[.int .i64 f.ix, .string f.id, .string f.name, .string f.args] 27))) := HB.out.alloc HB.out.size _
      have HH1 : Hid ((wr.alloc (.cells #[.int .i64 f.ix, .string f.id, .string f.name, .string f.args] 27)).heap[wr.heap.size]? = some (.cells #[.int .i64 f.ix, .string f.id, .string f.name, .string f.args] 27 (0, 0))) := (MapKept.heap_alloc wr _).1
      clear hFr
      go_wp2_with fail
      refine (zzadd w.heap.size w.heap.size m ps D pv mv f.ix f.id f.name f.args _ HI1.out HWF.out s3 s1 s2 (by omega) (by omega) (by omega)).mono ?_
      rintro e w1 ⟨added, ps', D', m', pv', mv', rfl, hI', hb', g1, g2, g3, g4, g5, g6, g7, hkp⟩
      have hblk := hkp _ _ _ HH1.out
      have q1 : w1.cell? ⟨wr.heap.size, 1, none⟩ = some (.string f.id) := by rw [Lib.cell_of_heap hblk]; rfl
      have q2 : w1.cell? ⟨wr.heap.size, 2, none⟩ = some (.string f.name) := by rw [Lib.cell_of_heap hblk]; rfl
      have q3 : w1.cell? ⟨wr.heap.size, 3, none⟩ = some (.string f.args) := by rw [Lib.cell_of_heap hblk]; rfl
      have HI' : Hid (Inv w1 w.heap.size w.heap.size ps' D' m' pv' mv') := hI'
      have HB' : Hid (Below w.heap.size w w1) := HB1.out.trans hb'
      have G3 : Hid (held ps' = held ps + added) := g3
      clear hI' hb' hkp hblk g3 HH1 HI1 HB1 HI HB
      have t1 : ¬ added < f.args.size := by omega
      have t2 : ¬ f.args.size + f.id.size + f.name.size + 1024 < added := by omega
      go_wp2_with fail
      go_roundw
      case rel => exact ⟨k + 1, ps', D', m', pv', mv', by omega, by go_num, by rw [G3.out]; go_num, HI', by omega, by omega, fun _ => g6, by rw [G3.out, Nat.add_mul]; omega, HB'⟩
      case measure => simp [intOf]; omega
    · have hkn' : k = n := by omega
      have hp1' : 1 ≤ ps.length := hp1 (by omega)
      have hpn : ps.length ≤ n := by omega
      clear hp1 hpk hkn'
      have z1 : ¬ n < ps.length := by omega
      have z2 : ¬ ps.length < 1 := by omega
      have z1d : decide ((n : Int) < (ps.length : Int)) = false := decide_eq_false (by omega)
      have z3d : decide ((0 : Int) < (n : Int)) = true := decide_eq_true (by omega)
      have z2d : decide ((ps.length : Int) < 1) = false := decide_eq_false (by omega)
      go_wp2_with fail
      refine (numParts _ _ m ps D pv mv _ HI.out).mono ?_
      rintro e w' ⟨rfl, rfl⟩
      go_wp2_with fail
      go_loopw [9, 10] (fun t i wr => ∃ j : Nat, j ≤ ps.length ∧ i = .int .i64 j ∧ t = .int .i64 (held (ps.take j) : Nat) ∧ Hid (Inv wr w.heap.size w.heap.size ps D m pv mv) ∧ Hid (Below w.heap.size w wr)) (fun _ i _ => ps.length - (intOf i).toNat)
      case atStart => exact ⟨0, by omega, rfl, rfl, HI, HB⟩
      case round =>
        clear HI HB
        obtain ⟨j, hj, rfl, rfl, HI, HB⟩ := hrel
        by_cases hjl : j < ps.length
        · obtain ⟨p, hp⟩ : ∃ p, p = ps[j] := ⟨_, rfl⟩
          have ht := held_take ps j hjl
          have hle := held_take_le ps (j + 1)
          rw [← hp] at ht
          have HT : Hid (held (ps.take (j + 1)) = held (ps.take j) + p.sz) := ht
          have hsz : p.sz = 1024 + p.id.size + p.name.size + p.bs.length := rfl
          have hbd : held (ps.take j) + 1024 + p.id.size + p.name.size + p.bs.length ≤ 3299707256832 := by omega
          have HSZ : Hid (p.sz = 1024 + p.id.size + p.name.size + p.bs.length) := hsz
          have HP : Hid (p = ps[j]) := hp
          clear ht hle hsz hp
          go_wp2_with fail
          refine (part_any _ _ m j ps D pv mv _ HI.out hjl).mono ?_
          rw [← HP.out]
          rintro e w1 ⟨rfl, hI', hb'⟩
          have HI' : Hid (Inv w1 w.heap.size w.heap.size ps D m pv mv) := hI'
          have HB' : Hid (Below w.heap.size w w1) := HB.out.trans hb'
          clear hI' hb' HI HB
          go_wp2_with fail
          go_roundw
          case rel => exact ⟨j + 1, by omega, by go_num, by rw [HT.out, HSZ.out]; go_num, HI', HB'⟩
          case measure => simp [intOf]; omega
        · have HE : Hid (held ps = held (ps.take j)) := by rw [List.take_of_length_le (by omega)]; exact rfl
          go_wp2_with fail
          go_ret
          exact ⟨by rw [HE.out]; simp, HB.out⟩

set_option maxHeartbeats 2000000 in
theorem law_zero (a : Option Addr) (c : Nat) (w : World) : Calls Try.prog 3 #[.slice a 0 c] w (LPost w) := by
  have HA : Hid (FragsAt w a 0 []) := ⟨rfl, by simp, .inl rfl⟩
  go_enter Try.func3, Try.ntmps3
  go_wp2_with fail
  refine (bytes_any _ 0 c [] _ HA.out (by simp [maxLen])).mono ?_
  rintro e w' ⟨r, rfl, hr, rfl⟩
  clear hr
  cases r
  · go_wp2_with fail
    go_ret
    exact ⟨rfl, Below.refl _ _⟩
  go_wp2_with fail
  refine (fit_any _ 0 c [] _ HA.out (by omega)).mono ?_
  rintro e w' ⟨r, rfl, rfl⟩
  cases r
  · go_wp2_with fail
    go_ret
    exact ⟨rfl, Below.refl _ _⟩
  go_wp2_with fail
  refine (newBuilder _).mono ?_
  rintro e w' ⟨rfl, rfl⟩
  have HF : Hid (Inv (w.alloc (.cells #[.slice none 0 0, .map none] 62)) w.heap.size w.heap.size [] (.map []) 0 (.slice none 0 0) (.map none)) := Inv.fresh w
  go_wp2_with fail
  go_loopw [4, 5] (fun t i wr => i = .int .i64 0 ∧ t = .int .i64 0 ∧ wr = (w.alloc (.cells #[.slice none 0 0, .map none] 62))) (fun _ _ _ => 0)
  case atStart => exact ⟨rfl, rfl, rfl⟩
  case round =>
    obtain ⟨rfl, rfl, rfl⟩ := hrel
    go_wp2_with fail
    refine (numParts _ _ _ _ _ _ _ _ HF.out).mono ?_
    rintro e w' ⟨rfl, rfl⟩
    go_wp2_with fail
    go_loopw [9, 10] (fun t i wr => i = .int .i64 0 ∧ t = .int .i64 0 ∧ wr = (w.alloc (.cells #[.slice none 0 0, .map none] 62))) (fun _ _ _ => 0)
    case atStart => exact ⟨rfl, rfl, rfl⟩
    case round =>
      obtain ⟨rfl, rfl, rfl⟩ := hrel
      go_wp2_with fail
      go_ret
      exact ⟨rfl, (Below.refl _ _).alloc (Nat.le_refl _) _⟩

theorem law_any (a : Option Addr) (n c : Nat) (fs : List Frag) (w : World) (h : FragsAt w a n fs) (hm : n ≤ maxLen) : Calls Try.prog 3 #[.slice a n c] w (LPost w) := by
  by_cases h0 : n = 0
  · subst h0
    exact law_zero a c w
  · rcases h.row with q | ⟨b, off, rfl, hlt, hc⟩
    · exact absurd q h0
    · exact law_some b off n c fs w h hm (by omega) hlt hc
end Go.Proofs.Qxb6603195a.W5
