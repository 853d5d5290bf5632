/-
  b1ToMessages (17).
-/
import Derived.Test.Qxb6603195aToMem
namespace Go.Proofs.Qxb6603195a.W6
open Go.ChangeShapes Go.WideShapes Go.ChangeAt Go.RowKit
open W5 (ret_int empty_iff Fr cells_ne lt_of_block size_of_empty)

def ToPost (ms : List M) (w : World) (e : Ending) (w' : World) : Prop := ∃ v os, e = .returned v ∧ os.map M.b = ms.map M.b ∧ MsgsAt w' v os ∧ Below w.heap.size w w'

theorem neq_nil42 (w : World) (a : Option Addr) (n c : Nat) : (binOp .neq 42 (.slice a n c) (.slice none 0 0)).run Try.prog w = .ok (.bool (!a.isNone)) w := by
  cases a <;> kernel_rfl

theorem eql_nil32 (w : World) (a : Option Addr) (n c : Nat) : (binOp .eql 32 (.slice a n c) (.slice none 0 0)).run Try.prog w = .ok (.bool a.isNone) w := by
  cases a <;> kernel_rfl

set_option maxRecDepth 20000 in
set_option maxHeartbeats 4000000 in
theorem to_some (b off c : Nat) (ms : List M) (w : World) (h : MsgsIn w (.slice (some ⟨b, off, none⟩) ms.length c) ms) (hm : ms.length ≤ 1048576) (hsm : ∀ m ∈ ms, m.small) : Calls Try.prog 17 #[.slice (some ⟨b, off, none⟩) ms.length c] w (ToPost ms w) := by
  have HM : Hid (MsgsIn w (.slice (some ⟨b, off, none⟩) ms.length c) ms) := h
  have HSM : Hid (∀ m ∈ ms, m.small) := hsm
  have HMS : Hid (ms.length ≤ 1048576) := hm
  obtain ⟨n, hn⟩ : ∃ n, n = ms.length := ⟨_, rfl⟩
  rw [← hn] at hm
  rw [← hn]
  have HN : Hid (n = ms.length) := hn
  clear h hn hsm
  obtain ⟨i0, hi, hz0, hz1, hz2⟩ := info_parts info41
  obtain ⟨j0, hj, hjz0, hjz1, hjz2⟩ := info_parts info74
  have heq : ∀ wx, (binOp .eql 32 (.slice (some ⟨b, off, none⟩) n c) (.slice none 0 0)).run Try.prog wx = .ok (.bool false) wx := fun wx => eql_nil32 wx _ n c
  go_enter Try.func17, Try.ntmps17
  go_wp2_with (at_make; (refine wpList_make_full _ rfl _ _ 34 rfl w.heap.size 41 i0 _ 5 Try.underlying34 hi hz0 hz1 _ _ _ _ n rfl rfl rfl rfl (by rw [hz2]; omega) (by unfold maxLen; omega) (Nat.le_refl _) ?_); intro w1 hown hg; have HT : Hid (∃ rest, TInv w ms w.heap.size 0 w1 [] rest) := ⟨_, by rw [← HN.out]; exact hown, rfl, by omega, rfl, by simp, (Fr.of_grown hg).below (by simp) (Nat.le_refl _)⟩; clear hown hg)
  obtain ⟨h, hh⟩ : ∃ h, h = w.heap.size := ⟨_, rfl⟩
  rw [← hh] at HT
  rw [← hh]
  clear hh
  go_loopw [4] (fun i wr => ∃ (k : Nat) (os : List M) (rest : List Value), k ≤ n ∧ i = .int .i64 (k : Nat) ∧ Hid (TInv w ms h k wr os rest)) (fun i _ => n - (intOf i).toNat)
  case atStart =>
    obtain ⟨rest, H⟩ := HT.out
    exact ⟨0, [], rest, by omega, rfl, H⟩
  case round =>
    clear HT
    obtain ⟨k, os, rest, hk, rfl, HT⟩ := hrel
    by_cases hkn : k < n
    · have hkl : k < ms.length := by rw [← HN.out]; exact hkn
      obtain ⟨x, hx⟩ : ∃ x, x = ms[k] := ⟨_, rfl⟩
      obtain ⟨ca, cc, hcv, hcl⟩ := HM.out.calls x (by rw [hx]; exact List.getElem_mem _)
      have HCL : Hid (x.b.calls.length = 0 ∨ ∃ b off, ca = some ⟨b, off, none⟩ ∧ ∀ j u, (rowOf x.b.calls)[j]? = some u → w.cell? ⟨b, off + j, none⟩ = some u) := hcl
      have hin : ∀ {W : World}, Below w.heap.size w W → ∀ j u, (mCells x)[j]? = some u → j < 5 → W.cell? ⟨b, off + k * 5 + j, none⟩ = some u := by
        intro W hb j u hu hj
        have q := HM.out.cell hkl (j := j) hj
        rw [← hx, hu] at q
        exact (World.cell?_of_block (hb.block b (World.block_lt_of_cell? w _ q))).trans q
      have HIN : Hid (∀ {W : World}, Below w.heap.size w W → ∀ j u, (mCells x)[j]? = some u → j < 5 → W.cell? ⟨b, off + k * 5 + j, none⟩ = some u) := @hin
      have HX : Hid (x = ms[k]) := hx
      have hKs := (HSM.out x (by rw [hx]; exact List.getElem_mem _)).2
      have HCV : Hid (x.cv = .slice ca x.b.calls.length cc) := hcv
      have c2 : wr.cell? ⟨b, off + k * 5 + 2, none⟩ = some (.slice ca x.b.calls.length cc) := by rw [← hcv]; exact HIN.out HT.out.bel 2 _ rfl (by omega)
      clear hx hcv hcl hin
      have hkI : (k : Int) < (n : Int) := by omega
      cases ca with
      | none =>
        have hnq : ∀ wx, (binOp .neq 42 (.slice none x.b.calls.length cc) (.slice none 0 0)).run Try.prog wx = .ok (.bool false) wx := fun wx => neq_nil42 wx _ _ _
        have HC0 : Hid (x.b.calls = []) := by
          rcases HCL.out with q | ⟨_, _, q, _⟩
          · exact List.eq_nil_of_length_eq_zero q
          · cases q
        have HT2 := HT
        have c0 : wr.cell? ⟨b, off + k * 5, none⟩ = some (.string x.b.role) := HIN.out HT2.out.bel 0 _ rfl (by omega)
        have c1 : wr.cell? ⟨b, off + k * 5 + 1, none⟩ = some (.string x.b.content) := HIN.out HT2.out.bel 1 _ rfl (by omega)
        have c3 : wr.cell? ⟨b, off + k * 5 + 3, none⟩ = some (.string x.b.tcid) := HIN.out HT2.out.bel 3 _ rfl (by omega)
        have c4 : wr.cell? ⟨b, off + k * 5 + 4, none⟩ = some (.bool x.fl) := HIN.out HT2.out.bel 4 _ rfl (by omega)
        obtain ⟨v0, o0⟩ := HT2.out.cell hkl (j := 0) (by omega)
        obtain ⟨v1, o1⟩ := HT2.out.cell hkl (j := 1) (by omega)
        obtain ⟨v2, o2⟩ := HT2.out.cell hkl (j := 2) (by omega)
        obtain ⟨v3, o3⟩ := HT2.out.cell hkl (j := 3) (by omega)
        obtain ⟨v4, o4⟩ := HT2.out.cell hkl (j := 4) (by omega)
        have o0' : wr.cell? ⟨h, k * 5, none⟩ = some v0 := o0
        have hfz : ∀ j, wr.frozen? ⟨h, j, none⟩ = false := fun j => HT2.out.own.frozenAt j
        have HP : Hid (∃ rest', TInv w ms h (k + 1) (((((wr.setCell ⟨h, k * 5, none⟩ (.string x.b.role)).setCell ⟨h, k * 5 + 1, none⟩ (.string x.b.content)).setCell ⟨h, k * 5 + 2, none⟩ (.slice none 0 0)).setCell ⟨h, k * 5 + 3, none⟩ (.string x.b.tcid)).setCell ⟨h, k * 5 + 4, none⟩ (.bool x.fl)) (os ++ [⟨x.b, (.slice none 0 0), x.fl⟩]) rest') := HT2.out.put hkl ⟨x.b, (.slice none 0 0), x.fl⟩ (by rw [HX.out]) (.inl ⟨rfl, HC0.out⟩)
        clear o0
        go_upto_region 14 with fail
        go_region
        go_wp2_with fail
        obtain ⟨rest', HP'⟩ := HP.out
        go_roundw
        case rel => exact ⟨k + 1, _, rest', by omega, by go_num, HP'.drew⟩
        case measure => simp [intOf]; omega
      | some ad =>
        have hnq : ∀ wx, (binOp .neq 42 (.slice (some ad) x.b.calls.length cc) (.slice none 0 0)).run Try.prog wx = .ok (.bool true) wx := fun wx => neq_nil42 wx _ _ _
        obtain ⟨K, hK⟩ : ∃ K, K = x.b.calls.length := ⟨_, rfl⟩
        rw [← hK] at c2 hKs hnq
        have HK : Hid (K = x.b.calls.length) := hK
        clear hK
        generalize wr = W0 at *
        go_wp2_with (at_make; (refine wpList_make_full _ rfl _ _ 39 rfl W0.heap.size 74 j0 _ 3 Try.underlying39 hj hjz0 hjz1 _ _ _ _ K rfl rfl rfl rfl (by rw [hjz2]; omega) (by unfold maxLen; omega) (Nat.le_refl _) ?_); intro w2 hown hg; have HC : Hid (∃ rest, CInv W0 x.b.calls W0.heap.size 0 w2 rest) := ⟨_, CInv.start (by rw [← HK.out]; exact hown) hg⟩; clear hown hg)
        clear c2
        go_loopw [6] (fun i wq => ∃ (u : Nat) (rc : List Value), u ≤ K ∧ i = .int .i64 (u : Nat) ∧ Hid (CInv W0 x.b.calls W0.heap.size u wq rc)) (fun i _ => K - (intOf i).toNat)
        case atStart =>
          obtain ⟨rc, H⟩ := HC.out
          exact ⟨0, rc, by omega, rfl, H⟩
        case round =>
          clear HC
          obtain ⟨u, rc, hu, rfl, HC⟩ := hrel
          have HT2 : Hid (TInv w ms h k wr os rest) := HT.out.keep HC.out.bel
          have c2 : wr.cell? ⟨b, off + k * 5 + 2, none⟩ = some (.slice (some ad) K cc) := by rw [HK.out, ← HCV.out]; exact HIN.out HT2.out.bel 2 _ rfl (by omega)
          by_cases huK : u < K
          · have huL : u < x.b.calls.length := by rw [← HK.out]; exact huK
            obtain ⟨cb, coff, had, s0, s1, s2⟩ := callCells HCL.out (u := u) huL
            injection had with had
            subst had
            have hbw := HT2.out.bel
            have p0 : wr.cell? ⟨cb, coff + u * 3, none⟩ = some (.string x.b.calls[u].id) := (World.cell?_of_block (hbw.block cb (World.block_lt_of_cell? w _ s0))).trans s0
            have p1 : wr.cell? ⟨cb, coff + u * 3 + 1, none⟩ = some (.string x.b.calls[u].name) := (World.cell?_of_block (hbw.block cb (World.block_lt_of_cell? w _ s0))).trans s1
            have p2 : wr.cell? ⟨cb, coff + u * 3 + 2, none⟩ = some (.string x.b.calls[u].args) := (World.cell?_of_block (hbw.block cb (World.block_lt_of_cell? w _ s0))).trans s2
            obtain ⟨v0, o0⟩ := HC.out.cell huL (j := 0) (by omega)
            obtain ⟨v1, o1⟩ := HC.out.cell huL (j := 1) (by omega)
            obtain ⟨v2, o2⟩ := HC.out.cell huL (j := 2) (by omega)
            have o0' : wr.cell? ⟨W0.heap.size, u * 3, none⟩ = some v0 := o0
            have hfz : ∀ j, wr.frozen? ⟨W0.heap.size, j, none⟩ = false := fun j => HC.out.own.frozenAt j
            have HP : Hid (∃ rest', CInv W0 x.b.calls W0.heap.size (u + 1) (((wr.setCell ⟨W0.heap.size, u * 3, none⟩ (.string x.b.calls[u].id)).setCell ⟨W0.heap.size, u * 3 + 1, none⟩ (.string x.b.calls[u].name)).setCell ⟨W0.heap.size, u * 3 + 2, none⟩ (.string x.b.calls[u].args)) rest') := HC.out.put huL
            clear o0 s0 s1 s2 hbw
            have huI : (u : Int) < (K : Int) := by omega
            generalize x.b.calls[u].id = y0 at *
            generalize x.b.calls[u].name = y1 at *
            generalize x.b.calls[u].args = y2 at *
            generalize W0.heap.size = h2 at *
            go_upto_region 13 with fail
            go_region
            go_wp2_with fail
            obtain ⟨rest', HP'⟩ := HP.out
            go_roundw
            case rel => exact ⟨u + 1, rest', by omega, by go_num, HP'.drew⟩
            case measure => simp [intOf]; omega
          · have : u = K := by omega
            subst this
            have HCA : Hid (CallsAt wr (.slice (some ⟨W0.heap.size, 0, none⟩) u u) x.b.calls) := by
              have q := HC.out
              rw [HK.out] at q
              rw [HK.out]
              exact q.done
            generalize W0.heap.size = h2 at *
            have c0 : wr.cell? ⟨b, off + k * 5, none⟩ = some (.string x.b.role) := HIN.out HT2.out.bel 0 _ rfl (by omega)
            have c1 : wr.cell? ⟨b, off + k * 5 + 1, none⟩ = some (.string x.b.content) := HIN.out HT2.out.bel 1 _ rfl (by omega)
            have c3 : wr.cell? ⟨b, off + k * 5 + 3, none⟩ = some (.string x.b.tcid) := HIN.out HT2.out.bel 3 _ rfl (by omega)
            have c4 : wr.cell? ⟨b, off + k * 5 + 4, none⟩ = some (.bool x.fl) := HIN.out HT2.out.bel 4 _ rfl (by omega)
            obtain ⟨v0, o0⟩ := HT2.out.cell hkl (j := 0) (by omega)
            obtain ⟨v1, o1⟩ := HT2.out.cell hkl (j := 1) (by omega)
            obtain ⟨v2, o2⟩ := HT2.out.cell hkl (j := 2) (by omega)
            obtain ⟨v3, o3⟩ := HT2.out.cell hkl (j := 3) (by omega)
            obtain ⟨v4, o4⟩ := HT2.out.cell hkl (j := 4) (by omega)
            have o0' : wr.cell? ⟨h, k * 5, none⟩ = some v0 := o0
            have hfz : ∀ j, wr.frozen? ⟨h, j, none⟩ = false := fun j => HT2.out.own.frozenAt j
            have HP : Hid (∃ rest', TInv w ms h (k + 1) (((((wr.setCell ⟨h, k * 5, none⟩ (.string x.b.role)).setCell ⟨h, k * 5 + 1, none⟩ (.string x.b.content)).setCell ⟨h, k * 5 + 2, none⟩ (.slice (some ⟨h2, 0, none⟩) u u)).setCell ⟨h, k * 5 + 3, none⟩ (.string x.b.tcid)).setCell ⟨h, k * 5 + 4, none⟩ (.bool x.fl)) (os ++ [⟨x.b, (.slice (some ⟨h2, 0, none⟩) u u), x.fl⟩]) rest') := HT2.out.put hkl ⟨x.b, (.slice (some ⟨h2, 0, none⟩) u u), x.fl⟩ (by rw [HX.out]) HCA.out
            clear o0
            go_upto_region 14 with fail
            go_region
            go_wp2_with fail
            obtain ⟨rest', HP'⟩ := HP.out
            go_roundw
            case rel => exact ⟨k + 1, _, rest', by omega, by go_num, HP'.drew⟩
            case measure => simp [intOf]; omega
    · have : k = n := by omega
      subst this
      have HD := TInv.done (by have q := HT.out; rw [HN.out] at q; exact q) HMS.out HSM.out
      have HD1 : Hid (os.map M.b = ms.map M.b) := HD.1
      have HD2 : Hid (MsgsAt wr (.slice (some ⟨h, 0, none⟩) k k) os) := by rw [HN.out]; exact HD.2
      have HD3 : Hid (Below w.heap.size w wr) := HT.out.bel
      clear HD
      go_wp2_with fail
      go_ret
      exact ⟨_, os, rfl, HD1.out, HD2.out, HD3.out⟩

set_option maxHeartbeats 1000000 in
theorem to_nil (c : Nat) (w : World) : Calls Try.prog 17 #[.slice none 0 c] w (ToPost [] w) := by
  have heq : ∀ wx, (binOp .eql 32 (.slice none 0 c) (.slice none 0 0)).run Try.prog wx = .ok (.bool true) wx := fun wx => eql_nil32 wx _ 0 c
  go_enter Try.func17, Try.ntmps17
  go_wp2_with fail
  go_ret
  exact ⟨_, [], rfl, rfl, ⟨⟨none, 0, rfl, .inl rfl⟩, by simp, by simp, by simp⟩, Below.refl _ _⟩

set_option maxHeartbeats 1000000 in
theorem to_zero (ad : Addr) (c : Nat) (w : World) : Calls Try.prog 17 #[.slice (some ad) 0 c] w (ToPost [] w) := by
  have heq : ∀ wx, (binOp .eql 32 (.slice (some ad) 0 c) (.slice none 0 0)).run Try.prog wx = .ok (.bool false) wx := fun wx => eql_nil32 wx _ 0 c
  obtain ⟨i0, hi, hz0, hz1, hz2⟩ := info_parts info41
  go_enter Try.func17, Try.ntmps17
  go_wp2_with (at_make; (refine wpList_make_full _ rfl _ _ 34 rfl w.heap.size 41 i0 _ 5 Try.underlying34 hi hz0 hz1 _ _ _ _ 0 rfl rfl rfl rfl (by rw [hz2]; omega) (by unfold maxLen; omega) (Nat.le_refl _) ?_); intro w1 hown hg; have HB : Hid (Below w.heap.size w w1) := (Fr.of_grown hg).below (by simp) (Nat.le_refl _); clear hown hg)
  go_loopw [4] (fun i wr => i = .int .i64 0 ∧ Hid (Below w.heap.size w wr)) (fun _ _ => 0)
  case atStart => exact ⟨rfl, HB⟩
  case round =>
    clear HB
    obtain ⟨rfl, HB⟩ := hrel
    go_wp2_with fail
    go_ret
    exact ⟨_, [], rfl, rfl, ⟨⟨_, 0, rfl, .inl rfl⟩, by simp, by simp, by simp⟩, HB.out⟩
end Go.Proofs.Qxb6603195a.W6
