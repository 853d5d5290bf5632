/-
  b1ChatCallsMatch (27).
-/
import Derived.Test.Qxb6603195aCheck
import Derived.Test.Qxb6603195aChatMem
namespace Go.Proofs.Qxb6603195a.W6
open Go.ChangeShapes Go.WideShapes Go.ChangeAt Go.RowKit
open W5 (ret_int empty_iff Fr cells_ne lt_of_block size_of_empty)

theorem WireAt.form {w : World} {v : Value} {cs : List TC} (h : WireAt w v cs) : ∃ a c, v = .slice a cs.length c ∧ (0 < cs.length → ∃ g, a = some ⟨g, 0, none⟩ ∧ g < w.heap.size ∧ ∀ j u, (ccRow cs)[j]? = some u → w.cell? ⟨g, j, none⟩ = some u) := by
  rcases h with ⟨rfl, rfl⟩ | ⟨_, b, c, rfl, ⟨cur, fz, hb⟩, h⟩
  · exact ⟨none, 0, rfl, fun q => by simp at q⟩
  · exact ⟨_, c, rfl, fun _ => ⟨b, rfl, lt_of_block hb, h⟩⟩

theorem below_two {w wr : World} (h : Below w.heap.size w wr) (o1 o2 : Obj) : Below w.heap.size w ((wr.alloc o1).alloc o2) := (h.alloc h.size o1).alloc (Nat.le_trans h.size (by simp)) o2

def WirePost (w : World) (e : Ending) (w' : World) : Prop := e = .returned (.bool true) ∧ Below w.heap.size w w'

set_option maxHeartbeats 2000000 in
theorem wire_any (v : Value) (b off c i j : Nat) (ms : List M) (w : World) (h : MsgsIn w (.slice (some ⟨b, off, none⟩) ms.length c) ms) (hi : i < j) (hj : j ≤ ms.length) (hs : ms.length ≤ 1048576) (hc : ∀ m ∈ ms, m.b.calls.length ≤ 1048576) (hv : WireAt w v (segC (ms.map M.b) i j)) :
    Calls Try.prog 27 #[v, .slice (some ⟨b, off, none⟩) ms.length c, .int .i64 (i : Nat), .int .i64 (j : Nat)] w (WirePost w) := by
  have HM : Hid (MsgsIn w (.slice (some ⟨b, off, none⟩) ms.length c) ms) := h
  have HB : Hid (∀ o ∈ ms.map M.b, o.calls.length ≤ 1048576) := fun o ho => by obtain ⟨m, hm, rfl⟩ := List.mem_map.1 ho; exact hc m hm
  obtain ⟨a, wc, rfl, hw⟩ := hv.form
  have HW : Hid (0 < (segC (ms.map M.b) i j).length → ∃ g, a = some ⟨g, 0, none⟩ ∧ g < w.heap.size ∧ ∀ k u, (ccRow (segC (ms.map M.b) i j))[k]? = some u → w.cell? ⟨g, k, none⟩ = some u) := hw
  obtain ⟨n, hn⟩ : ∃ n, n = ms.length := ⟨_, rfl⟩
  rw [← hn] at hj hs
  rw [← hn]
  have HN : Hid (n = ms.length) := hn
  have hNb : (segC (ms.map M.b) i j).length ≤ 1099511627776 := by
    have q := seg_len_le (ms.map M.b) (i := i) (t := j) HB.out (j - i) (by omega) (by rw [List.length_map, ← hn]; exact hj)
    have : (j - i) * 1048576 ≤ 1048576 * 1048576 := Nat.mul_le_mul_right _ (by omega)
    omega
  obtain ⟨N, hN⟩ : ∃ N, N = (segC (ms.map M.b) i j).length := ⟨_, rfl⟩
  rw [← hN] at hNb
  rw [← hN]
  have HNN : Hid (N = (segC (ms.map M.b) i j).length) := hN
  clear h hn hc hv hw hN
  have HE : Hid (∀ t, (ht : t < ms.length) → (ms.map M.b)[t]'(by simpa using ht) = ms[t].b) := fun t ht => bs_get ms ht
  go_enter Try.func27, Try.ntmps27
  go_wp2_with fail
  go_loopw [9, 10] (fun o v wr => ∃ (t L : Nat), v = .int .i64 (t : Nat) ∧ i ≤ t ∧ t ≤ j ∧ o = .int .i64 (L : Nat) ∧ Hid (L = (segC (ms.map M.b) i t).length) ∧ Hid (Below w.heap.size w wr)) (fun _ v _ => j - (intOf v).toNat)
  case atStart => exact ⟨i, 0, rfl, by omega, by omega, rfl, by rw [segC_self]; exact rfl, Below.refl _ _⟩
  case round =>
    obtain ⟨t, L, rfl, hit, htj, rfl, HL, HBE⟩ := hrel
    by_cases ht : t < j
    · have htl : t < ms.length := by rw [← HN.out]; omega
      obtain ⟨x, hx⟩ : ∃ x, x = ms[t] := ⟨_, rfl⟩
      obtain ⟨ca, cc, hcv, hcl⟩ := HM.out.calls x (by rw [hx]; exact List.getElem_mem _)
      have HCL : Hid (x.b.calls.length = 0 ∨ ∃ b off, ca = some ⟨b, off, none⟩ ∧ ∀ j u, (rowOf x.b.calls)[j]? = some u → w.cell? ⟨b, off + j, none⟩ = some u) := hcl
      have c2 : w.cell? ⟨b, off + t * 5 + 2, none⟩ = some (.slice ca x.b.calls.length cc) := by
        rw [HM.out.cell htl (j := 2) (by omega), ← hx, ← hcv]; rfl
      have hblt := World.block_lt_of_cell? w _ c2
      have HX : Hid (x = ms[t]) := hx
      have hKL : L + x.b.calls.length ≤ N ∧ (segC (ms.map M.b) i (t + 1)).length = L + x.b.calls.length := by
        have q := segC_step (ms.map M.b) hit (by simpa using htl)
        have q2 := (segC_prefix (ms.map M.b) (i := i) (t := t + 1) (j := j) (by omega) (by omega) (by rw [List.length_map, ← HN.out]; exact hj)).length_le
        rw [HE.out t htl, ← hx] at q
        rw [HNN.out, HL.out]
        rw [q, List.length_append] at q2
        exact ⟨q2, by rw [q, List.length_append]⟩
      obtain ⟨K, hK⟩ : ∃ K, K = x.b.calls.length := ⟨_, rfl⟩
      rw [← hK] at hKL c2
      have HST : Hid ((segC (ms.map M.b) i (t + 1)).length = L + K) := hKL.2
      have hLK := hKL.1
      have HK : Hid (K = x.b.calls.length) := hK
      clear hx hcv hcl hKL hK
      go_wp2_with fail
      go_loopw [9, 11] (fun o v wr => ∃ (u : Nat), v = .int .i64 (u : Nat) ∧ u ≤ K ∧ o = .int .i64 ((L + u : Nat) : Int) ∧ Hid (Below w.heap.size w wr)) (fun _ v _ => K - (intOf v).toNat)
      case atStart => exact ⟨0, rfl, by omega, by simp, HBE⟩
      case round =>
        clear HBE
        obtain ⟨u, rfl, huK, rfl, HBE⟩ := hrel
        have d2 : wr.cell? ⟨b, off + t * 5 + 2, none⟩ = some (.slice ca K cc) := (World.cell?_of_block (HBE.out.block b hblt)).trans c2
        by_cases hu : u < K
        · obtain ⟨cb, coff, rfl, hcc⟩ : ∃ cb coff, ca = some ⟨cb, coff, none⟩ ∧ ∀ j u, (rowOf x.b.calls)[j]? = some u → w.cell? ⟨cb, coff + j, none⟩ = some u := by
            rcases HCL.out with q | q
            · have := HK.out; omega
            · exact q
          obtain ⟨gb, rfl, hgl, hgc⟩ := HW.out (by have := HNN.out; omega)
          have hul : u < x.b.calls.length := by rw [← HK.out]; exact hu
          obtain ⟨y, hy⟩ : ∃ y, y = x.b.calls[u] := ⟨_, rfl⟩
          have hsc : ∀ j v, (tcCells y)[j]? = some v → j < 3 → wr.cell? ⟨cb, coff + u * 3 + j, none⟩ = some v := by
            intro j v hv hj
            have e := rowOf_get x.b.calls u j hul hj
            rw [← hy, hv] at e
            have q := hcc _ _ e
            rw [Nat.add_assoc]
            exact (World.cell?_of_block (HBE.out.block cb (World.block_lt_of_cell? w _ q))).trans q
          have hgg : ∀ j v, (ccCells y)[j]? = some v → j < 4 → wr.cell? ⟨gb, (L + u) * 4 + j, none⟩ = some v := by
            intro j' v hv hj'
            have hx2 : (ms.map M.b)[t]'(by simpa using htl) = x.b := by rw [HE.out t htl, HX.out]
            have e0 := segC_get (ms.map M.b) (i := i) (t := t) (j := j) (u := u) hit ht (by rw [List.length_map, ← HN.out]; exact hj) (by rw [hx2]; exact hul)
            rw [← HL.out] at e0
            obtain ⟨hlt, e1⟩ := List.getElem?_eq_some_iff.1 e0
            have e2 : (segC (ms.map M.b) i j)[L + u] = y := by rw [e1, hy]; simp only [hx2]
            have e := ccRow_get (segC (ms.map M.b) i j) (L + u) j' hlt hj'
            rw [e2, hv] at e
            have q := hgc _ _ e
            exact (World.cell?_of_block (HBE.out.block gb hgl)).trans q
          have s0 : wr.cell? ⟨cb, coff + u * 3, none⟩ = some (.string y.id) := hsc 0 _ rfl (by omega)
          have s1 : wr.cell? ⟨cb, coff + u * 3 + 1, none⟩ = some (.string y.name) := hsc 1 _ rfl (by omega)
          have s2 : wr.cell? ⟨cb, coff + u * 3 + 2, none⟩ = some (.string y.args) := hsc 2 _ rfl (by omega)
          have g0 : wr.cell? ⟨gb, (L + u) * 4, none⟩ = some (.string y.id) := hgg 0 _ rfl (by omega)
          have g1 : wr.cell? ⟨gb, (L + u) * 4 + 1, none⟩ = some (.string ⟨#[102, 117, 110, 99, 116, 105, 111, 110]⟩) := hgg 1 _ rfl (by omega)
          have g2 : wr.cell? ⟨gb, (L + u) * 4 + 2, none⟩ = some (.string y.name) := hgg 2 _ rfl (by omega)
          have g3 : wr.cell? ⟨gb, (L + u) * 4 + 3, none⟩ = some (.string y.args) := hgg 3 _ rfl (by omega)
          clear hsc hgg hcc hgc hy
          obtain ⟨Q, hQ⟩ : ∃ Q, Q = L + u := ⟨_, rfl⟩
          rw [← hQ] at g0 g1 g2 g3
          rw [← hQ]
          have hQN : Q < N := by omega
          have HQ : Hid (Q = L + u) := hQ
          clear hQ
          have hQd : decide (N ≤ Q) = false := decide_eq_false (by omega)
          have hwl := World.block_lt_of_cell? wr _ g0
          go_upto_region 11 with fail
          have HK1 : Hid ((wr.alloc (.cells #[.string y.id, .string y.name, .string y.args] 73)).heap[wr.heap.size]? = some (.cells #[.string y.id, .string y.name, .string y.args] 73 (0, 0))) := heap_alloc_new wr _
          have HB1 : Hid (Below w.heap.size w (wr.alloc (.cells #[.string y.id, .string y.name, .string y.args] 73))) := HBE.out.alloc HBE.out.size _
          have hal : ∀ j, (wr.alloc (.cells #[.string y.id, .string y.name, .string y.args] 73)).cell? ⟨gb, j, none⟩ = wr.cell? ⟨gb, j, none⟩ := fun j => World.cell?_of_block (Below.heap_alloc wr _ gb hwl)
          rw [← hal] at g0 g1 g2 g3
          clear s0 s1 s2 d2 HBE hal hwl
          generalize (wr.alloc (.cells #[.string y.id, .string y.name, .string y.args] 73)) = W at *
          generalize wr.heap.size = b1 at *
          go_upto_region 12 with fail
          have hlt1 := lt_of_block HK1.out
          have HK2 : Hid ((W.alloc (.cells #[.string y.id, .string ⟨#[102, 117, 110, 99, 116, 105, 111, 110]⟩, .string y.name, .string y.args] 79)).heap[W.heap.size]? = some (.cells #[.string y.id, .string ⟨#[102, 117, 110, 99, 116, 105, 111, 110]⟩, .string y.name, .string y.args] 79 (0, 0))) := heap_alloc_new W _
          have HK3 : Hid ((W.alloc (.cells #[.string y.id, .string ⟨#[102, 117, 110, 99, 116, 105, 111, 110]⟩, .string y.name, .string y.args] 79)).heap[b1]? = some (.cells #[.string y.id, .string y.name, .string y.args] 73 (0, 0))) := (Below.heap_alloc W _ b1 hlt1).trans HK1.out
          have HB2 : Hid (Below w.heap.size w (W.alloc (.cells #[.string y.id, .string ⟨#[102, 117, 110, 99, 116, 105, 111, 110]⟩, .string y.name, .string y.args] 79))) := HB1.out.alloc HB1.out.size _
          clear g0 g1 g2 g3 HK1 HB1 hlt1
          generalize (W.alloc (.cells #[.string y.id, .string ⟨#[102, 117, 110, 99, 116, 105, 111, 110]⟩, .string y.name, .string y.args] 79)) = W2 at *
          generalize W.heap.size = b2 at *
          have p0 : W2.cell? ⟨b1, 0, none⟩ = some (.string y.id) := cell_of_row W2 b1 0 _ _ _ HK3.out
          have p1 : W2.cell? ⟨b1, 1, none⟩ = some (.string y.name) := cell_of_row W2 b1 1 _ _ _ HK3.out
          have p2 : W2.cell? ⟨b1, 2, none⟩ = some (.string y.args) := cell_of_row W2 b1 2 _ _ _ HK3.out
          have q0 : W2.cell? ⟨b2, 0, none⟩ = some (.string y.id) := cell_of_row W2 b2 0 _ _ _ HK2.out
          have q1 : W2.cell? ⟨b2, 1, none⟩ = some (.string ⟨#[102, 117, 110, 99, 116, 105, 111, 110]⟩) := cell_of_row W2 b2 1 _ _ _ HK2.out
          have q2 : W2.cell? ⟨b2, 2, none⟩ = some (.string y.name) := cell_of_row W2 b2 2 _ _ _ HK2.out
          have q3 : W2.cell? ⟨b2, 3, none⟩ = some (.string y.args) := cell_of_row W2 b2 3 _ _ _ HK2.out
          go_wp2_with fail
          go_roundw
          case rel => exact ⟨u + 1, by go_num, by omega, by rw [HQ.out]; go_num, HB2⟩
          case measure => simp [intOf]; omega
        · have : u = K := by omega
          subst this
          go_wp2_with fail
          go_roundw
          case rel => exact ⟨t + 1, L + u, by go_num, by omega, by omega, rfl, HST.out.symm, HBE⟩
          case measure => simp [intOf]; omega
    · have : t = j := by omega
      subst this
      have hL : L = N := by rw [HL.out, HNN.out]
      subst hL
      go_wp2_with fail
      go_ret
      exact ⟨by simp, HBE.out⟩
end Go.Proofs.Qxb6603195a.W6
