/-
  b1ToMessages (17): memory alone.
-/
import Derived.Test.Qxb6603195aAlt
import Derived.Test.Qxb6603195aMsgFit
import Derived.BigRegion
namespace Go.Proofs.Qxb6603195a.W6
open Go.ChangeShapes Go.WideShapes Go.ChangeAt Go.RowKit
open W5 (ret_int empty_iff Fr cells_ne lt_of_block size_of_empty)

/-- stores into a row, in order -/
theorem set_front {xs ys : List Value} {a b : Value} : (xs ++ a :: ys).set xs.length b = xs ++ b :: ys := by
  rw [List.set_append_right _ _ (Nat.le_refl _)]
  simp
theorem stored3 {w : World} {base g n cap p : Nat} {e : TypeId} {xs rest : List Value} {size : Nat} (h : w.ownsRow base e size (.slice (some ⟨g, 0, none⟩) n cap) n (xs ++ rest)) (hp : xs.length = p) (hr : 3 ≤ rest.length) (a b c : Value) :
    (((w.setCell ⟨g, p, none⟩ a).setCell ⟨g, p + 1, none⟩ b).setCell ⟨g, p + 2, none⟩ c).ownsRow base e size (.slice (some ⟨g, 0, none⟩) n cap) n (xs ++ [a, b, c] ++ rest.drop 3) := by
  match rest, hr with
  | r0 :: r1 :: r2 :: t, _ =>
    have h1 := (h.stored p a).1
    rw [← hp, set_front] at h1
    have h2 := (h1.stored (p + 1) b).1
    rw [show xs ++ a :: r1 :: r2 :: t = (xs ++ [a]) ++ r1 :: r2 :: t by simp, ← hp, show xs.length + 1 = (xs ++ [a]).length by simp, set_front] at h2
    have h3 := (h2.stored (p + 2) c).1
    rw [show xs ++ [a] ++ b :: r2 :: t = (xs ++ [a, b]) ++ r2 :: t by simp, ← hp, show xs.length + 2 = (xs ++ [a, b]).length by simp, set_front] at h3
    rw [← hp]
    simpa using h3
theorem stored5 {w : World} {base g n cap p : Nat} {e : TypeId} {xs rest : List Value} {size : Nat} (h : w.ownsRow base e size (.slice (some ⟨g, 0, none⟩) n cap) n (xs ++ rest)) (hp : xs.length = p) (hr : 5 ≤ rest.length) (a b c d f : Value) :
    (((((w.setCell ⟨g, p, none⟩ a).setCell ⟨g, p + 1, none⟩ b).setCell ⟨g, p + 2, none⟩ c).setCell ⟨g, p + 3, none⟩ d).setCell ⟨g, p + 4, none⟩ f).ownsRow base e size (.slice (some ⟨g, 0, none⟩) n cap) n (xs ++ [a, b, c, d, f] ++ rest.drop 5) := by
  have h3 := stored3 h hp (by omega) a b c
  match rest, hr with
  | r0 :: r1 :: r2 :: r3 :: r4 :: t, _ =>
    have h4 := (h3.stored (p + 3) d).1
    rw [show xs ++ [a, b, c] ++ List.drop 3 (r0 :: r1 :: r2 :: r3 :: r4 :: t) = (xs ++ [a, b, c]) ++ r3 :: r4 :: t by simp, ← hp, show xs.length + 3 = (xs ++ [a, b, c]).length by simp, set_front] at h4
    have h5 := (h4.stored (p + 4) f).1
    rw [show xs ++ [a, b, c] ++ d :: r4 :: t = (xs ++ [a, b, c, d]) ++ r4 :: t by simp, ← hp, show xs.length + 4 = (xs ++ [a, b, c, d]).length by simp, set_front] at h5
    rw [← hp]
    simpa using h5

structure TInv (w : World) (ms : List M) (h k : Nat) (wr : World) (os : List M) (rest : List Value) : Prop where
  own : wr.ownsRow w.heap.size 41 5 (.slice (some ⟨h, 0, none⟩) ms.length ms.length) ms.length (mRow os ++ rest)
  len : os.length = k
  le : k ≤ ms.length
  bs : os.map M.b = (ms.take k).map M.b
  calls : ∀ o ∈ os, CallsAt wr o.cv o.b.calls
  bel : Below w.heap.size w wr
theorem TInv.rlen {w : World} {ms : List M} {h k : Nat} {wr : World} {os : List M} {rest : List Value} (H : TInv w ms h k wr os rest) : rest.length = (ms.length - k) * 5 := by
  have h1 := H.own.1
  have h2 := H.len
  have h3 := H.le
  rw [List.length_append, mRow_len, h2] at h1
  rw [Nat.sub_mul]
  omega
theorem TInv.keep {w : World} {ms : List M} {h k : Nat} {wr wr' : World} {os : List M} {rest : List Value} (H : TInv w ms h k wr os rest) (hb : Below wr.heap.size wr wr') : TInv w ms h k wr' os rest :=
  ⟨grown_fr (Below.fr hb) H.own (fun _ _ q => q), H.len, H.le, H.bs, fun o ho => (H.calls o ho).below hb, H.bel.trans ⟨hb.os, hb.tape, hb.output, hb.size, fun k hk => hb.block k (Nat.lt_of_lt_of_le hk H.bel.size)⟩⟩
theorem TInv.cell {w : World} {ms : List M} {h k : Nat} {wr : World} {os : List M} {rest : List Value} (H : TInv w ms h k wr os rest) (hk : k < ms.length) {j : Nat} (hj : j < 5) : ∃ v, wr.cell? ⟨h, k * 5 + j, none⟩ = some v := by
  have hl := H.own.1
  rw [H.own.cellAt (k * 5 + j) (by omega)]
  exact ⟨_, List.getElem?_eq_getElem (by omega)⟩
theorem TInv.put {w : World} {ms : List M} {h k : Nat} {wr : World} {os : List M} {rest : List Value} (H : TInv w ms h k wr os rest) (hk : k < ms.length) (m : M) (hm : m.b = ms[k].b) (hc : CallsAt wr m.cv m.b.calls) :
    ∃ rest', TInv w ms h (k + 1) (((((wr.setCell ⟨h, k * 5, none⟩ (.string m.b.role)).setCell ⟨h, k * 5 + 1, none⟩ (.string m.b.content)).setCell ⟨h, k * 5 + 2, none⟩ m.cv).setCell ⟨h, k * 5 + 3, none⟩ (.string m.b.tcid)).setCell ⟨h, k * 5 + 4, none⟩ (.bool m.fl)) (os ++ [m]) rest' := by
  have hr := H.rlen
  have hh := H.own.lt h rfl
  obtain ⟨cur, hhb⟩ : ∃ cur, wr.heap[h]? = some (.cells cur 41 (0, 0)) := by
    rcases H.own.2 with ⟨e, _⟩ | ⟨g0, cap0, cur, e, _, hgg, _⟩
    · cases e
    · have : h = g0 := by injection e with e; injection e with e; injection e
      subst this
      exact ⟨cur, hgg⟩
  have h5 := stored5 H.own (p := k * 5) (by rw [mRow_len, H.len]) (by omega) (.string m.b.role) (.string m.b.content) m.cv (.string m.b.tcid) (.bool m.fl)
  have hf : Fr (fun q => q = h) wr (((((wr.setCell ⟨h, k * 5, none⟩ (.string m.b.role)).setCell ⟨h, k * 5 + 1, none⟩ (.string m.b.content)).setCell ⟨h, k * 5 + 2, none⟩ m.cv).setCell ⟨h, k * 5 + 3, none⟩ (.string m.b.tcid)).setCell ⟨h, k * 5 + 4, none⟩ (.bool m.fl)) :=
    ((((Fr.setCell wr ⟨h, k * 5, none⟩ _).trans (Fr.setCell _ ⟨h, k * 5 + 1, none⟩ _) (fun _ _ q => q)).trans (Fr.setCell _ ⟨h, k * 5 + 2, none⟩ _) (fun _ _ q => q)).trans (Fr.setCell _ ⟨h, k * 5 + 3, none⟩ _) (fun _ _ q => q)).trans (Fr.setCell _ ⟨h, k * 5 + 4, none⟩ _) (fun _ _ q => q)
  have hX : ∀ (q : Nat) cur fz, wr.heap[q]? = some (.cells cur 74 fz) → ¬ (q = h) := fun q cur' fz' hq e => cells_ne hq hhb (by decide) e
  refine ⟨rest.drop 5, ?_, by simp [H.len], by omega, ?_, ?_, H.bel.trans (hf.below (fun q hq => by rw [hq]; exact hh.1) H.bel.size)⟩
  · rw [mRow_append, mRow_one]
    exact h5
  · rw [take_step hk, List.map_append, List.map_append, H.bs]
    simp [hm]
  · intro o ho
    rcases List.mem_append.1 ho with q | q
    · exact (H.calls o q).keep hf hX
    · have : o = m := by simpa using q
      rw [this]; exact hc.keep hf hX
theorem TInv.done {w : World} {ms : List M} {h : Nat} {wr : World} {os : List M} {rest : List Value} (H : TInv w ms h ms.length wr os rest) (hs : ms.length ≤ 1048576) (hf : ∀ m ∈ ms, m.small) : os.map M.b = ms.map M.b ∧ MsgsAt wr (.slice (some ⟨h, 0, none⟩) ms.length ms.length) os := by
  have hr := H.rlen
  have e : rest = [] := List.eq_nil_of_length_eq_zero (by omega)
  subst e
  have hb := H.bs
  rw [List.take_length] at hb
  have ho := H.own
  rw [List.append_nil] at ho
  refine ⟨hb, ⟨⟨some ⟨h, 0, none⟩, ms.length, by rw [H.len], ?_⟩, H.calls, by rw [H.len]; exact hs, fun o ho => ?_⟩⟩
  · right
    refine ⟨h, 0, rfl, fun j u hu => ?_⟩
    have := ho.cells (g := h) rfl j u hu
    rwa [add_at] at this
  · have : o.b ∈ ms.map M.b := by rw [← hb]; exact List.mem_map.2 ⟨o, ho, rfl⟩
    obtain ⟨m, hm, e⟩ := List.mem_map.1 this
    rw [← e]
    exact hf m hm

/-- the calls of one message -/
structure CInv (W0 : World) (cs : List TC) (q u : Nat) (wr : World) (rest : List Value) : Prop where
  own : wr.ownsRow W0.heap.size 74 3 (.slice (some ⟨q, 0, none⟩) cs.length cs.length) cs.length (rowOf (cs.take u) ++ rest)
  le : u ≤ cs.length
  bel : Below W0.heap.size W0 wr
theorem CInv.rlen {W0 : World} {cs : List TC} {q u : Nat} {wr : World} {rest : List Value} (H : CInv W0 cs q u wr rest) : rest.length = (cs.length - u) * 3 := by
  have h1 := H.own.1
  have h3 := H.le
  rw [List.length_append, rowOf_len, List.length_take, Nat.min_eq_left h3] at h1
  rw [Nat.sub_mul]
  omega
theorem CInv.cell {W0 : World} {cs : List TC} {q u : Nat} {wr : World} {rest : List Value} (H : CInv W0 cs q u wr rest) (hu : u < cs.length) {j : Nat} (hj : j < 3) : ∃ v, wr.cell? ⟨q, u * 3 + j, none⟩ = some v := by
  have hl := H.own.1
  rw [H.own.cellAt (u * 3 + j) (by omega)]
  exact ⟨_, List.getElem?_eq_getElem (by omega)⟩
theorem CInv.put {W0 : World} {cs : List TC} {q u : Nat} {wr : World} {rest : List Value} (H : CInv W0 cs q u wr rest) (hu : u < cs.length) :
    ∃ rest', CInv W0 cs q (u + 1) (((wr.setCell ⟨q, u * 3, none⟩ (.string cs[u].id)).setCell ⟨q, u * 3 + 1, none⟩ (.string cs[u].name)).setCell ⟨q, u * 3 + 2, none⟩ (.string cs[u].args)) rest' := by
  have hr := H.rlen
  have hq := H.own.lt q rfl
  have h3 := stored3 H.own (p := u * 3) (by rw [rowOf_len, List.length_take, Nat.min_eq_left H.le]) (by omega) (.string cs[u].id) (.string cs[u].name) (.string cs[u].args)
  have hf : Fr (fun k => k = q) wr (((wr.setCell ⟨q, u * 3, none⟩ (.string cs[u].id)).setCell ⟨q, u * 3 + 1, none⟩ (.string cs[u].name)).setCell ⟨q, u * 3 + 2, none⟩ (.string cs[u].args)) :=
    ((Fr.setCell wr ⟨q, u * 3, none⟩ _).trans (Fr.setCell _ ⟨q, u * 3 + 1, none⟩ _) (fun _ _ q => q)).trans (Fr.setCell _ ⟨q, u * 3 + 2, none⟩ _) (fun _ _ q => q)
  refine ⟨rest.drop 3, ?_, by omega, H.bel.trans (hf.below (fun k hk => by rw [hk]; exact hq.1) H.bel.size)⟩
  rw [take_step hu, rowOf_append]
  have e : rowOf [cs[u]] = [.string cs[u].id, .string cs[u].name, .string cs[u].args] := rfl
  rw [e]
  exact h3
theorem CInv.done {W0 : World} {cs : List TC} {q : Nat} {wr : World} {rest : List Value} (H : CInv W0 cs q cs.length wr rest) : CallsAt wr (.slice (some ⟨q, 0, none⟩) cs.length cs.length) cs := by
  have hr := H.rlen
  have e : rest = [] := List.eq_nil_of_length_eq_zero (by omega)
  subst e
  have ho := H.own
  rw [List.append_nil, List.take_length] at ho
  exact CallsAt.of_own ho
theorem CInv.start {W0 W1 : World} {cs : List TC} {xs : List Value} (h : W1.ownsRow W0.heap.size 74 3 (.slice (some ⟨W0.heap.size, 0, none⟩) cs.length cs.length) cs.length xs) (hg : W0.grownBy W1 none) : CInv W0 cs W0.heap.size 0 W1 xs :=
  ⟨h, by omega, (Fr.of_grown hg).below (by simp) (Nat.le_refl _)⟩
theorem CInv.drew {W0 : World} {cs : List TC} {q u : Nat} {wr : World} {rest : List Value} (H : CInv W0 cs q u wr rest) : CInv W0 cs q u wr.drew rest := ⟨H.own, H.le, ⟨H.bel.os, H.bel.tape, H.bel.output, H.bel.size, H.bel.block⟩⟩
theorem TInv.drew {w : World} {ms : List M} {h k : Nat} {wr : World} {os : List M} {rest : List Value} (H : TInv w ms h k wr os rest) : TInv w ms h k wr.drew os rest := ⟨H.own, H.len, H.le, H.bs, H.calls, ⟨H.bel.os, H.bel.tape, H.bel.output, H.bel.size, H.bel.block⟩⟩
end Go.Proofs.Qxb6603195a.W6
