/-
  alternating (33).
-/
import Derived.Test.Qxb6603195aConcat
import Derived.BigQuiet
import Derived.Deep.QuietTactic
import Derived.Deep.RegionHeld3
namespace Go.Proofs.Qxb6603195a.W6
open Go.ChangeShapes Go.WideShapes Go.ChangeAt Go.RowKit
open W5 (ret_int empty_iff Fr cells_ne lt_of_block size_of_empty)

theorem info41 : (Try.prog.info? 41).map (fun i => (i.zero, i.size, i.bytes)) = some (some (.agg #[.string ⟨#[]⟩, .string ⟨#[]⟩, .slice none 0 0, .string ⟨#[]⟩, .bool false]), 5, 80) := by kernel_rfl

/-- messages of the program's own -/
structure MsgsAt (w : World) (v : Value) (ms : List M) : Prop where
  row : LiesAt w v ms.length (mRow ms)
  calls : ∀ m ∈ ms, CallsAt w m.cv m.b.calls
  small : ms.length ≤ 1048576
  fits : ∀ m ∈ ms, m.b.content.size ≤ 1048576 ∧ m.b.calls.length ≤ 1048576

/-- what has come so far -/
structure AInv (w : World) (ms : List M) (i : Nat) (wr : World) (g cap : Nat) (os : List M) : Prop where
  own : wr.ownsRow w.heap.size 41 5 (.slice (some ⟨g, 0, none⟩) os.length cap) os.length (mRow os)
  calls : ∀ o ∈ os, CallsAt wr o.cv o.b.calls
  plain : os.map M.b = ((ms.take i).map M.b).foldl altStep []
  fits : ∀ o ∈ os, o.b.fits i
  bel : Below w.heap.size w wr

theorem grown_fr {X : Nat → Prop} {w w' : World} (h : Fr X w w') {base size n : Nat} {e : TypeId} {v : Value} {xs : List Value} (ho : w.ownsRow base e size v n xs) (hX : ∀ g, v.ownBlock = some g → ¬ X g) : w'.ownsRow base e size v n xs := by
  refine ⟨ho.1, ?_⟩
  rcases ho.2 with hn | ⟨g, cap, cur, rfl, hb, hgg, rest⟩
  · exact .inl hn
  · exact .inr ⟨g, cap, cur, rfl, hb, (h.block g (lt_of_block hgg) (hX g rfl)).trans hgg, rest⟩

/-- new blocks come; the old ones stand -/
theorem AInv.keep {w : World} {ms : List M} {k : Nat} {wr wr' : World} {g cap : Nat} {os : List M} (h : AInv w ms k wr g cap os) (hb : Below wr.heap.size wr wr') : AInv w ms k wr' g cap os :=
  ⟨grown_fr (Below.fr hb) h.own (fun _ _ q => q), fun o ho => (h.calls o ho).below hb, h.plain, h.fits, h.bel.trans ⟨hb.os, hb.tape, hb.output, hb.size, fun k hk => hb.block k (Nat.lt_of_lt_of_le hk h.bel.size)⟩⟩

theorem below_drewN (w : World) (B n : Nat) : Below B w (w.drewN n) := ⟨rfl, rfl, rfl, Nat.le_refl _, fun _ _ => rfl⟩
def mArr (m : M) : Array Value := #[.string m.b.role, .string m.b.content, m.cv, .string m.b.tcid, .bool m.fl]
/-- a round, once the message is laid down -/
structure ASt (w : World) (ms : List M) (k : Nat) (W : World) (g cap : Nat) (os : List M) (mb : Nat) (m : M) : Prop where
  inv : AInv w ms k W g cap os
  blk : W.heap[mb]? = some (.cells (mArr m) 41 (0, 0))
  ne : mb ≠ g
  calls : CallsAt W m.cv m.b.calls
theorem ASt.first {w : World} {ms : List M} {k : Nat} {wr : World} {g cap : Nat} {os : List M} (h : AInv w ms k wr g cap os) (m : M) (hc : CallsAt wr m.cv m.b.calls) : ASt w ms k (wr.alloc (.cells (mArr m) 41)) g cap os wr.heap.size m := by
  have hb : Below wr.heap.size wr (wr.alloc (.cells (mArr m) 41)) := (Below.refl _ _).alloc (Nat.le_refl _) _
  refine ⟨h.keep hb, heap_alloc_new wr _, ?_, hc.below hb⟩
  have := (h.own.lt g rfl).2
  omega
theorem ASt.keep {w : World} {ms : List M} {k : Nat} {wr wr' : World} {g cap : Nat} {os : List M} {mb : Nat} {m : M} (h : ASt w ms k wr g cap os mb m) (hb : Below wr.heap.size wr wr') : ASt w ms k wr' g cap os mb m :=
  ⟨h.inv.keep hb, (hb.block mb (lt_of_block h.blk)).trans h.blk, h.ne, h.calls.below hb⟩
theorem ASt.cell {w : World} {ms : List M} {k : Nat} {W : World} {g cap : Nat} {os : List M} {mb : Nat} {m : M} (h : ASt w ms k W g cap os mb m) (j : Nat) : W.cell? ⟨mb, j, none⟩ = (mArr m)[j]? := cell_of_row W mb j _ _ _ h.blk

theorem take_step {α : Type} {l : List α} {k : Nat} (h : k < l.length) : l.take (k + 1) = l.take k ++ [l[k]] := List.take_succ_eq_append_getElem h

/-- the message was put behind the others -/
theorem ASt.appended {w : World} {ms : List M} {k : Nat} {W W' : World} {g cap g' cap' : Nat} {os : List M} {mb : Nat} {m : M} (h : ASt w ms k W g cap os mb m) (hk : k < ms.length) (hm : m = ms[k]) (hfit : m.b.content.size ≤ 1048576 ∧ m.b.calls.length ≤ 1048576)
    (hj : os = [] ∨ ∃ A x, os = A ++ [x] ∧ ¬ joins x.b m.b) (ho : W'.ownsRow w.heap.size 41 5 (.slice (some ⟨g', 0, none⟩) (os.length + 1) cap') (os.length + 1) (mRow os ++ mCells m)) (hg : W.grownBy W' (some g)) : AInv w ms (k + 1) W' g' cap' (os ++ [m]) := by
  obtain ⟨cur, fz, hgb⟩ : ∃ cur fz, W.heap[g]? = some (.cells cur 41 fz) := by
    rcases h.inv.own.2 with ⟨e, _⟩ | ⟨g0, cap0, cur, e, _, hgg, _⟩
    · cases e
    · have : g = g0 := by injection e with e; injection e with e; injection e
      subst this
      exact ⟨cur, _, hgg⟩
  have hfr := Fr.of_grown hg
  have hX : ∀ (q : Nat) cur fz, W.heap[q]? = some (.cells cur 74 fz) → ¬ (some g = some q) := by
    intro q cur' fz' hq e
    injection e with e
    exact cells_ne hgb hq (by decide) e
  refine ⟨?_, ?_, ?_, ?_, ?_⟩
  · rw [mRow_append, mRow_one]
    simpa using ho
  · intro o ho
    rcases List.mem_append.1 ho with q | q
    · exact (h.inv.calls o q).keep hfr hX
    · have : o = m := by simpa using q
      rw [this]; exact h.calls.keep hfr hX
  · rw [take_step hk, List.map_append, List.map_append, List.foldl_append, ← h.inv.plain, ← hm]
    rcases hj with rfl | ⟨A, x, rfl, hj⟩
    · rfl
    · simp only [List.map_cons, List.map_nil, List.map_append, List.foldl_cons, List.foldl_nil]
      rw [altStep_apart _ _ _ hj]
  · intro o ho
    rcases List.mem_append.1 ho with q | q
    · exact (h.inv.fits o q).mono (by omega)
    · have : o = m := by simpa using q
      rw [this]
      exact ⟨by omega, by omega⟩
  · have := h.inv.own.lt g rfl
    exact h.inv.bel.trans (hfr.below (fun q hq => by injection hq with hq; omega) h.inv.bel.size)

/-- memory alone, in the midst of a joining -/
structure MS (w : World) (W : World) (g cap : Nat) (A : List M) (x : M) (mb : Nat) (m : M) : Prop where
  own : W.ownsRow w.heap.size 41 5 (.slice (some ⟨g, 0, none⟩) (A.length + 1) cap) (A.length + 1) (mRow (A ++ [x]))
  calls : ∀ o ∈ A, CallsAt W o.cv o.b.calls
  callsX : CallsAt W x.cv x.b.calls
  blk : W.heap[mb]? = some (.cells (mArr m) 41 (0, 0))
  ne : mb ≠ g
  callsM : CallsAt W m.cv m.b.calls
  bel : Below w.heap.size w W
theorem ASt.ms {w : World} {ms : List M} {k : Nat} {W : World} {g cap : Nat} {A : List M} {x : M} {mb : Nat} {m : M} (h : ASt w ms k W g cap (A ++ [x]) mb m) : MS w W g cap A x mb m :=
  ⟨by simpa using h.inv.own, fun o ho => h.inv.calls o (by simp [ho]), h.inv.calls x (by simp), h.blk, h.ne, h.calls, h.inv.bel⟩
theorem MS.keep {w W W' : World} {g cap : Nat} {A : List M} {x : M} {mb : Nat} {m : M} (h : MS w W g cap A x mb m) (hb : Below W.heap.size W W') : MS w W' g cap A x mb m :=
  ⟨grown_fr (Below.fr hb) h.own (fun _ _ q => q), fun o ho => (h.calls o ho).below hb, h.callsX.below hb, (hb.block mb (lt_of_block h.blk)).trans h.blk, h.ne, h.callsM.below hb,
    h.bel.trans ⟨hb.os, hb.tape, hb.output, hb.size, fun k hk => hb.block k (Nat.lt_of_lt_of_le hk h.bel.size)⟩⟩
theorem MS.gblk {w W : World} {g cap : Nat} {A : List M} {x : M} {mb : Nat} {m : M} (h : MS w W g cap A x mb m) : ∃ cur, W.heap[g]? = some (.cells cur 41 (0, 0)) := by
  rcases h.own.2 with ⟨e, _⟩ | ⟨g0, cap0, cur, e, _, hgg, _⟩
  · cases e
  · have : g = g0 := by injection e with e; injection e with e; injection e
    subst this
    exact ⟨cur, hgg⟩
theorem MS.lastCell {w W : World} {g cap : Nat} {A : List M} {x : M} {mb : Nat} {m : M} (h : MS w W g cap A x mb m) {l j : Nat} (hl : l = A.length) (hj : j < 5) : W.cell? ⟨g, l * 5 + j, none⟩ = (mCells x)[j]? := by
  subst hl
  rw [h.own.cellAt (A.length * 5 + j) (by omega)]
  have := mRow_get (A ++ [x]) A.length j (by simp) hj
  rw [this]
  simp
theorem MS.frozen {w W : World} {g cap : Nat} {A : List M} {x : M} {mb : Nat} {m : M} (h : MS w W g cap A x mb m) (j : Nat) : W.frozen? ⟨g, j, none⟩ = false := h.own.frozenAt j
theorem MS.cell {w W : World} {g cap : Nat} {A : List M} {x : M} {mb : Nat} {m : M} (h : MS w W g cap A x mb m) (j : Nat) : W.cell? ⟨mb, j, none⟩ = (mArr m)[j]? := cell_of_row W mb j _ _ _ h.blk
theorem MS.stored {w W : World} {g cap : Nat} {A : List M} {x : M} {mb : Nat} {m : M} (h : MS w W g cap A x mb m) {l j : Nat} (hl : l = A.length) (hj : j < 5) (u : Value) (y : M) (hy : mCells y = (mCells x).set j u) (hc : CallsAt W y.cv y.b.calls) :
    MS w (W.setCell ⟨g, l * 5 + j, none⟩ u) g cap A y mb m := by
  subst hl
  obtain ⟨cur, hg⟩ := h.gblk
  have hfr := Fr.setCell W ⟨g, A.length * 5 + j, none⟩ u
  have hX : ∀ (q : Nat) cur fz, W.heap[q]? = some (.cells cur 74 fz) → ¬ (q = g) := by
    intro q cur' fz' hq e
    exact cells_ne hq hg (by decide) e
  refine ⟨?_, fun o ho => (h.calls o ho).keep hfr hX, hc.keep hfr hX, ?_, h.ne, h.callsM.keep hfr hX, ?_⟩
  · have h1 := h.own.stored (A.length * 5 + j) u
    have h2 : (mRow (A ++ [x])).set (A.length * 5 + j) u = mRow (A ++ [y]) := by
      have := flat_set mLen j u hj y (A ++ [x]) A.length (by simp) (by simpa using hy)
      unfold mRow
      rw [this]
      simp
    rw [h2] at h1
    exact h1.1
  · rw [hfr.block mb (lt_of_block h.blk) h.ne]
    exact h.blk
  · have := h.own.lt g rfl
    exact h.bel.trans (hfr.below (fun q hq => by rw [hq]; exact this.1) h.bel.size)
def joined (x m : M) (cv : Value) : M := ⟨merge x.b m.b, cv, x.fl⟩
theorem MS.done {w W W' : World} {ms : List M} {k g cap : Nat} {A : List M} {x : M} {mb : Nat} {m : M} {cv : Value} (h0 : ASt w ms k W' g cap (A ++ [x]) mb m) (h : MS w W g cap A (joined x m cv) mb m) (hk : k < ms.length) (hm : m = ms[k]) (hfit : m.b.content.size ≤ 1048576 ∧ m.b.calls.length ≤ 1048576) (hj : joins x.b m.b) : AInv w ms (k + 1) W g cap (A ++ [joined x m cv]) := by
  refine ⟨by simpa using h.own, ?_, ?_, ?_, h.bel⟩
  · intro o ho
    rcases List.mem_append.1 ho with q | q
    · exact h.calls o q
    · have : o = joined x m cv := by simpa using q
      rw [this]; exact h.callsX
  · rw [take_step hk, List.map_append, List.map_append, List.foldl_append, ← h0.inv.plain, ← hm]
    simp only [List.map_cons, List.map_nil, List.map_append, List.foldl_cons, List.foldl_nil]
    rw [altStep_join _ _ _ hj]
    rfl
  · intro o ho
    rcases List.mem_append.1 ho with q | q
    · exact (h0.inv.fits o (by simp [q])).mono (by omega)
    · have : o = joined x m cv := by simpa using q
      rw [this]
      exact merge_fits (h0.inv.fits x (by simp)) ⟨by omega, by omega⟩ hfit.1
theorem new_cell (w : World) (cs : Array Value) (t : TypeId) (j : Nat) : (w.alloc (.cells cs t)).cell? ⟨w.heap.size, j, none⟩ = cs[j]? := cell_of_row _ _ j cs t _ (heap_alloc_new w _)
theorem new_frozen (w : World) (cs : Array Value) (t : TypeId) (j : Nat) : (w.alloc (.cells cs t)).frozen? ⟨w.heap.size, j, none⟩ = false := Lib.frozen_of_heap (heap_alloc_new w _) j
theorem fr_new_below {w w' : World} {o : Obj} (h : Fr (fun k => k = w.heap.size) (w.alloc o) w') : Below w.heap.size w w' :=
  ((Below.refl _ _).alloc (Nat.le_refl _) o).trans (h.below (fun k hk => by omega) (by simp))
theorem new_cell_d (w : World) (cs : Array Value) (t : TypeId) (j : Nat) : (w.alloc (.cells cs t)).drew.cell? ⟨w.heap.size, j, none⟩ = cs[j]? := cell_of_row (w.alloc (.cells cs t)).drew _ j cs t _ (heap_alloc_new w _)
theorem new_frozen_d (w : World) (cs : Array Value) (t : TypeId) (j : Nat) : (w.alloc (.cells cs t)).drew.frozen? ⟨w.heap.size, j, none⟩ = false := Lib.frozen_of_heap (w := (w.alloc (.cells cs t)).drew) (heap_alloc_new w _) j
theorem fr_new_below_d {w w' : World} {o : Obj} (h : Fr (fun k => k = w.heap.size) (w.alloc o).drew w') : Below w.heap.size w w' :=
  fr_new_below (o := o) ⟨h.os, h.tape, h.output, h.size, h.block⟩
theorem below_new_d (w : World) (o : Obj) : Below w.heap.size w (w.alloc o).drew := by
  have h : Below w.heap.size w (w.alloc o) := (Below.refl _ _).alloc (Nat.le_refl _) o
  exact ⟨h.os, h.tape, h.output, h.size, h.block⟩
theorem lt_new_d {w w' : World} {o : Obj} (h : w'.heap.size = (w.alloc o).drew.heap.size) : w.heap.size < w'.heap.size := by
  rw [h]
  show w.heap.size < (w.heap.push o).size
  simp
theorem join_two (bk : Nat) (a b : ByteArray) (w : World) (hc : ∀ (j : Nat) x, (keepTwo a b)[j]? = some x → w.cell? ⟨bk, j, none⟩ = some (.string x)) (hbk : bk < w.heap.size) (hlen : (joinTwo a b).size ≤ 140737488355328) :
    Calls Try.prog 39 #[.slice (some ⟨bk, 0, none⟩) (keepTwo a b).length 2, .string ⟨#[10, 10]⟩] w fun e w' => e = .returned (.string (joinTwo a b)) ∧ Below w.heap.size w w' := by
  have hl : (keepTwo a b).length ≤ 2 := by unfold keepTwo; split <;> split <;> simp
  refine (strings_Join bk 0 2 (keepTwo a b) ⟨#[10, 10]⟩ w (fun j x hx => by rw [Nat.zero_add]; exact hc j x hx) hbk (by omega) hl ?_).mono ?_
  · have e : (joinTwo a b).size = (Lib.join ((keepTwo a b).map (·.data.toList)) [10, 10]).length := by simp [joinTwo, ByteArray.size]
    rw [e] at hlen
    exact hlen
  · rintro e w' ⟨rfl, h⟩
    exact ⟨rfl, h⟩
def part1 (x m : M) : M := ⟨{ x.b with content := joinTwo x.b.content m.b.content }, x.cv, x.fl⟩
theorem MS.put1 {w W : World} {g cap : Nat} {A : List M} {x : M} {mb : Nat} {m : M} (h : MS w W g cap A x mb m) {l : Nat} (hl : l = A.length) : MS w (W.setCell ⟨g, l * 5 + 1, none⟩ (.string (joinTwo x.b.content m.b.content))) g cap A (part1 x m) mb m :=
  h.stored hl (by omega) _ (part1 x m) rfl h.callsX
theorem MS.put2 {w W : World} {g cap : Nat} {A : List M} {x : M} {mb : Nat} {m : M} {cv : Value} (h : MS w W g cap A (part1 x m) mb m) {l : Nat} (hl : l = A.length) (hc : CallsAt W cv (x.b.calls ++ m.b.calls)) : MS w (W.setCell ⟨g, l * 5 + 2, none⟩ cv) g cap A (joined x m cv) mb m :=
  h.stored hl (by omega) _ (joined x m cv) rfl hc

theorem nil_or_snoc {α : Type} (l : List α) : l = [] ∨ ∃ A x, l = A ++ [x] := by
  rcases List.eq_nil_or_concat l with h | ⟨A, x, h⟩
  · exact .inl h
  · exact .inr ⟨A, x, by rw [h]; simp⟩
theorem altStep_len (out : List B) (m : B) : (altStep out m).length ≤ out.length + 1 := by
  rcases nil_or_snoc out with rfl | ⟨A, x, rfl⟩
  · simp [altStep_nil]
  · by_cases h : joins x m
    · rw [altStep_join A x m h]; simp
    · rw [altStep_apart A x m h]; simp
theorem foldl_len : ∀ (t out : List B), (t.foldl altStep out).length ≤ out.length + t.length
  | [], out => by simp
  | m :: t, out => by
    rw [List.foldl_cons]
    have h1 := foldl_len t (altStep out m)
    have h2 := altStep_len out m
    simp only [List.length_cons]
    omega
theorem AInv.len {w : World} {ms : List M} {k : Nat} {wr : World} {g cap : Nat} {os : List M} (h : AInv w ms k wr g cap os) : os.length ≤ k := by
  have e := congrArg List.length h.plain
  have := foldl_len ((ms.take k).map M.b) []
  simp only [List.length_map, List.length_take, List.length_nil] at e this
  omega
theorem AInv.cellAt {w : World} {ms : List M} {k : Nat} {wr : World} {g cap : Nat} {os : List M} (h : AInv w ms k wr g cap os) {l j : Nat} (hl : l < os.length) (hj : j < 5) : wr.cell? ⟨g, l * 5 + j, none⟩ = (mCells os[l])[j]? := by
  rw [h.own.cellAt (l * 5 + j) (by omega)]
  exact mRow_get os l j hl hj
theorem AInv.last {w : World} {ms : List M} {k : Nat} {wr : World} {g cap : Nat} {A : List M} {x : M} (h : AInv w ms k wr g cap (A ++ [x])) {l j : Nat} (hl : l = A.length) (hj : j < 5) : wr.cell? ⟨g, l * 5 + j, none⟩ = (mCells x)[j]? := by
  subst hl
  have := h.cellAt (l := A.length) (j := j) (by simp) hj
  rw [this]
  simp

theorem grown_alloc {w w' : World} {o : Obj} {row : Option Nat} (h : (w.alloc o).grownBy w' row) : w.grownBy w' row :=
  ⟨h.os, h.tape, h.output, Nat.le_trans (by simp) h.size, fun k hk hr => (h.block k (by simp; omega) hr).trans (Below.heap_alloc w o k hk)⟩

def AltPost (ms : List M) (w : World) (e : Ending) (w' : World) : Prop := ∃ g cap os, e = .returned (.slice (some ⟨g, 0, none⟩) os.length cap) ∧ AInv w ms ms.length w' g cap os

set_option maxHeartbeats 2000000 in
theorem alt_some (b off c : Nat) (ms : List M) (w : World) (h : MsgsAt w (.slice (some ⟨b, off, none⟩) ms.length c) ms) (hn : 0 < ms.length) :
    Calls Try.prog 33 #[.slice (some ⟨b, off, none⟩) ms.length c] w (AltPost ms w) := by
  have HM : Hid (MsgsAt w (.slice (some ⟨b, off, none⟩) ms.length c) ms) := h
  have hsm := h.small
  clear h
  obtain ⟨i0, hi, hz0, hz1, hz2⟩ := info_parts info41
  obtain ⟨n, hnm⟩ : ∃ n, n = ms.length := ⟨_, rfl⟩
  rw [← hnm] at hsm hn ⊢
  have HN : Hid (n = ms.length) := hnm
  clear hnm
  go_enter Try.func33, Try.ntmps33
  go_wp2_with (at_make; (refine wpList_make_own _ rfl _ _ 34 rfl w.heap.size 41 i0 _ 5 Try.underlying34 hi hz0 hz1 _ _ _ n rfl rfl rfl (by rw [hz2]; omega) (by unfold maxLen; omega) (Nat.le_refl _) ?_); intro w1 hown hg; have HA : Hid (AInv w ms 0 w1 w.heap.size n []) := ⟨hown, by simp, by simp, by simp, ((Fr.of_grown hg).below (by simp) (Nat.le_refl _))⟩; clear hown hg)
  go_loopw [3, 14] (fun v i wr => ∃ k g cap os, k ≤ n ∧ v = .slice (some ⟨g, 0, none⟩) (os : List M).length cap ∧ i = .int .i64 (k : Nat) ∧ Hid (AInv w ms k wr g cap os)) (fun _ i _ => n - (intOf i).toNat)
  case atStart => exact ⟨0, w.heap.size, n, [], by omega, rfl, rfl, HA⟩
  case round =>
    clear HA
    obtain ⟨k, g, cap, os, hk, rfl, rfl, HA⟩ := hrel
    by_cases hkn : k < n
    · obtain ⟨m, hm⟩ : ∃ m, m = ms[k]'(by rw [← HN.out]; exact hkn) := ⟨_, rfl⟩
      have hcell : ∀ j u, (mCells m)[j]? = some u → j < 5 → wr.cell? ⟨b, off + k * 5 + j, none⟩ = some u := by
        intro j u hu hj
        have hl : k < ms.length := by rw [← HN.out]; exact hkn
        have e := mRow_get ms k j hl hj
        rw [← hm, hu] at e
        have c0 := HM.out.row.cell (by omega) e
        rw [World.cell?_of_block (HA.out.bel.block b (World.block_lt_of_cell? w _ c0)), Nat.add_assoc]
        exact c0
      have c0 : wr.cell? ⟨b, off + k * 5, none⟩ = some (.string m.b.role) := hcell 0 _ rfl (by omega)
      have c1 : wr.cell? ⟨b, off + k * 5 + 1, none⟩ = some (.string m.b.content) := hcell 1 _ rfl (by omega)
      have hMm : m ∈ ms := by rw [hm]; exact List.getElem_mem _
      have hca : CallsAt wr m.cv m.b.calls := (HM.out.calls m hMm).below HA.out.bel
      obtain ⟨ca, cc, hcv⟩ := hca.form
      have c2 : wr.cell? ⟨b, off + k * 5 + 2, none⟩ = some (.slice ca m.b.calls.length cc) := by rw [← hcv]; exact hcell 2 _ rfl (by omega)
      have c3 : wr.cell? ⟨b, off + k * 5 + 3, none⟩ = some (.string m.b.tcid) := hcell 3 _ rfl (by omega)
      have c4 : wr.cell? ⟨b, off + k * 5 + 4, none⟩ = some (.bool m.fl) := hcell 4 _ rfl (by omega)
      have HFm : Hid (m.b.content.size ≤ 1048576 ∧ m.b.calls.length ≤ 1048576) := HM.out.fits m hMm
      have HMk : Hid (m = ms[k]'(by rw [← HN.out]; exact hkn)) := hm
      have hst := ASt.first HA.out m hca
      have HS : Hid (ASt w ms k (wr.alloc (.cells #[.string m.b.role, .string m.b.content, .slice ca m.b.calls.length cc, .string m.b.tcid, .bool m.fl] 41)) g cap os wr.heap.size m) := by
        have e : mArr m = #[.string m.b.role, .string m.b.content, .slice ca m.b.calls.length cc, .string m.b.tcid, .bool m.fl] := by unfold mArr; rw [hcv]
        rw [← e]; exact hst
      have HCV : Hid (m.cv = .slice ca m.b.calls.length cc) := hcv
      clear hcell hm hMm hca hcv hst
      go_upto_region 6 with fail
      generalize (wr.alloc (.cells #[.string m.b.role, .string m.b.content, .slice ca m.b.calls.length cc, .string m.b.tcid, .bool m.fl] 41)) = W at *
      generalize wr.heap.size = mb at *
      clear c0 c1 c2 c3 c4 HA
      have d0 : W.cell? ⟨mb, 0, none⟩ = some (.string m.b.role) := HS.out.cell 0
      have d1 : W.cell? ⟨mb, 1, none⟩ = some (.string m.b.content) := HS.out.cell 1
      have d2 : W.cell? ⟨mb, 2, none⟩ = some (.slice ca m.b.calls.length cc) := by rw [← HCV.out]; exact HS.out.cell 2
      have d3 : W.cell? ⟨mb, 3, none⟩ = some (.string m.b.tcid) := HS.out.cell 3
      have d4 : W.cell? ⟨mb, 4, none⟩ = some (.bool m.fl) := HS.out.cell 4
      have HMC : Hid (mCells m = [.string m.b.role, .string m.b.content, .slice ca m.b.calls.length cc, .string m.b.tcid, .bool m.fl]) := by unfold mCells; rw [HCV.out]; exact rfl
      rcases nil_or_snoc os with rfl | ⟨A, x, rfl⟩
      · have hd : decide ((([] : List M).length : Int) = 0) = true := by decide
        go_quiet (fail)
        have HS2 : Hid (ASt w ms k (W.drewN nq) g cap [] mb m) := HS.out.keep (below_drewN _ _ _)
        clear d0 d1 d2 d3 d4
        clear HS
        generalize W.drewN nq = W2 at *
        have d0 : W2.cell? ⟨mb, 0, none⟩ = some (.string m.b.role) := HS2.out.cell 0
        have d1 : W2.cell? ⟨mb, 1, none⟩ = some (.string m.b.content) := HS2.out.cell 1
        have d2 : W2.cell? ⟨mb, 2, none⟩ = some (.slice ca m.b.calls.length cc) := by rw [← HCV.out]; exact HS2.out.cell 2
        have d3 : W2.cell? ⟨mb, 3, none⟩ = some (.string m.b.tcid) := HS2.out.cell 3
        have d4 : W2.cell? ⟨mb, 4, none⟩ = some (.bool m.fl) := HS2.out.cell 4
        go_wp2_with (at_builtin; refine wpList_append_lies _ rfl _ _ 34 rfl w.heap.size 41 i0 _ 5 80 Try.underlying34 hi hz0 hz1 hz2 rfl (by omega) _ 0 (mRow []) rfl (HS2.out.inv.own.alloc _) ⟨W2.heap.size, 0, none⟩ 1 1 [.string m.b.role, .string m.b.content, .slice ca m.b.calls.length cc, .string m.b.tcid, .bool m.fl] rfl rfl (World.news_of_block (heap_alloc_new _ _)) (by simp [Value.oneCell']) (by omega) ?_ ?_ (Nat.le_trans HS2.out.inv.bel.size (by simp)) (W2.heap.size + 1) (by simp) ?_ <;> first | (unfold maxLen; omega) | omega | (intro g' cap' W3 ho hg _ _; have HA' : Hid (AInv w ms (k + 1) W3 g' cap' ([] ++ [m])) := HS2.out.appended (by rw [← HN.out]; exact hkn) HMk.out HFm.out (.inl rfl) (by rw [HMC.out]; exact ho) (grown_alloc hg); clear ho hg))
        go_roundw
        case rel => exact ⟨k + 1, g', cap', [m], by omega, rfl, by go_num, HA'⟩
        case measure => simp [intOf]; omega
      · obtain ⟨l, hl⟩ : ∃ l, l = A.length := ⟨_, rfl⟩
        have hlen : (A ++ [x]).length = l + 1 := by simp [hl]
        have HLE : Hid ((A ++ [x]).length = l + 1) := hlen
        have hlb : l + 1 ≤ k := by have := HS.out.inv.len; omega
        have e0 : W.cell? ⟨g, l * 5, none⟩ = some (.string x.b.role) := HS.out.inv.last (j := 0) hl (by omega)
        have HD0 : Hid (l = A.length) := hl
        clear hl
        rw [hlen]
        clear hlen
        have z1 : ((l : Int) + 1 == 0) = false := beq_false_of_ne (by omega)
        have HJ : Hid (¬ joins x.b m.b ∨ joins x.b m.b) := by
          rcases Classical.em (joins x.b m.b) with q | q
          · exact .inr q
          · exact .inl q
        by_cases ht : m.b.role.toList = toolB
        · have z2 : (m.b.role.toList == [116, 111, 111, 108]) = true := by rw [ht]; rfl
          have HNJ : Hid (¬ joins x.b m.b) := fun q => q.1 ht
          clear ht HJ
          go_quiet (fail)
          have HS2 : Hid (ASt w ms k (W.drewN nq) g cap (A ++ [x]) mb m) := HS.out.keep (below_drewN _ _ _)
          clear d0 d1 d2 d3 d4 e0
          clear HS
          generalize W.drewN nq = W2 at *
          have d0 : W2.cell? ⟨mb, 0, none⟩ = some (.string m.b.role) := HS2.out.cell 0
          have d1 : W2.cell? ⟨mb, 1, none⟩ = some (.string m.b.content) := HS2.out.cell 1
          have d2 : W2.cell? ⟨mb, 2, none⟩ = some (.slice ca m.b.calls.length cc) := by rw [← HCV.out]; exact HS2.out.cell 2
          have d3 : W2.cell? ⟨mb, 3, none⟩ = some (.string m.b.tcid) := HS2.out.cell 3
          have d4 : W2.cell? ⟨mb, 4, none⟩ = some (.bool m.fl) := HS2.out.cell 4
          have HOW : Hid (W2.ownsRow w.heap.size 41 5 (.slice (some ⟨g, 0, none⟩) (l + 1) cap) (l + 1) (mRow (A ++ [x]))) := by have q := HS2.out.inv.own; rw [HLE.out] at q; exact q
          go_wp2_with (at_builtin; refine wpList_append_lies _ rfl _ _ 34 rfl w.heap.size 41 i0 _ 5 80 Try.underlying34 hi hz0 hz1 hz2 rfl (by omega) _ (l + 1) (mRow (A ++ [x])) rfl (HOW.out.alloc _) ⟨W2.heap.size, 0, none⟩ 1 1 [.string m.b.role, .string m.b.content, .slice ca m.b.calls.length cc, .string m.b.tcid, .bool m.fl] rfl rfl (World.news_of_block (heap_alloc_new _ _)) (by simp [Value.oneCell']) (by omega) ?_ ?_ (Nat.le_trans HS2.out.inv.bel.size (by simp)) (W2.heap.size + 1) (by simp) ?_ <;> first | (unfold maxLen; omega) | omega | (intro g' cap' W3 ho hg _ _; have HA' : Hid (AInv w ms (k + 1) W3 g' cap' ((A ++ [x]) ++ [m])) := HS2.out.appended (by rw [← HN.out]; exact hkn) HMk.out HFm.out (.inr ⟨A, x, rfl, HNJ.out⟩) (by rw [HMC.out, HLE.out]; exact ho) (grown_alloc hg); clear ho hg))
          have HL3 : Hid (((A ++ [x]) ++ [m]).length = l + 1 + 1) := by rw [List.length_append, HLE.out]; exact rfl
          go_roundw
          case rel => exact ⟨k + 1, g', cap', (A ++ [x]) ++ [m], by omega, by rw [HL3.out], by go_num, HA'⟩
          case measure => simp [intOf]; omega
        have z2 : (m.b.role.toList == [116, 111, 111, 108]) = false := beq_false_of_ne ht
        by_cases hr : x.b.role.toList = m.b.role.toList
        · have z4 : (x.b.role.toList == m.b.role.toList) = true := beq_iff_eq.2 hr
          have HYJ : Hid (joins x.b m.b) := ⟨ht, hr⟩
          clear ht hr HJ
          have e1 : W.cell? ⟨g, l * 5 + 1, none⟩ = some (.string x.b.content) := HS.out.inv.last (j := 1) HD0.out (by omega)
          go_quiet (fail)
          have HS2 : Hid (ASt w ms k (W.drewN nq) g cap (A ++ [x]) mb m) := HS.out.keep (below_drewN _ _ _)
          clear d0 d1 d2 d3 d4 e0 e1 HS
          generalize W.drewN nq = W2 at *
          have HM2 : Hid (MS w W2 g cap A x mb m) := HS2.out.ms
          have d1 : W2.cell? ⟨mb, 1, none⟩ = some (.string m.b.content) := HM2.out.cell 1
          have e1 : W2.cell? ⟨g, l * 5 + 1, none⟩ = some (.string x.b.content) := HM2.out.lastCell (j := 1) HD0.out (by omega)
          have hjs : (joinTwo x.b.content m.b.content).size ≤ 140737488355328 := by
            have q1 := joinTwo_size x.b.content m.b.content
            have q2 := (HS2.out.inv.fits x (by simp)).c
            have q3 := HFm.out.1
            omega
          have HJS : Hid ((joinTwo x.b.content m.b.content).size ≤ 140737488355328) := hjs
          have hcs : x.b.calls.length + m.b.calls.length ≤ 2199023255552 := by
            have q2 := (HS2.out.inv.fits x (by simp)).t
            have q3 := HFm.out.2
            omega
          obtain ⟨xa, xc, hxv⟩ := HM2.out.callsX.form
          have HXV : Hid (x.cv = .slice xa x.b.calls.length xc) := hxv
          clear hxv hjs
          go_upto_region 9 with fail
          go_region_held3 (fun w' => w'.cell? ⟨mb, 1, none⟩ = some (.string m.b.content) ∧ w'.cell? ⟨g, l * 5 + 1, none⟩ = some (.string x.b.content)) (go_keep) ((go_at_call 37; refine (del_any W2.heap.size x.b.content m.b.content _ (new_cell_d _ _ _ 0) (new_cell_d _ _ _ 1) (new_frozen_d _ _ _ 0) (new_frozen_d _ _ _ 1)).mono ?_; rintro e w3 ⟨rfl, hdc, hdf, hds⟩; have HM3 : Hid (MS w w3 g cap A x mb m) := HM2.out.keep (fr_new_below_d hdf); have d1' : w3.cell? ⟨mb, 1, none⟩ = some (.string m.b.content) := HM3.out.cell 1; have e1' : w3.cell? ⟨g, l * 5 + 1, none⟩ = some (.string x.b.content) := HM3.out.lastCell (j := 1) HD0.out (by omega); have HDC : Hid (∀ (j : Nat) y, (keepTwo x.b.content m.b.content)[j]? = some y → w3.cell? ⟨W2.heap.size, j, none⟩ = some (.string y)) := hdc; have HDS : Hid (W2.heap.size < w3.heap.size) := lt_new_d hds; clear hdc hdf hds))
          clear d1 e1 d1' e1' HM2
          go_upto_region 11 with (go_at_call 39; refine (join_two W2.heap.size x.b.content m.b.content _ HDC.out HDS.out HJS.out).mono ?_; rintro e w4 ⟨rfl, hb4⟩; have HM4 : Hid (MS w w4 g cap A x mb m) := HM3.out.keep hb4; have e1 : w4.cell? ⟨g, l * 5 + 1, none⟩ = some (.string x.b.content) := HM4.out.lastCell (j := 1) HD0.out (by omega); have f1 : w4.frozen? ⟨g, l * 5 + 1, none⟩ = false := HM4.out.frozen _; clear hb4)
          have HM5 : Hid (MS w (w4.setCell ⟨g, l * 5 + 1, none⟩ (.string (joinTwo x.b.content m.b.content))) g cap A (part1 x m) mb m) := HM4.out.put1 HD0.out
          clear e1 f1 HM4 HM3 HDC HDS
          generalize (w4.setCell ⟨g, l * 5 + 1, none⟩ (.string (joinTwo x.b.content m.b.content))) = W5 at *
          have d2 : W5.cell? ⟨mb, 2, none⟩ = some (.slice ca m.b.calls.length cc) := by rw [← HCV.out]; exact HM5.out.cell 2
          have e2 : W5.cell? ⟨g, l * 5 + 2, none⟩ = some (.slice xa x.b.calls.length xc) := by rw [← HXV.out]; exact HM5.out.lastCell (j := 2) HD0.out (by omega)
          have f2 : W5.frozen? ⟨g, l * 5 + 2, none⟩ = false := HM5.out.frozen _
          have hf6 : ∀ o, (W5.alloc o).drew.frozen? ⟨g, l * 5 + 2, none⟩ = false := fun o => (World.frozen?_of_block (w := W5) (w' := (W5.alloc o).drew) (a := ⟨g, l * 5 + 2, none⟩) (Below.heap_alloc W5 o g (World.block_lt_of_cell? W5 _ e2))).trans f2
          have hf7 : ∀ o, (W5.alloc o).frozen? ⟨g, l * 5 + 2, none⟩ = false := fun o => hf6 o
          have HC1 : Hid (CallsAt W5 (.slice xa x.b.calls.length xc) x.b.calls) := by rw [← HXV.out]; exact HM5.out.callsX
          have HC2 : Hid (CallsAt W5 (.slice ca m.b.calls.length cc) m.b.calls) := by rw [← HCV.out]; exact HM5.out.callsM
          go_region_with ((go_at_call 40; refine (concat_any W5.heap.size _ _ x.b.calls m.b.calls _ (new_cell_d _ _ _ 0) (new_cell_d _ _ _ 1) (HC1.out.below (below_new_d _ _)) (HC2.out.below (below_new_d _ _)) hcs).mono ?_; rintro e w6 ⟨ya, yc, rfl, hyc, hyb⟩; have HM6 : Hid (MS w w6 g cap A (part1 x m) mb m) := (HM5.out.keep (below_new_d _ _)).keep hyb; have HYC : Hid (CallsAt w6 (.slice ya (x.b.calls ++ m.b.calls).length yc) (x.b.calls ++ m.b.calls)) := hyc; have d2' : w6.cell? ⟨mb, 2, none⟩ = some (.slice ca m.b.calls.length cc) := (by rw [← HCV.out]; exact HM6.out.cell 2); have e2' : w6.cell? ⟨g, l * 5 + 2, none⟩ = some (.slice xa x.b.calls.length xc) := (by rw [← HXV.out]; exact HM6.out.lastCell (j := 2) HD0.out (by omega)); have f2' : w6.frozen? ⟨g, l * 5 + 2, none⟩ = false := HM6.out.frozen _; clear hyc hyb))
          all_goals
            have HEND : Hid (AInv w ms (k + 1) (w6.setCell ⟨g, l * 5 + 2, none⟩ (.slice ya (x.b.calls ++ m.b.calls).length yc)) g cap (A ++ [joined x m (.slice ya (x.b.calls ++ m.b.calls).length yc)])) := (HM6.out.put2 HD0.out HYC.out).done HS2.out (by rw [← HN.out]; exact hkn) HMk.out HFm.out HYJ.out
            have HL4 : Hid ((A ++ [joined x m (.slice ya (x.b.calls ++ m.b.calls).length yc)]).length = l + 1) := by rw [List.length_append, HD0.out]; exact rfl
            have HL5 : Hid ((x.b.calls ++ m.b.calls).length = x.b.calls.length + m.b.calls.length) := List.length_append
            go_wp2_with fail
            go_roundw
            case rel =>
              refine ⟨k + 1, g, cap, _, by omega, by rw [HL4.out], by go_num, ?_⟩
              have q := HEND.out
              rw [HL5.out] at q
              rw [HL5.out]
              exact q
            case measure => simp [intOf]; omega
        · have z4 : (x.b.role.toList == m.b.role.toList) = false := beq_false_of_ne hr
          have HNJ : Hid (¬ joins x.b m.b) := fun q => hr q.2
          clear ht hr HJ
          go_quiet (fail)
          have HS2 : Hid (ASt w ms k (W.drewN nq) g cap (A ++ [x]) mb m) := HS.out.keep (below_drewN _ _ _)
          clear d0 d1 d2 d3 d4 e0
          clear HS
          generalize W.drewN nq = W2 at *
          have d0 : W2.cell? ⟨mb, 0, none⟩ = some (.string m.b.role) := HS2.out.cell 0
          have d1 : W2.cell? ⟨mb, 1, none⟩ = some (.string m.b.content) := HS2.out.cell 1
          have d2 : W2.cell? ⟨mb, 2, none⟩ = some (.slice ca m.b.calls.length cc) := by rw [← HCV.out]; exact HS2.out.cell 2
          have d3 : W2.cell? ⟨mb, 3, none⟩ = some (.string m.b.tcid) := HS2.out.cell 3
          have d4 : W2.cell? ⟨mb, 4, none⟩ = some (.bool m.fl) := HS2.out.cell 4
          have HOW : Hid (W2.ownsRow w.heap.size 41 5 (.slice (some ⟨g, 0, none⟩) (l + 1) cap) (l + 1) (mRow (A ++ [x]))) := by have q := HS2.out.inv.own; rw [HLE.out] at q; exact q
          go_wp2_with (at_builtin; refine wpList_append_lies _ rfl _ _ 34 rfl w.heap.size 41 i0 _ 5 80 Try.underlying34 hi hz0 hz1 hz2 rfl (by omega) _ (l + 1) (mRow (A ++ [x])) rfl (HOW.out.alloc _) ⟨W2.heap.size, 0, none⟩ 1 1 [.string m.b.role, .string m.b.content, .slice ca m.b.calls.length cc, .string m.b.tcid, .bool m.fl] rfl rfl (World.news_of_block (heap_alloc_new _ _)) (by simp [Value.oneCell']) (by omega) ?_ ?_ (Nat.le_trans HS2.out.inv.bel.size (by simp)) (W2.heap.size + 1) (by simp) ?_ <;> first | (unfold maxLen; omega) | omega | (intro g' cap' W3 ho hg _ _; have HA' : Hid (AInv w ms (k + 1) W3 g' cap' ((A ++ [x]) ++ [m])) := HS2.out.appended (by rw [← HN.out]; exact hkn) HMk.out HFm.out (.inr ⟨A, x, rfl, HNJ.out⟩) (by rw [HMC.out, HLE.out]; exact ho) (grown_alloc hg); clear ho hg))
          have HL3 : Hid (((A ++ [x]) ++ [m]).length = l + 1 + 1) := by rw [List.length_append, HLE.out]; exact rfl
          go_roundw
          case rel => exact ⟨k + 1, g', cap', (A ++ [x]) ++ [m], by omega, by rw [HL3.out], by go_num, HA'⟩
          case measure => simp [intOf]; omega
    · go_wp2_with fail
      go_ret
      have : k = n := by omega
      subst this
      exact ⟨g, cap, os, rfl, by rw [← HN.out]; exact HA.out⟩

set_option maxHeartbeats 1000000 in
theorem alt_none (a : Option Addr) (c : Nat) (w : World) : Calls Try.prog 33 #[.slice a 0 c] w (AltPost [] w) := by
  obtain ⟨i0, hi, hz0, hz1, hz2⟩ := info_parts info41
  go_enter Try.func33, Try.ntmps33
  go_wp2_with (at_make; (refine wpList_make_own _ rfl _ _ 34 rfl w.heap.size 41 i0 _ 5 Try.underlying34 hi hz0 hz1 _ _ _ 0 rfl rfl rfl (by omega) (by unfold maxLen; omega) (Nat.le_refl _) ?_); intro w1 hown hg; have HA : Hid (AInv w [] 0 w1 w.heap.size 0 []) := ⟨hown, by simp, by simp, by simp, ((Fr.of_grown hg).below (by simp) (Nat.le_refl _))⟩; clear hown hg)
  go_loopw [3, 14] (fun v i wr => v = .slice (some ⟨w.heap.size, 0, none⟩) 0 0 ∧ i = .int .i64 0 ∧ Hid (AInv w [] 0 wr w.heap.size 0 [])) (fun _ _ _ => 0)
  case atStart => exact ⟨rfl, rfl, HA⟩
  case round =>
    clear HA
    obtain ⟨rfl, rfl, HA⟩ := hrel
    go_wp2_with fail
    go_ret
    exact ⟨w.heap.size, 0, [], rfl, HA.out⟩

theorem alt_any (v : Value) (ms : List M) (w : World) (h : MsgsAt w v ms) : Calls Try.prog 33 #[v] w (AltPost ms w) := by
  obtain ⟨a, c, hv, hr⟩ := h.row
  rcases hr with h0 | ⟨b, off, rfl, hc⟩
  · have e : ms = [] := List.eq_nil_of_length_eq_zero h0
    subst e
    rw [hv]
    exact alt_none a c w
  · by_cases h0 : ms.length = 0
    · have e : ms = [] := List.eq_nil_of_length_eq_zero h0
      subst e
      rw [hv]
      exact alt_none _ c w
    · subst hv
      exact alt_some b off c ms w h (by omega)
end Go.Proofs.Qxb6603195a.W6
