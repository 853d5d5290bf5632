/-
  THE WIRE's MESSAGES IN MEMORY. No walk.
-/
import Derived.Test.Qxb6603195aAlt
namespace Go.Proofs.Qxb6603195a.W6
open Go.ChangeShapes Go.WideShapes Go.ChangeAt Go.RowKit
open W5 (ret_int empty_iff Fr cells_ne lt_of_block size_of_empty)

theorem info54 : (Try.prog.info? 54).map (fun i => (i.zero, i.size, i.bytes)) = some (some (.agg #[.string ⟨#[]⟩, .pointer none, .slice none 0 0, .string ⟨#[]⟩]), 4, 64) := by kernel_rfl
theorem info79 : (Try.prog.info? 79).map (fun i => (i.zero, i.size, i.bytes)) = some (some (.agg #[.string ⟨#[]⟩, .string ⟨#[]⟩, .string ⟨#[]⟩, .string ⟨#[]⟩]), 4, 64) := by kernel_rfl

structure G where
  c0 : Value
  c1 : Value
  c2 : Value
  c3 : Value
def gCells (g : G) : List Value := [g.c0, g.c1, g.c2, g.c3]
def gRow (gs : List G) : List Value := gs.flatMap gCells
theorem gLen (g : G) : (gCells g).length = 4 := rfl
theorem gRow_len (gs : List G) : (gRow gs).length = gs.length * 4 := flat_len gLen gs
theorem gRow_get (gs : List G) (k j : Nat) (hk : k < gs.length) (hj : j < 4) : (gRow gs)[k * 4 + j]? = (gCells gs[k])[j]? := flat_get gLen gs k j hk hj
theorem gRow_of : ∀ (n : Nat) (xs : List Value), xs.length = n * 4 → ∃ gs : List G, gs.length = n ∧ gRow gs = xs
  | 0, xs, h => ⟨[], rfl, by have : xs = [] := List.eq_nil_of_length_eq_zero (by omega)
                             rw [this]; rfl⟩
  | n + 1, xs, h => by
    match xs, h with
    | a :: b :: c :: d :: t, h =>
      obtain ⟨gs, h1, h2⟩ := gRow_of n t (by simp only [List.length_cons] at h; omega)
      exact ⟨⟨a, b, c, d⟩ :: gs, by simp [h1], by rw [← h2]; rfl⟩
    | [], h => simp at h
    | [_], h => simp only [List.length_cons, List.length_nil] at h; omega
    | [_, _], h => simp only [List.length_cons, List.length_nil] at h; omega
    | [_, _, _], h => simp only [List.length_cons, List.length_nil] at h; omega

def fnB : ByteArray := ⟨#[102, 117, 110, 99, 116, 105, 111, 110]⟩
def ccCells (c : TC) : List Value := [.string c.id, .string ⟨#[102, 117, 110, 99, 116, 105, 111, 110]⟩, .string c.name, .string c.args]
def ccRow (cs : List TC) : List Value := cs.flatMap ccCells
theorem ccLen (c : TC) : (ccCells c).length = 4 := rfl
theorem ccRow_len (cs : List TC) : (ccRow cs).length = cs.length * 4 := flat_len ccLen cs
theorem ccRow_get (cs : List TC) (k j : Nat) (hk : k < cs.length) (hj : j < 4) : (ccRow cs)[k * 4 + j]? = (ccCells cs[k])[j]? := flat_get ccLen cs k j hk hj
theorem ccRow_snoc (cs : List TC) (c : TC) : ccRow (cs ++ [c]) = ccRow cs ++ ccCells c := by simp [ccRow]

/-- the calls on the wire -/
def WireAt (w : World) (v : Value) (cs : List TC) : Prop :=
  (v = .slice none 0 0 ∧ cs = []) ∨ (cs ≠ [] ∧ ∃ b c, v = .slice (some ⟨b, 0, none⟩) cs.length c ∧ (∃ cur fz, w.heap[b]? = some (.cells cur 79 fz)) ∧ ∀ j u, (ccRow cs)[j]? = some u → w.cell? ⟨b, j, none⟩ = some u)
/-- the content on the wire -/
def TextAt (w : World) (v : Value) (o : B) : Prop :=
  (v = .pointer none ∧ o.content.toList = [] ∧ o.calls ≠ []) ∨ (¬ (o.content.toList = [] ∧ o.calls ≠ []) ∧ ∃ b, v = .pointer (some ⟨b, 1, none⟩) ∧ (∃ cur fz, w.heap[b]? = some (.cells cur 41 fz)) ∧ w.cell? ⟨b, 1, none⟩ = some (.string o.content))
structure ChatOK (w : World) (o : B) (g : G) : Prop where
  role : g.c0 = .string o.role
  text : TextAt w g.c1 o
  wire : WireAt w g.c2 o.calls
  tcid : g.c3 = .string o.tcid

/-- blocks of a size, one excepted, stand -/
theorem ChatOK.keep {X : Nat → Prop} {w w' : World} {o : B} {g : G} (h : ChatOK w o g) (hf : Fr X w w') (hX : ∀ (k : Nat) cur t fz, w.heap[k]? = some (.cells cur t fz) → t ≠ 54 → ¬ X k) : ChatOK w' o g := by
  refine ⟨h.role, ?_, ?_, h.tcid⟩
  · rcases h.text with q | ⟨q, b, e, ⟨cur, fz, hb⟩, hc⟩
    · exact .inl q
    · have eb := hf.block b (lt_of_block hb) (hX b cur _ fz hb (by decide))
      exact .inr ⟨q, b, e, ⟨cur, fz, eb.trans hb⟩, (World.cell?_of_block (by exact eb)).trans hc⟩
  · rcases h.wire with q | ⟨q, b, c, e, ⟨cur, fz, hb⟩, hc⟩
    · exact .inl q
    · have eb := hf.block b (lt_of_block hb) (hX b cur _ fz hb (by decide))
      exact .inr ⟨q, b, c, e, ⟨cur, fz, eb.trans hb⟩, fun j u hu => (World.cell?_of_block (by exact eb)).trans (hc j u hu)⟩

/-- the outer loop: what stands at message i -/
structure OInv (w : World) (ms os : List M) (g cap h B : Nat) (i : Nat) (wr : World) (gs : List G) : Prop where
  inv : AInv w ms ms.length wr g cap os
  base : w.heap.size ≤ B
  own : wr.ownsRow B 54 4 (.slice (some ⟨h, 0, none⟩) os.length os.length) os.length (gRow gs)
  len : gs.length = os.length
  done : ∀ k (h1 : k < os.length) (h2 : k < gs.length), k < i → ChatOK wr os[k].b gs[k]

theorem OInv.hblk {w : World} {ms os : List M} {g cap h B i : Nat} {wr : World} {gs : List G} (H : OInv w ms os g cap h B i wr gs) : ∃ cur, wr.heap[h]? = some (.cells cur 54 (0, 0)) := by
  rcases H.own.2 with ⟨e, _⟩ | ⟨g0, cap0, cur, e, _, hgg, _⟩
  · cases e
  · have : h = g0 := by injection e with e; injection e with e; injection e
    subst this
    exact ⟨cur, hgg⟩
theorem OInv.gblk {w : World} {ms os : List M} {g cap h B i : Nat} {wr : World} {gs : List G} (H : OInv w ms os g cap h B i wr gs) : ∃ cur fz, wr.heap[g]? = some (.cells cur 41 fz) := by
  rcases H.inv.own.2 with ⟨e, _⟩ | ⟨g0, cap0, cur, e, _, hgg, _⟩
  · cases e
  · have : g = g0 := by injection e with e; injection e with e; injection e
    subst this
    exact ⟨cur, _, hgg⟩
/-- new blocks come, the out row may turn to another row -/
theorem OInv.turn {w : World} {ms os : List M} {g cap h B i : Nat} {wr wr' : World} {gs gs' : List G} (H : OInv w ms os g cap h B i wr gs) (hf : Fr (fun k => k = h) wr wr') (ho : wr'.ownsRow B 54 4 (.slice (some ⟨h, 0, none⟩) os.length os.length) os.length (gRow gs')) (hl : gs'.length = os.length)
    (i' : Nat) (hd : ∀ k (h1 : k < os.length) (h2 : k < gs'.length), k < i' → ChatOK wr' os[k].b gs'[k]) : OInv w ms os g cap h B i' wr' gs' := by
  obtain ⟨cur, hh⟩ := H.hblk
  have hX : ∀ (q : Nat) cur t fz, wr.heap[q]? = some (.cells cur t fz) → t ≠ 54 → ¬ (q = h) := fun q cur' t fz' hq ht e => cells_ne hq hh ht e
  obtain ⟨cg, fg, hg⟩ := H.gblk
  have hlt := (H.own.lt h rfl).1
  refine ⟨⟨grown_fr hf H.inv.own (fun q hq e => ?_), fun o ho => (H.inv.calls o ho).keep hf (fun q cur' fz' hq => hX q cur' _ fz' hq (by decide)), H.inv.plain, H.inv.fits, ?_⟩, H.base, ho, hl, hd⟩
  · injection hq with hq
    subst hq
    exact hX g cg _ fg hg (by decide) e
  · have hb := H.base
    exact H.inv.bel.trans (hf.below (fun q hq => by rw [hq]; omega) H.inv.bel.size)
theorem OInv.keep {w : World} {ms os : List M} {g cap h B i : Nat} {wr wr' : World} {gs : List G} (H : OInv w ms os g cap h B i wr gs) (hb : Below wr.heap.size wr wr') : OInv w ms os g cap h B i wr' gs := by
  refine H.turn ((Below.fr hb).mono (fun _ q => q.elim)) (grown_fr (Below.fr hb) H.own (fun _ _ q => q)) H.len i (fun k h1 h2 hk => (H.done k h1 h2 hk).keep (Below.fr hb) (fun _ _ _ _ _ _ q => q))
theorem OInv.cellAt {w : World} {ms os : List M} {g cap h B i : Nat} {wr : World} {gs : List G} (H : OInv w ms os g cap h B i wr gs) {k j : Nat} (hk : k < gs.length) (hj : j < 4) : wr.cell? ⟨h, k * 4 + j, none⟩ = (gCells gs[k])[j]? := by
  have := H.len
  rw [H.own.cellAt (k * 4 + j) (by omega)]
  exact gRow_get gs k j hk hj
theorem OInv.frozen {w : World} {ms os : List M} {g cap h B i : Nat} {wr : World} {gs : List G} (H : OInv w ms os g cap h B i wr gs) (j : Nat) : wr.frozen? ⟨h, j, none⟩ = false := H.own.frozenAt j
def G.put (g : G) (j : Nat) (u : Value) : G := match j with
  | 0 => { g with c0 := u }
  | 1 => { g with c1 := u }
  | 2 => { g with c2 := u }
  | _ => { g with c3 := u }
theorem G.put_cells (g : G) (j : Nat) (u : Value) (hj : j < 4) : gCells (g.put j u) = (gCells g).set j u := by
  match j, hj with
  | 0, _ => rfl
  | 1, _ => rfl
  | 2, _ => rfl
  | 3, _ => rfl
/-- a store into the row, at or behind i -/
theorem OInv.stored {w : World} {ms os : List M} {g cap h B i : Nat} {wr : World} {gs : List G} (H : OInv w ms os g cap h B i wr gs) {k j : Nat} (hk : k < gs.length) (hi : i ≤ k) (hj : j < 4) (u : Value) : OInv w ms os g cap h B i (wr.setCell ⟨h, k * 4 + j, none⟩ u) (gs.set k (gs[k].put j u)) := by
  obtain ⟨cur, hh⟩ := H.hblk
  have hfr := Fr.setCell wr ⟨h, k * 4 + j, none⟩ u
  have hX : ∀ (q : Nat) cur t fz, wr.heap[q]? = some (.cells cur t fz) → t ≠ 54 → ¬ (q = h) := fun q cur' t fz' hq ht e => cells_ne hq hh ht e
  have h1 := (H.own.stored (k * 4 + j) u).1
  have h2 : (gRow gs).set (k * 4 + j) u = gRow (gs.set k (gs[k].put j u)) := flat_set gLen j u hj _ gs k hk (G.put_cells _ j u hj)
  rw [h2] at h1
  refine H.turn hfr h1 (by simpa using H.len) i (fun q q1 q2 hq => ?_)
  have hne : k ≠ q := by omega
  rw [List.getElem_set_ne hne]
  exact (H.done q q1 (by simpa using q2) hq).keep hfr hX
end Go.Proofs.Qxb6603195a.W6
