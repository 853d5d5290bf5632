/-
  MESSAGES: the plain model of 'alternating', and what a row of messages and of calls is in memory. No walk.
-/
import Derived.Test.Qxb6603195aTexts
import Derived.Test.Qxb6603195aFrag
import Derived.Laws.OwnMore
namespace Go.Proofs.Qxb6603195a.W6
open Go.ChangeShapes Go.WideShapes Go.ChangeAt Go.RowKit
open W5 (ret_int empty_iff Fr cells_ne lt_of_block size_of_empty)

structure TC where
  id : ByteArray
  name : ByteArray
  args : ByteArray

/-- what counts of a message -/
structure B where
  role : ByteArray
  content : ByteArray
  calls : List TC
  tcid : ByteArray

/-- a message as it lies -/
structure M where
  b : B
  cv : Value
  fl : Bool

def tcCells (c : TC) : List Value := [.string c.id, .string c.name, .string c.args]
def mCells (m : M) : List Value := [.string m.b.role, .string m.b.content, m.cv, .string m.b.tcid, .bool m.fl]
def rowOf (cs : List TC) : List Value := cs.flatMap tcCells
def mRow (ms : List M) : List Value := ms.flatMap mCells

theorem flat_get {α : Type} {f : α → List Value} {s : Nat} (hf : ∀ x, (f x).length = s) : ∀ (xs : List α) (k j : Nat) (hk : k < xs.length), j < s → (xs.flatMap f)[k * s + j]? = (f xs[k])[j]?
  | x :: xs, 0, j, _, hj => by
    rw [List.flatMap_cons, Nat.zero_mul, Nat.zero_add, List.getElem?_append_left (by rw [hf]; exact hj)]
    rfl
  | x :: xs, k + 1, j, hk, hj => by
    rw [List.flatMap_cons, List.getElem?_append_right (by rw [hf, Nat.add_mul]; omega), hf, show (k + 1) * s + j - s = k * s + j by rw [Nat.add_mul]; omega]
    exact flat_get hf xs k j (by simpa using hk) hj
theorem flat_len {α : Type} {f : α → List Value} {s : Nat} (hf : ∀ x, (f x).length = s) : ∀ (xs : List α), (xs.flatMap f).length = xs.length * s
  | [] => by simp
  | x :: xs => by rw [List.flatMap_cons, List.length_append, hf, flat_len hf xs, List.length_cons, Nat.add_mul]; omega
theorem flat_set {α : Type} {f : α → List Value} {s : Nat} (hf : ∀ x, (f x).length = s) (j : Nat) (u : Value) (hj : j < s) (y : α) : ∀ (xs : List α) (k : Nat) (hk : k < xs.length), f y = (f xs[k]).set j u → (xs.flatMap f).set (k * s + j) u = (xs.set k y).flatMap f
  | x :: xs, 0, _, h => by
    rw [List.flatMap_cons, Nat.zero_mul, Nat.zero_add, List.set_append_left _ _ (by rw [hf]; exact hj)]
    simp only [List.set_cons_zero, List.flatMap_cons]
    rw [h]; rfl
  | x :: xs, k + 1, hk, h => by
    rw [List.flatMap_cons, List.set_append_right _ _ (by rw [hf, Nat.add_mul]; omega), hf, show (k + 1) * s + j - s = k * s + j by rw [Nat.add_mul]; omega]
    simp only [List.set_cons_succ, List.flatMap_cons]
    rw [flat_set hf j u hj y xs k (by simpa using hk) h]

theorem tcLen (c : TC) : (tcCells c).length = 3 := rfl
theorem mLen (m : M) : (mCells m).length = 5 := rfl
theorem rowOf_len (cs : List TC) : (rowOf cs).length = cs.length * 3 := flat_len tcLen cs
theorem mRow_len (ms : List M) : (mRow ms).length = ms.length * 5 := flat_len mLen ms
theorem rowOf_append (a b : List TC) : rowOf (a ++ b) = rowOf a ++ rowOf b := by simp [rowOf]
theorem mRow_append (a b : List M) : mRow (a ++ b) = mRow a ++ mRow b := by simp [mRow]
theorem mRow_one (m : M) : mRow [m] = mCells m := by simp [mRow]
theorem rowOf_get (cs : List TC) (k j : Nat) (hk : k < cs.length) (hj : j < 3) : (rowOf cs)[k * 3 + j]? = (tcCells cs[k])[j]? := flat_get tcLen cs k j hk hj
theorem mRow_get (ms : List M) (k j : Nat) (hk : k < ms.length) (hj : j < 5) : (mRow ms)[k * 5 + j]? = (mCells ms[k])[j]? := flat_get mLen ms k j hk hj
theorem rowOf_one {cs : List TC} : ∀ u ∈ rowOf cs, u.oneCell' = true := by
  intro u hu
  obtain ⟨c, _, hc⟩ := List.mem_flatMap.1 hu
  simp [tcCells] at hc
  rcases hc with rfl | rfl | rfl <;> rfl

/-! ### what lies where -/
/-- the value's elements are these cells -/
def LiesAt (w : World) (v : Value) (n : Nat) (xs : List Value) : Prop :=
  ∃ a c, v = .slice a n c ∧ (n = 0 ∨ ∃ b off, a = some ⟨b, off, none⟩ ∧ ∀ j u, xs[j]? = some u → w.cell? ⟨b, off + j, none⟩ = some u)
def CallsIn (w : World) (v : Value) (cs : List TC) : Prop := LiesAt w v cs.length (rowOf cs)
/-- calls in a block of their own type -/
def CallsAt (w : World) (v : Value) (cs : List TC) : Prop :=
  (v = .slice none 0 0 ∧ cs = []) ∨ ∃ b off c, v = .slice (some ⟨b, off, none⟩) cs.length c ∧ (∃ cur fz, w.heap[b]? = some (.cells cur 74 fz)) ∧ ∀ j u, (rowOf cs)[j]? = some u → w.cell? ⟨b, off + j, none⟩ = some u

theorem CallsAt.in {w : World} {v : Value} {cs : List TC} (h : CallsAt w v cs) : CallsIn w v cs := by
  rcases h with ⟨rfl, rfl⟩ | ⟨b, off, c, rfl, _, h⟩
  · exact ⟨none, 0, rfl, .inl rfl⟩
  · exact ⟨_, c, rfl, .inr ⟨b, off, rfl, h⟩⟩
theorem CallsAt.form {w : World} {v : Value} {cs : List TC} (h : CallsAt w v cs) : ∃ a c, v = .slice a cs.length c := by
  rcases h with ⟨rfl, rfl⟩ | ⟨b, off, c, rfl, _, h⟩
  · exact ⟨_, _, rfl⟩
  · exact ⟨_, _, rfl⟩
theorem CallsAt.keep {X : Nat → Prop} {w w' : World} {v : Value} {cs : List TC} (h : CallsAt w v cs) (hf : Fr X w w') (hX : ∀ (k : Nat) cur fz, w.heap[k]? = some (.cells cur 74 fz) → ¬ X k) : CallsAt w' v cs := by
  rcases h with h | ⟨b, off, c, rfl, ⟨cur, fz, hb⟩, h⟩
  · exact .inl h
  · have e := hf.block b (lt_of_block hb) (hX b cur fz hb)
    refine .inr ⟨b, off, c, rfl, ⟨cur, fz, e.trans hb⟩, fun j u hu => ?_⟩
    rw [World.cell?_of_block (by exact e)]
    exact h j u hu
theorem add_at (b off j : Nat) : (⟨b, off, none⟩ : Addr).add j = ⟨b, off + j, none⟩ := by unfold Addr.add; split <;> simp_all
theorem CallsAt.of_own {w : World} {base : Nat} {v : Value} {cs : List TC} (h : w.ownsRow base 74 3 v cs.length (rowOf cs)) : CallsAt w v cs := by
  rcases h.2 with ⟨rfl, h0⟩ | ⟨g, cap, cur, rfl, _, hg, _⟩
  · exact .inl ⟨rfl, List.eq_nil_of_length_eq_zero h0⟩
  · refine .inr ⟨g, 0, cap, rfl, ⟨cur, _, hg⟩, fun j u hu => ?_⟩
    have := h.cells (g := g) rfl j u hu
    rwa [add_at] at this
theorem Below.fr {w w' : World} (h : Below w.heap.size w w') : Fr (fun _ => False) w w' := ⟨h.os, h.tape, h.output, h.size, fun k hk _ => h.block k hk⟩
theorem CallsAt.below {w w' : World} {v : Value} {cs : List TC} (h : CallsAt w v cs) (hb : Below w.heap.size w w') : CallsAt w' v cs := h.keep (Below.fr hb) (fun _ _ _ _ q => q)
theorem LiesAt.below {w w' : World} {v : Value} {n : Nat} {xs : List Value} (h : LiesAt w v n xs) (hb : Below w.heap.size w w') : LiesAt w' v n xs := by
  obtain ⟨a, c, rfl, h⟩ := h
  refine ⟨a, c, rfl, ?_⟩
  rcases h with h | ⟨b, off, rfl, h⟩
  · exact .inl h
  · refine .inr ⟨b, off, rfl, fun j u hu => ?_⟩
    rw [World.cell?_of_block (hb.block b (World.block_lt_of_cell? w _ (h j u hu)))]
    exact h j u hu
theorem CallsIn.below {w w' : World} {v : Value} {cs : List TC} (h : CallsIn w v cs) (hb : Below w.heap.size w w') : CallsIn w' v cs :=
  LiesAt.below h hb

/-- messages as they came in -/
structure MsgsIn (w : World) (v : Value) (ms : List M) : Prop where
  row : LiesAt w v ms.length (mRow ms)
  calls : ∀ m ∈ ms, CallsIn w m.cv m.b.calls
theorem MsgsIn.below {w w' : World} {v : Value} {ms : List M} (h : MsgsIn w v ms) (hb : Below w.heap.size w w') : MsgsIn w' v ms :=
  ⟨LiesAt.below h.row hb, fun m hm => (h.calls m hm).below hb⟩

/-- the cells of one element -/
theorem LiesAt.cell {w : World} {b off n c : Nat} {xs : List Value} (h : LiesAt w (.slice (some ⟨b, off, none⟩) n c) n xs) (hn : 0 < n) {j : Nat} {u : Value} (hu : xs[j]? = some u) : w.cell? ⟨b, off + j, none⟩ = some u := by
  obtain ⟨a, c', e, h⟩ := h
  injection e with e1 e2 e3
  rcases h with h | ⟨b', off', e', h⟩
  · omega
  · rw [e'] at e1
    injection e1 with e1
    injection e1 with e1 e2
    subst e1 e2
    exact h j u hu

/-! ### the plain model -/
def joinTwo (a b : ByteArray) : ByteArray := ⟨(Lib.join ((keepTwo a b).map (·.data.toList)) [10, 10]).toArray⟩
def toolB : List UInt8 := [116, 111, 111, 108]
def joins (x m : B) : Prop := m.role.toList ≠ toolB ∧ x.role.toList = m.role.toList
instance (x m : B) : Decidable (joins x m) := by unfold joins; infer_instance
def merge (x m : B) : B := { x with content := joinTwo x.content m.content, calls := x.calls ++ m.calls }
def altStep (out : List B) (m : B) : List B :=
  match out.getLast? with
  | none => [m]
  | some x => if joins x m then out.dropLast ++ [merge x m] else out ++ [m]
def alt (ms : List B) : List B := ms.foldl altStep []

theorem altStep_nil (m : B) : altStep [] m = [m] := rfl
theorem altStep_apart (A : List B) (x m : B) (h : ¬ joins x m) : altStep (A ++ [x]) m = A ++ [x] ++ [m] := by simp [altStep, h]
theorem altStep_join (A : List B) (x m : B) (h : joins x m) : altStep (A ++ [x]) m = A ++ [merge x m] := by simp [altStep, h]

/-- the runs, from a message on -/
def runs (x : B) : List B → List B
  | [] => [x]
  | m :: t => if joins x m then runs (merge x m) t else x :: runs m t
theorem foldl_alt : ∀ (t : List B) (A : List B) (x : B), t.foldl altStep (A ++ [x]) = A ++ runs x t
  | [], A, x => rfl
  | m :: t, A, x => by
    rw [List.foldl_cons]
    by_cases h : joins x m
    · rw [altStep_join A x m h, foldl_alt t A (merge x m)]; simp [runs, h]
    · rw [altStep_apart A x m h, foldl_alt t (A ++ [x]) m]; simp [runs, h]
theorem alt_cons (x : B) (t : List B) : alt (x :: t) = runs x t := by
  have := foldl_alt t [] x
  simpa [alt, altStep_nil] using this

structure B.fits (k : Nat) (b : B) : Prop where
  c : b.content.size ≤ 2097152 * k
  t : b.calls.length ≤ 1048576 * k
def jl (a b : List UInt8) : List UInt8 := if a.isEmpty then b else if b.isEmpty then a else a ++ [10, 10] ++ b
theorem joinTwo_list (a b : ByteArray) : (joinTwo a b).toList = jl a.toList b.toList := by
  rw [ByteArray.toList_eq]
  show (Lib.join ((keepTwo a b).map (·.data.toList)) [10, 10]).toArray.toList = _
  simp only [← ByteArray.toList_eq]
  unfold keepTwo jl
  rcases empty_iff a with ⟨za, ea⟩ | ⟨_, ea⟩ <;> rcases empty_iff b with ⟨zb, eb⟩ | ⟨_, eb⟩ <;> simp only [ea, eb, if_true, Bool.false_eq_true, if_false, List.append_nil, List.nil_append, List.map_cons, List.map_nil, List.cons_append]
  · rw [zb, Lib.join_nil]
  · rw [Lib.join_one]
  · rw [Lib.join_one]
  · rw [Lib.join_cons]; simp [Lib.joinTail]
theorem size_list (a : ByteArray) : a.size = a.toList.length := by rw [ByteArray.toList_eq]; simp
theorem joinTwo_size (a b : ByteArray) : (joinTwo a b).size ≤ a.size + 2 + b.size := by
  rw [size_list, joinTwo_list, size_list a, size_list b]
  unfold jl
  split
  · omega
  · split
    · omega
    · simp only [List.length_append, List.length_cons, List.length_nil]; omega
theorem merge_fits {k : Nat} {x m : B} (hx : x.fits k) (hm : m.fits 1) (h2 : m.content.size ≤ 1048576) : (merge x m).fits (k + 1) := by
  have := joinTwo_size x.content m.content
  have h1 := hx.c
  have h3 := hx.t
  have h4 := hm.t
  refine ⟨?_, ?_⟩
  · show (joinTwo x.content m.content).size ≤ _
    omega
  · show (x.calls ++ m.calls).length ≤ _
    rw [List.length_append]
    omega
theorem B.fits.mono {k l : Nat} {b : B} (h : b.fits k) (hl : k ≤ l) : b.fits l :=
  ⟨Nat.le_trans h.c (Nat.mul_le_mul_left _ hl), Nat.le_trans h.t (Nat.mul_le_mul_left _ hl)⟩
end Go.Proofs.Qxb6603195a.W6
