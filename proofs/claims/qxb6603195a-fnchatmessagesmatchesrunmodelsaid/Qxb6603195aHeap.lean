/-
  WHAT A callBuilder IS IN MEMORY: plain facts on worlds; no walk.
-/
import Derived.Test.Qxb6603195aRows
import Derived.WalkKit
import Derived.ProofKit
import Derived.Maps.OwnSet
import Derived.Lib.FrozenHead
import Derived.Deep.Draws
namespace Go.Proofs.Qxb6603195a.W5
open Go.ChangeShapes Go.WideShapes Go.ChangeAt Go.RowKit
open Go.Maps (Keyed int_keyed atKey_put_same atKey_put_other)

/-! ### frames: which blocks may have turned -/
structure Fr (X : Nat → Prop) (w w' : World) : Prop where
  os : w'.os = w.os
  tape : w'.tape = w.tape
  output : w'.output = w.output
  size : w.heap.size ≤ w'.heap.size
  block : ∀ k, k < w.heap.size → ¬ X k → w'.heap[k]? = w.heap[k]?

theorem Fr.refl (X : Nat → Prop) (w : World) : Fr X w w := ⟨rfl, rfl, rfl, Nat.le_refl _, fun _ _ _ => rfl⟩
theorem Fr.mono {X Y : Nat → Prop} {w w' : World} (h : Fr X w w') (hXY : ∀ k, X k → Y k) : Fr Y w w' := ⟨h.os, h.tape, h.output, h.size, fun k hk hY => h.block k hk (fun q => hY (hXY k q))⟩
theorem Fr.trans {X Y : Nat → Prop} {w w' w'' : World} (h : Fr X w w') (g : Fr Y w' w'') (hYX : ∀ k, k < w.heap.size → Y k → X k) : Fr X w w'' :=
  ⟨g.os.trans h.os, g.tape.trans h.tape, g.output.trans h.output, Nat.le_trans h.size g.size, fun k hk hX => (g.block k (Nat.lt_of_lt_of_le hk h.size) (fun q => hX (hYX k hk q))).trans (h.block k hk hX)⟩
theorem Fr.of_grown {w w' : World} {row : Option Nat} (h : w.grownBy w' row) : Fr (fun k => row = some k) w w' := ⟨h.os, h.tape, h.output, h.size, fun k hk hX => h.block k hk (fun e => hX e.symm)⟩
theorem Fr.setCell (w : World) (a : Addr) (v : Value) : Fr (fun k => k = a.block) w (w.setCell a v) :=
  ⟨rfl, rfl, rfl, by simp [World.setCell], fun k _ hk => Below.heap_setCell w a v k hk⟩
theorem Fr.alloc (w : World) (o : Obj) : Fr (fun _ => False) w (w.alloc o) := ⟨rfl, rfl, rfl, by simp, fun k hk _ => Below.heap_alloc w o k hk⟩
theorem Fr.drewN (w : World) (n : Nat) : Fr (fun _ => False) w (w.drewN n) := ⟨rfl, rfl, rfl, Nat.le_refl _, fun _ _ _ => rfl⟩
theorem Fr.below {X : Nat → Prop} {w w' : World} {B : Nat} (h : Fr X w w') (hX : ∀ k, X k → B ≤ k) (hB : B ≤ w.heap.size) : Below B w w' :=
  ⟨h.os, h.tape, h.output, h.size, fun k hk => h.block k (Nat.lt_of_lt_of_le hk hB) (fun q => by have := hX k q; omega)⟩

theorem lt_of_block {w : World} {b : Nat} {o : Obj} (h : w.heap[b]? = some o) : b < w.heap.size := (Array.getElem?_eq_some_iff.1 h).1

theorem Fr.rowF {X : Nat → Prop} {w w' : World} {B : Nat} {e : TypeId} {v : Value} {n : Nat} {xs : List Value} (hf : Fr X w w') (h : w.ownsRowF B e 1 v n xs) (hX : ∀ g cur fz, v.ownBlock = some g → w.heap[g]? = some (.cells cur e fz) → ¬ X g) : w'.ownsRowF B e 1 v n xs := by
  refine ⟨h.1, ?_⟩
  rcases h.2 with hn | ⟨g, cap, cur, fz, rfl, hb, hgg, rest⟩
  · exact .inl hn
  · exact .inr ⟨g, cap, cur, fz, rfl, hb, (hf.block g (lt_of_block hgg) (hX g cur fz rfl hgg)).trans hgg, rest⟩
theorem Fr.row {X : Nat → Prop} {w w' : World} {B : Nat} {e : TypeId} {v : Value} {n : Nat} {xs : List Value} (hf : Fr X w w') (h : w.ownsRow B e 1 v n xs) (hX : ∀ g cur fz, v.ownBlock = some g → w.heap[g]? = some (.cells cur e fz) → ¬ X g) : w'.ownsRow B e 1 v n xs := by
  refine ⟨h.1, ?_⟩
  rcases h.2 with hn | ⟨g, cap, cur, rfl, hb, hgg, rest⟩
  · exact .inl hn
  · exact .inr ⟨g, cap, cur, rfl, hb, (hf.block g (lt_of_block hgg) (hX g cur _ rfl hgg)).trans hgg, rest⟩
theorem Fr.mapp {X : Nat → Prop} {w w' : World} {k : TypeId} {R : Value → Option (DataW Unit × List MemPlace)} {b n : Nat} {D : DataW Unit} (hf : Fr X w w') (h : w.ownsMap Try.prog k R b n D) (hX : ∀ es clock, w.heap[b]? = some (.map es clock) → ¬ X b) : w'.ownsMap Try.prog k R b n D := by
  obtain ⟨es, clock, hb, r⟩ := h
  exact ⟨es, clock, (hf.block b (lt_of_block hb) (hX es clock hb)).trans hb, r⟩

/-! ### one call being built -/
structure PC where
  blk : Nat
  ix : Int
  id : ByteArray
  name : ByteArray
  ad : Value
  buf : Value
  bs : List UInt8

def PC.ptr (p : PC) : Value := .pointer (some ⟨p.blk, 0, none⟩)
def PC.cells (p : PC) : Array Value := #[.int .i64 p.ix, .string p.id, .string p.name, p.ad, p.buf]
/-- what a call holds -/
def PC.sz (p : PC) : Nat := 1024 + p.id.size + p.name.size + p.bs.length

structure PC.At (w : World) (B : Nat) (p : PC) : Prop where
  base : B ≤ p.blk
  blk : w.heap[p.blk]? = some (.cells p.cells 70 (0, 0))
  ad : p.ad = .pointer none ∨ p.ad = .pointer (some ⟨p.blk, 3, none⟩)
  row : w.ownsRowF B 5 1 p.buf p.bs.length (Lib.byteCells p.bs)

def held (ps : List PC) : Nat := (ps.map PC.sz).sum
theorem held_mid (A C : List PC) (p : PC) : held (A ++ p :: C) = held A + p.sz + held C := by
  simp [held, Nat.add_assoc]
theorem held_snoc (A : List PC) (p : PC) : held (A ++ [p]) = held A + p.sz := by
  simp [held]
theorem held_take (ps : List PC) (k : Nat) (h : k < ps.length) : held (ps.take (k + 1)) = held (ps.take k) + ps[k].sz := by
  rw [List.take_succ_eq_append_getElem h, held_snoc]

/-! ### the map of the last calls, read as block numbers -/
def neg : DataW Unit := .lit (.int .i64 (-1))
def R : Value → Option (DataW Unit × List MemPlace)
  | .pointer none => some (neg, [])
  | .pointer (some ⟨b, 0, none⟩) => some (.lit (.int .i64 b), [])
  | _ => none
theorem R_inv {v : Value} {x : DataW Unit} {ps : List MemPlace} (h : R v = some (x, ps)) : (v = .pointer none ∧ x = neg) ∨ ∃ b : Nat, v = .pointer (some ⟨b, 0, none⟩) ∧ x = .lit (.int .i64 b) := by
  unfold R at h
  split at h
  · simp only [Option.some.injEq, Prod.mk.injEq] at h; exact .inl ⟨rfl, h.1.symm⟩
  · simp only [Option.some.injEq, Prod.mk.injEq] at h; exact .inr ⟨_, rfl, h.1.symm⟩
  · cases h

theorem law3 : Keyed Try.prog 3 := int_keyed Try.underlying3
theorem zero64 (w : World) : (zeroValue 64).run Try.prog w = .ok (.pointer none) w := by kernel_rfl

/-! ### the builder -/
structure Inv (w : World) (B bb : Nat) (ps : List PC) (D : DataW Unit) (n : Nat) (pv mv : Value) : Prop where
  base : B ≤ bb
  bld : w.heap[bb]? = some (.cells #[pv, mv] 62 (0, 0))
  row : w.ownsRow B 64 1 pv ps.length (ps.map PC.ptr)
  map : (mv = .map none ∧ D = .map []) ∨ ∃ mb, mv = .map (some mb) ∧ B ≤ mb ∧ w.ownsMap Try.prog 3 R mb n D
  ats : ∀ p ∈ ps, p.At w B
  apart : ps.Pairwise (fun p q => p.blk ≠ q.blk ∧ (p.buf.ownBlock = none ∨ p.buf.ownBlock ≠ q.buf.ownBlock))
  keys : ∀ i : Int, D.atKey (.int .i64 i) neg = neg ∨ ∃ p ∈ ps, D.atKey (.int .i64 i) neg = .lit (.int .i64 p.blk)

theorem split_mem {ps : List PC} {p : PC} (h : p ∈ ps) : ∃ A C, ps = A ++ p :: C := List.append_of_mem h

theorem Inv.look {w : World} {B bb n : Nat} {ps : List PC} {D : DataW Unit} {pv mv : Value} (h : Inv w B bb ps D n pv mv) (ix : Int) (wf : (Lit.int .i64 ix).wf = true) :
    ∃ v, (Instr.lookup 60 mv (.int .i64 ix) false).run Try.prog w = .ok v w ∧ (v = .pointer none ∨ ∃ A p C, ps = A ++ p :: C ∧ v = p.ptr) := by
  have hkey : keyOf Try.prog 3 (.int .i64 ix) = some (.int .i64 ix) := Go.Maps.keyOf_int_mk Try.underlying3 wf
  rcases h.map with ⟨rfl, rfl⟩ | ⟨mb, rfl, hmb, hown⟩
  · exact ⟨_, Maps.look_nil false law3 Try.underlying60 (zero64 w) hkey, .inl rfl⟩
  · obtain ⟨v, pl, hrun, hv⟩ := hown.lookup (t := 60) (e := 64) law3 Try.underlying60 (zero64 w) (zd := neg) (zp := []) rfl hkey
    refine ⟨v, hrun, ?_⟩
    rcases h.keys ix with q | ⟨p, hp, q⟩
    · rw [q] at hv
      rcases R_inv hv with ⟨e, _⟩ | ⟨b, _, e⟩
      · exact .inl e
      · exfalso
        simp only [neg, DataW.lit.injEq, Lit.int.injEq, true_and] at e
        omega
    · rw [q] at hv
      rcases R_inv hv with ⟨_, e⟩ | ⟨b, e1, e⟩
      · exfalso
        simp only [neg, DataW.lit.injEq, Lit.int.injEq, true_and] at e
        omega
      · right
        obtain ⟨A, C, hs⟩ := split_mem hp
        refine ⟨A, p, C, hs, ?_⟩
        simp only [DataW.lit.injEq, Lit.int.injEq, true_and] at e
        have : p.blk = b := by omega
        rw [e1, PC.ptr, this]

theorem cells_ne {w : World} {a b : Nat} {c1 c2 : Array Value} {t1 t2 : TypeId} {f1 f2 : Nat × Nat} (h1 : w.heap[a]? = some (.cells c1 t1 f1)) (h2 : w.heap[b]? = some (.cells c2 t2 f2)) (ht : t1 ≠ t2) : a ≠ b := by
  intro e
  subst e
  rw [h1] at h2
  simp only [Option.some.injEq, Obj.cells.injEq] at h2
  exact ht h2.2.1
theorem map_ne {w : World} {a b : Nat} {es : Array MapEntry} {cl : Nat} {c2 : Array Value} {t2 : TypeId} {f2 : Nat × Nat} (h1 : w.heap[a]? = some (.map es cl)) (h2 : w.heap[b]? = some (.cells c2 t2 f2)) : a ≠ b := by
  intro e
  subst e
  rw [h1] at h2
  cases h2
/-- the block in which a row lies -/
theorem rowF_block {w : World} {B : Nat} {e : TypeId} {v : Value} {n : Nat} {xs : List Value} (h : w.ownsRowF B e 1 v n xs) {g : Nat} (hg : v.ownBlock = some g) : ∃ cur fz, w.heap[g]? = some (.cells cur e fz) := by
  rcases h.2 with ⟨rfl, _⟩ | ⟨g', cap, cur, fz, rfl, _, hgg, _⟩
  · simp [Value.ownBlock] at hg
  · simp [Value.ownBlock] at hg
    subst hg
    exact ⟨_, _, hgg⟩

/-- ONE CALL HAS TURNED -/
theorem Inv.upd {w w' : World} {B bb n : Nat} {A C : List PC} {p p' : PC} {D : DataW Unit} {pv mv : Value} (h : Inv w B bb (A ++ p :: C) D n pv mv) (hat : p'.At w' B) (hblk : p'.blk = p.blk)
    (hf : Fr (fun k => k = p.blk ∨ p.buf.ownBlock = some k) w w') (hloc : p'.buf.ownBlock = p.buf.ownBlock ∨ ∃ g, p'.buf.ownBlock = some g ∧ w.heap.size ≤ g) : Inv w' B bb (A ++ p' :: C) D n pv mv := by
  have hp := h.ats p (by simp)
  -- a block of another type than 70 and 5 stands
  have other : ∀ {k : Nat} {cs : Array Value} {t : TypeId} {f : Nat × Nat}, w.heap[k]? = some (.cells cs t f) → t ≠ 70 → t ≠ 5 → ¬ (k = p.blk ∨ p.buf.ownBlock = some k) := by
    intro k cs t f hk h1 h2 q
    rcases q with q | q
    · exact cells_ne hk hp.blk h1 q
    · obtain ⟨cur, fz, hg⟩ := rowF_block hp.row q
      exact cells_ne hk hg h2 rfl
  have hap := List.pairwise_append.1 h.apart
  have hpc := List.pairwise_cons.1 hap.2.1
  have apartOf : ∀ q, q ∈ A ∨ q ∈ C → q.blk ≠ p.blk ∧ (q.buf.ownBlock = none ∨ q.buf.ownBlock ≠ p.buf.ownBlock) := by
    intro q hq
    rcases hq with hq | hq
    · exact hap.2.2 q hq p (by simp)
    · have := hpc.1 q hq
      refine ⟨fun e => this.1 e.symm, ?_⟩
      rcases this.2 with e | e
      · by_cases hn : q.buf.ownBlock = none
        · exact .inl hn
        · exact .inr (by rw [e]; exact hn)
      · exact .inr (fun q => e q.symm)
  have atOf : ∀ q, q ∈ A ∨ q ∈ C → q.At w' B := by
    intro q hq
    have hqat := h.ats q (by rcases hq with e | e <;> simp [e])
    obtain ⟨n1, n2⟩ := apartOf q hq
    refine ⟨hqat.base, ?_, hqat.ad, hf.rowF hqat.row ?_⟩
    · rw [hf.block q.blk (lt_of_block hqat.blk) ?_]
      · exact hqat.blk
      · intro e
        rcases e with e | e
        · exact n1 e
        · obtain ⟨cur, fz, hg⟩ := rowF_block hp.row e
          exact cells_ne hqat.blk hg (by decide) rfl
    · intro g cur fz hg hgg e
      rcases e with e | e
      · exact cells_ne hgg hp.blk (by decide) e
      · rcases n2 with n2 | n2
        · rw [n2] at hg; cases hg
        · exact n2 (hg.trans e.symm)
  have locOf : ∀ q, q ∈ A ∨ q ∈ C → q.buf.ownBlock = none ∨ q.buf.ownBlock ≠ p'.buf.ownBlock := by
    intro q hq
    obtain ⟨_, n2⟩ := apartOf q hq
    rcases hloc with e | ⟨g, e, hg⟩
    · rw [e]; exact n2
    · by_cases hn : q.buf.ownBlock = none
      · exact .inl hn
      · right
        intro e2
        have hqat := h.ats q (by rcases hq with e | e <;> simp [e])
        have := (hqat.row.lt g (e2.trans e)).2
        omega
  refine ⟨h.base, ?_, ?_, ?_, ?_, ?_, ?_⟩
  · rw [hf.block bb (lt_of_block h.bld) (other h.bld (by decide) (by decide))]
    exact h.bld
  · have hr := hf.row h.row (fun g cur fz _ hg => other hg (by decide) (by decide))
    have e1 : (A ++ p' :: C).length = (A ++ p :: C).length := by simp
    have e2 : (A ++ p' :: C).map PC.ptr = (A ++ p :: C).map PC.ptr := by simp [PC.ptr, hblk]
    rw [e1, e2]
    exact hr
  · rcases h.map with e | ⟨mb, e1, e2, e3⟩
    · exact .inl e
    · refine .inr ⟨mb, e1, e2, hf.mapp e3 ?_⟩
      intro es clock hm q
      rcases q with q | q
      · exact map_ne hm hp.blk q
      · obtain ⟨cur, fz, hg⟩ := rowF_block hp.row q
        exact map_ne hm hg rfl
  · intro q hq
    rcases List.mem_append.1 hq with e | e
    · exact atOf q (.inl e)
    · rcases List.mem_cons.1 e with e | e
      · subst e; exact hat
      · exact atOf q (.inr e)
  · rw [List.pairwise_append]
    refine ⟨hap.1, List.pairwise_cons.2 ⟨fun q hq => ?_, hpc.2⟩, fun a ha b hb => ?_⟩
    · obtain ⟨n1, _⟩ := apartOf q (.inr hq)
      refine ⟨by rw [hblk]; exact fun e => n1 e.symm, ?_⟩
      rcases locOf q (.inr hq) with e | e
      · by_cases hn : p'.buf.ownBlock = none
        · exact .inl hn
        · exact .inr (by rw [e]; exact hn)
      · exact .inr (fun q => e q.symm)
    · rcases List.mem_cons.1 hb with e | e
      · subst e
        exact ⟨by rw [hblk]; exact (apartOf a (.inl ha)).1, locOf a (.inl ha)⟩
      · exact hap.2.2 a ha b (by simp [e])
  · intro i
    rcases h.keys i with e | ⟨q, hq, e⟩
    · exact .inl e
    · right
      rcases List.mem_append.1 hq with e2 | e2
      · exact ⟨q, by simp [e2], e⟩
      · rcases List.mem_cons.1 e2 with e2 | e2
        · subst e2; exact ⟨p', by simp, by rw [hblk]; exact e⟩
        · exact ⟨q, by simp [e2], e⟩

/-- A CALL HAS BEGUN -/
theorem Inv.new {w w' : World} {B bb n : Nat} {ps : List PC} {p : PC} {D : DataW Unit} {pv mv pv' : Value} {mb : Nat} (h : Inv w B bb ps D n pv mv) (hat : p.At w' B) (hnew : w.heap.size ≤ p.blk) (hbuf : p.buf = .slice none 0 0)
    (hbld : w'.heap[bb]? = some (.cells #[pv', .map (some mb)] 62 (0, 0))) (hrow : w'.ownsRow B 64 1 pv' (ps.length + 1) (ps.map PC.ptr ++ [p.ptr])) (hmb : B ≤ mb) (hmap : w'.ownsMap Try.prog 3 R mb (n + 1) (D.put (.int .i64 p.ix) (.lit (.int .i64 p.blk))))
    (hf : Fr (fun k => k = bb ∨ pv.ownBlock = some k ∨ mv = .map (some k)) w w') : Inv w' B bb (ps ++ [p]) (D.put (.int .i64 p.ix) (.lit (.int .i64 p.blk))) (n + 1) pv' (.map (some mb)) := by
  have hrow0 := World.ownsRowF_of h.row
  have other : ∀ {k : Nat} {cs : Array Value} {t : TypeId} {f : Nat × Nat}, w.heap[k]? = some (.cells cs t f) → t ≠ 62 → t ≠ 64 → ¬ (k = bb ∨ pv.ownBlock = some k ∨ mv = .map (some k)) := by
    intro k cs t f hk h1 h2 q
    rcases q with q | q | q
    · exact cells_ne hk h.bld h1 q
    · obtain ⟨cur, fz, hg⟩ := rowF_block hrow0 q
      exact cells_ne hk hg h2 rfl
    · rcases h.map with ⟨e, _⟩ | ⟨mb', e, _, es, clock, hm, _⟩
      · rw [e] at q; cases q
      · rw [e] at q
        have : mb' = k := by simpa using q
        subst this
        exact map_ne hm hk rfl
  have atOf : ∀ q ∈ ps, q.At w' B := by
    intro q hq
    have hqat := h.ats q hq
    refine ⟨hqat.base, ?_, hqat.ad, hf.rowF hqat.row (fun g cur fz _ hg => other hg (by decide) (by decide))⟩
    rw [hf.block q.blk (lt_of_block hqat.blk) (other hqat.blk (by decide) (by decide))]
    exact hqat.blk
  have hisMap : Go.Maps.IsMap D := by
    rcases h.map with ⟨_, e⟩ | ⟨_, _, _, e⟩
    · exact ⟨[], e⟩
    · exact e.isMap
  refine ⟨h.base, hbld, by simpa using hrow, .inr ⟨mb, rfl, hmb, hmap⟩, ?_, ?_, ?_⟩
  · intro q hq
    rcases List.mem_append.1 hq with e | e
    · exact atOf q e
    · have : q = p := by simpa using e
      subst this; exact hat
  · rw [List.pairwise_append]
    refine ⟨h.apart, by simp, fun a ha b hb => ?_⟩
    have : b = p := by simpa using hb
    subst this
    have haat := h.ats a ha
    refine ⟨?_, ?_⟩
    · have := lt_of_block haat.blk
      omega
    · by_cases hn : a.buf.ownBlock = none
      · exact .inl hn
      · right
        rw [hbuf]
        exact hn
  · intro i
    by_cases e : i = p.ix
    · right
      refine ⟨p, by simp, ?_⟩
      rw [e]
      exact atKey_put_same (k := .int .i64 p.ix) hisMap trivial _ _
    · have hne : (Lit.int .i64 i) ≠ Lit.int .i64 p.ix := fun q => e (by injection q)
      rw [atKey_put_other hne]
      rcases h.keys i with q | ⟨r, hr, q⟩
      · exact .inl q
      · exact .inr ⟨r, by simp [hr], q⟩

/-- nothing of the builder's has turned -/
theorem Inv.kept {w w' : World} {B bb n : Nat} {ps : List PC} {D : DataW Unit} {pv mv : Value} (h : Inv w B bb ps D n pv mv) (hf : Fr (fun _ => False) w w') : Inv w' B bb ps D n pv mv := by
  refine ⟨h.base, ?_, hf.row h.row (fun _ _ _ _ _ q => q), ?_, fun p hp => ?_, h.apart, h.keys⟩
  · rw [hf.block bb (lt_of_block h.bld) (fun q => q)]; exact h.bld
  · rcases h.map with e | ⟨mb, e1, e2, e3⟩
    · exact .inl e
    · exact .inr ⟨mb, e1, e2, hf.mapp e3 (fun _ _ _ q => q)⟩
  · have hp' := h.ats p hp
    exact ⟨hp'.base, by rw [hf.block p.blk (lt_of_block hp'.blk) (fun q => q)]; exact hp'.blk, hp'.ad, hf.rowF hp'.row (fun _ _ _ _ _ q => q)⟩

theorem Inv.fresh (w : World) : Inv (w.alloc (.cells #[.slice none 0 0, .map none] 62)) w.heap.size w.heap.size [] (.map []) 0 (.slice none 0 0) (.map none) := by
  refine ⟨Nat.le_refl _, (MapKept.heap_alloc w _).1, World.ownsRow_nil _ _ _ _, .inl ⟨rfl, rfl⟩, by simp, by simp, fun i => .inl rfl⟩

end Go.Proofs.Qxb6603195a.W5
