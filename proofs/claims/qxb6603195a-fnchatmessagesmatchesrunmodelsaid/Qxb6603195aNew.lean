/-
  (*callBuilder).add (31): a call begins.
-/
import Derived.Test.Qxb6603195aAdd
import Derived.WalkSpells
import Derived.Deep.Cut
import Derived.Deep.CutRange
namespace Go.Proofs.Qxb6603195a.W5
open Go.ChangeShapes Go.WideShapes Go.ChangeAt Go.RowKit

theorem info64 : (Try.prog.info? 64).map (fun i => (i.zero, i.size, i.bytes)) = some (some (.pointer none), 1, 8) := by kernel_rfl

/-- append(parts, p) -/
theorem wpList_append_ptr (w : World) {ops : Array Oper} {rest : List Oper} {o : Oper} {a : Act} {Q : Exit → Act → World → Prop} (hgd : o.guard = none) (sl x : Operand)
    (ho : o.op = .call { callee := .builtin .append, args := #[sl, x], argTypes := #[59, 59] })
    (base : Nat) (v : Value) (n : Nat) (xs : List Value) (hs : a.eval sl = v) (hown : w.ownsRow base 64 1 v n xs) (b : Nat) (q : Option Addr) (hx : a.eval x = .slice (some ⟨b, 0, none⟩) 1 1) (hcell : w.cell? ⟨b, 0, none⟩ = some (.pointer q)) (hn : n ≤ 4194304) (hbase : base ≤ w.heap.size)
    (h : ∀ ao n' cap w', w'.ownsRow base 64 1 (.slice ao n' cap) (n + 1) (xs ++ [.pointer q]) → w.grownBy w' v.ownBlock → wpList Try.prog ops Q rest (a.put o.dst (.slice ao n' cap)) w') : wpList Try.prog ops Q (o :: rest) a w := by
  obtain ⟨i0, hi, hz0, hz1, hz2⟩ := info_parts info64
  refine wpList_append_own w hgd sl x 59 ho base 64 i0 (.pointer none) 1 8 Try.underlying59 hi hz0 hz1 hz2 rfl (by decide) v n xs hs hown ⟨b, 0, none⟩ 1 1 [.pointer q] hx rfl ?_ ?_ ?_ ?_ hbase ?_
  · intro j u hj
    match j, hj with
    | 0, hj => simp at hj; subst hj; simpa [Addr.add] using hcell
  · intro u hu; simp at hu; subst hu; rfl
  · unfold maxLen; omega
  · omega
  · intro v' w' h1 h2 _
    obtain ⟨ao, n', cap, rfl⟩ : ∃ ao n' cap, v' = .slice ao n' cap := by
      rcases h1.2 with ⟨hv, _⟩ | ⟨g, cap, cur, hv, _⟩
      · exact ⟨_, _, _, hv⟩
      · exact ⟨_, _, _, hv⟩
    exact h ao n' cap w' h1 h2

/-! ### the stages between the new call's block and the map's store -/
structure St (X : Nat → Prop) (w W : World) (B bb mb : Nat) (c0 v : Value) (len : Nat) (xs : List Value) (D : DataW Unit) (n : Nat) (p : PC) : Prop where
  bld : W.heap[bb]? = some (.cells #[c0, .map (some mb)] 62 (0, 0))
  row : W.ownsRow B 64 1 v len xs
  map : W.ownsMap Try.prog 3 R mb n D
  pat : p.At W B
  fr : Fr X w W

theorem row_block {w : World} {B : Nat} {e : TypeId} {v : Value} {n : Nat} {xs : List Value} (h : w.ownsRow B e 1 v n xs) {g : Nat} (hg : v.ownBlock = some g) : ∃ cur fz, w.heap[g]? = some (.cells cur e fz) := rowF_block (World.ownsRowF_of h) hg

/-- whatever turns a row of pointers alone -/
theorem St.keep {X : Nat → Prop} {w W W' : World} {B bb mb : Nat} {c0 v v' : Value} {len len' : Nat} {xs xs' : List Value} {D : DataW Unit} {n : Nat} {p : PC} (h : St X w W B bb mb c0 v len xs D n p) (hrow : W'.ownsRow B 64 1 v' len' xs') (hf : Fr (fun k => v.ownBlock = some k) W W') (hX : ∀ k, k < w.heap.size → v.ownBlock = some k → X k) : St X w W' B bb mb c0 v' len' xs' D n p := by
  have other : ∀ {k : Nat} {cs : Array Value} {t : TypeId} {f : Nat × Nat}, W.heap[k]? = some (.cells cs t f) → t ≠ 64 → ¬ v.ownBlock = some k := by
    intro k cs t f hk h2 q
    obtain ⟨cur, fz, hg⟩ := row_block h.row q
    exact cells_ne hk hg h2 rfl
  refine ⟨?_, hrow, hf.mapp h.map ?_, ⟨h.pat.base, ?_, h.pat.ad, hf.rowF h.pat.row (fun g cur fz _ hg => other hg (by decide))⟩, h.fr.trans hf hX⟩
  · rw [hf.block bb (lt_of_block h.bld) (other h.bld (by decide))]; exact h.bld
  · intro es clock hm q
    obtain ⟨cur, fz, hg⟩ := row_block h.row q
    exact map_ne hm hg rfl
  · rw [hf.block p.blk (lt_of_block h.pat.blk) (other h.pat.blk (by decide))]; exact h.pat.blk

/-- behind the append -/
theorem St.appended {X : Nat → Prop} {w W w2 : World} {B bb mb : Nat} {c0 v v' : Value} {len len' : Nat} {xs xs' : List Value} {D : DataW Unit} {n : Nat} {p : PC} {o : Obj} (h : St X w W B bb mb c0 v len xs D n p) (hrow : w2.ownsRow B 64 1 v' len' xs') (hg : (W.alloc o).grownBy w2 v.ownBlock) (hX : ∀ k, k < w.heap.size → v.ownBlock = some k → X k) : St X w w2 B bb mb c0 v' len' xs' D n p :=
  h.keep hrow (((Fr.alloc W o).mono (fun _ q => q.elim)).trans (Fr.of_grown hg) (fun _ _ q => q)) hX

/-- behind the store of the new slice -/
theorem St.stored {X : Nat → Prop} {w W : World} {B bb mb : Nat} {c0 v : Value} {len : Nat} {xs : List Value} {D : DataW Unit} {n : Nat} {p : PC} (h : St X w W B bb mb c0 v len xs D n p) (hX : X bb) : St X w (W.setCell ⟨bb, 0, none⟩ v) B bb mb v v len xs D n p := by
  have hf := Fr.setCell W ⟨bb, 0, none⟩ v
  refine ⟨?_, hf.row h.row (fun g cur fz _ hg => cells_ne hg h.bld (by decide)), hf.mapp h.map (fun es clock hm => map_ne hm h.bld), ⟨h.pat.base, ?_, h.pat.ad, hf.rowF h.pat.row (fun g cur fz _ hg => cells_ne hg h.bld (by decide))⟩, h.fr.trans hf (fun k _ q => by rw [q]; exact hX)⟩
  · simp [World.setCell, Array.getElem?_modify, h.bld]
  · rw [hf.block p.blk (lt_of_block h.pat.blk) (cells_ne h.pat.blk h.bld (by decide))]; exact h.pat.blk

/-- behind the map's store -/
theorem St.updated {X : Nat → Prop} {w W W' : World} {B bb mb : Nat} {c0 v : Value} {len : Nat} {xs : List Value} {D D' : DataW Unit} {n n' : Nat} {p : PC} (h : St X w W B bb mb c0 v len xs D n p) (hown : W'.ownsMap Try.prog 3 R mb n' D') (hg : W.grownBy W' (some mb)) (hX : ∀ k, k < w.heap.size → k = mb → X k) : St X w W' B bb mb c0 v len xs D' n' p := by
  have hf := Fr.of_grown hg
  obtain ⟨es, clock, hm, _⟩ := h.map
  have other : ∀ {k : Nat} {cs : Array Value} {t : TypeId} {f : Nat × Nat}, W.heap[k]? = some (.cells cs t f) → ¬ some mb = some k := by
    intro k cs t f hk q
    have : mb = k := by simpa using q
    exact map_ne hm hk this
  refine ⟨?_, hf.row h.row (fun g cur fz _ hg => other hg), hown, ⟨h.pat.base, ?_, h.pat.ad, hf.rowF h.pat.row (fun g cur fz _ hg => other hg)⟩, h.fr.trans hf (fun k hk q => hX k hk (by simpa using q.symm))⟩
  · rw [hf.block bb (lt_of_block h.bld) (other h.bld)]; exact h.bld
  · rw [hf.block p.blk (lt_of_block h.pat.blk) (other h.pat.blk)]; exact h.pat.blk

/-- the call as it begins -/
def begun (b : Nat) (ix : Int) : PC := { blk := b, ix := ix, id := ⟨#[]⟩, name := ⟨#[]⟩, ad := .pointer none, buf := .slice none 0 0, bs := [] }
theorem begun_at (W : World) (B : Nat) (ix : Int) (hB : B ≤ W.heap.size) : (begun W.heap.size ix).At (W.alloc (.cells #[.int .i64 ix, .string ⟨#[]⟩, .string ⟨#[]⟩, .pointer none, .slice none 0 0] 70)) B :=
  ⟨hB, (MapKept.heap_alloc W _).1, .inl rfl, World.ownsRowF_nil _ _ _ _⟩

/-- the first stage, where the map is there -/
theorem St.first {w : World} {B bb mb n : Nat} {ps : List PC} {D : DataW Unit} {pv : Value} (h : Inv w B bb ps D n pv (.map (some mb))) (ix : Int) :
    St (fun k => k = bb ∨ pv.ownBlock = some k ∨ Value.map (some mb) = .map (some k)) w (w.alloc (.cells #[.int .i64 ix, .string ⟨#[]⟩, .string ⟨#[]⟩, .pointer none, .slice none 0 0] 70)) B bb mb pv pv ps.length (ps.map PC.ptr) D n (begun w.heap.size ix) := by
  have hf := Fr.alloc w (.cells #[.int .i64 ix, .string ⟨#[]⟩, .string ⟨#[]⟩, .pointer none, .slice none 0 0] 70)
  rcases h.map with ⟨e, _⟩ | ⟨mb', e, _, hm⟩
  · cases e
  · have : mb = mb' := by simpa using e
    subst this
    refine ⟨?_, hf.row h.row (fun _ _ _ _ _ q => q), hf.mapp hm (fun _ _ _ q => q), begun_at w B ix ?_, hf.mono (fun _ q => q.elim)⟩
    · rw [hf.block bb (lt_of_block h.bld) (fun q => q)]; exact h.bld
    · have := lt_of_block h.bld; have := h.base; omega

theorem Inv.xle {w : World} {B bb n : Nat} {ps : List PC} {D : DataW Unit} {pv mv : Value} (h : Inv w B bb ps D n pv mv) : ∀ k, (k = bb ∨ pv.ownBlock = some k ∨ mv = .map (some k)) → B ≤ k := by
  intro k q
  rcases q with q | q | q
  · rw [q]; exact h.base
  · exact (h.row.lt k q).1
  · rcases h.map with ⟨e, _⟩ | ⟨mb, e, h2, _⟩
    · rw [e] at q; cases q
    · rw [e] at q
      have : mb = k := by simpa using q
      rw [← this]; exact h2

theorem Inv.x27 {w : World} {B bb n : Nat} {ps : List PC} {D : DataW Unit} {pv mv : Value} (h : Inv w B bb ps D n pv mv) : ∀ (k : Nat) (cs : Array Value) (f : Nat × Nat), w.heap[k]? = some (.cells cs 27 f) → ¬ (k = bb ∨ pv.ownBlock = some k ∨ mv = .map (some k)) := by
  intro k cs f hk q
  rcases q with q | q | q
  · exact cells_ne hk h.bld (by decide) q
  · obtain ⟨cur, fz, hg⟩ := row_block h.row q
    exact cells_ne hk hg (by decide) rfl
  · rcases h.map with ⟨e, _⟩ | ⟨mb, e, _, es, clock, hm, _⟩
    · rw [e] at q; cases q
    · rw [e] at q
      have : mb = k := by simpa using q
      exact map_ne hm hk this

/-- the first stage, where the map is made -/
theorem St.first0 {w : World} {B bb n : Nat} {ps : List PC} {D : DataW Unit} {pv : Value} (h : Inv w B bb ps D n pv (.map none)) (ix : Int) :
    St (fun k => k = bb ∨ pv.ownBlock = some k ∨ Value.map none = .map (some k)) w (((w.setCell ⟨bb, 1, none⟩ (.map (some w.heap.size))).alloc (.map #[] 0)).alloc (.cells #[.int .i64 ix, .string ⟨#[]⟩, .string ⟨#[]⟩, .pointer none, .slice none 0 0] 70)) B bb w.heap.size pv pv ps.length (ps.map PC.ptr) D n (begun (w.heap.size + 1) ix) := by
  have hD : D = .map [] := by
    rcases h.map with ⟨_, e⟩ | ⟨_, e, _⟩
    · exact e
    · cases e
  subst hD
  have f1 := Fr.setCell w ⟨bb, 1, none⟩ (.map (some w.heap.size))
  have hb1 : (w.setCell ⟨bb, 1, none⟩ (.map (some w.heap.size))).heap[bb]? = some (.cells #[pv, .map (some w.heap.size)] 62 (0, 0)) := by simp [World.setCell, Array.getElem?_modify, h.bld]
  have hr1 := f1.row h.row (fun g cur fz _ hg => cells_ne hg h.bld (by decide))
  generalize hW0 : w.setCell ⟨bb, 1, none⟩ (.map (some w.heap.size)) = W0 at *
  have hs0 : W0.heap.size = w.heap.size := by rw [← hW0]; simp [World.setCell]
  have f2 := Fr.alloc W0 (.map #[] 0)
  have hm2 : (W0.alloc (.map #[] 0)).ownsMap Try.prog 3 R w.heap.size n (.map []) := by
    have := (World.ownsMap_made W0 Try.prog 3 R).mono (Nat.zero_le n)
    rw [hs0] at this
    exact this
  have hb2 : (W0.alloc (.map #[] 0)).heap[bb]? = some (.cells #[pv, .map (some w.heap.size)] 62 (0, 0)) := by rw [f2.block bb (lt_of_block hb1) (fun q => q)]; exact hb1
  have hr2 := f2.row hr1 (fun _ _ _ _ _ q => q)
  have hs2 : (W0.alloc (.map #[] 0)).heap.size = w.heap.size + 1 := by simp [hs0]
  generalize W0.alloc (.map #[] 0) = W at *
  have f3 := Fr.alloc W (.cells #[.int .i64 ix, .string ⟨#[]⟩, .string ⟨#[]⟩, .pointer none, .slice none 0 0] 70)
  have hat := begun_at W B ix (by have := h.base; have := lt_of_block h.bld; omega)
  rw [hs2] at hat
  refine ⟨?_, f3.row hr2 (fun _ _ _ _ _ q => q), f3.mapp hm2 (fun _ _ _ q => q), hat, ?_⟩
  · rw [f3.block bb (lt_of_block hb2) (fun q => q)]; exact hb2
  · exact ((f1.mono (fun k q => .inl q)).trans f2 (fun _ _ q => q.elim)).trans f3 (fun _ _ q => q.elim)

theorem Hid.mk {p : Prop} (h : p) : Hid p := h

theorem new_end {w w4 wy : World} {B bb n pb : Nat} {ps : List PC} {ix : Int} {D : DataW Unit} {pv mv : Value} {id name args : ByteArray} {m : Nat} (HI : Inv w4 B bb (ps ++ begun pb ix :: []) D n pv mv) (hm : n ≤ m + 1) (hbel : Below B w w4) (hkp : Keep27 w w4) (hfr : Fr (fun k => k = pb) w4 wy)
    {e : Ending} {w' : World} (hw : ∃ buf, (((begun pb ix).fill id name).wrote buf args).At w' B ∧ Fr (fun k => k = ((begun pb ix).fill id name).blk ∨ ((begun pb ix).fill id name).buf.ownBlock = some k) wy w' ∧ (buf.ownBlock = ((begun pb ix).fill id name).buf.ownBlock ∨ ∃ g, buf.ownBlock = some g ∧ wy.heap.size ≤ g))
    (he : e = .returned (.int .i64 ((args.size + 1024 + id.size + name.size : Nat) : Int))) : AddPost B bb ps m id name args w e w' := by
  obtain ⟨buf, a1, a2, a3⟩ := hw
  obtain ⟨hI', hb, hkk⟩ := fin (p1 := (begun pb ix).fill id name) HI rfl rfl hfr a1 a2 a3
  refine ⟨args.size + 1024 + id.size + name.size, _, D, n, pv, mv, he, hI', hbel.trans hb, by omega, by omega, ?_, by simp, by simp, by simp, hm, hkp.trans hkk⟩
  rw [held_mid]
  unfold PC.sz PC.wrote PC.fill begun
  have : args.data.toList.length = args.size := by simp
  have h0 : held [] = 0 := rfl
  simp only [List.length_append, List.length_nil, h0]
  omega

set_option maxHeartbeats 1000000 in
theorem add_new2 (B bb n : Nat) (mb : Nat) (ps : List PC) (D : DataW Unit) (pv : Value) (ix : Int) (id name args : ByteArray) (w : World) (hI : Inv w B bb ps D n pv (.map (some mb))) (wf : (Lit.int .i64 ix).wf = true)
    (hlook : (Instr.lookup 60 (.map (some mb)) (.int .i64 ix) false).run Try.prog w = .ok (.pointer none) w) (hsa : args.size ≤ 1048576) (hsi : id.size ≤ 1048576) (hsn : name.size ≤ 1048576) (hn : n ≤ 4194304) (hl : ps.length ≤ 4194304) :
    Calls Try.prog 31 #[.pointer (some ⟨bb, 0, none⟩), .int .i64 ix, .string id, .string name, .string args] w (AddPost B bb ps n id name args w) := by
  have HI : Hid (Inv w B bb ps D n pv (.map (some mb))) := hI
  have HL : Hid ((Instr.lookup 60 (.map (some mb)) (.int .i64 ix) false).run Try.prog w = .ok (.pointer none) w) := hlook
  have b1 : w.cell? ⟨bb, 1, none⟩ = some (.map (some mb)) := by rw [Lib.cell_of_heap hI.bld]; rfl
  have HB : Hid (B ≤ w.heap.size) := by have := lt_of_block hI.bld; have := hI.base; exact (by omega : B ≤ w.heap.size)
  have HMB : Hid (B ≤ mb) := by
    rcases hI.map with ⟨q, _⟩ | ⟨mb', q, h2, _⟩
    · cases q
    · have : mb = mb' := by simpa using q
      rw [this]; exact h2
  have heq := fun wx => run_eql_map_nil (P := Try.prog) wx 60 3 64 (some mb) Try.underlying60
  clear hI hlook
  go_enter Try.func31, Try.ntmps31
  go_upto_region 7 with (at_lookup; refine wpList_lookup_is _ rfl _ _ 60 rfl (.map (some mb)) (.int .i64 ix) _ rfl rfl HL.out ?_)
  have HS := Hid.mk (St.first HI.out ix)
  have HSZ : Hid ((w.alloc (.cells #[.int .i64 ix, .string ⟨#[]⟩, .string ⟨#[]⟩, .pointer none, .slice none 0 0] 70)).heap.size = w.heap.size + 1) := by simp [Hid]
  clear b1 heq
  generalize (w.alloc (.cells #[.int .i64 ix, .string ⟨#[]⟩, .string ⟨#[]⟩, .pointer none, .slice none 0 0] 70)) = W1 at *
  have HW : Hid (B ≤ W1.heap.size) := by have := HSZ.out; have := HB.out; exact (by omega : B ≤ W1.heap.size)
  have a0 : W1.cell? ⟨bb, 0, none⟩ = some pv := by rw [Lib.cell_of_heap HS.out.bld]; rfl
  go_upto_region 8 with (at_builtin; refine wpList_append_ptr _ rfl _ _ rfl B pv ps.length (ps.map PC.ptr) rfl (HS.out.row.alloc _) W1.heap.size (some ⟨w.heap.size, 0, none⟩) rfl (by simp) hl (by simpa using Nat.le_succ_of_le HW.out) ?_; intro ao n' cap w2 hown2 hgrow2; have HS2 := Hid.mk (HS.out.appended hown2 hgrow2 (fun k _ q => .inr (.inl q))); have d0 : w2.cell? ⟨bb, 0, none⟩ = some pv := (by rw [Lib.cell_of_heap HS2.out.bld]; rfl); have d0f : w2.frozen? ⟨bb, 0, none⟩ = false := Lib.frozen_of_heap HS2.out.bld 0)
  have HS3 := Hid.mk (HS2.out.stored (.inl rfl))
  clear d0 d0f a0 hown2 hgrow2
  generalize (w2.setCell ⟨bb, 0, none⟩ (.slice ao n' cap)) = W3 at *
  have d1 : W3.cell? ⟨bb, 1, none⟩ = some (.map (some mb)) := by rw [Lib.cell_of_heap HS3.out.bld]; rfl
  have hkey : keyOf Try.prog 3 (.int .i64 ix) = some (.int .i64 ix) := Go.Maps.keyOf_int_mk Try.underlying3 wf
  go_upto_region 9 with (at_mapUpdate; refine wpList_mapUpdate_own _ rfl _ _ _ 60 rfl 3 64 law3 Try.underlying60 _ mb n _ rfl HS3.out.map (by unfold maxLen; omega) _ _ _ rfl rfl hkey (.lit (.int .i64 (w.heap.size : Nat))) [] rfl ?_; intro w4 hown4 hgrow4)
  have HS4 := HS3.out.updated hown4 hgrow4 (fun k _ q => .inr (.inr (by rw [q])))
  have HI4 := Hid.mk (HI.out.new (p := begun w.heap.size ix) HS4.pat (Nat.le_refl _) rfl HS4.bld HS4.row HMB.out HS4.map HS4.fr)
  have HP4 : Hid ((begun w.heap.size ix).At w4 B) := HS4.pat
  have HBEL : Hid (Below B w w4) := HS4.fr.below HI.out.xle HB.out
  have HKP : Hid (Keep27 w w4) := HS4.fr.keep27 HI.out.x27
  clear hown4 hgrow4 d1 hkey HS4
  have c1 : w4.cell? ⟨w.heap.size, 1, none⟩ = some (.string ⟨#[]⟩) := cell_of_at HP4.out 1
  have c2 : w4.cell? ⟨w.heap.size, 2, none⟩ = some (.string ⟨#[]⟩) := cell_of_at HP4.out 2
  have f1 : w4.frozen? ⟨w.heap.size, 1, none⟩ = false := frozen_of_at HP4.out 1
  have f2 : w4.frozen? ⟨w.heap.size, 2, none⟩ = false := frozen_of_at HP4.out 2
  go_wp2_with fail
  refine (write_any B ((begun w.heap.size ix).fill id name) args _ ?_ ?_ ?_).mono ?_
  · exact At.put (At.put HP4.out 1 (.string id) (q := (begun w.heap.size ix).fill id ⟨#[]⟩) rfl rfl HP4.out.ad HP4.out.row) 2 (.string name) (q := (begun w.heap.size ix).fill id name) rfl rfl HP4.out.ad ((Fr.setCell w4 ⟨w.heap.size, 1, none⟩ _).rowF HP4.out.row (fun g cur fz _ hg => cells_ne hg HP4.out.blk (by decide)))
  · exact Nat.le_trans HB.out (Nat.le_trans HBEL.out.size (by simp [World.setCell]))
  · show 0 + args.size ≤ _; omega
  rintro e w' ⟨rfl, hw⟩
  go_wp2_with fail
  go_ret
  exact new_end HI4.out (by omega) HBEL.out HKP.out (((Fr.setCell w4 ⟨w.heap.size, 1, none⟩ _).mono (fun _ q => q)).trans (Fr.setCell _ ⟨w.heap.size, 2, none⟩ _) (fun _ _ q => q)) hw (ret_int (by omega))

set_option maxHeartbeats 1000000 in
theorem add_new3 (B bb n : Nat) (mb : Nat) (p : PC) (A C : List PC) (ps : List PC) (D : DataW Unit) (pv : Value) (ix : Int) (id name args : ByteArray) (w : World) (hI : Inv w B bb ps D n pv (.map (some mb))) (wf : (Lit.int .i64 ix).wf = true)
    (hlook : (Instr.lookup 60 (.map (some mb)) (.int .i64 ix) false).run Try.prog w = .ok (.pointer (some ⟨p.blk, 0, none⟩)) w) (hsa : args.size ≤ 1048576) (hsi : id.size ≤ 1048576) (hsn : name.size ≤ 1048576) (hn : n ≤ 4194304) (hl : ps.length ≤ 4194304)
    (hps : ps = A ++ p :: C) (_eI : ¬ id.toList = []) (eI' : id.toList.isEmpty = false) (_eP : ¬ p.id.toList = []) (eP' : p.id.toList.isEmpty = false) (eQ : (p.id.toList == id.toList) = false) :
    Calls Try.prog 31 #[.pointer (some ⟨bb, 0, none⟩), .int .i64 ix, .string id, .string name, .string args] w (AddPost B bb ps n id name args w) := by
  have HI : Hid (Inv w B bb ps D n pv (.map (some mb))) := hI
  have HL : Hid ((Instr.lookup 60 (.map (some mb)) (.int .i64 ix) false).run Try.prog w = .ok (.pointer (some ⟨p.blk, 0, none⟩)) w) := hlook
  have b1 : w.cell? ⟨bb, 1, none⟩ = some (.map (some mb)) := by rw [Lib.cell_of_heap hI.bld]; rfl
  have HB : Hid (B ≤ w.heap.size) := by have := lt_of_block hI.bld; have := hI.base; exact (by omega : B ≤ w.heap.size)
  have HMB : Hid (B ≤ mb) := by
    rcases hI.map with ⟨q, _⟩ | ⟨mb', q, h2, _⟩
    · cases q
    · have : mb = mb' := by simpa using q
      rw [this]; exact h2
  have heq := fun wx => run_eql_map_nil (P := Try.prog) wx 60 3 64 (some mb) Try.underlying60
  have HP0 : Hid (p.At w B) := hI.ats p (by rw [hps]; simp)
  have k1 : w.cell? ⟨p.blk, 1, none⟩ = some (.string p.id) := by rw [cell_of_at HP0.out]; rfl
  clear hps
  clear hI hlook
  go_enter Try.func31, Try.ntmps31
  go_upto_region 7 with (at_lookup; refine wpList_lookup_is _ rfl _ _ 60 rfl (.map (some mb)) (.int .i64 ix) _ rfl rfl HL.out ?_)
  have HS := Hid.mk (St.first HI.out ix)
  have HSZ : Hid ((w.alloc (.cells #[.int .i64 ix, .string ⟨#[]⟩, .string ⟨#[]⟩, .pointer none, .slice none 0 0] 70)).heap.size = w.heap.size + 1) := by simp [Hid]
  clear b1 heq k1
  generalize (w.alloc (.cells #[.int .i64 ix, .string ⟨#[]⟩, .string ⟨#[]⟩, .pointer none, .slice none 0 0] 70)) = W1 at *
  have HW : Hid (B ≤ W1.heap.size) := by have := HSZ.out; have := HB.out; exact (by omega : B ≤ W1.heap.size)
  have a0 : W1.cell? ⟨bb, 0, none⟩ = some pv := by rw [Lib.cell_of_heap HS.out.bld]; rfl
  go_upto_region 8 with (at_builtin; refine wpList_append_ptr _ rfl _ _ rfl B pv ps.length (ps.map PC.ptr) rfl (HS.out.row.alloc _) W1.heap.size (some ⟨w.heap.size, 0, none⟩) rfl (by simp) hl (by simpa using Nat.le_succ_of_le HW.out) ?_; intro ao n' cap w2 hown2 hgrow2; have HS2 := Hid.mk (HS.out.appended hown2 hgrow2 (fun k _ q => .inr (.inl q))); have d0 : w2.cell? ⟨bb, 0, none⟩ = some pv := (by rw [Lib.cell_of_heap HS2.out.bld]; rfl); have d0f : w2.frozen? ⟨bb, 0, none⟩ = false := Lib.frozen_of_heap HS2.out.bld 0)
  have HS3 := Hid.mk (HS2.out.stored (.inl rfl))
  clear d0 d0f a0 hown2 hgrow2
  generalize (w2.setCell ⟨bb, 0, none⟩ (.slice ao n' cap)) = W3 at *
  have d1 : W3.cell? ⟨bb, 1, none⟩ = some (.map (some mb)) := by rw [Lib.cell_of_heap HS3.out.bld]; rfl
  have hkey : keyOf Try.prog 3 (.int .i64 ix) = some (.int .i64 ix) := Go.Maps.keyOf_int_mk Try.underlying3 wf
  go_upto_region 9 with (at_mapUpdate; refine wpList_mapUpdate_own _ rfl _ _ _ 60 rfl 3 64 law3 Try.underlying60 _ mb n _ rfl HS3.out.map (by unfold maxLen; omega) _ _ _ rfl rfl hkey (.lit (.int .i64 (w.heap.size : Nat))) [] rfl ?_; intro w4 hown4 hgrow4)
  have HS4 := HS3.out.updated hown4 hgrow4 (fun k _ q => .inr (.inr (by rw [q])))
  have HI4 := Hid.mk (HI.out.new (p := begun w.heap.size ix) HS4.pat (Nat.le_refl _) rfl HS4.bld HS4.row HMB.out HS4.map HS4.fr)
  have HP4 : Hid ((begun w.heap.size ix).At w4 B) := HS4.pat
  have HBEL : Hid (Below B w w4) := HS4.fr.below HI.out.xle HB.out
  have HKP : Hid (Keep27 w w4) := HS4.fr.keep27 HI.out.x27
  clear hown4 hgrow4 d1 hkey HS4
  have c1 : w4.cell? ⟨w.heap.size, 1, none⟩ = some (.string ⟨#[]⟩) := cell_of_at HP4.out 1
  have c2 : w4.cell? ⟨w.heap.size, 2, none⟩ = some (.string ⟨#[]⟩) := cell_of_at HP4.out 2
  have f1 : w4.frozen? ⟨w.heap.size, 1, none⟩ = false := frozen_of_at HP4.out 1
  have f2 : w4.frozen? ⟨w.heap.size, 2, none⟩ = false := frozen_of_at HP4.out 2
  go_wp2_with fail
  refine (write_any B ((begun w.heap.size ix).fill id name) args _ ?_ ?_ ?_).mono ?_
  · exact At.put (At.put HP4.out 1 (.string id) (q := (begun w.heap.size ix).fill id ⟨#[]⟩) rfl rfl HP4.out.ad HP4.out.row) 2 (.string name) (q := (begun w.heap.size ix).fill id name) rfl rfl HP4.out.ad ((Fr.setCell w4 ⟨w.heap.size, 1, none⟩ _).rowF HP4.out.row (fun g cur fz _ hg => cells_ne hg HP4.out.blk (by decide)))
  · exact Nat.le_trans HB.out (Nat.le_trans HBEL.out.size (by simp [World.setCell]))
  · show 0 + args.size ≤ _; omega
  rintro e w' ⟨rfl, hw⟩
  go_wp2_with fail
  go_ret
  exact new_end HI4.out (by omega) HBEL.out HKP.out (((Fr.setCell w4 ⟨w.heap.size, 1, none⟩ _).mono (fun _ q => q)).trans (Fr.setCell _ ⟨w.heap.size, 2, none⟩ _) (fun _ _ q => q)) hw (ret_int (by omega))

set_option maxHeartbeats 1000000 in
theorem add_new1 (B bb n : Nat)  (ps : List PC) (D : DataW Unit) (pv : Value) (ix : Int) (id name args : ByteArray) (w : World) (hI : Inv w B bb ps D n pv (.map none)) (wf : (Lit.int .i64 ix).wf = true)
    (hlook : (Instr.lookup 60 (.map none) (.int .i64 ix) false).run Try.prog w = .ok (.pointer none) w) (hsa : args.size ≤ 1048576) (hsi : id.size ≤ 1048576) (hsn : name.size ≤ 1048576) (hn : n ≤ 4194304) (hl : ps.length ≤ 4194304) :
    Calls Try.prog 31 #[.pointer (some ⟨bb, 0, none⟩), .int .i64 ix, .string id, .string name, .string args] w (AddPost B bb ps n id name args w) := by
  have HI : Hid (Inv w B bb ps D n pv (.map none)) := hI
  have HL : Hid ((Instr.lookup 60 (.map none) (.int .i64 ix) false).run Try.prog w = .ok (.pointer none) w) := hlook
  have b1 : w.cell? ⟨bb, 1, none⟩ = some (.map none) := by rw [Lib.cell_of_heap hI.bld]; rfl
  have HB : Hid (B ≤ w.heap.size) := by have := lt_of_block hI.bld; have := hI.base; exact (by omega : B ≤ w.heap.size)
  have hbf : w.frozen? ⟨bb, 1, none⟩ = false := Lib.frozen_of_heap hI.bld 1
  have hbb : bb < w.heap.size := lt_of_block hI.bld
  have heq := fun wx => run_eql_map_nil (P := Try.prog) wx 60 3 64 none Try.underlying60
  have hmm := @run_makeMap Try.prog
  clear hI hlook
  go_enter Try.func31, Try.ntmps31
  go_upto_region 7 with (at_lookup; refine wpList_lookup_is _ rfl _ _ 60 rfl (.map none) (.int .i64 ix) _ rfl rfl HL.out ?_)
  have HS := Hid.mk (St.first0 HI.out ix)
  have HSZ : Hid ((((w.setCell ⟨bb, 1, none⟩ (.map (some w.heap.size))).alloc (.map #[] 0)).alloc (.cells #[.int .i64 ix, .string ⟨#[]⟩, .string ⟨#[]⟩, .pointer none, .slice none 0 0] 70)).heap.size = w.heap.size + 2) := by simp [Hid, World.setCell]
  clear b1 heq hmm hbf
  generalize (((w.setCell ⟨bb, 1, none⟩ (.map (some w.heap.size))).alloc (.map #[] 0)).alloc (.cells #[.int .i64 ix, .string ⟨#[]⟩, .string ⟨#[]⟩, .pointer none, .slice none 0 0] 70)) = W1 at *
  have HW : Hid (B ≤ W1.heap.size) := by have := HSZ.out; have := HB.out; exact (by omega : B ≤ W1.heap.size)
  have a0 : W1.cell? ⟨bb, 0, none⟩ = some pv := by rw [Lib.cell_of_heap HS.out.bld]; rfl
  go_upto_region 8 with (at_builtin; refine wpList_append_ptr _ rfl _ _ rfl B pv ps.length (ps.map PC.ptr) rfl (HS.out.row.alloc _) W1.heap.size (some ⟨(w.heap.size + 1), 0, none⟩) rfl (by simp) hl (by simpa using Nat.le_succ_of_le HW.out) ?_; intro ao n' cap w2 hown2 hgrow2; have HS2 := Hid.mk (HS.out.appended hown2 hgrow2 (fun k _ q => .inr (.inl q))); have d0 : w2.cell? ⟨bb, 0, none⟩ = some pv := (by rw [Lib.cell_of_heap HS2.out.bld]; rfl); have d0f : w2.frozen? ⟨bb, 0, none⟩ = false := Lib.frozen_of_heap HS2.out.bld 0)
  have HS3 := Hid.mk (HS2.out.stored (.inl rfl))
  clear d0 d0f a0 hown2 hgrow2
  generalize (w2.setCell ⟨bb, 0, none⟩ (.slice ao n' cap)) = W3 at *
  have d1 : W3.cell? ⟨bb, 1, none⟩ = some (.map (some w.heap.size)) := by rw [Lib.cell_of_heap HS3.out.bld]; rfl
  have hkey : keyOf Try.prog 3 (.int .i64 ix) = some (.int .i64 ix) := Go.Maps.keyOf_int_mk Try.underlying3 wf
  go_upto_region 9 with (at_mapUpdate; refine wpList_mapUpdate_own _ rfl _ _ _ 60 rfl 3 64 law3 Try.underlying60 _ w.heap.size n _ rfl HS3.out.map (by unfold maxLen; omega) _ _ _ rfl rfl hkey (.lit (.int .i64 ((w.heap.size + 1) : Nat))) [] rfl ?_; intro w4 hown4 hgrow4)
  have HS4 := HS3.out.updated hown4 hgrow4 (fun k hk q => absurd q (by omega))
  have HI4 := Hid.mk (HI.out.new (p := begun (w.heap.size + 1) ix) HS4.pat (Nat.le_succ _) rfl HS4.bld HS4.row HB.out HS4.map HS4.fr)
  have HP4 : Hid ((begun (w.heap.size + 1) ix).At w4 B) := HS4.pat
  have HBEL : Hid (Below B w w4) := HS4.fr.below HI.out.xle HB.out
  have HKP : Hid (Keep27 w w4) := HS4.fr.keep27 HI.out.x27
  clear hown4 hgrow4 d1 hkey HS4
  have c1 : w4.cell? ⟨(w.heap.size + 1), 1, none⟩ = some (.string ⟨#[]⟩) := cell_of_at HP4.out 1
  have c2 : w4.cell? ⟨(w.heap.size + 1), 2, none⟩ = some (.string ⟨#[]⟩) := cell_of_at HP4.out 2
  have f1 : w4.frozen? ⟨(w.heap.size + 1), 1, none⟩ = false := frozen_of_at HP4.out 1
  have f2 : w4.frozen? ⟨(w.heap.size + 1), 2, none⟩ = false := frozen_of_at HP4.out 2
  go_wp2_with fail
  refine (write_any B ((begun (w.heap.size + 1) ix).fill id name) args _ ?_ ?_ ?_).mono ?_
  · exact At.put (At.put HP4.out 1 (.string id) (q := (begun (w.heap.size + 1) ix).fill id ⟨#[]⟩) rfl rfl HP4.out.ad HP4.out.row) 2 (.string name) (q := (begun (w.heap.size + 1) ix).fill id name) rfl rfl HP4.out.ad ((Fr.setCell w4 ⟨(w.heap.size + 1), 1, none⟩ _).rowF HP4.out.row (fun g cur fz _ hg => cells_ne hg HP4.out.blk (by decide)))
  · exact Nat.le_trans HB.out (Nat.le_trans HBEL.out.size (by simp [World.setCell]))
  · show 0 + args.size ≤ _; omega
  rintro e w' ⟨rfl, hw⟩
  go_wp2_with fail
  go_ret
  exact new_end HI4.out (by omega) HBEL.out HKP.out (((Fr.setCell w4 ⟨(w.heap.size + 1), 1, none⟩ _).mono (fun _ q => q)).trans (Fr.setCell _ ⟨(w.heap.size + 1), 2, none⟩ _) (fun _ _ q => q)) hw (ret_int (by omega))

end Go.Proofs.Qxb6603195a.W5
