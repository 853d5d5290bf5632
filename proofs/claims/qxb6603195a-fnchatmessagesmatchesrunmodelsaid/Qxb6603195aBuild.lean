/-
  strings.Builder IN A FIELD: copyCheck (41), WriteString (36), String (32), at a builder that lies in cells 3 and 4 of a partialCall's block.
-/
import Derived.Test.Qxb6603195aHeap
import Derived.RegionTactic
import Derived.BigRegion
namespace Go.Proofs.Qxb6603195a.W5
open Go.ChangeShapes Go.WideShapes Go.ChangeAt Go.RowKit

theorem info68 : ∃ j, Try.prog.info? 68 = some j ∧ j.size = 2 := by
  have h : (Try.prog.info? 68).map (·.size) = some 2 := by kernel_rfl
  obtain ⟨j, hj, hs⟩ := Option.map_eq_some_iff.1 h
  exact ⟨j, hj, hs⟩
theorem info5 : (Try.prog.info? 5).map (fun i => (i.zero, i.size, i.bytes)) = some (some (.int .u8 0), 1, 1) := by kernel_rfl
theorem lies68 : liesAt Try.prog Try.prog.depth 70 (5 / Try.prog.cellsOf 70) 3 68 1 = true := by kernel_rfl

set_option maxHeartbeats 1000000 in
theorem copyCheck_fresh (b : Nat) (w : World) (h3 : w.cell? ⟨b, 3, none⟩ = some (.pointer none)) (hsh : w.shape? b = some (70, 5)) (hfz : w.frozen? ⟨b, 3, none⟩ = false) :
    Calls Try.prog 41 #[.pointer (some ⟨b, 3, none⟩)] w fun e w' => e = .returned (.tuple #[]) ∧ w' = w.setCell ⟨b, 3, none⟩ (.pointer (some ⟨b, 3, none⟩)) := by
  obtain ⟨j, hj, hjs⟩ := info68
  have hto := Lib.run_to_unsafe (P := Try.prog) w (src := 65) (dst := 95) ⟨b, 3, none⟩ Try.underlying65 Try.underlying95 hj (by rw [hjs]; decide) hsh (by show 3 < 5; decide)
  have hfrom := Lib.run_from_unsafe (P := Try.prog) w (src := 95) (dst := 65) ⟨b, 3, none⟩ Try.underlying95 Try.underlying65 hj hsh lies68
  have hne := Lib.run_neq_ptr_same (P := Try.prog) (w.setCell ⟨b, 3, none⟩ (.pointer (some ⟨b, 3, none⟩))) (tp := 65) ⟨b, 3, none⟩ Try.underlying65 hj
  go_enter Try.func41, Try.ntmps41
  go_wp2
  rw [run_callFunc_extern Try.func45 (by kernel_rfl) (by kernel_rfl) (by kernel_rfl) (e := Extern.AbiNoEscape.same) (by kernel_rfl)]
  rw [Lib.run_noEscape]
  simp only [Result.andThen]
  rw [Oper.upon_value]
  go_wp2
  go_end0
  exact ⟨rfl, rfl⟩

theorem copyCheck_used (b : Nat) (w : World) (h3 : w.cell? ⟨b, 3, none⟩ = some (.pointer (some ⟨b, 3, none⟩))) :
    Calls Try.prog 41 #[.pointer (some ⟨b, 3, none⟩)] w fun e w' => e = .returned (.tuple #[]) ∧ w' = w := by
  obtain ⟨j, hj, hjs⟩ := info68
  have hne := Lib.run_neq_ptr_same (P := Try.prog) w (tp := 65) ⟨b, 3, none⟩ Try.underlying65 hj
  go_enter Try.func41, Try.ntmps41
  go_wp2
  go_end0
  exact ⟨rfl, rfl⟩

/-! ### append(buf, s...): and where the new row lies -/
theorem run_append_str (w : World) (ty : TypeId) (base : Nat) (v : Value) (n : Nat) (xs : List Value) (hown : w.ownsRowF base 5 1 v n xs) (s : ByteArray) (hbytes : n + s.size ≤ 70368744177664) (hbase : base ≤ w.heap.size) :
    ∃ v' w', (Builtin.append_ #[66, 9] ty #[v, .string s]).run Try.prog w = .ok v' w' ∧ w'.ownsRowF base 5 1 v' (n + s.size) (xs ++ Lib.strCells s) ∧ w.grownBy w' v.ownBlock ∧ (v'.ownBlock = v.ownBlock ∨ ∃ g, v'.ownBlock = some g ∧ w.heap.size ≤ g) := by
  obtain ⟨i0, hi, hz0, hz1, hz2⟩ := info_parts info5
  have hm : n + s.size ≤ maxLen := by unfold maxLen; omega
  obtain ⟨v', w', hr, h2, h3, h4⟩ := Lib.run_append_own_stringF (P := Try.prog) w base 66 9 ty 5 i0 Try.underlying66 Try.underlying9 hi hz0 hz1 hz2 v n xs hown s hm (by omega) hbase
  refine ⟨v', w', hr, h2, h3, ?_⟩
  rcases hown.2 with ⟨rfl, rfl⟩ | ⟨g, cap, cur, fz, rfl, hbg, hg, hfz, hnc, hcm, hcs, htake⟩
  · by_cases h0 : s.size = 0
    · left
      rw [h4.2 ⟨rfl, h0⟩]
    · right
      have hr2 := run_append_nil_string (P := Try.prog) w 66 9 ty 5 i0 (.int .u8 0) Try.underlying66 Try.underlying9 hi hz0 s (by omega) (by omega) (by rw [hz2]; omega)
      rw [hr] at hr2
      injection hr2 with e1 e2
      exact ⟨w.heap.size, by rw [e1]; rfl, Nat.le_refl _⟩
  · have hxl : xs.length = n := by simpa using hown.1
    by_cases hroom : n + s.size ≤ cap
    · left
      have hcs' : cur.size = cap := by simpa using hcs
      have hr2 := Lib.run_append_room_stringF (P := Try.prog) w 66 9 ty 5 i0 Try.underlying66 Try.underlying9 hi hz1 g n cap cur fz hg (by simpa using hfz) s hroom (by omega)
      rw [hr] at hr2
      injection hr2 with e1 e2
      rw [e1]; rfl
    · right
      have holds : ∀ j u, xs[j]? = some u → w.cell? ((⟨g, 0, none⟩ : Addr).add j) = some u := hown.cells (g := g) rfl
      have hr2 := Lib.run_append_grow_string (P := Try.prog) w 66 9 ty 5 i0 (.int .u8 0) Try.underlying66 Try.underlying9 hi hz0 ⟨g, 0, none⟩ n cap xs (by rw [hz1]; simpa using hxl) holds s (by omega) (by omega) (by rw [hz2]; exact growslice_fits (by omega) (by omega))
      rw [hr] at hr2
      injection hr2 with e1 e2
      exact ⟨w.heap.size, by rw [e1]; rfl, Nat.le_refl _⟩

theorem wpList_append_str (w : World) {ops : Array Oper} {rest : List Oper} {o : Oper} {a : Act} {Q : Exit → Act → World → Prop} (hgd : o.guard = none) (sl x : Operand)
    (ho : o.op = .call { callee := .builtin .append, args := #[sl, x], argTypes := #[66, 9] })
    (base : Nat) (v : Value) (n : Nat) (xs : List Value) (hs : a.eval sl = v) (hown : w.ownsRowF base 5 1 v n xs) (s : ByteArray) (hx : a.eval x = .string s) (hbytes : n + s.size ≤ 70368744177664) (hbase : base ≤ w.heap.size)
    (h : ∀ ao n' cap w', w'.ownsRowF base 5 1 (.slice ao n' cap) (n + s.size) (xs ++ Lib.strCells s) → w.grownBy w' v.ownBlock → ((Value.slice ao n' cap).ownBlock = v.ownBlock ∨ ∃ g, (Value.slice ao n' cap).ownBlock = some g ∧ w.heap.size ≤ g) → wpList Try.prog ops Q rest (a.put o.dst (.slice ao n' cap)) w') : wpList Try.prog ops Q (o :: rest) a w := by
  refine wpList_plain hgd fun K hK => ?_
  obtain ⟨v', w', hr, h2, h3, h4⟩ := run_append_str w o.type base v n xs hown s hbytes hbase
  unfold Oper.wp execOp
  simp only [ho, resolve, invoke, builtin, Sem.run_bind, Sem.run_pure, Result.andThen_ok, List.map_toArray, List.map_cons, List.map_nil, hs, hx, hr]
  obtain ⟨ao, n', cap, rfl⟩ : ∃ ao n' cap, v' = .slice ao n' cap := by
    rcases h2.2 with ⟨hv, _⟩ | ⟨g, cap, cur, fz, hv, _⟩
    · exact ⟨_, _, _, hv⟩
    · exact ⟨_, _, _, hv⟩
  exact hK _ _ (h ao n' cap w' h2 h3 h4)

/-! ### the contracts -/
theorem cell_of_at {w : World} {B : Nat} {p : PC} (h : p.At w B) (j : Nat) : w.cell? ⟨p.blk, j, none⟩ = p.cells[j]? := Lib.cell_of_heap h.blk j
theorem frozen_of_at {w : World} {B : Nat} {p : PC} (h : p.At w B) (j : Nat) : w.frozen? ⟨p.blk, j, none⟩ = false := Lib.frozen_of_heap h.blk j

def PC.used (p : PC) : PC := { p with ad := .pointer (some ⟨p.blk, 3, none⟩) }

/-- a cell of the block is written -/
theorem At.put {w : World} {B : Nat} {p q : PC} (h : p.At w B) (j : Nat) (v : Value) (hblk : q.blk = p.blk) (hcells : q.cells = p.cells.setIfInBounds j v) (had : q.ad = .pointer none ∨ q.ad = .pointer (some ⟨q.blk, 3, none⟩)) (hrow : w.ownsRowF B 5 1 q.buf q.bs.length (Lib.byteCells q.bs)) : q.At (w.setCell ⟨p.blk, j, none⟩ v) B := by
  refine ⟨by rw [hblk]; exact h.base, ?_, had, ?_⟩
  · rw [hblk, hcells]
    simp [World.setCell, Array.getElem?_modify, h.blk]
  · refine (Fr.setCell w ⟨p.blk, j, none⟩ v).rowF hrow (fun g cur fz _ hg => ?_)
    exact cells_ne hg h.blk (by decide)

theorem copyCheck_any (B : Nat) (p : PC) (w : World) (h : p.At w B) :
    Calls Try.prog 41 #[.pointer (some ⟨p.blk, 3, none⟩)] w fun e w' => e = .returned (.tuple #[]) ∧ p.used.At w' B ∧ Fr (fun k => k = p.blk) w w' := by
  rcases h.ad with e | e
  · have h3 : w.cell? ⟨p.blk, 3, none⟩ = some (.pointer none) := by rw [cell_of_at h, ← e]; rfl
    refine (copyCheck_fresh p.blk w h3 (by simp [World.shape?, h.blk, PC.cells]) (frozen_of_at h 3)).mono ?_
    rintro e w' ⟨rfl, rfl⟩
    exact ⟨rfl, At.put h 3 _ rfl rfl (.inr rfl) h.row, Fr.setCell w ⟨p.blk, 3, none⟩ _⟩
  · have h3 : w.cell? ⟨p.blk, 3, none⟩ = some (.pointer (some ⟨p.blk, 3, none⟩)) := by rw [cell_of_at h, ← e]; rfl
    refine (copyCheck_used p.blk w h3).mono ?_
    rintro e' w' ⟨rfl, rfl⟩
    have : p.used = p := by unfold PC.used; rw [← e]
    rw [this]
    exact ⟨rfl, h, Fr.refl _ _⟩

def PC.wrote (p : PC) (buf : Value) (s : ByteArray) : PC := { p with ad := .pointer (some ⟨p.blk, 3, none⟩), buf := buf, bs := p.bs ++ s.data.toList }

def WritePost (B : Nat) (p : PC) (s : ByteArray) (w : World) (e : Ending) (w' : World) : Prop :=
  e = .returned (.tuple #[.int .i64 s.size, .nilIface]) ∧ ∃ buf, (p.wrote buf s).At w' B ∧ Fr (fun k => k = p.blk ∨ p.buf.ownBlock = some k) w w' ∧ (buf.ownBlock = p.buf.ownBlock ∨ ∃ g, buf.ownBlock = some g ∧ w.heap.size ≤ g)

set_option maxHeartbeats 1000000 in
theorem write_any (B : Nat) (p : PC) (s : ByteArray) (w : World) (h : p.At w B) (hB : B ≤ w.heap.size) (hlen : p.bs.length + s.size ≤ 70368744177664) :
    Calls Try.prog 36 #[.pointer (some ⟨p.blk, 3, none⟩), .string s] w (WritePost B p s w) := by
  have HH : Hid (p.At w B) := h
  clear h
  go_enter Try.func36, Try.ntmps36
  go_wp2_with fail
  refine (copyCheck_any B p _ HH.out).mono ?_
  rintro e w1 ⟨rfl, h1, hf1⟩
  have HP : Hid (p.used.At w1 B) := h1
  clear h1
  have c4 : w1.cell? ⟨p.blk, 4, none⟩ = some p.buf := by have := cell_of_at HP.out 4; exact this
  have hne4 : p.buf.ownBlock ≠ some p.blk := Lib.ownBlock_neF HP.out.row HP.out.blk (by decide)
  go_wp2_with (at_builtin; refine wpList_append_str _ rfl _ _ rfl B p.buf p.bs.length (Lib.byteCells p.bs) rfl HP.out.row s rfl hlen (Nat.le_trans hB hf1.size) ?_; intro ao n' cap w2 hown' hgrow hloc; have hb2 := (hgrow.block p.blk (lt_of_block HP.out.blk) (fun q => hne4 q.symm)).trans HP.out.blk; have d4 : w2.cell? ⟨p.blk, 4, none⟩ = some p.buf := (World.cell?_of_block (hgrow.block p.blk (lt_of_block HP.out.blk) (fun q => hne4 q.symm))).trans c4; have f4 : w2.frozen? ⟨p.blk, 4, none⟩ = false := Lib.frozen_of_heap hb2 4; have HB2 : Hid (w2.heap[p.blk]? = some (.cells p.used.cells 70 (0, 0))) := hb2; clear hb2)
  go_ret2
  refine ⟨rfl, .slice ao n' cap, ?_, ?_, ?_⟩
  · refine ⟨HP.out.base, ?_, .inr rfl, ?_⟩
    · show (w2.setCell ⟨p.blk, 4, none⟩ (.slice ao n' cap)).heap[p.blk]? = _
      simp [World.setCell, Array.getElem?_modify, HB2.out, PC.cells, PC.used, PC.wrote]
    · have e : (p.wrote (.slice ao n' cap) s).bs.length = p.bs.length + s.size := by simp [PC.wrote]
      rw [e]
      have e2 : Lib.byteCells (p.wrote (.slice ao n' cap) s).bs = Lib.byteCells p.bs ++ Lib.strCells s := Lib.byteCells_append _ _
      rw [e2]
      exact (Fr.setCell w2 ⟨p.blk, 4, none⟩ _).rowF hown' (fun g cur fz _ hg => cells_ne hg HB2.out (by decide))
  · have g1 : Fr (fun k => k = p.blk ∨ p.buf.ownBlock = some k) w w1 := hf1.mono (fun k hk => .inl hk)
    have g2 : Fr (fun k => k = p.blk ∨ p.buf.ownBlock = some k) w1 w2 := (Fr.of_grown hgrow).mono (fun k hk => .inr hk)
    have g3 : Fr (fun k => k = p.blk ∨ p.buf.ownBlock = some k) w2 (w2.setCell ⟨p.blk, 4, none⟩ (.slice ao n' cap)) := (Fr.setCell w2 ⟨p.blk, 4, none⟩ _).mono (fun k hk => .inl hk)
    exact (g1.trans g2 (fun _ _ q => q)).trans g3 (fun _ _ q => q)
  · rcases hloc with e | ⟨g, e, hg⟩
    · exact .inl e
    · exact .inr ⟨g, e, Nat.le_trans hf1.size hg⟩

/-! ### String -/
def StrPost (B : Nat) (p : PC) (w : World) (e : Ending) (w' : World) : Prop :=
  e = .returned (.string ⟨p.bs.toArray⟩) ∧ p.At w' B ∧ Fr (fun k => p.buf.ownBlock = some k) w w'

theorem freeze_at {w : World} {B : Nat} {p : PC} (h : p.At w B) {g cap : Nat} (hbuf : p.buf = .slice (some ⟨g, 0, none⟩) p.bs.length cap) (n : Nat) (hn : n = p.bs.length) : p.At (w.freeze ⟨g, 0, none⟩ n) B ∧ Fr (fun k => p.buf.ownBlock = some k) w (w.freeze ⟨g, 0, none⟩ n) := by
  subst hn
  have hfr : Fr (fun k => p.buf.ownBlock = some k) w (w.freeze ⟨g, 0, none⟩ p.bs.length) := by
    unfold World.freeze
    split
    · exact Fr.refl _ _
    · refine ⟨rfl, rfl, rfl, by simp, fun k _ hk => ?_⟩
      have : g ≠ k := fun e => hk (by rw [hbuf, e]; rfl)
      simp [Array.getElem?_modify, this]
  refine ⟨⟨h.base, ?_, h.ad, ?_⟩, hfr⟩
  · rw [hfr.block p.blk (lt_of_block h.blk) (Lib.ownBlock_neF h.row h.blk (by decide))]
    exact h.blk
  · have hr := h.row
    refine ⟨hr.1, ?_⟩
    rcases hr.2 with hz | ⟨g', cap', cur, fz, hv, hb, hg, hfz, rest⟩
    · exact .inl hz
    · have e : g' = g ∧ cap' = cap := by
        rw [hbuf] at hv
        injection hv with e1 e2 e3
        injection e1 with e1
        injection e1 with e1
        exact ⟨e1.symm, e3.symm⟩
      obtain ⟨rfl, rfl⟩ := e
      unfold World.freeze
      split
      · exact .inr ⟨g', cap', cur, fz, hv, hb, hg, hfz, rest⟩
      · refine .inr ⟨g', cap', cur, _, hv, hb, by simp [Array.getElem?_modify, hg]; rfl, ?_, rest⟩
        obtain ⟨lo, hi⟩ := fz
        simp only at hfz ⊢
        split <;> simp <;> omega

theorem at_drew {w : World} {B : Nat} {p : PC} (h : p.At w B) : p.At w.drew B := ⟨h.base, h.blk, h.ad, h.row⟩
theorem at_alloc {w : World} {B : Nat} {p : PC} (h : p.At w B) (o : Obj) : p.At (w.alloc o) B := by
  refine ⟨h.base, ?_, h.ad, (Fr.alloc w o).rowF h.row (fun _ _ _ _ _ q => q)⟩
  rw [(Fr.alloc w o).block p.blk (lt_of_block h.blk) (fun q => q)]
  exact h.blk
theorem fr_drew (X : Nat → Prop) (w : World) : Fr X w w.drew := ⟨rfl, rfl, rfl, Nat.le_refl _, fun _ _ _ => rfl⟩

set_option maxHeartbeats 1000000 in
theorem string_some (B : Nat) (p : PC) (w : World) (h : p.At w B) (h0 : p.bs ≠ []) :
    Calls Try.prog 32 #[.pointer (some ⟨p.blk, 3, none⟩)] w (StrPost B p w) := by
  have hl0 : p.bs.length ≠ 0 := by simpa using h0
  obtain ⟨g, cap, cur, fz, hv, hbg, hg, hfz, hnc, hcm, hcs, htake⟩ : ∃ g cap cur fz, p.buf = .slice (some ⟨g, 0, none⟩) p.bs.length cap ∧ B ≤ g ∧ w.heap[g]? = some (.cells cur 5 fz) ∧ fz.2 ≤ p.bs.length * 1 ∧ p.bs.length ≤ cap ∧ cap ≤ maxLen ∧ cur.size = cap * 1 ∧ cur.toList.take (p.bs.length * 1) = Lib.byteCells p.bs := by
    rcases h.row.2 with ⟨_, hz⟩ | ⟨g, cap, cur, fz, hv, r⟩
    · exact absurd hz hl0
    · exact ⟨g, cap, cur, fz, hv, r⟩
  have c4 : w.drew.cell? ⟨p.blk, 4, none⟩ = some (.slice (some ⟨g, 0, none⟩) p.bs.length cap) := by
    have := cell_of_at (at_drew h) 4
    rw [this, ← hv]; rfl
  have hSD : (Builtin.unsafeSliceData_ #[66] 84 #[.slice (some ⟨g, 0, none⟩) p.bs.length cap]).run Try.prog w.drew = .ok (.pointer (some ⟨g, 0, none⟩)) w.drew :=
    Lib.run_unsafeSliceData_row _ _ _ _ _ _ (by omega)
  have hUS : (Builtin.unsafeString_ #[84, 3] 9 #[.pointer (some ⟨g, 0, none⟩), .int .i64 p.bs.length]).run Try.prog w.drew = .ok (.string ⟨p.bs.toArray⟩) (w.drew.freeze ⟨g, 0, none⟩ p.bs.length) := by
    refine Lib.run_unsafeString_row w.drew 84 3 9 5 Try.underlying84 (by kernel_rfl) g cur.size (by have hg' : w.drew.heap[g]? = some (.cells cur 5 fz) := hg; simp [World.shape?, hg']) p.bs h0 (by omega) (by unfold maxLen at hcm; omega) ?_
    intro j x hx
    exact (World.ownsRowF.cells h.row (g := g) (by rw [hv]; rfl) j (.int .u8 x.toNat) (by simp [Lib.byteCells, hx]))
  have HK : Hid (p.At (w.drew.freeze ⟨g, 0, none⟩ p.bs.length) B ∧ Fr (fun k => p.buf.ownBlock = some k) w.drew (w.drew.freeze ⟨g, 0, none⟩ p.bs.length)) := freeze_at (at_drew h) hv _ rfl
  clear h hg hfz hnc hcm hcs htake hv hbg
  go_enter Try.func32, Try.ntmps32
  go_wp2
  go_region
  all_goals (go_wp2; go_ret; exact ⟨rfl, HK.out.1, (fr_drew _ w).trans HK.out.2 (fun _ _ q => q)⟩)

set_option maxHeartbeats 1000000 in
theorem string_nil (B : Nat) (p : PC) (w : World) (h : p.At w B) (h0 : p.bs = []) (hv : p.buf = .slice none 0 0) :
    Calls Try.prog 32 #[.pointer (some ⟨p.blk, 3, none⟩)] w (StrPost B p w) := by
  have hUS := fun (W : World) q => Lib.run_unsafeString_none (P := Try.prog) W 84 3 9 q
  have c4 : w.drew.cell? ⟨p.blk, 4, none⟩ = some (.slice none 0 0) := by
    have := cell_of_at (at_drew h) 4
    rw [this, ← hv]; rfl
  have hSD : (Builtin.unsafeSliceData_ #[66] 84 #[.slice none 0 0]).run Try.prog w.drew = .ok (.pointer none) w.drew := rfl
  have HK : Hid (p.At w.drew B) := at_drew h
  have HE : Hid (p.bs = []) := h0
  clear h hv h0
  go_enter Try.func32, Try.ntmps32
  go_wp2
  go_region
  all_goals (go_wp2; go_ret; exact ⟨by rw [HE.out]; rfl, HK.out, fr_drew _ w⟩)

set_option maxHeartbeats 1000000 in
theorem string_room (B g cap : Nat) (p : PC) (w : World) (h : p.At w B) (h0 : p.bs = []) (hc0 : cap ≠ 0) (hv : p.buf = .slice (some ⟨g, 0, none⟩) 0 cap) :
    Calls Try.prog 32 #[.pointer (some ⟨p.blk, 3, none⟩)] w (StrPost B p w) := by
  have hUS := fun (W : World) q => Lib.run_unsafeString_none (P := Try.prog) W 84 3 9 q
  have c4 : w.drew.cell? ⟨p.blk, 4, none⟩ = some (.slice (some ⟨g, 0, none⟩) 0 cap) := by
    have := cell_of_at (at_drew h) 4
    rw [this, ← hv]; rfl
  have hSD : (Builtin.unsafeSliceData_ #[66] 84 #[.slice (some ⟨g, 0, none⟩) 0 cap]).run Try.prog w.drew = .ok (.pointer (some ⟨g, 0, none⟩)) w.drew := Lib.run_unsafeSliceData_row _ _ _ _ _ _ hc0
  have HK : Hid (p.At w.drew B) := at_drew h
  have HE : Hid (p.bs = []) := h0
  clear h hv h0 hc0
  go_enter Try.func32, Try.ntmps32
  go_wp2
  go_region
  all_goals (go_wp2; go_ret; exact ⟨by rw [HE.out]; rfl, HK.out, fr_drew _ w⟩)

set_option maxHeartbeats 1000000 in
theorem string_noroom (B g : Nat) (p : PC) (cur : Array Value) (fz : Nat × Nat) (w : World) (h : p.At w B) (h0 : p.bs = []) (hg : w.heap[g]? = some (.cells cur 5 fz)) (hv : p.buf = .slice (some ⟨g, 0, none⟩) 0 0) :
    Calls Try.prog 32 #[.pointer (some ⟨p.blk, 3, none⟩)] w (StrPost B p w) := by
  have hUS := fun (W : World) q => Lib.run_unsafeString_none (P := Try.prog) W 84 3 9 q
  have c4 : w.drew.cell? ⟨p.blk, 4, none⟩ = some (.slice (some ⟨g, 0, none⟩) 0 0) := by
    have := cell_of_at (at_drew h) 4
    rw [this, ← hv]; rfl
  have hSD : (Builtin.unsafeSliceData_ #[66] 84 #[.slice (some ⟨g, 0, none⟩) 0 0]).run Try.prog w.drew = .ok (.pointer (some ⟨w.drew.heap.size, 0, none⟩)) (w.drew.alloc (.view ⟨g, 0, none⟩ 5)) :=
    Lib.run_unsafeSliceData_zero w.drew _ _ 5 Try.underlying84 ⟨g, 0, none⟩ 0 (5, cur.size) (by have hg' : w.drew.heap[g]? = some (.cells cur 5 fz) := hg; simp [World.shape?, hg'])
  have c5 : (w.drew.alloc (.view ⟨g, 0, none⟩ 5)).cell? ⟨p.blk, 4, none⟩ = some (.slice (some ⟨g, 0, none⟩) 0 0) := by
    have := cell_of_at (at_alloc (at_drew h) (.view ⟨g, 0, none⟩ 5)) 4
    rw [this, ← hv]; rfl
  have c6 : (w.alloc (.view ⟨g, 0, none⟩ 5)).drew.cell? ⟨p.blk, 4, none⟩ = some (.slice (some ⟨g, 0, none⟩) 0 0) := c5
  have c7 : w.cell? ⟨p.blk, 4, none⟩ = some (.slice (some ⟨g, 0, none⟩) 0 0) := c4
  have HK : Hid (p.At (w.drew.alloc (.view ⟨g, 0, none⟩ 5)) B) := at_alloc (at_drew h) _
  have HE : Hid (p.bs = []) := h0
  clear h hv h0 hg
  go_enter Try.func32, Try.ntmps32
  go_wp2
  go_region
  all_goals (go_wp2; go_ret; exact ⟨by rw [HE.out]; rfl, HK.out, (fr_drew _ w).trans (Fr.alloc w.drew _) (fun _ _ q => q.elim)⟩)

theorem string_any (B : Nat) (p : PC) (w : World) (h : p.At w B) : Calls Try.prog 32 #[.pointer (some ⟨p.blk, 3, none⟩)] w (StrPost B p w) := by
  by_cases h0 : p.bs = []
  · have hl : p.bs.length = 0 := by rw [h0]; rfl
    rcases h.row.2 with ⟨hv, _⟩ | ⟨g, cap, cur, fz, hv, _, hg, _⟩
    · exact string_nil B p w h h0 hv
    · rw [hl] at hv
      by_cases hc : cap = 0
      · subst hc
        exact string_noroom B g p cur fz w h h0 hg hv
      · exact string_room B g cap p w h h0 hc hv
  · exact string_some B p w h h0
end Go.Proofs.Qxb6603195a.W5
