/-
  chatMessages (35).
-/
import Derived.Test.Qxb6603195aChatMem
import Derived.BigRegion
import Derived.Deep.RegionLaw
namespace Go.Proofs.Qxb6603195a.W6
open Go.ChangeShapes Go.WideShapes Go.ChangeAt Go.RowKit
open W5 (ret_int empty_iff Fr cells_ne lt_of_block size_of_empty)

/-- the inner loop: u calls are written -/
structure IInv (w : World) (ms os : List M) (g cap h Bs i : Nat) (x : M) (W0 wr : World) (gs : List G) (u : Nat) (tv : Value) : Prop where
  out : OInv w ms os g cap h Bs i wr gs
  fr : Fr (fun k => k = h) W0 wr
  at_ : ∃ hi : i < gs.length, gs[i].c0 = .string x.b.role ∧ TextAt W0 gs[i].c1 x.b ∧ gs[i].c2 = tv ∧ gs[i].c3 = .string x.b.tcid
  own : wr.ownsRow W0.heap.size 79 4 tv u (ccRow (x.b.calls.take u))
  nil : u = 0 → tv = .slice none 0 0
  hb : ∃ cur, W0.heap[h]? = some (.cells cur 54 (0, 0))
  w0 : w.heap.size ≤ W0.heap.size
  old : ∀ q (h1 : q < os.length) (h2 : q < gs.length), q < i → ChatOK W0 os[q].b gs[q]

theorem OInv.start {w w1 w2 : World} {ms os : List M} {g cap n : Nat} {xs : List Value} (hA : AInv w ms ms.length w1 g cap os) (hn : n = os.length) (hown : w2.ownsRow w1.heap.size 54 4 (.slice (some ⟨w1.heap.size, 0, none⟩) n n) n xs) (hg : w1.grownBy w2 none) : ∃ gs, OInv w ms os g cap w1.heap.size w1.heap.size 0 w2 gs := by
  subst hn
  obtain ⟨gs, h1, h2⟩ := gRow_of os.length xs hown.1
  subst h2
  have hb : Below w1.heap.size w1 w2 := (Fr.of_grown hg).below (by simp) (Nat.le_refl _)
  exact ⟨gs, hA.keep hb, hA.bel.size, hown, h1, fun k _ _ hk => by omega⟩

/-- a message being written -/
structure CSt (w : World) (ms os : List M) (g cap h Bs k : Nat) (x : M) (mb : Nat) (W : World) (gs : List G) (p tv : Value) : Prop where
  out : OInv w ms os g cap h Bs k W gs
  blk : W.heap[mb]? = some (.cells (mArr x) 41 (0, 0))
  at_ : ∃ hk : k < gs.length, gs[k] = ⟨.string x.b.role, p, tv, .string x.b.tcid⟩
theorem CSt.cell {w : World} {ms os : List M} {g cap h Bs k : Nat} {x : M} {mb : Nat} {W : World} {gs : List G} {p tv : Value} (H : CSt w ms os g cap h Bs k x mb W gs p tv) (j : Nat) : W.cell? ⟨mb, j, none⟩ = (mArr x)[j]? := cell_of_row W mb j _ _ _ H.blk
theorem CSt.outCell {w : World} {ms os : List M} {g cap h Bs k : Nat} {x : M} {mb : Nat} {W : World} {gs : List G} {p tv : Value} (H : CSt w ms os g cap h Bs k x mb W gs p tv) {j : Nat} (hj : j < 4) : W.cell? ⟨h, k * 4 + j, none⟩ = (gCells ⟨.string x.b.role, p, tv, .string x.b.tcid⟩)[j]? := by
  obtain ⟨hk, e⟩ := H.at_
  rw [H.out.cellAt hk hj, e]
theorem OInv.stored4 {w : World} {ms os : List M} {g cap h B i : Nat} {wr : World} {gs : List G} (H : OInv w ms os g cap h B i wr gs) (hk : i < gs.length) (a b c d : Value) :
    OInv w ms os g cap h B i ((((wr.setCell ⟨h, i * 4 + 0, none⟩ a).setCell ⟨h, i * 4 + 1, none⟩ b).setCell ⟨h, i * 4 + 2, none⟩ c).setCell ⟨h, i * 4 + 3, none⟩ d) (gs.set i ⟨a, b, c, d⟩) := by
  have h1 := H.stored hk (Nat.le_refl _) (j := 0) (by omega) a
  have h2 := h1.stored (k := i) (by simpa using hk) (Nat.le_refl _) (j := 1) (by omega) b
  have h3 := h2.stored (k := i) (by simpa using hk) (Nat.le_refl _) (j := 2) (by omega) c
  have h4 := h3.stored (k := i) (by simpa using hk) (Nat.le_refl _) (j := 3) (by omega) d
  simpa [G.put] using h4
theorem CSt.first {w : World} {ms os : List M} {g cap h Bs k : Nat} {wr : World} {gs : List G} (H : OInv w ms os g cap h Bs k wr gs) (hk : k < os.length) (x : M) :
    CSt w ms os g cap h Bs k x wr.heap.size (((((wr.alloc (.cells (mArr x) 41)).setCell ⟨h, k * 4 + 0, none⟩ (.string x.b.role)).setCell ⟨h, k * 4 + 1, none⟩ (.pointer (some ⟨wr.heap.size, 1, none⟩))).setCell ⟨h, k * 4 + 2, none⟩ (.slice none 0 0)).setCell ⟨h, k * 4 + 3, none⟩ (.string x.b.tcid))
      (gs.set k ⟨.string x.b.role, .pointer (some ⟨wr.heap.size, 1, none⟩), .slice none 0 0, .string x.b.tcid⟩) (.pointer (some ⟨wr.heap.size, 1, none⟩)) (.slice none 0 0) := by
  have hb : Below wr.heap.size wr (wr.alloc (.cells (mArr x) 41)) := (Below.refl _ _).alloc (Nat.le_refl _) _
  have hl := H.len
  have hlt := (H.own.lt h rfl).2
  have hne : wr.heap.size ≠ h := by omega
  refine ⟨(H.keep hb).stored4 (by omega) _ _ _ _, ?_, ⟨by simp; omega, by simp⟩⟩
  rw [Below.heap_setCell _ _ _ _ hne, Below.heap_setCell _ _ _ _ hne, Below.heap_setCell _ _ _ _ hne, Below.heap_setCell _ _ _ _ hne]
  exact heap_alloc_new wr _
theorem CSt.nilText {w : World} {ms os : List M} {g cap h Bs k : Nat} {x : M} {mb : Nat} {W : World} {gs : List G} {p tv : Value} (H : CSt w ms os g cap h Bs k x mb W gs p tv) : ∃ gs', CSt w ms os g cap h Bs k x mb (W.setCell ⟨h, k * 4 + 1, none⟩ (.pointer none)) gs' (.pointer none) tv := by
  obtain ⟨hk, e⟩ := H.at_
  obtain ⟨cur, hh⟩ := H.out.hblk
  refine ⟨_, H.out.stored hk (Nat.le_refl _) (j := 1) (by omega) (.pointer none), ?_, ⟨by simpa using hk, ?_⟩⟩
  · rw [Below.heap_setCell _ _ _ _ (cells_ne H.blk hh (by decide))]
    exact H.blk
  · rw [List.getElem_set_self, e]
    rfl
/-- a call being written -/
structure KSt (wr W : World) (b1 b2 : Nat) (c : TC) (n a : ByteArray) : Prop where
  bel : Below wr.heap.size wr W
  k1 : W.heap[b1]? = some (.cells #[.string c.id, .string c.name, .string c.args] 74 (0, 0))
  k2 : W.heap[b2]? = some (.cells #[.string c.id, .string ⟨#[102, 117, 110, 99, 116, 105, 111, 110]⟩, .string n, .string a] 79 (0, 0))
  ne : b1 ≠ b2
  new : wr.heap.size ≤ b2
theorem KSt.first (wr : World) (c : TC) : KSt wr ((wr.alloc (.cells #[.string c.id, .string c.name, .string c.args] 74)).alloc (.cells #[.string c.id, .string ⟨#[102, 117, 110, 99, 116, 105, 111, 110]⟩, .string ⟨#[]⟩, .string ⟨#[]⟩] 79)) wr.heap.size (wr.heap.size + 1) c ⟨#[]⟩ ⟨#[]⟩ :=
  ⟨((Below.refl _ _).alloc (Nat.le_refl _) _).alloc (by simp) _, heap_alloc2_old wr _ _, heap_alloc2_new wr _ _, by omega, by omega⟩
theorem KSt.keep {wr W W' : World} {b1 b2 : Nat} {c : TC} {n a : ByteArray} (h : KSt wr W b1 b2 c n a) (hb : Below W.heap.size W W') : KSt wr W' b1 b2 c n a :=
  ⟨h.bel.trans ⟨hb.os, hb.tape, hb.output, hb.size, fun k hk => hb.block k (Nat.lt_of_lt_of_le hk h.bel.size)⟩, (hb.block b1 (lt_of_block h.k1)).trans h.k1, (hb.block b2 (lt_of_block h.k2)).trans h.k2, h.ne, h.new⟩
theorem KSt.put2 {wr W : World} {b1 b2 : Nat} {c : TC} {n a : ByteArray} (h : KSt wr W b1 b2 c n a) (n' : ByteArray) : KSt wr (W.setCell ⟨b2, 2, none⟩ (.string n')) b1 b2 c n' a :=
  ⟨h.bel.trans ((Fr.setCell W ⟨b2, 2, none⟩ _).below (fun k hk => by rw [hk]; exact h.new) h.bel.size), by rw [Below.heap_setCell _ _ _ _ h.ne]; exact h.k1, by rw [heap_setCell_same W b2 2 _ _ _ h.k2]; rfl, h.ne, h.new⟩
theorem KSt.put3 {wr W : World} {b1 b2 : Nat} {c : TC} {n a : ByteArray} (h : KSt wr W b1 b2 c n a) (a' : ByteArray) : KSt wr (W.setCell ⟨b2, 3, none⟩ (.string a')) b1 b2 c n a' :=
  ⟨h.bel.trans ((Fr.setCell W ⟨b2, 3, none⟩ _).below (fun k hk => by rw [hk]; exact h.new) h.bel.size), by rw [Below.heap_setCell _ _ _ _ h.ne]; exact h.k1, by rw [heap_setCell_same W b2 3 _ _ _ h.k2]; rfl, h.ne, h.new⟩
theorem KSt.drew {wr W : World} {b1 b2 : Nat} {c : TC} {n a : ByteArray} (h : KSt wr W b1 b2 c n a) : KSt wr W.drew b1 b2 c n a := ⟨⟨h.bel.os, h.bel.tape, h.bel.output, h.bel.size, h.bel.block⟩, h.k1, h.k2, h.ne, h.new⟩
theorem IInv.start {w : World} {ms os : List M} {g cap h Bs k : Nat} {x : M} {mb : Nat} {W : World} {gs : List G} {p : Value} (H : CSt w ms os g cap h Bs k x mb W gs p (.slice none 0 0)) (ht : TextAt W p x.b) : IInv w ms os g cap h Bs k x W W gs 0 (.slice none 0 0) := by
  obtain ⟨hk, e⟩ := H.at_
  exact ⟨H.out, Fr.refl _ _, ⟨hk, by rw [e], by rw [e]; exact ht, by rw [e], by rw [e]⟩, World.ownsRow_nil W W.heap.size 79 4, fun _ => rfl, H.out.hblk, H.out.inv.bel.size, H.out.done⟩
theorem IInv.keep {w : World} {ms os : List M} {g cap h Bs k : Nat} {x : M} {W0 wr wr' : World} {gs : List G} {u : Nat} {tv : Value} (H : IInv w ms os g cap h Bs k x W0 wr gs u tv) (hb : Below wr.heap.size wr wr') : IInv w ms os g cap h Bs k x W0 wr' gs u tv :=
  ⟨H.out.keep hb, H.fr.trans (Below.fr hb) (fun _ _ q => q.elim), H.at_, grown_fr (Below.fr hb) H.own (fun _ _ q => q), H.nil, H.hb, H.w0, H.old⟩
theorem IInv.cell {w : World} {ms os : List M} {g cap h Bs k : Nat} {x : M} {W0 wr : World} {gs : List G} {u : Nat} {tv : Value} (H : IInv w ms os g cap h Bs k x W0 wr gs u tv) : wr.cell? ⟨h, k * 4 + 2, none⟩ = some tv := by
  obtain ⟨hi, _, _, e, _⟩ := H.at_
  rw [H.out.cellAt hi (by omega), ← e]
  rfl
theorem grown_alloc_d {w w' : World} {o : Obj} {row : Option Nat} (h : (w.alloc o).drew.grownBy w' row) : w.grownBy w' row :=
  grown_alloc (o := o) ⟨h.os, h.tape, h.output, h.size, h.block⟩
theorem IInv.far {w : World} {ms os : List M} {g cap h Bs k : Nat} {x : M} {W0 wr W6 : World} {gs : List G} {u : Nat} {tv : Value} (H : IInv w ms os g cap h Bs k x W0 wr gs u tv) (hg : wr.grownBy W6 tv.ownBlock) : W6.cell? ⟨h, k * 4 + 2, none⟩ = some tv ∧ W6.frozen? ⟨h, k * 4 + 2, none⟩ = false := by
  obtain ⟨cur, hh⟩ := H.out.hblk
  have hne : some h ≠ tv.ownBlock := by
    intro e
    rcases H.own.2 with ⟨e', _⟩ | ⟨g0, cap0, cu, e', _, hgg, _⟩
    · rw [e'] at e; cases e
    · rw [e'] at e
      injection e with e
      subst e
      exact cells_ne hgg hh (by decide) rfl
  have hb := hg.block h (lt_of_block hh) hne
  exact ⟨(World.cell?_of_block (by exact hb)).trans H.cell, (World.frozen?_of_block (by exact hb)).trans (H.out.frozen _)⟩
/-- one call more -/
theorem IInv.more {w : World} {ms os : List M} {g cap h Bs k : Nat} {x : M} {W0 wr W6 : World} {gs : List G} {u b' c' : Nat} {ao : Option Addr} {tc : Nat} {c : TC} (H : IInv w ms os g cap h Bs k x W0 wr gs u (.slice ao u tc)) (hu : u < x.b.calls.length) (hc : c = x.b.calls[u])
    (ho : W6.ownsRow W0.heap.size 79 4 (.slice (some ⟨b', 0, none⟩) (u + 1) c') (u + 1) (ccRow (x.b.calls.take u) ++ ccCells c)) (hg : wr.grownBy W6 (Value.slice ao u tc).ownBlock) : ∃ gs', IInv w ms os g cap h Bs k x W0 (W6.setCell ⟨h, k * 4 + 2, none⟩ (.slice (some ⟨b', 0, none⟩) (u + 1) c')) gs' (u + 1) (.slice (some ⟨b', 0, none⟩) (u + 1) c') := by
  obtain ⟨hi, e0, e1, e2, e3⟩ := H.at_
  obtain ⟨cur, hh⟩ := H.out.hblk
  have hh0 : ∀ q, (Value.slice ao u tc).ownBlock = some q → q ≠ h ∧ W0.heap.size ≤ q := by
    intro q hq
    refine ⟨fun e => ?_, (H.own.lt q hq).1⟩
    subst e
    rcases H.own.2 with ⟨e, _⟩ | ⟨g0, cap0, cu, e, _, hgg, _⟩
    · rw [e] at hq; cases hq
    · rw [e] at hq
      injection hq with hq
      subst hq
      exact cells_ne hgg hh (by decide) rfl
  have hfr := Fr.of_grown hg
  -- the frame from W0 on
  have hF : Fr (fun q => q = h) W0 W6 := by
    refine H.fr.trans hfr (fun q hq hX => ?_)
    have := (hh0 q hX).2
    omega
  have hX6 : ∀ (q : Nat) cur t fz, wr.heap[q]? = some (.cells cur t fz) → t ≠ 79 → ¬ ((Value.slice ao u tc).ownBlock = some q) := by
    intro q cur' t fz' hq ht e
    rcases H.own.2 with ⟨e', _⟩ | ⟨g0, cap0, cu, e', _, hgg, _⟩
    · rw [e'] at e; cases e
    · rw [e'] at e
      injection e with e
      subst e
      exact cells_ne hq hgg ht rfl
  obtain ⟨cg, fg, hgb⟩ := H.out.gblk
  have hO6 : OInv w ms os g cap h Bs k W6 gs := by
    refine ⟨⟨grown_fr hfr H.out.inv.own (fun q hq e => ?_), fun o ho => (H.out.inv.calls o ho).keep hfr (fun q cur' fz' hq => hX6 q cur' _ fz' hq (by decide)), H.out.inv.plain, H.out.inv.fits, ?_⟩, H.out.base, grown_fr hfr H.out.own (fun q hq e => ?_), H.out.len, fun q q1 q2 hq => ?_⟩
    · injection hq with hq
      subst hq
      exact hX6 g cg _ fg hgb (by decide) e
    · refine H.out.inv.bel.trans (hfr.below (fun q hq => ?_) H.out.inv.bel.size)
      have h1 := (hh0 q hq).2
      have h2 := H.w0
      omega
    · injection hq with hq
      subst hq
      exact hX6 h cur _ _ hh (by decide) e
    · exact (H.old q q1 q2 hq).keep hF (fun q' cur' t fz' hq' ht e => by obtain ⟨ch, hh0⟩ := H.hb; exact cells_ne hq' hh0 ht e)
  refine ⟨_, hO6.stored hi (Nat.le_refl _) (j := 2) (by omega) _, hF.trans (Fr.setCell W6 ⟨h, k * 4 + 2, none⟩ _) (fun _ _ q => q), ⟨by simpa using hi, by rw [List.getElem_set_self]; exact e0, by rw [List.getElem_set_self]; exact e1, by rw [List.getElem_set_self]; rfl, by rw [List.getElem_set_self]; exact e3⟩, ?_, fun q => by omega, H.hb, H.w0, fun q q1 q2 hq => ?_⟩
  rotate_left
  · rw [List.getElem_set_ne (by omega)]
    exact H.old q q1 (by simpa using q2) hq
  have e : x.b.calls.take (u + 1) = x.b.calls.take u ++ [c] := by rw [take_step hu, hc]
  rw [e, ccRow_snoc]
  refine grown_fr (Fr.setCell W6 ⟨h, k * 4 + 2, none⟩ _) ho (fun q hq e => ?_)
  injection hq with hq
  subst hq
  subst e
  obtain ⟨cu6, hh6⟩ := hO6.hblk
  rcases ho.2 with ⟨e, _⟩ | ⟨g0, cap0, cu, e, _, hgg, _⟩
  · cases e
  · have hgb : b' = g0 := by injection e with e; injection e with e; injection e
    subst hgb
    exact cells_ne hgg hh6 (by decide) rfl
/-- the message is written -/
theorem IInv.done {w : World} {ms os : List M} {g cap h Bs k : Nat} {x : M} {W0 wr : World} {gs : List G} {tv : Value} (H : IInv w ms os g cap h Bs k x W0 wr gs x.b.calls.length tv) (hk : k < os.length) (hx : x = os[k]) : OInv w ms os g cap h Bs (k + 1) wr gs := by
  obtain ⟨hi, e0, e1, e2, e3⟩ := H.at_
  refine ⟨H.out.inv, H.out.base, H.out.own, H.out.len, fun q q1 q2 hq => ?_⟩
  by_cases hqk : q < k
  · exact H.out.done q q1 q2 hqk
  · have : q = k := by omega
    subst this
    rw [← hx]
    refine ⟨e0, ?_, ?_, e3⟩
    · rcases e1 with r | ⟨r, b, eb, ⟨cb, fb, hb⟩, hc⟩
      · exact .inl r
      · obtain ⟨ch, hh0⟩ := H.hb
        have hne : ¬ (b = h) := cells_ne hb hh0 (by decide)
        have eb2 := H.fr.block b (lt_of_block hb) hne
        exact .inr ⟨r, b, eb, ⟨cb, fb, eb2.trans hb⟩, (World.cell?_of_block (by exact eb2)).trans hc⟩
    · rw [e2]
      by_cases hc : x.b.calls = []
      · exact .inl ⟨H.nil (by rw [hc]; rfl), hc⟩
      · right
        refine ⟨hc, ?_⟩
        have ho := H.own
        rw [List.take_length] at ho
        rcases ho.2 with ⟨_, h0⟩ | ⟨b, c, cu, e, _, hb, _⟩
        · exact absurd (List.eq_nil_of_length_eq_zero h0) hc
        · refine ⟨b, c, e, ⟨cu, _, hb⟩, fun j u hu => ?_⟩
          have := ho.cells (g := b) (by rw [e]; rfl) j u hu
          rw [add_at, Nat.zero_add] at this
          exact this

def ChatPost (ms : List M) (w : World) (e : Ending) (w' : World) : Prop := ∃ (h : Nat) (bs : List B) (gs : List G), e = .returned (.slice (some ⟨h, 0, none⟩) bs.length bs.length) ∧ bs = alt (ms.map M.b) ∧ gs.length = bs.length ∧
  (∀ k j, (h1 : k < gs.length) → j < 4 → w'.cell? ⟨h, k * 4 + j, none⟩ = (gCells gs[k])[j]?) ∧ (∀ k (h1 : k < bs.length) (h2 : k < gs.length), ChatOK w' bs[k] gs[k]) ∧ Below w.heap.size w w'

set_option maxHeartbeats 2000000 in
theorem chat_any (v : Value) (ms : List M) (w : World) (h : MsgsAt w v ms) : Calls Try.prog 35 #[v] w (ChatPost ms w) := by
  have HM : Hid (MsgsAt w v ms) := h
  obtain ⟨va, vc, hv, _⟩ := h.row
  have hsm := h.small
  clear h
  subst hv
  obtain ⟨i0, hi, hz0, hz1, hz2⟩ := info_parts info54
  go_enter Try.func35, Try.ntmps35
  go_wp2_with fail
  refine (alt_any _ ms _ HM.out).mono ?_
  rintro e w1 ⟨g, cap, os, rfl, hA⟩
  have hol := hA.len
  have HA : Hid (AInv w ms ms.length w1 g cap os) := hA
  clear hA
  obtain ⟨n, hn⟩ : ∃ n, n = os.length := ⟨_, rfl⟩
  rw [← hn]
  have HN : Hid (n = os.length) := hn
  have hnb : n ≤ 1048576 := by omega
  clear hn hol hsm
  go_wp2_with (at_make; (refine wpList_make_full _ rfl _ _ 49 rfl w1.heap.size 54 i0 _ 4 Try.underlying49 hi hz0 hz1 _ _ _ _ n rfl rfl rfl rfl (by rw [hz2]; omega) (by unfold maxLen; omega) (Nat.le_refl _) ?_); intro w2 hown hg; have HO : Hid (∃ gs, OInv w ms os g cap w1.heap.size w1.heap.size 0 w2 gs) := OInv.start HA.out HN.out hown hg; clear hown hg)
  go_loopw [16] (fun i wr => ∃ k gs, k ≤ n ∧ i = .int .i64 (k : Nat) ∧ Hid (OInv w ms os g cap w1.heap.size w1.heap.size k wr gs)) (fun i _ => n - (intOf i).toNat)
  case atStart =>
    obtain ⟨gs, HG⟩ := HO.out
    exact ⟨0, gs, by omega, rfl, HG⟩
  case round =>
    clear HO
    obtain ⟨k, gs, hk, rfl, HO⟩ := hrel
    generalize w1.heap.size = h at *
    by_cases hkn : k < n
    · obtain ⟨x, hx⟩ : ∃ x, x = os[k]'(by rw [← HN.out]; exact hkn) := ⟨_, rfl⟩
      have hkl : k < os.length := by rw [← HN.out]; exact hkn
      have hcell : ∀ j u, (mCells x)[j]? = some u → j < 5 → wr.cell? ⟨g, k * 5 + j, none⟩ = some u := by
        intro j u hu hj
        rw [HO.out.inv.cellAt hkl hj, ← hx]
        exact hu
      have hca : CallsAt wr x.cv x.b.calls := HO.out.inv.calls x (by rw [hx]; exact List.getElem_mem _)
      obtain ⟨ca, cc, hcv⟩ := hca.form
      have c0 : wr.cell? ⟨g, k * 5, none⟩ = some (.string x.b.role) := hcell 0 _ rfl (by omega)
      have c1 : wr.cell? ⟨g, k * 5 + 1, none⟩ = some (.string x.b.content) := hcell 1 _ rfl (by omega)
      have c2 : wr.cell? ⟨g, k * 5 + 2, none⟩ = some (.slice ca x.b.calls.length cc) := by rw [← hcv]; exact hcell 2 _ rfl (by omega)
      have c3 : wr.cell? ⟨g, k * 5 + 3, none⟩ = some (.string x.b.tcid) := hcell 3 _ rfl (by omega)
      have c4 : wr.cell? ⟨g, k * 5 + 4, none⟩ = some (.bool x.fl) := hcell 4 _ rfl (by omega)
      have HX : Hid (x = os[k]'(by rw [← HN.out]; exact hkn)) := hx
      have HCV : Hid (x.cv = .slice ca x.b.calls.length cc) := hcv
      clear hcell hx hca hcv
      have HS : Hid (CSt w ms os g cap h h k x wr.heap.size (((((wr.alloc (.cells #[.string x.b.role, .string x.b.content, .slice ca x.b.calls.length cc, .string x.b.tcid, .bool x.fl] 41)).setCell ⟨h, k * 4, none⟩ (.string x.b.role)).setCell ⟨h, k * 4 + 1, none⟩ (.pointer (some ⟨wr.heap.size, 1, none⟩))).setCell ⟨h, k * 4 + 2, none⟩ (.slice none 0 0)).setCell ⟨h, k * 4 + 3, none⟩ (.string x.b.tcid))
          (gs.set k ⟨.string x.b.role, .pointer (some ⟨wr.heap.size, 1, none⟩), .slice none 0 0, .string x.b.tcid⟩) (.pointer (some ⟨wr.heap.size, 1, none⟩)) (.slice none 0 0)) := by
        have q := CSt.first HO.out hkl x
        have e : mArr x = #[.string x.b.role, .string x.b.content, .slice ca x.b.calls.length cc, .string x.b.tcid, .bool x.fl] := by unfold mArr; rw [HCV.out]
        rw [e] at q
        exact q
      go_upto_region 6 with fail
      have HW : Hid (OInv w ms os g cap h h k (wr.alloc (.cells #[.string x.b.role, .string x.b.content, .slice ca x.b.calls.length cc, .string x.b.tcid, .bool x.fl] 41)) gs) := HO.out.keep ((Below.refl _ _).alloc (Nat.le_refl _) _)
      have HMB : Hid ((wr.alloc (.cells #[.string x.b.role, .string x.b.content, .slice ca x.b.calls.length cc, .string x.b.tcid, .bool x.fl] 41)).heap[wr.heap.size]? = some (.cells #[.string x.b.role, .string x.b.content, .slice ca x.b.calls.length cc, .string x.b.tcid, .bool x.fl] 41 (0, 0))) := heap_alloc_new wr _
      have hne : h ≠ wr.heap.size := by have := (HO.out.own.lt h rfl).2; omega
      clear c0 c1 c2 c3 c4 HO
      generalize (wr.alloc (.cells #[.string x.b.role, .string x.b.content, .slice ca x.b.calls.length cc, .string x.b.tcid, .bool x.fl] 41)) = W at *
      generalize wr.heap.size = mb at *
      have hgl : k < gs.length := by rw [HW.out.len]; exact hkl
      have o0 : W.cell? ⟨h, k * 4, none⟩ = some gs[k].c0 := HW.out.cellAt (j := 0) hgl (by omega)
      have o1 : W.cell? ⟨h, k * 4 + 1, none⟩ = some gs[k].c1 := HW.out.cellAt (j := 1) hgl (by omega)
      have o2 : W.cell? ⟨h, k * 4 + 2, none⟩ = some gs[k].c2 := HW.out.cellAt (j := 2) hgl (by omega)
      have o3 : W.cell? ⟨h, k * 4 + 3, none⟩ = some gs[k].c3 := HW.out.cellAt (j := 3) hgl (by omega)
      have f0 : W.frozen? ⟨h, k * 4, none⟩ = false := HW.out.frozen _
      have f1 : W.frozen? ⟨h, k * 4 + 1, none⟩ = false := HW.out.frozen _
      have f2 : W.frozen? ⟨h, k * 4 + 2, none⟩ = false := HW.out.frozen _
      have f3 : W.frozen? ⟨h, k * 4 + 3, none⟩ = false := HW.out.frozen _
      have d0 : W.cell? ⟨mb, 0, none⟩ = some (.string x.b.role) := cell_of_row W mb 0 _ _ _ HMB.out
      have d3 : W.cell? ⟨mb, 3, none⟩ = some (.string x.b.tcid) := cell_of_row W mb 3 _ _ _ HMB.out
      generalize gs[k].c0 = y0 at *
      generalize gs[k].c1 = y1 at *
      generalize gs[k].c2 = y2 at *
      generalize gs[k].c3 = y3 at *
      go_upto_region 7 with fail
      clear o0 o1 o2 o3 f0 f1 f2 f3 d0 d3
      generalize ((((W.setCell ⟨h, k * 4, none⟩ (.string x.b.role)).setCell ⟨h, k * 4 + 1, none⟩ (.pointer (some ⟨mb, 1, none⟩))).setCell ⟨h, k * 4 + 2, none⟩ (.slice none 0 0)).setCell ⟨h, k * 4 + 3, none⟩ (.string x.b.tcid)) = W2 at *
      obtain ⟨gs2, HS2⟩ : ∃ gs2, Hid (CSt w ms os g cap h h k x mb W2 gs2 (.pointer (some ⟨mb, 1, none⟩)) (.slice none 0 0)) := ⟨_, HS⟩
      clear HS HW HMB hgl
      have d1 : W2.cell? ⟨mb, 1, none⟩ = some (.string x.b.content) := HS2.out.cell 1
      have d2 : W2.cell? ⟨mb, 2, none⟩ = some (.slice ca x.b.calls.length cc) := by rw [← HCV.out]; exact HS2.out.cell 2
      have o1 : W2.cell? ⟨h, k * 4 + 1, none⟩ = some (.pointer (some ⟨mb, 1, none⟩)) := HS2.out.outCell (j := 1) (by omega)
      have f1 : W2.frozen? ⟨h, k * 4 + 1, none⟩ = false := HS2.out.out.frozen _
      by_cases hc0 : x.b.calls = []
      · have HT : Hid (TextAt W2 (.pointer (some ⟨mb, 1, none⟩)) x.b) := .inr ⟨fun q => q.2 hc0, mb, rfl, ⟨_, _, HS2.out.blk⟩, d1⟩
        have HC0 : Hid (x.b.calls = []) := hc0
        have HI : Hid (IInv w ms os g cap h h k x W2 W2 gs2 0 (.slice none 0 0)) := IInv.start HS2.out HT.out
        rw [hc0]
        rw [hc0] at d2
        have hl0 : ([] : List TC).length = 0 := rfl
        clear hc0
        rcases empty_iff x.b.content with ⟨_, ex⟩ | ⟨_, ex⟩
        all_goals
          go_wp2_with fail
          go_loopw [46] (fun i wr => i = .int .i64 0 ∧ wr = W2) (fun _ _ => 0)
          case atStart => exact ⟨rfl, rfl⟩
          case round =>
            obtain ⟨rfl, rfl⟩ := hrel
            go_wp2_with fail
            go_roundw
            case rel => exact ⟨k + 1, gs2, by omega, by go_num, (by have q := HI.out; exact (IInv.done (by rw [HC0.out]; exact q) hkl HX.out))⟩
            case measure => simp [intOf]; omega
      · obtain ⟨cb, coff, rfl⟩ : ∃ cb coff, ca = some ⟨cb, coff, none⟩ := by
          have q := HS2.out.out.inv.calls x (by rw [HX.out]; exact List.getElem_mem _)
          rw [HCV.out] at q
          rcases q with ⟨_, e⟩ | ⟨cb, coff, c, e, _⟩
          · exact absurd e hc0
          · injection e with e
            exact ⟨cb, coff, e⟩
        obtain ⟨N, hN⟩ : ∃ N, N = x.b.calls.length := ⟨_, rfl⟩
        have hN0 : 0 < N := by
          rw [hN]
          exact List.length_pos_iff.2 hc0
        have HNN : Hid (N = x.b.calls.length) := hN
        have HC0 : Hid (x.b.calls ≠ []) := hc0
        have hNb : N ≤ 1099511627776 := by
          have q := (HS2.out.out.inv.fits x (by rw [HX.out]; exact List.getElem_mem _)).t
          have q2 := HM.out.small
          omega
        rw [← hN]
        rw [← hN] at d2
        have hNd : decide ((0 : Int) < (N : Int)) = true := decide_eq_true (by omega)
        clear hN hc0
        rcases empty_iff x.b.content with ⟨e0, ex⟩ | ⟨e0, ex⟩
        · go_upto_region 9 with fail
          obtain ⟨gs3, HS3⟩ : ∃ gs3, Hid (CSt w ms os g cap h h k x mb (W2.setCell ⟨h, k * 4 + 1, none⟩ (.pointer none)) gs3 (.pointer none) (.slice none 0 0)) := HS2.out.nilText
          have HT : Hid (TextAt (W2.setCell ⟨h, k * 4 + 1, none⟩ (.pointer none)) (.pointer none) x.b) := .inl ⟨rfl, e0, HC0.out⟩
          clear d1 d2 o1 f1 HS2
          generalize (W2.setCell ⟨h, k * 4 + 1, none⟩ (.pointer none)) = W3 at *
          have d2 : W3.cell? ⟨mb, 2, none⟩ = some (.slice (some ⟨cb, coff, none⟩) N cc) := by rw [HNN.out, ← HCV.out]; exact HS3.out.cell 2
          have HI : Hid (IInv w ms os g cap h h k x W3 W3 gs3 0 (.slice none 0 0)) := IInv.start HS3.out HT.out
          go_wp2_with fail
          clear d2
          go_loopw [46] (fun i wr => ∃ (u : Nat) (gs4 : List G) (ao : Option Addr) (tc : Nat), u ≤ N ∧ i = .int .i64 (u : Nat) ∧ Hid (IInv w ms os g cap h h k x W3 wr gs4 u (.slice ao u tc))) (fun i _ => N - (intOf i).toNat)
          case atStart => exact ⟨0, gs3, none, 0, by omega, rfl, HI⟩
          case round =>
            clear HI
            obtain ⟨u, gs4, ao, tc, hu, rfl, HI⟩ := hrel
            by_cases huN : u < N
            · obtain ⟨c, hc⟩ : ∃ c, c = x.b.calls[u]'(by rw [← HNN.out]; exact huN) := ⟨_, rfl⟩
              have hcell : ∀ j v, (tcCells c)[j]? = some v → j < 3 → wr.cell? ⟨cb, coff + u * 3 + j, none⟩ = some v := by
                intro j v hv hj
                have hl : u < x.b.calls.length := by rw [← HNN.out]; exact huN
                have e := rowOf_get x.b.calls u j hl hj
                rw [← hc, hv] at e
                have q := (HI.out.out.inv.calls x (by rw [HX.out]; exact List.getElem_mem _)).in
                rw [HCV.out] at q
                rw [Nat.add_assoc]
                exact LiesAt.cell q (by omega) e
              have s0 : wr.cell? ⟨cb, coff + u * 3, none⟩ = some (.string c.id) := hcell 0 _ rfl (by omega)
              have s1 : wr.cell? ⟨cb, coff + u * 3 + 1, none⟩ = some (.string c.name) := hcell 1 _ rfl (by omega)
              have s2 : wr.cell? ⟨cb, coff + u * 3 + 2, none⟩ = some (.string c.args) := hcell 2 _ rfl (by omega)
              have HC : Hid (c = x.b.calls[u]'(by rw [← HNN.out]; exact huN)) := hc
              clear hcell hc
              go_upto_region 14 with fail
              have HK : Hid (KSt wr ((wr.alloc (.cells #[.string c.id, .string c.name, .string c.args] 74)).alloc (.cells #[.string c.id, .string ⟨#[102, 117, 110, 99, 116, 105, 111, 110]⟩, .string ⟨#[]⟩, .string ⟨#[]⟩] 79)) wr.heap.size (wr.heap.size + 1) c ⟨#[]⟩ ⟨#[]⟩) := KSt.first wr c
              clear s0 s1 s2
              generalize ((wr.alloc (.cells #[.string c.id, .string c.name, .string c.args] 74)).alloc (.cells #[.string c.id, .string ⟨#[102, 117, 110, 99, 116, 105, 111, 110]⟩, .string ⟨#[]⟩, .string ⟨#[]⟩] 79)) = W4 at *
              obtain ⟨b1, hb1⟩ : ∃ b1, b1 = wr.heap.size := ⟨_, rfl⟩
              obtain ⟨b2, hb2⟩ : ∃ b2, b2 = wr.heap.size + 1 := ⟨_, rfl⟩
              rw [← hb2, ← hb1] at HK
              rw [← hb2, ← hb1]
              clear hb1 hb2
              have t1 : W4.cell? ⟨b1, 1, none⟩ = some (.string c.name) := cell_of_row W4 b1 1 _ _ _ HK.out.k1
              have t2 : W4.cell? ⟨b1, 2, none⟩ = some (.string c.args) := cell_of_row W4 b1 2 _ _ _ HK.out.k1
              have t3 : W4.cell? ⟨b2, 2, none⟩ = some (.string ⟨#[]⟩) := cell_of_row W4 b2 2 _ _ _ HK.out.k2
              have t4 : W4.cell? ⟨b2, 3, none⟩ = some (.string ⟨#[]⟩) := cell_of_row W4 b2 3 _ _ _ HK.out.k2
              have t5 : W4.frozen? ⟨b2, 2, none⟩ = false := Lib.frozen_of_heap HK.out.k2 2
              have t6 : W4.frozen? ⟨b2, 3, none⟩ = false := Lib.frozen_of_heap HK.out.k2 3
              have t7 : b1 ≠ b2 := HK.out.ne
              go_region
              have HK5 : Hid (KSt wr ((W4.setCell ⟨b2, 2, none⟩ (.string c.name)).setCell ⟨b2, 3, none⟩ (.string c.args)).drew b1 b2 c c.name c.args) := ((HK.out.put2 c.name).put3 c.args).drew
              clear t1 t2 t3 t4 t5 t6 t7
              generalize ((W4.setCell ⟨b2, 2, none⟩ (.string c.name)).setCell ⟨b2, 3, none⟩ (.string c.args)).drew = W5 at *
              have HI5 : Hid (IInv w ms os g cap h h k x W3 W5 gs4 u (.slice ao u tc)) := HI.out.keep HK5.out.bel
              have o2 : W5.cell? ⟨h, k * 4 + 2, none⟩ = some (.slice ao u tc) := HI5.out.cell
              have f2 : W5.frozen? ⟨h, k * 4 + 2, none⟩ = false := HI5.out.out.frozen _
              have t0 : W5.cell? ⟨b2, 0, none⟩ = some (.string c.id) := cell_of_row W5 b2 0 _ _ _ HK5.out.k2
              have t1 : W5.cell? ⟨b2, 1, none⟩ = some (.string ⟨#[102, 117, 110, 99, 116, 105, 111, 110]⟩) := cell_of_row W5 b2 1 _ _ _ HK5.out.k2
              have t2 : W5.cell? ⟨b2, 2, none⟩ = some (.string c.name) := cell_of_row W5 b2 2 _ _ _ HK5.out.k2
              have t3 : W5.cell? ⟨b2, 3, none⟩ = some (.string c.args) := cell_of_row W5 b2 3 _ _ _ HK5.out.k2
              have o5 : ∀ o, (W5.alloc o).drew.cell? ⟨h, k * 4 + 2, none⟩ = some (.slice ao u tc) := fun o => (World.cell?_of_block (w := W5) (w' := (W5.alloc o).drew) (a := ⟨h, k * 4 + 2, none⟩) (Below.heap_alloc W5 o h (World.block_lt_of_cell? W5 _ o2))).trans o2
              have o7 : ∀ o, (W5.alloc o).cell? ⟨h, k * 4 + 2, none⟩ = some (.slice ao u tc) := fun o => o5 o
              have hkI : (k : Int) < (n : Int) := by omega
              obtain ⟨j0, hj, hjz0, hjz1, hjz2⟩ := info_parts info79
              go_upto_region 15 with fail
              go_region_law ((refine step_append_lies _ rfl _ _ 52 rfl W3.heap.size 79 j0 _ 4 64 Try.underlying52 hj hjz0 hjz1 hjz2 rfl (by omega) (.slice ao u tc) u (ccRow (x.b.calls.take u)) rfl (World.ownsRow.drew (HI5.out.own.alloc _)) ⟨W5.heap.size, 0, none⟩ 1 1 (ccCells c) rfl rfl (World.news_of_block (w := (W5.alloc _).drew) (heap_alloc_new W5 _)) (by simp [ccCells, Value.oneCell']) (by omega) (by unfold maxLen; omega) (by omega) (Nat.le_trans HI5.out.fr.size (by simp)) (W5.heap.size + 1) (by simp) ?_; intro b' c' W6 ho hg _ _; have hfar := HI5.out.far (grown_alloc_d hg); have o6 : W6.cell? ⟨h, k * 4 + 2, none⟩ = some (.slice ao u tc) := hfar.1; have f6 : W6.frozen? ⟨h, k * 4 + 2, none⟩ = false := hfar.2; have HM6 : Hid (∃ gs', IInv w ms os g cap h h k x W3 (W6.setCell ⟨h, k * 4 + 2, none⟩ (.slice (some ⟨b', 0, none⟩) (u + 1) c')) gs' (u + 1) (.slice (some ⟨b', 0, none⟩) (u + 1) c')) := HI5.out.more (by rw [← HNN.out]; exact huN) HC.out ho (grown_alloc_d hg); clear hfar ho hg))
              all_goals
                obtain ⟨gs6, HI6⟩ := HM6.out
                go_wp2_with fail
                go_roundw
                case rel => exact ⟨u + 1, gs6, _, _, by omega, by go_num, HI6⟩
                case measure => simp [intOf]; omega
            · have : u = N := by omega
              subst this
              have HD : Hid (OInv w ms os g cap h h (k + 1) wr gs4) := IInv.done (by have q := HI.out; rw [HNN.out] at q; exact q) hkl HX.out
              go_wp2_with fail
              go_roundw
              case rel => exact ⟨k + 1, gs4, by omega, by go_num, HD⟩
              case measure => simp [intOf]; omega
        · go_upto_region 9 with fail
          obtain ⟨gs3, HS3⟩ : ∃ gs3, Hid (CSt w ms os g cap h h k x mb W2 gs3 (.pointer (some ⟨mb, 1, none⟩)) (.slice none 0 0)) := ⟨gs2, HS2⟩
          have HT : Hid (TextAt W2 (.pointer (some ⟨mb, 1, none⟩)) x.b) := .inr ⟨fun q => e0 q.1, mb, rfl, ⟨_, _, HS2.out.blk⟩, d1⟩
          clear d1 d2 o1 f1 HS2
          generalize W2 = W3 at *
          have d2 : W3.cell? ⟨mb, 2, none⟩ = some (.slice (some ⟨cb, coff, none⟩) N cc) := by rw [HNN.out, ← HCV.out]; exact HS3.out.cell 2
          have HI : Hid (IInv w ms os g cap h h k x W3 W3 gs3 0 (.slice none 0 0)) := IInv.start HS3.out HT.out
          go_wp2_with fail
          clear d2
          go_loopw [46] (fun i wr => ∃ (u : Nat) (gs4 : List G) (ao : Option Addr) (tc : Nat), u ≤ N ∧ i = .int .i64 (u : Nat) ∧ Hid (IInv w ms os g cap h h k x W3 wr gs4 u (.slice ao u tc))) (fun i _ => N - (intOf i).toNat)
          case atStart => exact ⟨0, gs3, none, 0, by omega, rfl, HI⟩
          case round =>
            clear HI
            obtain ⟨u, gs4, ao, tc, hu, rfl, HI⟩ := hrel
            by_cases huN : u < N
            · obtain ⟨c, hc⟩ : ∃ c, c = x.b.calls[u]'(by rw [← HNN.out]; exact huN) := ⟨_, rfl⟩
              have hcell : ∀ j v, (tcCells c)[j]? = some v → j < 3 → wr.cell? ⟨cb, coff + u * 3 + j, none⟩ = some v := by
                intro j v hv hj
                have hl : u < x.b.calls.length := by rw [← HNN.out]; exact huN
                have e := rowOf_get x.b.calls u j hl hj
                rw [← hc, hv] at e
                have q := (HI.out.out.inv.calls x (by rw [HX.out]; exact List.getElem_mem _)).in
                rw [HCV.out] at q
                rw [Nat.add_assoc]
                exact LiesAt.cell q (by omega) e
              have s0 : wr.cell? ⟨cb, coff + u * 3, none⟩ = some (.string c.id) := hcell 0 _ rfl (by omega)
              have s1 : wr.cell? ⟨cb, coff + u * 3 + 1, none⟩ = some (.string c.name) := hcell 1 _ rfl (by omega)
              have s2 : wr.cell? ⟨cb, coff + u * 3 + 2, none⟩ = some (.string c.args) := hcell 2 _ rfl (by omega)
              have HC : Hid (c = x.b.calls[u]'(by rw [← HNN.out]; exact huN)) := hc
              clear hcell hc
              go_upto_region 14 with fail
              have HK : Hid (KSt wr ((wr.alloc (.cells #[.string c.id, .string c.name, .string c.args] 74)).alloc (.cells #[.string c.id, .string ⟨#[102, 117, 110, 99, 116, 105, 111, 110]⟩, .string ⟨#[]⟩, .string ⟨#[]⟩] 79)) wr.heap.size (wr.heap.size + 1) c ⟨#[]⟩ ⟨#[]⟩) := KSt.first wr c
              clear s0 s1 s2
              generalize ((wr.alloc (.cells #[.string c.id, .string c.name, .string c.args] 74)).alloc (.cells #[.string c.id, .string ⟨#[102, 117, 110, 99, 116, 105, 111, 110]⟩, .string ⟨#[]⟩, .string ⟨#[]⟩] 79)) = W4 at *
              obtain ⟨b1, hb1⟩ : ∃ b1, b1 = wr.heap.size := ⟨_, rfl⟩
              obtain ⟨b2, hb2⟩ : ∃ b2, b2 = wr.heap.size + 1 := ⟨_, rfl⟩
              rw [← hb2, ← hb1] at HK
              rw [← hb2, ← hb1]
              clear hb1 hb2
              have t1 : W4.cell? ⟨b1, 1, none⟩ = some (.string c.name) := cell_of_row W4 b1 1 _ _ _ HK.out.k1
              have t2 : W4.cell? ⟨b1, 2, none⟩ = some (.string c.args) := cell_of_row W4 b1 2 _ _ _ HK.out.k1
              have t3 : W4.cell? ⟨b2, 2, none⟩ = some (.string ⟨#[]⟩) := cell_of_row W4 b2 2 _ _ _ HK.out.k2
              have t4 : W4.cell? ⟨b2, 3, none⟩ = some (.string ⟨#[]⟩) := cell_of_row W4 b2 3 _ _ _ HK.out.k2
              have t5 : W4.frozen? ⟨b2, 2, none⟩ = false := Lib.frozen_of_heap HK.out.k2 2
              have t6 : W4.frozen? ⟨b2, 3, none⟩ = false := Lib.frozen_of_heap HK.out.k2 3
              have t7 : b1 ≠ b2 := HK.out.ne
              go_region
              have HK5 : Hid (KSt wr ((W4.setCell ⟨b2, 2, none⟩ (.string c.name)).setCell ⟨b2, 3, none⟩ (.string c.args)).drew b1 b2 c c.name c.args) := ((HK.out.put2 c.name).put3 c.args).drew
              clear t1 t2 t3 t4 t5 t6 t7
              generalize ((W4.setCell ⟨b2, 2, none⟩ (.string c.name)).setCell ⟨b2, 3, none⟩ (.string c.args)).drew = W5 at *
              have HI5 : Hid (IInv w ms os g cap h h k x W3 W5 gs4 u (.slice ao u tc)) := HI.out.keep HK5.out.bel
              have o2 : W5.cell? ⟨h, k * 4 + 2, none⟩ = some (.slice ao u tc) := HI5.out.cell
              have f2 : W5.frozen? ⟨h, k * 4 + 2, none⟩ = false := HI5.out.out.frozen _
              have t0 : W5.cell? ⟨b2, 0, none⟩ = some (.string c.id) := cell_of_row W5 b2 0 _ _ _ HK5.out.k2
              have t1 : W5.cell? ⟨b2, 1, none⟩ = some (.string ⟨#[102, 117, 110, 99, 116, 105, 111, 110]⟩) := cell_of_row W5 b2 1 _ _ _ HK5.out.k2
              have t2 : W5.cell? ⟨b2, 2, none⟩ = some (.string c.name) := cell_of_row W5 b2 2 _ _ _ HK5.out.k2
              have t3 : W5.cell? ⟨b2, 3, none⟩ = some (.string c.args) := cell_of_row W5 b2 3 _ _ _ HK5.out.k2
              have o5 : ∀ o, (W5.alloc o).drew.cell? ⟨h, k * 4 + 2, none⟩ = some (.slice ao u tc) := fun o => (World.cell?_of_block (w := W5) (w' := (W5.alloc o).drew) (a := ⟨h, k * 4 + 2, none⟩) (Below.heap_alloc W5 o h (World.block_lt_of_cell? W5 _ o2))).trans o2
              have o7 : ∀ o, (W5.alloc o).cell? ⟨h, k * 4 + 2, none⟩ = some (.slice ao u tc) := fun o => o5 o
              have hkI : (k : Int) < (n : Int) := by omega
              obtain ⟨j0, hj, hjz0, hjz1, hjz2⟩ := info_parts info79
              go_upto_region 15 with fail
              go_region_law ((refine step_append_lies _ rfl _ _ 52 rfl W3.heap.size 79 j0 _ 4 64 Try.underlying52 hj hjz0 hjz1 hjz2 rfl (by omega) (.slice ao u tc) u (ccRow (x.b.calls.take u)) rfl (World.ownsRow.drew (HI5.out.own.alloc _)) ⟨W5.heap.size, 0, none⟩ 1 1 (ccCells c) rfl rfl (World.news_of_block (w := (W5.alloc _).drew) (heap_alloc_new W5 _)) (by simp [ccCells, Value.oneCell']) (by omega) (by unfold maxLen; omega) (by omega) (Nat.le_trans HI5.out.fr.size (by simp)) (W5.heap.size + 1) (by simp) ?_; intro b' c' W6 ho hg _ _; have hfar := HI5.out.far (grown_alloc_d hg); have o6 : W6.cell? ⟨h, k * 4 + 2, none⟩ = some (.slice ao u tc) := hfar.1; have f6 : W6.frozen? ⟨h, k * 4 + 2, none⟩ = false := hfar.2; have HM6 : Hid (∃ gs', IInv w ms os g cap h h k x W3 (W6.setCell ⟨h, k * 4 + 2, none⟩ (.slice (some ⟨b', 0, none⟩) (u + 1) c')) gs' (u + 1) (.slice (some ⟨b', 0, none⟩) (u + 1) c')) := HI5.out.more (by rw [← HNN.out]; exact huN) HC.out ho (grown_alloc_d hg); clear hfar ho hg))
              all_goals
                obtain ⟨gs6, HI6⟩ := HM6.out
                go_wp2_with fail
                go_roundw
                case rel => exact ⟨u + 1, gs6, _, _, by omega, by go_num, HI6⟩
                case measure => simp [intOf]; omega
            · have : u = N := by omega
              subst this
              have HD : Hid (OInv w ms os g cap h h (k + 1) wr gs4) := IInv.done (by have q := HI.out; rw [HNN.out] at q; exact q) hkl HX.out
              go_wp2_with fail
              go_roundw
              case rel => exact ⟨k + 1, gs4, by omega, by go_num, HD⟩
              case measure => simp [intOf]; omega
    · go_wp2_with fail
      go_ret
      have : k = n := by omega
      subst this
      refine ⟨h, os.map M.b, gs, by rw [List.length_map, ← HN.out]; rfl, HO.out.inv.plain.trans (by rw [List.take_length]; rfl), by rw [List.length_map]; exact HO.out.len, fun k j h1 hj => HO.out.cellAt h1 hj, fun q h1 h2 => ?_, HO.out.inv.bel⟩
      have h3 : q < os.length := by simpa using h1
      have := HO.out.done q h3 h2 (by rw [HN.out]; exact h3)
      simpa using this
end Go.Proofs.Qxb6603195a.W6
