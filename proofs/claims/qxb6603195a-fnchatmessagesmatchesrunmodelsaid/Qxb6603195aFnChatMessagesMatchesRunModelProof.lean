/-
  A PROOF OF 'Rows.FnChatMessagesMatchesRunModelSaid'. The frame is the guide's template for a law over slices ('Below') at this function's number and types; the opening of a slice of structs that hold slices of structs, and the walks, are ours.
-/
import Derived.Test.Qxb6603195aLawB
import Derived.OpenShut
import Derived.ShutString
import Derived.ChangeOld
import Derived.Below
import Derived.Deep.Slices
import Derived.Deep.Strs
import Derived.Lib.SmallJoins
namespace Go.Proofs.Qxb6603195a.fnChatMessagesMatchesRunModel
open Go.ChangeShapes Go.WideShapes Go.ChangeAt Go.RowKit
open Go.Deep Go.Joins
open W6
set_option linter.unusedVariables false

theorem own : ownKnob Try.prog.godebug = none := by kernel_rfl
theorem laidOut : laidOutB Try.prog = true := by kernel_rfl
theorem cells4 : Try.prog.cellsOf 4 = 1 := by kernel_rfl
theorem cells9 : Try.prog.cellsOf 9 = 1 := by kernel_rfl
theorem cells42 : Try.prog.cellsOf 42 = 1 := by kernel_rfl
theorem cells44 : Try.prog.cellsOf 44 = 5 := by kernel_rfl
theorem cells73 : Try.prog.cellsOf 73 = 3 := by kernel_rfl

theorem list_of {α : Type} {p : Nat → α → Prop} : ∀ n, (∀ i, i < n → ∃ x, p i x) → ∃ l : List α, l.length = n ∧ ∀ i, (h : i < l.length) → p i l[i]
  | 0, _ => ⟨[], rfl, fun i h => by simp at h⟩
  | n + 1, h => by
    obtain ⟨l, hl, hp⟩ := list_of n (fun i hi => h i (by omega))
    obtain ⟨x, hx⟩ := h n (by omega)
    refine ⟨l ++ [x], by simp [hl], fun i hi => ?_⟩
    by_cases q : i < l.length
    · rw [List.getElem_append_left q]; exact hp i q
    · have e : i = l.length := by simp at hi; omega
      subst e
      simp
      rw [hl]; exact hx

section
variable {H : Type} {enc : TypeId × Value → H} {P : Program} {w : World} {base : Nat} {spare : Nat → Bool} {held : Bool}
theorem trod_struct5 {t : TypeId} {f0 f1 f2 f3 f4 : Field} {fuel : Nat} {cs : List Value} {x : DataW H × List MemPlace} (ht : P.underlying t = some (.struct #[f0, f1, f2, f3, f4])) (h : DataW.trod enc P w base spare held fuel t cs = some x) :
    ∃ y0 y1 y2 y3 y4 n, cs.length = P.cellsOf t ∧ DataW.trod enc P w base spare held n f0.type ((cs.drop f0.offset).take (P.cellsOf f0.type)) = some y0 ∧
      DataW.trod enc P w base spare held n f1.type ((cs.drop f1.offset).take (P.cellsOf f1.type)) = some y1 ∧ DataW.trod enc P w base spare held n f2.type ((cs.drop f2.offset).take (P.cellsOf f2.type)) = some y2 ∧
      DataW.trod enc P w base spare held n f3.type ((cs.drop f3.offset).take (P.cellsOf f3.type)) = some y3 ∧ DataW.trod enc P w base spare held n f4.type ((cs.drop f4.offset).take (P.cellsOf f4.type)) = some y4 := by
  obtain ⟨xs, n, _, rfl, hl, hlen, hf⟩ := DataW.trod_struct ht h
  match xs, hlen with
  | [y0, y1, y2, y3, y4], _ => exact ⟨y0, y1, y2, y3, y4, n, hl, by simpa using hf 0 f0 rfl, by simpa using hf 1 f1 rfl, by simpa using hf 2 f2 rfl, by simpa using hf 3 f3 rfl, by simpa using hf 4 f4 rfl⟩
end

theorem pick1 {cs : List Value} {j : Nat} {v : Value} (h : (cs.drop j).take 1 = [v]) : cs[j]? = some v := by
  have := congrArg (·[0]?) h
  simpa using this

/-- one call of the input -/
def TCOK (w : World) (b off i : Nat) (t : TC) : Prop :=
  (∀ j, j < 3 → w.cell? ⟨b, off + i * 3 + j, none⟩ = (tcCells t)[j]?) ∧ t.id.size ≤ maxLen ∧ t.name.size ≤ maxLen ∧ t.args.size ≤ maxLen

theorem tc_open {H : Type} {enc : TypeId × Value → H} {w : World} {base : Nat} {sp : Nat → Bool} {hd : Bool} {n b off i : Nat} {cs : List Value} {y : DataW H × List MemPlace}
    (h1 : w.cells? base ((⟨b, off, none⟩ : Addr).add (i * 3)) 3 = some cs) (h2 : DataW.trod enc Try.prog w base sp hd n 73 cs = some y) : ∃ t, TCOK w b off i t := by
  obtain ⟨_, hlen, hcell⟩ := World.cells?_some h1
  obtain ⟨y0, y1, y2, m, _, _, t0, t1, t2⟩ := trod_struct3 Try.underlying73 h2
  simp only [cells9] at t0 t1 t2
  obtain ⟨s0, e0, _, z0⟩ := DataW.trod_string Try.underlying9 t0
  obtain ⟨s1, e1, _, z1⟩ := DataW.trod_string Try.underlying9 t1
  obtain ⟨s2, e2, _, z2⟩ := DataW.trod_string Try.underlying9 t2
  refine ⟨⟨s0, s1, s2⟩, ?_, z0, z1, z2⟩
  intro j hj
  have q := hcell j hj
  rw [add_plain, add_plain] at q
  rw [q]
  match j, hj with
  | 0, _ => exact pick1 e0
  | 1, _ => exact pick1 e1
  | 2, _ => exact pick1 e2

/-- the calls of one message of the input -/
theorem calls_open {H : Type} {enc : TypeId × Value → H} {w : World} {base : Nat} {sp : Nat → Bool} {hd : Bool} {n : Nat} {cs : List Value} {y : DataW H × List MemPlace} {v : Value}
    (hv : cs = [v]) (h2 : DataW.trod enc Try.prog w base sp hd n 42 cs = some y) : ∃ ts, W6.CallsIn w v ts ∧ ∀ c ∈ ts, c.id.size ≤ maxLen ∧ c.name.size ≤ maxLen ∧ c.args.size ≤ maxLen := by
  rcases open_slice Try.underlying42 h2 with ⟨hcs, _⟩ | ⟨x, l, c, m, n', D, Pl, hcs, _, hl, hm, hmm, _, hx⟩
  · rw [hv] at hcs
    injection hcs with hcs
    subst hcs
    exact ⟨[], ⟨none, 0, rfl, .inl rfl⟩, by simp⟩
  · rw [hv] at hcs
    injection hcs with hcs
    subst hcs
    rw [cells73] at hx
    by_cases h0 : l = 0
    · subst h0
      exact ⟨[], ⟨some x, c, rfl, .inl rfl⟩, by simp⟩
    · have hlm : l ≤ m := by rw [hmm]; split <;> omega
      obtain ⟨b, off, spot⟩ := x
      obtain ⟨cs0, hc0, _⟩ := hx 0 (by omega)
      obtain ⟨_, hl0, hcell0⟩ := World.cells?_some hc0
      have hz := hcell0 0 (by omega)
      have hspot : spot = none := by
        have e : ∃ v, cs0[0]? = some v := ⟨cs0[0]'(by omega), by simp⟩
        obtain ⟨v, hv⟩ := e
        rw [hv] at hz
        simpa [Addr.add] using World.cell?_spot hz
      subst hspot
      obtain ⟨ts, htl, hto⟩ := list_of (p := fun i t => TCOK w b off i t) l (fun i hi => by
        obtain ⟨cs, c1, c2⟩ := hx i (by omega)
        exact tc_open c1 c2)
      refine ⟨ts, ⟨some ⟨b, off, none⟩, c, by rw [htl], .inr ⟨b, off, rfl, fun j u hu => ?_⟩⟩, ?_⟩
      · have hj : j < (rowOf ts).length := (List.getElem?_eq_some_iff.1 hu).1
        rw [rowOf_len] at hj
        have hk : j / 3 < ts.length := by omega
        have e := rowOf_get ts (j / 3) (j % 3) hk (by omega)
        rw [show j / 3 * 3 + j % 3 = j by omega, hu] at e
        have q := (hto (j / 3) hk).1 (j % 3) (by omega)
        rw [show off + j / 3 * 3 + j % 3 = off + j by omega] at q
        rw [q, ← e]
      · intro t ht
        obtain ⟨i, hi, rfl⟩ := List.getElem_of_mem ht
        exact (hto i hi).2

/-- one message of the input -/
def MOK (w : World) (b off i : Nat) (m : M) : Prop :=
  (∀ j, j < 5 → w.cell? ⟨b, off + i * 5 + j, none⟩ = (mCells m)[j]?) ∧ W6.CallsIn w m.cv m.b.calls ∧ m.wf

theorem m_open {H : Type} {enc : TypeId × Value → H} {w : World} {base : Nat} {sp : Nat → Bool} {hd : Bool} {n b off i : Nat} {cs : List Value} {y : DataW H × List MemPlace}
    (h1 : w.cells? base ((⟨b, off, none⟩ : Addr).add (i * 5)) 5 = some cs) (h2 : DataW.trod enc Try.prog w base sp hd n 44 cs = some y) : ∃ m, MOK w b off i m := by
  obtain ⟨_, hlen, hcell⟩ := World.cells?_some h1
  obtain ⟨y0, y1, y2, y3, y4, m, _, t0, t1, t2, t3, t4⟩ := trod_struct5 Try.underlying44 h2
  simp only [cells9, cells42, cells4] at t0 t1 t2 t3 t4
  obtain ⟨s0, e0, _, z0⟩ := DataW.trod_string Try.underlying9 t0
  obtain ⟨s1, e1, _, z1⟩ := DataW.trod_string Try.underlying9 t1
  obtain ⟨s3, e3, _, z3⟩ := DataW.trod_string Try.underlying9 t3
  obtain ⟨fl, e4, _⟩ := DataW.trod_bool Try.underlying4 t4
  obtain ⟨v2, e2⟩ : ∃ v2, (cs.drop 2).take 1 = [v2] := by
    match cs, hlen with
    | [a, b, c, d, e], _ => exact ⟨c, rfl⟩
  obtain ⟨ts, hts, hwf⟩ := calls_open e2 t2
  refine ⟨⟨⟨s0, s1, ts, s3⟩, v2, fl⟩, ?_, hts, ⟨z0, z1, z3, hwf⟩⟩
  intro j hj
  have q := hcell j hj
  rw [add_plain, add_plain] at q
  rw [q]
  match j, hj with
  | 0, _ => exact pick1 e0
  | 1, _ => exact pick1 e1
  | 2, _ => exact pick1 e2
  | 3, _ => exact pick1 e3
  | 4, _ => exact pick1 e4

set_option maxRecDepth 100000 in
theorem lifted (os : Os) (started : os.Started) (H : Type) (enc : TypeId × Value → H) :
    ReturnsInHanded {} Try.checked os 6 .any (Rows.fnChatMessagesMatchesRunModelSpec.pre6 enc Try.prog Try.f6 Rows.fnChatMessagesMatchesRunModelRow.domain false) (Rows.fnChatMessagesMatchesRunModelSpec.post enc Try.prog Try.f6 false true false false) := by
  refine returnsInHanded_of_change (C := Try.checked) own started (by kernel_rfl) Try.func6
    (ChangeSpec.witness6 (enc := enc) (C := Try.checked) false ⟨#[], #[.slice none 0 0], []⟩ 8 (by kernel_rfl) (by kernel_rfl) (by kernel_rfl) (by kernel_rfl)) ?_
  intro W base args ds gs before hval0 hW hcnd _
  have hval : ∀ (j : Nat) t v, Try.f6.params[j]? = some t → args[j]? = some v → Value.okWide Try.prog W .any base t v := hval0
  have hW' := hW
  obtain ⟨p, q, hA0, hV, rfl, hfz, hnd⟩ := hW
  have hA : DataW.TrodAll enc Try.prog W 0 (fun _ => true) true Try.f6.params.toList args.toList ds p := hA0
  rw [Try.params6] at hA hval
  obtain ⟨v0, vs0, d0, ds0, p0, q0, hargs, rfl, rfl, h0, r0⟩ := trodAll_cons hA
  obtain ⟨rfl, rfl, rfl⟩ := trodAll_nil r0
  obtain rfl : args = #[v0] := by cases args; simp_all
  obtain ⟨rfl, rfl⟩ := trodVars_none hV
  obtain ⟨a0, len, cap, rfl⟩ := okWide_slice Try.underlying32 (hval 0 32 v0 rfl rfl)
  have k0 := h0
  have lt0 : ∀ x ∈ p0, x.block < W.heap.size := by obtain ⟨m, hm⟩ := k0; exact DataW.trod_lt m _ _ _ hm
  obtain ⟨ms, hms⟩ : ∃ ms, Came W a0 len cap ms := by
    obtain ⟨fuel, hf⟩ := h0
    rcases open_slice Try.underlying32 hf with ⟨hcs, _⟩ | ⟨x, l, c, m, n, D, Pl, hcs, _, hl, hm, hmm, _, hx⟩
    · simp [Value.cells] at hcs
      obtain ⟨rfl, rfl, rfl⟩ := hcs
      exact ⟨[], ⟨rfl, by simp, .inl rfl⟩⟩
    · simp [Value.cells] at hcs
      obtain ⟨rfl, rfl, rfl⟩ := hcs
      simp only [if_true] at hmm
      rw [cells44] at hx
      by_cases h0 : len = 0
      · exact ⟨[], ⟨by simp [h0], by simp, .inl h0⟩⟩
      · obtain ⟨b, off, spot⟩ := x
        obtain ⟨cs0, hc0, _⟩ := hx 0 (by omega)
        obtain ⟨_, hl0, hcell0⟩ := World.cells?_some hc0
        have hz := hcell0 0 (by omega)
        have hspot : spot = none := by
          have e : ∃ v, cs0[0]? = some v := ⟨cs0[0]'(by omega), by simp⟩
          obtain ⟨v, hv⟩ := e
          rw [hv] at hz
          simpa [Addr.add] using World.cell?_spot hz
        subst hspot
        obtain ⟨ms, hml, hmo⟩ := list_of (p := fun i m => MOK W b off i m) len (fun i hi => by
          obtain ⟨cs, c1, c2⟩ := hx i (by omega)
          exact m_open c1 c2)
        refine ⟨ms, ⟨hml, ?_, .inr ⟨b, off, rfl, ⟨?_, ?_⟩⟩⟩⟩
        · intro m hm
          obtain ⟨i, hi, rfl⟩ := List.getElem_of_mem hm
          exact (hmo i hi).2.2
        · refine ⟨some ⟨b, off, none⟩, cap, by rw [hml], .inr ⟨b, off, rfl, fun j u hu => ?_⟩⟩
          have hj : j < (mRow ms).length := (List.getElem?_eq_some_iff.1 hu).1
          rw [mRow_len] at hj
          have hk : j / 5 < ms.length := by omega
          have e := mRow_get ms (j / 5) (j % 5) hk (by omega)
          rw [show j / 5 * 5 + j % 5 = j by omega, hu] at e
          have q := (hmo (j / 5) hk).1 (j % 5) (by omega)
          rw [show off + j / 5 * 5 + j % 5 = off + j by omega] at q
          rw [q, ← e]
        · intro m hm
          obtain ⟨i, hi, rfl⟩ := List.getElem_of_mem hm
          exact (hmo i hi).2.1
  clear hA0 hval0
  refine (law_any a0 len cap ms W hms).mono fun e W' ⟨he, bel⟩ => ?_
  subst he
  exact ⟨_, rfl, _, _, _, [], _, [], hW', trodAll_mk1 (shut_bool Try.underlying4 _), (trodAll_cons_mk (Below.trod laidOut (by kernel_rfl) (of_decide_eq_true (by kernel_rfl)) k0 bel lt0) trodAll_mk0), rfl, bel.frame _, fun h => by cases h⟩

theorem over : Rows.fnChatMessagesMatchesRunModelRow.holds Try.pinned (OpenSpec.ofChange Rows.fnChatMessagesMatchesRunModelSpec) :=
  OpenClaim.holds_of_wide 6 Try.f6 rfl rfl rfl rfl rfl rfl rfl ⟨rfl, rfl, rfl, rfl, rfl⟩ rfl rfl rfl rfl rfl (by kernel_rfl) Try.func6 (by kernel_rfl)
    (of_decide_eq_true (by kernel_rfl)) (by unfold Func.isWrapper; first | (rw [if_pos (by decide +kernel)]; kernel_rfl) | (rw [if_neg (by decide +kernel)]; exact ⟨rfl, rfl⟩))
    (fun os started H enc _ => lifted os started H enc)

/-- THE STATEMENT -/
theorem proved : Rows.FnChatMessagesMatchesRunModelSaid := over
end Go.Proofs.Qxb6603195a.fnChatMessagesMatchesRunModel
