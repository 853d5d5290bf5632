/-
  A PROOF OF 'Rows.FnCallBuilderAddReturnsWhatCallsHoldSaid'. The frame is the guide's template for a law over slices ('Below') at this function's number and types; the opening of a slice of structs and the walks are ours.
-/
import Derived.Test.Qxb6603195aLawA
import Derived.OpenShut
import Derived.ShutString
import Derived.ChangeOld
import Derived.Below
import Derived.Deep.Slices
import Derived.Lib.SmallJoins
namespace Go.Proofs.Qxb6603195a.fnCallBuilderAddReturnsWhatCallsHold
open Go.ChangeShapes Go.WideShapes Go.ChangeAt Go.RowKit
open Go.Deep Go.Joins
open W5
set_option linter.unusedVariables false

theorem own : ownKnob Try.prog.godebug = none := by kernel_rfl
theorem laidOut : laidOutB Try.prog = true := by kernel_rfl
theorem cells3 : Try.prog.cellsOf 3 = 1 := by kernel_rfl
theorem cells9 : Try.prog.cellsOf 9 = 1 := by kernel_rfl
theorem cells27 : Try.prog.cellsOf 27 = 4 := by kernel_rfl

theorem list_of {α : Type} {p : Nat → α → Prop} : ∀ n, (∀ i, i < n → ∃ x, p i x) → ∃ l : List α, l.length = n ∧ ∀ i, (h : i < l.length) → p i l[i]
  | 0, _ => ⟨[], rfl, fun i h => by simp at h⟩
  | n + 1, h => by
    obtain ⟨l, hl, hp⟩ := list_of n (fun i hi => h i (by omega))
    obtain ⟨x, hx⟩ := h n (by omega)
    refine ⟨l ++ [x], by simp [hl], fun i hi => ?_⟩
    by_cases q : i < l.length
    · rw [List.getElem_append_left q]; exact hp i q
    · have e : i = l.length := by simp at hi; omega
      subst e
      simp
      rw [hl]; exact hx

theorem cell_lt {w : World} {b o : Nat} {v : Value} (h : w.cell? ⟨b, o, none⟩ = some v) : b < w.heap.size := by
  by_cases q : b < w.heap.size
  · exact q
  · have e : w.heap[b]? = none := by simp; omega
    simp [World.cell?, e] at h

/-- what one element of the slice is -/
def FragOK (w : World) (b off i : Nat) (f : Frag) : Prop :=
  (w.cell? ⟨b, off + i * 4, none⟩ = some (.int .i64 f.ix) ∧ w.cell? ⟨b, off + i * 4 + 1, none⟩ = some (.string f.id) ∧ w.cell? ⟨b, off + i * 4 + 2, none⟩ = some (.string f.name) ∧ w.cell? ⟨b, off + i * 4 + 3, none⟩ = some (.string f.args)) ∧
    (Lit.int .i64 f.ix).wf = true ∧ f.id.size ≤ maxLen ∧ f.name.size ≤ maxLen ∧ f.args.size ≤ maxLen

theorem frag_open {H : Type} {enc : TypeId × Value → H} {w : World} {base : Nat} {sp : Nat → Bool} {hd : Bool} {n b off i : Nat} {cs : List Value} {y : DataW H × List MemPlace}
    (h1 : w.cells? base ((⟨b, off, none⟩ : Addr).add (i * 4)) 4 = some cs) (h2 : DataW.trod enc Try.prog w base sp hd n 27 cs = some y) : ∃ f, FragOK w b off i f := by
  obtain ⟨_, hlen, hcell⟩ := World.cells?_some h1
  obtain ⟨y0, y1, y2, y3, m, _, _, t0, t1, t2, t3⟩ := trod_struct4 Try.underlying27 h2
  simp only [cells3, cells9] at t0 t1 t2 t3
  obtain ⟨ix, e0, _, wf⟩ := DataW.trod_int Try.underlying3 t0
  obtain ⟨s1, e1, _, z1⟩ := DataW.trod_string Try.underlying9 t1
  obtain ⟨s2, e2, _, z2⟩ := DataW.trod_string Try.underlying9 t2
  obtain ⟨s3, e3, _, z3⟩ := DataW.trod_string Try.underlying9 t3
  have at_ : ∀ (j : Nat) (v : Value), (cs.drop j).take 1 = [v] → cs[j]? = some v := by
    intro j v h
    have := congrArg (·[0]?) h
    simpa using this
  have c : ∀ (j : Nat) (v : Value), j < 4 → cs[j]? = some v → w.cell? ⟨b, off + i * 4 + j, none⟩ = some v := by
    intro j v hj h
    have := hcell j hj
    rw [add_plain, add_plain] at this
    rw [this, h]
  refine ⟨⟨ix, s1, s2, s3⟩, ⟨?_, c 1 _ (by omega) (at_ 1 _ e1), c 2 _ (by omega) (at_ 2 _ e2), c 3 _ (by omega) (at_ 3 _ e3)⟩, wf, z1, z2, z3⟩
  exact c 0 _ (by omega) (at_ 0 _ e0)

set_option maxRecDepth 100000 in
theorem lifted (os : Os) (started : os.Started) (H : Type) (enc : TypeId × Value → H) :
    ReturnsInHanded {} Try.checked os 3 .any (Rows.fnCallBuilderAddReturnsWhatCallsHoldSpec.pre6 enc Try.prog Try.f3 Rows.fnCallBuilderAddReturnsWhatCallsHoldRow.domain false) (Rows.fnCallBuilderAddReturnsWhatCallsHoldSpec.post enc Try.prog Try.f3 false true false false) := by
  refine returnsInHanded_of_change (C := Try.checked) own started (by kernel_rfl) Try.func3
    (ChangeSpec.witness6 (enc := enc) (C := Try.checked) false ⟨#[], #[.slice none 0 0], []⟩ 8 (by kernel_rfl) (by kernel_rfl) (by kernel_rfl) (by kernel_rfl)) ?_
  intro W base args ds gs before hval0 hW hcnd _
  have hval : ∀ (j : Nat) t v, Try.f3.params[j]? = some t → args[j]? = some v → Value.okWide Try.prog W .any base t v := hval0
  have hW' := hW
  obtain ⟨p, q, hA0, hV, rfl, hfz, hnd⟩ := hW
  have hA : DataW.TrodAll enc Try.prog W 0 (fun _ => true) true Try.f3.params.toList args.toList ds p := hA0
  rw [Try.params3] at hA hval
  obtain ⟨v0, vs0, d0, ds0, p0, q0, hargs, rfl, rfl, h0, r0⟩ := trodAll_cons hA
  obtain ⟨rfl, rfl, rfl⟩ := trodAll_nil r0
  obtain rfl : args = #[v0] := by cases args; simp_all
  obtain ⟨rfl, rfl⟩ := trodVars_none hV
  obtain ⟨a0, len, cap, rfl⟩ := okWide_slice Try.underlying22 (hval 0 22 v0 rfl rfl)
  have k0 := h0
  have lt0 : ∀ x ∈ p0, x.block < W.heap.size := by obtain ⟨m, hm⟩ := k0; exact DataW.trod_lt m _ _ _ hm
  obtain ⟨fs, hfs, hlm⟩ : ∃ fs, FragsAt W a0 len fs ∧ len ≤ maxLen := by
    obtain ⟨fuel, hf⟩ := h0
    rcases open_slice Try.underlying22 hf with ⟨hcs, _⟩ | ⟨x, l, c, m, n, D, Pl, hcs, _, hl, hm, hmm, _, hx⟩
    · simp [Value.cells] at hcs
      obtain ⟨rfl, rfl, rfl⟩ := hcs
      exact ⟨[], ⟨rfl, by simp, .inl rfl⟩, by simp [maxLen]⟩
    · simp [Value.cells] at hcs
      obtain ⟨rfl, rfl, rfl⟩ := hcs
      simp only [if_true] at hmm
      rw [cells27] at hx
      by_cases h0 : len = 0
      · exact ⟨[], ⟨by simp [h0], by simp, .inl h0⟩, Nat.le_trans hl hm⟩
      · obtain ⟨b, off, spot⟩ := x
        obtain ⟨cs0, hc0, _⟩ := hx 0 (by omega)
        obtain ⟨_, hl0, hcell0⟩ := World.cells?_some hc0
        have hz := hcell0 0 (by omega)
        have hspot : spot = none := by
          have e : ∃ v, cs0[0]? = some v := ⟨cs0[0]'(by omega), by simp⟩
          obtain ⟨v, hv⟩ := e
          rw [hv] at hz
          simpa [Addr.add] using World.cell?_spot hz
        subst hspot
        obtain ⟨fs, hfl, hfo⟩ := list_of (p := fun i f => FragOK W b off i f) len (fun i hi => by
          obtain ⟨cs, c1, c2⟩ := hx i (by omega)
          exact frag_open c1 c2)
        refine ⟨fs, ⟨hfl, ?_, .inr ⟨b, off, rfl, ?_, fun k hk => (hfo k hk).1⟩⟩, Nat.le_trans hl hm⟩
        · intro f hf
          obtain ⟨i, hi, rfl⟩ := List.getElem_of_mem hf
          exact (hfo i hi).2
        · exact cell_lt (hfo 0 (by omega)).1.1
  clear hA0 hval0
  refine (law_any a0 len cap fs W hfs hlm).mono fun e W' ⟨he, bel⟩ => ?_
  subst he
  exact ⟨_, rfl, _, _, _, [], _, [], hW', trodAll_mk1 (shut_bool Try.underlying4 _), (trodAll_cons_mk (Below.trod laidOut (by kernel_rfl) (of_decide_eq_true (by kernel_rfl)) k0 bel lt0) trodAll_mk0), rfl, bel.frame _, fun h => by cases h⟩

theorem over : Rows.fnCallBuilderAddReturnsWhatCallsHoldRow.holds Try.pinned (OpenSpec.ofChange Rows.fnCallBuilderAddReturnsWhatCallsHoldSpec) :=
  OpenClaim.holds_of_wide 3 Try.f3 rfl rfl rfl rfl rfl rfl rfl ⟨rfl, rfl, rfl, rfl, rfl⟩ rfl rfl rfl rfl rfl (by kernel_rfl) Try.func3 (by kernel_rfl)
    (of_decide_eq_true (by kernel_rfl)) (by unfold Func.isWrapper; first | (rw [if_pos (by decide +kernel)]; kernel_rfl) | (rw [if_neg (by decide +kernel)]; exact ⟨rfl, rfl⟩))
    (fun os started H enc _ => lifted os started H enc)

/-- THE STATEMENT -/
theorem proved : Rows.FnCallBuilderAddReturnsWhatCallsHoldSaid := over
end Go.Proofs.Qxb6603195a.fnCallBuilderAddReturnsWhatCallsHold
