/-
  A PROOF OF 'Rows.FnWeightOfSumsDistinctMembersSaid'. The frame is the guide's template for a law over slices ('Below') at this function's number and types, with a map beside the slice; the walks are ours.
-/
import Derived.Test.Qxb6603306aLaw
import Derived.ChangeOld
import Derived.Below
import Derived.SliceStrings
namespace Go.Proofs.Qxb6603306a.fnWeightOfSumsDistinctMembers
open Go.ChangeShapes Go.WideShapes Go.ChangeAt Go.RowKit
open Go.WideMaps Go.WideElems
open W8
set_option linter.unusedVariables false

theorem own : ownKnob Try.prog.godebug = none := by kernel_rfl
theorem laidOut : laidOutB Try.prog = true := by kernel_rfl
theorem zero3 (w : World) : (zeroValue 3).run Try.prog w = .ok (.int .i64 0) w := by kernel_rfl

theorem looks_nil (W : World) : Looks W (.map none) (fun _ => 0) := by
  intro wx _ s hs
  exact Maps.look_nil false law Try.underlying25 (zero3 wx) (keyOf_string_mk Try.underlying9 hs)
theorem lens_nil (W : World) : Lens W (.map none) 0 := by
  intro wx _ ty
  exact Maps.len_nil Try.underlying25 ty

/-- the weight that the datum holds at a name -/
def wtOf {H : Type} (D : DataW H) (k : List UInt8) : Int :=
  match D.atKey (.string k) (.lit (.int .i64 0)) with
  | .lit (.int _ c) => c
  | _ => 0

theorem owns_later {H : Type} {W wx : World} {bm n : Nat} {D : DataW H} (h : W.ownsMap Try.prog 9 (plainElem Try.prog 3) bm n D) (hb : Below W.heap.size W wx) : wx.ownsMap Try.prog 9 (plainElem Try.prog 3) bm n D := by
  have hlt := h.lt
  obtain ⟨es, clock, e, r⟩ := h
  exact ⟨es, clock, (hb.block bm hlt).trans e, r⟩
theorem looks_some {H : Type} {W : World} {bm n : Nat} {D : DataW H} (h : W.ownsMap Try.prog 9 (plainElem Try.prog 3) bm n D) : Looks W (.map (some bm)) (wtOf D) := by
  intro wx hb s hs
  obtain ⟨c, hrun, hat, _⟩ := (owns_later h hb).lookup_int law Try.underlying25 Try.underlying3 (zero3 wx) (keyOf_string_mk Try.underlying9 hs)
  have e : wtOf D (key s) = c := by
    show (match D.atKey (.string s.data.toList) (.lit (.int .i64 0)) with | .lit (.int _ c) => c | _ => 0) = c
    rw [hat]
  rw [e]
  exact hrun
theorem lens_some {H : Type} {W : World} {bm n : Nat} {D : DataW H} (h : W.ownsMap Try.prog 9 (plainElem Try.prog 3) bm n D) : Lens W (.map (some bm)) (Maps.size D) := by
  intro wx hb ty
  exact (owns_later h hb).len Try.underlying25 ty

theorem cell_lt {w : World} {b o : Nat} {v : Value} (h : w.cell? ⟨b, o, none⟩ = some v) : b < w.heap.size := by
  by_cases q : b < w.heap.size
  · exact q
  · have e : w.heap[b]? = none := by simp; omega
    simp [World.cell?, e] at h

set_option maxRecDepth 100000 in
theorem lifted (os : Os) (started : os.Started) (H : Type) (enc : TypeId × Value → H) :
    ReturnsInHanded {} Try.checked os 5 .any (Rows.fnWeightOfSumsDistinctMembersSpec.pre6 enc Try.prog Try.f5 Rows.fnWeightOfSumsDistinctMembersRow.domain false) (Rows.fnWeightOfSumsDistinctMembersSpec.post enc Try.prog Try.f5 false true false false) := by
  refine returnsInHanded_of_change (C := Try.checked) own started (by kernel_rfl) Try.func5
    (ChangeSpec.witness6 (enc := enc) (C := Try.checked) false ⟨#[], #[.map none, .slice none 0 0], []⟩ 8 (by kernel_rfl) (by kernel_rfl) (by kernel_rfl) (by kernel_rfl)) ?_
  intro W base args ds gs before hval0 hW hcnd _
  have hval : ∀ (j : Nat) t v, Try.f5.params[j]? = some t → args[j]? = some v → Value.okWide Try.prog W .any base t v := hval0
  have hW' := hW
  obtain ⟨p, q, hA0, hV, rfl, hfz, hnd⟩ := hW
  have hA : DataW.TrodAll enc Try.prog W 0 (fun _ => true) true Try.f5.params.toList args.toList ds p := hA0
  rw [Try.params5] at hA hval
  obtain ⟨v0, vs0, d0, ds0, p0, q0, hargs, rfl, rfl, h0, r0⟩ := trodAll_cons hA
  obtain ⟨v1, vs1, d1, ds1, p1, q1, rfl, rfl, rfl, h1, r1⟩ := trodAll_cons r0
  obtain ⟨rfl, rfl, rfl⟩ := trodAll_nil r1
  obtain rfl : args = #[v0, v1] := by cases args; simp_all
  obtain ⟨rfl, rfl⟩ := trodVars_none hV
  obtain ⟨r, rfl⟩ := okWide_map Try.underlying25 (hval 0 25 v0 rfl rfl)
  obtain ⟨a1, len, cap, rfl⟩ := okWide_slice Try.underlying26 (hval 1 26 v1 rfl rfl)
  have k0 := h0
  have k1 := h1
  have lt0 : ∀ x ∈ p0, x.block < W.heap.size := by obtain ⟨m, hm⟩ := k0; exact DataW.trod_lt m _ _ _ hm
  have lt1 : ∀ x ∈ p1, x.block < W.heap.size := by obtain ⟨m, hm⟩ := k1; exact DataW.trod_lt m _ _ _ hm
  obtain ⟨wt, N, hlk, hln⟩ : ∃ (wt : List UInt8 → Int) (N : Nat), Looks W (.map r) wt ∧ Lens W (.map r) N := by
    obtain ⟨fuel, hf⟩ := h0
    rcases open_map Try.underlying25 hf with ⟨hcs, hx⟩ | ⟨bm, es, clock, m, rfl, hcs, hb, _, F, hx⟩
    · simp [Value.cells] at hcs
      subst hcs
      exact ⟨_, _, looks_nil W, lens_nil W⟩
    · simp [Value.cells] at hcs
      subst hcs
      have hown := World.ownsMap_of_fit (R := plainElem Try.prog 3) hb F (fun x _ z hz => elemAt_plainElem_int Try.underlying3 hz)
      exact ⟨_, _, looks_some hown, lens_some hown⟩
  obtain ⟨ss, hids, hlc, hlm⟩ : ∃ ss, IdsAt W a1 len ss ∧ len ≤ cap ∧ len ≤ maxLen := by
    obtain ⟨fuel, hf⟩ := h1
    rcases open_strings Try.underlying26 Try.underlying9 (by kernel_rfl) hf with ⟨hcs, _⟩ | ⟨x, l, c, ss, hcs, _, hl, hm, hz, _, hcell, hws⟩
    · simp [Value.cells] at hcs
      obtain ⟨rfl, rfl, rfl⟩ := hcs
      exact ⟨[], ⟨rfl, by simp, .inl rfl⟩, Nat.le_refl _, by simp [maxLen]⟩
    · simp [Value.cells] at hcs
      obtain ⟨rfl, rfl, rfl⟩ := hcs
      simp only [if_true] at hz
      refine ⟨ss.take len, ⟨by rw [List.length_take]; omega, fun s hs => hws s (List.mem_of_mem_take hs), ?_⟩, hl, Nat.le_trans hl hm⟩
      by_cases h0 : len = 0
      · exact .inl h0
      · right
        obtain ⟨b, off, spot⟩ := x
        have hc0 := hcell 0 (by omega)
        have hspot : spot = none := by simpa [Addr.add] using World.cell?_spot hc0
        subst hspot
        have hb : b < W.heap.size := by
          rw [add_plain] at hc0
          exact cell_lt hc0
        refine ⟨b, off, rfl, hb, fun k hk => ?_⟩
        rw [List.length_take] at hk
        have := hcell k (by omega)
        rw [List.getElem_take]
        rw [add_plain] at this
        rw [this, List.getD_eq_getElem?_getD, List.getElem?_eq_getElem (by omega)]
        rfl
  clear hA0 hval0
  refine (law_any r a1 len cap N ss wt W hids hlk hln hlm hlc).mono fun e W' ⟨he, bel⟩ => ?_
  subst he
  exact ⟨_, rfl, _, _, _, [], _, [], hW', trodAll_mk1 (shut_bool Try.underlying4 _), (trodAll_cons_mk (Below.trod laidOut (by kernel_rfl) (of_decide_eq_true (by kernel_rfl)) k0 bel lt0) (trodAll_cons_mk (Below.trod laidOut (by kernel_rfl) (of_decide_eq_true (by kernel_rfl)) k1 bel lt1) trodAll_mk0)), rfl, bel.frame _, fun h => by cases h⟩

theorem over : Rows.fnWeightOfSumsDistinctMembersRow.holds Try.pinned (OpenSpec.ofChange Rows.fnWeightOfSumsDistinctMembersSpec) :=
  OpenClaim.holds_of_wide 5 Try.f5 rfl rfl rfl rfl rfl rfl rfl ⟨rfl, rfl, rfl, rfl, rfl⟩ rfl rfl rfl rfl rfl (by kernel_rfl) Try.func5 (by kernel_rfl)
    (of_decide_eq_true (by kernel_rfl)) (by unfold Func.isWrapper; first | (rw [if_pos (by decide +kernel)]; kernel_rfl) | (rw [if_neg (by decide +kernel)]; exact ⟨rfl, rfl⟩))
    (fun os started H enc _ => lifted os started H enc)

/-- THE STATEMENT -/
theorem proved : Rows.FnWeightOfSumsDistinctMembersSaid := over
end Go.Proofs.Qxb6603306a.fnWeightOfSumsDistinctMembers
