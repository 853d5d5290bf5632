/-
  THE CONTRACTS OF weightOf (20) AND ZZWeightOf (15).
-/
import Derived.Test.Qxb6603306aCmp
import Derived.Maps.OwnSet
namespace Go.Proofs.Qxb6603306a.W8
open Go.ChangeShapes Go.WideShapes Go.ChangeAt Go.RowKit
open Go.Maps (Keyed string_keyed atKey_put_same atKey_put_other)

/-! ### two laws at an operation: what it gives is known -/
theorem wpList_lookup_is {P : Program} (w : World) {ops : Array Oper} {rest : List Oper} {o : Oper} {a : Act} {Q : Exit → Act → World → Prop}
    (hg : o.guard = none) (m x : Operand) (t : TypeId) (hop : o.op = Op.lookup t m x false) (mv key v : Value) (hm : a.eval m = mv) (hx : a.eval x = key)
    (hrun : (Instr.lookup t mv key false).run P w = .ok v w) (hK : wpList P ops Q rest (a.put o.dst v) w) : wpList P ops Q (o :: rest) a w := by
  refine wpList_plain hg fun K' hK' => ?_
  unfold Oper.wp
  simp [execOp, hop, hm, hx, hrun, Result.andThen]
  exact hK' _ _ hK

/-- what a look-up in the map that came in gives, in every later world -/
def Looks (w : World) (mv : Value) (wt : List UInt8 → Int) : Prop :=
  ∀ wx, Below w.heap.size w wx → ∀ s : ByteArray, s.size ≤ maxLen → (Instr.lookup 25 mv (.string s) false).run Try.prog wx = .ok (.int .i64 (wt (key s))) wx

theorem Looks.later {w wx : World} {mv : Value} {wt : List UInt8 → Int} (h : Looks w mv wt) (hb : Below w.heap.size w wx) : Looks wx mv wt :=
  fun wy hy s hs => h wy (hb.trans (hy.mono hb.size)) s hs

theorem law : Keyed Try.prog 9 := string_keyed Try.underlying9
theorem zero4 (w : World) : (zeroValue 4).run Try.prog w = .ok (.bool false) w := by kernel_rfl

theorem plainElem_bool_inv {H : Type} {P : Program} {e : TypeId} (he : P.underlying e = some .bool) {v : Value} {z : DataW H × List MemPlace} (h : plainElem P e v = some z) : ∃ x, v = .bool x ∧ z = (.lit (.bool x), []) := by
  unfold plainElem at h
  rw [he] at h
  cases v <;> simp at h
  exact ⟨_, rfl, h.symm⟩

theorem run_makeMap_hint (n : Int) (w : World) : (Instr.makeMap 43 (some (.int .i64 n))).run Try.prog w = .ok (.map (some w.heap.size)) (w.alloc (.map #[] 0)) := by
  kernel_rfl

theorem wrap_add (a b : Int) : wrap64 (wrap64 a + b) = wrap64 (b + a) := by unfold wrap64; omega

/-- one step of the sum -/
theorem sum_new {wt : List UInt8 → Int} {L : List (List UInt8)} {k : Nat} (hk : k < L.length) {x : List UInt8} (hx : x = L[k]) (h : hasB (L.take k) x = false) : wrap64 (wrap64 (Plain.S wt L k) + wt x) = wrap64 (Plain.S wt L (k + 1)) := by
  rw [Plain.S_step wt L k hk, if_neg, wrap_add, hx]
  intro q
  rw [hx, (hasB_iff _ _).2 q] at h
  cases h
theorem sum_old {wt : List UInt8 → Int} {L : List (List UInt8)} {k : Nat} (hk : k < L.length) {x : List UInt8} (hx : x = L[k]) (h : hasB (L.take k) x = true) : wrap64 (Plain.S wt L k) = wrap64 (Plain.S wt L (k + 1)) := by
  rw [Plain.S_step wt L k hk, if_pos, Int.zero_add]
  rw [← hx]
  exact (hasB_iff _ _).1 h

theorem sum_zero (wt : List UInt8 → Int) (L : List (List UInt8)) : wrap64 (Plain.S wt L 0) = 0 := by rw [Plain.S_zero]; unfold wrap64; omega

def WPost (w : World) (v : Int) (e : Ending) (w' : World) : Prop := e = .returned (.int .i64 v) ∧ Below w.heap.size w w'

set_option maxHeartbeats 1000000 in
theorem weight_small (qb : Nat) (mv : Value) (a : Option Addr) (n c : Nat) (ss : List ByteArray) (wt : List UInt8 → Int) (w : World) (hq : w.cell? ⟨qb, 0, none⟩ = some mv) (h : IdsAt w a n ss) (hlk : Looks w mv wt) (hn : n ≤ 16) (hc : n ≤ c) :
    Calls Try.prog 20 #[.pointer (some ⟨qb, 0, none⟩), .slice a n c] w (WPost w (wrap64 (Plain.S wt (ss.map key) n))) := by
  have HL : Hid (Looks w mv wt) := hlk
  clear hlk
  have HI : Hid (IdsAt w a n ss) := h
  have hl := h.len
  rcases h.row with q | ⟨b, off, rfl, hlt, hcell⟩
  · clear h hl
    subst q
    go_enter Try.func20, Try.ntmps20
    go_wp2
    go_loop [9, 42] (fun s i => i = .int .i64 0 ∧ s = .int .i64 0) (fun _ _ => 0)
    case atStart => exact ⟨rfl, rfl⟩
    case round =>
      obtain ⟨rfl, rfl⟩ := hrel
      go_wp2
      go_ret
      exact ⟨ret_int (sum_zero _ _).symm, Below.refl _ _⟩
  · clear h
    have hl' : Hid (ss.length = n) := hl
    clear hl
    have HC : Hid (∀ k, (h : k < ss.length) → w.cell? ⟨b, off + k, none⟩ = some (.string ss[k])) := hcell
    clear hcell
    go_enter Try.func20, Try.ntmps20
    go_wp2
    go_loopw [9, 42] (fun s i wr => ∃ k : Nat, k ≤ n ∧ i = .int .i64 k ∧ s = .int .i64 (wrap64 (Plain.S wt (ss.map key) k)) ∧ wr = w) (fun _ i _ => n - (intOf i).toNat)
    case atStart => exact ⟨0, by omega, rfl, by rw [sum_zero], rfl⟩
    case round =>
      obtain ⟨k, hk, rfl, rfl, rfl⟩ := hrel
      by_cases hkn : k < n
      · have hkl : k < ss.length := by rw [hl'.out]; exact hkn
        obtain ⟨s, hs⟩ : ∃ s, s = ss[k] := ⟨_, rfl⟩
        have hcs : wr.cell? ⟨b, off + k, none⟩ = some (.string s) := by rw [hs]; exact HC.out k hkl
        have hsm : s.size ≤ maxLen := by rw [hs]; exact HI.out.small _ (List.getElem_mem _)
        have HS : Hid (key s = (ss.map key)[k]'(by simpa using hkl)) := by rw [hs]; simp [Hid]
        have HI2 : Hid (IdsAt wr (some ⟨b, off, none⟩) k (ss.take k)) := HI.out.take k hk
        have HR : Hid ((Instr.lookup 25 mv (.string s) false).run Try.prog wr = .ok (.int .i64 (wt (key s))) wr) := HL.out wr (Below.refl _ _) s hsm
        have hkc : k ≤ c := by omega
        clear hs
        cases e : hasB ((ss.map key).take k) (key s)
        · have H2 : Hid (wrap64 (wrap64 (Plain.S wt (ss.map key) k) + wt (key s)) = wrap64 (Plain.S wt (ss.map key) (k + 1))) := sum_new (by simpa using hkl) HS.out e
          go_wp2_with (first | (go_at_call 23; refine (contains_any _ k c (ss.take k) s _ HI2.out (by omega)).mono ?_; rintro e w' ⟨rfl, rfl⟩) | (at_lookup; refine wpList_lookup_is _ rfl _ _ 25 rfl mv (.string s) _ rfl rfl HR.out ?_))
          go_roundw
          case rel => exact ⟨k + 1, by omega, by go_num, by rw [H2.out], trivial⟩
          case measure => simp [intOf]; omega
        · have H2 : Hid (wrap64 (Plain.S wt (ss.map key) k) = wrap64 (Plain.S wt (ss.map key) (k + 1))) := sum_old (by simpa using hkl) HS.out e
          go_wp2_with (first | (go_at_call 23; refine (contains_any _ k c (ss.take k) s _ HI2.out (by omega)).mono ?_; rintro e w' ⟨rfl, rfl⟩) | (at_lookup; refine wpList_lookup_is _ rfl _ _ 25 rfl mv (.string s) _ rfl rfl HR.out ?_))
          go_roundw
          case rel => exact ⟨k + 1, by omega, by go_num, by rw [H2.out], trivial⟩
          case measure => simp [intOf]; omega
      · have ek : k = n := by omega
        go_wp2_with fail
        go_ret
        exact ⟨ret_int (by rw [ek]), Below.refl _ _⟩

theorem has_put {D : DataW Unit} {L : List (List UInt8)} (hD : Go.Maps.IsMap D) (h : ∀ x, D.atKey (.string x) (.lit (.bool false)) = .lit (.bool (hasB L x))) (y : List UInt8) :
    ∀ x, (D.put (.string y) (.lit (.bool true))).atKey (.string x) (.lit (.bool false)) = .lit (.bool (hasB (L ++ [y]) x)) := by
  intro x
  by_cases e : x = y
  · subst e
    rw [atKey_put_same (k := .string x) hD trivial]
    have : hasB (L ++ [x]) x = true := (hasB_iff _ _).2 (by simp)
    rw [this]
  · rw [atKey_put_other (fun q => e (Lit.string.inj q)), h x]
    have : hasB (L ++ [y]) x = hasB L x := by
      rw [Bool.eq_iff_iff, hasB_iff, hasB_iff]
      simp [e]
    rw [this]
theorem has_same {D : DataW Unit} {L : List (List UInt8)} (h : ∀ x, D.atKey (.string x) (.lit (.bool false)) = .lit (.bool (hasB L x))) {y : List UInt8} (hy : hasB L y = true) :
    ∀ x, D.atKey (.string x) (.lit (.bool false)) = .lit (.bool (hasB (L ++ [y]) x)) := by
  intro x
  rw [h x]
  have : hasB (L ++ [y]) x = hasB L x := by
    rw [Bool.eq_iff_iff, hasB_iff, hasB_iff]
    have := (hasB_iff _ _).1 hy
    simp only [List.mem_append, List.mem_singleton]
    constructor
    · rintro (q | q)
      · exact q
      · rw [q]; exact this
    · exact .inl
  rw [this]

set_option maxHeartbeats 2000000 in
theorem weight_big (qb : Nat) (mv : Value) (a : Option Addr) (n c : Nat) (ss : List ByteArray) (wt : List UInt8 → Int) (w : World) (hqb : qb < w.heap.size) (hq : w.cell? ⟨qb, 0, none⟩ = some mv) (h : IdsAt w a n ss) (hlk : Looks w mv wt) (hn0 : 16 < n) (hn : n ≤ 4096) :
    Calls Try.prog 20 #[.pointer (some ⟨qb, 0, none⟩), .slice a n c] w (WPost w (wrap64 (Plain.S wt (ss.map key) n))) := by
  have HL : Hid (Looks w mv wt) := hlk
  clear hlk
  have HI : Hid (IdsAt w a n ss) := h
  have hl := h.len
  have HQ : Hid (w.cell? ⟨qb, 0, none⟩ = some mv) := hq
  clear hq
  rcases h.row with q | ⟨b, off, rfl, hlt, hcell⟩
  · omega
  · clear h
    have hl' : Hid (ss.length = n) := hl
    clear hl
    have HC : Hid (∀ k, (h : k < ss.length) → w.cell? ⟨b, off + k, none⟩ = some (.string ss[k])) := hcell
    clear hcell
    have hmm := run_makeMap_hint
    have hnI : (16 : Int) < (n : Int) := by omega
    go_enter Try.func20, Try.ntmps20
    go_wp2
    go_loopw [6, 20] (fun s i wr => ∃ (k : Nat) (D : DataW Unit), k ≤ n ∧ i = .int .i64 k ∧ s = .int .i64 (wrap64 (Plain.S wt (ss.map key) k)) ∧ wr.ownsMap Try.prog 9 (plainElem Try.prog 4) w.heap.size k D ∧ Hid (∀ x, D.atKey (.string x) (.lit (.bool false)) = .lit (.bool (hasB ((ss.map key).take k) x))) ∧ Below w.heap.size w wr) (fun _ i _ => n - (intOf i).toNat)
    case atStart => exact ⟨0, .map [], by omega, rfl, by rw [sum_zero], World.ownsMap_made _ _ _ _, fun _ => rfl, (Below.refl _ _).alloc (Nat.le_refl _) _⟩
    case round =>
      obtain ⟨k, D, hk, rfl, rfl, hown, HD, hbel⟩ := hrel
      by_cases hkn : k < n
      · have hkl : k < ss.length := by rw [hl'.out]; exact hkn
        obtain ⟨s, hs⟩ : ∃ s, s = ss[k] := ⟨_, rfl⟩
        have hcs : wr.cell? ⟨b, off + k, none⟩ = some (.string s) := by rw [hs]; exact (hbel.cell (p := ⟨b, off + k, none⟩) hlt).trans (HC.out k hkl)
        have hq : wr.cell? ⟨qb, 0, none⟩ = some mv := (hbel.cell (p := ⟨qb, 0, none⟩) hqb).trans HQ.out
        have hsm : s.size ≤ maxLen := by rw [hs]; exact HI.out.small _ (List.getElem_mem _)
        have HS : Hid (key s = (ss.map key)[k]'(by simpa using hkl)) := by rw [hs]; simp [Hid]
        have HT : Hid ((ss.map key).take (k + 1) = (ss.map key).take k ++ [key s]) := by rw [HS.out]; exact List.take_succ_eq_append_getElem (by simpa using hkl)
        have hkey : keyOf Try.prog 9 (.string s) = some (.string (key s)) := WideMaps.keyOf_string_mk Try.underlying9 hsm
        have HR : Hid ((Instr.lookup 43 (.map (some w.heap.size)) (.string s) false).run Try.prog wr = .ok (.bool (hasB ((ss.map key).take k) (key s))) wr) := by
          obtain ⟨v, ps, hrun, hv⟩ := hown.lookup (t := 43) (e := 4) law Try.underlying43 (zero4 wr) (plainElem_bool Try.underlying4 false) hkey
          obtain ⟨x, rfl, hx⟩ := plainElem_bool_inv Try.underlying4 hv
          rw [HD.out] at hx
          simp only [Prod.mk.injEq, DataW.lit.injEq, Lit.bool.injEq] at hx
          rw [hx.1]
          exact hrun
        clear hs
        cases e : hasB ((ss.map key).take k) (key s)
        · have H2 : Hid (wrap64 (wrap64 (Plain.S wt (ss.map key) k) + wt (key s)) = wrap64 (Plain.S wt (ss.map key) (k + 1))) := sum_new (by simpa using hkl) HS.out e
          go_wp2_with (first | (at_lookup; refine wpList_lookup_is _ rfl _ _ 43 rfl _ (.string s) _ rfl rfl HR.out ?_) | (at_mapUpdate; refine wpList_mapUpdate_own _ rfl _ _ _ 43 rfl 9 4 law Try.underlying43 _ w.heap.size k _ rfl hown (by unfold maxLen; omega) _ _ _ rfl rfl hkey _ [] (plainElem_bool Try.underlying4 true) ?_; intro w1 hown1 hgrow1; have hb1 := hbel.grown hgrow1 hbel.size (fun j hj => by cases hj; exact Nat.le_refl _); have hq1 : w1.cell? ⟨qb, 0, none⟩ = some mv := (hb1.cell (p := ⟨qb, 0, none⟩) hqb).trans HQ.out) | (at_lookup; refine wpList_lookup_is _ rfl _ _ 25 rfl mv (.string s) _ rfl rfl (HL.out _ hb1 s hsm) ?_))
          go_roundw
          case rel =>
            refine ⟨k + 1, _, by omega, ?_, ?_, hown1, ?_, hb1⟩
            · go_num
            · rw [H2.out]
            · rw [HT.out]; exact has_put hown.isMap HD.out _
          case measure => simp [intOf]; omega
        · have H2 : Hid (wrap64 (Plain.S wt (ss.map key) k) = wrap64 (Plain.S wt (ss.map key) (k + 1))) := sum_old (by simpa using hkl) HS.out e
          go_wp2_with (first | (at_lookup; refine wpList_lookup_is _ rfl _ _ 43 rfl _ (.string s) _ rfl rfl HR.out ?_))
          go_roundw
          case rel =>
            refine ⟨k + 1, D, by omega, ?_, ?_, hown.mono (by omega), ?_, hbel⟩
            · go_num
            · rw [H2.out]
            · rw [HT.out]; exact has_same HD.out e
          case measure => simp [intOf]; omega
      · have ek : k = n := by omega
        go_wp2_with fail
        go_ret
        exact ⟨ret_int (by rw [ek]), hbel⟩

theorem weight_any (qb : Nat) (mv : Value) (a : Option Addr) (n c : Nat) (ss : List ByteArray) (wt : List UInt8 → Int) (w : World) (hqb : qb < w.heap.size) (hq : w.cell? ⟨qb, 0, none⟩ = some mv) (h : IdsAt w a n ss) (hlk : Looks w mv wt) (hn : n ≤ 4096) (hc : n ≤ c) :
    Calls Try.prog 20 #[.pointer (some ⟨qb, 0, none⟩), .slice a n c] w (WPost w (wrap64 (Plain.S wt (ss.map key) n))) := by
  by_cases h16 : 16 < n
  · exact weight_big qb mv a n c ss wt w hqb hq h hlk h16 hn
  · exact weight_small qb mv a n c ss wt w hq h hlk (by omega) hc

theorem zzweight (r : Option Nat) (a : Option Addr) (n c : Nat) (ss : List ByteArray) (wt : List UInt8 → Int) (w : World) (h : IdsAt w a n ss) (hlk : Looks w (.map r) wt) (hn : n ≤ 4096) (hc : n ≤ c) :
    Calls Try.prog 15 #[.map r, .slice a n c] w (WPost w (wrap64 (Plain.S wt (ss.map key) n))) := by
  have HI : Hid (IdsAt w a n ss) := h
  have HL : Hid (Looks w (.map r) wt) := hlk
  clear h hlk
  go_enter Try.func15, Try.ntmps15
  go_wp2_with fail
  refine (weight_any w.heap.size (.map r) a n c ss wt _ (by simp) (by simp) (HI.out.below ((Below.refl _ _).alloc (Nat.le_refl _) _) (Nat.le_refl _)) (HL.out.later ((Below.refl _ _).alloc (Nat.le_refl _) _)) hn hc).mono ?_
  rintro e w' ⟨rfl, hb⟩
  go_wp2_with fail
  go_ret
  exact ⟨rfl, ((Below.refl _ _).alloc (Nat.le_refl _) _).trans (hb.mono (by simp))⟩
end Go.Proofs.Qxb6603306a.W8
