/-
  THE WALK OF FnWeightOfSumsDistinctMembers (5).
-/
import Derived.Test.Qxb6603306aWeight
import Derived.Deep.OwnRows
namespace Go.Proofs.Qxb6603306a.W8
open Go.ChangeShapes Go.WideShapes Go.ChangeAt Go.RowKit
open Go.Maps (Keyed string_keyed atKey_put_same atKey_put_other)

theorem wpList_len_is {P : Program} (w : World) {ops : Array Oper} {rest : List Oper} {o : Oper} {a : Act} {Q : Exit → Act → World → Prop}
    (hg : o.guard = none) (m : Operand) (t : TypeId) (hop : o.op = Op.call { callee := Callee.builtin Builtin.len, args := #[m], argTypes := #[t] }) (mv v : Value) (hm : a.eval m = mv)
    (hrun : ∀ ty, (Builtin.len_ #[t] ty #[mv]).run P w = .ok v w) (hK : wpList P ops Q rest (a.put o.dst v) w) : wpList P ops Q (o :: rest) a w := by
  refine wpList_plain hg fun K' hK' => ?_
  unfold Oper.wp
  simp [execOp, hop, resolve, invoke, builtin, hm, hrun o.type, Result.andThen]
  exact hK' _ _ hK

/-! ### the call's own row of strings -/
structure RowS (w : World) (b : Nat) (L : List ByteArray) : Prop where
  cell : ∀ k, (h : k < L.length) → w.cell? ⟨b, k, none⟩ = some (.string L[k])
  free : ∀ k, k < L.length → w.frozen? ⟨b, k, none⟩ = false
  small : ∀ s ∈ L, s.size ≤ maxLen

theorem RowS.set {w : World} {b : Nat} {L : List ByteArray} (h : RowS w b L) (k : Nat) (hk : k < L.length) (s : ByteArray) (hs : s.size ≤ maxLen) : RowS (w.setCell ⟨b, k, none⟩ (.string s)) b (L.set k s) := by
  refine ⟨fun j hj => ?_, fun j hj => ?_, fun t ht => ?_⟩
  · rw [List.length_set] at hj
    rw [List.getElem_set]
    by_cases e : k = j
    · subst e
      rw [if_pos rfl]
      exact World.cell?_setCell_same _ _ _ (h.cell k hk)
    · rw [if_neg e]
      refine (World.cell?_setCell_other _ _ _ _ (fun q => e (by injection q))).trans (h.cell j hj)
  · rw [List.length_set] at hj
    rw [World.frozen?_setCell]
    exact h.free j hj
  · rcases List.mem_or_eq_of_mem_set ht with q | q
    · exact h.small t q
    · rw [q]; exact hs
theorem RowS.drewN {w : World} {b : Nat} {L : List ByteArray} (h : RowS w b L) (n : Nat) : RowS (w.drewN n) b L := ⟨h.cell, h.free, h.small⟩

theorem RowS.made (w : World) (n : Nat) : RowS (w.alloc (.cells (madeCells #[.string ByteArray.empty] n) 9)) w.heap.size (List.replicate n ByteArray.empty) := by
  refine ⟨fun k hk => ?_, fun k hk => ?_, fun s hs => ?_⟩
  · rw [List.length_replicate] at hk
    have hb := (MapKept.heap_alloc w (.cells (madeCells #[.string ByteArray.empty] n) 9)).1
    simp only [World.cell?, hb]
    simp [madeCells, hk, Nat.mod_one]
  · have hb := (MapKept.heap_alloc w (.cells (madeCells #[.string ByteArray.empty] n) 9)).1
    simp only [World.frozen?, hb]
    simp
  · rw [(List.mem_replicate.1 hs).2]; simp [maxLen]

theorem copy_step {ss : List ByteArray} {n k : Nat} (hl : ss.length = n) (hk : k < n) : (ss.take k ++ List.replicate (n - k) ByteArray.empty).set k (ss[k]'(by omega)) = ss.take (k + 1) ++ List.replicate (n - (k + 1)) ByteArray.empty := by
  have e : n - k = (n - (k + 1)) + 1 := by omega
  rw [e, List.replicate_succ, List.take_succ_eq_append_getElem (i := k) (l := ss) (by omega), List.set_append_right _ _ (by rw [List.length_take]; omega)]
  have e2 : k - (ss.take k).length = 0 := by rw [List.length_take]; omega
  rw [e2]
  simp only [List.set_cons_zero, List.append_assoc, List.cons_append, List.nil_append]

/-- what holds at the head of the outer round i -/
structure Outer (ss L : List ByteArray) (n i : Nat) : Prop where
  len : L.length = n
  ex : ∃ S R, L.map key = S ++ R ∧ S.length = i ∧ S.Pairwise Plain.le ∧ (S ++ R).Perm (ss.map key)
theorem Outer.start {ss : List ByteArray} {n : Nat} (hl : ss.length = n) (hn : 1 ≤ n) : Outer ss ss n 1 := by
  refine ⟨hl, ?_⟩
  match ss, hl with
  | s :: r, _ => exact ⟨[key s], r.map key, rfl, rfl, by simp, List.Perm.refl _⟩
  | [], h => simp at h; omega
/-- what holds inside the inner loop -/
structure Inner (ss C : List ByteArray) (x : ByteArray) (R : List (List UInt8)) (n i j : Nat) : Prop where
  len : C.length = n
  ins : Plain.Ins (key x) R (ss.map key) (C.map key) i j
theorem Outer.inner {ss L : List ByteArray} {n i : Nat} (h : Outer ss L n i) (hi : i < L.length) : ∃ R, Inner ss L L[i] R n i i := by
  obtain ⟨S, R, e, hS, hs, hp⟩ := h.ex
  have hR : R = key L[i] :: R.drop 1 := by
    have h1 : (L.map key)[i]? = some (key L[i]) := by simp [hi]
    rw [e, List.getElem?_append_right (by omega), hS, Nat.sub_self] at h1
    match R, h1 with
    | r :: R', h1 => simp at h1; simp [h1]
  refine ⟨R.drop 1, h.len, ?_⟩
  rw [hR] at e hp
  rw [e]
  have := Plain.Ins.start hs hp
  rw [hS] at this
  exact this
theorem Inner.bnd {ss C : List ByteArray} {x : ByteArray} {R : List (List UInt8)} {n i j : Nat} (h : Inner ss C x R n i j) : j ≤ i ∧ i < n := by
  have := h.ins.bnd
  have := h.len
  simp at *
  omega
theorem Inner.step {ss C : List ByteArray} {x : ByteArray} {R : List (List UInt8)} {n i j : Nat} (h : Inner ss C x R n i (j + 1)) (hj : j < C.length) (hx : Plain.lt (key x) (key C[j]) = true) : Inner ss (C.set (j + 1) C[j]) x R n i j := by
  refine ⟨by rw [List.length_set]; exact h.len, ?_⟩
  have := h.ins.step (by simpa using hj) (by simpa using hx)
  rw [List.map_set]
  simpa using this
theorem Inner.finish {ss C : List ByteArray} {x : ByteArray} {R : List (List UInt8)} {n i j : Nat} (h : Inner ss C x R n i j) (hx : ∀ k, j = k + 1 → ∀ hk : k < C.length, Plain.lt (key x) (key C[k]) = false) : Outer ss (C.set j x) n (i + 1) := by
  refine ⟨by rw [List.length_set]; exact h.len, ?_⟩
  obtain ⟨T, e, hT, hs, hp⟩ := h.ins.finish (fun k hk hl => by simpa using hx k hk (by simpa using hl))
  exact ⟨T, R, by rw [List.map_set]; exact e, hT, hs, hp⟩
theorem Outer.done {ss L : List ByteArray} {n : Nat} (h : Outer ss L n n) : (L.map key).Pairwise Plain.le ∧ (L.map key).Perm (ss.map key) := by
  obtain ⟨S, R, e, hS, hs, hp⟩ := h.ex
  have hl := h.len
  have : R = [] := by
    have h1 : (L.map key).length = (S ++ R).length := by rw [e]
    simp at h1
    exact List.eq_nil_of_length_eq_zero (by omega)
  subst this
  rw [List.append_nil] at e hp
  rw [e]
  exact ⟨hs, hp⟩

/-! ### the scan -/
theorem scan_first {wt : List UInt8 → Int} {L : List (List UInt8)} (h : 0 < L.length) {x : List UInt8} (hx : x = L[0]) : wrap64 (wrap64 (Plain.S wt L 0) + wt x) = wrap64 (Plain.S wt L (0 + 1)) :=
  sum_new h hx (by rw [List.take_zero]; rfl)
theorem scan_new {wt : List UInt8 → Int} {L : List (List UInt8)} (hs : L.Pairwise Plain.le) {k : Nat} (h : k + 1 < L.length) {x y : List UInt8} (hx : x = L[k + 1]) (hy : y = L[k]) (hne : ¬ x = y) : wrap64 (wrap64 (Plain.S wt L (k + 1)) + wt x) = wrap64 (Plain.S wt L (k + 1 + 1)) := by
  refine sum_new h hx ?_
  rw [← Bool.not_eq_true, hasB_iff, hx]
  intro q
  exact hne (by rw [hx, hy]; exact (Plain.sorted_mem hs k h).1 q)
theorem scan_old {wt : List UInt8 → Int} {L : List (List UInt8)} (hs : L.Pairwise Plain.le) {k : Nat} (h : k + 1 < L.length) {x y : List UInt8} (hx : x = L[k + 1]) (hy : y = L[k]) (he : x = y) : wrap64 (Plain.S wt L (k + 1)) = wrap64 (Plain.S wt L (k + 1 + 1)) := by
  refine sum_old h hx ?_
  rw [hasB_iff, hx]
  exact (Plain.sorted_mem hs k h).2 (by rw [← hx, ← hy]; exact he)


theorem below_dn {B : Nat} {a w : World} (h : Below B a w) (n : Nat) : Below B a (w.drewN n) := h.trans ⟨rfl, rfl, rfl, Nat.le_refl _, fun _ _ => rfl⟩

def LPost (w : World) (e : Ending) (w' : World) : Prop := e = .returned (.bool true) ∧ Below w.heap.size w w'

theorem info9 : (Try.prog.info? 9).map (fun i => (i.zero, i.size, i.bytes)) = some (some (.string ByteArray.empty), 1, 16) := by kernel_rfl
theorem run_make9 (n : Nat) (hn : n ≤ 4096) (w : World) : (Instr.makeSlice 26 (.int .i64 (n : Int)) (.int .i64 (n : Int))).run Try.prog w = .ok (.slice (some ⟨w.heap.size, 0, none⟩) n n) (w.alloc (.cells (madeCells #[.string ByteArray.empty] n) 9)) :=
  run_make_row' 26 9 (.string ByteArray.empty) 16 Try.underlying26 info9 rfl .i64 .i64 n (by omega) (by omega) w

/-- what 'len' of the map that came in gives, in every later world -/
def Lens (w : World) (mv : Value) (N : Nat) : Prop := ∀ wx, Below w.heap.size w wx → ∀ ty, (Builtin.len_ #[25] ty #[mv]).run Try.prog wx = .ok (.int .i64 (N : Int)) wx

set_option maxHeartbeats 4000000 in
theorem law_some (r : Option Nat) (b off n c N : Nat) (ss : List ByteArray) (wt : List UInt8 → Int) (w : World) (HI : Hid (IdsAt w (some ⟨b, off, none⟩) n ss)) (HL : Hid (Looks w (.map r) wt)) (HN : Hid (Lens w (.map r) N)) (hm : n ≤ maxLen) (hc : n ≤ c) (hn1 : 1 ≤ n) (hlt : b < w.heap.size)
    (HC : Hid (∀ k, (h : k < ss.length) → w.cell? ⟨b, off + k, none⟩ = some (.string ss[k]))) :
    Calls Try.prog 5 #[.map r, .slice (some ⟨b, off, none⟩) n c] w (LPost w) := by
  go_enter Try.func5, Try.ntmps5
  go_wp2_with fail
  refine (fit_any _ n c ss _ HI.out hm).mono ?_
  rintro e w' ⟨f, rfl, hf, rfl⟩
  cases f
  · go_wp2_with fail
    go_ret
    exact ⟨rfl, Below.refl _ _⟩
  have hn : n ≤ 4096 := hf rfl
  clear hf
  have hnI : (n : Int) ≤ 4096 := by omega
  have hlen := fun ty => HN.out w (Below.refl _ _) ty
  by_cases hN : 65536 < N
  · go_wp2_with fail
    go_ret
    exact ⟨rfl, Below.refl _ _⟩
  have hNd : decide ((65536 : Int) < (N : Int)) = false := decide_eq_false (by omega)
  clear hN
  have hmk := run_make9 n hn
  have HK : Hid (ss.length = n) := HI.out.len
  go_wp2_with fail
  clear hlen hmk
  go_loopw [6] (fun i wr => ∃ k : Nat, k ≤ n ∧ i = .int .i64 k ∧ RowS wr w.heap.size (ss.take k ++ List.replicate (n - k) ByteArray.empty) ∧ Below w.heap.size w wr) (fun i _ => n - (intOf i).toNat)
  case atStart => exact ⟨0, by omega, rfl, RowS.made w n, (Below.refl _ _).alloc (Nat.le_refl _) _⟩
  case round =>
    obtain ⟨k, hk, rfl, hrow, hbel⟩ := hrel
    have hklen : (ss.take k ++ List.replicate (n - k) ByteArray.empty).length = n := by
      rw [List.length_append, List.length_take, List.length_replicate, HK.out]; omega
    by_cases hkn : k < n
    · have hkl : k < ss.length := by rw [HK.out]; exact hkn
      obtain ⟨s, hs⟩ : ∃ s, s = ss[k] := ⟨_, rfl⟩
      have hcs : wr.cell? ⟨b, off + k, none⟩ = some (.string s) := by rw [hs]; exact (hbel.cell (p := ⟨b, off + k, none⟩) hlt).trans (HC.out k hkl)
      obtain ⟨old, hold⟩ : ∃ old, wr.cell? ⟨w.heap.size, k, none⟩ = some old := ⟨_, hrow.cell k (by rw [hklen]; exact hkn)⟩
      have hfr : wr.frozen? ⟨w.heap.size, k, none⟩ = false := hrow.free k (by rw [hklen]; exact hkn)
      have hsm : s.size ≤ maxLen := by rw [hs]; exact HI.out.small _ (List.getElem_mem _)
      have HR : Hid (RowS (wr.setCell ⟨w.heap.size, k, none⟩ (.string s)) w.heap.size (ss.take (k + 1) ++ List.replicate (n - (k + 1)) ByteArray.empty)) := by
        have := hrow.set k (by rw [hklen]; exact hkn) s hsm
        rw [hs, copy_step HK.out hkn] at this
        rw [hs]
        exact this
      clear hs hrow hklen
      go_wp2_with fail
      go_roundw
      case rel => exact ⟨k + 1, by omega, by go_num, HR.out, hbel.setCell (Nat.le_refl _) _⟩
      case measure => simp [intOf]; omega
    · have ek : k = n := by omega
      have HO : Hid (RowS wr w.heap.size ss) := by
        have := hrow
        rw [ek, List.take_of_length_le (by rw [HK.out]; omega), Nat.sub_self, List.replicate_zero, List.append_nil] at this
        exact this
      clear hrow hklen ek
      go_wp2_with fail
      go_loopw [7] (fun i wr => ∃ (k : Nat) (L : List ByteArray), 1 ≤ k ∧ k ≤ n ∧ i = .int .i64 k ∧ Hid (Outer ss L n k) ∧ RowS wr w.heap.size L ∧ Below w.heap.size w wr) (fun i _ => n - (intOf i).toNat)
      case atStart => exact ⟨1, ss, by omega, by omega, rfl, Outer.start HK.out hn1, HO.out, hbel⟩
      case round =>
        clear HO hbel hkn hk
        obtain ⟨i, L, hi1, hin, rfl, HO, hrow, hbel⟩ := hrel
        by_cases hlt2 : i < n
        · have hiL : i < L.length := by rw [HO.out.len]; exact hlt2
          obtain ⟨R, hI0⟩ := HO.out.inner hiL
          obtain ⟨x, hx⟩ : ∃ x, x = L[i] := ⟨_, rfl⟩
          have hcx : wr.cell? ⟨w.heap.size, i, none⟩ = some (.string x) := by rw [hx]; exact hrow.cell i hiL
          have hxm : x.size ≤ maxLen := by rw [hx]; exact hrow.small _ (List.getElem_mem _)
          have HI0 : Hid (Inner ss L x R n i i) := by rw [hx]; exact hI0
          clear hx hI0 HO
          go_wp2_with fail
          go_loopw [9] (fun j wi => ∃ (m : Nat) (C : List ByteArray), j = .int .i64 m ∧ Hid (Inner ss C x R n i m) ∧ RowS wi w.heap.size C ∧ Below w.heap.size w wi) (fun j _ => (intOf j).toNat)
          case atStart => exact ⟨i, L, rfl, HI0, hrow, hbel⟩
          case round =>
            clear HI0 hrow hbel hcx hiL
            obtain ⟨m, C, rfl, HN1, hrow, hbel⟩ := hrel
            have hb1 := HN1.out.bnd
            have hCl : C.length = n := HN1.out.len
            have HCl : Hid (C.length = n) := hCl
            clear hCl
            obtain ⟨old, hold⟩ : ∃ old, wr.cell? ⟨w.heap.size, m, none⟩ = some old := ⟨_, hrow.cell m (by rw [HCl.out]; omega)⟩
            have hfr : wr.frozen? ⟨w.heap.size, m, none⟩ = false := hrow.free m (by rw [HCl.out]; omega)
            match m with
            | 0 =>
              have HF : Hid (Outer ss (C.set 0 x) n (i + 1)) := HN1.out.finish (fun k hk => by omega)
              have HR : Hid (RowS (wr.setCell ⟨w.heap.size, 0, none⟩ (.string x)) w.heap.size (C.set 0 x)) := hrow.set 0 (by rw [HCl.out]; omega) x hxm
              have hd : decide ((0 : Int) < ((0 : Nat) : Int)) = false := rfl
              clear HN1 hrow
              go_wp2_with fail
              go_roundw
              case rel => exact ⟨i + 1, C.set 0 x, by omega, by omega, by go_num, HF, HR.out, hbel.setCell (Nat.le_refl _) _⟩
              case measure => simp [intOf]; omega
            | m + 1 =>
              have hmC : m < C.length := by rw [HCl.out]; omega
              obtain ⟨y, hy⟩ : ∃ y, y = C[m] := ⟨_, rfl⟩
              have hcy : wr.cell? ⟨w.heap.size, m, none⟩ = some (.string y) := by rw [hy]; exact hrow.cell m hmC
              have hym : y.size ≤ maxLen := by rw [hy]; exact hrow.small _ (List.getElem_mem _)
              have hd : decide ((0 : Int) < ((m + 1 : Nat) : Int)) = true := decide_eq_true (by omega)
              have hm1 : (((m + 1 : Nat) : Int) - 1) = (m : Int) := by omega
              cases hlt3 : Plain.lt (key x) (key y)
              · have HF : Hid (Outer ss (C.set (m + 1) x) n (i + 1)) := HN1.out.finish (fun k hk hl => by
                  have e : k = m := by omega
                  subst e
                  rw [← hy]; exact hlt3)
                have HR : Hid (∀ nq, RowS ((wr.drewN nq).setCell ⟨w.heap.size, m + 1, none⟩ (.string x)) w.heap.size (C.set (m + 1) x)) := fun nq => (hrow.drewN nq).set (m + 1) (by rw [HCl.out]; omega) x hxm
                have HLT : Hid (Plain.lt x.data.toList y.data.toList = false) := hlt3
                clear HN1 hrow hlt3 hy
                go_wp2_with fail
                refine (cmp_any y x _ hym hxm).mono ?_
                rintro e w' ⟨cc, rfl, hcc, nq, rfl⟩
                have h0 : decide (0 < cc) = false := hcc.out.trans HLT.out
                clear hcc
                go_wp2_with fail
                go_roundw
                case rel => exact ⟨i + 1, C.set (m + 1) x, by omega, by omega, by go_num, HF, HR.out nq, (below_dn hbel nq).setCell (Nat.le_refl _) _⟩
                case measure => simp [intOf]; omega
              · have HF : Hid (Inner ss (C.set (m + 1) y) x R n i m) := by rw [hy]; exact HN1.out.step hmC (by rw [← hy]; exact hlt3)
                have HR : Hid (∀ nq, RowS ((wr.drewN nq).setCell ⟨w.heap.size, m + 1, none⟩ (.string y)) w.heap.size (C.set (m + 1) y)) := fun nq => (hrow.drewN nq).set (m + 1) (by rw [HCl.out]; omega) y hym
                have HLT : Hid (Plain.lt x.data.toList y.data.toList = true) := hlt3
                clear HN1 hrow hlt3 hy
                go_wp2_with fail
                refine (cmp_any y x _ hym hxm).mono ?_
                rintro e w' ⟨cc, rfl, hcc, nq, rfl⟩
                have h0 : decide (0 < cc) = true := hcc.out.trans HLT.out
                clear hcc
                go_wp2_with fail
                go_roundw
                case rel => exact ⟨m, C.set (m + 1) y, by go_num, HF, HR.out nq, (below_dn hbel nq).setCell (Nat.le_refl _) _⟩
                case measure => simp [intOf]
        · have ei : i = n := by omega
          have HP : Hid ((L.map key).Pairwise Plain.le ∧ (L.map key).Perm (ss.map key)) := by rw [ei] at HO; exact HO.out.done
          have HLl : Hid (L.length = n) := HO.out.len
          clear HO ei
          go_wp2_with fail
          go_loopw [10, 11] (fun v j wr => ∃ k : Nat, k ≤ n ∧ j = .int .i64 k ∧ v = .int .i64 (wrap64 (Plain.S wt (L.map key) k)) ∧ RowS wr w.heap.size L ∧ Below w.heap.size w wr) (fun _ j _ => n - (intOf j).toNat)
          case atStart => exact ⟨0, by omega, rfl, by rw [sum_zero], hrow, hbel⟩
          case round =>
            clear hrow hbel
            obtain ⟨j, hj, rfl, rfl, hrow, hbel⟩ := hrel
            by_cases hjn : j < n
            · have hjL : j < L.length := by rw [HLl.out]; exact hjn
              obtain ⟨x, hx⟩ : ∃ x, x = L[j] := ⟨_, rfl⟩
              have hcx : wr.cell? ⟨w.heap.size, j, none⟩ = some (.string x) := by rw [hx]; exact hrow.cell j hjL
              have hxm : x.size ≤ maxLen := by rw [hx]; exact hrow.small _ (List.getElem_mem _)
              have hjnI : (j : Int) < (n : Int) := by omega
              rcases Nat.eq_zero_or_pos j with hj0 | hj0
              · subst hj0
                have H2 : Hid (wrap64 (wrap64 (Plain.S wt (L.map key) 0) + wt (key x)) = wrap64 (Plain.S wt (L.map key) (0 + 1))) := scan_first (by simpa using hjL) (by rw [hx]; simp)
                clear hx
                go_wp2_with fail
                go_quiet (fail)
                go_wp2_with (at_lookup; refine wpList_lookup_is _ rfl _ _ 25 rfl (.map r) (.string x) _ rfl rfl (HL.out _ (below_dn hbel _) x hxm) ?_)
                go_roundw
                case rel => exact ⟨1, by omega, by go_num, by rw [H2.out], hrow.drewN _, below_dn hbel _⟩
                case measure => simp [intOf]; omega
              · obtain ⟨q, rfl⟩ : ∃ q, j = q + 1 := ⟨j - 1, by omega⟩
                have hqL : q < L.length := by omega
                obtain ⟨y, hy⟩ : ∃ y, y = L[q] := ⟨_, rfl⟩
                have hcy : wr.cell? ⟨w.heap.size, q, none⟩ = some (.string y) := by rw [hy]; exact hrow.cell q hqL
                have hq0 : ((q : Int) + 1 == 0) = false := beq_eq_false_iff_ne.2 (by omega)
                have hqn1 : (q : Int) + 1 < (n : Int) := by omega
                have hqn : (q : Int) < (n : Int) := by omega
                have hxk : Hid (key x = (L.map key)[q + 1]'(by simpa using hjL)) := by rw [hx]; simp [Hid]
                have hyk : Hid (key y = (L.map key)[q]'(by simpa using hqL)) := by rw [hy]; simp [Hid]
                cases e : (x.toList == y.toList)
                · have H2 : Hid (wrap64 (wrap64 (Plain.S wt (L.map key) (q + 1)) + wt (key x)) = wrap64 (Plain.S wt (L.map key) (q + 1 + 1))) :=
                    scan_new HP.out.1 (by simpa using hjL) hxk.out hyk.out (fun h => by rw [key_beq, h] at e; simp at e)
                  have e' : (x.toList != y.toList) = true := by simp [bne, e]
                  clear hx hy
                  go_wp2_with fail
                  go_quiet (fail)
                  go_wp2_with (at_lookup; refine wpList_lookup_is _ rfl _ _ 25 rfl (.map r) (.string x) _ rfl rfl (HL.out _ (below_dn hbel _) x hxm) ?_)
                  go_roundw
                  case rel => exact ⟨q + 1 + 1, by omega, by go_num, by rw [H2.out], hrow.drewN _, below_dn hbel _⟩
                  case measure => simp [intOf]; omega
                · have H2 : Hid (wrap64 (Plain.S wt (L.map key) (q + 1)) = wrap64 (Plain.S wt (L.map key) (q + 1 + 1))) :=
                    scan_old HP.out.1 (by simpa using hjL) hxk.out hyk.out (by rw [key_beq] at e; exact eq_of_beq e)
                  have e' : (x.toList != y.toList) = false := by simp [bne, e]
                  clear hx hy
                  go_wp2_with fail
                  go_quiet (fail)
                  go_wp2_with fail
                  go_roundw
                  case rel => exact ⟨q + 1 + 1, by omega, by go_num, by rw [H2.out], hrow.drewN _, below_dn hbel _⟩
                  case measure => simp [intOf]; omega
            · have ej : j = n := by omega
              have HE : Hid (wrap64 (Plain.S wt (ss.map key) n) = wrap64 (Plain.S wt (L.map key) j)) := by
                have h1 := Plain.S_perm wt HP.out.2
                rw [List.length_map, List.length_map, HLl.out, HK.out] at h1
                rw [ej, h1]
                exact rfl
              clear ej
              have HI2 : Hid (IdsAt wr (some ⟨b, off, none⟩) n ss) := HI.out.below hbel (Nat.le_refl _)
              go_wp2_with fail
              refine (zzweight r _ n c ss wt _ HI2.out (HL.out.later hbel) hn hc).mono ?_
              rintro e w' ⟨rfl, hb9⟩
              go_wp2_with fail
              go_ret
              exact ⟨by rw [HE.out]; simp, hbel.trans (hb9.mono hbel.size)⟩

set_option maxHeartbeats 1000000 in
theorem law_zero (r : Option Nat) (a : Option Addr) (c N : Nat) (wt : List UInt8 → Int) (w : World) (HL : Hid (Looks w (.map r) wt)) (HN : Hid (Lens w (.map r) N)) :
    Calls Try.prog 5 #[.map r, .slice a 0 c] w (LPost w) := by
  have HI : Hid (IdsAt w a 0 []) := ⟨rfl, by simp, .inl rfl⟩
  go_enter Try.func5, Try.ntmps5
  go_wp2_with fail
  refine (fit_any _ 0 c [] _ HI.out (by simp [maxLen])).mono ?_
  rintro e w' ⟨f, rfl, hf, rfl⟩
  cases f
  · go_wp2_with fail
    go_ret
    exact ⟨rfl, Below.refl _ _⟩
  clear hf
  have hlen := fun ty => HN.out w (Below.refl _ _) ty
  by_cases hN : 65536 < N
  · go_wp2_with fail
    go_ret
    exact ⟨rfl, Below.refl _ _⟩
  have hNd : decide ((65536 : Int) < (N : Int)) = false := decide_eq_false (by omega)
  clear hN
  have hmk := run_make9 0 (by omega)
  simp only [Int.natCast_zero] at hmk
  go_wp2_with fail
  clear hlen hmk
  go_loopw [6] (fun i wr => i = .int .i64 0 ∧ Below w.heap.size w wr) (fun _ _ => 0)
  case atStart => exact ⟨rfl, (Below.refl _ _).alloc (Nat.le_refl _) _⟩
  case round =>
    obtain ⟨rfl, hbel⟩ := hrel
    go_wp2_with fail
    go_loopw [7] (fun i wr => i = .int .i64 1 ∧ Below w.heap.size w wr) (fun _ _ => 0)
    case atStart => exact ⟨rfl, hbel⟩
    case round =>
      clear hbel
      obtain ⟨rfl, hbel⟩ := hrel
      go_wp2_with fail
      go_loopw [10, 11] (fun v i wr => v = .int .i64 0 ∧ i = .int .i64 0 ∧ Below w.heap.size w wr) (fun _ _ _ => 0)
      case atStart => exact ⟨rfl, rfl, hbel⟩
      case round =>
        clear hbel
        obtain ⟨rfl, rfl, hbel⟩ := hrel
        have HI2 : Hid (IdsAt wr a 0 []) := HI.out.below hbel (Nat.le_refl _)
        have HZ : Hid (wrap64 (Plain.S wt (List.map key []) 0) = 0) := sum_zero _ _
        go_wp2_with fail
        refine (zzweight r _ 0 c [] wt _ HI2.out (HL.out.later hbel) (by omega) (by omega)).mono ?_
        rw [HZ.out]
        rintro e w' ⟨rfl, hb9⟩
        go_wp2_with fail
        go_ret
        exact ⟨rfl, hbel.trans (hb9.mono hbel.size)⟩

/-- the law, whatever came in -/
theorem law_any (r : Option Nat) (a : Option Addr) (n c N : Nat) (ss : List ByteArray) (wt : List UInt8 → Int) (w : World) (HI : IdsAt w a n ss) (HL : Looks w (.map r) wt) (HN : Lens w (.map r) N) (hm : n ≤ maxLen) (hc : n ≤ c) :
    Calls Try.prog 5 #[.map r, .slice a n c] w (LPost w) := by
  by_cases h0 : n = 0
  · subst h0
    exact law_zero r a c N wt w HL HN
  · rcases HI.row with q | ⟨b, off, rfl, hlt, hc'⟩
    · exact absurd q h0
    · exact law_some r b off n c N ss wt w HI HL HN hm hc (by omega) hlt hc'
end Go.Proofs.Qxb6603306a.W8
