/-
  slices.Grow (44) AND slices.Concat (40) at calls.
-/
import Derived.Test.Qxb6603195aMsg
import Derived.Lib.AppendZeros
import Derived.Laws.AppendOwnNone
import Derived.Maps.AppendAt
import Derived.Deep.AppendLies
namespace Go.Proofs.Qxb6603195a.W6
open Go.ChangeShapes Go.WideShapes Go.ChangeAt Go.RowKit
open W5 (ret_int empty_iff Fr cells_ne lt_of_block size_of_empty)

theorem info74 : (Try.prog.info? 74).map (fun i => (i.zero, i.size, i.bytes)) = some (some (.agg #[.string ⟨#[]⟩, .string ⟨#[]⟩, .string ⟨#[]⟩]), 3, 48) := by kernel_rfl

def GrowPost (w : World) (e : Ending) (w' : World) : Prop := ∃ ao cap, e = .returned (.slice ao 0 cap) ∧ w'.ownsRow w.heap.size 74 3 (.slice ao 0 cap) 0 [] ∧ Below w.heap.size w w'

set_option maxHeartbeats 1000000 in
theorem grow_zero (w : World) : Calls Try.prog 44 #[.slice none 0 0, .int .i64 0] w (GrowPost w) := by
  go_enter Try.func44, Try.ntmps44
  go_wp2
  go_ret
  exact ⟨none, 0, rfl, World.ownsRow_nil _ _ _ _, Below.refl _ _⟩

theorem zeroCells_size (cs : Array Value) (n : Nat) : (Builtin.zeroCells cs n).size = n * cs.size := by
  simp [Builtin.zeroCells]

set_option maxHeartbeats 1000000 in
theorem grow_some (n : Nat) (w : World) (h0 : 0 < n) (hn : n ≤ 4398046511104) : Calls Try.prog 44 #[.slice none 0 0, .int .i64 n] w (GrowPost w) := by
  obtain ⟨i0, hi, hz0, hz1, hz2⟩ := info_parts info74
  have HR : ∀ ty, Hid ((Builtin.append_ #[39, 3] ty #[.slice none 0 0, .int .i64 n]).run Try.prog w = _) := fun ty => Lib.run_append_nil_zeros w 39 3 ty 74 i0 _ .i64 .i64 Try.underlying39 Try.underlying3 hi hz0 n h0 (by omega) (by omega) (by rw [hz2]; omega)
  have hd1 : decide ((n : Int) < 0) = false := decide_eq_false (by omega)
  have hd2 : decide ((0 : Int) < (n : Int)) = true := decide_eq_true (by omega)
  clear hi hz0 hz1 hz2
  have hcap : n ≤ grownCap w n 0 74 := grownCap_ge w n 0 74
  have hcm : grownCap w n 0 74 ≤ maxLen := grownCap_le_maxLen w n 0 74 (by unfold maxLen; omega)
  generalize grownCap w n 0 74 = cap at *
  go_enter Try.func44, Try.ntmps44
  go_wp2_with (at_builtin; refine Lib.wpList_append_run _ rfl _ _ _ _ rfl _ _ rfl rfl _ _ (HR _).out ?_)
  go_ret
  refine ⟨some ⟨w.heap.size, 0, none⟩, cap, rfl, ?_, ?_⟩
  · exact World.ownsRow_made w.drew _ cap (Nat.le_refl _) hcm (by simp [zeroCells_size]; omega)
  · exact ((Below.refl _ _).drew).alloc (Nat.le_refl _) _

theorem grow_calls (n : Nat) (w : World) (hn : n ≤ 4398046511104) : Calls Try.prog 44 #[.slice none 0 0, .int .i64 n] w (GrowPost w) := by
  by_cases h : n = 0
  · subst h; exact grow_zero w
  · exact grow_some n w (by omega) hn
theorem grow_calls_int (n : Nat) (z : Int) (hz : z = (n : Int)) (w : World) (hn : n ≤ 4398046511104) : Calls Try.prog 44 #[.slice none 0 0, .int .i64 z] w (GrowPost w) := by
  subst hz; exact grow_calls n w hn

theorem wpList_append_calls (w : World) {ops : Array Oper} {rest : List Oper} {o : Oper} {a : Act} {Q : Exit → Act → World → Prop} (hgd : o.guard = none) (s x : Operand)
    (ho : o.op = .call { callee := .builtin .append, args := #[s, x], argTypes := #[39, 39] }) (base : Nat) (v : Value) (cs cx : List TC) (vx : Value) (hs : a.eval s = v) (hown : w.ownsRow base 74 3 v cs.length (rowOf cs)) (hx : a.eval x = vx) (hcx : CallsAt w vx cx)
    (hlen : cs.length + cx.length ≤ 2199023255552) (hbase : base ≤ w.heap.size)
    (h : ∀ ao cap w', w'.ownsRow base 74 3 (.slice ao (cs ++ cx).length cap) (cs ++ cx).length (rowOf (cs ++ cx)) → w.grownBy w' v.ownBlock → wpList Try.prog ops Q rest (a.put o.dst (.slice ao (cs ++ cx).length cap)) w') : wpList Try.prog ops Q (o :: rest) a w := by
  obtain ⟨i0, hi, hz0, hz1, hz2⟩ := info_parts info74
  rcases hcx with ⟨rfl, rfl⟩ | ⟨b, off, c, rfl, _, hcell⟩
  · refine wpList_append_own_none hgd s x 39 ho base 74 i0 3 Try.underlying39 hi v cs.length (rowOf cs) hs hown hx ?_
    have e : cs ++ [] = cs := List.append_nil cs
    rw [e] at h
    have hform : ∃ ao cap, v = .slice ao cs.length cap := by
      rcases hown.2 with ⟨e, h0⟩ | ⟨g, cap, cur, e, _⟩
      · exact ⟨none, 0, by rw [e, h0]⟩
      · exact ⟨_, _, e⟩
    obtain ⟨ao, cap, rfl⟩ := hform
    exact h ao cap w hown ⟨rfl, rfl, rfl, Nat.le_refl _, fun _ _ _ => rfl⟩
  · refine wpList_append_own w hgd s x 39 ho base 74 i0 _ 3 48 Try.underlying39 hi hz0 hz1 hz2 rfl (by omega) v cs.length (rowOf cs) hs hown ⟨b, off, none⟩ cx.length c (rowOf cx) hx (rowOf_len cx) (fun j u hu => by rw [add_at]; exact hcell j u hu) rowOf_one (by unfold maxLen; omega) (by omega) hbase ?_
    intro v' w' h1 h2 _
    rw [← rowOf_append, ← List.length_append] at h1
    have hform : ∃ ao cap, v' = .slice ao (cs ++ cx).length cap := by
      rcases h1.2 with ⟨e, h0⟩ | ⟨g, cap, cur, e, _⟩
      · exact ⟨none, 0, by rw [e, h0]⟩
      · exact ⟨_, _, e⟩
    obtain ⟨ao, cap, rfl⟩ := hform
    exact h ao cap w' h1 h2

def lst (c1 c2 : List TC) : Nat → List TC
  | 0 => []
  | 1 => c1
  | _ => c1 ++ c2

def ConcatPost (cs : List TC) (w : World) (e : Ending) (w' : World) : Prop := ∃ ao cap, e = .returned (.slice ao cs.length cap) ∧ CallsAt w' (.slice ao cs.length cap) cs ∧ Below w.heap.size w w'

theorem below_grown {w0 w w' : World} {v : Value} {base size n : Nat} {e : TypeId} {xs : List Value} (hb : Below base w0 w) (hown : w.ownsRow base e size v n xs) (hg : w.grownBy w' v.ownBlock) (hB : base ≤ w.heap.size) : Below base w0 w' :=
  hb.trans ((Fr.of_grown hg).below (fun k hk => (hown.lt k hk).1) hB)

set_option maxHeartbeats 2000000 in
theorem concat_any (bx : Nat) (v1 v2 : Value) (c1 c2 : List TC) (w : World) (h0 : w.cell? ⟨bx, 0, none⟩ = some v1) (h1 : w.cell? ⟨bx, 1, none⟩ = some v2) (H1 : CallsAt w v1 c1) (H2 : CallsAt w v2 c2) (hl : c1.length + c2.length ≤ 2199023255552) :
    Calls Try.prog 40 #[.slice (some ⟨bx, 0, none⟩) 2 2] w (ConcatPost (c1 ++ c2) w) := by
  obtain ⟨a1, k1, rfl⟩ := H1.form
  obtain ⟨a2, k2, rfl⟩ := H2.form
  have hlt : bx < w.heap.size := World.block_lt_of_cell? w _ h0
  have HH1 : Hid (CallsAt w (.slice a1 c1.length k1) c1) := H1
  have HH2 : Hid (CallsAt w (.slice a2 c2.length k2) c2) := H2
  clear H1 H2
  have hd1 : decide ((c1.length : Int) < 0) = false := decide_eq_false (by omega)
  have hd2 : decide ((c1.length : Int) + (c2.length : Int) < 0) = false := decide_eq_false (by omega)
  have e12 : Hid ((c1 ++ c2).length = c1.length + c2.length) := List.length_append
  go_enter Try.func40, Try.ntmps40
  go_wp2
  go_loop [3, 11] (fun s i => (i = .int .i64 0 ∧ s = .int .i64 0) ∨ (i = .int .i64 1 ∧ s = .int .i64 c1.length) ∨ (i = .int .i64 2 ∧ s = .int .i64 ((c1.length : Int) + (c2.length : Int)))) (fun _ i => 2 - (intOf i).toNat)
  case atStart => exact .inl ⟨rfl, rfl⟩
  case round =>
    rcases hrel with ⟨rfl, rfl⟩ | ⟨rfl, rfl⟩ | ⟨rfl, rfl⟩
    · go_wp2
      go_round
      case rel => exact .inr (.inl ⟨rfl, by go_num⟩)
      case measure => simp [intOf]
    · go_wp2
      go_round
      case rel => exact .inr (.inr ⟨rfl, by go_num⟩)
      case measure => simp [intOf]
    · go_wp2_with fail
      refine (grow_calls_int (c1.length + c2.length) _ (by omega) _ (by omega)).mono ?_
      rintro e w1 ⟨ao, cap, rfl, hown, hbel⟩
      have HO : Hid (w1.ownsRow w.heap.size 74 3 (.slice ao 0 cap) 0 []) := hown
      have HB : Hid (Below w.heap.size w w1) := hbel
      clear hown hbel
      go_wp2_with fail
      go_loopw [6, 27] (fun v i wr => ∃ k ao cap, v = .slice ao (lst c1 c2 k).length cap ∧ i = .int .i64 (k : Nat) ∧ k ≤ 2 ∧ Hid (wr.ownsRow w.heap.size 74 3 v (lst c1 c2 k).length (rowOf (lst c1 c2 k))) ∧ Hid (Below w.heap.size w wr)) (fun _ i _ => 2 - (intOf i).toNat)
      case atStart => exact ⟨0, ao, cap, rfl, rfl, by omega, HO, HB⟩
      case round =>
        clear HO HB
        obtain ⟨k, ao, cap, rfl, rfl, hk, HO, HB⟩ := hrel
        have g0 : wr.cell? ⟨bx, 0, none⟩ = some (.slice a1 c1.length k1) := (World.cell?_of_block (HB.out.block bx hlt)).trans h0
        have g1 : wr.cell? ⟨bx, 1, none⟩ = some (.slice a2 c2.length k2) := (World.cell?_of_block (HB.out.block bx hlt)).trans h1
        have HK1 : Hid (CallsAt wr (.slice a1 c1.length k1) c1) := HH1.out.below HB.out
        have HK2 : Hid (CallsAt wr (.slice a2 c2.length k2) c2) := HH2.out.below HB.out
        match k, hk with
        | 0, _ =>
          go_wp2_with (at_builtin; refine wpList_append_calls _ rfl _ _ rfl w.heap.size _ [] c1 _ rfl HO.out rfl HK1.out (by simp only [List.length_nil]; omega) HB.out.size ?_; intro ao' cap' w' ho hg; have HO' : Hid (w'.ownsRow w.heap.size 74 3 (.slice ao' c1.length cap') c1.length (rowOf c1)) := ho; have HB' : Hid (Below w.heap.size w w') := below_grown HB.out HO.out hg HB.out.size; clear ho hg)
          go_roundw
          case rel => exact ⟨1, ao', cap', rfl, rfl, by omega, HO', HB'⟩
          case measure => simp [intOf]
        | 1, _ =>
          go_wp2_with (at_builtin; refine wpList_append_calls _ rfl _ _ rfl w.heap.size _ c1 c2 _ rfl HO.out rfl HK2.out (by omega) HB.out.size ?_; intro ao' cap' w' ho hg; have HO' : Hid (w'.ownsRow w.heap.size 74 3 (.slice ao' (c1 ++ c2).length cap') (c1 ++ c2).length (rowOf (c1 ++ c2))) := ho; have HB' : Hid (Below w.heap.size w w') := below_grown HB.out HO.out hg HB.out.size; clear ho hg)
          go_roundw
          case rel =>
            have e : (lst c1 c2 2).length = c1.length + c2.length := List.length_append
            rw [← e]
            exact ⟨2, ao', cap', rfl, rfl, by omega, HO', HB'⟩
          case measure => simp [intOf]
        | 2, _ =>
          go_wp2_with fail
          go_ret
          exact ⟨ao, cap, rfl, CallsAt.of_own HO.out, HB.out⟩
end Go.Proofs.Qxb6603195a.W6
