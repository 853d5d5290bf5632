/-
  slices.IndexFunc (42), slices.DeleteFunc (37) at a row of two strings and the predicate 's is empty' (38).
-/
import Derived.Test.Qxb6603195aAdd
import Derived.Test.Qxb6603195aShelf
import Derived.Lib.SliceRun
namespace Go.Proofs.Qxb6603195a.W6
open Go.ChangeShapes Go.WideShapes Go.ChangeAt Go.RowKit
open W5 (ret_int empty_iff Fr)

def isE : Value := .func (.func 38) #[] #[]

set_option maxHeartbeats 1000000 in
theorem idx_first (bx : Nat) (a : ByteArray) (w : World) (h0 : w.cell? ⟨bx, 0, none⟩ = some (.string a)) (ea : a.toList = []) :
    Calls Try.prog 42 #[.slice (some ⟨bx, 0, none⟩) 2 2, .func (.func 38) #[] #[]] w fun e w' => e = .returned (.int .i64 0) ∧ w = w' := by
  have ea' : a.toList.isEmpty = true := by rw [ea]; rfl
  go_enter Try.func42, Try.ntmps42
  go_wp2
  go_loop [8] (fun i => i = .int .i64 0) (fun _ => 0)
  case atStart => rfl
  case round =>
    subst hrel
    go_wp2
    go_ret
    exact ⟨rfl, rfl⟩

set_option maxHeartbeats 1000000 in
theorem idx_second (bx : Nat) (a b : ByteArray) (w : World) (h0 : w.cell? ⟨bx, 0, none⟩ = some (.string a)) (h1 : w.cell? ⟨bx, 1, none⟩ = some (.string b)) (ea' : a.toList.isEmpty = false) (eb' : b.toList.isEmpty = true) :
    Calls Try.prog 42 #[.slice (some ⟨bx, 0, none⟩) 2 2, .func (.func 38) #[] #[]] w fun e w' => e = .returned (.int .i64 1) ∧ w = w' := by
  go_enter Try.func42, Try.ntmps42
  go_wp2
  go_loop [8] (fun i => i = .int .i64 0 ∨ i = .int .i64 1) (fun i => 2 - (intOf i).toNat)
  case atStart => exact .inl rfl
  case round =>
    rcases hrel with rfl | rfl
    · go_wp2
      go_round
      case rel => exact .inr rfl
      case measure => simp [intOf]
    · go_wp2
      go_ret
      exact ⟨rfl, rfl⟩

set_option maxHeartbeats 1000000 in
theorem idx_none (bx : Nat) (a b : ByteArray) (w : World) (h0 : w.cell? ⟨bx, 0, none⟩ = some (.string a)) (h1 : w.cell? ⟨bx, 1, none⟩ = some (.string b)) (ea' : a.toList.isEmpty = false) (eb' : b.toList.isEmpty = false) :
    Calls Try.prog 42 #[.slice (some ⟨bx, 0, none⟩) 2 2, .func (.func 38) #[] #[]] w fun e w' => e = .returned (.int .i64 (-1)) ∧ w = w' := by
  go_enter Try.func42, Try.ntmps42
  go_wp2
  go_loop [8] (fun i => i = .int .i64 0 ∨ i = .int .i64 1 ∨ i = .int .i64 2) (fun i => 2 - (intOf i).toNat)
  case atStart => exact .inl rfl
  case round =>
    rcases hrel with rfl | rfl | rfl
    · go_wp2
      go_round
      case rel => exact .inr (.inl rfl)
      case measure => simp [intOf]
    · go_wp2
      go_round
      case rel => exact .inr (.inr rfl)
      case measure => simp [intOf]
    · go_wp2
      go_ret
      exact ⟨rfl, rfl⟩

/-- what is left of the two -/
def keepTwo (a b : ByteArray) : List ByteArray := (if a.toList.isEmpty then [] else [a]) ++ (if b.toList.isEmpty then [] else [b])

def DelPost (bx : Nat) (a b : ByteArray) (w : World) (e : Ending) (w' : World) : Prop :=
  e = .returned (.slice (some ⟨bx, 0, none⟩) (keepTwo a b).length 2) ∧ (∀ j x, (keepTwo a b)[j]? = some x → w'.cell? ⟨bx, j, none⟩ = some (.string x)) ∧ Fr (fun k => k = bx) w w' ∧ w'.heap.size = w.heap.size

set_option maxHeartbeats 2000000 in
theorem del_none (bx : Nat) (a b : ByteArray) (w : World) (h0 : w.cell? ⟨bx, 0, none⟩ = some (.string a)) (h1 : w.cell? ⟨bx, 1, none⟩ = some (.string b)) (ea' : a.toList.isEmpty = false) (eb' : b.toList.isEmpty = false) :
    Calls Try.prog 37 #[.slice (some ⟨bx, 0, none⟩) 2 2, .func (.func 38) #[] #[]] w (DelPost bx a b w) := by
  have HK : Hid (keepTwo a b = [a, b]) := by simp [keepTwo, ea', eb', Hid]
  go_enter Try.func37, Try.ntmps37
  go_wp2_with (go_at_call 42; refine (idx_none bx a b _ h0 h1 ea' eb').mono ?_; rintro e w' ⟨rfl, rfl⟩)
  go_ret
  refine ⟨by rw [HK.out]; rfl, ?_, Fr.refl _ _, rfl⟩
  intro j x hj
  rw [HK.out] at hj
  match j, hj with
  | 0, hj => simp at hj; subst hj; exact h0
  | 1, hj => simp at hj; subst hj; exact h1

theorem zero9 : ∀ w : World, (zeroValue 9).run Try.prog w = .ok (.string ⟨#[]⟩) w := fun w => by kernel_rfl

theorem setCells_frame (w : World) (b o : Nat) (vs : List Value) : Fr (fun k => k = b) w (w.setCells b o vs) ∧ (w.setCells b o vs).heap.size = w.heap.size := by
  induction vs generalizing w o with
  | nil => exact ⟨Fr.refl _ _, rfl⟩
  | cons v vs ih =>
    have h := ih (w.setCell ⟨b, o, none⟩ v) (o + 1)
    refine ⟨(Fr.setCell w ⟨b, o, none⟩ v).trans h.1 (fun _ _ q => q), h.2.trans (by simp [World.setCell])⟩

theorem clr1 (bx : Nat) (w : World) (h1 : (w.cell? ⟨bx, 1, none⟩).isSome = true) (f1 : w.frozen? ⟨bx, 1, none⟩ = false) (ty : TypeId) :
    (Builtin.clear_ #[86] ty #[.slice (some ⟨bx, 1, none⟩) 1 1]).run Try.prog w = .ok (.tuple #[]) (w.setCells bx 1 [.string ⟨#[]⟩]) :=
  Lib.run_clear_slice (P := Try.prog) w 86 9 ty _ Try.underlying86 zero9 rfl rfl bx 1 1 1 (by omega) (fun j hj => by obtain rfl : j = 0 := by omega
                                                                                                                     exact h1) (fun j hj => by obtain rfl : j = 0 := by omega
                                                                                                                                               exact f1)
theorem clr2 (bx : Nat) (w : World) (h0 : (w.cell? ⟨bx, 0, none⟩).isSome = true) (f0 : w.frozen? ⟨bx, 0, none⟩ = false) (h1 : (w.cell? ⟨bx, 1, none⟩).isSome = true) (f1 : w.frozen? ⟨bx, 1, none⟩ = false) (ty : TypeId) :
    (Builtin.clear_ #[86] ty #[.slice (some ⟨bx, 0, none⟩) 2 2]).run Try.prog w = .ok (.tuple #[]) (w.setCells bx 0 [.string ⟨#[]⟩, .string ⟨#[]⟩]) :=
  Lib.run_clear_slice (P := Try.prog) w 86 9 ty _ Try.underlying86 zero9 rfl rfl bx 0 2 2 (by omega) (fun j hj => by match j, hj with
                                                                                                                     | 0, _ => exact h0
                                                                                                                     | 1, _ => exact h1) (fun j hj => by match j, hj with
                                                                                                                                                         | 0, _ => exact f0
                                                                                                                                                         | 1, _ => exact f1)

set_option maxHeartbeats 2000000 in
theorem del_second (bx : Nat) (a b : ByteArray) (w : World) (h0 : w.cell? ⟨bx, 0, none⟩ = some (.string a)) (h1 : w.cell? ⟨bx, 1, none⟩ = some (.string b)) (f1 : w.frozen? ⟨bx, 1, none⟩ = false) (ea' : a.toList.isEmpty = false) (eb' : b.toList.isEmpty = true) :
    Calls Try.prog 37 #[.slice (some ⟨bx, 0, none⟩) 2 2, .func (.func 38) #[] #[]] w (DelPost bx a b w) := by
  have HK : Hid (keepTwo a b = [a]) := by simp [keepTwo, ea', eb', Hid]
  have HC := clr1 bx w (by rw [h1]; rfl) f1
  have hd : decide ((2 : Int) < 2) = false := by decide
  go_enter Try.func37, Try.ntmps37
  go_wp2_with (go_at_call 42; refine (idx_second bx a b _ h0 h1 ea' eb').mono ?_; rintro e w' ⟨rfl, rfl⟩)
  go_loop [5, 6] (fun i j => i = .int .i64 1 ∧ j = .int .i64 2) (fun _ _ => 0)
  case atStart => exact ⟨rfl, rfl⟩
  case round =>
    obtain ⟨rfl, rfl⟩ := hrel
    go_wp2
    go_ret
    refine ⟨by rw [HK.out]; rfl, ?_, (setCells_frame w bx 1 [.string ⟨#[]⟩]).1, (setCells_frame w bx 1 [.string ⟨#[]⟩]).2⟩
    intro j x hj
    rw [HK.out] at hj
    match j, hj with
    | 0, hj => simp at hj; subst hj; exact (World.cell?_setCells_out bx _ _ _ _ (fun _ _ => .inl (by simp))).trans h0

set_option maxHeartbeats 2000000 in
theorem del_both (bx : Nat) (a b : ByteArray) (w : World) (h0 : w.cell? ⟨bx, 0, none⟩ = some (.string a)) (h1 : w.cell? ⟨bx, 1, none⟩ = some (.string b)) (f0 : w.frozen? ⟨bx, 0, none⟩ = false) (f1 : w.frozen? ⟨bx, 1, none⟩ = false) (ea : a.toList = []) (ea' : a.toList.isEmpty = true) (eb' : b.toList.isEmpty = true) :
    Calls Try.prog 37 #[.slice (some ⟨bx, 0, none⟩) 2 2, .func (.func 38) #[] #[]] w (DelPost bx a b w) := by
  have HK : Hid (keepTwo a b = []) := by simp [keepTwo, ea', eb', Hid]
  have HC := clr2 bx w (by rw [h0]; rfl) f0 (by rw [h1]; rfl) f1
  go_enter Try.func37, Try.ntmps37
  go_wp2_with (go_at_call 42; refine (idx_first bx a _ h0 ea).mono ?_; rintro e w' ⟨rfl, rfl⟩)
  go_loop [5, 6] (fun i j => i = .int .i64 0 ∧ (j = .int .i64 1 ∨ j = .int .i64 2)) (fun _ i => 2 - (intOf i).toNat)
  case atStart => exact ⟨rfl, .inl rfl⟩
  case round =>
    rcases hrel with ⟨rfl, rfl | rfl⟩
    · go_wp2
      go_round
      case rel => exact ⟨rfl, .inr rfl⟩
      case measure => simp [intOf]
    · go_wp2
      go_ret
      refine ⟨by rw [HK.out]; rfl, ?_, (setCells_frame w bx 0 [.string ⟨#[]⟩, .string ⟨#[]⟩]).1, (setCells_frame w bx 0 [.string ⟨#[]⟩, .string ⟨#[]⟩]).2⟩
      intro j x hj
      rw [HK.out] at hj
      simp at hj

set_option maxHeartbeats 2000000 in
theorem del_first (bx : Nat) (a b : ByteArray) (w : World) (h0 : w.cell? ⟨bx, 0, none⟩ = some (.string a)) (h1 : w.cell? ⟨bx, 1, none⟩ = some (.string b)) (f0 : w.frozen? ⟨bx, 0, none⟩ = false) (f1 : w.frozen? ⟨bx, 1, none⟩ = false) (ea : a.toList = []) (ea' : a.toList.isEmpty = true) (eb' : b.toList.isEmpty = false) :
    Calls Try.prog 37 #[.slice (some ⟨bx, 0, none⟩) 2 2, .func (.func 38) #[] #[]] w (DelPost bx a b w) := by
  have HK : Hid (keepTwo a b = [b]) := by simp [keepTwo, ea', eb', Hid]
  have e1 : (w.setCell ⟨bx, 0, none⟩ (.string b)).cell? ⟨bx, 1, none⟩ = w.cell? ⟨bx, 1, none⟩ := World.cell?_setCell_other _ _ _ _ (by simp)
  have HC := clr1 bx (w.setCell ⟨bx, 0, none⟩ (.string b)) (by rw [e1, h1]; rfl) (by simpa using f1)
  clear e1
  go_enter Try.func37, Try.ntmps37
  go_wp2_with (go_at_call 42; refine (idx_first bx a _ h0 ea).mono ?_; rintro e w' ⟨rfl, rfl⟩)
  go_loopw [5, 6] (fun i j wr => (i = .int .i64 0 ∧ j = .int .i64 1 ∧ wr = w) ∨ (i = .int .i64 1 ∧ j = .int .i64 2 ∧ wr = w.setCell ⟨bx, 0, none⟩ (.string b))) (fun _ j _ => 2 - (intOf j).toNat)
  case atStart => exact .inl ⟨rfl, rfl, rfl⟩
  case round =>
    rcases hrel with ⟨rfl, rfl, rfl⟩ | ⟨rfl, rfl, rfl⟩
    · go_wp2
      go_roundw
      case rel => exact .inr ⟨rfl, rfl, trivial⟩
      case measure => simp [intOf]
    · go_wp2
      go_ret
      refine ⟨by rw [HK.out]; rfl, ?_, (Fr.setCell w ⟨bx, 0, none⟩ _).trans (setCells_frame _ bx 1 [.string ⟨#[]⟩]).1 (fun _ _ q => q), (setCells_frame _ bx 1 [.string ⟨#[]⟩]).2.trans (by simp [World.setCell])⟩
      intro j x hj
      rw [HK.out] at hj
      match j, hj with
      | 0, hj => simp at hj; subst hj; exact (World.cell?_setCells_out bx _ _ _ _ (fun _ _ => .inl (by simp))).trans (World.cell?_setCell_same _ _ _ h0)

theorem del_any (bx : Nat) (a b : ByteArray) (w : World) (h0 : w.cell? ⟨bx, 0, none⟩ = some (.string a)) (h1 : w.cell? ⟨bx, 1, none⟩ = some (.string b)) (f0 : w.frozen? ⟨bx, 0, none⟩ = false) (f1 : w.frozen? ⟨bx, 1, none⟩ = false) :
    Calls Try.prog 37 #[.slice (some ⟨bx, 0, none⟩) 2 2, .func (.func 38) #[] #[]] w (DelPost bx a b w) := by
  rcases empty_iff a with ⟨ea, ea'⟩ | ⟨_, ea'⟩ <;> rcases empty_iff b with ⟨_, eb'⟩ | ⟨_, eb'⟩
  · exact del_both bx a b w h0 h1 f0 f1 ea ea' eb'
  · exact del_first bx a b w h0 h1 f0 f1 ea ea' eb'
  · exact del_second bx a b w h0 h1 f1 ea' eb'
  · exact del_none bx a b w h0 h1 ea' eb'
end Go.Proofs.Qxb6603195a.W6
