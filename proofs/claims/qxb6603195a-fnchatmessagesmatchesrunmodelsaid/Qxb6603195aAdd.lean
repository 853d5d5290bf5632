/-
  (*callBuilder).add (31) AND ZZB1Add (11).
-/
import Derived.Test.Qxb6603195aBuild
import Derived.Maps.AppendAt
namespace Go.Proofs.Qxb6603195a.W5
open Go.ChangeShapes Go.WideShapes Go.ChangeAt Go.RowKit

theorem wpList_lookup_is {P : Program} (w : World) {ops : Array Oper} {rest : List Oper} {o : Oper} {a : Act} {Q : Exit → Act → World → Prop}
    (hg : o.guard = none) (m x : Operand) (t : TypeId) (hop : o.op = Op.lookup t m x false) (mv key v : Value) (hm : a.eval m = mv) (hx : a.eval x = key)
    (hrun : (Instr.lookup t mv key false).run P w = .ok v w) (hK : wpList P ops Q rest (a.put o.dst v) w) : wpList P ops Q (o :: rest) a w := by
  refine wpList_plain hg fun K' hK' => ?_
  unfold Oper.wp
  simp [execOp, hop, hm, hx, hrun, Result.andThen]
  exact hK' _ _ hK

theorem ret_int {k : IntKind} {a b : Int} (h : a = b) : Ending.returned (.int k a) = .returned (.int k b) := by rw [h]

/-- the fragments' own blocks stand -/
def Keep27 (w w' : World) : Prop := ∀ (k : Nat) (cs : Array Value) (f : Nat × Nat), w.heap[k]? = some (.cells cs 27 f) → w'.heap[k]? = some (.cells cs 27 f)
theorem Keep27.trans {u v w : World} (h : Keep27 u v) (g : Keep27 v w) : Keep27 u w := fun k cs f q => g k cs f (h k cs f q)
theorem Fr.keep27 {X : Nat → Prop} {w w' : World} (h : Fr X w w') (hX : ∀ (k : Nat) (cs : Array Value) (f : Nat × Nat), w.heap[k]? = some (.cells cs 27 f) → ¬ X k) : Keep27 w w' := fun k cs f q => (h.block k (lt_of_block q) (hX k cs f q)).trans q

def AddPost (B bb : Nat) (ps : List PC) (n : Nat) (id name args : ByteArray) (w : World) (e : Ending) (w' : World) : Prop :=
  ∃ (added : Nat) (ps' : List PC) (D' : DataW Unit) (n' : Nat) (pv' mv' : Value), e = .returned (.int .i64 (added : Nat)) ∧ Inv w' B bb ps' D' n' pv' mv' ∧ Below B w w' ∧ args.size ≤ added ∧ added ≤ args.size + id.size + name.size + 1024 ∧
    held ps' = held ps + added ∧ ps.length ≤ ps'.length ∧ ps'.length ≤ ps.length + 1 ∧ 1 ≤ ps'.length ∧ n' ≤ n + 1 ∧ Keep27 w w'

/-- the end of every way -/
theorem fin {wx wy wz : World} {B bb n : Nat} {A C : List PC} {p p1 : PC} {D : DataW Unit} {pv mv buf : Value} {s : ByteArray} (hI : Inv wx B bb (A ++ p :: C) D n pv mv) (hb : p1.blk = p.blk) (hbuf : p1.buf = p.buf) (hfr : Fr (fun k => k = p.blk) wx wy)
    (hw : (p1.wrote buf s).At wz B) (hf : Fr (fun k => k = p1.blk ∨ p1.buf.ownBlock = some k) wy wz) (hloc : buf.ownBlock = p1.buf.ownBlock ∨ ∃ g, buf.ownBlock = some g ∧ wy.heap.size ≤ g) :
    Inv wz B bb (A ++ p1.wrote buf s :: C) D n pv mv ∧ Below B wx wz ∧ Keep27 wx wz := by
  have hp := hI.ats p (by simp)
  have hff : Fr (fun k => k = p.blk ∨ p.buf.ownBlock = some k) wx wz := by
    rw [hb, hbuf] at hf
    exact (hfr.mono (fun k hk => .inl hk)).trans hf (fun _ _ q => q)
  refine ⟨hI.upd hw hb hff ?_, hff.below ?_ ?_, hff.keep27 ?_⟩
  · rcases hloc with e | ⟨g, e, hg⟩
    · exact .inl (by rw [← hbuf]; exact e)
    · exact .inr ⟨g, e, Nat.le_trans hfr.size hg⟩
  · intro k hk
    rcases hk with e | e
    · rw [e]; exact hp.base
    · exact (hp.row.lt k e).1
  · have := lt_of_block hI.bld
    have := hI.base
    omega
  · intro k cs f q e
    rcases e with e | e
    · exact cells_ne q hp.blk (by decide) e
    · obtain ⟨cur, fz, hg⟩ := rowF_block hp.row e
      exact cells_ne q hg (by decide) rfl

theorem size_of_empty {s : ByteArray} (h : s.toList = []) : s.size = 0 := by
  have e : s.data.toList = [] := by rw [← ByteArray.toList_eq]; exact h
  have : s.data.toList.length = 0 := by rw [e]; rfl
  simpa using this
theorem empty_iff (s : ByteArray) : (s.toList = [] ∧ s.toList.isEmpty = true) ∨ (¬ s.toList = [] ∧ s.toList.isEmpty = false) := by
  cases s.toList <;> simp

/-- the call as its fields are filled -/
def PC.fill (p : PC) (id name : ByteArray) : PC := { p with id := id, name := name }

theorem bs_le_held (A C : List PC) (p : PC) : p.bs.length ≤ held (A ++ p :: C) := by
  rw [held_mid]; unfold PC.sz; omega

theorem old_end {w wy : World} {B bb n : Nat} {A C : List PC} {p : PC} {D : DataW Unit} {pv mv : Value} {id name args id' name' : ByteArray} {added : Nat} (HI : Inv w B bb (A ++ p :: C) D n pv mv) (hfr : Fr (fun k => k = p.blk) w wy)
    (h1 : id'.size + name'.size + args.size = p.id.size + p.name.size + added) (h2 : args.size ≤ added) (h3 : added ≤ args.size + id.size + name.size) {e : Ending} {w' : World} (hw : ∃ buf, ((p.fill id' name').wrote buf args).At w' B ∧ Fr (fun k => k = (p.fill id' name').blk ∨ (p.fill id' name').buf.ownBlock = some k) wy w' ∧ (buf.ownBlock = (p.fill id' name').buf.ownBlock ∨ ∃ g, buf.ownBlock = some g ∧ wy.heap.size ≤ g))
    (he : e = .returned (.int .i64 (added : Nat))) : AddPost B bb (A ++ p :: C) n id name args w e w' := by
  obtain ⟨buf, a1, a2, a3⟩ := hw
  obtain ⟨hI', hb, hkk⟩ := fin (p1 := p.fill id' name') HI rfl rfl hfr a1 a2 a3
  refine ⟨added, _, D, n, pv, mv, he, hI', hb, h2, by omega, ?_, by simp, by simp, by simp; omega, by omega, hkk⟩
  rw [held_mid, held_mid]
  unfold PC.sz PC.wrote PC.fill
  simp only [List.length_append]
  have : args.data.toList.length = args.size := by simp
  omega

set_option maxHeartbeats 4000000 in
theorem add_old (B bb n : Nat) (A C : List PC) (p : PC) (D : DataW Unit) (pv mv : Value) (ix : Int) (id name args : ByteArray) (w : World) (hI : Inv w B bb (A ++ p :: C) D n pv mv)
    (hlook : (Instr.lookup 60 mv (.int .i64 ix) false).run Try.prog w = .ok p.ptr w) (hsa : args.size ≤ 1048576) (hsi : id.size ≤ 1048576) (hsn : name.size ≤ 1048576) (hh : held (A ++ p :: C) ≤ 35184372088832)
    (hc : id.toList.isEmpty = true ∨ p.id.toList.isEmpty = true ∨ (p.id.toList == id.toList) = true) :
    Calls Try.prog 31 #[.pointer (some ⟨bb, 0, none⟩), .int .i64 ix, .string id, .string name, .string args] w (AddPost B bb (A ++ p :: C) n id name args w) := by
  have HI : Hid (Inv w B bb (A ++ p :: C) D n pv mv) := hI
  have HP : Hid (p.At w B) := hI.ats p (by simp)
  have HL : Hid ((Instr.lookup 60 mv (.int .i64 ix) false).run Try.prog w = .ok (.pointer (some ⟨p.blk, 0, none⟩)) w) := hlook
  have b1 : w.cell? ⟨bb, 1, none⟩ = some mv := by rw [Lib.cell_of_heap hI.bld]; rfl
  have b0 : w.cell? ⟨bb, 0, none⟩ = some pv := by rw [Lib.cell_of_heap hI.bld]; rfl
  have c1 : w.cell? ⟨p.blk, 1, none⟩ = some (.string p.id) := by rw [cell_of_at HP.out]; rfl
  have c2 : w.cell? ⟨p.blk, 2, none⟩ = some (.string p.name) := by rw [cell_of_at HP.out]; rfl
  have f1 : w.frozen? ⟨p.blk, 1, none⟩ = false := frozen_of_at HP.out 1
  have f2 : w.frozen? ⟨p.blk, 2, none⟩ = false := frozen_of_at HP.out 2
  have HB : Hid (B ≤ w.heap.size) := by have := lt_of_block hI.bld; have := hI.base; exact (by omega : B ≤ w.heap.size)
  have hbl : p.bs.length + args.size ≤ 70368744177664 := by have := bs_le_held A C p; omega
  have HC : Hid (id.toList.isEmpty = true ∨ p.id.toList.isEmpty = true ∨ (p.id.toList == id.toList) = true) := hc
  clear hI hlook hc hh
  rcases empty_iff p.id with ⟨eP, eP'⟩ | ⟨eP, eP'⟩
  · have hz := size_of_empty eP
    have HZ : Hid (p.id.size = 0) := hz
    clear hz HC
    rcases empty_iff p.name with ⟨eN, eN'⟩ | ⟨eN, eN'⟩
    · have hz := size_of_empty eN
      have HZN : Hid (p.name.size = 0) := hz
      clear hz
      rcases empty_iff id with ⟨eI, eI'⟩ | ⟨eI, eI'⟩
      all_goals
        go_enter Try.func31, Try.ntmps31
        go_wp2_with (at_lookup; refine wpList_lookup_is _ rfl _ _ 60 rfl mv (.int .i64 ix) _ rfl rfl HL.out ?_)
        refine (write_any B (p.fill id name) args _ ?_ ?_ hbl).mono ?_
        · exact At.put (At.put HP.out 1 (.string id) (q := p.fill id p.name) rfl rfl HP.out.ad HP.out.row) 2 (.string name) (q := p.fill id name) rfl rfl HP.out.ad ((Fr.setCell w ⟨p.blk, 1, none⟩ _).rowF HP.out.row (fun g cur fz _ hg => cells_ne hg HP.out.blk (by decide)))
        · exact Nat.le_trans HB.out (by simp [World.setCell])
        rintro e w' ⟨rfl, hw⟩
        go_wp2_with fail
        go_ret
        exact old_end (id' := id) (name' := name) (added := args.size + id.size + name.size) HI.out (((Fr.setCell w ⟨p.blk, 1, none⟩ _).mono (fun _ q => q)).trans (Fr.setCell _ ⟨p.blk, 2, none⟩ _) (fun _ _ q => q)) (by have := HZ.out; have := HZN.out; omega) (by omega) (by omega) hw (ret_int (by omega))
    · rcases empty_iff id with ⟨eI, eI'⟩ | ⟨eI, eI'⟩
      all_goals
        go_enter Try.func31, Try.ntmps31
        go_wp2_with (at_lookup; refine wpList_lookup_is _ rfl _ _ 60 rfl mv (.int .i64 ix) _ rfl rfl HL.out ?_)
        refine (write_any B (p.fill id p.name) args _ ?_ ?_ hbl).mono ?_
        · exact At.put HP.out 1 (.string id) (q := p.fill id p.name) rfl rfl HP.out.ad HP.out.row
        · exact Nat.le_trans HB.out (by simp [World.setCell])
        rintro e w' ⟨rfl, hw⟩
        go_wp2_with fail
        go_ret
        exact old_end (id' := id) (name' := p.name) (added := args.size + id.size) HI.out (Fr.setCell w ⟨p.blk, 1, none⟩ _) (by have := HZ.out; omega) (by omega) (by omega) hw (ret_int (by omega))
  · rcases empty_iff p.name with ⟨eN, eN'⟩ | ⟨eN, eN'⟩
    · have hz := size_of_empty eN
      have HZN : Hid (p.name.size = 0) := hz
      clear hz
      rcases empty_iff id with ⟨eI, eI'⟩ | ⟨eI, eI'⟩
      rotate_left
      have eQ : (p.id.toList == id.toList) = true := by rcases HC.out with q | q | q; · rw [q] at eI'; cases eI'
                                                        · rw [q] at eP'; cases eP'
                                                        · exact q
      all_goals
        go_enter Try.func31, Try.ntmps31
        go_wp2_with (at_lookup; refine wpList_lookup_is _ rfl _ _ 60 rfl mv (.int .i64 ix) _ rfl rfl HL.out ?_)
        refine (write_any B (p.fill p.id name) args _ ?_ ?_ hbl).mono ?_
        · exact At.put HP.out 2 (.string name) (q := p.fill p.id name) rfl rfl HP.out.ad HP.out.row
        · exact Nat.le_trans HB.out (by simp [World.setCell])
        rintro e w' ⟨rfl, hw⟩
        go_wp2_with fail
        go_ret
        exact old_end (id' := p.id) (name' := name) (added := args.size + name.size) HI.out (Fr.setCell w ⟨p.blk, 2, none⟩ _) (by have := HZN.out; omega) (by omega) (by omega) hw (ret_int (by omega))
    · rcases empty_iff id with ⟨eI, eI'⟩ | ⟨eI, eI'⟩
      rotate_left
      have eQ : (p.id.toList == id.toList) = true := by rcases HC.out with q | q | q; · rw [q] at eI'; cases eI'
                                                        · rw [q] at eP'; cases eP'
                                                        · exact q
      all_goals
        go_enter Try.func31, Try.ntmps31
        go_wp2_with (at_lookup; refine wpList_lookup_is _ rfl _ _ 60 rfl mv (.int .i64 ix) _ rfl rfl HL.out ?_)
        refine (write_any B (p.fill p.id p.name) args _ ?_ ?_ hbl).mono ?_
        · exact HP.out
        · exact HB.out
        rintro e w' ⟨rfl, hw⟩
        go_wp2_with fail
        go_ret
        exact old_end (id' := p.id) (name' := p.name) (added := args.size) HI.out (Fr.refl _ _) (by omega) (by omega) (by omega) hw (ret_int (by omega))
end Go.Proofs.Qxb6603195a.W5
