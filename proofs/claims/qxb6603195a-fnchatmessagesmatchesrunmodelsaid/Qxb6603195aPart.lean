/-
  add as a whole; ZZB1Add (11), ZZB1NumParts (12), ZZB1Part (13), ZZB1NewCallBuilder (10).
-/
import Derived.Test.Qxb6603195aNew
import Derived.Deep.RegionHeld3
namespace Go.Proofs.Qxb6603195a.W5
open Go.ChangeShapes Go.WideShapes Go.ChangeAt Go.RowKit

theorem add_any (B bb n : Nat) (ps : List PC) (D : DataW Unit) (pv mv : Value) (ix : Int) (id name args : ByteArray) (w : World) (hI : Inv w B bb ps D n pv mv) (wf : (Lit.int .i64 ix).wf = true)
    (hsa : args.size ≤ 1048576) (hsi : id.size ≤ 1048576) (hsn : name.size ≤ 1048576) (hh : held ps ≤ 35184372088832) (hn : n ≤ 4194304) (hl : ps.length ≤ 4194304) :
    Calls Try.prog 31 #[.pointer (some ⟨bb, 0, none⟩), .int .i64 ix, .string id, .string name, .string args] w (AddPost B bb ps n id name args w) := by
  obtain ⟨v, hrun, hv⟩ := hI.look ix wf
  rcases hv with rfl | ⟨A, p, C, rfl, rfl⟩
  · rcases hI.map with ⟨rfl, _⟩ | ⟨mb, rfl, _⟩
    · exact add_new1 B bb n ps D pv ix id name args w hI wf hrun hsa hsi hsn hn hl
    · exact add_new2 B bb n mb ps D pv ix id name args w hI wf hrun hsa hsi hsn hn hl
  · by_cases hc : id.toList.isEmpty = true ∨ p.id.toList.isEmpty = true ∨ (p.id.toList == id.toList) = true
    · exact add_old B bb n A C p D pv mv ix id name args w hI hrun hsa hsi hsn hh hc
    · simp only [not_or, Bool.not_eq_true] at hc
      obtain ⟨h1, h2, h3⟩ := hc
      rcases hI.map with ⟨rfl, _⟩ | ⟨mb, rfl, _⟩
      · -- a nil map holds nothing
        have hkey : keyOf Try.prog 3 (.int .i64 ix) = some (.int .i64 ix) := Go.Maps.keyOf_int_mk Try.underlying3 wf
        have hz := Maps.look_nil false law3 Try.underlying60 (zero64 w) hkey
        rw [hrun] at hz
        injection hz with hz
        simp [PC.ptr] at hz
      · exact add_new3 B bb n mb p A C _ D pv ix id name args w hI wf hrun hsa hsi hsn hn hl rfl (fun q => by rw [q] at h1; cases h1) h1 (fun q => by rw [q] at h2; cases h2) h2 h3

theorem zzadd (B bb n : Nat) (ps : List PC) (D : DataW Unit) (pv mv : Value) (ix : Int) (id name args : ByteArray) (w : World) (hI : Inv w B bb ps D n pv mv) (wf : (Lit.int .i64 ix).wf = true)
    (hsa : args.size ≤ 1048576) (hsi : id.size ≤ 1048576) (hsn : name.size ≤ 1048576) (hh : held ps ≤ 35184372088832) (hn : n ≤ 4194304) (hl : ps.length ≤ 4194304) :
    Calls Try.prog 11 #[.pointer (some ⟨bb, 0, none⟩), .int .i64 ix, .string id, .string name, .string args] w (AddPost B bb ps n id name args w) := by
  go_enter Try.func11, Try.ntmps11
  go_wp2_with fail
  refine (add_any B bb n ps D pv mv ix id name args _ hI wf hsa hsi hsn hh hn hl).mono ?_
  rintro e w' ⟨added, ps', D', n', pv', mv', rfl, r⟩
  go_wp2_with fail
  go_ret
  exact ⟨added, ps', D', n', pv', mv', rfl, r⟩

theorem slice_of_row {w : World} {B : Nat} {e : TypeId} {v : Value} {n : Nat} {xs : List Value} (h : w.ownsRow B e 1 v n xs) : ∃ ao cap, v = .slice ao n cap := by
  rcases h.2 with ⟨hv, h0⟩ | ⟨g, cap, cur, hv, _⟩
  · exact ⟨none, 0, by rw [hv, h0]⟩
  · exact ⟨_, _, hv⟩

theorem numParts (B bb n : Nat) (ps : List PC) (D : DataW Unit) (pv mv : Value) (w : World) (hI : Inv w B bb ps D n pv mv) :
    Calls Try.prog 12 #[.pointer (some ⟨bb, 0, none⟩)] w fun e w' => e = .returned (.int .i64 (ps.length : Nat)) ∧ w = w' := by
  obtain ⟨ao, cap, hv⟩ := slice_of_row hI.row
  have b0 : w.cell? ⟨bb, 0, none⟩ = some (.slice ao ps.length cap) := by rw [Lib.cell_of_heap hI.bld, ← hv]; rfl
  clear hI
  go_enter Try.func12, Try.ntmps12
  go_wp2
  go_ret
  exact ⟨rfl, rfl⟩

theorem newBuilder (w : World) : Calls Try.prog 10 #[] w fun e w' => e = .returned (.pointer (some ⟨w.heap.size, 0, none⟩)) ∧ w' = w.alloc (.cells #[.slice none 0 0, .map none] 62) := by
  go_enter Try.func10, Try.ntmps10
  go_wp2
  go_ret
  exact ⟨rfl, rfl⟩

def PartPost (B bb : Nat) (ps : List PC) (D : DataW Unit) (n : Nat) (pv mv : Value) (p : PC) (w : World) (e : Ending) (w' : World) : Prop :=
  e = .returned (.tuple #[.int .i64 p.ix, .string p.id, .string p.name, .string ⟨p.bs.toArray⟩]) ∧ Inv w' B bb ps D n pv mv ∧ Below B w w'

theorem part_end {w w' : World} {B bb n : Nat} {ps : List PC} {D : DataW Unit} {pv mv : Value} {p : PC} (hI : Inv w B bb ps D n pv mv) (hp : p ∈ ps) (hat : p.At w' B) (hf : Fr (fun k => p.buf.ownBlock = some k) w.drew w') :
    PartPost B bb ps D n pv mv p w (.returned (.tuple #[.int .i64 p.ix, .string p.id, .string p.name, .string ⟨p.bs.toArray⟩])) w' := by
  have hp0 := hI.ats p hp
  obtain ⟨A, C, rfl⟩ := split_mem hp
  have hff : Fr (fun k => k = p.blk ∨ p.buf.ownBlock = some k) w w' := (fr_drew _ w).trans (hf.mono (fun k q => .inr q)) (fun _ _ q => q)
  refine ⟨rfl, hI.upd hat rfl hff (.inl rfl), hff.below ?_ ?_⟩
  · intro k hk
    rcases hk with e | e
    · rw [e]; exact hp0.base
    · exact (hp0.row.lt k e).1
  · have := lt_of_block hI.bld
    have := hI.base
    omega

set_option maxHeartbeats 1000000 in
theorem part_any (B bb n k : Nat) (ps : List PC) (D : DataW Unit) (pv mv : Value) (w : World) (hI : Inv w B bb ps D n pv mv) (hk : k < ps.length) :
    Calls Try.prog 13 #[.pointer (some ⟨bb, 0, none⟩), .int .i64 (k : Nat)] w (PartPost B bb ps D n pv mv ps[k] w) := by
  obtain ⟨p, hp⟩ : ∃ p, p = ps[k] := ⟨_, rfl⟩
  rw [← hp]
  have hpm : p ∈ ps := by rw [hp]; exact List.getElem_mem _
  obtain ⟨g, cap, cur, hv, hbg, hg, hnc, hcm, hcs, htake⟩ : ∃ g cap cur, pv = .slice (some ⟨g, 0, none⟩) ps.length cap ∧ B ≤ g ∧ w.heap[g]? = some (.cells cur 64 (0, 0)) ∧ ps.length ≤ cap ∧ cap ≤ maxLen ∧ cur.size = cap * 1 ∧ cur.toList.take (ps.length * 1) = ps.map PC.ptr := by
    rcases hI.row.2 with ⟨_, h0⟩ | ⟨g, cap, cur, r⟩
    · omega
    · exact ⟨g, cap, cur, r⟩
  have b0 : w.cell? ⟨bb, 0, none⟩ = some (.slice (some ⟨g, 0, none⟩) ps.length cap) := by rw [Lib.cell_of_heap hI.bld, ← hv]; rfl
  have bk : w.cell? ⟨g, k, none⟩ = some (.pointer (some ⟨p.blk, 0, none⟩)) := by
    have h1 := hI.row
    rw [hv] at h1
    have h2 := h1.cellAt k (by omega)
    rw [h2]
    simp [hk, PC.ptr, hp]
  have HP : Hid (p.At w B) := hI.ats p hpm
  have HI : Hid (Inv w B bb ps D n pv mv) := hI
  have hkI : (k : Int) < (ps.length : Int) := by omega
  clear hI hp hg hcs htake hv
  have c0 : w.cell? ⟨p.blk, 0, none⟩ = some (.int .i64 p.ix) := cell_of_at HP.out 0
  have c1 : w.cell? ⟨p.blk, 1, none⟩ = some (.string p.id) := cell_of_at HP.out 1
  have c2 : w.cell? ⟨p.blk, 2, none⟩ = some (.string p.name) := cell_of_at HP.out 2
  go_enter Try.func13, Try.ntmps13
  go_wp2
  go_region_held3 (fun w' => w'.cell? ⟨p.blk, 0, none⟩ = some (.int .i64 p.ix) ∧ w'.cell? ⟨p.blk, 1, none⟩ = some (.string p.id) ∧ w'.cell? ⟨p.blk, 2, none⟩ = some (.string p.name)) (go_keep) ((go_at_call 32; refine (string_any B p _ (at_drew HP.out)).mono ?_; rintro e w' ⟨rfl, hat', hf'⟩; have k0 : w'.cell? ⟨p.blk, 0, none⟩ = some (.int .i64 p.ix) := cell_of_at hat' 0; have k1 : w'.cell? ⟨p.blk, 1, none⟩ = some (.string p.id) := cell_of_at hat' 1; have k2 : w'.cell? ⟨p.blk, 2, none⟩ = some (.string p.name) := cell_of_at hat' 2))
  go_wp2
  refine bodyPost_ret (v := .tuple #[.int .i64 p.ix, .string p.id, .string p.name, .string ⟨p.bs.toArray⟩]) ?_ rfl (part_end HI.out hpm hat' hf')
  simp [results, Try.results13, go_sem]
end Go.Proofs.Qxb6603195a.W5
