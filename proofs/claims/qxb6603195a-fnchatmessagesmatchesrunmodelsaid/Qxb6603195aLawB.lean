/-
  THE LAW FnChatMessagesMatchesRunModel (6).
-/
import Derived.Test.Qxb6603195aChat
import Derived.Test.Qxb6603195aToMsgs
import Derived.Test.Qxb6603195aFits
import Derived.Test.Qxb6603195aJoined
import Derived.Test.Qxb6603195aWire
namespace Go.Proofs.Qxb6603195a.W6
open Go.ChangeShapes Go.WideShapes Go.ChangeAt Go.RowKit
open W5 (ret_int empty_iff Fr cells_ne lt_of_block size_of_empty)

def LPost (w : World) (e : Ending) (w' : World) : Prop := e = .returned (.bool true) ∧ Below w.heap.size w w'

theorem chatz_any (v : Value) (ms : List M) (w : World) (h : MsgsAt w v ms) : Calls Try.prog 25 #[v] w (ChatPost ms w) := by
  obtain ⟨va, vc, hv, _⟩ := h.row
  subst hv
  have HM : Hid (MsgsAt w (.slice va ms.length vc) ms) := h
  clear h
  go_enter Try.func25, Try.ntmps25
  go_wp2_with fail
  refine (chat_any _ ms _ HM.out).mono ?_
  rintro e w' ⟨hh, bs, gs, rfl, r⟩
  have HR : Hid _ := r
  clear r
  go_wp2_with fail
  go_ret
  exact ⟨hh, bs, gs, rfl, HR.out⟩

theorem eql_nil49 (w : World) (a : Option Addr) (n c : Nat) : (binOp .eql 49 (.slice a n c) (.slice none 0 0)).run Try.prog w = .ok (.bool a.isNone) w := by
  cases a <;> kernel_rfl
theorem eql_nil52 (w : World) (a : Option Addr) (n c : Nat) : (binOp .eql 52 (.slice a n c) (.slice none 0 0)).run Try.prog w = .ok (.bool a.isNone) w := by
  cases a <;> kernel_rfl

/-- one message of the wire against its run -/
theorem chat_facts {W : World} {bs : List B} {i j : Nat} (hr : RunTo bs i j) (hi : i < bs.length) {o : B} (ho : o = (seg bs (i + 1) j).foldl merge bs[i]) {g : G} (hg : ChatOK W o g) :
    g.c0 = .string bs[i].role ∧ g.c3 = .string bs[i].tcid ∧ WireAt W g.c2 (segC bs i j) ∧
      ((g.c1 = .pointer none ∧ segT bs i j = [] ∧ segC bs i j ≠ []) ∨ (¬ (segT bs i j = [] ∧ segC bs i j ≠ []) ∧ ∃ (b : Nat) (t : ByteArray), g.c1 = .pointer (some ⟨b, 1, none⟩) ∧ W.cell? ⟨b, 1, none⟩ = some (.string t) ∧ t.toList = segT bs i j)) := by
  obtain ⟨e1, e2, e3, e4⟩ := run_is bs hr hi o ho
  refine ⟨by rw [hg.role, e1], by rw [hg.tcid, e2], by rw [← e4]; exact hg.wire, ?_⟩
  rcases hg.text with ⟨q1, q2, q3⟩ | ⟨q1, b, q2, _, q3⟩
  · exact .inl ⟨q1, by rw [← e3]; exact q2, by rw [← e4]; exact q3⟩
  · exact .inr ⟨by rw [← e3, ← e4]; exact q1, b, o.content, q2, q3, e3⟩

theorem WireAt.below {w w' : World} {v : Value} {cs : List TC} (h : WireAt w v cs) (hb : Below w.heap.size w w') : WireAt w' v cs := by
  rcases h with q | ⟨q, b, c, e, ⟨cur, fz, hh⟩, hc⟩
  · exact .inl q
  · have eb := hb.block b (lt_of_block hh)
    exact .inr ⟨q, b, c, e, ⟨cur, fz, eb.trans hh⟩, fun j u hu => (World.cell?_of_block (by exact eb)).trans (hc j u hu)⟩

/-- a message of the wire in the hand -/
structure VSt (w2 W : World) (b off c : Nat) (ms : List M) (gb : Nat) (x : M) (cp tv : Value) (cs : List TC) : Prop where
  bel : Below w2.heap.size w2 W
  ms : MsgsIn W (.slice (some ⟨b, off, none⟩) ms.length c) ms
  blk : W.heap[gb]? = some (.cells #[.string x.b.role, cp, tv, .string x.b.tcid] 54 (0, 0))
  wire : WireAt W tv cs
theorem VSt.keep {w2 W W' : World} {b off c : Nat} {ms : List M} {gb : Nat} {x : M} {cp tv : Value} {cs : List TC} (h : VSt w2 W b off c ms gb x cp tv cs) (hb : Below W.heap.size W W') : VSt w2 W' b off c ms gb x cp tv cs :=
  ⟨h.bel.trans ⟨hb.os, hb.tape, hb.output, hb.size, fun k hk => hb.block k (Nat.lt_of_lt_of_le hk h.bel.size)⟩, h.ms.below hb, (hb.block gb (lt_of_block h.blk)).trans h.blk, h.wire.below hb⟩
theorem VSt.first {w2 w3 : World} {b off c : Nat} {ms : List M} {x : M} {cp tv : Value} {cs : List TC} (hb : Below w2.heap.size w2 w3) (hm : MsgsIn w3 (.slice (some ⟨b, off, none⟩) ms.length c) ms) (hw : WireAt w3 tv cs) :
    VSt w2 (w3.alloc (.cells #[.string x.b.role, cp, tv, .string x.b.tcid] 54)) b off c ms w3.heap.size x cp tv cs := by
  have hb' : Below w3.heap.size w3 (w3.alloc (.cells #[.string x.b.role, cp, tv, .string x.b.tcid] 54)) := (Below.refl _ _).alloc (Nat.le_refl _) _
  exact ⟨hb.trans ⟨hb'.os, hb'.tape, hb'.output, hb'.size, fun k hk => hb'.block k (Nat.lt_of_lt_of_le hk hb.size)⟩, hm.below hb', heap_alloc_new w3 _, hw.below hb'⟩
theorem VSt.cell {w2 W : World} {b off c : Nat} {ms : List M} {gb : Nat} {x : M} {cp tv : Value} {cs : List TC} (h : VSt w2 W b off c ms gb x cp tv cs) (j : Nat) : W.cell? ⟨gb, j, none⟩ = (#[.string x.b.role, cp, tv, .string x.b.tcid] : Array Value)[j]? := cell_of_row W gb j _ _ _ h.blk

theorem segT_len_le (bs : List B) {i t : Nat} (hb : ∀ o ∈ bs, o.content.size ≤ 1048576) : ∀ d, t = i + d → t ≤ bs.length → (segT bs i t).length ≤ d * 1048578
  | 0, ht, _ => by rw [ht, Nat.add_zero, segT_self]; simp
  | d + 1, ht, hl => by
    subst ht
    have hlt : i + d < bs.length := by omega
    have h1 := segT_len_le bs (i := i) (t := i + d) hb d rfl (by omega)
    rw [show i + (d + 1) = (i + d) + 1 by omega, segT_step bs (by omega) hlt]
    have h2 := hb bs[i + d] (List.getElem_mem _)
    rw [size_list] at h2
    generalize segT bs i (i + d) = P at *
    generalize bs[i + d].content.toList = Q at *
    have h3 : (jl P Q).length ≤ P.length + 2 + Q.length := by
      by_cases hp : P = []
      · rw [hp, jl_nil_left]; omega
      · by_cases hq : Q = []
        · rw [hq, jl_nil_right]; omega
        · rw [jl_both hp hq]; simp only [List.length_append, List.length_cons, List.length_nil]; omega
    omega

theorem drop_cons {α : Type} {l t : List α} {k : Nat} {m : α} (h : l.drop k = m :: t) : ∃ hk : k < l.length, l[k] = m ∧ l.drop (k + 1) = t := by
  by_cases hk : k < l.length
  · rw [List.drop_eq_getElem_cons hk] at h
    injection h with h1 h2
    exact ⟨hk, h1, h2⟩
  · rw [List.drop_eq_nil_of_le (by omega)] at h
    cases h

set_option maxRecDepth 20000 in
set_option maxHeartbeats 4000000 in
theorem law_some (b off c : Nat) (ms : List M) (w : World) (h : MsgsIn w (.slice (some ⟨b, off, none⟩) ms.length c) ms) (hwf : ∀ m ∈ ms, m.wf) (hn0 : 0 < ms.length) : Calls Try.prog 6 #[.slice (some ⟨b, off, none⟩) ms.length c] w (LPost w) := by
  have HM : Hid (MsgsIn w (.slice (some ⟨b, off, none⟩) ms.length c) ms) := h
  have HWF : Hid (∀ m ∈ ms, m.wf) := hwf
  have HN0 : Hid (0 < ms.length) := hn0
  clear h hwf
  go_enter Try.func6, Try.ntmps6
  go_wp2_with fail
  refine (bytes_some b off c ms _ HM.out HN0.out).mono ?_
  rintro e w' ⟨r, rfl, hr, rfl⟩
  cases r
  · clear hr
    go_wp2_with fail
    go_ret
    exact ⟨rfl, Below.refl _ _⟩
  obtain ⟨hs, hsm⟩ := hr rfl
  have HS : Hid (ms.length ≤ 1048576) := hs
  have HSM : Hid (∀ m ∈ ms, m.small) := hsm
  have HCS : Hid (∀ m ∈ ms, m.b.calls.length ≤ 1048576) := fun m hm => (hsm m hm).2
  clear hr hsm
  go_wp2_with fail
  refine (fit_some b off c ms _ HM.out HS.out HWF.out HSM.out).mono ?_
  rintro e w' ⟨r, rfl, rfl⟩
  cases r
  · go_wp2_with fail
    go_ret
    exact ⟨rfl, Below.refl _ _⟩
  go_wp2_with fail
  refine (to_some b off c ms _ HM.out HS.out HSM.out).mono ?_
  rintro e w1 ⟨v1, os, rfl, hb1, hm1, hbel1⟩
  obtain ⟨a1, cc1, hv1, _⟩ := hm1.row
  subst hv1
  have HB1 : Hid (os.map M.b = ms.map M.b) := hb1
  have HM1 : Hid (MsgsAt w1 (.slice a1 os.length cc1) os) := hm1
  have HBE1 : Hid (Below w.heap.size w w1) := hbel1
  clear hb1 hm1 hbel1
  go_wp2_with fail
  refine (chatz_any _ os _ HM1.out).mono ?_
  rintro e w2 ⟨hh, bs, gs, rfl, hbs, hgl, hgc, hgo, hbel2⟩
  have HBS : Hid (bs = alt (ms.map M.b)) := by rw [← HB1.out]; exact hbs
  have HGL : Hid (gs.length = bs.length) := hgl
  have HGC : Hid (∀ k j, (h1 : k < gs.length) → j < 4 → w2.cell? ⟨hh, k * 4 + j, none⟩ = (gCells gs[k])[j]?) := hgc
  have HGO : Hid (∀ k (h1 : k < bs.length) (h2 : k < gs.length), ChatOK w2 bs[k] gs[k]) := hgo
  have HBE2 : Hid (Below w.heap.size w w2) := HBE1.out.trans ⟨hbel2.os, hbel2.tape, hbel2.output, hbel2.size, fun k hk => hbel2.block k (Nat.lt_of_lt_of_le hk HBE1.out.size)⟩
  have HMW : Hid (MsgsIn w2 (.slice (some ⟨b, off, none⟩) ms.length c) ms) := HM.out.below HBE2.out
  clear hbs hgl hgc hgo hbel2 HB1 HM1 HBE1 HM
  obtain ⟨n, hn⟩ : ∃ n, n = ms.length := ⟨_, rfl⟩
  have HN : Hid (n = ms.length) := hn
  rw [← hn] at hs hn0
  rw [← hn]
  clear hn
  obtain ⟨N, hN⟩ : ∃ N, N = bs.length := ⟨_, rfl⟩
  have HNN : Hid (N = bs.length) := hN
  rw [← hN]
  have hNb : N ≤ 1048576 := by
    rw [hN, HBS.out]
    have q := foldl_len (ms.map M.b) []
    have q2 : (alt (ms.map M.b)).length ≤ 0 + (ms.map M.b).length := q
    rw [List.length_map, ← HN.out] at q2
    omega
  clear hN
  have heq : ∀ wx, (binOp .eql 49 (.slice (some ⟨hh, 0, none⟩) N N) (.slice none 0 0)).run Try.prog wx = .ok (.bool false) wx := fun wx => eql_nil49 wx _ N N
  go_wp2_with fail
  clear heq
  go_loopw [4, 5] (fun kv iv wr => ∃ k i : Nat, kv = .int .i64 (k : Nat) ∧ iv = .int .i64 (i : Nat) ∧ k ≤ N ∧ i ≤ n ∧ Hid (bs.drop k = left (ms.map M.b) i) ∧ Hid (Below w2.heap.size w2 wr)) (fun _ iv _ => n - (intOf iv).toNat)
  case atStart => exact ⟨0, 0, rfl, rfl, by omega, by omega, by rw [HBS.out, left_zero]; exact rfl, Below.refl _ _⟩
  case round =>
    obtain ⟨k, i, rfl, rfl, hk, hin, HD, HB⟩ := hrel
    by_cases hi : i < n
    · have hil : i < ms.length := by rw [← HN.out]; exact hi
      have HMR : Hid (MsgsIn wr (.slice (some ⟨b, off, none⟩) ms.length c) ms) := HMW.out.below HB.out
      go_wp2_with fail
      have R := runEnd_any b off c i ms wr HMR.out hil HS.out
      rw [← HN.out] at R
      refine R.mono ?_
      clear R
      rintro e w3 ⟨j, rfl, hrun, hb3⟩
      have hij := hrun.lo
      have hjn : j ≤ n := by have q := hrun.hi; rw [List.length_map, ← HN.out] at q; exact q
      have hjl : j ≤ ms.length := by rw [← HN.out]; exact hjn
      have HB3 : Hid (Below w2.heap.size w2 w3) := HB.out.trans ⟨hb3.os, hb3.tape, hb3.output, hb3.size, fun q hq => hb3.block q (Nat.lt_of_lt_of_le hq HB.out.size)⟩
      have hil2 : i < (ms.map M.b).length := by simpa using hil
      obtain ⟨hkl, hM, hrest⟩ := drop_cons (HD.out.trans (left_run (ms.map M.b) hrun hil2))
      have hkN : k < N := by have := HNN.out; omega
      have hkg : k < gs.length := by rw [HGL.out]; exact hkl
      have HD2 : Hid (bs.drop (k + 1) = left (ms.map M.b) j) := hrest
      have hC : ChatOK w3 bs[k] gs[k] := (HGO.out k hkl hkg).keep (Below.fr HB3.out) (fun _ _ _ _ _ _ q => q)
      obtain ⟨x, hx⟩ : ∃ x, x = ms[i] := ⟨_, rfl⟩
      have hxb : (ms.map M.b)[i] = x.b := by rw [bs_get ms hil, hx]
      obtain ⟨f0, f3, fw, ft⟩ := chat_facts hrun hil2 hM hC
      rw [hxb] at f0 f3
      obtain ⟨ta, tc, ftv, ftc⟩ := fw.form
      have hgc : ∀ q, q < 4 → w3.cell? ⟨hh, k * 4 + q, none⟩ = (gCells gs[k])[q]? := by
        intro q hq
        have e := HGC.out k q hkg hq
        have hl : q < (gCells gs[k]).length := hq
        rw [List.getElem?_eq_getElem hl] at e ⊢
        exact (World.cell?_of_block (HB3.out.block hh (World.block_lt_of_cell? w2 _ e))).trans e
      have g0 : w3.cell? ⟨hh, k * 4, none⟩ = some (.string x.b.role) := by rw [← f0]; exact hgc 0 (by omega)
      have g2 : w3.cell? ⟨hh, k * 4 + 2, none⟩ = some (.slice ta (segC (ms.map M.b) i j).length tc) := by rw [← ftv]; exact hgc 2 (by omega)
      have g3 : w3.cell? ⟨hh, k * 4 + 3, none⟩ = some (.string x.b.tcid) := by rw [← f3]; exact hgc 3 (by omega)
      have HMR3 : Hid (MsgsIn w3 (.slice (some ⟨b, off, none⟩) ms.length c) ms) := HMW.out.below HB3.out
      have HFW : Hid (WireAt w3 (.slice ta (segC (ms.map M.b) i j).length tc) (segC (ms.map M.b) i j)) := by rw [← ftv]; exact fw
      have HX : Hid (x = ms[i]) := hx
      have hiI : (i : Int) < (n : Int) := by omega
      have hkI : (k : Int) < (N : Int) := by omega
      have hkd : decide (N ≤ k) = false := decide_eq_false (by omega)
      have g1 : w3.cell? ⟨hh, k * 4 + 1, none⟩ = some gs[k].c1 := hgc 1 (by omega)
      have HFT : Hid ((gs[k].c1 = .pointer none ∧ segT (ms.map M.b) i j = [] ∧ segC (ms.map M.b) i j ≠ []) ∨ (¬ (segT (ms.map M.b) i j = [] ∧ segC (ms.map M.b) i j ≠ []) ∧ ∃ (b : Nat) (t : ByteArray), gs[k].c1 = .pointer (some ⟨b, 1, none⟩) ∧ w3.cell? ⟨b, 1, none⟩ = some (.string t) ∧ t.toList = segT (ms.map M.b) i j)) := ft
      have HSZ : Hid ((segT (ms.map M.b) i j).length ≤ 140737488355328) := by
        have q := segT_len_le (ms.map M.b) (i := i) (t := j) (fun o ho => by obtain ⟨m, hm, rfl⟩ := List.mem_map.1 ho; exact (HSM.out m hm).1) (j - i) (by omega) (by rw [List.length_map]; exact hjl)
        have : (j - i) * 1048578 ≤ 1048576 * 1048578 := Nat.mul_le_mul_right _ (by omega)
        exact (by omega : (segT (ms.map M.b) i j).length ≤ 140737488355328)
      have hTb : (segC (ms.map M.b) i j).length ≤ 1099511627776 := by
        have q := seg_len_le (ms.map M.b) (i := i) (t := j) (fun o ho => by obtain ⟨m, hm, rfl⟩ := List.mem_map.1 ho; exact (HSM.out m hm).2) (j - i) (by omega) (by rw [List.length_map]; exact hjl)
        have : (j - i) * 1048576 ≤ 1048576 * 1048576 := Nat.mul_le_mul_right _ (by omega)
        omega
      obtain ⟨T, hT⟩ : ∃ T, T = (segC (ms.map M.b) i j).length := ⟨_, rfl⟩
      have HTT : Hid (T = (segC (ms.map M.b) i j).length) := hT
      rw [← hT] at g2 HFW hTb
      clear hT hb3 HB HMR hM hrest hC hx hxb f0 f3 fw ft ftv hgc HD hil2 hrun hkl ftc
      generalize gs[k].c1 = cp at *
      rcases HFT.out with ⟨rfl, qt, qc⟩ | ⟨qn, pb, tx, rfl, ptx, qtx⟩
      · clear HFT
        have HQT : Hid (segT (ms.map M.b) i j = []) := qt
        have HQC : Hid (segC (ms.map M.b) i j ≠ []) := qc
        clear qt qc
        go_upto_region 15 with fail
        have HV : Hid (VSt w2 (w3.alloc (.cells #[.string x.b.role, .pointer none, .slice ta T tc, .string x.b.tcid] 54)) b off c ms w3.heap.size x (.pointer none) (.slice ta T tc) (segC (ms.map M.b) i j)) := VSt.first HB3.out HMR3.out HFW.out
        clear g0 g1 g2 g3 HB3 HMR3 HFW
        generalize (w3.alloc (.cells #[.string x.b.role, .pointer none, .slice ta T tc, .string x.b.tcid] 54)) = W at *
        generalize w3.heap.size = gb at *
        have c0 : W.cell? ⟨b, off + i * 5, none⟩ = some (.string x.b.role) := by rw [HX.out]; exact HV.out.ms.cell hil (j := 0) (by omega)
        have c3 : W.cell? ⟨b, off + i * 5 + 3, none⟩ = some (.string x.b.tcid) := by rw [HX.out]; exact HV.out.ms.cell hil (j := 3) (by omega)
        have g0 : W.cell? ⟨gb, 0, none⟩ = some (.string x.b.role) := HV.out.cell 0
        have g3 : W.cell? ⟨gb, 3, none⟩ = some (.string x.b.tcid) := HV.out.cell 3
        go_quiet (fail)
        have HV2 : Hid (VSt w2 (W.drewN nq) b off c ms gb x (.pointer none) (.slice ta T tc) (segC (ms.map M.b) i j)) := HV.out.keep (below_drewN' _ _)
        clear c0 c3 g0 g3 HV
        generalize W.drewN nq = W4 at *
        go_wp2_with fail
        have R := count_any b off c i j ms W4 HV2.out.ms hij hjl HS.out HCS.out
        rw [← HN.out] at R
        refine R.mono ?_
        clear R
        rintro e w' ⟨rfl, rfl⟩
        rw [← HTT.out]
        go_wp2_with fail
        have R := empty_any b off c i j ms W4 HV2.out.ms hij hjl HS.out
        rw [← HN.out] at R
        refine R.mono ?_
        clear R
        rintro e w' ⟨r, rfl, hr1, hr2, rfl⟩
        have hrt : r = true := by
          cases r
          · exact absurd HQT.out (hr2 rfl)
          · rfl
        clear hr1 hr2
        subst hrt
        have g1 : W4.cell? ⟨gb, 1, none⟩ = some (.pointer none) := HV2.out.cell 1
        have g2 : W4.cell? ⟨gb, 2, none⟩ = some (.slice ta T tc) := HV2.out.cell 2
        have hT0 : ¬ T = 0 := fun q => HQC.out (List.eq_nil_of_length_eq_zero (by rw [← HTT.out]; exact q))
        have hta : ta.isNone = false := by
          rcases HV2.out.wire with ⟨_, q⟩ | ⟨_, tb, tc', q, _⟩
          · exact absurd q HQC.out
          · injection q with q
            rw [q]; rfl
        have heq : ∀ wx, (binOp .eql 52 (.slice ta T tc) (.slice none 0 0)).run Try.prog wx = .ok (.bool false) wx := fun wx => by rw [eql_nil52, hta]
        have hTz : ((T : Int) == 0) = false := beq_false_of_ne (by omega)
        have hTd : decide ((0 : Int) < (T : Int)) = true := decide_eq_true (by omega)
        have hTe : decide (0 < T) = true := decide_eq_true (by omega)
        clear hta
        go_wp2_with fail
        have R := wire_any (.slice ta T tc) b off c i j ms W4 HV2.out.ms hij hjl HS.out HCS.out HV2.out.wire
        rw [← HN.out] at R
        refine R.mono ?_
        clear R
        rintro e w5 ⟨rfl, hb5⟩
        have HB5 : Hid (Below w2.heap.size w2 w5) := HV2.out.bel.trans ⟨hb5.os, hb5.tape, hb5.output, hb5.size, fun q hq => hb5.block q (Nat.lt_of_lt_of_le hq HV2.out.bel.size)⟩
        clear hb5
        go_wp2_with fail
        go_roundw
        case rel => exact ⟨k + 1, j, by go_num, rfl, by omega, by omega, HD2, HB5⟩
        case measure => simp [intOf]; omega
      · clear HFT
        have HQN : Hid (¬ (segT (ms.map M.b) i j = [] ∧ segC (ms.map M.b) i j ≠ [])) := qn
        have HQT : Hid (tx.toList = segT (ms.map M.b) i j) := qtx
        clear qn qtx
        go_upto_region 15 with fail
        have HV : Hid (VSt w2 (w3.alloc (.cells #[.string x.b.role, .pointer (some ⟨pb, 1, none⟩), .slice ta T tc, .string x.b.tcid] 54)) b off c ms w3.heap.size x (.pointer (some ⟨pb, 1, none⟩)) (.slice ta T tc) (segC (ms.map M.b) i j)) := VSt.first HB3.out HMR3.out HFW.out
        have ptx2 : (w3.alloc (.cells #[.string x.b.role, .pointer (some ⟨pb, 1, none⟩), .slice ta T tc, .string x.b.tcid] 54)).cell? ⟨pb, 1, none⟩ = some (.string tx) := (World.cell?_of_block (Below.heap_alloc w3 _ pb (World.block_lt_of_cell? w3 _ ptx))).trans ptx
        clear g0 g1 g2 g3 ptx HB3 HMR3 HFW
        generalize (w3.alloc (.cells #[.string x.b.role, .pointer (some ⟨pb, 1, none⟩), .slice ta T tc, .string x.b.tcid] 54)) = W at *
        generalize w3.heap.size = gb at *
        have c0 : W.cell? ⟨b, off + i * 5, none⟩ = some (.string x.b.role) := by rw [HX.out]; exact HV.out.ms.cell hil (j := 0) (by omega)
        have c3 : W.cell? ⟨b, off + i * 5 + 3, none⟩ = some (.string x.b.tcid) := by rw [HX.out]; exact HV.out.ms.cell hil (j := 3) (by omega)
        have g0 : W.cell? ⟨gb, 0, none⟩ = some (.string x.b.role) := HV.out.cell 0
        have g3 : W.cell? ⟨gb, 3, none⟩ = some (.string x.b.tcid) := HV.out.cell 3
        go_quiet (fail)
        have HV2 : Hid (VSt w2 (W.drewN nq) b off c ms gb x (.pointer (some ⟨pb, 1, none⟩)) (.slice ta T tc) (segC (ms.map M.b) i j)) := HV.out.keep (below_drewN' _ _)
        have ptx3 : (W.drewN nq).cell? ⟨pb, 1, none⟩ = some (.string tx) := ptx2
        clear c0 c3 g0 g3 ptx2 HV
        generalize W.drewN nq = W4 at *
        go_wp2_with fail
        have R := count_any b off c i j ms W4 HV2.out.ms hij hjl HS.out HCS.out
        rw [← HN.out] at R
        refine R.mono ?_
        clear R
        rintro e w' ⟨rfl, rfl⟩
        rw [← HTT.out]
        go_wp2_with fail
        have R := empty_any b off c i j ms W4 HV2.out.ms hij hjl HS.out
        rw [← HN.out] at R
        refine R.mono ?_
        clear R
        rintro e w' ⟨r, rfl, hr1, hr2, rfl⟩
        have HR1 : Hid (r = true → segT (ms.map M.b) i j = []) := hr1
        clear hr1 hr2
        have g1 : W4.cell? ⟨gb, 1, none⟩ = some (.pointer (some ⟨pb, 1, none⟩)) := HV2.out.cell 1
        have g2 : W4.cell? ⟨gb, 2, none⟩ = some (.slice ta T tc) := HV2.out.cell 2
        by_cases hT0 : T = 0
        · obtain ⟨rfl, rfl⟩ : ta = none ∧ tc = 0 := by
            have hc0 : segC (ms.map M.b) i j = [] := List.eq_nil_of_length_eq_zero (by rw [← HTT.out]; exact hT0)
            rcases HV2.out.wire with ⟨q, _⟩ | ⟨q, _⟩
            · injection q with q1 q2 q3
              exact ⟨q1, q3⟩
            · exact absurd hc0 q
          subst hT0
          have heq : ∀ wx, (binOp .eql 52 (.slice none 0 0) (.slice none 0 0)).run Try.prog wx = .ok (.bool true) wx := fun wx => eql_nil52 wx _ _ _
          cases r
          all_goals
            go_wp2_with fail
            have R := joined_any tx b off c i j ms W4 HV2.out.ms hij hjl HS.out HQT.out (by rw [size_list, HQT.out]; exact HSZ.out)
            rw [← HN.out] at R
            refine R.mono ?_
            clear R
            rintro e w' ⟨rfl, rfl⟩
            go_wp2_with fail
            
            have R := wire_any (.slice none 0 0) b off c i j ms W4 HV2.out.ms hij hjl HS.out HCS.out HV2.out.wire
            rw [← HN.out] at R
            refine R.mono ?_
            clear R
            rintro e w5 ⟨rfl, hb5⟩
            have HB5 : Hid (Below w2.heap.size w2 w5) := HV2.out.bel.trans ⟨hb5.os, hb5.tape, hb5.output, hb5.size, fun q hq => hb5.block q (Nat.lt_of_lt_of_le hq HV2.out.bel.size)⟩
            clear hb5
            go_wp2_with fail
            go_roundw
            case rel => exact ⟨k + 1, j, by go_num, rfl, by omega, by omega, HD2, HB5⟩
            case measure => simp [intOf]; omega
        · have hta : ta.isNone = false := by
            have hc0 : segC (ms.map M.b) i j ≠ [] := fun q => hT0 (by rw [HTT.out, q]; rfl)
            rcases HV2.out.wire with ⟨_, q⟩ | ⟨_, tb, tc', q, _⟩
            · exact absurd q hc0
            · injection q with q
              rw [q]; rfl
          have heq : ∀ wx, (binOp .eql 52 (.slice ta T tc) (.slice none 0 0)).run Try.prog wx = .ok (.bool false) wx := fun wx => by rw [eql_nil52, hta]
          have hTz : ((T : Int) == 0) = false := beq_false_of_ne (by omega)
          have hTd : decide ((0 : Int) < (T : Int)) = true := decide_eq_true (by omega)
          have hTe : decide (0 < T) = true := decide_eq_true (by omega)
          have hrf : r = false := by
            cases r
            · rfl
            · exact absurd ⟨HR1.out rfl, fun q => hT0 (by rw [HTT.out, q]; rfl)⟩ HQN.out
          subst hrf
          clear hta
          go_wp2_with fail
          have R := joined_any tx b off c i j ms W4 HV2.out.ms hij hjl HS.out HQT.out (by rw [size_list, HQT.out]; exact HSZ.out)
          rw [← HN.out] at R
          refine R.mono ?_
          clear R
          rintro e w' ⟨rfl, rfl⟩
          go_wp2_with fail
          
          have R := wire_any (.slice ta T tc) b off c i j ms W4 HV2.out.ms hij hjl HS.out HCS.out HV2.out.wire
          rw [← HN.out] at R
          refine R.mono ?_
          clear R
          rintro e w5 ⟨rfl, hb5⟩
          have HB5 : Hid (Below w2.heap.size w2 w5) := HV2.out.bel.trans ⟨hb5.os, hb5.tape, hb5.output, hb5.size, fun q hq => hb5.block q (Nat.lt_of_lt_of_le hq HV2.out.bel.size)⟩
          clear hb5
          go_wp2_with fail
          go_roundw
          case rel => exact ⟨k + 1, j, by go_num, rfl, by omega, by omega, HD2, HB5⟩
          case measure => simp [intOf]; omega
    · have hkN : k = N := by
        have q := HD.out
        rw [left_end _ (by rw [List.length_map, ← HN.out]; omega)] at q
        have := List.drop_eq_nil_iff.1 q
        have := HNN.out
        omega
      subst hkN
      have HBF : Hid (Below w.heap.size w wr) := HBE2.out.trans ⟨HB.out.os, HB.out.tape, HB.out.output, HB.out.size, fun q hq => HB.out.block q (Nat.lt_of_lt_of_le hq HBE2.out.size)⟩
      go_wp2_with fail
      go_ret
      exact ⟨by simp, HBF.out⟩

set_option maxRecDepth 20000 in
set_option maxHeartbeats 2000000 in
theorem law_zero (a : Option Addr) (c : Nat) (w : World) : Calls Try.prog 6 #[.slice a 0 c] w (LPost w) := by
  go_enter Try.func6, Try.ntmps6
  go_wp2_with fail
  refine (bytes_none a c _).mono ?_
  rintro e w' ⟨r, rfl, hr, rfl⟩
  clear hr
  cases r
  · go_wp2_with fail
    go_ret
    exact ⟨rfl, Below.refl _ _⟩
  go_wp2_with fail
  refine (fit_none a c _).mono ?_
  rintro e w' ⟨r, rfl, rfl⟩
  cases r
  · go_wp2_with fail
    go_ret
    exact ⟨rfl, Below.refl _ _⟩
  have HTO : Hid (Calls Try.prog 17 #[.slice a 0 c] w (ToPost [] w)) := by
    cases a with
    | none => exact to_nil c w
    | some ad => exact to_zero ad c w
  go_wp2_with fail
  refine HTO.out.mono ?_
  rintro e w1 ⟨v1, os, rfl, hb1, hm1, hbel1⟩
  have hos : os = [] := by cases os with
    | nil => rfl
    | cons _ _ => simp at hb1
  subst hos
  obtain ⟨a1, cc1, hv1, _⟩ := hm1.row
  subst hv1
  have HM1 : Hid (MsgsAt w1 (.slice a1 0 cc1) []) := hm1
  have HBE1 : Hid (Below w.heap.size w w1) := hbel1
  clear hb1 hm1 hbel1
  go_wp2_with fail
  refine (chatz_any _ [] _ HM1.out).mono ?_
  rintro e w2 ⟨hh, bs, gs, rfl, hbs, hgl, hgc, hgo, hbel2⟩
  have hbn : bs = [] := hbs
  subst hbn
  have HBE2 : Hid (Below w.heap.size w w2) := HBE1.out.trans ⟨hbel2.os, hbel2.tape, hbel2.output, hbel2.size, fun k hk => hbel2.block k (Nat.lt_of_lt_of_le hk HBE1.out.size)⟩
  clear hbs hgl hgc hgo hbel2 HM1 HBE1 HTO
  have heq : ∀ wx, (binOp .eql 49 (.slice (some ⟨hh, 0, none⟩) ([] : List B).length ([] : List B).length) (.slice none 0 0)).run Try.prog wx = .ok (.bool false) wx := fun wx => eql_nil49 wx _ _ _
  have heq2 : ∀ wx, (binOp .eql 49 (.slice (some ⟨hh, 0, none⟩) 0 0) (.slice none 0 0)).run Try.prog wx = .ok (.bool false) wx := fun wx => eql_nil49 wx _ _ _
  go_wp2_with fail
  go_loopw [4, 5] (fun kv iv wr => kv = .int .i64 0 ∧ iv = .int .i64 0 ∧ Hid (Below w.heap.size w wr)) (fun _ _ _ => 0)
  case atStart => exact ⟨rfl, rfl, HBE2⟩
  case round =>
    clear HBE2
    obtain ⟨rfl, rfl, HB⟩ := hrel
    go_wp2_with fail
    go_ret
    exact ⟨by simp, HB.out⟩

/-- what came in -/
structure Came (w : World) (a : Option Addr) (n c : Nat) (ms : List M) : Prop where
  len : ms.length = n
  wf : ∀ m ∈ ms, m.wf
  row : n = 0 ∨ ∃ b off, a = some ⟨b, off, none⟩ ∧ MsgsIn w (.slice (some ⟨b, off, none⟩) n c) ms

theorem law_any (a : Option Addr) (n c : Nat) (ms : List M) (w : World) (h : Came w a n c ms) : Calls Try.prog 6 #[.slice a n c] w (LPost w) := by
  by_cases h0 : n = 0
  · subst h0
    exact law_zero a c w
  · rcases h.row with q | ⟨b, off, rfl, hm⟩
    · exact absurd q h0
    · obtain rfl := h.len
      exact law_some b off c ms w hm h.wf (by omega)
end Go.Proofs.Qxb6603195a.W6
