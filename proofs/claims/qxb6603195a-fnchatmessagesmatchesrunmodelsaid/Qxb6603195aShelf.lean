/-
  strings.Join (39) OFF THE SHELF, laid in plain words at this dump (the kit's own tools wrote the rows).
-/
import Derived.Shelf.Strings.OnBuilder
import Derived.Test.Qxb6603195aRows
namespace Go.Proofs.Qxb6603195a.W6
open Go.Shelf
def joinRen : Go.Shelf.Ren := ⟨fun | 156 => 39 | 165 => 43 | 166 => 36 | 169 => 32 | 240 => 41 | 241 => 46 | 276 => 45 | 277 => 47 | n => n, fun | 31 => 86 | 9 => 9 | 3 => 3 | 4 => 4 | 0 => 0 | 20 => 20 | 72 => 68 | 76 => 82 | 70 => 65 | 37 => 66 | 75 => 81 | 127 => 84 | 164 => 95 | 5 => 5 | 80 => 71 | n => n, fun | n => n⟩
theorem joinLays : Go.Proofs.Lays.n156 Try.prog joinRen := {
  mixed := by kernel_rfl
  f156 := Try.func39.trans (congrArg some (by kernel_rfl))
  f165 := Try.func43.trans (congrArg some (by kernel_rfl))
  f166 := Try.func36.trans (congrArg some (by kernel_rfl))
  f169 := Try.func32.trans (congrArg some (by kernel_rfl))
  f240 := Try.func41.trans (congrArg some (by kernel_rfl))
  f241 := Try.func46.trans (congrArg some (by kernel_rfl))
  f276 := Try.func45.trans (congrArg some (by kernel_rfl))
  f277 := Try.func47.trans (congrArg some (by kernel_rfl))
  t0 := Try.underlying0
  a0 := Try.isAgg0
  z0 := Try.sizeOf0
  v0 := Try.zeroValue0
  t3 := Try.underlying3
  a3 := Try.isAgg3
  z3 := Try.sizeOf3
  v3 := Try.zeroValue3
  t4 := Try.underlying4
  a4 := Try.isAgg4
  z4 := Try.sizeOf4
  v4 := Try.zeroValue4
  t9 := Try.underlying9
  a9 := Try.isAgg9
  z9 := Try.sizeOf9
  v9 := Try.zeroValue9
  t20 := Try.underlying20
  a20 := Try.isAgg20
  z20 := Try.sizeOf20
  v20 := Try.zeroValue20
  t31 := Try.underlying86
  a31 := Try.isAgg86
  z31 := Try.sizeOf86
  v31 := Try.zeroValue86
  t37 := Try.underlying66
  a37 := Try.isAgg66
  z37 := Try.sizeOf66
  v37 := Try.zeroValue66
  t70 := Try.underlying65
  a70 := Try.isAgg65
  z70 := Try.sizeOf65
  v70 := Try.zeroValue65
  t72 := Try.underlying68
  a72 := Try.isAgg68
  z72 := Try.sizeOf68
  v72 := Try.zeroValue68
  t75 := Try.underlying81
  a75 := Try.isAgg81
  z75 := Try.sizeOf81
  v75 := Try.zeroValue81
  t76 := Try.underlying82
  a76 := Try.isAgg82
  z76 := Try.sizeOf82
  v76 := Try.zeroValue82
  t127 := Try.underlying84
  a127 := Try.isAgg84
  z127 := Try.sizeOf84
  v127 := Try.zeroValue84
  t164 := Try.underlying95
  a164 := Try.isAgg95
  z164 := Try.sizeOf95
  v164 := Try.zeroValue95 }
theorem joinExtra : Builder.Extra Try.prog joinRen := {
  sizeBuilder := by kernel_rfl
  liesBuilder := by kernel_rfl
  t5 := Try.underlying5
  a5 := Try.isAgg5
  z5 := Try.sizeOf5
  v5 := Try.zeroValue5
  infoByte := by kernel_rfl
  cellsByte := by kernel_rfl
  sizeByte := by kernel_rfl
  neB5 := by decide }
open Go.RowKit in
theorem strings_Join_none (a : Option Addr) (c : Nat) (sep : ByteArray) (w : World) :
    Calls Try.prog 39 #[.slice a 0 c, .string sep] w fun e w' => e = .returned (.string ⟨#[]⟩) ∧ w' = w := Any.strings_Join_none joinLays joinExtra a c sep w
open Go.RowKit in
theorem strings_Join (bk o c : Nat) (xs : List ByteArray) (sep : ByteArray) (w : World) (hcells : ∀ (j : Nat) x, xs[j]? = some x → w.cell? ⟨bk, o + j, none⟩ = some (.string x)) (hbk : bk < w.heap.size) (hN : xs.length ≤ 140737488355328) (hcap : xs.length ≤ c) (hlen : (Lib.join (xs.map (·.data.toList)) sep.data.toList).length ≤ 140737488355328) :
    Calls Try.prog 39 #[.slice (some ⟨bk, o, none⟩) xs.length c, .string sep] w fun e w' => e = .returned (.string ⟨(Lib.join (xs.map (·.data.toList)) sep.data.toList).toArray⟩) ∧ Below w.heap.size w w' := Any.strings_Join joinLays joinExtra bk o c xs sep w hcells hbk hN hcap hlen
end Go.Proofs.Qxb6603195a.W6
