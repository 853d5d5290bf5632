/-
  NARROWER THAN 'FOR EVERY INPUT', by the rows' own cells (each row's printed sentence says how): FnWeightOfSumsDistinctMembers: maps · FnWeightOfIgnoresOrderAndRepeats: maps · FnWeightOfGrowsWithMembers: maps.
  DERIVED. THE GIVEN ROWS OF THIS SEAT. 7 by the template 'for every input the law returns true; each argument reads behind the call as it read before'; 0 by the template 'total and deterministic' (their statements: Qxb6603306aTotals.lean).
  GIVEN WITH THE SEED: the statements are not yours to turn. If you find one false, say at which input.
  Laid BY PROGRAM, IN A SANDBOX (cutbox-rows.mjs): the forced cells as the released guide's own fill.sh prints them over the translation 3e66c06d38f76ef9… (all of the seat's roots in one cut). By AI agents, Wed Nov 11 2026. No macro, syntax, notation, axiom, sorry.
-/
import Derived.Test.Qxb6603306aChecked
import GoSem.Claim
import GoSem.ClaimJoined
import GoSem.ClaimMapViews
import Derived.JoinedTies
import Derived.KernelRfl
namespace Go.Proofs.Qxb6603306a
/- THE CELL 'sum', in the pinned program and in every row, IS THE sha256 OF THE DUMP (.gsa) THAT Qxb6603306aProg.lean LOADS. Nothing in Lean hashes anything: it is a label: what it is worth is what the hold of that sum in a sandbox is worth. -/
noncomputable def Try.pinned : Pinned := { name := "qxb6603306a", sum := "3e66c06d38f76ef92015e7d15d957b51c0698b6a8010e298dfaf7796fd842e41", checked := Try.checked }
namespace Rows
def none {H : Type} : Left H := { results := [], args := [] }

/-- 'zzlaws_root_b1.FnIsWordSplitsAtEveryCut': WHATEVER THE INPUT: true; the input reads as it did. -/
def fnIsWordSplitsAtEveryCutSpec : ChangeSpec := { name := "fnIsWordSplitsAtEveryCut", fn := fun _ => fun
  | [d1, d2, d3] => { results := [.lit (.bool true)], args := [d1, d2, d3] }
  | _ => none }
def fnIsWordSplitsAtEveryCutRow : OpenClaim := { program := "qxb6603306a", sum := "3e66c06d38f76ef92015e7d15d957b51c0698b6a8010e298dfaf7796fd842e41", func := "example.com/quorumweave/quorumweave/zzlaws_root_b1.FnIsWordSplitsAtEveryCut", spec := "fnIsWordSplitsAtEveryCut", inPlace := ["internal/bytealg.IndexByteString"], apart := false }
def FnIsWordSplitsAtEveryCutSaid : Prop := fnIsWordSplitsAtEveryCutRow.holds Try.pinned (OpenSpec.ofChange fnIsWordSplitsAtEveryCutSpec)

/-- ITS FALSE NEIGHBOUR: 'it returns false'. Refute it at one input. -/
def fnIsWordSplitsAtEveryCutWrong : ChangeSpec := { name := "fnIsWordSplitsAtEveryCut", fn := fun _ => fun
  | [d1, d2, d3] => { results := [.lit (.bool false)], args := [d1, d2, d3] }
  | _ => none }
def FnIsWordSplitsAtEveryCutWrongFalsely : Prop := fnIsWordSplitsAtEveryCutRow.holds Try.pinned (OpenSpec.ofChange fnIsWordSplitsAtEveryCutWrong)

/-- 'zzlaws_root_b1.FnIsWordWidens': WHATEVER THE INPUT: true; the input reads as it did. -/
def fnIsWordWidensSpec : ChangeSpec := { name := "fnIsWordWidens", fn := fun _ => fun
  | [d1, d2, d3, d4, d5] => { results := [.lit (.bool true)], args := [d1, d2, d3, d4, d5] }
  | _ => none }
def fnIsWordWidensRow : OpenClaim := { program := "qxb6603306a", sum := "3e66c06d38f76ef92015e7d15d957b51c0698b6a8010e298dfaf7796fd842e41", func := "example.com/quorumweave/quorumweave/zzlaws_root_b1.FnIsWordWidens", spec := "fnIsWordWidens", inPlace := ["internal/bytealg.IndexByteString"], apart := false }
def FnIsWordWidensSaid : Prop := fnIsWordWidensRow.holds Try.pinned (OpenSpec.ofChange fnIsWordWidensSpec)

/-- ITS FALSE NEIGHBOUR: 'it returns false'. Refute it at one input. -/
def fnIsWordWidensWrong : ChangeSpec := { name := "fnIsWordWidens", fn := fun _ => fun
  | [d1, d2, d3, d4, d5] => { results := [.lit (.bool false)], args := [d1, d2, d3, d4, d5] }
  | _ => none }
def FnIsWordWidensWrongFalsely : Prop := fnIsWordWidensRow.holds Try.pinned (OpenSpec.ofChange fnIsWordWidensWrong)

/-- 'zzlaws_root_b1.FnWeightOfSumsDistinctMembers': WHATEVER THE INPUT: true; the input reads as it did. -/
def fnWeightOfSumsDistinctMembersSpec : ChangeSpec := { name := "fnWeightOfSumsDistinctMembers", fn := fun _ => fun
  | [d1, d2] => { results := [.lit (.bool true)], args := [d1, d2] }
  | _ => none }
def fnWeightOfSumsDistinctMembersRow : OpenClaim := { program := "qxb6603306a", sum := "3e66c06d38f76ef92015e7d15d957b51c0698b6a8010e298dfaf7796fd842e41", func := "example.com/quorumweave/quorumweave/zzlaws_root_b1.FnWeightOfSumsDistinctMembers", spec := "fnWeightOfSumsDistinctMembers", maps := true, apart := false }
def FnWeightOfSumsDistinctMembersSaid : Prop := fnWeightOfSumsDistinctMembersRow.holds Try.pinned (OpenSpec.ofChange fnWeightOfSumsDistinctMembersSpec)

/-- ITS FALSE NEIGHBOUR: 'it returns false'. Refute it at one input. -/
def fnWeightOfSumsDistinctMembersWrong : ChangeSpec := { name := "fnWeightOfSumsDistinctMembers", fn := fun _ => fun
  | [d1, d2] => { results := [.lit (.bool false)], args := [d1, d2] }
  | _ => none }
def FnWeightOfSumsDistinctMembersWrongFalsely : Prop := fnWeightOfSumsDistinctMembersRow.holds Try.pinned (OpenSpec.ofChange fnWeightOfSumsDistinctMembersWrong)

/-- 'zzlaws_root_b1.FnWeightOfIgnoresOrderAndRepeats': WHATEVER THE INPUT: true; the input reads as it did. -/
def fnWeightOfIgnoresOrderAndRepeatsSpec : ChangeSpec := { name := "fnWeightOfIgnoresOrderAndRepeats", fn := fun _ => fun
  | [d1, d2] => { results := [.lit (.bool true)], args := [d1, d2] }
  | _ => none }
def fnWeightOfIgnoresOrderAndRepeatsRow : OpenClaim := { program := "qxb6603306a", sum := "3e66c06d38f76ef92015e7d15d957b51c0698b6a8010e298dfaf7796fd842e41", func := "example.com/quorumweave/quorumweave/zzlaws_root_b1.FnWeightOfIgnoresOrderAndRepeats", spec := "fnWeightOfIgnoresOrderAndRepeats", maps := true, apart := false }
def FnWeightOfIgnoresOrderAndRepeatsSaid : Prop := fnWeightOfIgnoresOrderAndRepeatsRow.holds Try.pinned (OpenSpec.ofChange fnWeightOfIgnoresOrderAndRepeatsSpec)

/-- ITS FALSE NEIGHBOUR: 'it returns false'. Refute it at one input. -/
def fnWeightOfIgnoresOrderAndRepeatsWrong : ChangeSpec := { name := "fnWeightOfIgnoresOrderAndRepeats", fn := fun _ => fun
  | [d1, d2] => { results := [.lit (.bool false)], args := [d1, d2] }
  | _ => none }
def FnWeightOfIgnoresOrderAndRepeatsWrongFalsely : Prop := fnWeightOfIgnoresOrderAndRepeatsRow.holds Try.pinned (OpenSpec.ofChange fnWeightOfIgnoresOrderAndRepeatsWrong)

/-- 'zzlaws_root_b1.FnWeightOfGrowsWithMembers': WHATEVER THE INPUT: true; the input reads as it did. -/
def fnWeightOfGrowsWithMembersSpec : ChangeSpec := { name := "fnWeightOfGrowsWithMembers", fn := fun _ => fun
  | [d1, d2, d3] => { results := [.lit (.bool true)], args := [d1, d2, d3] }
  | _ => none }
def fnWeightOfGrowsWithMembersRow : OpenClaim := { program := "qxb6603306a", sum := "3e66c06d38f76ef92015e7d15d957b51c0698b6a8010e298dfaf7796fd842e41", func := "example.com/quorumweave/quorumweave/zzlaws_root_b1.FnWeightOfGrowsWithMembers", spec := "fnWeightOfGrowsWithMembers", maps := true, apart := false }
def FnWeightOfGrowsWithMembersSaid : Prop := fnWeightOfGrowsWithMembersRow.holds Try.pinned (OpenSpec.ofChange fnWeightOfGrowsWithMembersSpec)

/-- ITS FALSE NEIGHBOUR: 'it returns false'. Refute it at one input. -/
def fnWeightOfGrowsWithMembersWrong : ChangeSpec := { name := "fnWeightOfGrowsWithMembers", fn := fun _ => fun
  | [d1, d2, d3] => { results := [.lit (.bool false)], args := [d1, d2, d3] }
  | _ => none }
def FnWeightOfGrowsWithMembersWrongFalsely : Prop := fnWeightOfGrowsWithMembersRow.holds Try.pinned (OpenSpec.ofChange fnWeightOfGrowsWithMembersWrong)

/-- 'zzlaws_root_b1.FnTagLessIsStrictTotal': WHATEVER THE INPUT: true; the input reads as it did. -/
def fnTagLessIsStrictTotalSpec : ChangeSpec := { name := "fnTagLessIsStrictTotal", fn := fun _ => fun
  | [d1, d2, d3, d4, d5, d6] => { results := [.lit (.bool true)], args := [d1, d2, d3, d4, d5, d6] }
  | _ => none }
def fnTagLessIsStrictTotalRow : OpenClaim := { program := "qxb6603306a", sum := "3e66c06d38f76ef92015e7d15d957b51c0698b6a8010e298dfaf7796fd842e41", func := "example.com/quorumweave/quorumweave/zzlaws_root_b1.FnTagLessIsStrictTotal", spec := "fnTagLessIsStrictTotal", apart := false }
def FnTagLessIsStrictTotalSaid : Prop := fnTagLessIsStrictTotalRow.holds Try.pinned (OpenSpec.ofChange fnTagLessIsStrictTotalSpec)

/-- ITS FALSE NEIGHBOUR: 'it returns false'. Refute it at one input. -/
def fnTagLessIsStrictTotalWrong : ChangeSpec := { name := "fnTagLessIsStrictTotal", fn := fun _ => fun
  | [d1, d2, d3, d4, d5, d6] => { results := [.lit (.bool false)], args := [d1, d2, d3, d4, d5, d6] }
  | _ => none }
def FnTagLessIsStrictTotalWrongFalsely : Prop := fnTagLessIsStrictTotalRow.holds Try.pinned (OpenSpec.ofChange fnTagLessIsStrictTotalWrong)

/-- 'zzlaws_root_b1.FnTagLessIsTransitive': WHATEVER THE INPUT: true; the input reads as it did. -/
def fnTagLessIsTransitiveSpec : ChangeSpec := { name := "fnTagLessIsTransitive", fn := fun _ => fun
  | [d1, d2, d3, d4, d5, d6, d7, d8, d9] => { results := [.lit (.bool true)], args := [d1, d2, d3, d4, d5, d6, d7, d8, d9] }
  | _ => none }
def fnTagLessIsTransitiveRow : OpenClaim := { program := "qxb6603306a", sum := "3e66c06d38f76ef92015e7d15d957b51c0698b6a8010e298dfaf7796fd842e41", func := "example.com/quorumweave/quorumweave/zzlaws_root_b1.FnTagLessIsTransitive", spec := "fnTagLessIsTransitive", apart := false }
def FnTagLessIsTransitiveSaid : Prop := fnTagLessIsTransitiveRow.holds Try.pinned (OpenSpec.ofChange fnTagLessIsTransitiveSpec)

/-- ITS FALSE NEIGHBOUR: 'it returns false'. Refute it at one input. -/
def fnTagLessIsTransitiveWrong : ChangeSpec := { name := "fnTagLessIsTransitive", fn := fun _ => fun
  | [d1, d2, d3, d4, d5, d6, d7, d8, d9] => { results := [.lit (.bool false)], args := [d1, d2, d3, d4, d5, d6, d7, d8, d9] }
  | _ => none }
def FnTagLessIsTransitiveWrongFalsely : Prop := fnTagLessIsTransitiveRow.holds Try.pinned (OpenSpec.ofChange fnTagLessIsTransitiveWrong)

end Rows
end Go.Proofs.Qxb6603306a
