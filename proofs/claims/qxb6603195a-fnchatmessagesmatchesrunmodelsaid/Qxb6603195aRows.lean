/-
  No cell of these rows narrows 'for every input' (looked for: loops, veiled, ifaces, maps, wideKeys, modest, calm, conditions, laid).
  DERIVED. THE GIVEN ROWS OF THIS SEAT. 5 by the template 'for every input the law returns true; each argument reads behind the call as it read before'; 0 by the template 'total and deterministic' (their statements: Qxb6603195aTotals.lean).
  GIVEN WITH THE SEED: the statements are not yours to turn. If you find one false, say at which input.
  Laid BY PROGRAM, IN A SANDBOX (cutbox-rows.mjs): the forced cells as the released guide's own fill.sh prints them over the translation 69ddbc9e498c1781… (all of the seat's roots in one cut). By AI agents, Wed Nov 11 2026. No macro, syntax, notation, axiom, sorry.
-/
import Derived.Test.Qxb6603195aChecked
import GoSem.Claim
import GoSem.ClaimJoined
import GoSem.ClaimMapViews
import Derived.JoinedTies
import Derived.KernelRfl
namespace Go.Proofs.Qxb6603195a
/- THE CELL 'sum', in the pinned program and in every row, IS THE sha256 OF THE DUMP (.gsa) THAT Qxb6603195aProg.lean LOADS. Nothing in Lean hashes anything: it is a label: what it is worth is what the hold of that sum in a sandbox is worth. -/
noncomputable def Try.pinned : Pinned := { name := "qxb6603195a", sum := "69ddbc9e498c1781e66207c77cf4d1997d8d1a1e7409f36da7e0379e6db96b49", checked := Try.checked }
namespace Rows
def none {H : Type} : Left H := { results := [], args := [] }

/-- 'zzlaws_pkg_llm_b1.FnCallBuilderAddReturnsWhatCallsHold': WHATEVER THE INPUT: true; the input reads as it did. -/
def fnCallBuilderAddReturnsWhatCallsHoldSpec : ChangeSpec := { name := "fnCallBuilderAddReturnsWhatCallsHold", fn := fun _ => fun
  | [d] => { results := [.lit (.bool true)], args := [d] }
  | _ => none }
def fnCallBuilderAddReturnsWhatCallsHoldRow : OpenClaim := { program := "qxb6603195a", sum := "69ddbc9e498c1781e66207c77cf4d1997d8d1a1e7409f36da7e0379e6db96b49", func := "example.com/gatewai/gatewai/zzlaws_pkg_llm_b1.FnCallBuilderAddReturnsWhatCallsHold", spec := "fnCallBuilderAddReturnsWhatCallsHold", inPlace := ["internal/abi.NoEscape"], apart := false }
def FnCallBuilderAddReturnsWhatCallsHoldSaid : Prop := fnCallBuilderAddReturnsWhatCallsHoldRow.holds Try.pinned (OpenSpec.ofChange fnCallBuilderAddReturnsWhatCallsHoldSpec)

/-- ITS FALSE NEIGHBOUR: 'it returns false'. Refute it at one input. -/
def fnCallBuilderAddReturnsWhatCallsHoldWrong : ChangeSpec := { name := "fnCallBuilderAddReturnsWhatCallsHold", fn := fun _ => fun
  | [d] => { results := [.lit (.bool false)], args := [d] }
  | _ => none }
def FnCallBuilderAddReturnsWhatCallsHoldWrongFalsely : Prop := fnCallBuilderAddReturnsWhatCallsHoldRow.holds Try.pinned (OpenSpec.ofChange fnCallBuilderAddReturnsWhatCallsHoldWrong)

/-- 'zzlaws_pkg_llm_b1.FnAlternatingMatchesRunModel': WHATEVER THE INPUT: true; the input reads as it did. -/
def fnAlternatingMatchesRunModelSpec : ChangeSpec := { name := "fnAlternatingMatchesRunModel", fn := fun _ => fun
  | [d] => { results := [.lit (.bool true)], args := [d] }
  | _ => none }
def fnAlternatingMatchesRunModelRow : OpenClaim := { program := "qxb6603195a", sum := "69ddbc9e498c1781e66207c77cf4d1997d8d1a1e7409f36da7e0379e6db96b49", func := "example.com/gatewai/gatewai/zzlaws_pkg_llm_b1.FnAlternatingMatchesRunModel", spec := "fnAlternatingMatchesRunModel", inPlace := ["internal/abi.NoEscape", "internal/bytealg.MakeNoZero"], unfollowed := true, recurses := true, apart := false }
def FnAlternatingMatchesRunModelSaid : Prop := fnAlternatingMatchesRunModelRow.holds Try.pinned (OpenSpec.ofChange fnAlternatingMatchesRunModelSpec)

/-- ITS FALSE NEIGHBOUR: 'it returns false'. Refute it at one input. -/
def fnAlternatingMatchesRunModelWrong : ChangeSpec := { name := "fnAlternatingMatchesRunModel", fn := fun _ => fun
  | [d] => { results := [.lit (.bool false)], args := [d] }
  | _ => none }
def FnAlternatingMatchesRunModelWrongFalsely : Prop := fnAlternatingMatchesRunModelRow.holds Try.pinned (OpenSpec.ofChange fnAlternatingMatchesRunModelWrong)

/-- 'zzlaws_pkg_llm_b1.FnAlternatingIsIdempotent': WHATEVER THE INPUT: true; the input reads as it did. -/
def fnAlternatingIsIdempotentSpec : ChangeSpec := { name := "fnAlternatingIsIdempotent", fn := fun _ => fun
  | [d] => { results := [.lit (.bool true)], args := [d] }
  | _ => none }
def fnAlternatingIsIdempotentRow : OpenClaim := { program := "qxb6603195a", sum := "69ddbc9e498c1781e66207c77cf4d1997d8d1a1e7409f36da7e0379e6db96b49", func := "example.com/gatewai/gatewai/zzlaws_pkg_llm_b1.FnAlternatingIsIdempotent", spec := "fnAlternatingIsIdempotent", inPlace := ["internal/abi.NoEscape", "internal/bytealg.MakeNoZero"], unfollowed := true, recurses := true, apart := false }
def FnAlternatingIsIdempotentSaid : Prop := fnAlternatingIsIdempotentRow.holds Try.pinned (OpenSpec.ofChange fnAlternatingIsIdempotentSpec)

/-- ITS FALSE NEIGHBOUR: 'it returns false'. Refute it at one input. -/
def fnAlternatingIsIdempotentWrong : ChangeSpec := { name := "fnAlternatingIsIdempotent", fn := fun _ => fun
  | [d] => { results := [.lit (.bool false)], args := [d] }
  | _ => none }
def FnAlternatingIsIdempotentWrongFalsely : Prop := fnAlternatingIsIdempotentRow.holds Try.pinned (OpenSpec.ofChange fnAlternatingIsIdempotentWrong)

/-- 'zzlaws_pkg_llm_b1.FnChatMessagesMatchesRunModel': WHATEVER THE INPUT: true; the input reads as it did. -/
def fnChatMessagesMatchesRunModelSpec : ChangeSpec := { name := "fnChatMessagesMatchesRunModel", fn := fun _ => fun
  | [d] => { results := [.lit (.bool true)], args := [d] }
  | _ => none }
def fnChatMessagesMatchesRunModelRow : OpenClaim := { program := "qxb6603195a", sum := "69ddbc9e498c1781e66207c77cf4d1997d8d1a1e7409f36da7e0379e6db96b49", func := "example.com/gatewai/gatewai/zzlaws_pkg_llm_b1.FnChatMessagesMatchesRunModel", spec := "fnChatMessagesMatchesRunModel", inPlace := ["internal/abi.NoEscape", "internal/bytealg.MakeNoZero"], unfollowed := true, recurses := true, apart := false }
def FnChatMessagesMatchesRunModelSaid : Prop := fnChatMessagesMatchesRunModelRow.holds Try.pinned (OpenSpec.ofChange fnChatMessagesMatchesRunModelSpec)

/-- ITS FALSE NEIGHBOUR: 'it returns false'. Refute it at one input. -/
def fnChatMessagesMatchesRunModelWrong : ChangeSpec := { name := "fnChatMessagesMatchesRunModel", fn := fun _ => fun
  | [d] => { results := [.lit (.bool false)], args := [d] }
  | _ => none }
def FnChatMessagesMatchesRunModelWrongFalsely : Prop := fnChatMessagesMatchesRunModelRow.holds Try.pinned (OpenSpec.ofChange fnChatMessagesMatchesRunModelWrong)

/-- 'zzlaws_pkg_llm_b1.FnChatMessagesIgnoresPriorJoining': WHATEVER THE INPUT: true; the input reads as it did. -/
def fnChatMessagesIgnoresPriorJoiningSpec : ChangeSpec := { name := "fnChatMessagesIgnoresPriorJoining", fn := fun _ => fun
  | [d] => { results := [.lit (.bool true)], args := [d] }
  | _ => none }
def fnChatMessagesIgnoresPriorJoiningRow : OpenClaim := { program := "qxb6603195a", sum := "69ddbc9e498c1781e66207c77cf4d1997d8d1a1e7409f36da7e0379e6db96b49", func := "example.com/gatewai/gatewai/zzlaws_pkg_llm_b1.FnChatMessagesIgnoresPriorJoining", spec := "fnChatMessagesIgnoresPriorJoining", inPlace := ["internal/abi.NoEscape", "internal/bytealg.MakeNoZero"], unfollowed := true, recurses := true, apart := false }
def FnChatMessagesIgnoresPriorJoiningSaid : Prop := fnChatMessagesIgnoresPriorJoiningRow.holds Try.pinned (OpenSpec.ofChange fnChatMessagesIgnoresPriorJoiningSpec)

/-- ITS FALSE NEIGHBOUR: 'it returns false'. Refute it at one input. -/
def fnChatMessagesIgnoresPriorJoiningWrong : ChangeSpec := { name := "fnChatMessagesIgnoresPriorJoining", fn := fun _ => fun
  | [d] => { results := [.lit (.bool false)], args := [d] }
  | _ => none }
def FnChatMessagesIgnoresPriorJoiningWrongFalsely : Prop := fnChatMessagesIgnoresPriorJoiningRow.holds Try.pinned (OpenSpec.ofChange fnChatMessagesIgnoresPriorJoiningWrong)

end Rows
end Go.Proofs.Qxb6603195a
