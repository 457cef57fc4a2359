/-
  No cell of these rows narrows 'for every input' (looked for: loops, veiled, ifaces, maps, wideKeys, modest, calm, conditions, laid).
  DERIVED. THE GIVEN ROWS OF THIS SEAT. 8 by the template 'for every input the law returns true; each argument reads behind the call as it read before'; 0 by the template 'total and deterministic' (their statements: Qxb6600817aTotals.lean).
  GIVEN WITH THE SEED: the statements are not yours to turn. If you find one false, say at which input.
  Laid BY PROGRAM, IN A SANDBOX (cutbox-rows.mjs): the forced cells as the released guide's own fill.sh prints them over the translation d22d2e07b7910838… (all of the seat's roots in one cut). By AI agents, Wed Nov 11 2026. No macro, syntax, notation, axiom, sorry.
-/
import Derived.Test.Qxb6600817aChecked
import GoSem.Claim
import GoSem.ClaimJoined
import GoSem.ClaimMapViews
import Derived.JoinedTies
import Derived.KernelRfl
namespace Go.Proofs.Qxb6600817a
/- THE CELL 'sum', in the pinned program and in every row, IS THE sha256 OF THE DUMP (.gsa) THAT Qxb6600817aProg.lean LOADS. Nothing in Lean hashes anything: it is a label: what it is worth is what the hold of that sum in a sandbox is worth. -/
noncomputable def Try.pinned : Pinned := { name := "qxb6600817a", sum := "d22d2e07b791083882b375fad4906ed2a3304b8356e4af2fe7104f108ad55e14", checked := Try.checked }
namespace Rows
def none {H : Type} : Left H := { results := [], args := [] }

/-- 'zzlaws_internal_jsonhttp_b1.FnJsonKindOfGoKindsBesideInterface': WHATEVER THE INPUT: true; the input reads as it did. -/
def fnJsonKindOfGoKindsBesideInterfaceSpec : ChangeSpec := { name := "fnJsonKindOfGoKindsBesideInterface", fn := fun _ => fun
  | [d] => { results := [.lit (.bool true)], args := [d] }
  | _ => none }
def fnJsonKindOfGoKindsBesideInterfaceRow : OpenClaim := { program := "qxb6600817a", sum := "d22d2e07b791083882b375fad4906ed2a3304b8356e4af2fe7104f108ad55e14", func := "example.com/cyclewright/cyclewright/zzlaws_internal_jsonhttp_b1.FnJsonKindOfGoKindsBesideInterface", spec := "fnJsonKindOfGoKindsBesideInterface", apart := false }
def FnJsonKindOfGoKindsBesideInterfaceSaid : Prop := fnJsonKindOfGoKindsBesideInterfaceRow.holds Try.pinned (OpenSpec.ofChange fnJsonKindOfGoKindsBesideInterfaceSpec)

/-- ITS FALSE NEIGHBOUR: 'it returns false'. Refute it at one input. -/
def fnJsonKindOfGoKindsBesideInterfaceWrong : ChangeSpec := { name := "fnJsonKindOfGoKindsBesideInterface", fn := fun _ => fun
  | [d] => { results := [.lit (.bool false)], args := [d] }
  | _ => none }
def FnJsonKindOfGoKindsBesideInterfaceWrongFalsely : Prop := fnJsonKindOfGoKindsBesideInterfaceRow.holds Try.pinned (OpenSpec.ofChange fnJsonKindOfGoKindsBesideInterfaceWrong)

/-- 'zzlaws_internal_jsonhttp_b1.FnJsonKindUnderExtension': WHATEVER THE INPUT: true; the input reads as it did. -/
def fnJsonKindUnderExtensionSpec : ChangeSpec := { name := "fnJsonKindUnderExtension", fn := fun _ => fun
  | [d1, d2] => { results := [.lit (.bool true)], args := [d1, d2] }
  | _ => none }
def fnJsonKindUnderExtensionRow : OpenClaim := { program := "qxb6600817a", sum := "d22d2e07b791083882b375fad4906ed2a3304b8356e4af2fe7104f108ad55e14", func := "example.com/cyclewright/cyclewright/zzlaws_internal_jsonhttp_b1.FnJsonKindUnderExtension", spec := "fnJsonKindUnderExtension", apart := false }
def FnJsonKindUnderExtensionSaid : Prop := fnJsonKindUnderExtensionRow.holds Try.pinned (OpenSpec.ofChange fnJsonKindUnderExtensionSpec)

/-- ITS FALSE NEIGHBOUR: 'it returns false'. Refute it at one input. -/
def fnJsonKindUnderExtensionWrong : ChangeSpec := { name := "fnJsonKindUnderExtension", fn := fun _ => fun
  | [d1, d2] => { results := [.lit (.bool false)], args := [d1, d2] }
  | _ => none }
def FnJsonKindUnderExtensionWrongFalsely : Prop := fnJsonKindUnderExtensionRow.holds Try.pinned (OpenSpec.ofChange fnJsonKindUnderExtensionWrong)

/-- 'zzlaws_internal_jsonhttp_b1.FnNextMatchesBackwardScan': WHATEVER THE INPUT: true; the input reads as it did. -/
def fnNextMatchesBackwardScanSpec : ChangeSpec := { name := "fnNextMatchesBackwardScan", fn := fun _ => fun
  | [d1, d2] => { results := [.lit (.bool true)], args := [d1, d2] }
  | _ => none }
def fnNextMatchesBackwardScanRow : OpenClaim := { program := "qxb6600817a", sum := "d22d2e07b791083882b375fad4906ed2a3304b8356e4af2fe7104f108ad55e14", func := "example.com/cyclewright/cyclewright/zzlaws_internal_jsonhttp_b1.FnNextMatchesBackwardScan", spec := "fnNextMatchesBackwardScan", apart := false }
def FnNextMatchesBackwardScanSaid : Prop := fnNextMatchesBackwardScanRow.holds Try.pinned (OpenSpec.ofChange fnNextMatchesBackwardScanSpec)

/-- ITS FALSE NEIGHBOUR: 'it returns false'. Refute it at one input. -/
def fnNextMatchesBackwardScanWrong : ChangeSpec := { name := "fnNextMatchesBackwardScan", fn := fun _ => fun
  | [d1, d2] => { results := [.lit (.bool false)], args := [d1, d2] }
  | _ => none }
def FnNextMatchesBackwardScanWrongFalsely : Prop := fnNextMatchesBackwardScanRow.holds Try.pinned (OpenSpec.ofChange fnNextMatchesBackwardScanWrong)

/-- 'zzlaws_internal_jsonhttp_b1.FnNextIsIdempotent': WHATEVER THE INPUT: true; the input reads as it did. -/
def fnNextIsIdempotentSpec : ChangeSpec := { name := "fnNextIsIdempotent", fn := fun _ => fun
  | [d1, d2] => { results := [.lit (.bool true)], args := [d1, d2] }
  | _ => none }
def fnNextIsIdempotentRow : OpenClaim := { program := "qxb6600817a", sum := "d22d2e07b791083882b375fad4906ed2a3304b8356e4af2fe7104f108ad55e14", func := "example.com/cyclewright/cyclewright/zzlaws_internal_jsonhttp_b1.FnNextIsIdempotent", spec := "fnNextIsIdempotent", apart := false }
def FnNextIsIdempotentSaid : Prop := fnNextIsIdempotentRow.holds Try.pinned (OpenSpec.ofChange fnNextIsIdempotentSpec)

/-- ITS FALSE NEIGHBOUR: 'it returns false'. Refute it at one input. -/
def fnNextIsIdempotentWrong : ChangeSpec := { name := "fnNextIsIdempotent", fn := fun _ => fun
  | [d1, d2] => { results := [.lit (.bool false)], args := [d1, d2] }
  | _ => none }
def FnNextIsIdempotentWrongFalsely : Prop := fnNextIsIdempotentRow.holds Try.pinned (OpenSpec.ofChange fnNextIsIdempotentWrong)

/-- 'zzlaws_internal_jsonhttp_b1.FnNextIgnoresInsertedWhitespace': WHATEVER THE INPUT: true; the input reads as it did. -/
def fnNextIgnoresInsertedWhitespaceSpec : ChangeSpec := { name := "fnNextIgnoresInsertedWhitespace", fn := fun _ => fun
  | [d1, d2, d3] => { results := [.lit (.bool true)], args := [d1, d2, d3] }
  | _ => none }
def fnNextIgnoresInsertedWhitespaceRow : OpenClaim := { program := "qxb6600817a", sum := "d22d2e07b791083882b375fad4906ed2a3304b8356e4af2fe7104f108ad55e14", func := "example.com/cyclewright/cyclewright/zzlaws_internal_jsonhttp_b1.FnNextIgnoresInsertedWhitespace", spec := "fnNextIgnoresInsertedWhitespace", apart := false }
def FnNextIgnoresInsertedWhitespaceSaid : Prop := fnNextIgnoresInsertedWhitespaceRow.holds Try.pinned (OpenSpec.ofChange fnNextIgnoresInsertedWhitespaceSpec)

/-- ITS FALSE NEIGHBOUR: 'it returns false'. Refute it at one input. -/
def fnNextIgnoresInsertedWhitespaceWrong : ChangeSpec := { name := "fnNextIgnoresInsertedWhitespace", fn := fun _ => fun
  | [d1, d2, d3] => { results := [.lit (.bool false)], args := [d1, d2, d3] }
  | _ => none }
def FnNextIgnoresInsertedWhitespaceWrongFalsely : Prop := fnNextIgnoresInsertedWhitespaceRow.holds Try.pinned (OpenSpec.ofChange fnNextIgnoresInsertedWhitespaceWrong)

/-- 'zzlaws_internal_jsonhttp_b1.FnOpenMatchesModel': WHATEVER THE INPUT: true; the input reads as it did. -/
def fnOpenMatchesModelSpec : ChangeSpec := { name := "fnOpenMatchesModel", fn := fun _ => fun
  | [d1, d2, d3] => { results := [.lit (.bool true)], args := [d1, d2, d3] }
  | _ => none }
def fnOpenMatchesModelRow : OpenClaim := { program := "qxb6600817a", sum := "d22d2e07b791083882b375fad4906ed2a3304b8356e4af2fe7104f108ad55e14", func := "example.com/cyclewright/cyclewright/zzlaws_internal_jsonhttp_b1.FnOpenMatchesModel", spec := "fnOpenMatchesModel", apart := false }
def FnOpenMatchesModelSaid : Prop := fnOpenMatchesModelRow.holds Try.pinned (OpenSpec.ofChange fnOpenMatchesModelSpec)

/-- ITS FALSE NEIGHBOUR: 'it returns false'. Refute it at one input. -/
def fnOpenMatchesModelWrong : ChangeSpec := { name := "fnOpenMatchesModel", fn := fun _ => fun
  | [d1, d2, d3] => { results := [.lit (.bool false)], args := [d1, d2, d3] }
  | _ => none }
def FnOpenMatchesModelWrongFalsely : Prop := fnOpenMatchesModelRow.holds Try.pinned (OpenSpec.ofChange fnOpenMatchesModelWrong)

/-- 'zzlaws_internal_jsonhttp_b1.FnOpenSkipsOnlyWhitespace': WHATEVER THE INPUT: true; the input reads as it did. -/
def fnOpenSkipsOnlyWhitespaceSpec : ChangeSpec := { name := "fnOpenSkipsOnlyWhitespace", fn := fun _ => fun
  | [d1, d2, d3] => { results := [.lit (.bool true)], args := [d1, d2, d3] }
  | _ => none }
def fnOpenSkipsOnlyWhitespaceRow : OpenClaim := { program := "qxb6600817a", sum := "d22d2e07b791083882b375fad4906ed2a3304b8356e4af2fe7104f108ad55e14", func := "example.com/cyclewright/cyclewright/zzlaws_internal_jsonhttp_b1.FnOpenSkipsOnlyWhitespace", spec := "fnOpenSkipsOnlyWhitespace", apart := false }
def FnOpenSkipsOnlyWhitespaceSaid : Prop := fnOpenSkipsOnlyWhitespaceRow.holds Try.pinned (OpenSpec.ofChange fnOpenSkipsOnlyWhitespaceSpec)

/-- ITS FALSE NEIGHBOUR: 'it returns false'. Refute it at one input. -/
def fnOpenSkipsOnlyWhitespaceWrong : ChangeSpec := { name := "fnOpenSkipsOnlyWhitespace", fn := fun _ => fun
  | [d1, d2, d3] => { results := [.lit (.bool false)], args := [d1, d2, d3] }
  | _ => none }
def FnOpenSkipsOnlyWhitespaceWrongFalsely : Prop := fnOpenSkipsOnlyWhitespaceRow.holds Try.pinned (OpenSpec.ofChange fnOpenSkipsOnlyWhitespaceWrong)

/-- 'zzlaws_internal_jsonhttp_b1.FnOpenIgnoresWhitespaceAfterBracket': WHATEVER THE INPUT: true; the input reads as it did. -/
def fnOpenIgnoresWhitespaceAfterBracketSpec : ChangeSpec := { name := "fnOpenIgnoresWhitespaceAfterBracket", fn := fun _ => fun
  | [d1, d2, d3, d4] => { results := [.lit (.bool true)], args := [d1, d2, d3, d4] }
  | _ => none }
def fnOpenIgnoresWhitespaceAfterBracketRow : OpenClaim := { program := "qxb6600817a", sum := "d22d2e07b791083882b375fad4906ed2a3304b8356e4af2fe7104f108ad55e14", func := "example.com/cyclewright/cyclewright/zzlaws_internal_jsonhttp_b1.FnOpenIgnoresWhitespaceAfterBracket", spec := "fnOpenIgnoresWhitespaceAfterBracket", apart := false }
def FnOpenIgnoresWhitespaceAfterBracketSaid : Prop := fnOpenIgnoresWhitespaceAfterBracketRow.holds Try.pinned (OpenSpec.ofChange fnOpenIgnoresWhitespaceAfterBracketSpec)

/-- ITS FALSE NEIGHBOUR: 'it returns false'. Refute it at one input. -/
def fnOpenIgnoresWhitespaceAfterBracketWrong : ChangeSpec := { name := "fnOpenIgnoresWhitespaceAfterBracket", fn := fun _ => fun
  | [d1, d2, d3, d4] => { results := [.lit (.bool false)], args := [d1, d2, d3, d4] }
  | _ => none }
def FnOpenIgnoresWhitespaceAfterBracketWrongFalsely : Prop := fnOpenIgnoresWhitespaceAfterBracketRow.holds Try.pinned (OpenSpec.ofChange fnOpenIgnoresWhitespaceAfterBracketWrong)

end Rows
end Go.Proofs.Qxb6600817a
