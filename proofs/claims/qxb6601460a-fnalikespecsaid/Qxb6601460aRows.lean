/-
  No cell of these rows narrows 'for every input' (looked for: loops, veiled, ifaces, maps, wideKeys, modest, calm, conditions, laid).
  DERIVED. THE GIVEN ROWS OF THIS SEAT. 4 by the template 'for every input the law returns true; each argument reads behind the call as it read before'; 0 by the template 'total and deterministic' (their statements: Qxb6601460aTotals.lean).
  GIVEN WITH THE SEED: the statements are not yours to turn. If you find one false, say at which input.
  Laid BY PROGRAM, IN A SANDBOX (cutbox-rows.mjs): the forced cells as the released guide's own fill.sh prints them over the translation c3b674ffae5062bc… (all of the seat's roots in one cut). By AI agents, Wed Nov 11 2026. No macro, syntax, notation, axiom, sorry.
-/
import Derived.Test.Qxb6601460aChecked
import GoSem.Claim
import GoSem.ClaimJoined
import GoSem.ClaimMapViews
import Derived.JoinedTies
import Derived.KernelRfl
namespace Go.Proofs.Qxb6601460a
/- THE CELL 'sum', in the pinned program and in every row, IS THE sha256 OF THE DUMP (.gsa) THAT Qxb6601460aProg.lean LOADS. Nothing in Lean hashes anything: it is a label: what it is worth is what the hold of that sum in a sandbox is worth. -/
noncomputable def Try.pinned : Pinned := { name := "qxb6601460a", sum := "c3b674ffae5062bc3feb094c06310abfa81ba29fc7e87cd913108f836f8b4c91", checked := Try.checked }
namespace Rows
def none {H : Type} : Left H := { results := [], args := [] }

/-- 'zzlaws_internal_compare_b1.FnAlikeSpec': WHATEVER THE INPUT: true; the input reads as it did. -/
def fnAlikeSpecSpec : ChangeSpec := { name := "fnAlikeSpec", fn := fun _ => fun
  | [d1, d2] => { results := [.lit (.bool true)], args := [d1, d2] }
  | _ => none }
def fnAlikeSpecRow : OpenClaim := { program := "qxb6601460a", sum := "c3b674ffae5062bc3feb094c06310abfa81ba29fc7e87cd913108f836f8b4c91", func := "example.com/tideshift/tideshift/zzlaws_internal_compare_b1.FnAlikeSpec", spec := "fnAlikeSpec", apart := false }
def FnAlikeSpecSaid : Prop := fnAlikeSpecRow.holds Try.pinned (OpenSpec.ofChange fnAlikeSpecSpec)

/-- ITS FALSE NEIGHBOUR: 'it returns false'. Refute it at one input. -/
def fnAlikeSpecWrong : ChangeSpec := { name := "fnAlikeSpec", fn := fun _ => fun
  | [d1, d2] => { results := [.lit (.bool false)], args := [d1, d2] }
  | _ => none }
def FnAlikeSpecWrongFalsely : Prop := fnAlikeSpecRow.holds Try.pinned (OpenSpec.ofChange fnAlikeSpecWrong)

/-- 'zzlaws_internal_compare_b1.FnAlikeSymmetricReflexive': WHATEVER THE INPUT: true; the input reads as it did. -/
def fnAlikeSymmetricReflexiveSpec : ChangeSpec := { name := "fnAlikeSymmetricReflexive", fn := fun _ => fun
  | [d1, d2] => { results := [.lit (.bool true)], args := [d1, d2] }
  | _ => none }
def fnAlikeSymmetricReflexiveRow : OpenClaim := { program := "qxb6601460a", sum := "c3b674ffae5062bc3feb094c06310abfa81ba29fc7e87cd913108f836f8b4c91", func := "example.com/tideshift/tideshift/zzlaws_internal_compare_b1.FnAlikeSymmetricReflexive", spec := "fnAlikeSymmetricReflexive", apart := false }
def FnAlikeSymmetricReflexiveSaid : Prop := fnAlikeSymmetricReflexiveRow.holds Try.pinned (OpenSpec.ofChange fnAlikeSymmetricReflexiveSpec)

/-- ITS FALSE NEIGHBOUR: 'it returns false'. Refute it at one input. -/
def fnAlikeSymmetricReflexiveWrong : ChangeSpec := { name := "fnAlikeSymmetricReflexive", fn := fun _ => fun
  | [d1, d2] => { results := [.lit (.bool false)], args := [d1, d2] }
  | _ => none }
def FnAlikeSymmetricReflexiveWrongFalsely : Prop := fnAlikeSymmetricReflexiveRow.holds Try.pinned (OpenSpec.ofChange fnAlikeSymmetricReflexiveWrong)

/-- 'zzlaws_internal_compare_b1.FnHashedReduces': WHATEVER THE INPUT: true; the input reads as it did. -/
def fnHashedReducesSpec : ChangeSpec := { name := "fnHashedReduces", fn := fun _ => fun
  | [d1, d2, d3, d4] => { results := [.lit (.bool true)], args := [d1, d2, d3, d4] }
  | _ => none }
def fnHashedReducesRow : OpenClaim := { program := "qxb6601460a", sum := "c3b674ffae5062bc3feb094c06310abfa81ba29fc7e87cd913108f836f8b4c91", func := "example.com/tideshift/tideshift/zzlaws_internal_compare_b1.FnHashedReduces", spec := "fnHashedReduces", apart := false }
def FnHashedReducesSaid : Prop := fnHashedReducesRow.holds Try.pinned (OpenSpec.ofChange fnHashedReducesSpec)

/-- ITS FALSE NEIGHBOUR: 'it returns false'. Refute it at one input. -/
def fnHashedReducesWrong : ChangeSpec := { name := "fnHashedReduces", fn := fun _ => fun
  | [d1, d2, d3, d4] => { results := [.lit (.bool false)], args := [d1, d2, d3, d4] }
  | _ => none }
def FnHashedReducesWrongFalsely : Prop := fnHashedReducesRow.holds Try.pinned (OpenSpec.ofChange fnHashedReducesWrong)

/-- 'zzlaws_internal_compare_b1.FnHashedInjectiveInValue': WHATEVER THE INPUT: true; the input reads as it did. -/
def fnHashedInjectiveInValueSpec : ChangeSpec := { name := "fnHashedInjectiveInValue", fn := fun _ => fun
  | [d1, d2, d3, d4, d5] => { results := [.lit (.bool true)], args := [d1, d2, d3, d4, d5] }
  | _ => none }
def fnHashedInjectiveInValueRow : OpenClaim := { program := "qxb6601460a", sum := "c3b674ffae5062bc3feb094c06310abfa81ba29fc7e87cd913108f836f8b4c91", func := "example.com/tideshift/tideshift/zzlaws_internal_compare_b1.FnHashedInjectiveInValue", spec := "fnHashedInjectiveInValue", apart := false }
def FnHashedInjectiveInValueSaid : Prop := fnHashedInjectiveInValueRow.holds Try.pinned (OpenSpec.ofChange fnHashedInjectiveInValueSpec)

/-- ITS FALSE NEIGHBOUR: 'it returns false'. Refute it at one input. -/
def fnHashedInjectiveInValueWrong : ChangeSpec := { name := "fnHashedInjectiveInValue", fn := fun _ => fun
  | [d1, d2, d3, d4, d5] => { results := [.lit (.bool false)], args := [d1, d2, d3, d4, d5] }
  | _ => none }
def FnHashedInjectiveInValueWrongFalsely : Prop := fnHashedInjectiveInValueRow.holds Try.pinned (OpenSpec.ofChange fnHashedInjectiveInValueWrong)

end Rows
end Go.Proofs.Qxb6601460a
