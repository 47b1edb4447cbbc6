/-
  No cell of these rows narrows 'for every input' (looked for: loops, veiled, ifaces, maps, wideKeys, modest, calm, conditions, laid).
  DERIVED. THE GIVEN ROWS OF THIS SEAT. 4 by the template 'for every input the law returns true; each argument reads behind the call as it read before'; 0 by the template 'total and deterministic' (their statements: Qxb6001461aTotals.lean).
  GIVEN WITH THE SEED: the statements are not yours to turn. If you find one false, say at which input.
  Laid BY PROGRAM, IN A SANDBOX (cutbox-rows.mjs): the forced cells as the released guide's own fill.sh prints them over the translation 32b13a329479970c… (all of the seat's roots in one cut). By AI agents, Wed Nov 11 2026. No macro, syntax, notation, axiom, sorry.
-/
import Derived.Test.Qxb6001461aChecked
import GoSem.Claim
import GoSem.ClaimJoined
import GoSem.ClaimMapViews
import Derived.JoinedTies
import Derived.KernelRfl
namespace Go.Proofs.Qxb6001461a
/- THE CELL 'sum', in the pinned program and in every row, IS THE sha256 OF THE DUMP (.gsa) THAT Qxb6001461aProg.lean LOADS. Nothing in Lean hashes anything: it is a label: what it is worth is what the hold of that sum in a sandbox is worth. -/
noncomputable def Try.pinned : Pinned := { name := "qxb6001461a", sum := "32b13a329479970c25875d576d123c0af87cc18c975787576643b6a11372c975", checked := Try.checked }
namespace Rows
def none {H : Type} : Left H := { results := [], args := [] }

/-- 'zzlaws_internal_dockerfile_b1.FnFieldsTilesText': WHATEVER THE INPUT: true; the input reads as it did. -/
def fnFieldsTilesTextSpec : ChangeSpec := { name := "fnFieldsTilesText", fn := fun _ => fun
  | [d1, d2] => { results := [.lit (.bool true)], args := [d1, d2] }
  | _ => none }
def fnFieldsTilesTextRow : OpenClaim := { program := "qxb6001461a", sum := "32b13a329479970c25875d576d123c0af87cc18c975787576643b6a11372c975", func := "example.com/buildloom/buildloom/zzlaws_internal_dockerfile_b1.FnFieldsTilesText", spec := "fnFieldsTilesText", apart := false }
def FnFieldsTilesTextSaid : Prop := fnFieldsTilesTextRow.holds Try.pinned (OpenSpec.ofChange fnFieldsTilesTextSpec)

/-- ITS FALSE NEIGHBOUR: 'it returns false'. Refute it at one input. -/
def fnFieldsTilesTextWrong : ChangeSpec := { name := "fnFieldsTilesText", fn := fun _ => fun
  | [d1, d2] => { results := [.lit (.bool false)], args := [d1, d2] }
  | _ => none }
def FnFieldsTilesTextWrongFalsely : Prop := fnFieldsTilesTextRow.holds Try.pinned (OpenSpec.ofChange fnFieldsTilesTextWrong)

/-- 'zzlaws_internal_dockerfile_b1.FnFieldsLeadingBlanksOnlyShift': WHATEVER THE INPUT: true; the input reads as it did. -/
def fnFieldsLeadingBlanksOnlyShiftSpec : ChangeSpec := { name := "fnFieldsLeadingBlanksOnlyShift", fn := fun _ => fun
  | [d1, d2, d3] => { results := [.lit (.bool true)], args := [d1, d2, d3] }
  | _ => none }
def fnFieldsLeadingBlanksOnlyShiftRow : OpenClaim := { program := "qxb6001461a", sum := "32b13a329479970c25875d576d123c0af87cc18c975787576643b6a11372c975", func := "example.com/buildloom/buildloom/zzlaws_internal_dockerfile_b1.FnFieldsLeadingBlanksOnlyShift", spec := "fnFieldsLeadingBlanksOnlyShift", apart := false }
def FnFieldsLeadingBlanksOnlyShiftSaid : Prop := fnFieldsLeadingBlanksOnlyShiftRow.holds Try.pinned (OpenSpec.ofChange fnFieldsLeadingBlanksOnlyShiftSpec)

/-- ITS FALSE NEIGHBOUR: 'it returns false'. Refute it at one input. -/
def fnFieldsLeadingBlanksOnlyShiftWrong : ChangeSpec := { name := "fnFieldsLeadingBlanksOnlyShift", fn := fun _ => fun
  | [d1, d2, d3] => { results := [.lit (.bool false)], args := [d1, d2, d3] }
  | _ => none }
def FnFieldsLeadingBlanksOnlyShiftWrongFalsely : Prop := fnFieldsLeadingBlanksOnlyShiftRow.holds Try.pinned (OpenSpec.ofChange fnFieldsLeadingBlanksOnlyShiftWrong)

/-- 'zzlaws_internal_dockerfile_b1.FnHeredocRoundTrip': WHATEVER THE INPUT: true; the input reads as it did. -/
def fnHeredocRoundTripSpec : ChangeSpec := { name := "fnHeredocRoundTrip", fn := fun _ => fun
  | [d1, d2, d3] => { results := [.lit (.bool true)], args := [d1, d2, d3] }
  | _ => none }
def fnHeredocRoundTripRow : OpenClaim := { program := "qxb6001461a", sum := "32b13a329479970c25875d576d123c0af87cc18c975787576643b6a11372c975", func := "example.com/buildloom/buildloom/zzlaws_internal_dockerfile_b1.FnHeredocRoundTrip", spec := "fnHeredocRoundTrip", inPlace := ["internal/bytealg.IndexByteString", "internal/bytealg.IndexString"], named := ["internal/bytealg.MaxLen"], apart := false }
def FnHeredocRoundTripSaid : Prop := fnHeredocRoundTripRow.holds Try.pinned (OpenSpec.ofChange fnHeredocRoundTripSpec)

/-- ITS FALSE NEIGHBOUR: 'it returns false'. Refute it at one input. -/
def fnHeredocRoundTripWrong : ChangeSpec := { name := "fnHeredocRoundTrip", fn := fun _ => fun
  | [d1, d2, d3] => { results := [.lit (.bool false)], args := [d1, d2, d3] }
  | _ => none }
def FnHeredocRoundTripWrongFalsely : Prop := fnHeredocRoundTripRow.holds Try.pinned (OpenSpec.ofChange fnHeredocRoundTripWrong)

/-- 'zzlaws_internal_dockerfile_b1.FnHeredocAcceptedWordRebuilds': WHATEVER THE INPUT: true; the input reads as it did. -/
def fnHeredocAcceptedWordRebuildsSpec : ChangeSpec := { name := "fnHeredocAcceptedWordRebuilds", fn := fun _ => fun
  | [d] => { results := [.lit (.bool true)], args := [d] }
  | _ => none }
def fnHeredocAcceptedWordRebuildsRow : OpenClaim := { program := "qxb6001461a", sum := "32b13a329479970c25875d576d123c0af87cc18c975787576643b6a11372c975", func := "example.com/buildloom/buildloom/zzlaws_internal_dockerfile_b1.FnHeredocAcceptedWordRebuilds", spec := "fnHeredocAcceptedWordRebuilds", inPlace := ["internal/bytealg.IndexByteString", "internal/bytealg.IndexString"], named := ["internal/bytealg.MaxLen"], apart := false }
def FnHeredocAcceptedWordRebuildsSaid : Prop := fnHeredocAcceptedWordRebuildsRow.holds Try.pinned (OpenSpec.ofChange fnHeredocAcceptedWordRebuildsSpec)

/-- ITS FALSE NEIGHBOUR: 'it returns false'. Refute it at one input. -/
def fnHeredocAcceptedWordRebuildsWrong : ChangeSpec := { name := "fnHeredocAcceptedWordRebuilds", fn := fun _ => fun
  | [d] => { results := [.lit (.bool false)], args := [d] }
  | _ => none }
def FnHeredocAcceptedWordRebuildsWrongFalsely : Prop := fnHeredocAcceptedWordRebuildsRow.holds Try.pinned (OpenSpec.ofChange fnHeredocAcceptedWordRebuildsWrong)

end Rows
end Go.Proofs.Qxb6001461a
