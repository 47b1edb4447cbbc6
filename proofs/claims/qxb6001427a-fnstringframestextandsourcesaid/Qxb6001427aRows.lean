/-
  No cell of these rows narrows 'for every input' (looked for: loops, veiled, ifaces, maps, wideKeys, modest, calm, conditions, laid).
  DERIVED. THE GIVEN ROWS OF THIS SEAT. 6 by the template 'for every input the law returns true; each argument reads behind the call as it read before'; 0 by the template 'total and deterministic' (their statements: Qxb6001427aTotals.lean).
  GIVEN WITH THE SEED: the statements are not yours to turn. If you find one false, say at which input.
  Laid BY PROGRAM, IN A SANDBOX (cutbox-rows.mjs): the forced cells as the released guide's own fill.sh prints them over the translation b4ccc9b2c10e798d… (all of the seat's roots in one cut). By AI agents, Wed Nov 11 2026. No macro, syntax, notation, axiom, sorry.
-/
import Derived.Test.Qxb6001427aChecked
import GoSem.Claim
import GoSem.ClaimJoined
import GoSem.ClaimMapViews
import Derived.JoinedTies
import Derived.KernelRfl
namespace Go.Proofs.Qxb6001427a
/- THE CELL 'sum', in the pinned program and in every row, IS THE sha256 OF THE DUMP (.gsa) THAT Qxb6001427aProg.lean LOADS. Nothing in Lean hashes anything: it is a label: what it is worth is what the hold of that sum in a sandbox is worth. -/
noncomputable def Try.pinned : Pinned := { name := "qxb6001427a", sum := "b4ccc9b2c10e798dda57a1b7d168d732bed8e7167af435e39ebf7d86053f07b1", checked := Try.checked }
namespace Rows
def none {H : Type} : Left H := { results := [], args := [] }

/-- 'zzlaws_internal_disasm_b1.FnIndexFindsEachAddress': WHATEVER THE INPUT: true; the input reads as it did. -/
def fnIndexFindsEachAddressSpec : ChangeSpec := { name := "fnIndexFindsEachAddress", fn := fun _ => fun
  | [d1, d2] => { results := [.lit (.bool true)], args := [d1, d2] }
  | _ => none }
def fnIndexFindsEachAddressRow : OpenClaim := { program := "qxb6001427a", sum := "b4ccc9b2c10e798dda57a1b7d168d732bed8e7167af435e39ebf7d86053f07b1", func := "example.com/residuum/residuum/zzlaws_internal_disasm_b1.FnIndexFindsEachAddress", spec := "fnIndexFindsEachAddress", apart := false }
def FnIndexFindsEachAddressSaid : Prop := fnIndexFindsEachAddressRow.holds Try.pinned (OpenSpec.ofChange fnIndexFindsEachAddressSpec)

/-- ITS FALSE NEIGHBOUR: 'it returns false'. Refute it at one input. -/
def fnIndexFindsEachAddressWrong : ChangeSpec := { name := "fnIndexFindsEachAddress", fn := fun _ => fun
  | [d1, d2] => { results := [.lit (.bool false)], args := [d1, d2] }
  | _ => none }
def FnIndexFindsEachAddressWrongFalsely : Prop := fnIndexFindsEachAddressRow.holds Try.pinned (OpenSpec.ofChange fnIndexFindsEachAddressWrong)

/-- 'zzlaws_internal_disasm_b1.FnIndexAppendExtends': WHATEVER THE INPUT: true; the input reads as it did. -/
def fnIndexAppendExtendsSpec : ChangeSpec := { name := "fnIndexAppendExtends", fn := fun _ => fun
  | [d1, d2, d3] => { results := [.lit (.bool true)], args := [d1, d2, d3] }
  | _ => none }
def fnIndexAppendExtendsRow : OpenClaim := { program := "qxb6001427a", sum := "b4ccc9b2c10e798dda57a1b7d168d732bed8e7167af435e39ebf7d86053f07b1", func := "example.com/residuum/residuum/zzlaws_internal_disasm_b1.FnIndexAppendExtends", spec := "fnIndexAppendExtends", apart := false }
def FnIndexAppendExtendsSaid : Prop := fnIndexAppendExtendsRow.holds Try.pinned (OpenSpec.ofChange fnIndexAppendExtendsSpec)

/-- ITS FALSE NEIGHBOUR: 'it returns false'. Refute it at one input. -/
def fnIndexAppendExtendsWrong : ChangeSpec := { name := "fnIndexAppendExtends", fn := fun _ => fun
  | [d1, d2, d3] => { results := [.lit (.bool false)], args := [d1, d2, d3] }
  | _ => none }
def FnIndexAppendExtendsWrongFalsely : Prop := fnIndexAppendExtendsRow.holds Try.pinned (OpenSpec.ofChange fnIndexAppendExtendsWrong)

/-- 'zzlaws_internal_disasm_b1.FnIndexAnswersExactly': WHATEVER THE INPUT: true; the input reads as it did. -/
def fnIndexAnswersExactlySpec : ChangeSpec := { name := "fnIndexAnswersExactly", fn := fun _ => fun
  | [d1, d2] => { results := [.lit (.bool true)], args := [d1, d2] }
  | _ => none }
def fnIndexAnswersExactlyRow : OpenClaim := { program := "qxb6001427a", sum := "b4ccc9b2c10e798dda57a1b7d168d732bed8e7167af435e39ebf7d86053f07b1", func := "example.com/residuum/residuum/zzlaws_internal_disasm_b1.FnIndexAnswersExactly", spec := "fnIndexAnswersExactly", apart := false }
def FnIndexAnswersExactlySaid : Prop := fnIndexAnswersExactlyRow.holds Try.pinned (OpenSpec.ofChange fnIndexAnswersExactlySpec)

/-- ITS FALSE NEIGHBOUR: 'it returns false'. Refute it at one input. -/
def fnIndexAnswersExactlyWrong : ChangeSpec := { name := "fnIndexAnswersExactly", fn := fun _ => fun
  | [d1, d2] => { results := [.lit (.bool false)], args := [d1, d2] }
  | _ => none }
def FnIndexAnswersExactlyWrongFalsely : Prop := fnIndexAnswersExactlyRow.holds Try.pinned (OpenSpec.ofChange fnIndexAnswersExactlyWrong)

/-- 'zzlaws_internal_disasm_b1.FnStringIgnoresAddress': WHATEVER THE INPUT: true; the input reads as it did. -/
def fnStringIgnoresAddressSpec : ChangeSpec := { name := "fnStringIgnoresAddress", fn := fun _ => fun
  | [d1, d2, d3, d4, d5] => { results := [.lit (.bool true)], args := [d1, d2, d3, d4, d5] }
  | _ => none }
def fnStringIgnoresAddressRow : OpenClaim := { program := "qxb6001427a", sum := "b4ccc9b2c10e798dda57a1b7d168d732bed8e7167af435e39ebf7d86053f07b1", func := "example.com/residuum/residuum/zzlaws_internal_disasm_b1.FnStringIgnoresAddress", spec := "fnStringIgnoresAddress", apart := false }
def FnStringIgnoresAddressSaid : Prop := fnStringIgnoresAddressRow.holds Try.pinned (OpenSpec.ofChange fnStringIgnoresAddressSpec)

/-- ITS FALSE NEIGHBOUR: 'it returns false'. Refute it at one input. -/
def fnStringIgnoresAddressWrong : ChangeSpec := { name := "fnStringIgnoresAddress", fn := fun _ => fun
  | [d1, d2, d3, d4, d5] => { results := [.lit (.bool false)], args := [d1, d2, d3, d4, d5] }
  | _ => none }
def FnStringIgnoresAddressWrongFalsely : Prop := fnStringIgnoresAddressRow.holds Try.pinned (OpenSpec.ofChange fnStringIgnoresAddressWrong)

/-- 'zzlaws_internal_disasm_b1.FnStringTellsRelocsApart': WHATEVER THE INPUT: true; the input reads as it did. -/
def fnStringTellsRelocsApartSpec : ChangeSpec := { name := "fnStringTellsRelocsApart", fn := fun _ => fun
  | [d1, d2, d3, d4, d5] => { results := [.lit (.bool true)], args := [d1, d2, d3, d4, d5] }
  | _ => none }
def fnStringTellsRelocsApartRow : OpenClaim := { program := "qxb6001427a", sum := "b4ccc9b2c10e798dda57a1b7d168d732bed8e7167af435e39ebf7d86053f07b1", func := "example.com/residuum/residuum/zzlaws_internal_disasm_b1.FnStringTellsRelocsApart", spec := "fnStringTellsRelocsApart", apart := false }
def FnStringTellsRelocsApartSaid : Prop := fnStringTellsRelocsApartRow.holds Try.pinned (OpenSpec.ofChange fnStringTellsRelocsApartSpec)

/-- ITS FALSE NEIGHBOUR: 'it returns false'. Refute it at one input. -/
def fnStringTellsRelocsApartWrong : ChangeSpec := { name := "fnStringTellsRelocsApart", fn := fun _ => fun
  | [d1, d2, d3, d4, d5] => { results := [.lit (.bool false)], args := [d1, d2, d3, d4, d5] }
  | _ => none }
def FnStringTellsRelocsApartWrongFalsely : Prop := fnStringTellsRelocsApartRow.holds Try.pinned (OpenSpec.ofChange fnStringTellsRelocsApartWrong)

/-- 'zzlaws_internal_disasm_b1.FnStringFramesTextAndSource': WHATEVER THE INPUT: true; the input reads as it did. -/
def fnStringFramesTextAndSourceSpec : ChangeSpec := { name := "fnStringFramesTextAndSource", fn := fun _ => fun
  | [d1, d2, d3, d4] => { results := [.lit (.bool true)], args := [d1, d2, d3, d4] }
  | _ => none }
def fnStringFramesTextAndSourceRow : OpenClaim := { program := "qxb6001427a", sum := "b4ccc9b2c10e798dda57a1b7d168d732bed8e7167af435e39ebf7d86053f07b1", func := "example.com/residuum/residuum/zzlaws_internal_disasm_b1.FnStringFramesTextAndSource", spec := "fnStringFramesTextAndSource", apart := false }
def FnStringFramesTextAndSourceSaid : Prop := fnStringFramesTextAndSourceRow.holds Try.pinned (OpenSpec.ofChange fnStringFramesTextAndSourceSpec)

/-- ITS FALSE NEIGHBOUR: 'it returns false'. Refute it at one input. -/
def fnStringFramesTextAndSourceWrong : ChangeSpec := { name := "fnStringFramesTextAndSource", fn := fun _ => fun
  | [d1, d2, d3, d4] => { results := [.lit (.bool false)], args := [d1, d2, d3, d4] }
  | _ => none }
def FnStringFramesTextAndSourceWrongFalsely : Prop := fnStringFramesTextAndSourceRow.holds Try.pinned (OpenSpec.ofChange fnStringFramesTextAndSourceWrong)

end Rows
end Go.Proofs.Qxb6001427a
