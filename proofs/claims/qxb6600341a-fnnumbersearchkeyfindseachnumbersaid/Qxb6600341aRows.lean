/-
  No cell of these rows narrows 'for every input' (looked for: loops, veiled, ifaces, maps, wideKeys, modest, calm, conditions, laid).
  DERIVED. THE GIVEN ROWS OF THIS SEAT. 3 by the template 'for every input the law returns true; each argument reads behind the call as it read before'; 0 by the template 'total and deterministic' (their statements: Qxb6600341aTotals.lean).
  GIVEN WITH THE SEED: the statements are not yours to turn. If you find one false, say at which input.
  Laid BY PROGRAM, IN A SANDBOX (cutbox-rows.mjs): the forced cells as the released guide's own fill.sh prints them over the translation 91bda6e83aef5b47… (all of the seat's roots in one cut). By AI agents, Wed Nov 11 2026. No macro, syntax, notation, axiom, sorry.
-/
import Derived.Test.Qxb6600341aChecked
import GoSem.Claim
import GoSem.ClaimJoined
import GoSem.ClaimMapViews
import Derived.JoinedTies
import Derived.KernelRfl
namespace Go.Proofs.Qxb6600341a
/- THE CELL 'sum', in the pinned program and in every row, IS THE sha256 OF THE DUMP (.gsa) THAT Qxb6600341aProg.lean LOADS. Nothing in Lean hashes anything: it is a label: what it is worth is what the hold of that sum in a sandbox is worth. -/
noncomputable def Try.pinned : Pinned := { name := "qxb6600341a", sum := "91bda6e83aef5b479bc7b3282d4409d0c4fd0e49616f243ebf2f752e92d20723", checked := Try.checked }
namespace Rows
def none {H : Type} : Left H := { results := [], args := [] }

/-- 'zzlaws_internal_gate_b1.FnPartsOfExact': WHATEVER THE INPUT: true; the input reads as it did. -/
def fnPartsOfExactSpec : ChangeSpec := { name := "fnPartsOfExact", fn := fun _ => fun
  | [d] => { results := [.lit (.bool true)], args := [d] }
  | _ => none }
def fnPartsOfExactRow : OpenClaim := { program := "qxb6600341a", sum := "91bda6e83aef5b479bc7b3282d4409d0c4fd0e49616f243ebf2f752e92d20723", func := "example.com/gatehouse/gatehouse/zzlaws_internal_gate_b1.FnPartsOfExact", spec := "fnPartsOfExact", inPlace := ["internal/bytealg.IndexByteString"], apart := false }
def FnPartsOfExactSaid : Prop := fnPartsOfExactRow.holds Try.pinned (OpenSpec.ofChange fnPartsOfExactSpec)

/-- ITS FALSE NEIGHBOUR: 'it returns false'. Refute it at one input. -/
def fnPartsOfExactWrong : ChangeSpec := { name := "fnPartsOfExact", fn := fun _ => fun
  | [d] => { results := [.lit (.bool false)], args := [d] }
  | _ => none }
def FnPartsOfExactWrongFalsely : Prop := fnPartsOfExactRow.holds Try.pinned (OpenSpec.ofChange fnPartsOfExactWrong)

/-- 'zzlaws_internal_gate_b1.FnPartsOfIgnoresPaddingZeros': WHATEVER THE INPUT: true; the input reads as it did. -/
def fnPartsOfIgnoresPaddingZerosSpec : ChangeSpec := { name := "fnPartsOfIgnoresPaddingZeros", fn := fun _ => fun
  | [d1, d2, d3] => { results := [.lit (.bool true)], args := [d1, d2, d3] }
  | _ => none }
def fnPartsOfIgnoresPaddingZerosRow : OpenClaim := { program := "qxb6600341a", sum := "91bda6e83aef5b479bc7b3282d4409d0c4fd0e49616f243ebf2f752e92d20723", func := "example.com/gatehouse/gatehouse/zzlaws_internal_gate_b1.FnPartsOfIgnoresPaddingZeros", spec := "fnPartsOfIgnoresPaddingZeros", inPlace := ["internal/bytealg.IndexByteString"], apart := false }
def FnPartsOfIgnoresPaddingZerosSaid : Prop := fnPartsOfIgnoresPaddingZerosRow.holds Try.pinned (OpenSpec.ofChange fnPartsOfIgnoresPaddingZerosSpec)

/-- ITS FALSE NEIGHBOUR: 'it returns false'. Refute it at one input. -/
def fnPartsOfIgnoresPaddingZerosWrong : ChangeSpec := { name := "fnPartsOfIgnoresPaddingZeros", fn := fun _ => fun
  | [d1, d2, d3] => { results := [.lit (.bool false)], args := [d1, d2, d3] }
  | _ => none }
def FnPartsOfIgnoresPaddingZerosWrongFalsely : Prop := fnPartsOfIgnoresPaddingZerosRow.holds Try.pinned (OpenSpec.ofChange fnPartsOfIgnoresPaddingZerosWrong)

/-- 'zzlaws_internal_gate_b1.FnNumberSearchKeyFindsEachNumber': WHATEVER THE INPUT: true; the input reads as it did. -/
def fnNumberSearchKeyFindsEachNumberSpec : ChangeSpec := { name := "fnNumberSearchKeyFindsEachNumber", fn := fun _ => fun
  | [d1, d2, d3, d4, d5] => { results := [.lit (.bool true)], args := [d1, d2, d3, d4, d5] }
  | _ => none }
def fnNumberSearchKeyFindsEachNumberRow : OpenClaim := { program := "qxb6600341a", sum := "91bda6e83aef5b479bc7b3282d4409d0c4fd0e49616f243ebf2f752e92d20723", func := "example.com/gatehouse/gatehouse/zzlaws_internal_gate_b1.FnNumberSearchKeyFindsEachNumber", spec := "fnNumberSearchKeyFindsEachNumber", recurses := true, apart := false }
def FnNumberSearchKeyFindsEachNumberSaid : Prop := fnNumberSearchKeyFindsEachNumberRow.holds Try.pinned (OpenSpec.ofChange fnNumberSearchKeyFindsEachNumberSpec)

/-- ITS FALSE NEIGHBOUR: 'it returns false'. Refute it at one input. -/
def fnNumberSearchKeyFindsEachNumberWrong : ChangeSpec := { name := "fnNumberSearchKeyFindsEachNumber", fn := fun _ => fun
  | [d1, d2, d3, d4, d5] => { results := [.lit (.bool false)], args := [d1, d2, d3, d4, d5] }
  | _ => none }
def FnNumberSearchKeyFindsEachNumberWrongFalsely : Prop := fnNumberSearchKeyFindsEachNumberRow.holds Try.pinned (OpenSpec.ofChange fnNumberSearchKeyFindsEachNumberWrong)

end Rows
end Go.Proofs.Qxb6600341a
