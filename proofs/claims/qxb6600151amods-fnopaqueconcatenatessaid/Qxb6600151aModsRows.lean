/-
  No cell of these rows narrows 'for every input' (looked for: loops, veiled, ifaces, maps, wideKeys, modest, calm, conditions, laid).
  DERIVED. THE GIVEN ROWS OF THIS SEAT. 5 by the template 'for every input the law returns true; each argument reads behind the call as it read before'; 0 by the template 'total and deterministic' (their statements: Qxb6600151aModsTotals.lean).
  GIVEN WITH THE SEED: the statements are not yours to turn. If you find one false, say at which input.
  Laid BY PROGRAM, IN A SANDBOX (cutbox-rows.mjs): the forced cells as the released guide's own fill.sh prints them over the translation fc5ab0e9570670bc… (all of the seat's roots in one cut). By AI agents, Wed Nov 11 2026. No macro, syntax, notation, axiom, sorry.
-/
import Derived.Test.Qxb6600151aModsChecked
import GoSem.Claim
import GoSem.ClaimJoined
import GoSem.ClaimMapViews
import Derived.JoinedTies
import Derived.KernelRfl
namespace Go.Proofs.Qxb6600151aMods
/- THE CELL 'sum', in the pinned program and in every row, IS THE sha256 OF THE DUMP (.gsa) THAT Qxb6600151aModsProg.lean LOADS. Nothing in Lean hashes anything: it is a label: what it is worth is what the hold of that sum in a sandbox is worth. -/
noncomputable def Trym.pinned : Pinned := { name := "qxb6600151amods", sum := "fc5ab0e9570670bc5777394bf4e84a98a873fddcf4a7e19e98ec0dac2f6a6eb3", checked := Trym.checked }
namespace Rows
def none {H : Type} : Left H := { results := [], args := [] }

/-- 'zzlaws_internal_api_b1.FnJoinCodesSplitsBack': WHATEVER THE INPUT: true; the input reads as it did. -/
def fnJoinCodesSplitsBackSpec : ChangeSpec := { name := "fnJoinCodesSplitsBack", fn := fun _ => fun
  | [d] => { results := [.lit (.bool true)], args := [d] }
  | _ => none }
def fnJoinCodesSplitsBackRow : OpenClaim := { program := "qxb6600151amods", sum := "fc5ab0e9570670bc5777394bf4e84a98a873fddcf4a7e19e98ec0dac2f6a6eb3", func := "example.com/cardstate/cardstate/zzlaws_internal_api_b1.FnJoinCodesSplitsBack", spec := "fnJoinCodesSplitsBack", inPlace := ["internal/abi.NoEscape", "internal/bytealg.MakeNoZero"], make := .lifted ["publicsums"], apart := false }
def FnJoinCodesSplitsBackSaid : Prop := fnJoinCodesSplitsBackRow.holds Trym.pinned (OpenSpec.ofChange fnJoinCodesSplitsBackSpec)

/-- ITS FALSE NEIGHBOUR: 'it returns false'. Refute it at one input. -/
def fnJoinCodesSplitsBackWrong : ChangeSpec := { name := "fnJoinCodesSplitsBack", fn := fun _ => fun
  | [d] => { results := [.lit (.bool false)], args := [d] }
  | _ => none }
def FnJoinCodesSplitsBackWrongFalsely : Prop := fnJoinCodesSplitsBackRow.holds Trym.pinned (OpenSpec.ofChange fnJoinCodesSplitsBackWrong)

/-- 'zzlaws_internal_api_b1.FnJoinCodesConcatenates': WHATEVER THE INPUT: true; the input reads as it did. -/
def fnJoinCodesConcatenatesSpec : ChangeSpec := { name := "fnJoinCodesConcatenates", fn := fun _ => fun
  | [d1, d2] => { results := [.lit (.bool true)], args := [d1, d2] }
  | _ => none }
def fnJoinCodesConcatenatesRow : OpenClaim := { program := "qxb6600151amods", sum := "fc5ab0e9570670bc5777394bf4e84a98a873fddcf4a7e19e98ec0dac2f6a6eb3", func := "example.com/cardstate/cardstate/zzlaws_internal_api_b1.FnJoinCodesConcatenates", spec := "fnJoinCodesConcatenates", inPlace := ["internal/abi.NoEscape", "internal/bytealg.MakeNoZero"], make := .lifted ["publicsums"], apart := false }
def FnJoinCodesConcatenatesSaid : Prop := fnJoinCodesConcatenatesRow.holds Trym.pinned (OpenSpec.ofChange fnJoinCodesConcatenatesSpec)

/-- ITS FALSE NEIGHBOUR: 'it returns false'. Refute it at one input. -/
def fnJoinCodesConcatenatesWrong : ChangeSpec := { name := "fnJoinCodesConcatenates", fn := fun _ => fun
  | [d1, d2] => { results := [.lit (.bool false)], args := [d1, d2] }
  | _ => none }
def FnJoinCodesConcatenatesWrongFalsely : Prop := fnJoinCodesConcatenatesRow.holds Trym.pinned (OpenSpec.ofChange fnJoinCodesConcatenatesWrong)

/-- 'zzlaws_internal_api_b1.FnJoinCodesSaysNoCodeExactly': WHATEVER THE INPUT: true; the input reads as it did. -/
def fnJoinCodesSaysNoCodeExactlySpec : ChangeSpec := { name := "fnJoinCodesSaysNoCodeExactly", fn := fun _ => fun
  | [d] => { results := [.lit (.bool true)], args := [d] }
  | _ => none }
def fnJoinCodesSaysNoCodeExactlyRow : OpenClaim := { program := "qxb6600151amods", sum := "fc5ab0e9570670bc5777394bf4e84a98a873fddcf4a7e19e98ec0dac2f6a6eb3", func := "example.com/cardstate/cardstate/zzlaws_internal_api_b1.FnJoinCodesSaysNoCodeExactly", spec := "fnJoinCodesSaysNoCodeExactly", inPlace := ["internal/abi.NoEscape", "internal/bytealg.MakeNoZero"], make := .lifted ["publicsums"], apart := false }
def FnJoinCodesSaysNoCodeExactlySaid : Prop := fnJoinCodesSaysNoCodeExactlyRow.holds Trym.pinned (OpenSpec.ofChange fnJoinCodesSaysNoCodeExactlySpec)

/-- ITS FALSE NEIGHBOUR: 'it returns false'. Refute it at one input. -/
def fnJoinCodesSaysNoCodeExactlyWrong : ChangeSpec := { name := "fnJoinCodesSaysNoCodeExactly", fn := fun _ => fun
  | [d] => { results := [.lit (.bool false)], args := [d] }
  | _ => none }
def FnJoinCodesSaysNoCodeExactlyWrongFalsely : Prop := fnJoinCodesSaysNoCodeExactlyRow.holds Trym.pinned (OpenSpec.ofChange fnJoinCodesSaysNoCodeExactlyWrong)

/-- 'zzlaws_internal_api_b1.FnOpaqueOneByteIsEtagc': WHATEVER THE INPUT: true; the input reads as it did. -/
def fnOpaqueOneByteIsEtagcSpec : ChangeSpec := { name := "fnOpaqueOneByteIsEtagc", fn := fun _ => fun
  | [d] => { results := [.lit (.bool true)], args := [d] }
  | _ => none }
def fnOpaqueOneByteIsEtagcRow : OpenClaim := { program := "qxb6600151amods", sum := "fc5ab0e9570670bc5777394bf4e84a98a873fddcf4a7e19e98ec0dac2f6a6eb3", func := "example.com/cardstate/cardstate/zzlaws_internal_api_b1.FnOpaqueOneByteIsEtagc", spec := "fnOpaqueOneByteIsEtagc", make := .lifted ["publicsums"], apart := false }
def FnOpaqueOneByteIsEtagcSaid : Prop := fnOpaqueOneByteIsEtagcRow.holds Trym.pinned (OpenSpec.ofChange fnOpaqueOneByteIsEtagcSpec)

/-- ITS FALSE NEIGHBOUR: 'it returns false'. Refute it at one input. -/
def fnOpaqueOneByteIsEtagcWrong : ChangeSpec := { name := "fnOpaqueOneByteIsEtagc", fn := fun _ => fun
  | [d] => { results := [.lit (.bool false)], args := [d] }
  | _ => none }
def FnOpaqueOneByteIsEtagcWrongFalsely : Prop := fnOpaqueOneByteIsEtagcRow.holds Trym.pinned (OpenSpec.ofChange fnOpaqueOneByteIsEtagcWrong)

/-- 'zzlaws_internal_api_b1.FnOpaqueConcatenates': WHATEVER THE INPUT: true; the input reads as it did. -/
def fnOpaqueConcatenatesSpec : ChangeSpec := { name := "fnOpaqueConcatenates", fn := fun _ => fun
  | [d1, d2] => { results := [.lit (.bool true)], args := [d1, d2] }
  | _ => none }
def fnOpaqueConcatenatesRow : OpenClaim := { program := "qxb6600151amods", sum := "fc5ab0e9570670bc5777394bf4e84a98a873fddcf4a7e19e98ec0dac2f6a6eb3", func := "example.com/cardstate/cardstate/zzlaws_internal_api_b1.FnOpaqueConcatenates", spec := "fnOpaqueConcatenates", make := .lifted ["publicsums"], apart := false }
def FnOpaqueConcatenatesSaid : Prop := fnOpaqueConcatenatesRow.holds Trym.pinned (OpenSpec.ofChange fnOpaqueConcatenatesSpec)

/-- ITS FALSE NEIGHBOUR: 'it returns false'. Refute it at one input. -/
def fnOpaqueConcatenatesWrong : ChangeSpec := { name := "fnOpaqueConcatenates", fn := fun _ => fun
  | [d1, d2] => { results := [.lit (.bool false)], args := [d1, d2] }
  | _ => none }
def FnOpaqueConcatenatesWrongFalsely : Prop := fnOpaqueConcatenatesRow.holds Trym.pinned (OpenSpec.ofChange fnOpaqueConcatenatesWrong)

end Rows
end Go.Proofs.Qxb6600151aMods
