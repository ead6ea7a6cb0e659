/-
  No cell of these rows narrows 'for every input' (looked for: loops, veiled, ifaces, maps, wideKeys, modest, calm, conditions, laid).
  DERIVED. THE GIVEN ROWS OF THIS SEAT. 7 by the template 'for every input the law returns true; each argument reads behind the call as it read before'; 0 by the template 'total and deterministic' (their statements: Qxb6001233aModsTotals.lean).
  GIVEN WITH THE SEED: the statements are not yours to turn. If you find one false, say at which input.
  Laid BY PROGRAM, IN A SANDBOX (cutbox-rows.mjs): the forced cells as the released guide's own fill.sh prints them over the translation a3923d4442a9006b… (all of the seat's roots in one cut). By AI agents, Wed Nov 11 2026. No macro, syntax, notation, axiom, sorry.
-/
import Derived.Test.Qxb6001233aModsChecked
import GoSem.Claim
import GoSem.ClaimJoined
import GoSem.ClaimMapViews
import Derived.JoinedTies
import Derived.KernelRfl
namespace Go.Proofs.Qxb6001233aMods
/- THE CELL 'sum', in the pinned program and in every row, IS THE sha256 OF THE DUMP (.gsa) THAT Qxb6001233aModsProg.lean LOADS. Nothing in Lean hashes anything: it is a label: what it is worth is what the hold of that sum in a sandbox is worth. -/
noncomputable def Trym.pinned : Pinned := { name := "qxb6001233amods", sum := "a3923d4442a9006bc7f38e1dc77596005d1d13b5e54414b14465adc375a9607b", checked := Trym.checked }
namespace Rows
def none {H : Type} : Left H := { results := [], args := [] }

/-- 'zzlaws_internal_limit_b1.FnReadAppendRoundTrip': WHATEVER THE INPUT: true; the input reads as it did. -/
def fnReadAppendRoundTripSpec : ChangeSpec := { name := "fnReadAppendRoundTrip", fn := fun _ => fun
  | [d] => { results := [.lit (.bool true)], args := [d] }
  | _ => none }
def fnReadAppendRoundTripRow : OpenClaim := { program := "qxb6001233amods", sum := "a3923d4442a9006bc7f38e1dc77596005d1d13b5e54414b14465adc375a9607b", func := "example.com/lone-table/lone-table/zzlaws_internal_limit_b1.FnReadAppendRoundTrip", spec := "fnReadAppendRoundTrip", make := .lifted ["publicsums"], apart := false }
def FnReadAppendRoundTripSaid : Prop := fnReadAppendRoundTripRow.holds Trym.pinned (OpenSpec.ofChange fnReadAppendRoundTripSpec)

/-- ITS FALSE NEIGHBOUR: 'it returns false'. Refute it at one input. -/
def fnReadAppendRoundTripWrong : ChangeSpec := { name := "fnReadAppendRoundTrip", fn := fun _ => fun
  | [d] => { results := [.lit (.bool false)], args := [d] }
  | _ => none }
def FnReadAppendRoundTripWrongFalsely : Prop := fnReadAppendRoundTripRow.holds Trym.pinned (OpenSpec.ofChange fnReadAppendRoundTripWrong)

/-- 'zzlaws_internal_limit_b1.FnAppendThenReadIsIdentity': WHATEVER THE INPUT: true; the input reads as it did. -/
def fnAppendThenReadIsIdentitySpec : ChangeSpec := { name := "fnAppendThenReadIsIdentity", fn := fun _ => fun
  | [d1, d2, d3] => { results := [.lit (.bool true)], args := [d1, d2, d3] }
  | _ => none }
def fnAppendThenReadIsIdentityRow : OpenClaim := { program := "qxb6001233amods", sum := "a3923d4442a9006bc7f38e1dc77596005d1d13b5e54414b14465adc375a9607b", func := "example.com/lone-table/lone-table/zzlaws_internal_limit_b1.FnAppendThenReadIsIdentity", spec := "fnAppendThenReadIsIdentity", make := .lifted ["publicsums"], apart := false }
def FnAppendThenReadIsIdentitySaid : Prop := fnAppendThenReadIsIdentityRow.holds Trym.pinned (OpenSpec.ofChange fnAppendThenReadIsIdentitySpec)

/-- ITS FALSE NEIGHBOUR: 'it returns false'. Refute it at one input. -/
def fnAppendThenReadIsIdentityWrong : ChangeSpec := { name := "fnAppendThenReadIsIdentity", fn := fun _ => fun
  | [d1, d2, d3] => { results := [.lit (.bool false)], args := [d1, d2, d3] }
  | _ => none }
def FnAppendThenReadIsIdentityWrongFalsely : Prop := fnAppendThenReadIsIdentityRow.holds Trym.pinned (OpenSpec.ofChange fnAppendThenReadIsIdentityWrong)

/-- 'zzlaws_internal_limit_b1.FnAppendExtendsPrefix': WHATEVER THE INPUT: true; the input reads as it did. -/
def fnAppendExtendsPrefixSpec : ChangeSpec := { name := "fnAppendExtendsPrefix", fn := fun _ => fun
  | [d1, d2, d3, d4] => { results := [.lit (.bool true)], args := [d1, d2, d3, d4] }
  | _ => none }
def fnAppendExtendsPrefixRow : OpenClaim := { program := "qxb6001233amods", sum := "a3923d4442a9006bc7f38e1dc77596005d1d13b5e54414b14465adc375a9607b", func := "example.com/lone-table/lone-table/zzlaws_internal_limit_b1.FnAppendExtendsPrefix", spec := "fnAppendExtendsPrefix", make := .lifted ["publicsums"], apart := false }
def FnAppendExtendsPrefixSaid : Prop := fnAppendExtendsPrefixRow.holds Trym.pinned (OpenSpec.ofChange fnAppendExtendsPrefixSpec)

/-- ITS FALSE NEIGHBOUR: 'it returns false'. Refute it at one input. -/
def fnAppendExtendsPrefixWrong : ChangeSpec := { name := "fnAppendExtendsPrefix", fn := fun _ => fun
  | [d1, d2, d3, d4] => { results := [.lit (.bool false)], args := [d1, d2, d3, d4] }
  | _ => none }
def FnAppendExtendsPrefixWrongFalsely : Prop := fnAppendExtendsPrefixRow.holds Trym.pinned (OpenSpec.ofChange fnAppendExtendsPrefixWrong)

/-- 'zzlaws_internal_limit_b1.FnReadNumberRefusesForeignBytes': WHATEVER THE INPUT: true; the input reads as it did. -/
def fnReadNumberRefusesForeignBytesSpec : ChangeSpec := { name := "fnReadNumberRefusesForeignBytes", fn := fun _ => fun
  | [d] => { results := [.lit (.bool true)], args := [d] }
  | _ => none }
def fnReadNumberRefusesForeignBytesRow : OpenClaim := { program := "qxb6001233amods", sum := "a3923d4442a9006bc7f38e1dc77596005d1d13b5e54414b14465adc375a9607b", func := "example.com/lone-table/lone-table/zzlaws_internal_limit_b1.FnReadNumberRefusesForeignBytes", spec := "fnReadNumberRefusesForeignBytes", make := .lifted ["publicsums"], apart := false }
def FnReadNumberRefusesForeignBytesSaid : Prop := fnReadNumberRefusesForeignBytesRow.holds Trym.pinned (OpenSpec.ofChange fnReadNumberRefusesForeignBytesSpec)

/-- ITS FALSE NEIGHBOUR: 'it returns false'. Refute it at one input. -/
def fnReadNumberRefusesForeignBytesWrong : ChangeSpec := { name := "fnReadNumberRefusesForeignBytes", fn := fun _ => fun
  | [d] => { results := [.lit (.bool false)], args := [d] }
  | _ => none }
def FnReadNumberRefusesForeignBytesWrongFalsely : Prop := fnReadNumberRefusesForeignBytesRow.holds Trym.pinned (OpenSpec.ofChange fnReadNumberRefusesForeignBytesWrong)

/-- 'zzlaws_internal_limit_b1.FnReadNumberSignNegates': WHATEVER THE INPUT: true; the input reads as it did. -/
def fnReadNumberSignNegatesSpec : ChangeSpec := { name := "fnReadNumberSignNegates", fn := fun _ => fun
  | [d] => { results := [.lit (.bool true)], args := [d] }
  | _ => none }
def fnReadNumberSignNegatesRow : OpenClaim := { program := "qxb6001233amods", sum := "a3923d4442a9006bc7f38e1dc77596005d1d13b5e54414b14465adc375a9607b", func := "example.com/lone-table/lone-table/zzlaws_internal_limit_b1.FnReadNumberSignNegates", spec := "fnReadNumberSignNegates", make := .lifted ["publicsums"], apart := false }
def FnReadNumberSignNegatesSaid : Prop := fnReadNumberSignNegatesRow.holds Trym.pinned (OpenSpec.ofChange fnReadNumberSignNegatesSpec)

/-- ITS FALSE NEIGHBOUR: 'it returns false'. Refute it at one input. -/
def fnReadNumberSignNegatesWrong : ChangeSpec := { name := "fnReadNumberSignNegates", fn := fun _ => fun
  | [d] => { results := [.lit (.bool false)], args := [d] }
  | _ => none }
def FnReadNumberSignNegatesWrongFalsely : Prop := fnReadNumberSignNegatesRow.holds Trym.pinned (OpenSpec.ofChange fnReadNumberSignNegatesWrong)

/-- 'zzlaws_internal_limit_b1.FnKeyEqualIffSameNumber': WHATEVER THE INPUT: true; the input reads as it did. -/
def fnKeyEqualIffSameNumberSpec : ChangeSpec := { name := "fnKeyEqualIffSameNumber", fn := fun _ => fun
  | [d1, d2] => { results := [.lit (.bool true)], args := [d1, d2] }
  | _ => none }
def fnKeyEqualIffSameNumberRow : OpenClaim := { program := "qxb6001233amods", sum := "a3923d4442a9006bc7f38e1dc77596005d1d13b5e54414b14465adc375a9607b", func := "example.com/lone-table/lone-table/zzlaws_internal_limit_b1.FnKeyEqualIffSameNumber", spec := "fnKeyEqualIffSameNumber", make := .lifted ["publicsums"], apart := false }
def FnKeyEqualIffSameNumberSaid : Prop := fnKeyEqualIffSameNumberRow.holds Trym.pinned (OpenSpec.ofChange fnKeyEqualIffSameNumberSpec)

/-- ITS FALSE NEIGHBOUR: 'it returns false'. Refute it at one input. -/
def fnKeyEqualIffSameNumberWrong : ChangeSpec := { name := "fnKeyEqualIffSameNumber", fn := fun _ => fun
  | [d1, d2] => { results := [.lit (.bool false)], args := [d1, d2] }
  | _ => none }
def FnKeyEqualIffSameNumberWrongFalsely : Prop := fnKeyEqualIffSameNumberRow.holds Trym.pinned (OpenSpec.ofChange fnKeyEqualIffSameNumberWrong)

/-- 'zzlaws_internal_limit_b1.FnKeyOrdersAsNumbers': WHATEVER THE INPUT: true; the input reads as it did. -/
def fnKeyOrdersAsNumbersSpec : ChangeSpec := { name := "fnKeyOrdersAsNumbers", fn := fun _ => fun
  | [d1, d2] => { results := [.lit (.bool true)], args := [d1, d2] }
  | _ => none }
def fnKeyOrdersAsNumbersRow : OpenClaim := { program := "qxb6001233amods", sum := "a3923d4442a9006bc7f38e1dc77596005d1d13b5e54414b14465adc375a9607b", func := "example.com/lone-table/lone-table/zzlaws_internal_limit_b1.FnKeyOrdersAsNumbers", spec := "fnKeyOrdersAsNumbers", make := .lifted ["publicsums"], apart := false }
def FnKeyOrdersAsNumbersSaid : Prop := fnKeyOrdersAsNumbersRow.holds Trym.pinned (OpenSpec.ofChange fnKeyOrdersAsNumbersSpec)

/-- ITS FALSE NEIGHBOUR: 'it returns false'. Refute it at one input. -/
def fnKeyOrdersAsNumbersWrong : ChangeSpec := { name := "fnKeyOrdersAsNumbers", fn := fun _ => fun
  | [d1, d2] => { results := [.lit (.bool false)], args := [d1, d2] }
  | _ => none }
def FnKeyOrdersAsNumbersWrongFalsely : Prop := fnKeyOrdersAsNumbersRow.holds Trym.pinned (OpenSpec.ofChange fnKeyOrdersAsNumbersWrong)

end Rows
end Go.Proofs.Qxb6001233aMods
