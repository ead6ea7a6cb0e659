/-
  No cell of these rows narrows 'for every input' (looked for: loops, veiled, ifaces, maps, wideKeys, modest, calm, conditions, laid).
  DERIVED. THE GIVEN ROWS OF THIS SEAT. 2 by the template 'for every input the law returns true; each argument reads behind the call as it read before'; 0 by the template 'total and deterministic' (their statements: Qxb6612450aModsTotals.lean).
  GIVEN WITH THE SEED: the statements are not yours to turn. If you find one false, say at which input.
  Laid BY PROGRAM, IN A SANDBOX (cutbox-rows.mjs): the forced cells as the released guide's own fill.sh prints them over the translation 7157053adf28bc51… (all of the seat's roots in one cut). By AI agents, Wed Nov 11 2026. No macro, syntax, notation, axiom, sorry.
-/
import Derived.Test.Qxb6612450aModsChecked
import GoSem.Claim
import GoSem.ClaimJoined
import GoSem.ClaimMapViews
import Derived.JoinedTies
import Derived.KernelRfl
namespace Go.Proofs.Qxb6612450aMods
/- THE CELL 'sum', in the pinned program and in every row, IS THE sha256 OF THE DUMP (.gsa) THAT Qxb6612450aModsProg.lean LOADS. Nothing in Lean hashes anything: it is a label: what it is worth is what the hold of that sum in a sandbox is worth. -/
noncomputable def Trym.pinned : Pinned := { name := "qxb6612450amods", sum := "7157053adf28bc51db9e611dc3e047100d3b7f23952c98bee19d1c2d9f23cecf", checked := Trym.checked }
namespace Rows
def none {H : Type} : Left H := { results := [], args := [] }

/-- 'zzlaws_ipmi_b1.FnFormatUUIDPlacesEveryNibble': WHATEVER THE INPUT: true; the input reads as it did. -/
def fnFormatUUIDPlacesEveryNibbleSpec : ChangeSpec := { name := "fnFormatUUIDPlacesEveryNibble", fn := fun _ => fun
  | [d] => { results := [.lit (.bool true)], args := [d] }
  | _ => none }
def fnFormatUUIDPlacesEveryNibbleRow : OpenClaim := { program := "qxb6612450amods", sum := "7157053adf28bc51db9e611dc3e047100d3b7f23952c98bee19d1c2d9f23cecf", func := "example.com/fenceline/fenceline/zzlaws_ipmi_b1.FnFormatUUIDPlacesEveryNibble", spec := "fnFormatUUIDPlacesEveryNibble", make := .lifted ["publicsums"], apart := false }
def FnFormatUUIDPlacesEveryNibbleSaid : Prop := fnFormatUUIDPlacesEveryNibbleRow.holds Trym.pinned (OpenSpec.ofChange fnFormatUUIDPlacesEveryNibbleSpec)

/-- ITS FALSE NEIGHBOUR: 'it returns false'. Refute it at one input. -/
def fnFormatUUIDPlacesEveryNibbleWrong : ChangeSpec := { name := "fnFormatUUIDPlacesEveryNibble", fn := fun _ => fun
  | [d] => { results := [.lit (.bool false)], args := [d] }
  | _ => none }
def FnFormatUUIDPlacesEveryNibbleWrongFalsely : Prop := fnFormatUUIDPlacesEveryNibbleRow.holds Trym.pinned (OpenSpec.ofChange fnFormatUUIDPlacesEveryNibbleWrong)

/-- 'zzlaws_ipmi_b1.FnFormatUUIDOrdersAsBytesAndReadsBack': WHATEVER THE INPUT: true; the input reads as it did. -/
def fnFormatUUIDOrdersAsBytesAndReadsBackSpec : ChangeSpec := { name := "fnFormatUUIDOrdersAsBytesAndReadsBack", fn := fun _ => fun
  | [d1, d2] => { results := [.lit (.bool true)], args := [d1, d2] }
  | _ => none }
def fnFormatUUIDOrdersAsBytesAndReadsBackRow : OpenClaim := { program := "qxb6612450amods", sum := "7157053adf28bc51db9e611dc3e047100d3b7f23952c98bee19d1c2d9f23cecf", func := "example.com/fenceline/fenceline/zzlaws_ipmi_b1.FnFormatUUIDOrdersAsBytesAndReadsBack", spec := "fnFormatUUIDOrdersAsBytesAndReadsBack", make := .lifted ["publicsums"], apart := false }
def FnFormatUUIDOrdersAsBytesAndReadsBackSaid : Prop := fnFormatUUIDOrdersAsBytesAndReadsBackRow.holds Trym.pinned (OpenSpec.ofChange fnFormatUUIDOrdersAsBytesAndReadsBackSpec)

/-- ITS FALSE NEIGHBOUR: 'it returns false'. Refute it at one input. -/
def fnFormatUUIDOrdersAsBytesAndReadsBackWrong : ChangeSpec := { name := "fnFormatUUIDOrdersAsBytesAndReadsBack", fn := fun _ => fun
  | [d1, d2] => { results := [.lit (.bool false)], args := [d1, d2] }
  | _ => none }
def FnFormatUUIDOrdersAsBytesAndReadsBackWrongFalsely : Prop := fnFormatUUIDOrdersAsBytesAndReadsBackRow.holds Trym.pinned (OpenSpec.ofChange fnFormatUUIDOrdersAsBytesAndReadsBackWrong)

end Rows
end Go.Proofs.Qxb6612450aMods
