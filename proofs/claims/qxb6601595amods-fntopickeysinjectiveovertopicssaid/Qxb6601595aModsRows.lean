/-
  No cell of these rows narrows 'for every input' (looked for: loops, veiled, ifaces, maps, wideKeys, modest, calm, conditions, laid).
  DERIVED. THE GIVEN ROWS OF THIS SEAT. 3 by the template 'for every input the law returns true; each argument reads behind the call as it read before'; 0 by the template 'total and deterministic' (their statements: Qxb6601595aModsTotals.lean).
  GIVEN WITH THE SEED: the statements are not yours to turn. If you find one false, say at which input.
  Laid BY PROGRAM, IN A SANDBOX (cutbox-rows.mjs): the forced cells as the released guide's own fill.sh prints them over the translation a3532460221e0bb8… (all of the seat's roots in one cut). By AI agents, Wed Nov 11 2026. No macro, syntax, notation, axiom, sorry.
-/
import Derived.Test.Qxb6601595aModsChecked
import GoSem.Claim
import GoSem.ClaimJoined
import GoSem.ClaimMapViews
import Derived.JoinedTies
import Derived.KernelRfl
namespace Go.Proofs.Qxb6601595aMods
/- THE CELL 'sum', in the pinned program and in every row, IS THE sha256 OF THE DUMP (.gsa) THAT Qxb6601595aModsProg.lean LOADS. Nothing in Lean hashes anything: it is a label: what it is worth is what the hold of that sum in a sandbox is worth. -/
noncomputable def Trym.pinned : Pinned := { name := "qxb6601595amods", sum := "a3532460221e0bb8ef8a1e00602fd45679038a6338743b066c1b63ff61d4e79f", checked := Trym.checked }
namespace Rows
def none {H : Type} : Left H := { results := [], args := [] }

/-- 'zzlaws_internal_store_b1.FnTopicKeysPairwiseDistinct': WHATEVER THE INPUT: true; the input reads as it did. -/
def fnTopicKeysPairwiseDistinctSpec : ChangeSpec := { name := "fnTopicKeysPairwiseDistinct", fn := fun _ => fun
  | [d1, d2] => { results := [.lit (.bool true)], args := [d1, d2] }
  | _ => none }
def fnTopicKeysPairwiseDistinctRow : OpenClaim := { program := "qxb6601595amods", sum := "a3532460221e0bb8ef8a1e00602fd45679038a6338743b066c1b63ff61d4e79f", func := "example.com/idle-courier/idle-courier/zzlaws_internal_store_b1.FnTopicKeysPairwiseDistinct", spec := "fnTopicKeysPairwiseDistinct", make := .lifted ["publicsums"], apart := false }
def FnTopicKeysPairwiseDistinctSaid : Prop := fnTopicKeysPairwiseDistinctRow.holds Trym.pinned (OpenSpec.ofChange fnTopicKeysPairwiseDistinctSpec)

/-- ITS FALSE NEIGHBOUR: 'it returns false'. Refute it at one input. -/
def fnTopicKeysPairwiseDistinctWrong : ChangeSpec := { name := "fnTopicKeysPairwiseDistinct", fn := fun _ => fun
  | [d1, d2] => { results := [.lit (.bool false)], args := [d1, d2] }
  | _ => none }
def FnTopicKeysPairwiseDistinctWrongFalsely : Prop := fnTopicKeysPairwiseDistinctRow.holds Trym.pinned (OpenSpec.ofChange fnTopicKeysPairwiseDistinctWrong)

/-- 'zzlaws_internal_store_b1.FnTopicKeysShareTopicHashTag': WHATEVER THE INPUT: true; the input reads as it did. -/
def fnTopicKeysShareTopicHashTagSpec : ChangeSpec := { name := "fnTopicKeysShareTopicHashTag", fn := fun _ => fun
  | [d1, d2] => { results := [.lit (.bool true)], args := [d1, d2] }
  | _ => none }
def fnTopicKeysShareTopicHashTagRow : OpenClaim := { program := "qxb6601595amods", sum := "a3532460221e0bb8ef8a1e00602fd45679038a6338743b066c1b63ff61d4e79f", func := "example.com/idle-courier/idle-courier/zzlaws_internal_store_b1.FnTopicKeysShareTopicHashTag", spec := "fnTopicKeysShareTopicHashTag", make := .lifted ["publicsums"], apart := false }
def FnTopicKeysShareTopicHashTagSaid : Prop := fnTopicKeysShareTopicHashTagRow.holds Trym.pinned (OpenSpec.ofChange fnTopicKeysShareTopicHashTagSpec)

/-- ITS FALSE NEIGHBOUR: 'it returns false'. Refute it at one input. -/
def fnTopicKeysShareTopicHashTagWrong : ChangeSpec := { name := "fnTopicKeysShareTopicHashTag", fn := fun _ => fun
  | [d1, d2] => { results := [.lit (.bool false)], args := [d1, d2] }
  | _ => none }
def FnTopicKeysShareTopicHashTagWrongFalsely : Prop := fnTopicKeysShareTopicHashTagRow.holds Trym.pinned (OpenSpec.ofChange fnTopicKeysShareTopicHashTagWrong)

/-- 'zzlaws_internal_store_b1.FnTopicKeysInjectiveOverTopics': WHATEVER THE INPUT: true; the input reads as it did. -/
def fnTopicKeysInjectiveOverTopicsSpec : ChangeSpec := { name := "fnTopicKeysInjectiveOverTopics", fn := fun _ => fun
  | [d1, d2, d3, d4] => { results := [.lit (.bool true)], args := [d1, d2, d3, d4] }
  | _ => none }
def fnTopicKeysInjectiveOverTopicsRow : OpenClaim := { program := "qxb6601595amods", sum := "a3532460221e0bb8ef8a1e00602fd45679038a6338743b066c1b63ff61d4e79f", func := "example.com/idle-courier/idle-courier/zzlaws_internal_store_b1.FnTopicKeysInjectiveOverTopics", spec := "fnTopicKeysInjectiveOverTopics", make := .lifted ["publicsums"], apart := false }
def FnTopicKeysInjectiveOverTopicsSaid : Prop := fnTopicKeysInjectiveOverTopicsRow.holds Trym.pinned (OpenSpec.ofChange fnTopicKeysInjectiveOverTopicsSpec)

/-- ITS FALSE NEIGHBOUR: 'it returns false'. Refute it at one input. -/
def fnTopicKeysInjectiveOverTopicsWrong : ChangeSpec := { name := "fnTopicKeysInjectiveOverTopics", fn := fun _ => fun
  | [d1, d2, d3, d4] => { results := [.lit (.bool false)], args := [d1, d2, d3, d4] }
  | _ => none }
def FnTopicKeysInjectiveOverTopicsWrongFalsely : Prop := fnTopicKeysInjectiveOverTopicsRow.holds Trym.pinned (OpenSpec.ofChange fnTopicKeysInjectiveOverTopicsWrong)

end Rows
end Go.Proofs.Qxb6601595aMods
