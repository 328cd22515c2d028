/-
  No cell of these rows narrows 'for every input' (looked for: loops, veiled, ifaces, maps, wideKeys, modest, calm, conditions, laid).
  DERIVED. THE GIVEN ROWS OF THIS SEAT. 4 by the template 'for every input the law returns true; each argument reads behind the call as it read before'; 0 by the template 'total and deterministic' (their statements: Qxb6601157aTotals.lean).
  GIVEN WITH THE SEED: the statements are not yours to turn. If you find one false, say at which input.
  Laid BY PROGRAM, IN A SANDBOX (cutbox-rows.mjs): the forced cells as the released guide's own fill.sh prints them over the translation a6f1d6d5dd00d608… (all of the seat's roots in one cut). By AI agents, Wed Nov 11 2026. No macro, syntax, notation, axiom, sorry.
-/
import Derived.Test.Qxb6601157aChecked
import GoSem.Claim
import GoSem.ClaimJoined
import GoSem.ClaimMapViews
import Derived.JoinedTies
import Derived.KernelRfl
namespace Go.Proofs.Qxb6601157a
/- THE CELL 'sum', in the pinned program and in every row, IS THE sha256 OF THE DUMP (.gsa) THAT Qxb6601157aProg.lean LOADS. Nothing in Lean hashes anything: it is a label: what it is worth is what the hold of that sum in a sandbox is worth. -/
noncomputable def Try.pinned : Pinned := { name := "qxb6601157a", sum := "a6f1d6d5dd00d60885567c3453912a96debb74e5e0b81d57df9b4898562b719a", checked := Try.checked }
namespace Rows
def none {H : Type} : Left H := { results := [], args := [] }

/-- 'zzlaws_ba_b1.FnHearFollowsHighest': WHATEVER THE INPUT: true; the input reads as it did. -/
def fnHearFollowsHighestSpec : ChangeSpec := { name := "fnHearFollowsHighest", fn := fun _ => fun
  | [d1, d2, d3, d4] => { results := [.lit (.bool true)], args := [d1, d2, d3, d4] }
  | _ => none }
def fnHearFollowsHighestRow : OpenClaim := { program := "qxb6601157a", sum := "a6f1d6d5dd00d60885567c3453912a96debb74e5e0b81d57df9b4898562b719a", func := "example.com/thriftcast/thriftcast/zzlaws_ba_b1.FnHearFollowsHighest", spec := "fnHearFollowsHighest", apart := false }
def FnHearFollowsHighestSaid : Prop := fnHearFollowsHighestRow.holds Try.pinned (OpenSpec.ofChange fnHearFollowsHighestSpec)

/-- ITS FALSE NEIGHBOUR: 'it returns false'. Refute it at one input. -/
def fnHearFollowsHighestWrong : ChangeSpec := { name := "fnHearFollowsHighest", fn := fun _ => fun
  | [d1, d2, d3, d4] => { results := [.lit (.bool false)], args := [d1, d2, d3, d4] }
  | _ => none }
def FnHearFollowsHighestWrongFalsely : Prop := fnHearFollowsHighestRow.holds Try.pinned (OpenSpec.ofChange fnHearFollowsHighestWrong)

/-- 'zzlaws_ba_b1.FnHearRepeatIsNoOpAndNeverLowers': WHATEVER THE INPUT: true; the input reads as it did. -/
def fnHearRepeatIsNoOpAndNeverLowersSpec : ChangeSpec := { name := "fnHearRepeatIsNoOpAndNeverLowers", fn := fun _ => fun
  | [d1, d2, d3, d4] => { results := [.lit (.bool true)], args := [d1, d2, d3, d4] }
  | _ => none }
def fnHearRepeatIsNoOpAndNeverLowersRow : OpenClaim := { program := "qxb6601157a", sum := "a6f1d6d5dd00d60885567c3453912a96debb74e5e0b81d57df9b4898562b719a", func := "example.com/thriftcast/thriftcast/zzlaws_ba_b1.FnHearRepeatIsNoOpAndNeverLowers", spec := "fnHearRepeatIsNoOpAndNeverLowers", apart := false }
def FnHearRepeatIsNoOpAndNeverLowersSaid : Prop := fnHearRepeatIsNoOpAndNeverLowersRow.holds Try.pinned (OpenSpec.ofChange fnHearRepeatIsNoOpAndNeverLowersSpec)

/-- ITS FALSE NEIGHBOUR: 'it returns false'. Refute it at one input. -/
def fnHearRepeatIsNoOpAndNeverLowersWrong : ChangeSpec := { name := "fnHearRepeatIsNoOpAndNeverLowers", fn := fun _ => fun
  | [d1, d2, d3, d4] => { results := [.lit (.bool false)], args := [d1, d2, d3, d4] }
  | _ => none }
def FnHearRepeatIsNoOpAndNeverLowersWrongFalsely : Prop := fnHearRepeatIsNoOpAndNeverLowersRow.holds Try.pinned (OpenSpec.ofChange fnHearRepeatIsNoOpAndNeverLowersWrong)

/-- 'zzlaws_ba_b1.FnValuesIsPreferredReachableUnion': WHATEVER THE INPUT: true; the input reads as it did. -/
def fnValuesIsPreferredReachableUnionSpec : ChangeSpec := { name := "fnValuesIsPreferredReachableUnion", fn := fun _ => fun
  | [d1, d2, d3, d4] => { results := [.lit (.bool true)], args := [d1, d2, d3, d4] }
  | _ => none }
def fnValuesIsPreferredReachableUnionRow : OpenClaim := { program := "qxb6601157a", sum := "a6f1d6d5dd00d60885567c3453912a96debb74e5e0b81d57df9b4898562b719a", func := "example.com/thriftcast/thriftcast/zzlaws_ba_b1.FnValuesIsPreferredReachableUnion", spec := "fnValuesIsPreferredReachableUnion", unfollowed := true, recurses := true, apart := false }
def FnValuesIsPreferredReachableUnionSaid : Prop := fnValuesIsPreferredReachableUnionRow.holds Try.pinned (OpenSpec.ofChange fnValuesIsPreferredReachableUnionSpec)

/-- ITS FALSE NEIGHBOUR: 'it returns false'. Refute it at one input. -/
def fnValuesIsPreferredReachableUnionWrong : ChangeSpec := { name := "fnValuesIsPreferredReachableUnion", fn := fun _ => fun
  | [d1, d2, d3, d4] => { results := [.lit (.bool false)], args := [d1, d2, d3, d4] }
  | _ => none }
def FnValuesIsPreferredReachableUnionWrongFalsely : Prop := fnValuesIsPreferredReachableUnionRow.holds Try.pinned (OpenSpec.ofChange fnValuesIsPreferredReachableUnionWrong)

/-- 'zzlaws_ba_b1.FnValuesOrderFreeAndMonotone': WHATEVER THE INPUT: true; the input reads as it did. -/
def fnValuesOrderFreeAndMonotoneSpec : ChangeSpec := { name := "fnValuesOrderFreeAndMonotone", fn := fun _ => fun
  | [d1, d2, d3, d4, d5] => { results := [.lit (.bool true)], args := [d1, d2, d3, d4, d5] }
  | _ => none }
def fnValuesOrderFreeAndMonotoneRow : OpenClaim := { program := "qxb6601157a", sum := "a6f1d6d5dd00d60885567c3453912a96debb74e5e0b81d57df9b4898562b719a", func := "example.com/thriftcast/thriftcast/zzlaws_ba_b1.FnValuesOrderFreeAndMonotone", spec := "fnValuesOrderFreeAndMonotone", unfollowed := true, recurses := true, apart := false }
def FnValuesOrderFreeAndMonotoneSaid : Prop := fnValuesOrderFreeAndMonotoneRow.holds Try.pinned (OpenSpec.ofChange fnValuesOrderFreeAndMonotoneSpec)

/-- ITS FALSE NEIGHBOUR: 'it returns false'. Refute it at one input. -/
def fnValuesOrderFreeAndMonotoneWrong : ChangeSpec := { name := "fnValuesOrderFreeAndMonotone", fn := fun _ => fun
  | [d1, d2, d3, d4, d5] => { results := [.lit (.bool false)], args := [d1, d2, d3, d4, d5] }
  | _ => none }
def FnValuesOrderFreeAndMonotoneWrongFalsely : Prop := fnValuesOrderFreeAndMonotoneRow.holds Try.pinned (OpenSpec.ofChange fnValuesOrderFreeAndMonotoneWrong)

end Rows
end Go.Proofs.Qxb6601157a
