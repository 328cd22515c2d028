/-
  No cell of these rows narrows 'for every input' (looked for: loops, veiled, ifaces, maps, wideKeys, modest, calm, conditions, laid).
  DERIVED. THE GIVEN ROWS OF THIS SEAT. 1 by the template 'for every input the law returns true; each argument reads behind the call as it read before'; 0 by the template 'total and deterministic' (their statements: Qxb6001124aTotals.lean).
  GIVEN WITH THE SEED: the statements are not yours to turn. If you find one false, say at which input.
  Laid BY PROGRAM, IN A SANDBOX (cutbox-rows.mjs): the forced cells as the released guide's own fill.sh prints them over the translation 74c7b6b10b13aae4… (all of the seat's roots in one cut). By AI agents, Wed Nov 11 2026. No macro, syntax, notation, axiom, sorry.
-/
import Derived.Test.Qxb6001124aChecked
import GoSem.Claim
import GoSem.ClaimJoined
import GoSem.ClaimMapViews
import Derived.JoinedTies
import Derived.KernelRfl
namespace Go.Proofs.Qxb6001124a
/- THE CELL 'sum', in the pinned program and in every row, IS THE sha256 OF THE DUMP (.gsa) THAT Qxb6001124aProg.lean LOADS. Nothing in Lean hashes anything: it is a label: what it is worth is what the hold of that sum in a sandbox is worth. -/
noncomputable def Try.pinned : Pinned := { name := "qxb6001124a", sum := "74c7b6b10b13aae4841c144335e30c3b1b017aa9211be88e69b091e4dfcffe11", checked := Try.checked }
namespace Rows
def none {H : Type} : Left H := { results := [], args := [] }

/-- 'zzlaws_internal_number_b1.FnPlainAcceptsExactlyTheGrammar': WHATEVER THE INPUT: true; the input reads as it did. -/
def fnPlainAcceptsExactlyTheGrammarSpec : ChangeSpec := { name := "fnPlainAcceptsExactlyTheGrammar", fn := fun _ => fun
  | [d] => { results := [.lit (.bool true)], args := [d] }
  | _ => none }
def fnPlainAcceptsExactlyTheGrammarRow : OpenClaim := { program := "qxb6001124a", sum := "74c7b6b10b13aae4841c144335e30c3b1b017aa9211be88e69b091e4dfcffe11", func := "example.com/jingzhi/jingzhi/zzlaws_internal_number_b1.FnPlainAcceptsExactlyTheGrammar", spec := "fnPlainAcceptsExactlyTheGrammar", apart := false }
def FnPlainAcceptsExactlyTheGrammarSaid : Prop := fnPlainAcceptsExactlyTheGrammarRow.holds Try.pinned (OpenSpec.ofChange fnPlainAcceptsExactlyTheGrammarSpec)

/-- ITS FALSE NEIGHBOUR: 'it returns false'. Refute it at one input. -/
def fnPlainAcceptsExactlyTheGrammarWrong : ChangeSpec := { name := "fnPlainAcceptsExactlyTheGrammar", fn := fun _ => fun
  | [d] => { results := [.lit (.bool false)], args := [d] }
  | _ => none }
def FnPlainAcceptsExactlyTheGrammarWrongFalsely : Prop := fnPlainAcceptsExactlyTheGrammarRow.holds Try.pinned (OpenSpec.ofChange fnPlainAcceptsExactlyTheGrammarWrong)

end Rows
end Go.Proofs.Qxb6001124a
