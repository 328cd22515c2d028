/-
  No cell of these rows narrows 'for every input' (looked for: loops, veiled, ifaces, maps, wideKeys, modest, calm, conditions, laid).
  DERIVED. THE GIVEN ROWS OF THIS SEAT. 4 by the template 'for every input the law returns true; each argument reads behind the call as it read before'; 0 by the template 'total and deterministic' (their statements: Qxb6601145aTotals.lean).
  GIVEN WITH THE SEED: the statements are not yours to turn. If you find one false, say at which input.
  Laid BY PROGRAM, IN A SANDBOX (cutbox-rows.mjs): the forced cells as the released guide's own fill.sh prints them over the translation ad0c25c0b534b904… (all of the seat's roots in one cut). By AI agents, Wed Nov 11 2026. No macro, syntax, notation, axiom, sorry.
-/
import Derived.Test.Qxb6601145aChecked
import GoSem.Claim
import GoSem.ClaimJoined
import GoSem.ClaimMapViews
import Derived.JoinedTies
import Derived.KernelRfl
namespace Go.Proofs.Qxb6601145a
/- THE CELL 'sum', in the pinned program and in every row, IS THE sha256 OF THE DUMP (.gsa) THAT Qxb6601145aProg.lean LOADS. Nothing in Lean hashes anything: it is a label: what it is worth is what the hold of that sum in a sandbox is worth. -/
noncomputable def Try.pinned : Pinned := { name := "qxb6601145a", sum := "ad0c25c0b534b9046d87af58baea8aefb8c9beacc74fe2fd2ca2ae8f88058135", checked := Try.checked }
namespace Rows
def none {H : Type} : Left H := { results := [], args := [] }

/-- 'zzlaws_pkg_api_b1.FnScanIntegerMatchesGrammarSearch': WHATEVER THE INPUT: true; the input reads as it did. -/
def fnScanIntegerMatchesGrammarSearchSpec : ChangeSpec := { name := "fnScanIntegerMatchesGrammarSearch", fn := fun _ => fun
  | [d1, d2] => { results := [.lit (.bool true)], args := [d1, d2] }
  | _ => none }
def fnScanIntegerMatchesGrammarSearchRow : OpenClaim := { program := "qxb6601145a", sum := "ad0c25c0b534b9046d87af58baea8aefb8c9beacc74fe2fd2ca2ae8f88058135", func := "example.com/tierline/tierline/zzlaws_pkg_api_b1.FnScanIntegerMatchesGrammarSearch", spec := "fnScanIntegerMatchesGrammarSearch", apart := false }
def FnScanIntegerMatchesGrammarSearchSaid : Prop := fnScanIntegerMatchesGrammarSearchRow.holds Try.pinned (OpenSpec.ofChange fnScanIntegerMatchesGrammarSearchSpec)

/-- ITS FALSE NEIGHBOUR: 'it returns false'. Refute it at one input. -/
def fnScanIntegerMatchesGrammarSearchWrong : ChangeSpec := { name := "fnScanIntegerMatchesGrammarSearch", fn := fun _ => fun
  | [d1, d2] => { results := [.lit (.bool false)], args := [d1, d2] }
  | _ => none }
def FnScanIntegerMatchesGrammarSearchWrongFalsely : Prop := fnScanIntegerMatchesGrammarSearchRow.holds Try.pinned (OpenSpec.ofChange fnScanIntegerMatchesGrammarSearchWrong)

/-- 'zzlaws_pkg_api_b1.FnScanIntegerReadsBackEveryInt64': WHATEVER THE INPUT: true; the input reads as it did. -/
def fnScanIntegerReadsBackEveryInt64Spec : ChangeSpec := { name := "fnScanIntegerReadsBackEveryInt64", fn := fun _ => fun
  | [d1, d2, d3] => { results := [.lit (.bool true)], args := [d1, d2, d3] }
  | _ => none }
def fnScanIntegerReadsBackEveryInt64Row : OpenClaim := { program := "qxb6601145a", sum := "ad0c25c0b534b9046d87af58baea8aefb8c9beacc74fe2fd2ca2ae8f88058135", func := "example.com/tierline/tierline/zzlaws_pkg_api_b1.FnScanIntegerReadsBackEveryInt64", spec := "fnScanIntegerReadsBackEveryInt64", apart := false }
def FnScanIntegerReadsBackEveryInt64Said : Prop := fnScanIntegerReadsBackEveryInt64Row.holds Try.pinned (OpenSpec.ofChange fnScanIntegerReadsBackEveryInt64Spec)

/-- ITS FALSE NEIGHBOUR: 'it returns false'. Refute it at one input. -/
def fnScanIntegerReadsBackEveryInt64Wrong : ChangeSpec := { name := "fnScanIntegerReadsBackEveryInt64", fn := fun _ => fun
  | [d1, d2, d3] => { results := [.lit (.bool false)], args := [d1, d2, d3] }
  | _ => none }
def FnScanIntegerReadsBackEveryInt64WrongFalsely : Prop := fnScanIntegerReadsBackEveryInt64Row.holds Try.pinned (OpenSpec.ofChange fnScanIntegerReadsBackEveryInt64Wrong)

/-- 'zzlaws_pkg_api_b1.FnScanStringMatchesTwoPassModel': WHATEVER THE INPUT: true; the input reads as it did. -/
def fnScanStringMatchesTwoPassModelSpec : ChangeSpec := { name := "fnScanStringMatchesTwoPassModel", fn := fun _ => fun
  | [d1, d2] => { results := [.lit (.bool true)], args := [d1, d2] }
  | _ => none }
def fnScanStringMatchesTwoPassModelRow : OpenClaim := { program := "qxb6601145a", sum := "ad0c25c0b534b9046d87af58baea8aefb8c9beacc74fe2fd2ca2ae8f88058135", func := "example.com/tierline/tierline/zzlaws_pkg_api_b1.FnScanStringMatchesTwoPassModel", spec := "fnScanStringMatchesTwoPassModel", apart := false }
def FnScanStringMatchesTwoPassModelSaid : Prop := fnScanStringMatchesTwoPassModelRow.holds Try.pinned (OpenSpec.ofChange fnScanStringMatchesTwoPassModelSpec)

/-- ITS FALSE NEIGHBOUR: 'it returns false'. Refute it at one input. -/
def fnScanStringMatchesTwoPassModelWrong : ChangeSpec := { name := "fnScanStringMatchesTwoPassModel", fn := fun _ => fun
  | [d1, d2] => { results := [.lit (.bool false)], args := [d1, d2] }
  | _ => none }
def FnScanStringMatchesTwoPassModelWrongFalsely : Prop := fnScanStringMatchesTwoPassModelRow.holds Try.pinned (OpenSpec.ofChange fnScanStringMatchesTwoPassModelWrong)

/-- 'zzlaws_pkg_api_b1.FnScanStringReadsBackPlainText': WHATEVER THE INPUT: true; the input reads as it did. -/
def fnScanStringReadsBackPlainTextSpec : ChangeSpec := { name := "fnScanStringReadsBackPlainText", fn := fun _ => fun
  | [d1, d2, d3] => { results := [.lit (.bool true)], args := [d1, d2, d3] }
  | _ => none }
def fnScanStringReadsBackPlainTextRow : OpenClaim := { program := "qxb6601145a", sum := "ad0c25c0b534b9046d87af58baea8aefb8c9beacc74fe2fd2ca2ae8f88058135", func := "example.com/tierline/tierline/zzlaws_pkg_api_b1.FnScanStringReadsBackPlainText", spec := "fnScanStringReadsBackPlainText", apart := false }
def FnScanStringReadsBackPlainTextSaid : Prop := fnScanStringReadsBackPlainTextRow.holds Try.pinned (OpenSpec.ofChange fnScanStringReadsBackPlainTextSpec)

/-- ITS FALSE NEIGHBOUR: 'it returns false'. Refute it at one input. -/
def fnScanStringReadsBackPlainTextWrong : ChangeSpec := { name := "fnScanStringReadsBackPlainText", fn := fun _ => fun
  | [d1, d2, d3] => { results := [.lit (.bool false)], args := [d1, d2, d3] }
  | _ => none }
def FnScanStringReadsBackPlainTextWrongFalsely : Prop := fnScanStringReadsBackPlainTextRow.holds Try.pinned (OpenSpec.ofChange fnScanStringReadsBackPlainTextWrong)

end Rows
end Go.Proofs.Qxb6601145a
