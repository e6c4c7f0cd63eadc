/-
  No cell of these rows narrows 'for every input' (looked for: loops, veiled, ifaces, maps, wideKeys, modest, calm, conditions, laid).
  DERIVED. THE GIVEN ROWS OF THIS SEAT. 4 by the template 'for every input the law returns true; each argument reads behind the call as it read before'; 0 by the template 'total and deterministic' (their statements: Qxb6613596aTotals.lean).
  GIVEN WITH THE SEED: the statements are not yours to turn. If you find one false, say at which input.
  Laid BY PROGRAM, IN A SANDBOX (cutbox-rows.mjs): the forced cells as the released guide's own fill.sh prints them over the translation 265c5b07602d4a98… (all of the seat's roots in one cut). By AI agents, Wed Nov 11 2026. No macro, syntax, notation, axiom, sorry.
-/
import Derived.Test.Qxb6613596aChecked
import GoSem.Claim
import GoSem.ClaimJoined
import GoSem.ClaimMapViews
import Derived.JoinedTies
import Derived.KernelRfl
namespace Go.Proofs.Qxb6613596a
/- THE CELL 'sum', in the pinned program and in every row, IS THE sha256 OF THE DUMP (.gsa) THAT Qxb6613596aProg.lean LOADS. Nothing in Lean hashes anything: it is a label: what it is worth is what the hold of that sum in a sandbox is worth. -/
noncomputable def Try.pinned : Pinned := { name := "qxb6613596a", sum := "265c5b07602d4a98b90bbd3ed66bca00f6d31d39192d6c0a3a49fd2a74af6558", checked := Try.checked }
namespace Rows
def none {H : Type} : Left H := { results := [], args := [] }

/-- 'zzlaws_pkg_plan_b1.FnCountPartSignOppositeUnderNegation': WHATEVER THE INPUT: true; the input reads as it did. -/
def fnCountPartSignOppositeUnderNegationSpec : ChangeSpec := { name := "fnCountPartSignOppositeUnderNegation", fn := fun _ => fun
  | [d1, d2, d3] => { results := [.lit (.bool true)], args := [d1, d2, d3] }
  | _ => none }
def fnCountPartSignOppositeUnderNegationRow : OpenClaim := { program := "qxb6613596a", sum := "265c5b07602d4a98b90bbd3ed66bca00f6d31d39192d6c0a3a49fd2a74af6558", func := "example.com/vestline/vestline/zzlaws_pkg_plan_b1.FnCountPartSignOppositeUnderNegation", spec := "fnCountPartSignOppositeUnderNegation", apart := false }
def FnCountPartSignOppositeUnderNegationSaid : Prop := fnCountPartSignOppositeUnderNegationRow.holds Try.pinned (OpenSpec.ofChange fnCountPartSignOppositeUnderNegationSpec)

/-- ITS FALSE NEIGHBOUR: 'it returns false'. Refute it at one input. -/
def fnCountPartSignOppositeUnderNegationWrong : ChangeSpec := { name := "fnCountPartSignOppositeUnderNegation", fn := fun _ => fun
  | [d1, d2, d3] => { results := [.lit (.bool false)], args := [d1, d2, d3] }
  | _ => none }
def FnCountPartSignOppositeUnderNegationWrongFalsely : Prop := fnCountPartSignOppositeUnderNegationRow.holds Try.pinned (OpenSpec.ofChange fnCountPartSignOppositeUnderNegationWrong)

/-- 'zzlaws_pkg_plan_b1.FnCountPartSignMultiplies': WHATEVER THE INPUT: true; the input reads as it did. -/
def fnCountPartSignMultipliesSpec : ChangeSpec := { name := "fnCountPartSignMultiplies", fn := fun _ => fun
  | [d1, d2, d3, d4, d5] => { results := [.lit (.bool true)], args := [d1, d2, d3, d4, d5] }
  | _ => none }
def fnCountPartSignMultipliesRow : OpenClaim := { program := "qxb6613596a", sum := "265c5b07602d4a98b90bbd3ed66bca00f6d31d39192d6c0a3a49fd2a74af6558", func := "example.com/vestline/vestline/zzlaws_pkg_plan_b1.FnCountPartSignMultiplies", spec := "fnCountPartSignMultiplies", apart := false }
def FnCountPartSignMultipliesSaid : Prop := fnCountPartSignMultipliesRow.holds Try.pinned (OpenSpec.ofChange fnCountPartSignMultipliesSpec)

/-- ITS FALSE NEIGHBOUR: 'it returns false'. Refute it at one input. -/
def fnCountPartSignMultipliesWrong : ChangeSpec := { name := "fnCountPartSignMultiplies", fn := fun _ => fun
  | [d1, d2, d3, d4, d5] => { results := [.lit (.bool false)], args := [d1, d2, d3, d4, d5] }
  | _ => none }
def FnCountPartSignMultipliesWrongFalsely : Prop := fnCountPartSignMultipliesRow.holds Try.pinned (OpenSpec.ofChange fnCountPartSignMultipliesWrong)

/-- 'zzlaws_pkg_plan_b1.FnCheckerAddRecordsEveryProblemInOrder': WHATEVER THE INPUT: true; the input reads as it did. -/
def fnCheckerAddRecordsEveryProblemInOrderSpec : ChangeSpec := { name := "fnCheckerAddRecordsEveryProblemInOrder", fn := fun _ => fun
  | [d1, d2] => { results := [.lit (.bool true)], args := [d1, d2] }
  | _ => none }
def fnCheckerAddRecordsEveryProblemInOrderRow : OpenClaim := { program := "qxb6613596a", sum := "265c5b07602d4a98b90bbd3ed66bca00f6d31d39192d6c0a3a49fd2a74af6558", func := "example.com/vestline/vestline/zzlaws_pkg_plan_b1.FnCheckerAddRecordsEveryProblemInOrder", spec := "fnCheckerAddRecordsEveryProblemInOrder", apart := false }
def FnCheckerAddRecordsEveryProblemInOrderSaid : Prop := fnCheckerAddRecordsEveryProblemInOrderRow.holds Try.pinned (OpenSpec.ofChange fnCheckerAddRecordsEveryProblemInOrderSpec)

/-- ITS FALSE NEIGHBOUR: 'it returns false'. Refute it at one input. -/
def fnCheckerAddRecordsEveryProblemInOrderWrong : ChangeSpec := { name := "fnCheckerAddRecordsEveryProblemInOrder", fn := fun _ => fun
  | [d1, d2] => { results := [.lit (.bool false)], args := [d1, d2] }
  | _ => none }
def FnCheckerAddRecordsEveryProblemInOrderWrongFalsely : Prop := fnCheckerAddRecordsEveryProblemInOrderRow.holds Try.pinned (OpenSpec.ofChange fnCheckerAddRecordsEveryProblemInOrderWrong)

/-- 'zzlaws_pkg_plan_b1.FnCheckerAddKeepsCheckersApart': WHATEVER THE INPUT: true; the input reads as it did. -/
def fnCheckerAddKeepsCheckersApartSpec : ChangeSpec := { name := "fnCheckerAddKeepsCheckersApart", fn := fun _ => fun
  | [d1, d2, d3] => { results := [.lit (.bool true)], args := [d1, d2, d3] }
  | _ => none }
def fnCheckerAddKeepsCheckersApartRow : OpenClaim := { program := "qxb6613596a", sum := "265c5b07602d4a98b90bbd3ed66bca00f6d31d39192d6c0a3a49fd2a74af6558", func := "example.com/vestline/vestline/zzlaws_pkg_plan_b1.FnCheckerAddKeepsCheckersApart", spec := "fnCheckerAddKeepsCheckersApart", apart := false }
def FnCheckerAddKeepsCheckersApartSaid : Prop := fnCheckerAddKeepsCheckersApartRow.holds Try.pinned (OpenSpec.ofChange fnCheckerAddKeepsCheckersApartSpec)

/-- ITS FALSE NEIGHBOUR: 'it returns false'. Refute it at one input. -/
def fnCheckerAddKeepsCheckersApartWrong : ChangeSpec := { name := "fnCheckerAddKeepsCheckersApart", fn := fun _ => fun
  | [d1, d2, d3] => { results := [.lit (.bool false)], args := [d1, d2, d3] }
  | _ => none }
def FnCheckerAddKeepsCheckersApartWrongFalsely : Prop := fnCheckerAddKeepsCheckersApartRow.holds Try.pinned (OpenSpec.ofChange fnCheckerAddKeepsCheckersApartWrong)

end Rows
end Go.Proofs.Qxb6613596a
