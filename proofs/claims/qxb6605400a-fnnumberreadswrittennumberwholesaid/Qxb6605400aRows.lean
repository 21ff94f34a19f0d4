/-
  No cell of these rows narrows 'for every input' (looked for: loops, veiled, ifaces, maps, wideKeys, modest, calm, conditions, laid).
  DERIVED. THE GIVEN ROWS OF THIS SEAT. 2 by the template 'for every input the law returns true; each argument reads behind the call as it read before'; 0 by the template 'total and deterministic' (their statements: Qxb6605400aTotals.lean).
  GIVEN WITH THE SEED: the statements are not yours to turn. If you find one false, say at which input.
  Laid BY PROGRAM, IN A SANDBOX (cutbox-rows.mjs): the forced cells as the released guide's own fill.sh prints them over the translation b13f546014e9fe19… (all of the seat's roots in one cut). By AI agents, Wed Nov 11 2026. No macro, syntax, notation, axiom, sorry.
-/
import Derived.Test.Qxb6605400aChecked
import GoSem.Claim
import GoSem.ClaimJoined
import GoSem.ClaimMapViews
import Derived.JoinedTies
import Derived.KernelRfl
namespace Go.Proofs.Qxb6605400a
/- THE CELL 'sum', in the pinned program and in every row, IS THE sha256 OF THE DUMP (.gsa) THAT Qxb6605400aProg.lean LOADS. Nothing in Lean hashes anything: it is a label: what it is worth is what the hold of that sum in a sandbox is worth. -/
noncomputable def Try.pinned : Pinned := { name := "qxb6605400a", sum := "b13f546014e9fe193eb9b71452886d5d6494665d997489e3610231cd90eeaaf6", checked := Try.checked }
namespace Rows
def none {H : Type} : Left H := { results := [], args := [] }

/-- 'zzlaws_internal_jsonscan_b1.FnNumberMatchesGrammarMachine': WHATEVER THE INPUT: true; the input reads as it did. -/
def fnNumberMatchesGrammarMachineSpec : ChangeSpec := { name := "fnNumberMatchesGrammarMachine", fn := fun _ => fun
  | [d1, d2] => { results := [.lit (.bool true)], args := [d1, d2] }
  | _ => none }
def fnNumberMatchesGrammarMachineRow : OpenClaim := { program := "qxb6605400a", sum := "b13f546014e9fe193eb9b71452886d5d6494665d997489e3610231cd90eeaaf6", func := "example.com/tidings/tidings/zzlaws_internal_jsonscan_b1.FnNumberMatchesGrammarMachine", spec := "fnNumberMatchesGrammarMachine", apart := false }
def FnNumberMatchesGrammarMachineSaid : Prop := fnNumberMatchesGrammarMachineRow.holds Try.pinned (OpenSpec.ofChange fnNumberMatchesGrammarMachineSpec)

/-- ITS FALSE NEIGHBOUR: 'it returns false'. Refute it at one input. -/
def fnNumberMatchesGrammarMachineWrong : ChangeSpec := { name := "fnNumberMatchesGrammarMachine", fn := fun _ => fun
  | [d1, d2] => { results := [.lit (.bool false)], args := [d1, d2] }
  | _ => none }
def FnNumberMatchesGrammarMachineWrongFalsely : Prop := fnNumberMatchesGrammarMachineRow.holds Try.pinned (OpenSpec.ofChange fnNumberMatchesGrammarMachineWrong)

/-- 'zzlaws_internal_jsonscan_b1.FnNumberReadsWrittenNumberWhole': WHATEVER THE INPUT: true; the input reads as it did. -/
def fnNumberReadsWrittenNumberWholeSpec : ChangeSpec := { name := "fnNumberReadsWrittenNumberWhole", fn := fun _ => fun
  | [d1, d2, d3, d4, d5, d6, d7] => { results := [.lit (.bool true)], args := [d1, d2, d3, d4, d5, d6, d7] }
  | _ => none }
def fnNumberReadsWrittenNumberWholeRow : OpenClaim := { program := "qxb6605400a", sum := "b13f546014e9fe193eb9b71452886d5d6494665d997489e3610231cd90eeaaf6", func := "example.com/tidings/tidings/zzlaws_internal_jsonscan_b1.FnNumberReadsWrittenNumberWhole", spec := "fnNumberReadsWrittenNumberWhole", apart := false }
def FnNumberReadsWrittenNumberWholeSaid : Prop := fnNumberReadsWrittenNumberWholeRow.holds Try.pinned (OpenSpec.ofChange fnNumberReadsWrittenNumberWholeSpec)

/-- ITS FALSE NEIGHBOUR: 'it returns false'. Refute it at one input. -/
def fnNumberReadsWrittenNumberWholeWrong : ChangeSpec := { name := "fnNumberReadsWrittenNumberWhole", fn := fun _ => fun
  | [d1, d2, d3, d4, d5, d6, d7] => { results := [.lit (.bool false)], args := [d1, d2, d3, d4, d5, d6, d7] }
  | _ => none }
def FnNumberReadsWrittenNumberWholeWrongFalsely : Prop := fnNumberReadsWrittenNumberWholeRow.holds Try.pinned (OpenSpec.ofChange fnNumberReadsWrittenNumberWholeWrong)

end Rows
end Go.Proofs.Qxb6605400a
