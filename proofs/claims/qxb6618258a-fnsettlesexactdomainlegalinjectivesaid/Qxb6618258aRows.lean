/-
  No cell of these rows narrows 'for every input' (looked for: loops, veiled, ifaces, maps, wideKeys, modest, calm, conditions, laid).
  DERIVED. THE GIVEN ROWS OF THIS SEAT. 1 by the template 'for every input the law returns true; each argument reads behind the call as it read before'; 0 by the template 'total and deterministic' (their statements: Qxb6618258aTotals.lean).
  GIVEN WITH THE SEED: the statements are not yours to turn. If you find one false, say at which input.
  Laid BY PROGRAM, IN A SANDBOX (cutbox-rows.mjs): the forced cells as the released guide's own fill.sh prints them over the translation f6444ae000918796… (all of the seat's roots in one cut). By AI agents, Wed Nov 11 2026. No macro, syntax, notation, axiom, sorry.
-/
import Derived.Test.Qxb6618258aChecked
import GoSem.Claim
import GoSem.ClaimJoined
import GoSem.ClaimMapViews
import Derived.JoinedTies
import Derived.KernelRfl
namespace Go.Proofs.Qxb6618258a
/- THE CELL 'sum', in the pinned program and in every row, IS THE sha256 OF THE DUMP (.gsa) THAT Qxb6618258aProg.lean LOADS. Nothing in Lean hashes anything: it is a label: what it is worth is what the hold of that sum in a sandbox is worth. -/
noncomputable def Try.pinned : Pinned := { name := "qxb6618258a", sum := "f6444ae0009187968350e9ccd0d174c1973d79e65b0b4d766ef663435fceea5c", checked := Try.checked }
namespace Rows
def none {H : Type} : Left H := { results := [], args := [] }

/-- 'zzlaws_protocol_b1.FnSettlesExactDomainLegalInjective': WHATEVER THE INPUT: true; the input reads as it did. -/
def fnSettlesExactDomainLegalInjectiveSpec : ChangeSpec := { name := "fnSettlesExactDomainLegalInjective", fn := fun _ => fun
  | [d1, d2] => { results := [.lit (.bool true)], args := [d1, d2] }
  | _ => none }
def fnSettlesExactDomainLegalInjectiveRow : OpenClaim := { program := "qxb6618258a", sum := "f6444ae0009187968350e9ccd0d174c1973d79e65b0b4d766ef663435fceea5c", func := "example.com/promissory/promissory/zzlaws_protocol_b1.FnSettlesExactDomainLegalInjective", spec := "fnSettlesExactDomainLegalInjective", apart := false }
def FnSettlesExactDomainLegalInjectiveSaid : Prop := fnSettlesExactDomainLegalInjectiveRow.holds Try.pinned (OpenSpec.ofChange fnSettlesExactDomainLegalInjectiveSpec)

/-- ITS FALSE NEIGHBOUR: 'it returns false'. Refute it at one input. -/
def fnSettlesExactDomainLegalInjectiveWrong : ChangeSpec := { name := "fnSettlesExactDomainLegalInjective", fn := fun _ => fun
  | [d1, d2] => { results := [.lit (.bool false)], args := [d1, d2] }
  | _ => none }
def FnSettlesExactDomainLegalInjectiveWrongFalsely : Prop := fnSettlesExactDomainLegalInjectiveRow.holds Try.pinned (OpenSpec.ofChange fnSettlesExactDomainLegalInjectiveWrong)

end Rows
end Go.Proofs.Qxb6618258a
