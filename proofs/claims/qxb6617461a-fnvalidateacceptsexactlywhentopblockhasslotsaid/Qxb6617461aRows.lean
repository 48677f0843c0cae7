/-
  No cell of these rows narrows 'for every input' (looked for: loops, veiled, ifaces, maps, wideKeys, modest, calm, conditions, laid).
  DERIVED. THE GIVEN ROWS OF THIS SEAT. 1 by the template 'for every input the law returns true; each argument reads behind the call as it read before'; 0 by the template 'total and deterministic' (their statements: Qxb6617461aTotals.lean).
  GIVEN WITH THE SEED: the statements are not yours to turn. If you find one false, say at which input.
  Laid BY PROGRAM, IN A SANDBOX (cutbox-rows.mjs): the forced cells as the released guide's own fill.sh prints them over the translation 67c88d0186ded5ee… (all of the seat's roots in one cut). By AI agents, Wed Nov 11 2026. No macro, syntax, notation, axiom, sorry.
-/
import Derived.Test.Qxb6617461aChecked
import GoSem.Claim
import GoSem.ClaimJoined
import GoSem.ClaimMapViews
import Derived.JoinedTies
import Derived.KernelRfl
namespace Go.Proofs.Qxb6617461a
/- THE CELL 'sum', in the pinned program and in every row, IS THE sha256 OF THE DUMP (.gsa) THAT Qxb6617461aProg.lean LOADS. Nothing in Lean hashes anything: it is a label: what it is worth is what the hold of that sum in a sandbox is worth. -/
noncomputable def Try.pinned : Pinned := { name := "qxb6617461a", sum := "67c88d0186ded5eed398349bde334042a4d13a2202925225112599cc5a5b2391", checked := Try.checked }
namespace Rows
def none {H : Type} : Left H := { results := [], args := [] }

/-- 'zzlaws_pkg_rotation_e1.FnValidateAcceptsExactlyWhenTopBlockHasSlot': WHATEVER THE INPUT: true; the input reads as it did. -/
def fnValidateAcceptsExactlyWhenTopBlockHasSlotSpec : ChangeSpec := { name := "fnValidateAcceptsExactlyWhenTopBlockHasSlot", fn := fun _ => fun
  | [d1, d2, d3] => { results := [.lit (.bool true)], args := [d1, d2, d3] }
  | _ => none }
def fnValidateAcceptsExactlyWhenTopBlockHasSlotRow : OpenClaim := { program := "qxb6617461a", sum := "67c88d0186ded5eed398349bde334042a4d13a2202925225112599cc5a5b2391", func := "example.com/vuoro/vuoro/zzlaws_pkg_rotation_e1.FnValidateAcceptsExactlyWhenTopBlockHasSlot", spec := "fnValidateAcceptsExactlyWhenTopBlockHasSlot", apart := false }
def FnValidateAcceptsExactlyWhenTopBlockHasSlotSaid : Prop := fnValidateAcceptsExactlyWhenTopBlockHasSlotRow.holds Try.pinned (OpenSpec.ofChange fnValidateAcceptsExactlyWhenTopBlockHasSlotSpec)

/-- ITS FALSE NEIGHBOUR: 'it returns false'. Refute it at one input. -/
def fnValidateAcceptsExactlyWhenTopBlockHasSlotWrong : ChangeSpec := { name := "fnValidateAcceptsExactlyWhenTopBlockHasSlot", fn := fun _ => fun
  | [d1, d2, d3] => { results := [.lit (.bool false)], args := [d1, d2, d3] }
  | _ => none }
def FnValidateAcceptsExactlyWhenTopBlockHasSlotWrongFalsely : Prop := fnValidateAcceptsExactlyWhenTopBlockHasSlotRow.holds Try.pinned (OpenSpec.ofChange fnValidateAcceptsExactlyWhenTopBlockHasSlotWrong)

end Rows
end Go.Proofs.Qxb6617461a
