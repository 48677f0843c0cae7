/-
  No cell of these rows narrows 'for every input' (looked for: loops, veiled, ifaces, maps, wideKeys, modest, calm, conditions, laid).
  DERIVED. THE GIVEN ROWS OF THIS SEAT. 2 by the template 'for every input the law returns true; each argument reads behind the call as it read before'; 0 by the template 'total and deterministic' (their statements: Qxb6618356aTotals.lean).
  GIVEN WITH THE SEED: the statements are not yours to turn. If you find one false, say at which input.
  Laid BY PROGRAM, IN A SANDBOX (cutbox-rows.mjs): the forced cells as the released guide's own fill.sh prints them over the translation 116c8a0d51925b0a… (all of the seat's roots in one cut). By AI agents, Wed Nov 11 2026. No macro, syntax, notation, axiom, sorry.
-/
import Derived.Test.Qxb6618356aChecked
import GoSem.Claim
import GoSem.ClaimJoined
import GoSem.ClaimMapViews
import Derived.JoinedTies
import Derived.KernelRfl
namespace Go.Proofs.Qxb6618356a
/- THE CELL 'sum', in the pinned program and in every row, IS THE sha256 OF THE DUMP (.gsa) THAT Qxb6618356aProg.lean LOADS. Nothing in Lean hashes anything: it is a label: what it is worth is what the hold of that sum in a sandbox is worth. -/
noncomputable def Try.pinned : Pinned := { name := "qxb6618356a", sum := "116c8a0d51925b0abb2c79deb7e6632bb03aa724486b515d202d67b866fd3773", checked := Try.checked }
namespace Rows
def none {H : Type} : Left H := { results := [], args := [] }

/-- 'zzlaws_root_b1.FnPutFillsNearestEmptySlot': WHATEVER THE INPUT: true; the input reads as it did. -/
def fnPutFillsNearestEmptySlotSpec : ChangeSpec := { name := "fnPutFillsNearestEmptySlot", fn := fun _ => fun
  | [d1, d2, d3, d4, d5] => { results := [.lit (.bool true)], args := [d1, d2, d3, d4, d5] }
  | _ => none }
def fnPutFillsNearestEmptySlotRow : OpenClaim := { program := "qxb6618356a", sum := "116c8a0d51925b0abb2c79deb7e6632bb03aa724486b515d202d67b866fd3773", func := "example.com/load-order/load-order/zzlaws_root_b1.FnPutFillsNearestEmptySlot", spec := "fnPutFillsNearestEmptySlot", apart := false }
def FnPutFillsNearestEmptySlotSaid : Prop := fnPutFillsNearestEmptySlotRow.holds Try.pinned (OpenSpec.ofChange fnPutFillsNearestEmptySlotSpec)

/-- ITS FALSE NEIGHBOUR: 'it returns false'. Refute it at one input. -/
def fnPutFillsNearestEmptySlotWrong : ChangeSpec := { name := "fnPutFillsNearestEmptySlot", fn := fun _ => fun
  | [d1, d2, d3, d4, d5] => { results := [.lit (.bool false)], args := [d1, d2, d3, d4, d5] }
  | _ => none }
def FnPutFillsNearestEmptySlotWrongFalsely : Prop := fnPutFillsNearestEmptySlotRow.holds Try.pinned (OpenSpec.ofChange fnPutFillsNearestEmptySlotWrong)

/-- 'zzlaws_root_b1.FnPutTwoOrderFree': WHATEVER THE INPUT: true; the input reads as it did. -/
def fnPutTwoOrderFreeSpec : ChangeSpec := { name := "fnPutTwoOrderFree", fn := fun _ => fun
  | [d1, d2, d3, d4, d5, d6, d7] => { results := [.lit (.bool true)], args := [d1, d2, d3, d4, d5, d6, d7] }
  | _ => none }
def fnPutTwoOrderFreeRow : OpenClaim := { program := "qxb6618356a", sum := "116c8a0d51925b0abb2c79deb7e6632bb03aa724486b515d202d67b866fd3773", func := "example.com/load-order/load-order/zzlaws_root_b1.FnPutTwoOrderFree", spec := "fnPutTwoOrderFree", apart := false }
def FnPutTwoOrderFreeSaid : Prop := fnPutTwoOrderFreeRow.holds Try.pinned (OpenSpec.ofChange fnPutTwoOrderFreeSpec)

/-- ITS FALSE NEIGHBOUR: 'it returns false'. Refute it at one input. -/
def fnPutTwoOrderFreeWrong : ChangeSpec := { name := "fnPutTwoOrderFree", fn := fun _ => fun
  | [d1, d2, d3, d4, d5, d6, d7] => { results := [.lit (.bool false)], args := [d1, d2, d3, d4, d5, d6, d7] }
  | _ => none }
def FnPutTwoOrderFreeWrongFalsely : Prop := fnPutTwoOrderFreeRow.holds Try.pinned (OpenSpec.ofChange fnPutTwoOrderFreeWrong)

end Rows
end Go.Proofs.Qxb6618356a
