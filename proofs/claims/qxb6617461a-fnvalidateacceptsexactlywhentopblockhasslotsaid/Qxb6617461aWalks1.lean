/-
  SEAT b6617461a: THE WALKS OF topBlockHasSlot (5) AND (Schedule).Validate (4), AND THE PLAIN LAW ON THE SLOT OF THE HIGHEST BLOCK.
-/
import Derived.Test.Qxb6617461aRows
import Derived.WalkKit
import Derived.WalkSpells
namespace Go.Proofs.Qxb6617461a.Vl
open Go.RowKit

theorem top_zero (a b : Int) (w : World) :
    Calls Try.prog 5 #[.int .u64 a, .int .u64 b, .int .u64 0] w fun e w' => e = .returned (.bool false) ∧ w' = w := by
  go_enter Try.func5, Try.ntmps5
  go_wp2
  go_ret
  exact ⟨rfl, rfl⟩

/-- The highest block's slot fits. -/
def fitsB (a b c : Int) : Bool := !((18446744073709551615 - (a + b)) / c == 18446744073709551615)

theorem top_in (a b c : Int) (w : World) (ha : 0 ≤ a) (hb : 0 ≤ b) (hs : a + b ≤ 18446744073709551615) (hc : 1 ≤ c) (hc' : c ≤ 18446744073709551615) :
    Calls Try.prog 5 #[.int .u64 a, .int .u64 b, .int .u64 c] w fun e w' => e = .returned (.bool (fitsB a b c)) ∧ w' = w := by
  have hcz : (c == 0) = false := by rw [beq_eq_false_iff_ne]; omega
  have hse : ¬ (a + b < a) := by omega
  go_enter Try.func5, Try.ntmps5
  go_wp2
  go_ret
  exact ⟨rfl, rfl⟩

theorem wrap_over (a b : Int) (ha' : a ≤ 18446744073709551615) (hb' : b ≤ 18446744073709551615) (hs : 18446744073709551615 < a + b) : IntKind.u64.wrap (a + b) < a := by
  simp [IntKind.wrap, IntKind.signed, IntKind.bits]
  omega

theorem top_over (a b c : Int) (w : World) (ha' : a ≤ 18446744073709551615) (hb' : b ≤ 18446744073709551615) (hs : 18446744073709551615 < a + b) (hc : 1 ≤ c) (hc' : c ≤ 18446744073709551615) :
    Calls Try.prog 5 #[.int .u64 a, .int .u64 b, .int .u64 c] w fun e w' => e = .returned (.bool true) ∧ w' = w := by
  have hcz : (c == 0) = false := by rw [beq_eq_false_iff_ne]; omega
  have hov := wrap_over a b ha' hb' hs
  go_enter Try.func5, Try.ntmps5
  go_wp2
  go_ret
  exact ⟨rfl, rfl⟩

theorem fits_one : fitsB 0 0 1 = false := by decide
theorem fits_else (a b c : Int) (ha : 0 ≤ a) (hb : 0 ≤ b) (hs : a + b ≤ 18446744073709551615) (hc : 1 ≤ c) (h : ¬ (a = 0 ∧ b = 0 ∧ c = 1)) : fitsB a b c = true := by
  unfold fitsB
  have hne : (18446744073709551615 - (a + b)) / c ≠ 18446744073709551615 := by
    by_cases h1 : c = 1
    · subst h1
      rw [Int.ediv_one]
      omega
    · have : (18446744073709551615 - (a + b)) / c < 18446744073709551615 := Int.ediv_lt_of_lt_mul (by omega) (by omega)
      omega
  rw [beq_eq_false_iff_ne.2 hne]
  rfl

/-- Validate refuses: a slot length of zero. -/
theorem val_zero (a b : Int) (w : World) :
    Calls Try.prog 4 #[.agg #[.int .u64 a, .int .u64 b, .int .u64 0]] w fun e w' => (∃ t v, e = .returned (.iface t v)) ∧ Grown w w' := by
  go_enter Try.func4, Try.ntmps4
  go_wp2
  go_ret
  exact ⟨⟨_, _, rfl⟩, by repeat (first | exact Grown.refl _ | apply Grown.drew | apply Grown.alloc)⟩

theorem val_one (w : World) :
    Calls Try.prog 4 #[.agg #[.int .u64 0, .int .u64 0, .int .u64 1]] w fun e w' => (∃ t v, e = .returned (.iface t v)) ∧ Grown w w' := by
  go_enter Try.func4, Try.ntmps4
  go_wp2
  go_ret
  exact ⟨⟨_, _, rfl⟩, by repeat (first | exact Grown.refl _ | apply Grown.drew | apply Grown.alloc)⟩

theorem val_ok (a b c : Int) (w : World) (hc : (c == 0) = false) (h : (a == 0) = false ∨ (b == 0) = false ∨ (c == 1) = false) :
    Calls Try.prog 4 #[.agg #[.int .u64 a, .int .u64 b, .int .u64 c]] w fun e w' => e = .returned .nilIface ∧ Grown w w' := by
  rcases h with h | h | h
  all_goals
    go_enter Try.func4, Try.ntmps4
    go_wp2
    all_goals (go_ret; exact ⟨rfl, by repeat (first | exact Grown.refl _ | apply Grown.drew | apply Grown.alloc)⟩)

theorem grown_trans {a b c : World} (h : Grown a b) (k : Grown b c) : Grown a c :=
  ⟨World.keptBut_trans h.1 k.1, fun x => (k.2.1 x).trans (h.2.1 x), Nat.le_trans h.2.2 k.2.2⟩

end Go.Proofs.Qxb6617461a.Vl
