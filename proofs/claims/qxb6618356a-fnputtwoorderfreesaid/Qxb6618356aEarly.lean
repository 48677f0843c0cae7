/-
  SEAT b6618356a: THE WALK OF FnPutTwoOrderFree (4): THE WAYS THAT RETURN EARLY.
-/
import Derived.Test.Qxb6618356aPut
namespace Go.Proofs.Qxb6618356a.Pw
open Go.RowKit

theorem keep {w w' : World} {b : Nat} {t : TypeId} {n : Nat} {f : Nat → Value} (h : w.rowIs b t n f) (hb : Below w.heap.size w w') : w'.rowIs b t n f := h.of_block (hb.block _ h.lt)
theorem pass {tb pb m s : Nat} {T P : Nat → Int} {t p n : Int} {w w' : World} {e : Ending} (hs : Stepped tb pb m s T P t p n w e w') {b : Nat} {t' : TypeId} {n' : Nat} {f : Nat → Value} (h : w.rowIs b t' n' f) (h1 : b ≠ tb) (h2 : b ≠ pb) : w'.rowIs b t' n' f := h.of_block (hs.block _ h.lt h1 h2)
theorem rowCell {w : World} {b : Nat} {t : TypeId} {n : Nat} {f : Nat → Value} (h : w.rowIs b t n f) : ∀ j, j < n → w.cell? ⟨b, 0 + j, none⟩ = some (f j) := fun j hj => by rw [Nat.zero_add]; exact h.cell hj

theorem copied_ex {t : TypeId} {k : IntKind} {len : Nat} {f : Nat → Int} {w : World} {e : Ending} {w' : World} (h : Copied t k len f w e w') :
    ∃ g, w.heap.size ≤ g ∧ e = .returned (.slice (some ⟨g, 0, none⟩) len len) ∧ Below w.heap.size w w' ∧ w'.rowIs g t len (fun j => .int k (f j)) := ⟨_, Nat.le_refl _, h.1, h.2.1, h.2.2⟩
theorem below_step {tb pb m s B : Nat} {T P : Nat → Int} {t p n : Int} {W w w' : World} {e : Ending} (hb : Below B W w) (hs : Stepped tb pb m s T P t p n w e w') (h1 : B ≤ tb) (h2 : B ≤ pb) (hB : B ≤ w.heap.size) : Below B W w' :=
  hb.trans ⟨hs.os, hs.tape, hs.output, by have := hs.size; omega, fun k hk => hs.block k (by omega) (by omega) (by omega)⟩

set_option maxRecDepth 100000 in
set_option maxHeartbeats 2000000 in
/-- The ways that return early. -/
theorem early (a0 : Option Addr) (len0 cap0 : Nat) (a1 : Option Addr) (len1 cap1 : Nat) (n h1 p1 h2 p2 : Int) (w : World) (hl0 : len0 ≤ maxLen) (hl1 : len1 ≤ maxLen)
    (h : 65536 < len0 ∨ 65536 < len1 ∨ len0 = 0 ∨ len0 &&& (len0 - 1) ≠ 0 ∨ len1 ≠ len0 ∨ p1 < 0 ∨ 4294967295 < p1 ∨ p2 < 0 ∨ 4294967295 < p2) :
    Calls Try.prog 4 #[.slice a0 len0 cap0, .slice a1 len1 cap1, .int .i64 n, .int .u64 h1, .int .i64 p1, .int .u64 h2, .int .i64 p2] w fun e w' => e = .returned (.bool true) ∧ Below w.heap.size w w' := by
  go_enter Try.func4, Try.ntmps4
  go_wp2_with fail
  refine (bytes_any _ _ _ _ _ _ _ _ _ _ _ _ hl0 hl1).mono ?_
  rintro e w ⟨r, rfl, rfl⟩
  unfold maxLen at hl0 hl1
  cases r
  · clear h
    go_wp2
    go_ret
    exact ⟨rfl, Below.refl _ _⟩
  by_cases c1 : 65536 < len0
  · clear h
    go_wp2
    go_ret
    exact ⟨rfl, Below.refl _ _⟩
  by_cases c2 : 65536 < len1
  · clear h
    go_wp2
    go_ret
    exact ⟨rfl, Below.refl _ _⟩
  by_cases c3 : len0 = 0
  · clear h
    subst c3
    go_wp2
    go_ret
    exact ⟨rfl, Below.refl _ _⟩
  have e3 : ((len0 : Int) == 0) = false := by rw [beq_eq_false_iff_ne]; omega
  have hb := i64_and_nat len0 (len0 - 1) (by omega) (by omega)
  rw [show ((len0 - 1 : Nat) : Int) = (len0 : Int) - 1 by omega] at hb
  by_cases c4 : len0 &&& (len0 - 1) ≠ 0
  · clear h
    obtain ⟨q, hq⟩ : ∃ q, len0 &&& (len0 - 1) = q := ⟨_, rfl⟩
    rw [hq] at hb c4
    have e4 : ((q : Int) != 0) = true := by rw [bne_iff_ne]; omega
    clear hq
    go_wp2
    go_ret
    exact ⟨rfl, Below.refl _ _⟩
  rw [Decidable.not_not.1 c4] at hb
  by_cases c5 : len1 ≠ len0
  · clear h c4
    have e5 : ((len1 : Int) != (len0 : Int)) = true := by rw [bne_iff_ne]; omega
    go_wp2
    go_ret
    exact ⟨rfl, Below.refl _ _⟩
  obtain rfl := Decidable.not_not.1 c5
  by_cases c6 : p1 < 0
  · clear h c4 c5
    go_wp2
    go_ret
    exact ⟨rfl, Below.refl _ _⟩
  by_cases c7 : 4294967295 < p1
  · clear h c4 c5
    go_wp2
    go_ret
    exact ⟨rfl, Below.refl _ _⟩
  by_cases c8 : p2 < 0
  · clear h c4 c5
    go_wp2
    go_ret
    exact ⟨rfl, Below.refl _ _⟩
  by_cases c9 : 4294967295 < p2
  · clear h c4 c5
    go_wp2
    go_ret
    exact ⟨rfl, Below.refl _ _⟩
  omega

end Go.Proofs.Qxb6618356a.Pw
