/-
  SEAT b6618258a: THE WALKS OF zzBytes (4), (Verdict).Settles (5), settlesOneHolds (6).
-/
import Derived.Test.Qxb6618258aRows
import Derived.WalkKit
import Derived.WalkSpells
import Derived.Lib.Strings
namespace Go.Proofs.Qxb6618258a.St
open Go.RowKit

/-- A call that answers a bool, whichever, the world as it was. -/
def Tells (w : World) (e : Ending) (w' : World) : Prop := ∃ r, e = .returned (.bool r) ∧ w' = w

theorem bytes_any (a b : ByteArray) (w : World) (ha : a.size ≤ maxLen) (hb : b.size ≤ maxLen) :
    Calls Try.prog 4 #[.string a, .string b] w fun e w' => Tells w e w' := by
  unfold maxLen at ha hb
  by_cases h1 : a.size ≤ 1048576
  · by_cases h2 : b.size ≤ 1048576
    · by_cases h3 : a.size + b.size ≤ 1048576
      · go_enter Try.func4, Try.ntmps4
        go_wp2
        go_ret
        exact ⟨true, rfl, rfl⟩
      · go_enter Try.func4, Try.ntmps4
        go_wp2
        go_ret
        exact ⟨false, rfl, rfl⟩
    · go_enter Try.func4, Try.ntmps4
      go_wp2
      go_ret
      exact ⟨false, rfl, rfl⟩
  · go_enter Try.func4, Try.ntmps4
    go_wp2
    go_ret
    exact ⟨false, rfl, rfl⟩

/-- A word, the status to which it settles, and whether it does: 'committed', 'rolled_back', any other. -/
def Word (v s : ByteArray) (ok : Bool) : Prop :=
  (v = ⟨#[99, 111, 109, 109, 105, 116, 116, 101, 100]⟩ ∧ s = ⟨#[115, 117, 98, 109, 105, 116, 116, 101, 100]⟩ ∧ ok = true) ∨
  (v = ⟨#[114, 111, 108, 108, 101, 100, 95, 98, 97, 99, 107]⟩ ∧ s = ⟨#[97, 98, 111, 114, 116, 101, 100]⟩ ∧ ok = true) ∨
  ((v.toList == [99, 111, 109, 109, 105, 116, 116, 101, 100]) = false ∧ (v.toList == [114, 111, 108, 108, 101, 100, 95, 98, 97, 99, 107]) = false ∧ s = ⟨#[]⟩ ∧ ok = false)

theorem eq_of_toList {v : ByteArray} {l : List UInt8} (h : (v.toList == l) = true) : v = ⟨l.toArray⟩ := by
  rw [beq_iff_eq, Lib.toList_data] at h
  obtain ⟨⟨d⟩⟩ := v
  exact congrArg (fun l : List UInt8 => (⟨l.toArray⟩ : ByteArray)) h

theorem word_of (v : ByteArray) : ∃ s ok, Word v s ok := by
  cases h1 : (v.toList == [99, 111, 109, 109, 105, 116, 116, 101, 100])
  · cases h2 : (v.toList == [114, 111, 108, 108, 101, 100, 95, 98, 97, 99, 107])
    · exact ⟨_, _, .inr (.inr ⟨h1, h2, rfl, rfl⟩)⟩
    · exact ⟨_, _, .inr (.inl ⟨eq_of_toList h2, rfl, rfl⟩)⟩
  · exact ⟨_, _, .inl ⟨eq_of_toList h1, rfl, rfl⟩⟩

theorem word_inj {a sa b sb : ByteArray} (h : Word a sa true) (k : Word b sb true) : (sa.toList == sb.toList) = (a.toList == b.toList) := by
  rcases h with ⟨rfl, rfl, _⟩ | ⟨rfl, rfl, _⟩ | ⟨_, _, _, h⟩
  · rcases k with ⟨rfl, rfl, _⟩ | ⟨rfl, rfl, _⟩ | ⟨_, _, _, k⟩
    · rw [beq_self_eq_true, beq_self_eq_true]
    · simp only [Lib.toList_data]; decide
    · cases k
  · rcases k with ⟨rfl, rfl, _⟩ | ⟨rfl, rfl, _⟩ | ⟨_, _, _, k⟩
    · simp only [Lib.toList_data]; decide
    · rw [beq_self_eq_true, beq_self_eq_true]
    · cases k
  · cases h

theorem settles_any (v s : ByteArray) (ok : Bool) (w : World) (h : Word v s ok) :
    Calls Try.prog 5 #[.string v] w fun e w' => e = .returned (.tuple #[.string s, .bool ok]) ∧ w' = w := by
  rcases h with ⟨rfl, rfl, rfl⟩ | ⟨rfl, rfl, rfl⟩ | ⟨h1, h2, rfl, rfl⟩
  all_goals
    go_enter Try.func5, Try.ntmps5
    go_wp2
    go_ret2
    exact ⟨rfl, rfl⟩

theorem one_any (v s : ByteArray) (ok : Bool) (w : World) (h : Word v s ok) :
    Calls Try.prog 6 #[.string v, .string s, .bool ok] w fun e w' => e = .returned (.bool true) ∧ w' = w := by
  rcases h with ⟨rfl, rfl, rfl⟩ | ⟨rfl, rfl, rfl⟩ | ⟨h1, h2, rfl, rfl⟩
  all_goals
    go_enter Try.func6, Try.ntmps6
    go_wp2
    go_ret
    exact ⟨rfl, rfl⟩

end Go.Proofs.Qxb6618258a.St
