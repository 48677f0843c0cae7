/-
  SEAT b6617295a: THE WALKS OF THE TWO BOUNDS: zzBytes (15), prefixSetTooBig (16).
-/
import Derived.Test.Qxb6617295aPxWalks
namespace Go.Proofs.Qxb6617295a.Px
open Go.RowKit

/-- What the bound zzBytes gives where it says yes. -/
def Fits (s : ByteArray) (len : Nat) (ss : List ByteArray) : Prop := s.size ≤ 1048576 ∧ len ≤ 1048576 ∧ ∀ j, j < len → (ss.getD j ByteArray.empty).size ≤ 1048576

/-- A call that answers a bool of which F holds, the world as it was. -/
def Tells (F : Bool → Prop) (w : World) (e : Ending) (w' : World) : Prop := ∃ r, e = .returned (.bool r) ∧ w' = w ∧ F r
def FitsIf (s : ByteArray) (len : Nat) (ss : List ByteArray) (r : Bool) : Prop := r = true → Fits s len ss
def Whatever (_ : Bool) : Prop := True

set_option maxHeartbeats 400000 in
theorem bytes_any (s : ByteArray) (a : Option Addr) (b off len cap : Nat) (ss : List ByteArray) (kk jj : Int) (w : World) (h0 : 0 < len → a = some ⟨b, off, none⟩) (hs : s.size ≤ maxLen) (hlen : len ≤ maxLen)
    (hc : ∀ j, j < len → w.cell? ⟨b, off + j, none⟩ = some (.string (ss.getD j ByteArray.empty))) (hz : ∀ j, j < len → (ss.getD j ByteArray.empty).size ≤ maxLen) :
    Calls Try.prog 15 #[.string s, .slice a len cap, .int .i64 kk, .int .i64 jj] w fun e w' => Tells (FitsIf s len ss) w e w' := by
  unfold maxLen at hs hlen
  have HZ : Hid (∀ j, j < len → (ss.getD j ByteArray.empty).size ≤ maxLen) := hz
  clear hz
  by_cases hs1 : s.size ≤ 1048576
  · by_cases hl1 : len ≤ 1048576
    · by_cases hb1 : s.size + len ≤ 1048576
      · go_enter Try.func15, Try.ntmps15
        go_wp2
        go_loop [9, 10] (fun z i => ∃ k t : Nat, k ≤ len ∧ t ≤ 1048576 ∧ z = .int .i64 t ∧ i = .int .i64 k ∧ Hid (∀ j, j < k → (ss.getD j ByteArray.empty).size ≤ 1048576)) (fun _ i => len - (intOf i).toNat)
        case atStart => exact ⟨0, s.size + len, Nat.zero_le _, hb1, by go_num, rfl, fun j hj => absurd hj (Nat.not_lt_zero _)⟩
        case round =>
          obtain ⟨k, t, hk, ht, rfl, rfl, HN⟩ := hrel
          by_cases hlt : k < len
          · obtain rfl := h0 (by omega)
            have hcell := hc k hlt
            have hpz := HZ.out k hlt
            obtain ⟨p, hp0⟩ : ∃ p, ss.getD k ByteArray.empty = p := ⟨_, rfl⟩
            rw [hp0] at hcell hpz
            have HP : Hid (ss.getD k ByteArray.empty = p) := hp0
            clear hp0 hc h0
            unfold maxLen at hpz
            by_cases hp1 : p.size ≤ 1048576
            · by_cases hp2 : t + p.size ≤ 1048576
              · go_wp2
                go_round
                case rel => exact ⟨k + 1, t + p.size, by omega, hp2, by go_num, by go_num, fun j hj => by
                  by_cases e : j = k
                  · rw [e, HP.out]; exact hp1
                  · exact HN.out j (by omega)⟩
                case measure => simp [intOf]; omega
              · go_wp2
                go_ret
                exact ⟨false, rfl, rfl, fun h => by cases h⟩
            · go_wp2
              go_ret
              exact ⟨false, rfl, rfl, fun h => by cases h⟩
          · go_wp2
            go_ret
            obtain rfl : k = len := by omega
            exact ⟨true, rfl, rfl, fun _ => ⟨hs1, hl1, HN.out⟩⟩
      · go_enter Try.func15, Try.ntmps15
        go_wp2
        go_ret
        exact ⟨false, rfl, rfl, fun h => by cases h⟩
    · go_enter Try.func15, Try.ntmps15
      go_wp2
      go_ret
      exact ⟨false, rfl, rfl, fun h => by cases h⟩
  · go_enter Try.func15, Try.ntmps15
    go_wp2
    go_ret
    exact ⟨false, rfl, rfl, fun h => by cases h⟩

set_option maxHeartbeats 400000 in
theorem tooBig_any (s : ByteArray) (a : Option Addr) (b off len cap : Nat) (ss : List ByteArray) (w : World) (h0 : 0 < len → a = some ⟨b, off, none⟩) (hf : Fits s len ss)
    (hc : ∀ j, j < len → w.cell? ⟨b, off + j, none⟩ = some (.string (ss.getD j ByteArray.empty))) :
    Calls Try.prog 16 #[.string s, .slice a len cap] w fun e w' => Tells Whatever w e w' := by
  obtain ⟨hs1, hl1, hz⟩ := hf
  have HZ : Hid (∀ j, j < len → (ss.getD j ByteArray.empty).size ≤ 1048576) := hz
  clear hz
  by_cases hl2 : len ≤ 65536
  · by_cases hb1 : s.size + 16 * len ≤ 1048576
    · go_enter Try.func16, Try.ntmps16
      go_wp2
      go_loop [5, 6] (fun z i => ∃ k t : Nat, k ≤ len ∧ t ≤ 1048576 ∧ z = .int .i64 t ∧ i = .int .i64 k) (fun _ i => len - (intOf i).toNat)
      case atStart => exact ⟨0, s.size + 16 * len, Nat.zero_le _, hb1, by go_num, rfl⟩
      case round =>
        obtain ⟨k, t, hk, ht, rfl, rfl⟩ := hrel
        by_cases hlt : k < len
        · obtain rfl := h0 (by omega)
          have hcell := hc k hlt
          have hpz := HZ.out k hlt
          obtain ⟨p, hp0⟩ : ∃ p, ss.getD k ByteArray.empty = p := ⟨_, rfl⟩
          rw [hp0] at hcell hpz
          clear hp0 hc h0
          by_cases hp2 : t + p.size ≤ 1048576
          · go_wp2
            go_round
            case rel => exact ⟨k + 1, t + p.size, by omega, hp2, by go_num, by go_num⟩
            case measure => simp [intOf]; omega
          · go_wp2
            go_ret
            exact ⟨true, rfl, rfl, trivial⟩
        · go_wp2
          go_ret
          exact ⟨false, rfl, rfl, trivial⟩
    · go_enter Try.func16, Try.ntmps16
      go_wp2
      go_ret
      exact ⟨true, rfl, rfl, trivial⟩
  · go_enter Try.func16, Try.ntmps16
    go_wp2
    go_ret
    exact ⟨true, rfl, rfl, trivial⟩

end Go.Proofs.Qxb6617295a.Px
