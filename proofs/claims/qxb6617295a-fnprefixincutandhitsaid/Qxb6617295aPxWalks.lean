/-
  SEAT b6617295a: THE WALKS OF THE SMALL FUNCTIONS: HasPrefix (28, 27), startsWith (18), prefixIn (23), ZZPrefixIn (17), memberUpTo (19), zzBytes (15), prefixSetTooBig (16).
-/
import Derived.Test.Qxb6617295aProg
import Derived.Test.Qxb6617295aPlain
import Derived.WalkKit
namespace Go.Proofs.Qxb6617295a.Px
open Go.RowKit

/-- 'len' strings lie from cell ⟨b, off⟩ on: the first 'len' of 'ss'. No address is asked of an empty one. -/
structure Lies (w : World) (a : Option Addr) (b off len : Nat) (ss : List ByteArray) : Prop where
  at0 : 0 < len → a = some ⟨b, off, none⟩
  big : len ≤ 1048576
  long : len ≤ ss.length
  cell : ∀ j, j < len → w.cell? ⟨b, off + j, none⟩ = some (.string (ss.getD j ByteArray.empty))

theorem slite_any (s p : ByteArray) (w : World) :
    Calls Try.prog 28 #[.string s, .string p] w fun e w' => e = .returned (.bool (hp s p)) ∧ w' = w := by
  unfold hp
  rw [← Lib.hasPrefix_of_take, ← Lib.size_eq, ← Lib.size_eq]
  go_enter Try.func28, Try.ntmps28
  go_wp2
  · rename_i h
    go_ret
    refine ⟨?_, rfl⟩
    show Ending.returned (Value.bool ((s.extract 0 p.size).toList == p.toList)) = _
    rw [Lib.extract_toList, Lib.toList_data]
    simp [h]
  · rename_i h
    go_ret
    refine ⟨?_, rfl⟩
    show Ending.returned (Value.bool false) = _
    simp [h]

theorem hasPrefix_any (s p : ByteArray) (w : World) :
    Calls Try.prog 27 #[.string s, .string p] w fun e w' => e = .returned (.bool (hp s p)) ∧ w' = w := by
  go_enter Try.func27, Try.ntmps27
  go_wp2_with (go_at_call 28; refine (slite_any _ _ _).mono ?_; rintro e w' ⟨rfl, rfl⟩)
  go_ret
  exact ⟨rfl, rfl⟩

theorem starts_any (s p : ByteArray) (w : World) :
    Calls Try.prog 18 #[.string s, .string p] w fun e w' => e = .returned (.bool (hp s p)) ∧ w' = w := by
  unfold hp
  rw [← Lib.hasPrefix_of_take, ← Lib.size_eq, ← Lib.size_eq]
  go_enter Try.func18, Try.ntmps18
  go_wp2
  · rename_i h
    go_ret
    refine ⟨?_, rfl⟩
    show Ending.returned (Value.bool ((s.extract 0 p.size).toList == p.toList)) = _
    rw [Lib.extract_toList, Lib.toList_data]
    simp [h]
  · rename_i h
    go_ret
    refine ⟨?_, rfl⟩
    show Ending.returned (Value.bool false) = _
    simp [h]

theorem ret_str {a b : ByteArray} (h : a = b) : Ending.returned (.string a) = .returned (.string b) := by rw [h]

set_option maxHeartbeats 400000 in
theorem prefixIn_any (s : ByteArray) (a : Option Addr) (b off len cap : Nat) (ss : List ByteArray) (w : World) (L : Lies w a b off len ss) :
    Calls Try.prog 23 #[.string s, .slice a len cap] w fun e w' => e = .returned (.string (pfx s (ss.take len))) ∧ w' = w := by
  obtain ⟨h0, hbig, hlong, hc⟩ := L
  go_enter Try.func23, Try.ntmps23
  go_wp2
  go_loop [9] (fun i => ∃ k : Nat, k ≤ len ∧ i = .int .i64 k ∧ Hid (∀ j, j < k → hp s (ss.getD j ByteArray.empty) = false)) (fun i => len - (intOf i).toNat)
  case atStart => exact ⟨0, Nat.zero_le _, rfl, fun j hj => absurd hj (Nat.not_lt_zero _)⟩
  case round =>
    obtain ⟨k, hk, rfl, HN⟩ := hrel
    by_cases hlt : k < len
    · obtain rfl := h0 (by omega)
      have hcell := hc k hlt
      obtain ⟨p, hp0⟩ : ∃ p, ss.getD k ByteArray.empty = p := ⟨_, rfl⟩
      rw [hp0] at hcell
      have HP : Hid (ss.getD k ByteArray.empty = p) := hp0
      clear hp0 hc h0
      cases hh : hp s p
      · go_wp2_with (go_at_call 27; refine (hasPrefix_any _ _ _).mono ?_; rintro e w' ⟨rfl, rfl⟩)
        go_round
        case rel => exact ⟨k + 1, by omega, by go_num, fun j hj => by
          by_cases e : j = k
          · rw [e, HP.out]; exact hh
          · exact HN.out j (by omega)⟩
        case measure => simp [intOf]; omega
      · go_wp2_with (go_at_call 27; refine (hasPrefix_any _ _ _).mono ?_; rintro e w' ⟨rfl, rfl⟩)
        go_ret
        exact ⟨ret_str (by rw [pfx_found s ss len k hlt hlong HN.out (by rw [HP.out]; exact hh), HP.out]), rfl⟩
    · go_wp2
      go_ret
      obtain rfl : k = len := by omega
      exact ⟨ret_str (pfx_none s ss k HN.out).symm, rfl⟩

theorem zzPrefixIn_any (s : ByteArray) (a : Option Addr) (b off len cap : Nat) (ss : List ByteArray) (w : World) (L : Lies w a b off len ss) :
    Calls Try.prog 17 #[.string s, .slice a len cap] w fun e w' => e = .returned (.string (pfx s (ss.take len))) ∧ w' = w := by
  go_enter Try.func17, Try.ntmps17
  go_wp2_with (go_at_call 23; refine (prefixIn_any _ _ _ _ _ _ _ _ L).mono ?_; rintro e w' ⟨rfl, rfl⟩)
  go_ret
  exact ⟨rfl, rfl⟩

/-- memberUpTo at a string that is there. -/
theorem member_yes (a : Option Addr) (b off len cap n : Nat) (v : ByteArray) (ss : List ByteArray) (w : World) (L : Lies w a b off len ss) (hn : n ≤ len) (hv : v ∈ ss.take n) :
    Calls Try.prog 19 #[.slice a len cap, .int .i64 n, .string v] w fun e w' => e = .returned (.bool true) ∧ w' = w := by
  obtain ⟨h0, hbig, hlong, hc⟩ := L
  have HV : Hid (v ∈ ss.take n) := hv
  clear hv
  go_enter Try.func19, Try.ntmps19
  go_wp2
  go_loop [7] (fun i => ∃ k : Nat, k ≤ n ∧ i = .int .i64 k ∧ Hid (∀ j, j < k → ss.getD j ByteArray.empty ≠ v)) (fun i => n - (intOf i).toNat)
  case atStart => exact ⟨0, Nat.zero_le _, rfl, fun j hj => absurd hj (Nat.not_lt_zero _)⟩
  case round =>
    obtain ⟨k, hk, rfl, HN⟩ := hrel
    by_cases hlt : k < n
    · obtain rfl := h0 (by omega)
      have hcell := hc k (by omega)
      obtain ⟨p, hp0⟩ : ∃ p, ss.getD k ByteArray.empty = p := ⟨_, rfl⟩
      rw [hp0] at hcell
      have HP : Hid (ss.getD k ByteArray.empty = p) := hp0
      clear hp0 hc h0
      cases hh : (p.toList == v.toList)
      · go_wp2
        go_round
        case rel => exact ⟨k + 1, by omega, by go_num, fun j hj => by
          by_cases e : j = k
          · rw [e, HP.out]
            rintro rfl
            simp at hh
          · exact HN.out j (by omega)⟩
        case measure => simp [intOf]; omega
      · go_wp2
        go_ret
        exact ⟨rfl, rfl⟩
    · obtain rfl : k = n := by omega
      exact absurd HV.out (mem_none ss k v (by omega) HN.out)

end Go.Proofs.Qxb6617295a.Px
