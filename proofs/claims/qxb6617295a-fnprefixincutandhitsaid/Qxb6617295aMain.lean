/-
  SEAT b6617295a: THE WALK OF FnPrefixInCutAndHit (6): at a nil slice ('main_nil'), at any other ('main_some').
-/
import Derived.Test.Qxb6617295aSizeWalks
import Derived.WalkSpells
import Derived.Laws.CopyOwn
import Derived.Deep.OwnRows
namespace Go.Proofs.Qxb6617295a.Px
open Go.RowKit

theorem info9 : (Try.prog.info? 9).map (fun i => (i.zero, i.size, i.bytes)) = some (some (.string ByteArray.empty), 1, 16) := by kernel_rfl
theorem size9 : (Try.prog.info? 9).map (·.size) = some 1 := by kernel_rfl

/-- What the walk is told of a slice of strings that came in. -/
def IsStrs (w : World) (a : Option Addr) (len cap : Nat) (ss : List ByteArray) : Prop :=
  (a = none ∧ len = 0 ∧ cap = 0 ∧ ss = []) ∨
  ∃ x : Addr, a = some x ∧ len ≤ cap ∧ cap ≤ maxLen ∧ ss.length = cap ∧ (∀ i, i < ss.length → w.cell? (x.add i) = some (.string (ss.getD i ByteArray.empty))) ∧ ∀ s ∈ ss, s.size ≤ maxLen

/-- What was found, under a name. -/
theorem zz_r (s r : ByteArray) (a : Option Addr) (b off len cap : Nat) (ss : List ByteArray) (w : World) (L : Lies w a b off len ss) (hr : Hid (pfx s (ss.take len) = r)) :
    Calls Try.prog 17 #[.string s, .slice a len cap] w fun e w' => e = .returned (.string r) ∧ w' = w := by
  have h : pfx s (ss.take len) = r := hr
  rw [← h]
  exact zzPrefixIn_any s a b off len cap ss w L

theorem member_at (a : Option Addr) (b off len cap m : Nat) (n : Int) (v : ByteArray) (ss : List ByteArray) (w : World) (L : Lies w a b off len ss) (hn : m ≤ len) (hm : n = (m : Int)) (hv : Hid (v ∈ ss.take m)) :
    Calls Try.prog 19 #[.slice a len cap, .int .i64 n, .string v] w fun e w' => e = .returned (.bool true) ∧ w' = w := by
  subst hm
  exact member_yes a b off len cap m v ss w L hn hv.out

set_option maxHeartbeats 400000 in
theorem main_nil (s : ByteArray) (kk jj : Int) (w : World) (hs : s.size ≤ maxLen) :
    Calls Try.prog 6 #[.string s, .slice none 0 0, .int .i64 kk, .int .i64 jj] w fun e w' => e = .returned (.bool true) ∧ Below w.heap.size w w' := by
  have hne := fun w => run_neq_slice_nil_any (P := Try.prog) w 26 9 none 0 0 0 0 Try.underlying26
  have L : ∀ w, Lies w none 0 0 0 [] := fun w => ⟨fun h => absurd h (Nat.lt_irrefl _), by omega, by simp, fun j hj => absurd hj (Nat.not_lt_zero _)⟩
  go_enter Try.func6, Try.ntmps6
  go_wp2_with fail
  refine (bytes_any _ _ 0 0 _ _ [] _ _ _ (fun h => absurd h (Nat.lt_irrefl _)) hs (by simp) (fun j hj => absurd hj (Nat.not_lt_zero _)) (fun j hj => absurd hj (Nat.not_lt_zero _))).mono ?_
  rintro e w' ⟨r, rfl, rfl, hf⟩
  cases r
  · go_wp2
    go_ret
    exact ⟨rfl, Below.refl _ _⟩
  have hf := hf rfl
  go_wp2_with fail
  refine (tooBig_any _ _ 0 0 _ _ [] _ (fun h => absurd h (Nat.lt_irrefl _)) hf (fun j hj => absurd hj (Nat.not_lt_zero _))).mono ?_
  rintro e w' ⟨r, rfl, rfl, _⟩
  cases r
  · go_wp2_with (go_at_call 17; refine (zz_r _ ByteArray.empty _ 0 0 _ _ [] _ (L _) rfl).mono ?_; rintro e w' ⟨rfl, rfl⟩)
    all_goals (go_ret; exact ⟨rfl, Below.refl _ _⟩)
  · go_wp2
    go_ret
    exact ⟨rfl, Below.refl _ _⟩

theorem empty_toList : ByteArray.empty.toList = [] := by rw [Lib.toList_data]; rfl

theorem lies_copy {w2 : World} {N len : Nat} {ss : List ByteArray} {cur : List Value} (hg : w2.heap[N]? = some (.cells (splice cur 0 ((ss.take len).map Value.string)).toArray 9 (0, 0))) (hl : len ≤ ss.length) (hb : len ≤ 1048576) :
    Lies w2 (some ⟨N, 0, none⟩) N 0 len ss := by
  refine ⟨fun _ => rfl, hb, hl, fun j hj => ?_⟩
  have hlen : ((ss.take len).map Value.string).length = len := by rw [List.length_map, List.length_take]; omega
  have e : (splice cur 0 ((ss.take len).map Value.string))[j]? = some (.string (ss.getD j ByteArray.empty)) := by
    unfold splice
    rw [List.take_zero, List.nil_append, List.getElem?_append_left (by omega), List.getElem?_map, List.getElem?_take, if_pos hj, List.getElem?_eq_getElem (by omega), List.getD_eq_getElem?_getD, List.getElem?_eq_getElem (by omega)]
    rfl
  simp only [World.cell?, hg]
  simpa using e

theorem Lies.sub {w : World} {a : Option Addr} {b off len : Nat} {ss : List ByteArray} (h : Lies w a b off len ss) {k : Nat} (hk : k ≤ len) : Lies w a b off k ss :=
  ⟨fun h0 => h.at0 (by omega), by have := h.big; omega, by have := h.long; omega, fun j hj => h.cell j (by omega)⟩
theorem Lies.past {w : World} {a a' : Option Addr} {b off len : Nat} {ss : List ByteArray} (h : Lies w a b off len ss) {k : Nat} (hk : k ≤ len) (ha : 0 < len - k → a' = some ⟨b, off + k, none⟩) : Lies w a' b (off + k) (len - k) (ss.drop k) :=
  ⟨ha, by have := h.big; omega, by have := h.long; rw [List.length_drop]; omega, fun j hj => by
    have := h.cell (k + j) (by omega)
    rw [Nat.add_assoc, this]
    simp [List.getD_eq_getElem?_getD, List.getElem?_drop]⟩

theorem made_at (w : World) (len : Nat) : (w.alloc (.cells (madeCells #[.string ByteArray.empty] len) 9)).heap[w.heap.size]? = some (.cells ((madeCells #[Value.string ByteArray.empty] len).toList).toArray 9 (0, 0)) := by
  rw [Array.toArray_toList]
  exact Deep.blk_alloc_new _ _
theorem strs_len (ss : List ByteArray) (len : Nat) (h : len ≤ ss.length) : ((ss.take len).map Value.string).length = len := by rw [List.length_map, List.length_take]; omega
theorem strs_get (ss : List ByteArray) (len : Nat) (j : Nat) (v : Value) (h : ((ss.take len).map Value.string)[j]? = some v) : j < len ∧ v = .string (ss.getD j ByteArray.empty) := by
  rw [List.getElem?_map] at h
  obtain ⟨y, hy, rfl⟩ := Option.map_eq_some_iff.1 h
  rw [List.getElem?_take] at hy
  split at hy
  · exact ⟨by assumption, by rw [List.getD_eq_getElem?_getD, hy]; rfl⟩
  · cases hy
theorem strs_one (ss : List ByteArray) (len : Nat) : ∀ v ∈ (ss.take len).map Value.string, v.oneCell' = true := by
  intro v hv
  obtain ⟨y, _, rfl⟩ := List.mem_map.1 hv
  rfl
theorem made_long (len : Nat) : ((madeCells #[Value.string ByteArray.empty] len).toList).length = len := by
  rw [Array.length_toList, size_madeCells]

set_option maxHeartbeats 1000000 in
theorem main_some (s : ByteArray) (x : Addr) (b off len cap : Nat) (ss : List ByteArray) (kk jj : Int) (w : World) (hs : s.size ≤ maxLen) (hx : 0 < len → some x = some ⟨b, off, none⟩) (hlen : len ≤ maxLen) (hss : len ≤ ss.length)
    (hc : ∀ j, j < len → w.cell? ⟨b, off + j, none⟩ = some (.string (ss.getD j ByteArray.empty))) (hz : ∀ j, j < len → (ss.getD j ByteArray.empty).size ≤ maxLen) :
    Calls Try.prog 6 #[.string s, .slice (some x) len cap, .int .i64 kk, .int .i64 jj] w fun e w' => e = .returned (.bool true) ∧ Below w.heap.size w w' := by
  have hne := fun w => run_neq_slice_nil_any (P := Try.prog) w 26 9 (some x) len cap 0 0 Try.underlying26
  go_enter Try.func6, Try.ntmps6
  go_wp2_with fail
  refine (bytes_any _ _ b off _ _ ss _ _ _ hx hs hlen hc hz).mono ?_
  rintro e w' ⟨r, rfl, rfl, hf⟩
  cases r
  · go_wp2
    go_ret
    exact ⟨rfl, Below.refl _ _⟩
  have hf : Fits s len ss := hf rfl
  clear hz hlen hs
  go_wp2_with fail
  refine (tooBig_any _ _ b off _ _ ss _ hx hf hc).mono ?_
  rintro e w' ⟨r, rfl, rfl, _⟩
  obtain rfl | rfl : r = true ∨ r = false := by cases r <;> simp
  · go_wp2
    go_ret
    exact ⟨rfl, Below.refl _ _⟩
  obtain ⟨hs, hlen, hz⟩ := hf
  have HZ : Hid (∀ j, j < len → (ss.getD j ByteArray.empty).size ≤ 1048576) := hz
  clear hz
  have HC : Hid (∀ j, j < len → w'.cell? ⟨b, off + j, none⟩ = some (.string (ss.getD j ByteArray.empty))) := hc
  clear hc
  have HX : Hid (0 < len → some x = some ⟨b, off, none⟩) := hx
  clear hx
  by_cases hk0 : kk < 0
  · go_wp2_with fail
    go_ret
    exact ⟨rfl, Below.refl _ _⟩
  by_cases hk1 : (len : Int) < kk
  · go_wp2_with fail
    go_ret
    exact ⟨rfl, Below.refl _ _⟩
  by_cases hj0 : jj < 0
  · go_wp2_with fail
    go_ret
    exact ⟨rfl, Below.refl _ _⟩
  obtain ⟨k, rfl⟩ := Int.eq_ofNat_of_zero_le (Int.not_lt.1 hk0)
  obtain ⟨j, rfl⟩ := Int.eq_ofNat_of_zero_le (Int.not_lt.1 hj0)
  have hk : k ≤ len := by omega
  clear hk0 hk1 hj0
  have hmk := fun w => run_make_row' (P := Try.prog) 26 9 (.string ByteArray.empty) 16 Try.underlying26 info9 rfl .i64 .i64 len (by omega) (by omega) w
  have hN : Below w'.heap.size w' (w'.alloc (.cells (madeCells #[.string ByteArray.empty] len) 9)) := (Below.refl _ _).alloc (Nat.le_refl _) _
  by_cases hl0 : 0 < len
  · have hjl : (len : Int) ≤ j ∨ j < len := by omega
    rcases hjl with hjl | hjl
    · go_wp2_with fail
      go_ret
      exact ⟨rfl, Below.refl _ _⟩
    obtain rfl : x = ⟨b, off, none⟩ := by have := HX.out hl0; simpa using this
    have hgm := made_at w' len
    have hcl : ∀ j v, ((ss.take len).map Value.string)[j]? = some v → (w'.alloc (.cells (madeCells #[.string ByteArray.empty] len) 9)).cell? (Addr.add ⟨b, off, none⟩ j) = some v := by
      intro i v hv
      obtain ⟨hi, rfl⟩ := strs_get ss len i v hv
      rw [Go.WideShapes.add_plain, hN.cell (World.block_lt_of_cell? _ _ (HC.out i hi))]
      exact HC.out i hi
    have HG : Hid ((w'.alloc (.cells (madeCells #[.string ByteArray.empty] len) 9)).heap[w'.heap.size]? = some (.cells ((madeCells #[Value.string ByteArray.empty] len).toList).toArray 9 (0, 0))) := hgm
    have HCL : Hid (∀ j v, ((ss.take len).map Value.string)[j]? = some v → (w'.alloc (.cells (madeCells #[.string ByteArray.empty] len) 9)).cell? (Addr.add ⟨b, off, none⟩ j) = some v) := hcl
    clear hgm hcl
    go_wp2_with (refine wpList_copy_splice rfl (.tmp 50) (.tmp 51) 26 26 rfl 9 Try.underlying26 size9 _ _ _ _ _ _ rfl rfl w'.heap.size 0 _ 9 HG.out _ (by rw [strs_len ss len hss]; exact (Nat.min_self _).symm) (fun _ => ⟨rfl, ⟨b, off, none⟩, rfl, HCL.out⟩) (by rw [strs_len ss len hss, made_long]; omega) (strs_one ss len) w'.heap.size w' hN (Nat.le_refl _) ?_; intro w2 HG2 hB2)
    have hL := lies_copy HG2.out hss hlen
    clear HG2 HG HCL HX HC hmk hN hne
    obtain ⟨r, hr⟩ : ∃ r, pfx s (ss.take len) = r := ⟨_, rfl⟩
    obtain ⟨ra, hra⟩ : ∃ r, pfx s (ss.take k) = r := ⟨_, rfl⟩
    obtain ⟨rb, hrb⟩ : ∃ r, pfx s ((ss.drop k).take (len - k)) = r := ⟨_, rfl⟩
    have HR : Hid (pfx s (ss.take len) = r) := hr
    have HRA : Hid (pfx s (ss.take k) = ra) := hra
    have HRB : Hid (pfx s ((ss.drop k).take (len - k)) = rb) := hrb
    clear hr hra hrb
    refine (zz_r s r _ w'.heap.size 0 len _ ss w2 hL HR).mono ?_
    rintro e w2 ⟨rfl, rfl⟩
    go_wp2_with fail
    refine (zz_r s ra _ w'.heap.size 0 k _ ss w2 (hL.sub hk) HRA).mono ?_
    rintro e w2 ⟨rfl, rfl⟩
    obtain ⟨a', ha'⟩ : ∃ a', (if len = k then some (⟨w'.heap.size, 0, none⟩ : Addr) else some ⟨w'.heap.size, k, none⟩) = a' := ⟨_, rfl⟩
    go_wp2_with fail
    refine (zz_r s rb _ w'.heap.size (0 + k) (len - k) _ (ss.drop k) w2 (hL.past hk (fun h0 => by rw [← ha', if_neg (by omega)]; simp)) HRB).mono ?_
    rintro e w2 ⟨rfl, rfl⟩
    clear ha'
    have hcut : r = ra ∨ (ra = ByteArray.empty ∧ r = rb) := by
      have := pfx_cut s (ss.take len) k
      rw [List.take_take, Nat.min_eq_left hk, List.drop_take] at this
      rw [← HR.out, ← HRA.out, ← HRB.out]
      exact this
    have hhit : r ≠ ByteArray.empty → hp s r = true ∧ r ∈ ss.take len := by
      rw [← HR.out]
      exact pfx_hit s (ss.take len)
    have HH : Hid (r ≠ ByteArray.empty → hp s r = true ∧ r ∈ ss.take len) := hhit
    clear hhit HR HRA HRB
    have hll : ((len : Int) == 0) = false := by rw [beq_eq_false_iff_ne]; omega
    obtain ⟨p, hp0⟩ : ∃ p, ss.getD j ByteArray.empty = p := ⟨_, rfl⟩
    have hcell : w2.cell? ⟨w'.heap.size, j, none⟩ = some (.string p) := by have := hL.cell j hjl; rw [Nat.zero_add, hp0] at this; exact this
    have hpz : p.size ≤ 1048576 := by rw [← hp0]; exact HZ.out j hjl
    obtain ⟨q, hq0⟩ : ∃ q, pfx (p ++ s) (ss.take len) = q := ⟨_, rfl⟩
    have hq := pfx_at (p ++ s) (ss.take len) j (by rw [List.length_take]; omega) (by
      rw [List.getElem_take]
      rw [List.getD_eq_getElem?_getD, List.getElem?_eq_getElem (by omega)] at hp0
      have hp1 : ss[j]'(by omega) = p := hp0
      rw [hp1]
      exact hp_append p s)
    rw [hq0, List.take_take, Nat.min_eq_left (by omega)] at hq
    obtain ⟨hq1, hq2⟩ := hq
    have HQ : Hid (pfx (p ++ s) (ss.take len) = q) := hq0
    have HQ2 : Hid (q ∈ ss.take (j + 1)) := hq2
    clear hq0 hq2 hp0 HZ
    rcases hcut with hcut | ⟨hc1, hc2⟩
    · subst hcut
      by_cases he : r.toList = []
      · -- r is empty
        go_wp2_with fail
        refine (zz_r (p ++ s) q _ w'.heap.size 0 len _ ss w2 hL HQ).mono ?_
        rintro e w2 ⟨rfl, rfl⟩
        go_wp2_with fail
        refine (starts_any _ _ _).mono ?_
        rintro e w2 ⟨rfl, rfl⟩
        go_wp2_with fail
        refine (member_at _ w'.heap.size 0 len _ (j + 1) _ q ss w2 hL (by omega) rfl HQ2).mono ?_
        rintro e w2 ⟨rfl, rfl⟩
        go_wp2
        go_ret
        exact ⟨rfl, hB2⟩
      · -- r is an entry
        obtain ⟨hr1, hr2⟩ := HH.out (by rintro rfl; exact he empty_toList)
        have HR2 : Hid (r ∈ ss.take len) := hr2
        clear hr2
        go_wp2_with fail
        refine (starts_any _ _ _).mono ?_
        rintro e w2 ⟨rfl, rfl⟩
        go_wp2_with fail
        refine (member_at _ w'.heap.size 0 len _ len _ r ss w2 hL (Nat.le_refl _) rfl HR2).mono ?_
        rintro e w2 ⟨rfl, rfl⟩
        go_wp2_with fail
        refine (zz_r (p ++ s) q _ w'.heap.size 0 len _ ss w2 hL HQ).mono ?_
        rintro e w2 ⟨rfl, rfl⟩
        go_wp2_with fail
        refine (starts_any _ _ _).mono ?_
        rintro e w2 ⟨rfl, rfl⟩
        go_wp2_with fail
        refine (member_at _ w'.heap.size 0 len _ (j + 1) _ q ss w2 hL (by omega) rfl HQ2).mono ?_
        rintro e w2 ⟨rfl, rfl⟩
        go_wp2
        go_ret
        exact ⟨rfl, hB2⟩
    · subst hc2
      have hc3 : ra.toList = [] := by rw [hc1]; exact empty_toList
      clear hc1
      by_cases he : r.toList = []
      · -- r is empty
        go_wp2_with fail
        refine (zz_r (p ++ s) q _ w'.heap.size 0 len _ ss w2 hL HQ).mono ?_
        rintro e w2 ⟨rfl, rfl⟩
        go_wp2_with fail
        refine (starts_any _ _ _).mono ?_
        rintro e w2 ⟨rfl, rfl⟩
        go_wp2_with fail
        refine (member_at _ w'.heap.size 0 len _ (j + 1) _ q ss w2 hL (by omega) rfl HQ2).mono ?_
        rintro e w2 ⟨rfl, rfl⟩
        go_wp2
        go_ret
        exact ⟨rfl, hB2⟩
      · -- r is an entry
        obtain ⟨hr1, hr2⟩ := HH.out (by rintro rfl; exact he empty_toList)
        have HR2 : Hid (r ∈ ss.take len) := hr2
        clear hr2
        go_wp2_with fail
        refine (starts_any _ _ _).mono ?_
        rintro e w2 ⟨rfl, rfl⟩
        go_wp2_with fail
        refine (member_at _ w'.heap.size 0 len _ len _ r ss w2 hL (Nat.le_refl _) rfl HR2).mono ?_
        rintro e w2 ⟨rfl, rfl⟩
        go_wp2_with fail
        refine (zz_r (p ++ s) q _ w'.heap.size 0 len _ ss w2 hL HQ).mono ?_
        rintro e w2 ⟨rfl, rfl⟩
        go_wp2_with fail
        refine (starts_any _ _ _).mono ?_
        rintro e w2 ⟨rfl, rfl⟩
        go_wp2_with fail
        refine (member_at _ w'.heap.size 0 len _ (j + 1) _ q ss w2 hL (by omega) rfl HQ2).mono ?_
        rintro e w2 ⟨rfl, rfl⟩
        go_wp2
        go_ret
        exact ⟨rfl, hB2⟩
  · obtain rfl : len = 0 := by omega
    obtain rfl : k = 0 := by omega
    have HL : Hid (∀ w : World, Lies w (some ⟨w'.heap.size, 0, none⟩) w'.heap.size 0 0 []) := fun w => ⟨fun h => absurd h (Nat.lt_irrefl _), by omega, by simp, fun j hj => absurd hj (Nat.not_lt_zero _)⟩
    have HB : Hid (Below w'.heap.size w' (w'.alloc (.cells (madeCells #[.string ByteArray.empty] 0) 9))) := hN
    have hmk0 : ∀ w : World, (Instr.makeSlice 26 (.int .i64 0) (.int .i64 0)).run Try.prog w = .ok (.slice (some ⟨w.heap.size, 0, none⟩) 0 0) (w.alloc (.cells (madeCells #[.string ByteArray.empty] 0) 9)) := hmk
    clear HC HX HZ hN hmk
    go_wp2_with (first | (go_at_call 17; refine (zz_r _ ByteArray.empty _ w'.heap.size 0 _ _ [] _ (HL.out _) rfl).mono ?_; rintro e w2 ⟨rfl, hw2⟩; subst hw2) | (refine wpList_copy_nothing rfl (.tmp 50) (.tmp 51) 26 26 rfl 9 Try.underlying26 size9 _ _ _ _ _ _ rfl rfl rfl ?_))
    go_ret
    exact ⟨rfl, HB.out⟩

end Go.Proofs.Qxb6617295a.Px
