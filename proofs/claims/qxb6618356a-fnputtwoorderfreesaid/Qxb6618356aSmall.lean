/-
  SEAT b6618356a: THE WALKS OF THE SMALL FUNCTIONS: zzBytes (11), zzEmptySlots (6), zzTag (10), tagOf (13), zzCopyTags (7), zzCopyPlaces (8).
-/
import Derived.Test.Qxb6618356aProg
import Derived.Test.Qxb6618356aPlain
import Derived.WalkKit
import Derived.WalkSpells
import Derived.Deep.OwnRows
namespace Go.Proofs.Qxb6618356a.Pw
open Go.RowKit

theorem ret_int {k : IntKind} {a b : Int} (h : a = b) : Ending.returned (.int k a) = .returned (.int k b) := by rw [h]

/-- A call that answers a bool, whichever, the world as it was. -/
def Tells (w : World) (e : Ending) (w' : World) : Prop := ∃ r, e = .returned (.bool r) ∧ w' = w

theorem bytes_any (a0 : Option Addr) (len0 cap0 : Nat) (a1 : Option Addr) (len1 cap1 : Nat) (n h1 p1 h2 p2 : Int) (w : World) (hl0 : len0 ≤ maxLen) (hl1 : len1 ≤ maxLen) :
    Calls Try.prog 11 #[.slice a0 len0 cap0, .slice a1 len1 cap1, .int .i64 n, .int .u64 h1, .int .i64 p1, .int .u64 h2, .int .i64 p2] w fun e w' => Tells w e w' := by
  unfold maxLen at hl0 hl1
  by_cases h1 : len0 ≤ 1048576
  · by_cases h2 : len1 ≤ 1048576
    · by_cases h3 : len0 + len1 ≤ 1048576
      · go_enter Try.func11, Try.ntmps11
        go_wp2
        go_ret
        exact ⟨true, rfl, rfl⟩
      · go_enter Try.func11, Try.ntmps11
        go_wp2
        go_ret
        exact ⟨false, rfl, rfl⟩
    · go_enter Try.func11, Try.ntmps11
      go_wp2
      go_ret
      exact ⟨false, rfl, rfl⟩
  · go_enter Try.func11, Try.ntmps11
    go_wp2
    go_ret
    exact ⟨false, rfl, rfl⟩

theorem empty_any (b off len cap : Nat) (T : Nat → Int) (w : World) (hl : len ≤ 65536) (hc : ∀ j, j < len → w.cell? ⟨b, off + j, none⟩ = some (.int .u8 (T j))) :
    Calls Try.prog 6 #[.slice (some ⟨b, off, none⟩) len cap] w fun e w' => e = .returned (.int .i64 (Pl.empties T len)) ∧ w' = w := by
  go_enter Try.func6, Try.ntmps6
  go_wp2
  go_loop [3, 4] (fun c i => ∃ k : Nat, k ≤ len ∧ i = .int .i64 k ∧ c = .int .i64 (Pl.empties T k)) (fun _ i => len - (intOf i).toNat)
  case atStart => exact ⟨0, Nat.zero_le _, rfl, rfl⟩
  case round =>
    obtain ⟨k, hk, rfl, rfl⟩ := hrel
    have he := Pl.empties_le T k
    by_cases hlt : k < len
    · have hcell := hc k hlt
      clear hc
      by_cases h0 : T k = 0
      · rw [h0] at hcell
        have HS : Hid (Pl.empties T (k + 1) = Pl.empties T k + 1) := by show _ = _; simp [Pl.empties, h0]
        clear h0
        go_wp2
        go_round
        case rel => exact ⟨k + 1, by omega, by go_num, by rw [HS.out]; go_num⟩
        case measure => simp [intOf]; omega
      · have HS : Hid (Pl.empties T (k + 1) = Pl.empties T k) := by show _ = _; simp [Pl.empties, h0]
        have hne : (T k == 0) = false := beq_eq_false_iff_ne.2 h0
        clear h0
        go_wp2
        go_round
        case rel => exact ⟨k + 1, by omega, by go_num, by rw [HS.out]⟩
        case measure => simp [intOf]; omega
    · obtain rfl : k = len := by omega
      go_wp2
      go_ret
      exact ⟨rfl, rfl⟩

/-- The tag of a hash. -/
def tag (h : Int) : Int := 128 + h / 144115188075855872
theorem tag_bd (h : Int) (h0 : 0 ≤ h) (h1 : h ≤ 18446744073709551615) : 128 ≤ tag h ∧ tag h ≤ 255 := by unfold tag; omega

theorem zzTag_any (h : Int) (w : World) (h0 : 0 ≤ h) (h1 : h ≤ 18446744073709551615) :
    Calls Try.prog 10 #[.int .u64 h] w fun e w' => e = .returned (.int .u8 (tag h)) ∧ w' = w := by
  go_enter Try.func10, Try.ntmps10
  go_wp2
  go_ret
  exact ⟨rfl, rfl⟩

theorem tagOf_any (h : Int) (w : World) (h0 : 0 ≤ h) (h1 : h ≤ 18446744073709551615) :
    Calls Try.prog 13 #[.int .u64 h] w fun e w' => e = .returned (.int .u8 (tag h)) ∧ w' = w := by
  have HT : Hid (bits .or .u8 (h / 144115188075855872) 128 = tag h) := by
    show _ = _
    rw [u8_or128_right _ (by omega) (by omega)]
    unfold tag
    omega
  go_enter Try.func13, Try.ntmps13
  go_wp2
  go_ret
  exact ⟨ret_int HT.out, rfl⟩

/-- 'm & (m - 1)' on an int. -/
theorem i64_and_nat (a b : Nat) (ha : a < 65537) (hb : b < 65537) : bits .and .i64 (a : Int) (b : Int) = ((a &&& b : Nat) : Int) := by
  have hx : a &&& b ≤ a := Nat.and_le_left
  show IntKind.i64.wrap ((BitVec.ofInt 64 (a : Int) &&& BitVec.ofInt 64 (b : Int)).toNat : Int) = _
  rw [BitVec.toNat_and, ofInt_u64 a (by omega), ofInt_u64 b (by omega), IntKind.wrap_i64]
  omega

/-! ### Copies -/
/-- What a copy hands back: a new row at the heap's end, that holds what the old one held; below it nothing has turned. -/
def Copied (t : TypeId) (k : IntKind) (len : Nat) (f : Nat → Int) (w : World) (e : Ending) (w' : World) : Prop :=
  e = .returned (.slice (some ⟨w.heap.size, 0, none⟩) len len) ∧ Below w.heap.size w w' ∧ w'.rowIs w.heap.size t len (fun j => .int k (f j))

/-- A row that has been filled up to k. -/
def half (k : IntKind) (f : Nat → Int) (n : Nat) : Nat → Value := fun j => if j < n then .int k (f j) else .int k 0

theorem half_next {w : World} {b : Nat} {t : TypeId} {k : IntKind} {f : Nat → Int} {len n : Nat} (h : w.rowIs b t len (half k f n)) : (w.setCell ⟨b, n, none⟩ (.int k (f n))).rowIs b t len (half k f (n + 1)) := by
  refine (h.set n (.int k (f n))).congr fun i hi => ?_
  unfold half
  by_cases e : i = n
  · subst e; simp
  · by_cases e2 : i < n
    · rw [if_neg e, if_pos e2, if_pos (by omega)]
    · rw [if_neg e, if_neg e2, if_neg (by omega)]
theorem half_all {w : World} {b : Nat} {t : TypeId} {k : IntKind} {f : Nat → Int} {len : Nat} (h : w.rowIs b t len (half k f len)) : w.rowIs b t len (fun j => .int k (f j)) :=
  h.congr fun i hi => by unfold half; rw [if_pos hi]
theorem half_at {w : World} {b : Nat} {t : TypeId} {k : IntKind} {f : Nat → Int} {len n : Nat} (h : w.rowIs b t len (half k f n)) (hn : n < len) : w.cell? ⟨b, n, none⟩ = some (.int k 0) := by
  rw [h.cell hn]; unfold half; rw [if_neg (Nat.lt_irrefl _)]
theorem half_made (w : World) (k : IntKind) (f : Nat → Int) (len : Nat) (t : TypeId) : (w.alloc (.cells (madeCells #[.int k 0] len) t)).rowIs w.heap.size t len (half k f 0) :=
  (World.rowIs_made w (.int k 0) len t).congr fun i _ => by unfold half; rw [if_neg (Nat.not_lt_zero _)]

theorem info5 : (Try.prog.info? 5).map (fun i => (i.zero, i.size, i.bytes)) = some (some (.int .u8 0), 1, 1) := by kernel_rfl
theorem info31 : (Try.prog.info? 31).map (fun i => (i.zero, i.size, i.bytes)) = some (some (.int .u32 0), 1, 4) := by kernel_rfl

theorem copyTags_any (b off len cap : Nat) (f : Nat → Int) (w : World) (hl : len ≤ 65536) (hc : ∀ j, j < len → w.cell? ⟨b, off + j, none⟩ = some (.int .u8 (f j))) :
    Calls Try.prog 7 #[.slice (some ⟨b, off, none⟩) len cap] w fun e w' => Copied 5 .u8 len f w e w' := by
  have hne := fun w => Lib.run_eql_slice_nil (P := Try.prog) w 22 5 (some ⟨b, off, none⟩) len cap 0 0 Try.underlying22
  have hmk := fun w => run_make_row' (P := Try.prog) 22 5 (.int .u8 0) 1 Try.underlying22 info5 rfl .i64 .i64 len (by omega) (by omega) w
  have H0 : Hid ((w.alloc (.cells (madeCells #[.int .u8 0] len) 5)).rowIs w.heap.size 5 len (half .u8 f 0)) := half_made w .u8 f len 5
  have HB : Hid (Below w.heap.size w (w.alloc (.cells (madeCells #[.int .u8 0] len) 5))) := (Below.refl _ _).alloc (Nat.le_refl _) _
  go_enter Try.func7, Try.ntmps7
  go_wp2
  go_loopw [4] (fun i wr => ∃ n : Nat, n ≤ len ∧ i = .int .i64 n ∧ Hid (Below w.heap.size w wr) ∧ Hid (wr.rowIs w.heap.size 5 len (half .u8 f n))) (fun i _ => len - (intOf i).toNat)
  case atStart => exact ⟨0, Nat.zero_le _, rfl, HB, H0⟩
  case round =>
    obtain ⟨n, hn, rfl, HBr, HR⟩ := hrel
    clear H0 HB hmk hne
    by_cases hlt : n < len
    · have hsrc : wr.cell? ⟨b, off + n, none⟩ = some (.int .u8 (f n)) := (HBr.out.cell (World.block_lt_of_cell? _ _ (hc n hlt))).trans (hc n hlt)
      have hdst := half_at HR.out hlt
      have hfr := HR.out.frozen n
      clear hc
      go_wp2
      go_roundw
      case rel => exact ⟨n + 1, by omega, by go_num, HBr.out.setCell (Nat.le_refl _) _, half_next HR.out⟩
      case measure => simp [intOf]; omega
    · obtain rfl : n = len := by omega
      go_wp2
      go_ret
      exact ⟨rfl, HBr, half_all HR.out⟩

theorem copyPlaces_any (b off len cap : Nat) (f : Nat → Int) (w : World) (hl : len ≤ 65536) (hc : ∀ j, j < len → w.cell? ⟨b, off + j, none⟩ = some (.int .u32 (f j))) :
    Calls Try.prog 8 #[.slice (some ⟨b, off, none⟩) len cap] w fun e w' => Copied 31 .u32 len f w e w' := by
  have hne := fun w => Lib.run_eql_slice_nil (P := Try.prog) w 23 31 (some ⟨b, off, none⟩) len cap 0 0 Try.underlying23
  have hmk := fun w => run_make_row' (P := Try.prog) 23 31 (.int .u32 0) 4 Try.underlying23 info31 rfl .i64 .i64 len (by omega) (by omega) w
  have H0 : Hid ((w.alloc (.cells (madeCells #[.int .u32 0] len) 31)).rowIs w.heap.size 31 len (half .u32 f 0)) := half_made w .u32 f len 31
  have HB : Hid (Below w.heap.size w (w.alloc (.cells (madeCells #[.int .u32 0] len) 31))) := (Below.refl _ _).alloc (Nat.le_refl _) _
  go_enter Try.func8, Try.ntmps8
  go_wp2
  go_loopw [4] (fun i wr => ∃ n : Nat, n ≤ len ∧ i = .int .i64 n ∧ Hid (Below w.heap.size w wr) ∧ Hid (wr.rowIs w.heap.size 31 len (half .u32 f n))) (fun i _ => len - (intOf i).toNat)
  case atStart => exact ⟨0, Nat.zero_le _, rfl, HB, H0⟩
  case round =>
    obtain ⟨n, hn, rfl, HBr, HR⟩ := hrel
    clear H0 HB hmk hne
    by_cases hlt : n < len
    · have hsrc : wr.cell? ⟨b, off + n, none⟩ = some (.int .u32 (f n)) := (HBr.out.cell (World.block_lt_of_cell? _ _ (hc n hlt))).trans (hc n hlt)
      have hdst := half_at HR.out hlt
      have hfr := HR.out.frozen n
      clear hc
      go_wp2
      go_roundw
      case rel => exact ⟨n + 1, by omega, by go_num, HBr.out.setCell (Nat.le_refl _) _, half_next HR.out⟩
      case measure => simp [intOf]; omega
    · obtain rfl : n = len := by omega
      go_wp2
      go_ret
      exact ⟨rfl, HBr, half_all HR.out⟩

end Go.Proofs.Qxb6618356a.Pw
