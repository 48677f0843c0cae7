/-
  SEAT b6618356a: THE WALKS OF (*index).put (12) AND ZZIndexPut (9).
-/
import Derived.Test.Qxb6618356aSmall
import Derived.Deep.LoopGhost
import Derived.Deep.RegionWith
import Derived.Deep.QuietTactic
import Derived.BigQuiet
namespace Go.Proofs.Qxb6618356a.Pw
open Go.RowKit

/-- Blocks tb and pb alone may have turned. -/
structure Only (tb pb : Nat) (w w' : World) : Prop where
  os : w'.os = w.os
  tape : w'.tape = w.tape
  output : w'.output = w.output
  size : w'.heap.size = w.heap.size
  block : ∀ k, k ≠ tb → k ≠ pb → w'.heap[k]? = w.heap[k]?

/-- What put leaves: the first empty slot is filled. -/
def Filled (tb pb m s : Nat) (T P : Nat → Int) (t p : Int) (w : World) (w' : World) : Prop :=
  ∃ i, Pl.First T m s i ∧ Only tb pb w w' ∧ w'.rowIs tb 5 m (fun j => .int .u8 (Pl.upd T i t j)) ∧ w'.rowIs pb 31 m (fun j => .int .u32 (Pl.upd P i p j))

theorem mask_at (m : Nat) (x : Int) (hm : m ≠ 0) (hm' : m ≤ 65536) (hp : m &&& (m - 1) = 0) (h0 : 0 ≤ x) (h1 : x ≤ 18446744073709551615) : bits .and .u64 x ((m : Int) - 1) = ((x.toNat % m : Nat) : Int) := by
  rw [u64_and _ _ h0 (by omega) (by omega) (by omega), show ((m : Int) - 1).toNat = m - 1 by omega, Pl.and_mask hm hp]

theorem filled_of {w : World} {tb pb m s i : Nat} {T P : Nat → Int} {t p : Int} (hT : w.rowIs tb 5 m (fun j => .int .u8 (T j))) (hP : w.rowIs pb 31 m (fun j => .int .u32 (P j))) (htp : tb ≠ pb) (p0 : 0 ≤ p) (p1 : p ≤ 4294967295) (hF : Pl.First T m s i) :
    Filled tb pb m s T P t p w (((w.setCell ⟨tb, i, none⟩ (.int .u8 t)).setCell ⟨pb, i, none⟩ (.int .u32 (IntKind.u32.wrap p))).drew) := by
  have hw : IntKind.u32.wrap p = p := by rw [IntKind.wrap_u32]; omega
  rw [hw]
  refine ⟨i, hF, ⟨rfl, rfl, rfl, by simp [World.setCell, World.drew], fun k h1 h2 => ?_⟩, World.rowIs.drew ?_, World.rowIs.drew ?_⟩
  · show ((w.setCell ⟨tb, i, none⟩ (.int .u8 t)).setCell ⟨pb, i, none⟩ (.int .u32 p)).heap[k]? = _
    rw [Below.heap_setCell _ _ _ _ h2, Below.heap_setCell _ _ _ _ h1]
  · refine ((hT.set i (.int .u8 t)).setOther (a := ⟨pb, i, none⟩) htp (.int .u32 p)).congr fun j _ => ?_
    unfold Pl.upd
    by_cases e : j = i
    · simp [e]
    · simp [e]
  · refine ((hP.setOther (a := ⟨tb, i, none⟩) (fun e => htp e.symm) (.int .u8 t)).set i (.int .u32 p)).congr fun j _ => ?_
    unfold Pl.upd
    by_cases e : j = i
    · simp [e]
    · simp [e]

set_option maxHeartbeats 1000000 in
theorem put_any (xb tb pb m : Nat) (T P : Nat → Int) (h p : Int) (w : World) (hm : m ≠ 0) (hm' : m ≤ 65536) (hp2 : m &&& (m - 1) = 0) (h0 : 0 ≤ h) (h1 : h ≤ 18446744073709551615) (p0 : 0 ≤ p) (p1 : p ≤ 4294967295)
    (hx0 : w.cell? ⟨xb, 0, none⟩ = some (.slice (some ⟨tb, 0, none⟩) m m)) (hx1 : w.cell? ⟨xb, 1, none⟩ = some (.slice (some ⟨pb, 0, none⟩) m m))
    (hT : w.rowIs tb 5 m (fun j => .int .u8 (T j))) (hP : w.rowIs pb 31 m (fun j => .int .u32 (P j))) (htp : tb ≠ pb) (hk : ∃ k, k < m ∧ T k = 0) :
    Calls Try.prog 12 #[.pointer (some ⟨xb, 0, none⟩), .int .u64 h, .int .i64 p] w fun e w' => e = .returned (.tuple #[]) ∧ Filled tb pb m (h.toNat % m) T P (tag h) p w w' := by
  have hs := mask_at m h hm hm' hp2 h0 h1
  obtain ⟨s, hs0⟩ : ∃ s, h.toNat % m = s := ⟨_, rfl⟩
  have hsm : s < m := by rw [← hs0]; exact Nat.mod_lt _ (by omega)
  rw [hs0] at hs ⊢
  clear hs0
  have HN : Hid (∀ i : Nat, i < m → bits .and .u64 ((i : Int) + 1) ((m : Int) - 1) = (((i + 1) % m : Nat) : Int)) := by
    intro i hi
    rw [mask_at m _ hm hm' hp2 (by omega) (by omega)]
    congr 2
  have HT : Hid (w.rowIs tb 5 m (fun j => .int .u8 (T j))) := hT
  have HP : Hid (w.rowIs pb 31 m (fun j => .int .u32 (P j))) := hP
  obtain ⟨k, hk, hk0⟩ := hk
  obtain ⟨d0, hd0, hz0⟩ := Pl.first_of hsm hk hk0
  have HZ : Hid (T ((s + d0) % m) = 0) := hz0
  clear hT hP hk0 hp2 hz0
  go_enter Try.func12, Try.ntmps12
  go_wp2
  go_loopg [7] d0 (fun g v wr => ∃ d i : Nat, g = d0 - d ∧ d ≤ d0 ∧ i < m ∧ v = .int .u64 i ∧ Hid (i = (s + d) % m) ∧ Hid (∀ c, c < d → T ((s + c) % m) ≠ 0) ∧ wr = w)
  case atStart => exact ⟨0, s, rfl, Nat.zero_le _, hsm, rfl, (Nat.mod_eq_of_lt hsm).symm, fun c hc => absurd hc (Nat.not_lt_zero _), rfl⟩
  case round =>
    obtain ⟨d, i, rfl, hd, hi, rfl, HI, HD, hw⟩ := hrel
    subst hw
    have hcell : wr.cell? ⟨tb, i, none⟩ = some (.int .u8 (T i)) := HT.out.cell hi
    by_cases hz : T i = 0
    · rw [hz] at hcell
      have hpc : wr.cell? ⟨pb, i, none⟩ = some (.int .u32 (P i)) := HP.out.cell hi
      have hf1 := HT.out.frozen i
      have hf2 := HP.out.frozen i
      have htp' : pb ≠ tb := fun e => htp e.symm
      clear hs
      go_wp2
      go_region_with (go_at_call 13; refine (tagOf_any _ _ h0 h1).mono ?_; rintro e w2 ⟨rfl, rfl⟩)
      all_goals (go_wp2; go_end0; refine ⟨rfl, ?_⟩)
      all_goals exact filled_of HT.out HP.out htp p0 p1 ⟨d, by omega, HI.out, hz, HD.out⟩
    · have hne : (T i != 0) = true := by simp [hz]
      have hnx := HN.out i hi
      have HDZ : Hid (d < d0) := by
        show d < d0
        rcases Nat.lt_or_eq_of_le hd with h | h
        · exact h
        · exact absurd (by rw [HI.out, h]; exact HZ.out) hz
      clear hs hz
      go_wp2
      go_roundg (d0 - (d + 1))
      case measure => have := HDZ.out; omega
      case rel =>
        refine ⟨d + 1, (i + 1) % m, rfl, HDZ.out, Nat.mod_lt _ (by omega), rfl, ?_, ?_, rfl⟩
        · show _ = _
          rw [HI.out, Nat.mod_add_mod, Nat.add_assoc]
        · intro c hc
          by_cases e : c = d
          · rw [e, ← HI.out]
            intro e0
            rw [e0] at hne
            exact absurd hne (by decide)
          · exact HD.out c (by omega)

/-- What ZZIndexPut leaves: of what was there, blocks tb and pb alone have turned. -/
structure Stepped (tb pb m s : Nat) (T P : Nat → Int) (t p n : Int) (w : World) (e : Ending) (w' : World) : Prop where
  ret : e = .returned (.tuple #[.slice (some ⟨tb, 0, none⟩) m m, .slice (some ⟨pb, 0, none⟩) m m, .int .i64 n])
  os : w'.os = w.os
  tape : w'.tape = w.tape
  output : w'.output = w.output
  size : w.heap.size < w'.heap.size
  block : ∀ k, k < w.heap.size → k ≠ tb → k ≠ pb → w'.heap[k]? = w.heap[k]?
  fill : ∃ i, Pl.First T m s i ∧ w'.rowIs tb 5 m (fun j => .int .u8 (Pl.upd T i t j)) ∧ w'.rowIs pb 31 m (fun j => .int .u32 (Pl.upd P i p j))

theorem Stepped.drewN {tb pb m s : Nat} {T P : Nat → Int} {t p n : Int} {w w' : World} {e : Ending} (h : Stepped tb pb m s T P t p n w e w') (q : Nat) : Stepped tb pb m s T P t p n w e (w'.drewN q) :=
  ⟨h.ret, h.os, h.tape, h.output, h.size, h.block, h.fill⟩

set_option maxHeartbeats 1000000 in
theorem zzPut_any (tb pb m : Nat) (T P : Nat → Int) (n h p : Int) (w : World) (hm : m ≠ 0) (hm' : m ≤ 65536) (hp2 : m &&& (m - 1) = 0) (h0 : 0 ≤ h) (h1 : h ≤ 18446744073709551615) (p0 : 0 ≤ p) (p1 : p ≤ 4294967295)
    (hT : w.rowIs tb 5 m (fun j => .int .u8 (T j))) (hP : w.rowIs pb 31 m (fun j => .int .u32 (P j))) (htp : tb ≠ pb) (hk : ∃ k, k < m ∧ T k = 0) :
    Calls Try.prog 9 #[.slice (some ⟨tb, 0, none⟩) m m, .slice (some ⟨pb, 0, none⟩) m m, .int .i64 n, .int .u64 h, .int .i64 p] w fun e w' => Stepped tb pb m (h.toNat % m) T P (tag h) p n w e w' := by
  have HT : Hid (w.rowIs tb 5 m (fun j => .int .u8 (T j))) := hT
  have HP : Hid (w.rowIs pb 31 m (fun j => .int .u32 (P j))) := hP
  have HK : Hid (∃ k, k < m ∧ T k = 0) := hk
  have H2 : Hid (m &&& (m - 1) = 0) := hp2
  have htl : w.heap.size ≠ tb := by have := hT.lt; omega
  have hpl : w.heap.size ≠ pb := by have := hP.lt; omega
  clear hT hP hk hp2
  go_enter Try.func9, Try.ntmps9
  go_wp2_with fail
  refine (put_any w.heap.size tb pb m T P h p _ hm hm' H2.out h0 h1 p0 p1 (by simp) (by simp) (HT.out.alloc _) (HP.out.alloc _) htp HK.out).mono ?_
  rintro e w2 ⟨rfl, i, hF, ho, hrT, hrP⟩
  have hbl : w2.heap[w.heap.size]? = some (.cells #[.slice (some ⟨tb, 0, none⟩) m m, .slice (some ⟨pb, 0, none⟩) m m, .int .i64 n] 36 (0, 0)) := (ho.block _ htl hpl).trans (Deep.blk_alloc_new _ _)
  have hc0 : w2.cell? ⟨w.heap.size, 0, none⟩ = some (.slice (some ⟨tb, 0, none⟩) m m) := by simp [World.cell?, hbl]
  have hc1 : w2.cell? ⟨w.heap.size, 1, none⟩ = some (.slice (some ⟨pb, 0, none⟩) m m) := by simp [World.cell?, hbl]
  have hc2 : w2.cell? ⟨w.heap.size, 2, none⟩ = some (.int .i64 n) := by simp [World.cell?, hbl]
  have hsz : w.heap.size < w2.heap.size := by rw [ho.size, Deep.nblk_alloc]; omega
  have hbk : ∀ k, k < w.heap.size → k ≠ tb → k ≠ pb → w2.heap[k]? = w.heap[k]? := fun k h1 h2 h3 => (ho.block k h2 h3).trans (Deep.blk_alloc_lt _ _ _ h1)
  have HST : Hid (Stepped tb pb m (h.toNat % m) T P (tag h) p n w (.returned (.tuple #[.slice (some ⟨tb, 0, none⟩) m m, .slice (some ⟨pb, 0, none⟩) m m, .int .i64 n])) w2) :=
    ⟨rfl, ho.os, ho.tape, ho.output, hsz, hbk, i, hF, hrT, hrP⟩
  clear hbk hsz hbl hrT hrP ho hF
  go_wp2
  go_quiet (fail)
  go_wp2
  go_ret3
  exact HST.out.drewN nq

end Go.Proofs.Qxb6618356a.Pw
