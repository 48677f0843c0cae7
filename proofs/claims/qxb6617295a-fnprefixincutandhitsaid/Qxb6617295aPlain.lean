/-
  SEAT b6617295a: THE PLAIN LAWS: what prefixIn computes ('pfx'), and what the law asks of it. No Go in sight.
-/
import Derived.Lib.Strings
namespace Go.Proofs.Qxb6617295a.Px

/-- Does s begin with p? -/
def hp (s p : ByteArray) : Bool := Lib.hasPrefix s.data.toList p.data.toList
/-- The first of ss that s begins with; the empty string where there is none. -/
def pfx (s : ByteArray) (ss : List ByteArray) : ByteArray := (ss.find? (hp s)).getD ByteArray.empty

theorem pfx_nil (s : ByteArray) : pfx s [] = ByteArray.empty := rfl

theorem pfx_cut (s : ByteArray) (ss : List ByteArray) (k : Nat) :
    pfx s ss = pfx s (ss.take k) ∨ (pfx s (ss.take k) = ByteArray.empty ∧ pfx s ss = pfx s (ss.drop k)) := by
  unfold pfx
  have h : ss.find? (hp s) = (ss.take k ++ ss.drop k).find? (hp s) := by rw [List.take_append_drop]
  rw [h, List.find?_append]
  cases (ss.take k).find? (hp s) with
  | none => exact .inr ⟨rfl, rfl⟩
  | some x => exact .inl rfl

theorem pfx_hit (s : ByteArray) (ss : List ByteArray) (h : pfx s ss ≠ ByteArray.empty) : hp s (pfx s ss) = true ∧ pfx s ss ∈ ss := by
  unfold pfx at h ⊢
  cases hf : ss.find? (hp s) with
  | none => rw [hf] at h; exact absurd rfl h
  | some x => exact ⟨List.find?_some hf, List.mem_of_find?_eq_some hf⟩

theorem hp_append (p s : ByteArray) : hp (p ++ s) p = true := by
  unfold hp Lib.hasPrefix
  rw [List.isPrefixOf_iff_prefix]
  refine ⟨s.data.toList, ?_⟩
  simp [ByteArray.data_append]

theorem pfx_at (t : ByteArray) (ss : List ByteArray) (j : Nat) (hj : j < ss.length) (h : hp t (ss[j]) = true) :
    hp t (pfx t ss) = true ∧ pfx t ss ∈ ss.take (j + 1) := by
  have hm : ss[j] ∈ ss.take (j + 1) := by
    rw [List.take_succ_eq_append_getElem hj]; exact List.mem_append_right _ (List.mem_singleton.2 rfl)
  unfold pfx
  have h' : ss.find? (hp t) = (ss.take (j + 1) ++ ss.drop (j + 1)).find? (hp t) := by rw [List.take_append_drop]
  rw [h', List.find?_append]
  cases hf : (ss.take (j + 1)).find? (hp t) with
  | none => exact absurd h (List.find?_eq_none.1 hf _ hm)
  | some x => exact ⟨List.find?_some hf, List.mem_of_find?_eq_some hf⟩

theorem pfx_none (s : ByteArray) (ss : List ByteArray) (len : Nat) (h : ∀ j, j < len → hp s (ss.getD j ByteArray.empty) = false) : pfx s (ss.take len) = ByteArray.empty := by
  unfold pfx
  rw [List.find?_eq_none.2 ?_]
  · rfl
  · intro x hx
    obtain ⟨j, hj, rfl⟩ := List.mem_iff_getElem.1 hx
    have hl := List.length_take (l := ss) (i := len)
    have := h j (by omega)
    rw [List.getElem_take]
    rw [List.getD_eq_getElem?_getD, List.getElem?_eq_getElem (by omega)] at this
    simpa using this

theorem take_snoc (ss : List ByteArray) (k : Nat) (h : k < ss.length) : ss.take (k + 1) = ss.take k ++ [ss.getD k ByteArray.empty] := by
  rw [List.take_succ_eq_append_getElem h, List.getD_eq_getElem?_getD, List.getElem?_eq_getElem h]
  rfl

theorem pfx_found (s : ByteArray) (ss : List ByteArray) (len k : Nat) (hk : k < len) (hl : len ≤ ss.length) (h : ∀ j, j < k → hp s (ss.getD j ByteArray.empty) = false)
    (hh : hp s (ss.getD k ByteArray.empty) = true) : pfx s (ss.take len) = ss.getD k ByteArray.empty := by
  have h0 : (ss.take k).find? (hp s) = none := by
    rw [List.find?_eq_none]
    intro x hx
    obtain ⟨j, hj, rfl⟩ := List.mem_iff_getElem.1 hx
    have hl := List.length_take (l := ss) (i := k)
    have := h j (by omega)
    rw [List.getElem_take]
    rw [List.getD_eq_getElem?_getD, List.getElem?_eq_getElem (by omega)] at this
    simpa using this
  unfold pfx
  have e : ss.take len = (ss.take k ++ [ss.getD k ByteArray.empty]) ++ (ss.take len).drop (k + 1) := by
    rw [← take_snoc ss k (by omega)]
    have := List.take_append_drop (k + 1) (ss.take len)
    rw [List.take_take, Nat.min_eq_left (by omega)] at this
    exact this.symm
  rw [e, List.find?_append, List.find?_append, h0, List.find?_cons, hh]
  rfl

theorem mem_found (ss : List ByteArray) (n k : Nat) (v : ByteArray) (hk : k < n) (hl : n ≤ ss.length) (h : ss.getD k ByteArray.empty = v) : v ∈ ss.take n := by
  rw [List.getD_eq_getElem?_getD, List.getElem?_eq_getElem (by omega)] at h
  refine List.mem_iff_getElem.2 ⟨k, by rw [List.length_take]; omega, ?_⟩
  rw [List.getElem_take]
  exact h

theorem mem_none (ss : List ByteArray) (n : Nat) (v : ByteArray) (hl : n ≤ ss.length) (h : ∀ j, j < n → ss.getD j ByteArray.empty ≠ v) : v ∉ ss.take n := by
  intro hx
  obtain ⟨j, hj, e⟩ := List.mem_iff_getElem.1 hx
  have hl := List.length_take (l := ss) (i := n)
  apply h j (by omega)
  rw [List.getElem_take] at e
  rw [List.getD_eq_getElem?_getD, List.getElem?_eq_getElem (by omega)]
  exact e

end Go.Proofs.Qxb6617295a.Px
