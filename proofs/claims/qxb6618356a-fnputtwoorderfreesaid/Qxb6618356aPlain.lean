namespace Go.Proofs.Qxb6618356a.Pl

/-- Slot i of a table that is turned at slot e alone. -/
def upd (f : Nat → Int) (e : Nat) (v : Int) : Nat → Int := fun j => if j = e then v else f j
theorem upd_at (f : Nat → Int) (e : Nat) (v : Int) : upd f e v e = v := by simp [upd]
theorem upd_ne (f : Nat → Int) (e : Nat) (v : Int) {j : Nat} (h : j ≠ e) : upd f e v j = f j := by simp [upd, h]

/-- e is the first empty slot from s on, going forward and around. -/
def First (T : Nat → Int) (m s e : Nat) : Prop := ∃ d, d < m ∧ e = (s + d) % m ∧ T e = 0 ∧ ∀ c, c < d → T ((s + c) % m) ≠ 0

theorem First.lt {T : Nat → Int} {m s e : Nat} (h : First T m s e) : e < m := by
  obtain ⟨d, hd, rfl, _⟩ := h
  exact Nat.mod_lt _ (by omega)
theorem First.zero {T : Nat → Int} {m s e : Nat} (h : First T m s e) : T e = 0 := by
  obtain ⟨d, hd, _, h0, _⟩ := h
  exact h0
theorem First.uniq {T : Nat → Int} {m s e f : Nat} (h : First T m s e) (k : First T m s f) : e = f := by
  obtain ⟨d, hd, rfl, h0, hb⟩ := h
  obtain ⟨c, hc, rfl, k0, kb⟩ := k
  rcases Nat.lt_trichotomy d c with h | h | h
  · exact absurd h0 (kb d h)
  · rw [h]
  · exact absurd k0 (hb c h)

/-- What is first stays first while another slot is filled. -/
theorem First.other {T : Nat → Int} {m s e f : Nat} {v : Int} (h : First T m s e) (hv : v ≠ 0) (hf : e ≠ f) : First (upd T f v) m s e := by
  obtain ⟨d, hd, he, h0, hb⟩ := h
  refine ⟨d, hd, he, by rw [upd_ne _ _ _ hf]; exact h0, fun c hc => ?_⟩
  unfold upd
  split
  · exact hv
  · exact hb c hc

/-- Where the first slot itself was filled, the next one is the first from there on. -/
theorem First.next {T : Nat → Int} {m s e f : Nat} {v : Int} (h : First T m s e) (hv : v ≠ 0) (k : First (upd T e v) m s f) : First (upd T e v) m e f := by
  obtain ⟨d, hd, he, h0, hb⟩ := h
  obtain ⟨c, hc, hf, k0, kb⟩ := k
  have hdc : d < c := by
    rcases Nat.lt_trichotomy d c with h | h | h
    · exact h
    · subst h
      rw [hf, ← he, upd_at] at k0
      exact absurd k0 hv
    · rw [hf] at k0
      unfold upd at k0
      split at k0
      · exact absurd k0 hv
      · exact absurd k0 (hb c h)
  have key : ∀ x, (e + x) % m = (s + (d + x)) % m := by
    intro x
    rw [he, Nat.mod_add_mod, Nat.add_assoc]
  refine ⟨c - d, by omega, ?_, k0, fun x hx => ?_⟩
  · rw [key, hf]
    congr 2
    omega
  · rw [key]
    exact kb _ (by omega)

theorem First.same {T U : Nat → Int} {m s e : Nat} (hz : ∀ j, T j = 0 ↔ U j = 0) (h : First T m s e) : First U m s e := by
  obtain ⟨d, hd, he, h0, hb⟩ := h
  exact ⟨d, hd, he, (hz e).1 h0, fun c hc => fun e0 => hb c hc ((hz _).2 e0)⟩

/-- THE LAW OF TWO: the two orders fill the same two slots. -/
theorem two {T : Nat → Int} {m s1 s2 e1 e2 f1 f2 : Nat} {v1 v2 : Int} (hv1 : v1 ≠ 0) (hv2 : v2 ≠ 0)
    (a1 : First T m s1 e1) (a2 : First (upd T e1 v1) m s2 e2) (b1 : First T m s2 f1) (b2 : First (upd T f1 v2) m s1 f2) :
    (f1 = e2 ∧ f2 = e1) ∨ (f1 = e1 ∧ f2 = e2) := by
  by_cases h : e1 = f1
  · subst h
    right
    refine ⟨rfl, ?_⟩
    have h1 := b1.next hv1 a2
    have h2 := a1.next hv2 b2
    refine (h2.same (U := upd T e1 v1) fun j => ?_).uniq h1
    unfold upd
    split
    · exact ⟨fun h => absurd h hv2, fun h => absurd h hv1⟩
    · exact Iff.rfl
  · left
    exact ⟨(b1.other hv1 (fun e => h e.symm)).uniq a2, b2.uniq (a1.other hv2 h)⟩

theorem First.ne {T : Nat → Int} {m s e f : Nat} {v : Int} (hv : v ≠ 0) (k : First (upd T e v) m s f) : f ≠ e := by
  intro h
  subst h
  have := k.zero
  rw [upd_at] at this
  exact hv this

/-- An empty slot is met within one turn. -/
theorem first_of {T : Nat → Int} {m s k : Nat} (hs : s < m) (hk : k < m) (h0 : T k = 0) : ∃ d, d < m ∧ T ((s + d) % m) = 0 := by
  by_cases h : s ≤ k
  · exact ⟨k - s, by omega, by rw [show s + (k - s) = k by omega, Nat.mod_eq_of_lt hk]; exact h0⟩
  · exact ⟨k + m - s, by omega, by rw [show s + (k + m - s) = k + m by omega, Nat.add_mod_right, Nat.mod_eq_of_lt hk]; exact h0⟩

/-- The number of empty slots among the first n. -/
def empties (T : Nat → Int) : Nat → Nat
  | 0 => 0
  | n + 1 => empties T n + if T n = 0 then 1 else 0
theorem empties_le (T : Nat → Int) (n : Nat) : empties T n ≤ n := by
  induction n with
  | zero => exact Nat.le_refl _
  | succ n ih => unfold empties; split <;> omega
theorem one_of {T : Nat → Int} : ∀ {n : Nat}, 1 ≤ empties T n → ∃ j, j < n ∧ T j = 0
  | 0, h => by simp [empties] at h
  | n + 1, h => by
    by_cases h0 : T n = 0
    · exact ⟨n, by omega, h0⟩
    · have : empties T (n + 1) = empties T n := by simp [empties, h0]
      obtain ⟨j, hj, hz⟩ := one_of (T := T) (n := n) (by omega)
      exact ⟨j, by omega, hz⟩
theorem two_of {T : Nat → Int} : ∀ {n : Nat}, 2 ≤ empties T n → ∃ j k, j < n ∧ k < n ∧ j ≠ k ∧ T j = 0 ∧ T k = 0
  | 0, h => by simp [empties] at h
  | n + 1, h => by
    by_cases h0 : T n = 0
    · have : empties T (n + 1) = empties T n + 1 := by simp [empties, h0]
      obtain ⟨j, hj, hz⟩ := one_of (T := T) (n := n) (by omega)
      exact ⟨j, n, by omega, by omega, by omega, hz, h0⟩
    · have : empties T (n + 1) = empties T n := by simp [empties, h0]
      obtain ⟨j, k, hj, hk, hjk, hz, hz'⟩ := two_of (T := T) (n := n) (by omega)
      exact ⟨j, k, by omega, by omega, hjk, hz, hz'⟩
theorem left_of {T : Nat → Int} {n e : Nat} {v : Int} (h : 2 ≤ empties T n) : ∃ k, k < n ∧ upd T e v k = 0 := by
  obtain ⟨j, k, hj, hk, hjk, hz, hz'⟩ := two_of h
  by_cases hje : j = e
  · exact ⟨k, hk, by rw [upd_ne _ _ _ (by omega)]; exact hz'⟩
  · exact ⟨j, hj, by rw [upd_ne _ _ _ hje]; exact hz⟩

/-- THE FINISHED TABLE, as the law's last loop looks at it: p1 holds the first pair, p2 the second; p1 lies ahead where the pairs are one; all else is as it was. -/
structure Placed (T P A B : Nat → Int) (m : Nat) (t1 q1 t2 q2 : Int) (p1 p2 : Nat) : Prop where
  l1 : p1 < m
  l2 : p2 < m
  ne : p1 ≠ p2
  z1 : T p1 = 0
  z2 : T p2 = 0
  a1 : A p1 = t1
  b1 : B p1 = q1
  a2 : A p2 = t2
  b2 : B p2 = q2
  ahead : t2 = t1 → q2 = q1 → p1 < p2
  old : ∀ k, k ≠ p1 → k ≠ p2 → A k = T k ∧ B k = P k

theorem placed_of {T P : Nat → Int} {m e1 e2 : Nat} {t1 q1 t2 q2 : Int} (l1 : e1 < m) (l2 : e2 < m) (ne : e2 ≠ e1) (z1 : T e1 = 0) (z2 : T e2 = 0) :
    ∃ p1 p2, Placed T P (upd (upd T e1 t1) e2 t2) (upd (upd P e1 q1) e2 q2) m t1 q1 t2 q2 p1 p2 ∧ ((p1 = e1 ∧ p2 = e2) ∨ (p1 = e2 ∧ p2 = e1)) := by
  have x1 : ∀ (f : Nat → Int) (u v : Int), upd (upd f e1 u) e2 v e1 = u := fun f u v => by rw [upd_ne _ _ _ (by omega), upd_at]
  have x2 : ∀ (f : Nat → Int) (u v : Int), upd (upd f e1 u) e2 v e2 = v := fun f u v => by rw [upd_at]
  have x3 : ∀ (f : Nat → Int) (u v : Int) (k : Nat), k ≠ e1 → k ≠ e2 → upd (upd f e1 u) e2 v k = f k := fun f u v k h1 h2 => by rw [upd_ne _ _ _ h2, upd_ne _ _ _ h1]
  by_cases h : (t2 = t1 ∧ q2 = q1) ∧ e2 < e1
  · obtain ⟨⟨rfl, rfl⟩, hl⟩ := h
    exact ⟨e2, e1, ⟨l2, l1, ne, z2, z1, x2 .., x2 .., x1 .., x1 .., fun _ _ => hl, fun k h1 h2 => ⟨x3 _ _ _ _ h2 h1, x3 _ _ _ _ h2 h1⟩⟩, .inr ⟨rfl, rfl⟩⟩
  · exact ⟨e1, e2, ⟨l1, l2, fun e => ne e.symm, z1, z2, x1 .., x1 .., x2 .., x2 .., fun h1 h2 => by
      rcases Nat.lt_trichotomy e1 e2 with g | g | g
      · exact g
      · exact absurd g.symm ne
      · exact absurd ⟨⟨h1, h2⟩, g⟩ h, fun k h1 h2 => ⟨x3 _ _ _ _ h1 h2, x3 _ _ _ _ h1 h2⟩⟩, .inl ⟨rfl, rfl⟩⟩

/-- The same table, the pairs named the other way round. -/
theorem Placed.swap {T P A B : Nat → Int} {m : Nat} {t1 q1 t2 q2 : Int} {a b : Nat} (h : Placed T P A B m t2 q2 t1 q1 a b) :
    ∃ x y, Placed T P A B m t1 q1 t2 q2 x y ∧ ((x = a ∧ y = b) ∨ (x = b ∧ y = a)) := by
  by_cases e : t2 = t1 ∧ q2 = q1
  · obtain ⟨rfl, rfl⟩ := e
    exact ⟨a, b, h, .inl ⟨rfl, rfl⟩⟩
  · exact ⟨b, a, ⟨h.l2, h.l1, fun e => h.ne e.symm, h.z2, h.z1, h.a2, h.b2, h.a1, h.b1, fun e1 e2 => absurd ⟨e1, e2⟩ e, fun k h1 h2 => h.old k h2 h1⟩, .inr ⟨rfl, rfl⟩⟩

/-- THE TWO ORDERS, as the law's last loop looks at them. -/
theorem both {T P : Nat → Int} {m s1 s2 i1 i2 j1 j2 : Nat} {t1 t2 q1 q2 : Int} (ht1 : t1 ≠ 0) (ht2 : t2 ≠ 0)
    (a1 : First T m s1 i1) (a2 : First (upd T i1 t1) m s2 i2) (b1 : First T m s2 j1) (b2 : First (upd T j1 t2) m s1 j2) :
    ∃ x1 x2 y1 y2, Placed T P (upd (upd T i1 t1) i2 t2) (upd (upd P i1 q1) i2 q2) m t1 q1 t2 q2 x1 x2 ∧ Placed T P (upd (upd T j1 t2) j2 t1) (upd (upd P j1 q2) j2 q1) m t1 q1 t2 q2 y1 y2 ∧
      ((y1 = x1 ∧ y2 = x2) ∨ (y1 = x2 ∧ y2 = x1)) := by
  have na := First.ne ht1 a2
  have nb := First.ne ht2 b2
  have za : T i2 = 0 := by have := a2.zero; rwa [upd_ne _ _ _ na] at this
  have zb : T j2 = 0 := by have := b2.zero; rwa [upd_ne _ _ _ nb] at this
  obtain ⟨x1, x2, ha, hx⟩ := placed_of (P := P) (t1 := t1) (q1 := q1) (t2 := t2) (q2 := q2) a1.lt a2.lt na a1.zero za
  obtain ⟨c1, c2, hc, hcc⟩ := placed_of (P := P) (t1 := t2) (q1 := q2) (t2 := t1) (q2 := q1) b1.lt b2.lt nb b1.zero zb
  obtain ⟨y1, y2, hb, hy⟩ := hc.swap
  refine ⟨x1, x2, y1, y2, ha, hb, ?_⟩
  have h2 := two ht1 ht2 a1 a2 b1 b2
  omega

/-- WHAT THE LAST LOOP MEETS AT A SLOT THAT WAS FILLED: f1, f2: whether the pairs have been met; ta, pa: what the slot holds; h1, h2: whether they have been met behind it. -/
def Meets (f1 f2 : Bool) (ta pa t1 q1 t2 q2 : Int) (h1 h2 : Bool) : Prop :=
  (f1 = false ∧ (ta == t1) = true ∧ (pa == q1) = true ∧ h1 = true ∧ h2 = f2) ∨
  (f1 = true ∧ f2 = false ∧ (ta == t2) = true ∧ (pa == q2) = true ∧ h1 = true ∧ h2 = true) ∨
  (f1 = false ∧ f2 = false ∧ (ta == t1) = false ∧ (ta == t2) = true ∧ (pa == q2) = true ∧ h1 = false ∧ h2 = true) ∨
  (f1 = false ∧ f2 = false ∧ (ta == t1) = true ∧ (pa == q1) = false ∧ (ta == t2) = true ∧ (pa == q2) = true ∧ h1 = false ∧ h2 = true)

theorem Placed.meets {T P A B : Nat → Int} {m : Nat} {t1 q1 t2 q2 : Int} {x1 x2 k : Nat} (h : Placed T P A B m t1 q1 t2 q2 x1 x2) (hk : k = x1 ∨ k = x2) :
    Meets (decide (x1 < k)) (decide (x2 < k)) (A k) (B k) t1 q1 t2 q2 (decide (x1 < k + 1)) (decide (x2 < k + 1)) := by
  have hne := h.ne
  rcases hk with rfl | rfl
  · left
    refine ⟨decide_eq_false (Nat.lt_irrefl _), by rw [h.a1]; exact beq_self_eq_true _, by rw [h.b1]; exact beq_self_eq_true _, decide_eq_true (Nat.lt_succ_self _), ?_⟩
    rw [decide_eq_decide]
    omega
  · right
    have e1 : (A k == t2) = true := by rw [h.a2]; exact beq_self_eq_true _
    have e2 : (B k == q2) = true := by rw [h.b2]; exact beq_self_eq_true _
    have e3 : decide (k < k) = false := decide_eq_false (Nat.lt_irrefl _)
    have e4 : decide (k < k + 1) = true := decide_eq_true (Nat.lt_succ_self _)
    by_cases hl : x1 < k
    · left
      exact ⟨decide_eq_true hl, e3, e1, e2, decide_eq_true (by omega), e4⟩
    · right
      have e5 : decide (x1 < k) = false := decide_eq_false hl
      have e6 : decide (x1 < k + 1) = false := decide_eq_false (by omega)
      by_cases ht : t2 = t1
      · right
        have hq : q2 ≠ q1 := fun hq => hl (h.ahead ht hq)
        exact ⟨e5, e3, by rw [h.a2, ht]; exact beq_self_eq_true _, by rw [h.b2]; exact beq_eq_false_iff_ne.2 hq, e1, e2, e6, e4⟩
      · left
        exact ⟨e5, e3, by rw [h.a2]; exact beq_eq_false_iff_ne.2 ht, e1, e2, e6, e4⟩

theorem Placed.full {T P A B : Nat → Int} {m : Nat} {t1 q1 t2 q2 : Int} {x1 x2 k : Nat} (h : Placed T P A B m t1 q1 t2 q2 x1 x2) (n1 : t1 ≠ 0) (n2 : t2 ≠ 0) (hk : k = x1 ∨ k = x2) : A k ≠ 0 := by
  rcases hk with rfl | rfl
  · rw [h.a1]; exact n1
  · rw [h.a2]; exact n2

theorem later {x k : Nat} (h : k ≠ x) : decide (x < k) = decide (x < k + 1) := by rw [decide_eq_decide]; omega

/-! ### A power of two, and the bits under it -/
theorem pow_of {m : Nat} (h0 : m ≠ 0) (h : m &&& (m - 1) = 0) : ∃ e, m = 2 ^ e := by
  refine ⟨m.log2, ?_⟩
  have h1 : 2 ^ m.log2 ≤ m := Nat.log2_self_le h0
  have h2 : m < 2 ^ (m.log2 + 1) := Nat.lt_log2_self
  by_cases e : m = 2 ^ m.log2
  · exact e
  · exfalso
    have a : Nat.testBit m m.log2 = true := Nat.testBit_of_two_pow_le_and_two_pow_add_one_gt h1 h2
    have b : Nat.testBit (m - 1) m.log2 = true := Nat.testBit_of_two_pow_le_and_two_pow_add_one_gt (by omega) (by omega)
    have c : Nat.testBit (m &&& (m - 1)) m.log2 = true := by rw [Nat.testBit_and, a, b]; rfl
    rw [h] at c
    simp at c
theorem and_mask {m : Nat} (h0 : m ≠ 0) (h : m &&& (m - 1) = 0) (x : Nat) : x &&& (m - 1) = x % m := by
  obtain ⟨e, rfl⟩ := pow_of h0 h
  exact Nat.and_two_pow_sub_one_eq_mod x e

/-- The tag of a hash, said in two ways. -/
theorem tag_or (x : Nat) (h : x < 128) : x ||| 128 = 128 + x := by
  have := Nat.two_pow_add_eq_or_of_lt (i := 7) (b := x) (by simpa using h) 1
  rw [Nat.or_comm]
  simpa using this.symm

end Go.Proofs.Qxb6618356a.Pl
