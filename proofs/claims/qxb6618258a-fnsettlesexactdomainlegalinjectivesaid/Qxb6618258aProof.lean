/-
  THE PROOF OF THE STATEMENT: the frame is the guide's template at this function's number and types, written by program; the walk is filled by hand.
-/
import Derived.Test.Qxb6618258aWalks1
import Derived.WalkKit
import Derived.ProofKit
import Derived.OpenShut
import Derived.ShutString
namespace Go.Proofs.Qxb6618258a.fnSettlesExactDomainLegalInjective
open Go.ChangeShapes Go.WideShapes Go.ChangeAt Go.RowKit
open Go.ChangeMaps (open_string shut_string)
set_option linter.unusedVariables false      -- a walk need not use every 'w<i>' (that an integer argument fits its kind)

theorem own : ownKnob Try.prog.godebug = none := by kernel_rfl

/-! ### STEP 1: THE WALK: the Go text returns true. 'Grown w w'': the world has at most new blocks (Derived/RowKit3.lean). Part the cases AHEAD of 'go_enter' where a test parts the walk; take each callee by a contract of your own. -/
theorem walk (a0 : ByteArray) (a1 : ByteArray) (w0 : a0.size ≤ maxLen) (w1 : a1.size ≤ maxLen) (w : World) :
    Calls Try.prog 3 #[.string a0, .string a1] w fun e w' => e = .returned (.bool true) ∧ Grown w w' := by
  obtain ⟨sa, oka, ha⟩ := St.word_of a0
  obtain ⟨sb, okb, hb⟩ := St.word_of a1
  have inj : oka = true → okb = true → (sa.toList == sb.toList) = (a0.toList == a1.toList) := by
    rintro rfl rfl
    exact St.word_inj ha hb
  have HI : Hid (oka = true → okb = true → (sa.toList == sb.toList) = (a0.toList == a1.toList)) := inj
  clear inj
  have m0 := w0
  have m1 := w1
  unfold maxLen at m0 m1
  go_enter Try.func3, Try.ntmps3
  go_wp2_with fail
  refine (St.bytes_any _ _ _ w0 w1).mono ?_
  rintro e w ⟨r, rfl, rfl⟩
  clear w0 w1
  cases r
  · go_wp2
    go_ret
    exact ⟨rfl, Grown.refl _⟩
  by_cases h0 : a0.size ≤ 524288
  · by_cases h1 : a1.size ≤ 524288
    · go_wp2_with fail
      refine (St.settles_any _ _ _ _ ha).mono ?_
      rintro e w ⟨rfl, rfl⟩
      go_wp2_with fail
      refine (St.settles_any _ _ _ _ hb).mono ?_
      rintro e w ⟨rfl, rfl⟩
      go_wp2_with fail
      refine (St.one_any _ _ _ _ ha).mono ?_
      rintro e w ⟨rfl, rfl⟩
      go_wp2_with fail
      refine (St.one_any _ _ _ _ hb).mono ?_
      rintro e w ⟨rfl, rfl⟩
      cases oka
      · go_wp2
        go_ret
        exact ⟨rfl, Grown.refl _⟩
      cases okb
      · go_wp2
        go_ret
        exact ⟨rfl, Grown.refl _⟩
      have inj := HI.out rfl rfl
      go_wp2
      go_ret
      exact ⟨rfl, Grown.refl _⟩
    · go_wp2
      go_ret
      exact ⟨rfl, Grown.refl _⟩
  · go_wp2
    go_ret
    exact ⟨rfl, Grown.refl _⟩

/-! ### THE ROW's STEP: WRITTEN OUT: LEAVE IT -/
set_option maxRecDepth 100000 in
theorem lifted (os : Os) (started : os.Started) (H : Type) (enc : TypeId × Value → H) :
    ReturnsInHanded {} Try.checked os 3 .any (Rows.fnSettlesExactDomainLegalInjectiveSpec.pre6 enc Try.prog Try.f3 Rows.fnSettlesExactDomainLegalInjectiveRow.domain false) (Rows.fnSettlesExactDomainLegalInjectiveSpec.post enc Try.prog Try.f3 false true false false) := by
  refine returnsInHanded_of_change (C := Try.checked) own started (by kernel_rfl) Try.func3
    (ChangeSpec.witness6 (enc := enc) (C := Try.checked) false ⟨#[], #[.string ByteArray.empty, .string ByteArray.empty], []⟩ 8 (by kernel_rfl) (by kernel_rfl) (by kernel_rfl) (by kernel_rfl)) ?_
  intro W base args ds gs before hval0 hW hcnd _
  have hval : ∀ (j : Nat) t v, Try.f3.params[j]? = some t → args[j]? = some v → Value.okWide Try.prog W .any base t v := hval0
  have hW' := hW
  obtain ⟨p, q, hA0, hV, rfl, hfz, hnd⟩ := hW
  have hA : DataW.TrodAll enc Try.prog W 0 (fun _ => true) true Try.f3.params.toList args.toList ds p := hA0
  rw [Try.params3] at hA hval
  obtain ⟨v0, vs0, d0, ds0, p0, q0, hargs, rfl, rfl, h0, r0⟩ := trodAll_cons hA
  obtain ⟨v1, vs1, d1, ds1, p1, q1, rfl, rfl, rfl, h1, r1⟩ := trodAll_cons r0
  obtain ⟨rfl, rfl, rfl⟩ := trodAll_nil r1
  obtain rfl : args = #[v0, v1] := by cases args; simp_all
  obtain ⟨rfl, rfl⟩ := trodVars_none hV
  obtain ⟨a0, rfl, rfl, rfl, w0⟩ := open_string Try.underlying9 (hval 0 9 v0 rfl rfl) h0
  obtain ⟨a1, rfl, rfl, rfl, w1⟩ := open_string Try.underlying9 (hval 1 9 v1 rfl rfl) h1
  clear hA0 hval0
  simp only [List.append_nil] at hW'
  refine (walk a0 a1 w0 w1 W).mono fun e W' ⟨he, hg⟩ => ?_
  subst he
  exact ⟨_, rfl, post_of_same (pa := []) (pv := []) hW' (fun _ _ _ => (trodAll_cons_mk (shut_bool Try.underlying4 _) trodAll_mk0)) (fun sp _ => (trodAll_cons_mk (shut_string Try.underlying9 w0) (trodAll_cons_mk (shut_string Try.underlying9 w1) trodAll_mk0))) (fun _ _ => rfl) rfl
    (hg.frame _) hg.2.1 (ok_one (by kernel_rfl) rfl (okWide_bool_mk Try.underlying4 _))⟩

theorem over : Rows.fnSettlesExactDomainLegalInjectiveRow.holds Try.pinned (OpenSpec.ofChange Rows.fnSettlesExactDomainLegalInjectiveSpec) :=
  OpenClaim.holds_of_wide 3 Try.f3 rfl rfl rfl rfl rfl rfl rfl ⟨rfl, rfl, rfl, rfl, rfl⟩ rfl rfl rfl rfl rfl (by kernel_rfl) Try.func3 (by kernel_rfl)
    (of_decide_eq_true (by kernel_rfl)) (by unfold Func.isWrapper; first | (rw [if_pos (by decide +kernel)]; kernel_rfl) | (rw [if_neg (by decide +kernel)]; exact ⟨rfl, rfl⟩))
    (fun os started H enc _ => lifted os started H enc)

end Go.Proofs.Qxb6618258a.fnSettlesExactDomainLegalInjective
namespace Go.Proofs.Qxb6618258a

/-- ████ THE STATEMENT ████ -/
theorem fnSettlesExactDomainLegalInjectiveProved : Rows.FnSettlesExactDomainLegalInjectiveSaid := fnSettlesExactDomainLegalInjective.over
#print axioms fnSettlesExactDomainLegalInjectiveProved

end Go.Proofs.Qxb6618258a
