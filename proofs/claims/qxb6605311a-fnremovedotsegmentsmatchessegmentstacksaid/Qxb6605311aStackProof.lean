/-
  The proof of 'Rows.FnRemoveDotSegmentsMatchesSegmentStackSaid': the walk out of the callees' contracts; the row's step is the guide's frame, its post given limb by limb (the call makes memory).
-/
import Derived.Test.Qxb6605311aRows
import Derived.Test.Qxb6605311aWalkD
import Derived.WalkKit
import Derived.ProofKit
import Derived.OpenShut
import Derived.ShutString
namespace Go.Proofs.Qxb6605311a.fnRemoveDotSegmentsMatchesSegmentStack
open Go.ChangeShapes Go.WideShapes Go.ChangeAt Go.RowKit
open Go.ChangeMaps (open_string shut_string)
set_option linter.unusedVariables false

theorem own : ownKnob Try.prog.godebug = none := by kernel_rfl

theorem zz10 (s : ByteArray) (w : World) (hs : s.size ≤ maxLen) :
    Calls Try.prog 10 #[.string s] w fun e w' => e = .returned (.bool (decide (s.size ≤ 1048576))) ∧ w = w' := by
  unfold maxLen at hs
  by_cases h : s.size ≤ 1048576
  · go_enter Try.func10, Try.ntmps10
    go_wp2
    go_ret
    exact ⟨ret_bool (by simp [h]), rfl⟩
  · go_enter Try.func10, Try.ntmps10
    go_wp2
    go_ret
    exact ⟨ret_bool (by simp [h]), rfl⟩

theorem rd11 (s : ByteArray) (w : World) (hs : s.size ≤ 1048576) :
    Calls Try.prog 11 #[.string s] w fun e w' => e = .returned (.string ⟨(Pl.rd s.data.toList).toArray⟩) ∧ Below w.heap.size w w' := by
  go_enter Try.func11, Try.ntmps11
  go_wp2_with (go_at_call 29; refine (removeDots_any _ _ hs).mono ?_; rintro e W1 ⟨rfl, b1⟩)
  go_ret
  exact ⟨rfl, b1⟩

set_option maxHeartbeats 400000 in
theorem walk (a0 : ByteArray) (w0 : a0.size ≤ maxLen) (w : World) :
    Calls Try.prog 3 #[.string a0] w fun e w' => e = .returned (.bool true) ∧ Below w.heap.size w w' := by
  by_cases h1 : a0.size ≤ 1048576
  · have d1 : decide (a0.size ≤ 1048576) = true := by simp [h1]
    by_cases h2 : a0.size ≤ 65536
    · go_enter Try.func3, Try.ntmps3
      go_wp2_with (go_at_call 10; refine (zz10 _ _ w0).mono ?_; rintro e w' ⟨rfl, rfl⟩)
      refine (rd11 _ _ h1).mono ?_
      rintro e W1 ⟨rfl, b1⟩
      go_wp2_with fail
      refine (model_any _ _ h2).mono ?_
      rintro e W2 ⟨rfl, b2⟩
      go_wp2
      go_ret
      exact ⟨ret_bool (by simp), b1.trans (b2.mono b1.size)⟩
    · go_enter Try.func3, Try.ntmps3
      go_wp2_with (go_at_call 10; refine (zz10 _ _ w0).mono ?_; rintro e w' ⟨rfl, rfl⟩)
      go_ret
      exact ⟨rfl, Below.refl _ _⟩
  · have d1 : decide (a0.size ≤ 1048576) = false := by simp [h1]
    go_enter Try.func3, Try.ntmps3
    go_wp2_with (go_at_call 10; refine (zz10 _ _ w0).mono ?_; rintro e w' ⟨rfl, rfl⟩)
    go_ret
    exact ⟨rfl, Below.refl _ _⟩

/-! ### The row's step: the guide's frame; the post limb by limb -/
set_option maxRecDepth 100000 in
theorem lifted (os : Os) (started : os.Started) (H : Type) (enc : TypeId × Value → H) :
    ReturnsInHanded {} Try.checked os 3 .any (Rows.fnRemoveDotSegmentsMatchesSegmentStackSpec.pre6 enc Try.prog Try.f3 Rows.fnRemoveDotSegmentsMatchesSegmentStackRow.domain false) (Rows.fnRemoveDotSegmentsMatchesSegmentStackSpec.post enc Try.prog Try.f3 false true false false) := by
  refine returnsInHanded_of_change (C := Try.checked) own started (by kernel_rfl) Try.func3
    (ChangeSpec.witness6 (enc := enc) (C := Try.checked) false ⟨#[], #[.string ByteArray.empty], []⟩ 8 (by kernel_rfl) (by kernel_rfl) (by kernel_rfl) (by kernel_rfl)) ?_
  intro W base args ds gs before hval0 hW hcnd _
  have hval : ∀ (j : Nat) t v, Try.f3.params[j]? = some t → args[j]? = some v → Value.okWide Try.prog W .any base t v := hval0
  have hW' := hW
  obtain ⟨p, q, hA0, hV, rfl, hfz, hnd⟩ := hW
  have hA : DataW.TrodAll enc Try.prog W 0 (fun _ => true) true Try.f3.params.toList args.toList ds p := hA0
  rw [Try.params3] at hA hval
  obtain ⟨v0, vs0, d0, ds0, p0, q0, hargs, rfl, rfl, h0, r0⟩ := trodAll_cons hA
  obtain ⟨rfl, rfl, rfl⟩ := trodAll_nil r0
  obtain rfl : args = #[v0] := by cases args; simp_all
  obtain ⟨rfl, rfl⟩ := trodVars_none hV
  obtain ⟨a0, rfl, rfl, rfl, w0⟩ := open_string Try.underlying9 (hval 0 9 v0 rfl rfl) h0
  clear hA0 hval0
  simp only [List.append_nil] at hW'
  refine (walk a0 w0 W).mono fun e W' ⟨he, hb⟩ => ?_
  subst he
  exact ⟨_, rfl, _, _, _, [], [], [], hW', (trodAll_cons_mk (shut_bool Try.underlying4 _) trodAll_mk0), (trodAll_cons_mk (shut_string Try.underlying9 w0) trodAll_mk0), rfl, hb.frame _, fun h => by cases h⟩

theorem over : Rows.fnRemoveDotSegmentsMatchesSegmentStackRow.holds Try.pinned (OpenSpec.ofChange Rows.fnRemoveDotSegmentsMatchesSegmentStackSpec) :=
  OpenClaim.holds_of_wide 3 Try.f3 rfl rfl rfl rfl rfl rfl rfl ⟨rfl, rfl, rfl, rfl, rfl⟩ rfl rfl rfl rfl rfl (by kernel_rfl) Try.func3 (by kernel_rfl)
    (of_decide_eq_true (by kernel_rfl)) (by unfold Func.isWrapper; first | (rw [if_pos (by decide +kernel)]; kernel_rfl) | (rw [if_neg (by decide +kernel)]; exact ⟨rfl, rfl⟩))
    (fun os started H enc _ => lifted os started H enc)

/-- THE STATEMENT -/
theorem proved : Rows.FnRemoveDotSegmentsMatchesSegmentStackSaid :=
  over
#print axioms proved
end Go.Proofs.Qxb6605311a.fnRemoveDotSegmentsMatchesSegmentStack
