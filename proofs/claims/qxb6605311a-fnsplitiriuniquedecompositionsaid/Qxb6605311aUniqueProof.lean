/-
  The proof of 'Rows.FnSplitIRIUniqueDecompositionSaid': the walk out of the callees' contracts; the row's step is the guide's frame, its post given limb by limb (the call makes memory).
-/
import Derived.Test.Qxb6605311aRows
import Derived.Test.Qxb6605311aWalkG
import Derived.Test.Qxb6605311aPlainF
import Derived.WalkKit
import Derived.ProofKit
import Derived.OpenShut
import Derived.ShutString
namespace Go.Proofs.Qxb6605311a.fnSplitIRIUniqueDecomposition
open Go.ChangeShapes Go.WideShapes Go.ChangeAt Go.RowKit
open Go.ChangeMaps (open_string shut_string)
set_option linter.unusedVariables false

theorem own : ownKnob Try.prog.godebug = none := by kernel_rfl

theorem zz15 (s : ByteArray) (w : World) (hs : s.size ≤ maxLen) :
    Calls Try.prog 15 #[.string s] w fun e w' => e = .returned (.bool (decide (s.size ≤ 1048576))) ∧ w = w' := by
  unfold maxLen at hs
  by_cases h : s.size ≤ 1048576
  · go_enter Try.func15, Try.ntmps15
    go_wp2
    go_ret
    exact ⟨ret_bool (by simp [h]), rfl⟩
  · go_enter Try.func15, Try.ntmps15
    go_wp2
    go_ret
    exact ⟨ret_bool (by simp [h]), rfl⟩

set_option maxHeartbeats 1000000 in
set_option maxRecDepth 10000 in
theorem walk (a0 : ByteArray) (w0 : a0.size ≤ maxLen) (w : World) :
    Calls Try.prog 5 #[.string a0] w fun e w' => e = .returned (.bool true) ∧ Below w.heap.size w w' := by
  by_cases h1 : a0.size ≤ 1048576
  · have d1 : decide (a0.size ≤ 1048576) = true := by simp [h1]
    go_enter Try.func5, Try.ntmps5
    go_wp2_with (go_at_call 15; refine (zz15 _ _ w0).mono ?_; rintro e w' ⟨rfl, rfl⟩)
    refine (zzSplit_any _ _ (by omega)).mono ?_
    rintro e W1 ⟨sc, au, pa, qu, fr, b1, b2, b3, b4, rfl, hsp, bl1⟩
    have hps := Pl.part_sizes hsp
    simp only [← Pl.size_toList] at hps
    have HC : Hid (Pl.canonB (PB sc au pa qu fr b1 b2 b3 b4) = true) := by
      have := Pl.canon_mk _ (Pl.split_canon a0.data.toList)
      rw [hsp] at this
      exact this
    have HJ : Hid (Pl.join (PB sc au pa qu fr b1 b2 b3 b4) = a0.data.toList) := by
      have := Pl.join_split a0.data.toList
      rw [hsp] at this
      exact this
    clear hsp
    go_wp2_with fail
    refine (canonical_any _ _ _ _ _ _ _ _ _ _ (by omega) (by omega) (by omega) (by omega)).mono ?_
    rw [HC.out]
    rintro e w' ⟨rfl, rfl⟩
    go_wp2_with fail
    refine (join_any _ _ _ _ _ _ _ _ _ _ (by omega)).mono ?_
    rw [HJ.out]
    rintro e W2 ⟨rfl, bl2⟩
    go_wp2
    go_ret
    exact ⟨rfl, bl1.trans (bl2.mono bl1.size)⟩
  · have d1 : decide (a0.size ≤ 1048576) = false := by simp [h1]
    go_enter Try.func5, Try.ntmps5
    go_wp2_with (go_at_call 15; refine (zz15 _ _ w0).mono ?_; rintro e w' ⟨rfl, rfl⟩)
    go_ret
    exact ⟨rfl, Below.refl _ _⟩

/-! ### The row's step: the guide's frame; the post limb by limb -/
set_option maxRecDepth 100000 in
theorem lifted (os : Os) (started : os.Started) (H : Type) (enc : TypeId × Value → H) :
    ReturnsInHanded {} Try.checked os 5 .any (Rows.fnSplitIRIUniqueDecompositionSpec.pre6 enc Try.prog Try.f5 Rows.fnSplitIRIUniqueDecompositionRow.domain false) (Rows.fnSplitIRIUniqueDecompositionSpec.post enc Try.prog Try.f5 false true false false) := by
  refine returnsInHanded_of_change (C := Try.checked) own started (by kernel_rfl) Try.func5
    (ChangeSpec.witness6 (enc := enc) (C := Try.checked) false ⟨#[], #[.string ByteArray.empty], []⟩ 8 (by kernel_rfl) (by kernel_rfl) (by kernel_rfl) (by kernel_rfl)) ?_
  intro W base args ds gs before hval0 hW hcnd _
  have hval : ∀ (j : Nat) t v, Try.f5.params[j]? = some t → args[j]? = some v → Value.okWide Try.prog W .any base t v := hval0
  have hW' := hW
  obtain ⟨p, q, hA0, hV, rfl, hfz, hnd⟩ := hW
  have hA : DataW.TrodAll enc Try.prog W 0 (fun _ => true) true Try.f5.params.toList args.toList ds p := hA0
  rw [Try.params5] at hA hval
  obtain ⟨v0, vs0, d0, ds0, p0, q0, hargs, rfl, rfl, h0, r0⟩ := trodAll_cons hA
  obtain ⟨rfl, rfl, rfl⟩ := trodAll_nil r0
  obtain rfl : args = #[v0] := by cases args; simp_all
  obtain ⟨rfl, rfl⟩ := trodVars_none hV
  obtain ⟨a0, rfl, rfl, rfl, w0⟩ := open_string Try.underlying9 (hval 0 9 v0 rfl rfl) h0
  clear hA0 hval0
  simp only [List.append_nil] at hW'
  refine (walk a0 w0 W).mono fun e W' ⟨he, hb⟩ => ?_
  subst he
  exact ⟨_, rfl, _, _, _, [], [], [], hW', (trodAll_cons_mk (shut_bool Try.underlying4 _) trodAll_mk0), (trodAll_cons_mk (shut_string Try.underlying9 w0) trodAll_mk0), rfl, hb.frame _, fun h => by cases h⟩

theorem over : Rows.fnSplitIRIUniqueDecompositionRow.holds Try.pinned (OpenSpec.ofChange Rows.fnSplitIRIUniqueDecompositionSpec) :=
  OpenClaim.holds_of_wide 5 Try.f5 rfl rfl rfl rfl rfl rfl rfl ⟨rfl, rfl, rfl, rfl, rfl⟩ rfl rfl rfl rfl rfl (by kernel_rfl) Try.func5 (by kernel_rfl)
    (of_decide_eq_true (by kernel_rfl)) (by unfold Func.isWrapper; first | (rw [if_pos (by decide +kernel)]; kernel_rfl) | (rw [if_neg (by decide +kernel)]; exact ⟨rfl, rfl⟩))
    (fun os started H enc _ => lifted os started H enc)

/-- THE STATEMENT -/
theorem proved : Rows.FnSplitIRIUniqueDecompositionSaid :=
  over
#print axioms proved
end Go.Proofs.Qxb6605311a.fnSplitIRIUniqueDecomposition
