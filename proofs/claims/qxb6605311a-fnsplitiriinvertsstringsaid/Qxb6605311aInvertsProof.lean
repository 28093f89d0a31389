/-
  The proof of 'Rows.FnSplitIRIInvertsStringSaid': the walk out of the callees' contracts; the row's step is the guide's frame, its post given limb by limb (the call makes memory).
-/
import Derived.Test.Qxb6605311aRows
import Derived.Test.Qxb6605311aWalkH
import Derived.Test.Qxb6605311aPlainF
import Derived.WalkKit
import Derived.ProofKit
import Derived.OpenShut
import Derived.ShutString
namespace Go.Proofs.Qxb6605311a.fnSplitIRIInvertsString
open Go.ChangeShapes Go.WideShapes Go.ChangeAt Go.RowKit
open Go.ChangeMaps (open_string shut_string)
set_option linter.unusedVariables false

theorem own : ownKnob Try.prog.godebug = none := by kernel_rfl

set_option maxHeartbeats 1000000 in
theorem zz19 (sc au pa qu fr : ByteArray) (b1 b2 b3 b4 : Bool) (w : World) (w0 : sc.size ≤ maxLen) (w1 : au.size ≤ maxLen) (w2 : pa.size ≤ maxLen) (w3 : qu.size ≤ maxLen) (w4 : fr.size ≤ maxLen) :
    Calls Try.prog 19 #[.string sc, .string au, .string pa, .string qu, .string fr, .bool b1, .bool b2, .bool b3, .bool b4] w fun e w' => ∃ b, e = .returned (.bool b) ∧ (b = true → sc.size + au.size + pa.size + qu.size + fr.size ≤ 1048576) ∧ w = w' := by
  unfold maxLen at w0 w1 w2 w3 w4
  go_enter Try.func19, Try.ntmps19
  go_wp2
  all_goals
    go_ret
    refine ⟨_, rfl, ?_, rfl⟩
    intro hb
    first | omega | cases hb

theorem joinPB_len (sc au pa qu fr : ByteArray) (b1 b2 b3 b4 : Bool) : (Pl.join (PB sc au pa qu fr b1 b2 b3 b4)).length ≤ sc.size + au.size + pa.size + qu.size + fr.size + 5 := by
  have h := Pl.join_len (PB sc au pa qu fr b1 b2 b3 b4)
  have e1 : (PB sc au pa qu fr b1 b2 b3 b4).sc.length = sc.size := (Pl.size_toList sc).symm
  have e2 : (PB sc au pa qu fr b1 b2 b3 b4).au.length = au.size := (Pl.size_toList au).symm
  have e3 : (PB sc au pa qu fr b1 b2 b3 b4).pa.length = pa.size := (Pl.size_toList pa).symm
  have e4 : (PB sc au pa qu fr b1 b2 b3 b4).qu.length = qu.size := (Pl.size_toList qu).symm
  have e5 : (PB sc au pa qu fr b1 b2 b3 b4).fr.length = fr.size := (Pl.size_toList fr).symm
  omega

theorem same_bytes {a b : ByteArray} (h : a.data.toList = b.data.toList) : a = b := by
  rw [← Lib.mk_data a, ← Lib.mk_data b, h]

set_option maxHeartbeats 2000000 in
set_option maxRecDepth 10000 in
theorem walk (a0 : ByteArray) (a1 : ByteArray) (a2 : ByteArray) (a3 : ByteArray) (a4 : ByteArray) (a5 : Bool) (a6 : Bool) (a7 : Bool) (a8 : Bool) (w0 : a0.size ≤ maxLen) (w1 : a1.size ≤ maxLen) (w2 : a2.size ≤ maxLen) (w3 : a3.size ≤ maxLen) (w4 : a4.size ≤ maxLen) (w : World) :
    Calls Try.prog 6 #[.string a0, .string a1, .string a2, .string a3, .string a4, .bool a5, .bool a6, .bool a7, .bool a8] w fun e w' => e = .returned (.bool true) ∧ Below w.heap.size w w' := by
  go_enter Try.func6, Try.ntmps6
  go_wp2_with fail
  refine (zz19 _ _ _ _ _ _ _ _ _ _ w0 w1 w2 w3 w4).mono ?_
  rintro e w' ⟨b, rfl, hb, rfl⟩
  cases b with
  | false =>
    go_wp2
    go_ret
    exact ⟨rfl, Below.refl _ _⟩
  | true =>
  have hsum := hb rfl
  clear hb
  by_cases g0 : a0.size ≤ 65536
  case neg =>
    go_wp2
    go_ret
    exact ⟨rfl, Below.refl _ _⟩
  case pos =>
  by_cases g1 : a1.size ≤ 65536
  case neg =>
    go_wp2
    go_ret
    exact ⟨rfl, Below.refl _ _⟩
  case pos =>
  by_cases g2 : a2.size ≤ 65536
  case neg =>
    go_wp2
    go_ret
    exact ⟨rfl, Below.refl _ _⟩
  case pos =>
  by_cases g3 : a3.size ≤ 65536
  case neg =>
    go_wp2
    go_ret
    exact ⟨rfl, Below.refl _ _⟩
  case pos =>
  by_cases g4 : a4.size ≤ 65536
  case neg =>
    go_wp2
    go_ret
    exact ⟨rfl, Below.refl _ _⟩
  case pos =>
  go_wp2_with fail
  refine (canonical_any _ _ _ _ _ _ _ _ _ _ (by omega) (by omega) (by omega) (by omega)).mono ?_
  cases hc : Pl.canonB (PB a0 a1 a2 a3 a4 a5 a6 a7 a8) with
  | false =>
    rintro e w' ⟨rfl, rfl⟩
    go_wp2
    go_ret
    exact ⟨rfl, Below.refl _ _⟩
  | true =>
  have HS : Hid (Pl.split (Pl.join (PB a0 a1 a2 a3 a4 a5 a6 a7 a8)) = PB a0 a1 a2 a3 a4 a5 a6 a7 a8) := Pl.split_join _ (Pl.canon_of _ hc)
  clear hc
  rintro e w' ⟨rfl, rfl⟩
  go_wp2_with fail
  refine (zzString_any _ _ _ _ _ _ _ _ _ _ (by omega)).mono ?_
  rintro e W1 ⟨rfl, bl1⟩
  have hjs : (⟨(Pl.join (PB a0 a1 a2 a3 a4 a5 a6 a7 a8)).toArray⟩ : ByteArray).size ≤ 140737488355328 := by
    show (Pl.join (PB a0 a1 a2 a3 a4 a5 a6 a7 a8)).length ≤ _
    have := joinPB_len a0 a1 a2 a3 a4 a5 a6 a7 a8
    omega
  obtain ⟨js, HJS⟩ : ∃ js : ByteArray, Hid (js = ⟨(Pl.join (PB a0 a1 a2 a3 a4 a5 a6 a7 a8)).toArray⟩) := ⟨_, rfl⟩
  rw [← HJS.out] at hjs ⊢
  go_wp2_with fail
  refine (zzSplit_any _ _ hjs).mono ?_
  rintro e W2 ⟨sc, au, pa, qu, fr, b1, b2, b3, b4, rfl, hsp, bl2⟩
  rw [HJS.out] at hsp
  have hsp2 : PB a0 a1 a2 a3 a4 a5 a6 a7 a8 = PB sc au pa qu fr b1 b2 b3 b4 := HS.out.symm.trans hsp
  unfold PB at hsp2
  injection hsp2 with e1 e2 e3 e4 e5 e6 e7 e8 e9
  have f1 := same_bytes e1
  have f2 := same_bytes e2
  have f3 := same_bytes e3
  have f4 := same_bytes e4
  have f5 := same_bytes e5
  rw [← f1, ← f2, ← f3, ← f4, ← f5, ← e6, ← e7, ← e8, ← e9]
  clear e1 e2 e3 e4 e5 e6 e7 e8 e9 f1 f2 f3 f4 f5 hsp
  go_wp2
  go_ret
  exact ⟨ret_bool (by simp), bl1.trans (bl2.mono bl1.size)⟩

/-! ### The row's step: the guide's frame; the post limb by limb -/
set_option maxRecDepth 100000 in
theorem lifted (os : Os) (started : os.Started) (H : Type) (enc : TypeId × Value → H) :
    ReturnsInHanded {} Try.checked os 6 .any (Rows.fnSplitIRIInvertsStringSpec.pre6 enc Try.prog Try.f6 Rows.fnSplitIRIInvertsStringRow.domain false) (Rows.fnSplitIRIInvertsStringSpec.post enc Try.prog Try.f6 false true false false) := by
  refine returnsInHanded_of_change (C := Try.checked) own started (by kernel_rfl) Try.func6
    (ChangeSpec.witness6 (enc := enc) (C := Try.checked) false ⟨#[], #[.string ByteArray.empty, .string ByteArray.empty, .string ByteArray.empty, .string ByteArray.empty, .string ByteArray.empty, .bool false, .bool false, .bool false, .bool false], []⟩ 8 (by kernel_rfl) (by kernel_rfl) (by kernel_rfl) (by kernel_rfl)) ?_
  intro W base args ds gs before hval0 hW hcnd _
  have hval : ∀ (j : Nat) t v, Try.f6.params[j]? = some t → args[j]? = some v → Value.okWide Try.prog W .any base t v := hval0
  have hW' := hW
  obtain ⟨p, q, hA0, hV, rfl, hfz, hnd⟩ := hW
  have hA : DataW.TrodAll enc Try.prog W 0 (fun _ => true) true Try.f6.params.toList args.toList ds p := hA0
  rw [Try.params6] at hA hval
  obtain ⟨v0, vs0, d0, ds0, p0, q0, hargs, rfl, rfl, h0, r0⟩ := trodAll_cons hA
  obtain ⟨v1, vs1, d1, ds1, p1, q1, rfl, rfl, rfl, h1, r1⟩ := trodAll_cons r0
  obtain ⟨v2, vs2, d2, ds2, p2, q2, rfl, rfl, rfl, h2, r2⟩ := trodAll_cons r1
  obtain ⟨v3, vs3, d3, ds3, p3, q3, rfl, rfl, rfl, h3, r3⟩ := trodAll_cons r2
  obtain ⟨v4, vs4, d4, ds4, p4, q4, rfl, rfl, rfl, h4, r4⟩ := trodAll_cons r3
  obtain ⟨v5, vs5, d5, ds5, p5, q5, rfl, rfl, rfl, h5, r5⟩ := trodAll_cons r4
  obtain ⟨v6, vs6, d6, ds6, p6, q6, rfl, rfl, rfl, h6, r6⟩ := trodAll_cons r5
  obtain ⟨v7, vs7, d7, ds7, p7, q7, rfl, rfl, rfl, h7, r7⟩ := trodAll_cons r6
  obtain ⟨v8, vs8, d8, ds8, p8, q8, rfl, rfl, rfl, h8, r8⟩ := trodAll_cons r7
  obtain ⟨rfl, rfl, rfl⟩ := trodAll_nil r8
  obtain rfl : args = #[v0, v1, v2, v3, v4, v5, v6, v7, v8] := by cases args; simp_all
  obtain ⟨rfl, rfl⟩ := trodVars_none hV
  obtain ⟨a0, rfl, rfl, rfl, w0⟩ := open_string Try.underlying9 (hval 0 9 v0 rfl rfl) h0
  obtain ⟨a1, rfl, rfl, rfl, w1⟩ := open_string Try.underlying9 (hval 1 9 v1 rfl rfl) h1
  obtain ⟨a2, rfl, rfl, rfl, w2⟩ := open_string Try.underlying9 (hval 2 9 v2 rfl rfl) h2
  obtain ⟨a3, rfl, rfl, rfl, w3⟩ := open_string Try.underlying9 (hval 3 9 v3 rfl rfl) h3
  obtain ⟨a4, rfl, rfl, rfl, w4⟩ := open_string Try.underlying9 (hval 4 9 v4 rfl rfl) h4
  obtain ⟨a5, rfl, rfl, rfl⟩ := open_bool Try.underlying4 (hval 5 4 v5 rfl rfl) h5
  obtain ⟨a6, rfl, rfl, rfl⟩ := open_bool Try.underlying4 (hval 6 4 v6 rfl rfl) h6
  obtain ⟨a7, rfl, rfl, rfl⟩ := open_bool Try.underlying4 (hval 7 4 v7 rfl rfl) h7
  obtain ⟨a8, rfl, rfl, rfl⟩ := open_bool Try.underlying4 (hval 8 4 v8 rfl rfl) h8
  clear hA0 hval0
  simp only [List.append_nil] at hW'
  refine (walk a0 a1 a2 a3 a4 a5 a6 a7 a8 w0 w1 w2 w3 w4 W).mono fun e W' ⟨he, hb⟩ => ?_
  subst he
  exact ⟨_, rfl, _, _, _, [], [], [], hW', (trodAll_cons_mk (shut_bool Try.underlying4 _) trodAll_mk0), (trodAll_cons_mk (shut_string Try.underlying9 w0) (trodAll_cons_mk (shut_string Try.underlying9 w1) (trodAll_cons_mk (shut_string Try.underlying9 w2) (trodAll_cons_mk (shut_string Try.underlying9 w3) (trodAll_cons_mk (shut_string Try.underlying9 w4) (trodAll_cons_mk (shut_bool Try.underlying4 _) (trodAll_cons_mk (shut_bool Try.underlying4 _) (trodAll_cons_mk (shut_bool Try.underlying4 _) (trodAll_cons_mk (shut_bool Try.underlying4 _) trodAll_mk0))))))))), rfl, hb.frame _, fun h => by cases h⟩

theorem over : Rows.fnSplitIRIInvertsStringRow.holds Try.pinned (OpenSpec.ofChange Rows.fnSplitIRIInvertsStringSpec) :=
  OpenClaim.holds_of_wide 6 Try.f6 rfl rfl rfl rfl rfl rfl rfl ⟨rfl, rfl, rfl, rfl, rfl⟩ rfl rfl rfl rfl rfl (by kernel_rfl) Try.func6 (by kernel_rfl)
    (of_decide_eq_true (by kernel_rfl)) (by unfold Func.isWrapper; first | (rw [if_pos (by decide +kernel)]; kernel_rfl) | (rw [if_neg (by decide +kernel)]; exact ⟨rfl, rfl⟩))
    (fun os started H enc _ => lifted os started H enc)

/-- THE STATEMENT -/
theorem proved : Rows.FnSplitIRIInvertsStringSaid :=
  over
#print axioms proved
end Go.Proofs.Qxb6605311a.fnSplitIRIInvertsString
