/-
  The proof of 'Rows.FnResolveKeepsSchemeAndFragmentSaid': the walk out of the callees' contracts; the row's step is the guide's frame, its post given limb by limb (the call makes memory).
-/
import Derived.Test.Qxb6605311aRows
import Derived.Test.Qxb6605311aWalkI
import Derived.Test.Qxb6605311aWalkJ
import Derived.Test.Qxb6605311aPlainH
import Derived.WalkKit
import Derived.ProofKit
import Derived.OpenShut
import Derived.ShutString
namespace Go.Proofs.Qxb6605311a.fnResolveKeepsSchemeAndFragment
open Go.ChangeShapes Go.WideShapes Go.ChangeAt Go.RowKit
open Go.ChangeMaps (open_string shut_string)
set_option linter.unusedVariables false

theorem own : ownKnob Try.prog.godebug = none := by kernel_rfl

set_option maxHeartbeats 1000000 in
theorem zz24 (a b : ByteArray) (w : World) (w0 : a.size ≤ maxLen) (w1 : b.size ≤ maxLen) :
    Calls Try.prog 24 #[.string a, .string b] w fun e w' => ∃ q, e = .returned (.bool q) ∧ (q = true → a.size + b.size ≤ 1048576) ∧ w = w' := by
  unfold maxLen at w0 w1
  go_enter Try.func24, Try.ntmps24
  go_wp2
  all_goals
    go_ret
    refine ⟨_, rfl, ?_, rfl⟩
    intro hb
    first | omega | cases hb

theorem same_bytes {a b : ByteArray} (h : a.data.toList = b.data.toList) : a = b := by
  rw [← Lib.mk_data a, ← Lib.mk_data b, h]

/-- The fragments of the result and of the reference. -/
theorem frag {g r : ByteArray} {n m : Int} (h : Pl.from_ g.data.toList 35 = Pl.from_ r.data.toList 35) (hn : Lib.indexByte r.data.toList 35 = n) (hm : Lib.indexByte g.data.toList 35 = m) :
    (0 ≤ n ↔ 0 ≤ m) ∧ (0 ≤ n → g.extract m.toNat g.size = r.extract n.toNat r.size) := by
  have e1 : 0 ≤ n ↔ Pl.from_ r.data.toList 35 ≠ [] := by
    constructor
    · intro h0 e
      have := (cut_yes hn h0).2.2.2
      have h2 := Pl.bef_aft (Pl.hasB_true.1 this)
      have h3 := Pl.bef_from r.data.toList 35
      rw [e, List.append_nil] at h3
      rw [h3] at h2
      have := congrArg List.length h2
      simp at this
    · intro e
      by_cases h0 : 0 ≤ n
      · exact h0
      · exact absurd (cut_no hn h0).2.2.1 e
  have e2 : 0 ≤ m ↔ Pl.from_ g.data.toList 35 ≠ [] := by
    constructor
    · intro h0 e
      have := (cut_yes hm h0).2.2.2
      have h2 := Pl.bef_aft (Pl.hasB_true.1 this)
      have h3 := Pl.bef_from g.data.toList 35
      rw [e, List.append_nil] at h3
      rw [h3] at h2
      have := congrArg List.length h2
      simp at this
    · intro e
      by_cases h0 : 0 ≤ m
      · exact h0
      · exact absurd (cut_no hm h0).2.2.1 e
  have e3 : 0 ≤ n ↔ 0 ≤ m := by rw [e1, e2, h]
  exact ⟨e3, fun h0 => same_bytes (by rw [(cut_yes hm (e3.1 h0)).2.2.1, (cut_yes hn h0).2.2.1, h])⟩

set_option maxHeartbeats 4000000 in
set_option maxRecDepth 10000 in
theorem walk (a0 : ByteArray) (a1 : ByteArray) (w0 : a0.size ≤ maxLen) (w1 : a1.size ≤ maxLen) (w : World) :
    Calls Try.prog 8 #[.string a0, .string a1] w fun e w' => e = .returned (.bool true) ∧ Below w.heap.size w w' := by
  go_enter Try.func8, Try.ntmps8
  go_wp2_with fail
  refine (zz24 _ _ _ w0 w1).mono ?_
  rintro e w' ⟨b, rfl, hb, rfl⟩
  cases b with
  | false =>
    go_wp2
    go_ret
    exact ⟨rfl, Below.refl _ _⟩
  | true =>
  have hsum := hb rfl
  clear hb
  by_cases g0 : a0.size ≤ 65536
  case neg =>
    go_wp2
    go_ret
    exact ⟨rfl, Below.refl _ _⟩
  case pos =>
  by_cases g1 : a1.size ≤ 65536
  case neg =>
    go_wp2
    go_ret
    exact ⟨rfl, Below.refl _ _⟩
  case pos =>
  go_wp2_with fail
  refine (schemeOf_any _ _ (by omega)).mono ?_
  rintro e w' ⟨bs, bok, rfl, hbok, hbs, rfl⟩
  have HBOK : Hid (bok = Pl.schemeB (Pl.split2 a0.data.toList)) := hbok
  have HBS : Hid (bok = true → bs.data.toList = Pl.bef (Pl.split2 a0.data.toList) 58) := hbs
  clear hbok hbs
  cases bok with
  | false =>
    go_wp2
    go_ret
    exact ⟨rfl, Below.refl _ _⟩
  | true =>
  have HsB : Hid ((Pl.split a0.data.toList).hs = true) := HBOK.out.symm
  have HscB : Hid (bs.data.toList = (Pl.split a0.data.toList).sc) := by
    show _ = _
    rw [HBS.out rfl]
    simp only [Pl.split, ← HBOK.out, if_true]
  clear HBOK HBS
  go_wp2_with fail
  refine (schemeOf_any _ _ (by omega)).mono ?_
  rintro e w' ⟨rs, rok, rfl, hrok, hrs, rfl⟩
  have HROK : Hid (rok = Pl.schemeB (Pl.split2 a1.data.toList)) := hrok
  have HRS : Hid (rok = true → rs.data.toList = Pl.bef (Pl.split2 a1.data.toList) 58) := hrs
  clear hrok hrs
  obtain ⟨g, HG⟩ : ∃ g : ByteArray, Hid (g = ⟨(Pl.resolveL a0.data.toList a1.data.toList).toArray⟩) := ⟨_, rfl⟩
  have HGD : Hid (g.data.toList = Pl.resolveL a0.data.toList a1.data.toList) := by rw [HG.out]; rfl
  have hgs : g.size ≤ 200000 := by
    have := Pl.resolve_len a0.data.toList a1.data.toList
    rw [← HGD.out, ← Pl.size_toList, ← Pl.size_toList, ← Pl.size_toList] at this
    omega
  have HSC := Pl.resolve_scheme (base := a0.data.toList) (ref := a1.data.toList) HsB.out
  have HFR : Hid (Pl.from_ g.data.toList 35 = Pl.from_ a1.data.toList 35) := by
    show _ = _
    rw [HGD.out]; exact Pl.resolve_fragment _ _
  obtain ⟨n1, HN1, n1a, n1b⟩ := index_bd a1 35
  obtain ⟨n2, HN2, n2a, n2b⟩ := index_bd g 35
  obtain ⟨F1, F2⟩ := frag HFR.out HN1.out HN2.out
  have HF2 : Hid (0 ≤ n1 → g.extract n2.toNat g.size = a1.extract n1.toNat a1.size) := F2
  clear F2
  have key : ∀ want : ByteArray, want.data.toList = (if (Pl.split a1.data.toList).hs then (Pl.split a1.data.toList).sc else (Pl.split a0.data.toList).sc) → ∀ gs : ByteArray, ∀ gok : Bool, gok = Pl.schemeB (Pl.split2 g.data.toList) → (gok = true → gs.data.toList = Pl.bef (Pl.split2 g.data.toList) 58) → gok = true ∧ gs = want := by
    intro want hw gs gok h1 h2
    rw [HGD.out] at h1 h2
    rw [HSC.1] at h1
    refine ⟨h1, same_bytes ?_⟩
    rw [h2 h1, HSC.2, hw]
  have KEY : Hid (∀ want : ByteArray, want.data.toList = (if (Pl.split a1.data.toList).hs then (Pl.split a1.data.toList).sc else (Pl.split a0.data.toList).sc) → ∀ gs : ByteArray, ∀ gok : Bool, gok = Pl.schemeB (Pl.split2 g.data.toList) → (gok = true → gs.data.toList = Pl.bef (Pl.split2 g.data.toList) 58) → gok = true ∧ gs = want) := key
  clear key HSC
  have hsR : (Pl.split a1.data.toList).hs = rok := HROK.out.symm
  have HW : Hid (∃ want : ByteArray, want = (if rok then rs else bs) ∧ want.data.toList = (if (Pl.split a1.data.toList).hs then (Pl.split a1.data.toList).sc else (Pl.split a0.data.toList).sc)) := by
    refine ⟨_, rfl, ?_⟩
    rw [hsR]
    cases rok with
    | true =>
      simp only [if_true]
      rw [HRS.out rfl]
      simp only [Pl.split, ← HROK.out, if_true]
    | false =>
      simp only [Bool.false_eq_true, if_false]
      exact HscB.out
  clear hsR
  cases rok with
  | true =>
    have HWD : Hid (rs.data.toList = (if (Pl.split a1.data.toList).hs then (Pl.split a1.data.toList).sc else (Pl.split a0.data.toList).sc)) := by
      obtain ⟨want, hw, hwd⟩ := HW.out
      simp only [if_true] at hw
      rw [hw] at hwd
      exact hwd
    clear HW
    go_wp2_with fail
    refine (zzResolve_any _ _ _ (by omega) (by omega)).mono ?_
    rw [← HG.out]
    rintro e W1 ⟨rfl, bl1⟩
    go_wp2_with fail
    refine (schemeOf_any _ _ (by omega)).mono ?_
    rintro e w' ⟨gs, gok, rfl, hgok, hgs2, rfl⟩
    obtain ⟨k1, k2⟩ := KEY.out rs HWD.out gs gok hgok hgs2
    rw [k1, k2]
    clear k1 k2 hgok hgs2
    go_wp2_with fail
    refine (cb1IndexByte _ 35 _ n1 (by omega) (by decide) (by decide) HN1.out).mono ?_
    rintro e w' ⟨rfl, rfl⟩
    go_wp2_with fail
    refine (cb1IndexByte _ 35 _ n2 (by omega) (by decide) (by decide) HN2.out).mono ?_
    rintro e w' ⟨rfl, rfl⟩
    by_cases h0 : 0 ≤ n1
    · have h1 : 0 ≤ n2 := F1.1 h0
      have hd1 : decide (n1 < 0) = false := by simp; omega
      have hd2 : decide (n2 < 0) = false := by simp; omega
      have hd3 : decide (0 ≤ n1) = true := by simp; omega
      have he : ((g.extract n2.toNat g.size).toList == (a1.extract n1.toNat a1.size).toList) = true := by rw [HF2.out h0]; simp
      go_wp2
      go_quiet (fail)
      go_wp2
      go_ret
      exact ⟨rfl, below_drewN bl1 _⟩
    · have h1 : ¬ 0 ≤ n2 := fun e => h0 (F1.2 e)
      have e1 : n1 = -1 := by omega
      have e2 : n2 = -1 := by omega
      clear h0 h1 F1 HF2 HN1 HN2 n1a n1b n2a n2b
      subst e1
      subst e2
      go_wp2
      go_quiet (fail)
      go_wp2
      go_ret
      exact ⟨rfl, below_drewN bl1 _⟩
  | false =>
    have HWD : Hid (bs.data.toList = (if (Pl.split a1.data.toList).hs then (Pl.split a1.data.toList).sc else (Pl.split a0.data.toList).sc)) := by
      obtain ⟨want, hw, hwd⟩ := HW.out
      simp only [Bool.false_eq_true, if_false] at hw
      rw [hw] at hwd
      exact hwd
    clear HW
    go_wp2_with fail
    refine (zzResolve_any _ _ _ (by omega) (by omega)).mono ?_
    rw [← HG.out]
    rintro e W1 ⟨rfl, bl1⟩
    go_wp2_with fail
    refine (schemeOf_any _ _ (by omega)).mono ?_
    rintro e w' ⟨gs, gok, rfl, hgok, hgs2, rfl⟩
    obtain ⟨k1, k2⟩ := KEY.out bs HWD.out gs gok hgok hgs2
    rw [k1, k2]
    clear k1 k2 hgok hgs2
    go_wp2_with fail
    refine (cb1IndexByte _ 35 _ n1 (by omega) (by decide) (by decide) HN1.out).mono ?_
    rintro e w' ⟨rfl, rfl⟩
    go_wp2_with fail
    refine (cb1IndexByte _ 35 _ n2 (by omega) (by decide) (by decide) HN2.out).mono ?_
    rintro e w' ⟨rfl, rfl⟩
    by_cases h0 : 0 ≤ n1
    · have h1 : 0 ≤ n2 := F1.1 h0
      have hd1 : decide (n1 < 0) = false := by simp; omega
      have hd2 : decide (n2 < 0) = false := by simp; omega
      have hd3 : decide (0 ≤ n1) = true := by simp; omega
      have he : ((g.extract n2.toNat g.size).toList == (a1.extract n1.toNat a1.size).toList) = true := by rw [HF2.out h0]; simp
      go_wp2
      go_quiet (fail)
      go_wp2
      go_ret
      exact ⟨rfl, below_drewN bl1 _⟩
    · have h1 : ¬ 0 ≤ n2 := fun e => h0 (F1.2 e)
      have e1 : n1 = -1 := by omega
      have e2 : n2 = -1 := by omega
      clear h0 h1 F1 HF2 HN1 HN2 n1a n1b n2a n2b
      subst e1
      subst e2
      go_wp2
      go_quiet (fail)
      go_wp2
      go_ret
      exact ⟨rfl, below_drewN bl1 _⟩

/-! ### The row's step: the guide's frame; the post limb by limb -/
set_option maxRecDepth 100000 in
theorem lifted (os : Os) (started : os.Started) (H : Type) (enc : TypeId × Value → H) :
    ReturnsInHanded {} Try.checked os 8 .any (Rows.fnResolveKeepsSchemeAndFragmentSpec.pre6 enc Try.prog Try.f8 Rows.fnResolveKeepsSchemeAndFragmentRow.domain false) (Rows.fnResolveKeepsSchemeAndFragmentSpec.post enc Try.prog Try.f8 false true false false) := by
  refine returnsInHanded_of_change (C := Try.checked) own started (by kernel_rfl) Try.func8
    (ChangeSpec.witness6 (enc := enc) (C := Try.checked) false ⟨#[], #[.string ByteArray.empty, .string ByteArray.empty], []⟩ 8 (by kernel_rfl) (by kernel_rfl) (by kernel_rfl) (by kernel_rfl)) ?_
  intro W base args ds gs before hval0 hW hcnd _
  have hval : ∀ (j : Nat) t v, Try.f8.params[j]? = some t → args[j]? = some v → Value.okWide Try.prog W .any base t v := hval0
  have hW' := hW
  obtain ⟨p, q, hA0, hV, rfl, hfz, hnd⟩ := hW
  have hA : DataW.TrodAll enc Try.prog W 0 (fun _ => true) true Try.f8.params.toList args.toList ds p := hA0
  rw [Try.params8] at hA hval
  obtain ⟨v0, vs0, d0, ds0, p0, q0, hargs, rfl, rfl, h0, r0⟩ := trodAll_cons hA
  obtain ⟨v1, vs1, d1, ds1, p1, q1, rfl, rfl, rfl, h1, r1⟩ := trodAll_cons r0
  obtain ⟨rfl, rfl, rfl⟩ := trodAll_nil r1
  obtain rfl : args = #[v0, v1] := by cases args; simp_all
  obtain ⟨rfl, rfl⟩ := trodVars_none hV
  obtain ⟨a0, rfl, rfl, rfl, w0⟩ := open_string Try.underlying9 (hval 0 9 v0 rfl rfl) h0
  obtain ⟨a1, rfl, rfl, rfl, w1⟩ := open_string Try.underlying9 (hval 1 9 v1 rfl rfl) h1
  clear hA0 hval0
  simp only [List.append_nil] at hW'
  refine (walk a0 a1 w0 w1 W).mono fun e W' ⟨he, hb⟩ => ?_
  subst he
  exact ⟨_, rfl, _, _, _, [], [], [], hW', (trodAll_cons_mk (shut_bool Try.underlying4 _) trodAll_mk0), (trodAll_cons_mk (shut_string Try.underlying9 w0) (trodAll_cons_mk (shut_string Try.underlying9 w1) trodAll_mk0)), rfl, hb.frame _, fun h => by cases h⟩

theorem over : Rows.fnResolveKeepsSchemeAndFragmentRow.holds Try.pinned (OpenSpec.ofChange Rows.fnResolveKeepsSchemeAndFragmentSpec) :=
  OpenClaim.holds_of_wide 8 Try.f8 rfl rfl rfl rfl rfl rfl rfl ⟨rfl, rfl, rfl, rfl, rfl⟩ rfl rfl rfl rfl rfl (by kernel_rfl) Try.func8 (by kernel_rfl)
    (of_decide_eq_true (by kernel_rfl)) (by unfold Func.isWrapper; first | (rw [if_pos (by decide +kernel)]; kernel_rfl) | (rw [if_neg (by decide +kernel)]; exact ⟨rfl, rfl⟩))
    (fun os started H enc _ => lifted os started H enc)

/-- THE STATEMENT -/
theorem proved : Rows.FnResolveKeepsSchemeAndFragmentSaid :=
  over
#print axioms proved
end Go.Proofs.Qxb6605311a.fnResolveKeepsSchemeAndFragment
