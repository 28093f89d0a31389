/-
  The proof of 'Rows.FnResolveSameDocumentRefsSaid': the walk out of the callees' contracts; the row's step is the guide's frame, its post given limb by limb (the call makes memory).
-/
import Derived.Test.Qxb6605311aRows
import Derived.Test.Qxb6605311aWalkI
import Derived.Test.Qxb6605311aPlainH
import Derived.WalkKit
import Derived.ProofKit
import Derived.OpenShut
import Derived.ShutString
namespace Go.Proofs.Qxb6605311a.fnResolveSameDocumentRefs
open Go.ChangeShapes Go.WideShapes Go.ChangeAt Go.RowKit
open Go.ChangeMaps (open_string shut_string)
set_option linter.unusedVariables false

theorem own : ownKnob Try.prog.godebug = none := by kernel_rfl

set_option maxHeartbeats 1000000 in
theorem zz21 (a b : ByteArray) (w : World) (w0 : a.size ≤ maxLen) (w1 : b.size ≤ maxLen) :
    Calls Try.prog 21 #[.string a, .string b] w fun e w' => ∃ q, e = .returned (.bool q) ∧ (q = true → a.size + b.size ≤ 1048576) ∧ w = w' := by
  unfold maxLen at w0 w1
  go_enter Try.func21, Try.ntmps21
  go_wp2
  all_goals
    go_ret
    refine ⟨_, rfl, ?_, rfl⟩
    intro hb
    first | omega | cases hb

theorem join_bytes {l : List UInt8} {b r : ByteArray} (h : l = b.data.toList ++ r.data.toList) : (⟨l.toArray⟩ : ByteArray) = b ++ r := by
  rw [h, ← app_data, Lib.mk_data]

theorem cons_of (l : List UInt8) (h : 0 < l.length) : l = l[0] :: l.tail := by
  cases l with
  | nil => simp at h
  | cons x xs => rfl

theorem head_byte {s : ByteArray} {c : Nat} (hc : c < 256) (h : 0 < s.size) (hq : ((s[0].toNat : Int) == (c : Int)) = true) : ∃ r, s.data.toList = UInt8.ofNat c :: r := by
  rw [Pl.getElem_byte s 0 h] at hq
  have hl : 0 < s.data.toList.length := by rw [← Pl.size_toList]; exact h
  have e : s.data.toList[0] = UInt8.ofNat c := by
    apply UInt8.toNat.inj
    simp only [beq_iff_eq] at hq
    rw [UInt8.toNat_ofNat']
    omega
  exact ⟨s.data.toList.tail, by rw [← e]; exact cons_of _ hl⟩

set_option maxHeartbeats 2000000 in
set_option maxRecDepth 10000 in
theorem walk (a0 : ByteArray) (a1 : ByteArray) (w0 : a0.size ≤ maxLen) (w1 : a1.size ≤ maxLen) (w : World) :
    Calls Try.prog 7 #[.string a0, .string a1] w fun e w' => e = .returned (.bool true) ∧ Below w.heap.size w w' := by
  go_enter Try.func7, Try.ntmps7
  go_wp2_with fail
  refine (zz21 _ _ _ w0 w1).mono ?_
  rintro e w' ⟨b, rfl, hb, rfl⟩
  cases b with
  | false =>
    go_wp2
    go_ret
    exact ⟨rfl, Below.refl _ _⟩
  | true =>
  have hsum := hb rfl
  clear hb
  by_cases g0 : a0.size ≤ 65536
  case neg =>
    go_wp2
    go_ret
    exact ⟨rfl, Below.refl _ _⟩
  case pos =>
  by_cases g1 : a1.size ≤ 65536
  case neg =>
    go_wp2
    go_ret
    exact ⟨rfl, Below.refl _ _⟩
  case pos =>
  obtain ⟨n1, HN1, n1a, n1b⟩ := index_bd a0 35
  cases he : a1.toList.isEmpty with
  | true =>
    go_upto_if 36 with (go_at_call 22; refine (cb1IndexByte _ 35 _ n1 (by omega) (by decide) (by decide) HN1.out).mono ?_; rintro e w' ⟨rfl, rfl⟩)
    go_cut [5] (fun v wx => wx = w ∧ ∃ b : ByteArray, v = .string b ∧ b.size ≤ 65536 ∧ Hid (b.data.toList = Pl.bef a0.data.toList 35))
    case first =>
      by_cases h0 : 0 ≤ n1
      · have HC : Hid ((a0.extract 0 n1.toNat).data.toList = Pl.bef a0.data.toList 35) := (cut_yes HN1.out h0).1
        go_wp2
        go_meet
        case rel => exact ⟨rfl, _, rfl, by rw [Pl.ex_start_size _ _ (by omega)]; omega, HC.out⟩
      · have HC : Hid (a0.data.toList = Pl.bef a0.data.toList 35) := (cut_no HN1.out h0).1.symm
        go_wp2
        go_meet
        case rel => exact ⟨rfl, _, rfl, g0, HC.out⟩
    case rest =>
    obtain ⟨rfl, b, rfl, hbs, HB⟩ := hcut
    have HE : Hid ((⟨(Pl.resolveL a0.data.toList a1.data.toList).toArray⟩ : ByteArray) = b ++ a1) := by
      apply join_bytes
      rw [Pl.empty_data he, HB.out]
      exact Pl.resolve_nil _
    go_wp2_with fail
    refine (zzResolve_any _ _ _ (by omega) (by omega)).mono ?_
    rw [HE.out]
    rintro e W1 ⟨rfl, bl1⟩
    go_wp2
    go_ret
    exact ⟨ret_bool (by simp), bl1⟩
  | false =>
  have hps : 0 < a1.size := by
    have := Pl.nonempty_data he
    rw [Pl.size_toList]
    exact List.length_pos_iff.2 this
  cases hq : ((a1[0].toNat : Int) == 63) with
  | true =>
    have hq1 : ((a1[0].toNat : Int) != 63) = false := by simp only [bne, hq]; rfl
    obtain ⟨r, hr⟩ := head_byte (c := 63) (by decide) hps hq
    have HR : Hid (a1.data.toList = 63 :: r) := hr
    clear hr
    go_upto_if 36 with (go_at_call 22; refine (cb1IndexByte _ 35 _ n1 (by omega) (by decide) (by decide) HN1.out).mono ?_; rintro e w' ⟨rfl, rfl⟩)
    go_cut [5] (fun v wx => wx = w ∧ ∃ b : ByteArray, v = .string b ∧ b.size ≤ 65536 ∧ Hid (b.data.toList = Pl.bef a0.data.toList 35))
    case first =>
      by_cases h0 : 0 ≤ n1
      · have HC : Hid ((a0.extract 0 n1.toNat).data.toList = Pl.bef a0.data.toList 35) := (cut_yes HN1.out h0).1
        go_wp2
        go_meet
        case rel => exact ⟨rfl, _, rfl, by rw [Pl.ex_start_size _ _ (by omega)]; omega, HC.out⟩
      · have HC : Hid (a0.data.toList = Pl.bef a0.data.toList 35) := (cut_no HN1.out h0).1.symm
        go_wp2
        go_meet
        case rel => exact ⟨rfl, _, rfl, g0, HC.out⟩
    case rest =>
    obtain ⟨rfl, b, rfl, hbs, HB⟩ := hcut
    obtain ⟨n2, HN2, n2a, n2b⟩ := index_bd b 63
    go_upto_if 46 with fail
    go_cut [5] (fun v wx => wx = wc ∧ ∃ b2 : ByteArray, v = .string b2 ∧ b2.size ≤ 65536 ∧ Hid (b2.data.toList = Pl.split2 a0.data.toList))
    case first =>
      by_cases h0 : 0 ≤ n2
      · have HC : Hid ((b.extract 0 n2.toNat).data.toList = Pl.split2 a0.data.toList) := by
          show _ = _
          rw [(cut_yes HN2.out h0).1, HB.out]; rfl
        go_wp2_with (go_at_call 22; refine (cb1IndexByte _ 63 _ n2 (by omega) (by decide) (by decide) HN2.out).mono ?_; rintro e w' ⟨rfl, rfl⟩)
        go_meet
        case rel => exact ⟨rfl, _, rfl, by rw [Pl.ex_start_size _ _ (by omega)]; omega, HC.out⟩
      · have HC : Hid (b.data.toList = Pl.split2 a0.data.toList) := by
          show _ = _
          rw [← (cut_no HN2.out h0).1, HB.out]; rfl
        go_wp2_with (go_at_call 22; refine (cb1IndexByte _ 63 _ n2 (by omega) (by decide) (by decide) HN2.out).mono ?_; rintro e w' ⟨rfl, rfl⟩)
        go_meet
        case rel => exact ⟨rfl, _, rfl, hbs, HC.out⟩
    case rest =>
    obtain ⟨rfl, b2, rfl, hb2s, HB2⟩ := hcut
    have HE : Hid ((⟨(Pl.resolveL a0.data.toList a1.data.toList).toArray⟩ : ByteArray) = b2 ++ a1) := by
      apply join_bytes
      rw [HR.out, HB2.out]
      exact Pl.resolve_query _ _
    go_wp2_with fail
    refine (zzResolve_any _ _ _ (by omega) (by omega)).mono ?_
    rw [HE.out]
    rintro e W1 ⟨rfl, bl1⟩
    go_wp2
    go_ret
    exact ⟨ret_bool (by simp), bl1⟩
  | false =>
  have hq1 : ((a1[0].toNat : Int) != 63) = true := by simp only [bne, hq]; rfl
  cases hh : ((a1[0].toNat : Int) == 35) with
  | true =>
    have hh1 : ((a1[0].toNat : Int) != 35) = false := by simp only [bne, hh]; rfl
    obtain ⟨r, hr⟩ := head_byte (c := 35) (by decide) hps hh
    have HR : Hid (a1.data.toList = 35 :: r) := hr
    clear hr
    go_upto_if 36 with (go_at_call 22; refine (cb1IndexByte _ 35 _ n1 (by omega) (by decide) (by decide) HN1.out).mono ?_; rintro e w' ⟨rfl, rfl⟩)
    go_cut [5] (fun v wx => wx = w ∧ ∃ b : ByteArray, v = .string b ∧ b.size ≤ 65536 ∧ Hid (b.data.toList = Pl.bef a0.data.toList 35))
    case first =>
      by_cases h0 : 0 ≤ n1
      · have HC : Hid ((a0.extract 0 n1.toNat).data.toList = Pl.bef a0.data.toList 35) := (cut_yes HN1.out h0).1
        go_wp2
        go_meet
        case rel => exact ⟨rfl, _, rfl, by rw [Pl.ex_start_size _ _ (by omega)]; omega, HC.out⟩
      · have HC : Hid (a0.data.toList = Pl.bef a0.data.toList 35) := (cut_no HN1.out h0).1.symm
        go_wp2
        go_meet
        case rel => exact ⟨rfl, _, rfl, g0, HC.out⟩
    case rest =>
    obtain ⟨rfl, b, rfl, hbs, HB⟩ := hcut
    have HE : Hid ((⟨(Pl.resolveL a0.data.toList a1.data.toList).toArray⟩ : ByteArray) = b ++ a1) := by
      apply join_bytes
      rw [HR.out, HB.out]
      exact Pl.resolve_hash _ _
    go_wp2_with fail
    refine (zzResolve_any _ _ _ (by omega) (by omega)).mono ?_
    rw [HE.out]
    rintro e W1 ⟨rfl, bl1⟩
    go_wp2
    go_ret
    exact ⟨ret_bool (by simp), bl1⟩
  | false =>
    have hh1 : ((a1[0].toNat : Int) != 35) = true := by simp only [bne, hh]; rfl
    go_wp2
    go_ret
    exact ⟨rfl, Below.refl _ _⟩

/-! ### The row's step: the guide's frame; the post limb by limb -/
set_option maxRecDepth 100000 in
theorem lifted (os : Os) (started : os.Started) (H : Type) (enc : TypeId × Value → H) :
    ReturnsInHanded {} Try.checked os 7 .any (Rows.fnResolveSameDocumentRefsSpec.pre6 enc Try.prog Try.f7 Rows.fnResolveSameDocumentRefsRow.domain false) (Rows.fnResolveSameDocumentRefsSpec.post enc Try.prog Try.f7 false true false false) := by
  refine returnsInHanded_of_change (C := Try.checked) own started (by kernel_rfl) Try.func7
    (ChangeSpec.witness6 (enc := enc) (C := Try.checked) false ⟨#[], #[.string ByteArray.empty, .string ByteArray.empty], []⟩ 8 (by kernel_rfl) (by kernel_rfl) (by kernel_rfl) (by kernel_rfl)) ?_
  intro W base args ds gs before hval0 hW hcnd _
  have hval : ∀ (j : Nat) t v, Try.f7.params[j]? = some t → args[j]? = some v → Value.okWide Try.prog W .any base t v := hval0
  have hW' := hW
  obtain ⟨p, q, hA0, hV, rfl, hfz, hnd⟩ := hW
  have hA : DataW.TrodAll enc Try.prog W 0 (fun _ => true) true Try.f7.params.toList args.toList ds p := hA0
  rw [Try.params7] at hA hval
  obtain ⟨v0, vs0, d0, ds0, p0, q0, hargs, rfl, rfl, h0, r0⟩ := trodAll_cons hA
  obtain ⟨v1, vs1, d1, ds1, p1, q1, rfl, rfl, rfl, h1, r1⟩ := trodAll_cons r0
  obtain ⟨rfl, rfl, rfl⟩ := trodAll_nil r1
  obtain rfl : args = #[v0, v1] := by cases args; simp_all
  obtain ⟨rfl, rfl⟩ := trodVars_none hV
  obtain ⟨a0, rfl, rfl, rfl, w0⟩ := open_string Try.underlying9 (hval 0 9 v0 rfl rfl) h0
  obtain ⟨a1, rfl, rfl, rfl, w1⟩ := open_string Try.underlying9 (hval 1 9 v1 rfl rfl) h1
  clear hA0 hval0
  simp only [List.append_nil] at hW'
  refine (walk a0 a1 w0 w1 W).mono fun e W' ⟨he, hb⟩ => ?_
  subst he
  exact ⟨_, rfl, _, _, _, [], [], [], hW', (trodAll_cons_mk (shut_bool Try.underlying4 _) trodAll_mk0), (trodAll_cons_mk (shut_string Try.underlying9 w0) (trodAll_cons_mk (shut_string Try.underlying9 w1) trodAll_mk0)), rfl, hb.frame _, fun h => by cases h⟩

theorem over : Rows.fnResolveSameDocumentRefsRow.holds Try.pinned (OpenSpec.ofChange Rows.fnResolveSameDocumentRefsSpec) :=
  OpenClaim.holds_of_wide 7 Try.f7 rfl rfl rfl rfl rfl rfl rfl ⟨rfl, rfl, rfl, rfl, rfl⟩ rfl rfl rfl rfl rfl (by kernel_rfl) Try.func7 (by kernel_rfl)
    (of_decide_eq_true (by kernel_rfl)) (by unfold Func.isWrapper; first | (rw [if_pos (by decide +kernel)]; kernel_rfl) | (rw [if_neg (by decide +kernel)]; exact ⟨rfl, rfl⟩))
    (fun os started H enc _ => lifted os started H enc)

/-- THE STATEMENT -/
theorem proved : Rows.FnResolveSameDocumentRefsSaid :=
  over
#print axioms proved
end Go.Proofs.Qxb6605311a.fnResolveSameDocumentRefs
