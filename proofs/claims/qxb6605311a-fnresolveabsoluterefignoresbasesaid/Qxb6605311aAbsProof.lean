/-
  The proof of 'Rows.FnResolveAbsoluteRefIgnoresBaseSaid': the walk out of the callees' contracts; the row's step is the guide's frame, its post given limb by limb (the call makes memory).
-/
import Derived.Test.Qxb6605311aRows
import Derived.Test.Qxb6605311aWalkI
import Derived.Test.Qxb6605311aPlainH
import Derived.WalkKit
import Derived.ProofKit
import Derived.OpenShut
import Derived.ShutString
namespace Go.Proofs.Qxb6605311a.fnResolveAbsoluteRefIgnoresBase
open Go.ChangeShapes Go.WideShapes Go.ChangeAt Go.RowKit
open Go.ChangeMaps (open_string shut_string)
set_option linter.unusedVariables false

theorem own : ownKnob Try.prog.godebug = none := by kernel_rfl

set_option maxHeartbeats 1000000 in
theorem zz26 (a b c : ByteArray) (w : World) (w0 : a.size ≤ maxLen) (w1 : b.size ≤ maxLen) (w2 : c.size ≤ maxLen) :
    Calls Try.prog 26 #[.string a, .string b, .string c] w fun e w' => ∃ q, e = .returned (.bool q) ∧ (q = true → a.size + b.size + c.size ≤ 1048576) ∧ w = w' := by
  unfold maxLen at w0 w1 w2
  go_enter Try.func26, Try.ntmps26
  go_wp2
  all_goals
    go_ret
    refine ⟨_, rfl, ?_, rfl⟩
    intro hb
    first | omega | cases hb

theorem cDot (s : ByteArray) (w : World) (b : Bool) (h : Pl.hasDot s.data.toList = b) (hs : s.size < 4611686018427387904) :
    Calls Try.prog 14 #[.string s] w fun e w' => e = .returned (.bool b) ∧ w = w' :=
  (hasDotField_any s w hs).mono fun _ _ k => ⟨by rw [k.1, h], k.2.symm⟩

theorem same_bytes {a b : ByteArray} (h : a.data.toList = b.data.toList) : a = b := by
  rw [← Lib.mk_data a, ← Lib.mk_data b, h]

theorem cutQ {s : ByteArray} {k : Nat} {n : Int} (hk : k ≤ s.size) (h1 : (s.extract 0 k).data.toList = Pl.bef s.data.toList 35) (hn : Lib.indexByte (s.extract 0 k).data.toList 63 = n) (h0 : 0 ≤ n) :
    n.toNat ≤ s.size ∧ (s.extract 0 n.toNat).data.toList = Pl.split2 s.data.toList := by
  have hb := Pl.index_le (s.extract 0 k).data.toList 63
  rw [hn, ← Pl.size_toList, Pl.ex_start_size _ _ hk] at hb
  have h2 := (cut_yes hn h0).1
  rw [h1] at h2
  refine ⟨by omega, ?_⟩
  show _ = Pl.bef (Pl.bef s.data.toList 35) 63
  rw [← h2, Pl.ex_start, Pl.ex_start, Pl.ex_start, List.take_take]
  congr 1
  omega

theorem tail_of {s : ByteArray} {k : Nat} (hk : k ≤ s.size) (h : (s.extract 0 k).data.toList = Pl.split2 s.data.toList) : (s.extract k s.size).data.toList = Pl.tailOf s.data.toList := by
  rw [Pl.ex_end]
  rw [Pl.ex_start] at h
  have h2 := Pl.head_tail s.data.toList
  rw [← h] at h2
  have h3 := List.take_append_drop k s.data.toList
  exact List.append_cancel_left (h3.trans h2.symm)

theorem pre_rest {hd : ByteArray} {l : List UInt8} {n : Int} (hh : hd.data.toList = Pl.split2 l) (hn : Lib.indexByte hd.data.toList 58 = n) (h0 : 0 < n) (hs : Pl.schemeB (Pl.split2 l) = true) :
    (hd.extract 0 (n + 1).toNat).data.toList = Pl.joinA (Pl.split l) ∧ (hd.extract (n + 1).toNat hd.size).data.toList = Pl.split3 l := by
  have hc := cut_yes hn (by omega)
  rw [hh] at hc
  have hlt := (Pl.index_le hd.data.toList 58).1
  rw [hn] at hlt
  have hsc := (Pl.scheme_cut hs).1
  constructor
  · rw [Pl.ex_start, hh]
    unfold Pl.joinA
    simp only [Pl.split, hs, if_true]
    have e : ∀ a b : List UInt8, (a ++ 58 :: b).take (a.length + 1) = a ++ [58] := by intro a b; simp [List.take_append, List.take_of_length_le]
    have e2 := e (Pl.bef (Pl.split2 l) 58) (Pl.aft (Pl.split2 l) 58)
    rw [hsc] at e2
    have hl := congrArg List.length hc.1
    rw [Pl.ex_start, List.length_take] at hl
    rw [show (n + 1).toNat = (Pl.bef (Pl.split2 l) 58).length + 1 from by omega]
    exact e2
  · rw [hc.2.1]
    unfold Pl.split3
    rw [hs]
    rfl

theorem pre_auth {hd aa : ByteArray} {l : List UInt8} {n m : Int} (hh : hd.data.toList = Pl.split2 l) (hn : Lib.indexByte hd.data.toList 58 = n) (h0 : 0 < n) (hs : Pl.schemeB (Pl.split2 l) = true)
    (hp : Lib.hasPrefix (Pl.split3 l) [47, 47] = true) (ha : aa.data.toList = (Pl.split3 l).drop 2) (hm : m = (Pl.bef aa.data.toList 47).length) :
    (n + 3 + m).toNat ≤ hd.size ∧ m.toNat ≤ aa.size ∧ (hd.extract 0 (n + 3 + m).toNat).data.toList = Pl.preOf l ∧ (aa.extract m.toNat aa.size).data.toList = (Pl.split l).pa := by
  have hpr := (pre_rest hh hn h0 hs).1
  have e1 : Pl.joinB (Pl.split l) = [47, 47] ++ Pl.bef aa.data.toList 47 := by
    unfold Pl.joinB
    simp only [Pl.split, hp, if_true, ha]
  have e2 : (Pl.split l).pa = Pl.from_ aa.data.toList 47 := by rw [Pl.split_pa, hp, ha]; rfl
  have hj : (Pl.joinA (Pl.split l)).length = (n + 1).toNat := by
    have hlt := (Pl.index_le hd.data.toList 58).1
    rw [hn] at hlt
    rw [← hpr, Pl.ex_start, List.length_take]
    omega
  have hf := Pl.front_split l
  have hlen : (Pl.preOf l).length = (n + 3 + m).toNat := by
    unfold Pl.preOf
    rw [List.length_append, hj, e1, List.length_append, hm]
    show _ + (2 + _) = _
    omega
  have hle : (Pl.preOf l).length ≤ hd.data.toList.length := by
    rw [hh, ← hf]
    unfold Pl.preOf
    simp only [List.length_append]
    omega
  refine ⟨by rw [← hlen, Pl.size_toList]; exact hle, ?_, ?_, ?_⟩
  · have := Pl.bef_len aa.data.toList 47
    rw [Pl.size_toList]
    omega
  · rw [Pl.ex_start, hh, ← hf, ← hlen]
    show List.take _ (Pl.preOf l ++ _) = _
    simp
  · rw [Pl.ex_end, e2, hm, Int.toNat_natCast]
    have h5 : (Pl.bef aa.data.toList 47 ++ Pl.from_ aa.data.toList 47).drop (Pl.bef aa.data.toList 47).length = Pl.from_ aa.data.toList 47 := List.drop_left
    rw [Pl.bef_from] at h5
    exact h5

/-- What is known of the answer, of what stands ahead, between and behind. -/
theorem got_parts {g pre tl : ByteArray} {mid : List UInt8} (h : g.data.toList = pre.data.toList ++ mid ++ tl.data.toList) :
    pre.size + tl.size ≤ g.size ∧ g.extract 0 pre.size = pre ∧ g.extract (g.size - tl.size) g.size = tl ∧ (g.extract pre.size (g.size - tl.size)).data.toList = mid ∧ g.size = pre.size + mid.length + tl.size := by
  have hs : g.size = pre.size + mid.length + tl.size := by
    rw [Pl.size_toList, h, List.length_append, List.length_append, ← Pl.size_toList, ← Pl.size_toList]
  refine ⟨by omega, same_bytes ?_, same_bytes ?_, ?_, hs⟩
  · rw [Pl.ex_start, h, List.append_assoc, Pl.size_toList]
    simp
  · rw [Pl.ex_end, h, hs, show pre.size + mid.length + tl.size - tl.size = (pre.data.toList ++ mid).length from by rw [List.length_append, ← Pl.size_toList]; omega]
    exact List.drop_left
  · rw [Lib.extract_data, h, List.append_assoc, show g.size - tl.size - pre.size = mid.length from by omega]
    rw [Pl.size_toList pre]
    simp

set_option maxHeartbeats 4000000 in
set_option maxRecDepth 10000 in
theorem walk (a0 : ByteArray) (a1 : ByteArray) (a2 : ByteArray) (w0 : a0.size ≤ maxLen) (w1 : a1.size ≤ maxLen) (w2 : a2.size ≤ maxLen) (w : World) :
    Calls Try.prog 9 #[.string a0, .string a1, .string a2] w fun e w' => e = .returned (.bool true) ∧ Below w.heap.size w w' := by
  go_enter Try.func9, Try.ntmps9
  go_wp2_with fail
  refine (zz26 _ _ _ _ w0 w1 w2).mono ?_
  rintro e w' ⟨b, rfl, hb, rfl⟩
  cases b with
  | false =>
    go_wp2
    go_ret
    exact ⟨rfl, Below.refl _ _⟩
  | true =>
  have hsum := hb rfl
  clear hb
  by_cases g0 : a0.size ≤ 65536
  case neg =>
    go_wp2
    go_ret
    exact ⟨rfl, Below.refl _ _⟩
  case pos =>
  by_cases g1 : a1.size ≤ 65536
  case neg =>
    go_wp2
    go_ret
    exact ⟨rfl, Below.refl _ _⟩
  case pos =>
  by_cases g2 : a2.size ≤ 65536
  case neg =>
    go_wp2
    go_ret
    exact ⟨rfl, Below.refl _ _⟩
  case pos =>
  obtain ⟨n1, HN1, n1a, n1b⟩ := index_bd a2 35
  go_upto_if 43 with (go_at_call 22; refine (cb1IndexByte _ 35 _ n1 (by omega) (by decide) (by decide) HN1.out).mono ?_; rintro e w' ⟨rfl, rfl⟩)
  go_cut [7] (fun v wx => wx = w ∧ ∃ k : Nat, v = .int .i64 k ∧ k ≤ a2.size ∧ Hid ((a2.extract 0 k).data.toList = Pl.bef a2.data.toList 35))
  case first =>
    by_cases h0 : 0 ≤ n1
    · have HC : Hid ((a2.extract 0 n1.toNat).data.toList = Pl.bef a2.data.toList 35) := (cut_yes HN1.out h0).1
      go_wp2
      go_meet
      case rel => exact ⟨rfl, n1.toNat, by rw [Int.toNat_of_nonneg h0], by omega, HC.out⟩
    · have HC : Hid ((a2.extract 0 a2.size).data.toList = Pl.bef a2.data.toList 35) := by
        show _ = _
        rw [(cut_no HN1.out h0).1, Pl.ex_end]; rfl
      go_wp2
      go_meet
      case rel => exact ⟨rfl, a2.size, rfl, Nat.le_refl _, HC.out⟩
  case rest =>
  obtain ⟨rfl, k1, rfl, hk1, HK1⟩ := hcut
  obtain ⟨n2, HN2, n2a, n2b⟩ := index_bd (a2.extract 0 k1) 63
  rw [Pl.ex_start_size _ _ hk1] at n2b
  have hxs : (a2.extract 0 k1).size ≤ 140737488355328 := by rw [Pl.ex_start_size _ _ hk1]; omega
  go_upto_if 50 with (go_at_call 22; refine (cb1IndexByte _ 63 _ n2 hxs (by decide) (by decide) HN2.out).mono ?_; rintro e w' ⟨rfl, rfl⟩)
  go_cut [7] (fun v wx => wx = wc ∧ ∃ k : Nat, v = .int .i64 k ∧ k ≤ a2.size ∧ Hid ((a2.extract 0 k).data.toList = Pl.split2 a2.data.toList))
  case first =>
    by_cases h0 : 0 ≤ n2
    · have HC : Hid ((a2.extract 0 n2.toNat).data.toList = Pl.split2 a2.data.toList) := (cutQ hk1 HK1.out HN2.out h0).2
      go_wp2
      go_meet
      case rel => exact ⟨rfl, n2.toNat, by rw [Int.toNat_of_nonneg h0], by omega, HC.out⟩
    · have HC : Hid ((a2.extract 0 k1).data.toList = Pl.split2 a2.data.toList) := by
        show _ = Pl.bef (Pl.bef a2.data.toList 35) 63
        rw [← HK1.out]
        exact (cut_no HN2.out h0).1.symm
      go_wp2
      go_meet
      case rel => exact ⟨rfl, k1, rfl, hk1, HC.out⟩
  case rest =>
  obtain ⟨rfl, k2, rfl, hk2, HK2⟩ := hcut
  clear hxs n2a n2b HN2
  go_upto_region 14 with fail
  obtain ⟨hd, hhd⟩ : ∃ hd, hd = a2.extract 0 k2 := ⟨_, rfl⟩
  obtain ⟨tl, htl⟩ : ∃ tl, tl = a2.extract k2 a2.size := ⟨_, rfl⟩
  rw [← hhd, ← htl]
  have HHD : Hid (hd.data.toList = Pl.split2 a2.data.toList) := by rw [hhd]; exact HK2.out
  have HTL : Hid (tl.data.toList = Pl.tailOf a2.data.toList) := by rw [htl]; exact tail_of hk2 HK2.out
  have hhs : hd.size ≤ 65536 := by rw [hhd, Pl.ex_start_size _ _ hk2]; omega
  have hts : tl.size ≤ 65536 := by rw [htl, Pl.ex_end_size]; omega
  clear hhd htl
  obtain ⟨n3, HN3, n3a, n3b⟩ := index_bd hd 58
  by_cases h3 : 0 < n3
  case neg =>
    go_wp2_with (go_at_call 22; refine (cb1IndexByte _ 58 _ n3 (by omega) (by decide) (by decide) HN3.out).mono ?_; rintro e w' ⟨rfl, rfl⟩)
    go_ret
    exact ⟨rfl, Below.refl _ _⟩
  case pos =>
  obtain ⟨bb, hbb⟩ : ∃ b, Hid (Pl.hasB (hd.extract 0 n3.toNat).data.toList 47 = b) := ⟨_, rfl⟩
  have HS : Hid ((!bb) = Pl.schemeB (Pl.split2 a2.data.toList)) := by
    have := scheme_of HN3.out h3 hbb.out
    rw [HHD.out] at this
    exact this
  have hes : (hd.extract 0 n3.toNat).size ≤ 140737488355328 := by rw [Pl.ex_start_size _ _ (by omega)]; omega
  cases bb with
  | true =>
    go_wp2_with (first | (go_at_call 22; refine (cb1IndexByte _ 58 _ n3 (by omega) (by decide) (by decide) HN3.out).mono ?_; rintro e w' ⟨rfl, rfl⟩) | (go_at_call 27; refine (cHasByteB _ 47 _ true hes (by decide) (by decide) hbb.out).mono ?_; rintro e w' ⟨rfl, rfl⟩))
    go_ret
    exact ⟨rfl, Below.refl _ _⟩
  | false =>
  have HSB : Hid (Pl.schemeB (Pl.split2 a2.data.toList) = true) := HS.out.symm
  go_upto_region 19 with (first | (go_at_call 22; refine (cb1IndexByte _ 58 _ n3 (by omega) (by decide) (by decide) HN3.out).mono ?_; rintro e w' ⟨rfl, rfl⟩) | (go_at_call 27; refine (cHasByteB _ 47 _ false hes (by decide) (by decide) hbb.out).mono ?_; rintro e w' ⟨rfl, rfl⟩))
  obtain ⟨p0, hp0⟩ : ∃ p0, p0 = hd.extract 0 (n3 + 1).toNat := ⟨_, rfl⟩
  obtain ⟨r0, hr0⟩ : ∃ r0, r0 = hd.extract (n3 + 1).toNat hd.size := ⟨_, rfl⟩
  rw [← hp0, ← hr0]
  have HPR := pre_rest HHD.out HN3.out h3 HSB.out
  have HP0 : Hid (p0.data.toList = Pl.joinA (Pl.split a2.data.toList)) := by rw [hp0]; exact HPR.1
  have HR0 : Hid (r0.data.toList = Pl.split3 a2.data.toList) := by rw [hr0]; exact HPR.2
  have hps : p0.size ≤ 65536 := by rw [hp0, Pl.ex_start_size _ _ (by omega)]; omega
  have hrs : r0.size ≤ 65536 := by rw [hr0, Pl.ex_end_size]; omega
  clear hp0 hr0 HPR hes hbb HS
  go_upto_if 77 with (go_at_call 28; refine (cb1HasPrefixE _ _ _ (by omega) (by decide)).mono ?_; rintro e w' ⟨rfl, rfl⟩)
  go_cut [13, 14] (fun v13 v14 wx => wx = wc ∧ ∃ pre rest : ByteArray, v13 = .string pre ∧ v14 = .string rest ∧ pre.size ≤ 65536 ∧ rest.size ≤ 65536 ∧ Hid (pre.data.toList = Pl.preOf a2.data.toList ∧ rest.data.toList = (Pl.split a2.data.toList).pa))
  case first =>
    cases hp : Lib.hasPrefix r0.data.toList [47, 47] with
    | true =>
      have hr2 : 2 ≤ r0.size := by
        obtain ⟨r, hr⟩ := Pl.pre_yes hp
        rw [Pl.size_toList, hr]; simp
      go_upto_region 21 with fail
      obtain ⟨aa, haa⟩ : ∃ aa, aa = r0.extract 2 r0.size := ⟨_, rfl⟩
      rw [← haa]
      have HAA : Hid (aa.data.toList = (Pl.split3 a2.data.toList).drop 2) := by rw [haa]; show _ = _; rw [Pl.ex_end, HR0.out]
      have has : aa.size ≤ 65536 := by rw [haa, Pl.ex_end_size]; omega
      have HPP : Hid (Lib.hasPrefix (Pl.split3 a2.data.toList) [47, 47] = true) := by rw [← HR0.out]; exact hp
      clear haa
      obtain ⟨n4, HN4, n4a, n4b⟩ := index_bd aa 47
      by_cases h4 : 0 ≤ n4
      · have hm : n4 = (Pl.bef aa.data.toList 47).length := by
          have := congrArg List.length (cut_yes HN4.out h4).1
          rw [Pl.ex_start, List.length_take, ← Pl.size_toList] at this
          omega
        obtain ⟨q1, q2, q3, q4⟩ := pre_auth HHD.out HN3.out h3 HSB.out HPP.out HAA.out hm
        have Q : Hid ((hd.extract 0 (n3 + 3 + n4).toNat).data.toList = Pl.preOf a2.data.toList ∧ (aa.extract n4.toNat aa.size).data.toList = (Pl.split a2.data.toList).pa) := ⟨q3, q4⟩
        clear q3 q4 hm
        go_wp2_with (go_at_call 22; refine (cb1IndexByte _ 47 _ n4 (by omega) (by decide) (by decide) HN4.out).mono ?_; rintro e w' ⟨rfl, rfl⟩)
        go_meet
        case rel => exact ⟨rfl, _, _, rfl, rfl, by rw [Pl.ex_start_size _ _ q1]; omega, by rw [Pl.ex_end_size]; omega, Q.out⟩
      · have hm : (aa.size : Int) = (Pl.bef aa.data.toList 47).length := by
          rw [(cut_no HN4.out h4).1, ← Pl.size_toList]
        obtain ⟨q1, q2, q3, q4⟩ := pre_auth HHD.out HN3.out h3 HSB.out HPP.out HAA.out hm
        have Q : Hid ((hd.extract 0 (n3 + 3 + (aa.size : Int)).toNat).data.toList = Pl.preOf a2.data.toList ∧ (aa.extract aa.size aa.size).data.toList = (Pl.split a2.data.toList).pa) := ⟨q3, by rw [Int.toNat_natCast] at q4; exact q4⟩
        clear q3 q4 hm
        go_wp2_with (go_at_call 22; refine (cb1IndexByte _ 47 _ n4 (by omega) (by decide) (by decide) HN4.out).mono ?_; rintro e w' ⟨rfl, rfl⟩)
        go_meet
        case rel => exact ⟨rfl, hd.extract 0 (n3 + 3 + (aa.size : Int)).toNat, aa.extract aa.size aa.size, rfl, by simp, by rw [Pl.ex_start_size _ _ q1]; omega, by rw [Pl.ex_end_size]; omega, Q.out⟩
    | false =>
      have Q : Hid (p0.data.toList = Pl.preOf a2.data.toList ∧ r0.data.toList = (Pl.split a2.data.toList).pa) := by
        have hp' := hp
        rw [HR0.out] at hp'
        refine ⟨?_, ?_⟩
        · rw [HP0.out]
          unfold Pl.preOf Pl.joinB
          simp only [Pl.split, hp']
          simp
        · rw [HR0.out, Pl.split_pa, hp']
          rfl
      go_wp2
      go_meet
      case rel => exact ⟨rfl, p0, r0, rfl, rfl, hps, hrs, Q.out⟩
  case rest =>
  obtain ⟨rfl, pre, rest, rfl, rfl, hpre, hrest, HQ⟩ := hcut
  clear HP0 HR0 hps hrs
  have HRS : Hid ((Pl.split a2.data.toList).hs = true) := HSB.out
  obtain ⟨g, HG⟩ : ∃ g : ByteArray, Hid (g = ⟨(Pl.resolveL a0.data.toList a2.data.toList).toArray⟩) := ⟨_, rfl⟩
  have HG1 : Hid ((⟨(Pl.resolveL a1.data.toList a2.data.toList).toArray⟩ : ByteArray) = g) := by
    show _ = _
    rw [HG.out, Pl.resolve_abs HRS.out, Pl.resolve_abs HRS.out]
  have HGD : Hid (g.data.toList = pre.data.toList ++ Pl.rd rest.data.toList ++ tl.data.toList) := by
    show _ = _
    rw [HQ.out.1, HQ.out.2, HTL.out, HG.out]
    exact Pl.resolve_abs HRS.out
  have HGA : Hid ((⟨(Pl.resolveL a0.data.toList g.data.toList).toArray⟩ : ByteArray) = g) := by
    have e : g.data.toList = Pl.resolveL a0.data.toList a2.data.toList := by rw [HG.out]
    have e2 := Pl.resolve_again (base := a0.data.toList) (base' := a0.data.toList) HRS.out
    show _ = _
    rw [e, e2]
    exact HG.out.symm
  obtain ⟨q1, q2, q3, q4, q5⟩ := got_parts HGD.out
  have hgs : g.size ≤ 200000 := by
    have := Pl.rd_le rest.data.toList
    rw [← Pl.size_toList] at this
    omega
  have hmid : (Pl.rd rest.data.toList).length + pre.size + tl.size ≤ g.size := by omega
  have HQ5 : Hid (g.size = pre.size + (Pl.rd rest.data.toList).length + tl.size) := q5
  clear q5
  have Q2 : Hid (g.extract 0 pre.size = pre ∧ g.extract (g.size - tl.size) g.size = tl ∧ (g.extract pre.size (g.size - tl.size)).data.toList = Pl.rd rest.data.toList) := ⟨q2, q3, q4⟩
  clear q2 q3 q4
  go_wp2_with fail
  refine (zzResolve_any _ _ _ (by omega) (by omega)).mono ?_
  rw [← HG.out]
  rintro e W1 ⟨rfl, bl1⟩
  go_wp2_with fail
  refine (zzResolve_any _ _ _ (by omega) (by omega)).mono ?_
  rw [HG1.out]
  rintro e W2 ⟨rfl, bl2⟩
  go_wp2_with fail
  refine (cDot rest _ _ rfl (by omega)).mono ?_
  rintro e w' ⟨rfl, rfl⟩
  have hA : ((g.extract 0 pre.size).toList == pre.toList) = true := by rw [Q2.out.1]; simp
  have hB : ((g.extract (g.size - tl.size) g.size).toList == tl.toList) = true := by rw [Q2.out.2.1]; simp
  have HMID : Hid (Pl.hasDot (g.extract pre.size (g.size - tl.size)).data.toList = false) := by
    show _ = _
    rw [Q2.out.2.2]; exact Pl.rd_clean _
  have hmsz : (g.extract pre.size (g.size - tl.size)).size < 4611686018427387904 := by
    rw [Pl.size_toList, Q2.out.2.2]
    omega
  have BL : Hid (Below wc.heap.size wc W2) := bl1.trans (bl2.mono bl1.size)
  cases hdt : Pl.hasDot rest.data.toList with
  | false =>
    have he : (g.toList == a2.toList) = true := by
      have : g = a2 := same_bytes (by rw [HGD.out, Pl.rd_plain _ hdt, HQ.out.1, HQ.out.2, HTL.out, Pl.pre_tail])
      rw [this]; simp
    go_wp2_with fail
    refine (cDot _ _ false HMID.out hmsz).mono ?_
    rintro e w' ⟨rfl, rfl⟩
    go_wp2_with fail
    refine (zzResolve_any _ _ _ (by omega) (by omega)).mono ?_
    rw [HGA.out]
    rintro e W3 ⟨rfl, bl3⟩
    go_wp2
    go_ret
    exact ⟨ret_bool (by simp), BL.out.trans (bl3.mono BL.out.size)⟩
  | true =>
    have hshort : g.size < pre.size + tl.size + rest.size := by
      have := Pl.rd_shorter _ hdt
      rw [← Pl.size_toList] at this
      have := HQ5.out
      omega
    go_wp2_with fail
    refine (cDot _ _ false HMID.out hmsz).mono ?_
    rintro e w' ⟨rfl, rfl⟩
    go_wp2_with fail
    refine (zzResolve_any _ _ _ (by omega) (by omega)).mono ?_
    rw [HGA.out]
    rintro e W3 ⟨rfl, bl3⟩
    go_wp2
    go_ret
    exact ⟨ret_bool (by simp), BL.out.trans (bl3.mono BL.out.size)⟩

/-! ### The row's step: the guide's frame; the post limb by limb -/
set_option maxRecDepth 100000 in
theorem lifted (os : Os) (started : os.Started) (H : Type) (enc : TypeId × Value → H) :
    ReturnsInHanded {} Try.checked os 9 .any (Rows.fnResolveAbsoluteRefIgnoresBaseSpec.pre6 enc Try.prog Try.f9 Rows.fnResolveAbsoluteRefIgnoresBaseRow.domain false) (Rows.fnResolveAbsoluteRefIgnoresBaseSpec.post enc Try.prog Try.f9 false true false false) := by
  refine returnsInHanded_of_change (C := Try.checked) own started (by kernel_rfl) Try.func9
    (ChangeSpec.witness6 (enc := enc) (C := Try.checked) false ⟨#[], #[.string ByteArray.empty, .string ByteArray.empty, .string ByteArray.empty], []⟩ 8 (by kernel_rfl) (by kernel_rfl) (by kernel_rfl) (by kernel_rfl)) ?_
  intro W base args ds gs before hval0 hW hcnd _
  have hval : ∀ (j : Nat) t v, Try.f9.params[j]? = some t → args[j]? = some v → Value.okWide Try.prog W .any base t v := hval0
  have hW' := hW
  obtain ⟨p, q, hA0, hV, rfl, hfz, hnd⟩ := hW
  have hA : DataW.TrodAll enc Try.prog W 0 (fun _ => true) true Try.f9.params.toList args.toList ds p := hA0
  rw [Try.params9] at hA hval
  obtain ⟨v0, vs0, d0, ds0, p0, q0, hargs, rfl, rfl, h0, r0⟩ := trodAll_cons hA
  obtain ⟨v1, vs1, d1, ds1, p1, q1, rfl, rfl, rfl, h1, r1⟩ := trodAll_cons r0
  obtain ⟨v2, vs2, d2, ds2, p2, q2, rfl, rfl, rfl, h2, r2⟩ := trodAll_cons r1
  obtain ⟨rfl, rfl, rfl⟩ := trodAll_nil r2
  obtain rfl : args = #[v0, v1, v2] := by cases args; simp_all
  obtain ⟨rfl, rfl⟩ := trodVars_none hV
  obtain ⟨a0, rfl, rfl, rfl, w0⟩ := open_string Try.underlying9 (hval 0 9 v0 rfl rfl) h0
  obtain ⟨a1, rfl, rfl, rfl, w1⟩ := open_string Try.underlying9 (hval 1 9 v1 rfl rfl) h1
  obtain ⟨a2, rfl, rfl, rfl, w2⟩ := open_string Try.underlying9 (hval 2 9 v2 rfl rfl) h2
  clear hA0 hval0
  simp only [List.append_nil] at hW'
  refine (walk a0 a1 a2 w0 w1 w2 W).mono fun e W' ⟨he, hb⟩ => ?_
  subst he
  exact ⟨_, rfl, _, _, _, [], [], [], hW', (trodAll_cons_mk (shut_bool Try.underlying4 _) trodAll_mk0), (trodAll_cons_mk (shut_string Try.underlying9 w0) (trodAll_cons_mk (shut_string Try.underlying9 w1) (trodAll_cons_mk (shut_string Try.underlying9 w2) trodAll_mk0))), rfl, hb.frame _, fun h => by cases h⟩

theorem over : Rows.fnResolveAbsoluteRefIgnoresBaseRow.holds Try.pinned (OpenSpec.ofChange Rows.fnResolveAbsoluteRefIgnoresBaseSpec) :=
  OpenClaim.holds_of_wide 9 Try.f9 rfl rfl rfl rfl rfl rfl rfl ⟨rfl, rfl, rfl, rfl, rfl⟩ rfl rfl rfl rfl rfl (by kernel_rfl) Try.func9 (by kernel_rfl)
    (of_decide_eq_true (by kernel_rfl)) (by unfold Func.isWrapper; first | (rw [if_pos (by decide +kernel)]; kernel_rfl) | (rw [if_neg (by decide +kernel)]; exact ⟨rfl, rfl⟩))
    (fun os started H enc _ => lifted os started H enc)

/-- THE STATEMENT -/
theorem proved : Rows.FnResolveAbsoluteRefIgnoresBaseSaid :=
  over
#print axioms proved
end Go.Proofs.Qxb6605311a.fnResolveAbsoluteRefIgnoresBase
