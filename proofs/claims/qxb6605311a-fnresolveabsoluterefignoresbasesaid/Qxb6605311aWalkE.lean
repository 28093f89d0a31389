/-
  The walks of strings.Contains at one slash (39) and of splitIRI (30).
-/
import Derived.Test.Qxb6605311aWalkC
import Derived.Test.Qxb6605311aPlainE
import Derived.Test.Qxb6605311aShelfB
import Derived.Deep.DeepCutAuto
import Derived.OwnWalk
namespace Go.Proofs.Qxb6605311a
open Go.RowKit
set_option linter.unusedVariables false

theorem cLiteIndexByte (s : ByteArray) (c : Int) (w : World) (n : Int) (h : Lib.indexByte s.data.toList (UInt8.ofNat c.toNat) = n) :
    Calls Try.prog 46 #[.string s, .int .u8 c] w fun e w' => e = .returned (.int .i64 n) ∧ w = w' :=
  (Try.stringslite_IndexByte s c w).mono fun _ _ k => ⟨by rw [k.1, ← h], k.2.symm⟩

set_option maxHeartbeats 400000 in
theorem cIndexSlash (s : ByteArray) (w : World) (n : Int) (h : Lib.indexByte s.data.toList 47 = n) :
    Calls Try.prog 51 #[.string s, .string ⟨#[47]⟩] w fun e w' => e = .returned (.int .i64 n) ∧ w = w' := by
  have HH : Hid (Lib.indexByte s.data.toList 47 = n) := h
  clear h
  cases h0 : ([47] == s.toList) with
  | true =>
    go_enter Try.func51, Try.ntmps51
    go_wp2_with (go_at_call 46; refine (cLiteIndexByte _ _ _ n HH.out).mono ?_; rintro e w' ⟨rfl, rfl⟩)
    go_ret
    refine ⟨ret_int ?_, rfl⟩
    rw [← HH.out, ← Lib.toList_data, ← beq_iff_eq.1 h0]
    rfl
  | false =>
    go_enter Try.func51, Try.ntmps51
    go_wp2_with (go_at_call 46; refine (cLiteIndexByte _ _ _ n HH.out).mono ?_; rintro e w' ⟨rfl, rfl⟩)
    go_ret
    exact ⟨rfl, rfl⟩

theorem cContains (s : ByteArray) (w : World) :
    Calls Try.prog 39 #[.string s, .string ⟨#[47]⟩] w fun e w' => e = .returned (.bool (Pl.hasB s.data.toList 47)) ∧ w = w' := by
  have h47 : Calls Try.prog 47 #[.string s, .string ⟨#[47]⟩] w fun e w' => e = .returned (.int .i64 (Lib.indexByte s.data.toList 47)) ∧ w = w' := by
    go_enter Try.func47, Try.ntmps47
    go_wp2_with (go_at_call 51; refine (cIndexSlash _ _ _ rfl).mono ?_; rintro e w' ⟨rfl, rfl⟩)
    go_ret
    exact ⟨rfl, rfl⟩
  have H47 : Hid (Calls Try.prog 47 #[.string s, .string ⟨#[47]⟩] w fun e w' => e = .returned (.int .i64 (Lib.indexByte s.data.toList 47)) ∧ w = w') := h47
  clear h47
  go_enter Try.func39, Try.ntmps39
  go_wp2_with (go_at_call 47; refine H47.out.mono ?_; rintro e w' ⟨rfl, rfl⟩)
  go_ret
  exact ⟨ret_bool (Pl.index_contains _ _), rfl⟩

/-- A cut of a byte string at the first c. -/
theorem cut_yes {s : ByteArray} {c : UInt8} {n : Int} (h : Lib.indexByte s.data.toList c = n) (h0 : 0 ≤ n) :
    (s.extract 0 n.toNat).data.toList = Pl.bef s.data.toList c ∧ (s.extract (n + 1).toNat s.size).data.toList = Pl.aft s.data.toList c ∧ (s.extract n.toNat s.size).data.toList = Pl.from_ s.data.toList c ∧ Pl.hasB s.data.toList c = true := by
  rcases Pl.cut_or s.data.toList c with h1 | ⟨a, b, e, h1⟩
  · rw [Pl.index_none h1] at h; omega
  · rw [Pl.ex_start, Pl.ex_end, Pl.ex_end, e]
    rw [e, Pl.index_at h1] at h
    have e1 : n.toNat = a.length := by omega
    have e2 : (n + 1).toNat = a.length + 1 := by omega
    rw [e1, e2, (Pl.bef_at h1).1, (Pl.bef_at h1).2.1, (Pl.bef_at h1).2.2, Pl.hasB_true]
    exact ⟨by simp, by simp, by simp, by simp⟩

theorem cut_no {s : ByteArray} {c : UInt8} {n : Int} (h : Lib.indexByte s.data.toList c = n) (h0 : ¬ 0 ≤ n) :
    Pl.bef s.data.toList c = s.data.toList ∧ Pl.aft s.data.toList c = [] ∧ Pl.from_ s.data.toList c = [] ∧ Pl.hasB s.data.toList c = false := by
  have h1 : c ∉ s.data.toList := (Pl.index_neg _ _).1 (by omega)
  exact ⟨(Pl.bef_none h1).1, (Pl.bef_none h1).2.2, (Pl.bef_none h1).2.1, Pl.hasB_false.2 h1⟩

theorem index_bd (s : ByteArray) (c : UInt8) : ∃ n, Hid (Lib.indexByte s.data.toList c = n) ∧ -1 ≤ n ∧ n < s.size := by
  have := Pl.index_le s.data.toList c
  rw [← Pl.size_toList] at this
  exact ⟨_, rfl, this.2, this.1⟩

theorem cContainsB (s : ByteArray) (w : World) (b : Bool) (h : Pl.hasB s.data.toList 47 = b) :
    Calls Try.prog 39 #[.string s, .string ⟨#[47]⟩] w fun e w' => e = .returned (.bool b) ∧ w = w' :=
  (cContains s w).mono fun _ _ k => ⟨by rw [k.1, h], k.2⟩

theorem cCutPrefix (s : ByteArray) (w : World) (r : ByteArray) (b : Bool) (h : Lib.hasPrefix s.data.toList [47, 47] = b) (hr : r.data.toList = Lib.trimPrefix s.data.toList [47, 47]) :
    Calls Try.prog 40 #[.string s, .string ⟨#[47, 47]⟩] w fun e w' => e = .returned (.tuple #[.string r, .bool b]) ∧ w = w' := by
  refine (Try.strings_CutPrefix s ⟨#[47, 47]⟩ w).mono fun _ _ k => ⟨?_, k.2.symm⟩
  rw [k.1, ← h]
  have e : r = ⟨(Lib.trimPrefix s.data.toList [47, 47]).toArray⟩ := by rw [← hr, Lib.mk_data]
  rw [e]

theorem scheme_of {t : ByteArray} {n : Int} {b : Bool} (h : Lib.indexByte t.data.toList 58 = n) (h0 : 0 < n) (hb : Pl.hasB (t.extract 0 n.toNat).data.toList 47 = b) : (!b) = Pl.schemeB t.data.toList := by
  rw [(cut_yes h (by omega)).1] at hb
  unfold Pl.schemeB
  rw [h, hb, decide_eq_true h0]
  rfl
theorem scheme_no {t : ByteArray} {n : Int} (h : Lib.indexByte t.data.toList 58 = n) (h0 : ¬ 0 < n) : false = Pl.schemeB t.data.toList := by
  unfold Pl.schemeB
  rw [h, decide_eq_false h0]
  rfl

theorem split_of {l t fr t2 qu sc t3 r au t4 : List UInt8} {b1 b2 b3 b4 : Bool}
    (h1 : t = Pl.bef l 35 ∧ fr = Pl.aft l 35 ∧ b4 = Pl.hasB l 35) (h2 : t2 = Pl.bef t 63 ∧ qu = Pl.aft t 63 ∧ b3 = Pl.hasB t 63) (hb1 : b1 = Pl.schemeB t2)
    (h3 : sc = (if b1 then Pl.bef t2 58 else []) ∧ t3 = (if b1 then Pl.aft t2 58 else t2)) (hb2 : Lib.hasPrefix t3 [47, 47] = b2) (hr : r = Lib.trimPrefix t3 [47, 47])
    (h4 : au = (if b2 then Pl.bef r 47 else []) ∧ t4 = (if b2 then Pl.from_ r 47 else t3)) : Pl.split l = ⟨sc, au, t4, qu, fr, b1, b2, b3, b4⟩ := by
  obtain ⟨rfl, rfl, rfl⟩ := h1
  obtain ⟨rfl, rfl, rfl⟩ := h2
  subst hb1
  obtain ⟨rfl, e3⟩ := h3
  have e3' : Pl.split3 l = t3 := by rw [e3]; rfl
  have er : b2 = true → r = t3.drop 2 := by
    intro e
    rw [hr]
    unfold Lib.trimPrefix
    rw [hb2, e]
    rfl
  obtain ⟨rfl, rfl⟩ := h4
  unfold Pl.split
  rw [e3', hb2]
  cases b2 with
  | true => rw [er rfl]; rfl
  | false => rfl

set_option maxHeartbeats 2000000 in
set_option maxRecDepth 10000 in
theorem splitIRI_any (s : ByteArray) (w : World) (hs : s.size ≤ 140737488355328) :
    Calls Try.prog 30 #[.string s] w fun e w' => ∃ sc au pa qu fr : ByteArray, ∃ b1 b2 b3 b4 : Bool, e = .returned (.agg #[.string sc, .string au, .string pa, .string qu, .string fr, .bool b1, .bool b2, .bool b3, .bool b4]) ∧
      Pl.split s.data.toList = ⟨sc.data.toList, au.data.toList, pa.data.toList, qu.data.toList, fr.data.toList, b1, b2, b3, b4⟩ ∧ Below w.heap.size w w' := by
  obtain ⟨n1, HN1, n1a, n1b⟩ := index_bd s 35
  go_enter Try.func30, Try.ntmps30
  go_upto_if 13 with (go_at_call 38; refine (cIndexByte _ _ _ n1 HN1.out).mono ?_; rintro e w' ⟨rfl, rfl⟩)
  go_cut [0] (fun x wx => ∃ (t fr : ByteArray) (b4 : Bool), x = .string t ∧ wx = (w.alloc (.cells #[.string ⟨#[]⟩, .string ⟨#[]⟩, .string ⟨#[]⟩, .string ⟨#[]⟩, .string ⟨#[]⟩, .bool false, .bool false, .bool false, .bool false] 38)).alloc (.cells #[.string ⟨#[]⟩, .string ⟨#[]⟩, .string ⟨#[]⟩, .string ⟨#[]⟩, .string fr, .bool false, .bool false, .bool false, .bool b4] 38) ∧ t.size ≤ 140737488355328 ∧ Hid (t.data.toList = Pl.bef s.data.toList 35 ∧ fr.data.toList = Pl.aft s.data.toList 35 ∧ b4 = Pl.hasB s.data.toList 35))
  case first =>
    by_cases h0 : 0 ≤ n1
    · have HC := cut_yes HN1.out h0
      have HCC : Hid ((s.extract 0 n1.toNat).data.toList = Pl.bef s.data.toList 35 ∧ (s.extract (n1 + 1).toNat s.size).data.toList = Pl.aft s.data.toList 35 ∧ true = Pl.hasB s.data.toList 35) := ⟨HC.1, HC.2.1, HC.2.2.2.symm⟩
      clear HC
      go_wp2
      go_meet
      case rel => exact ⟨s.extract 0 n1.toNat, s.extract (n1 + 1).toNat s.size, true, rfl, rfl, by rw [Pl.ex_start_size _ _ (by omega)]; omega, HCC.out⟩
    · have HC := cut_no HN1.out h0
      have HCC : Hid (s.data.toList = Pl.bef s.data.toList 35 ∧ ([] : List UInt8) = Pl.aft s.data.toList 35 ∧ false = Pl.hasB s.data.toList 35) := ⟨HC.1.symm, HC.2.1.symm, HC.2.2.2.symm⟩
      clear HC
      go_wp2
      go_meet
      case rel => exact ⟨s, ⟨#[]⟩, false, rfl, rfl, hs, HCC.out⟩
  case rest =>
  obtain ⟨t, fr, b4, rfl, rfl, ht, H1⟩ := hcut
  obtain ⟨n2, HN2, n2a, n2b⟩ := index_bd t 63
  go_upto_if 26 with (go_at_call 38; refine (cIndexByte _ _ _ n2 HN2.out).mono ?_; rintro e w' ⟨rfl, rfl⟩)
  go_cut [0] (fun x wx => ∃ (t2 qu : ByteArray) (b3 : Bool), x = .string t2 ∧ wx = (w.alloc (.cells #[.string ⟨#[]⟩, .string ⟨#[]⟩, .string ⟨#[]⟩, .string ⟨#[]⟩, .string ⟨#[]⟩, .bool false, .bool false, .bool false, .bool false] 38)).alloc (.cells #[.string ⟨#[]⟩, .string ⟨#[]⟩, .string ⟨#[]⟩, .string qu, .string fr, .bool false, .bool false, .bool b3, .bool b4] 38) ∧ t2.size ≤ 140737488355328 ∧ Hid (t2.data.toList = Pl.bef t.data.toList 63 ∧ qu.data.toList = Pl.aft t.data.toList 63 ∧ b3 = Pl.hasB t.data.toList 63))
  case first =>
    by_cases h0 : 0 ≤ n2
    · have HC := cut_yes HN2.out h0
      have HCC : Hid ((t.extract 0 n2.toNat).data.toList = Pl.bef t.data.toList 63 ∧ (t.extract (n2 + 1).toNat t.size).data.toList = Pl.aft t.data.toList 63 ∧ true = Pl.hasB t.data.toList 63) := ⟨HC.1, HC.2.1, HC.2.2.2.symm⟩
      clear HC
      go_wp2
      go_meet
      case rel => exact ⟨t.extract 0 n2.toNat, t.extract (n2 + 1).toNat t.size, true, rfl, rfl, by rw [Pl.ex_start_size _ _ (by omega)]; omega, HCC.out⟩
    · have HC := cut_no HN2.out h0
      have HCC : Hid (t.data.toList = Pl.bef t.data.toList 63 ∧ ([] : List UInt8) = Pl.aft t.data.toList 63 ∧ false = Pl.hasB t.data.toList 63) := ⟨HC.1.symm, HC.2.1.symm, HC.2.2.2.symm⟩
      clear HC
      go_wp2
      go_meet
      case rel => exact ⟨t, ⟨#[]⟩, false, rfl, rfl, ht, HCC.out⟩
  case rest =>
  obtain ⟨t2, qu, b3, rfl, rfl, ht2, H2⟩ := hcut
  obtain ⟨n3, HN3, n3a, n3b⟩ := index_bd t2 58
  go_upto_region 11 with (go_at_call 38; refine (cIndexByte _ _ _ n3 HN3.out).mono ?_; rintro e w' ⟨rfl, rfl⟩)
  go_cut [46] (fun v wx => wx = (w.alloc (.cells #[.string ⟨#[]⟩, .string ⟨#[]⟩, .string ⟨#[]⟩, .string ⟨#[]⟩, .string ⟨#[]⟩, .bool false, .bool false, .bool false, .bool false] 38)).alloc (.cells #[.string ⟨#[]⟩, .string ⟨#[]⟩, .string ⟨#[]⟩, .string qu, .string fr, .bool false, .bool false, .bool b3, .bool b4] 38) ∧ ∃ b, v = .bool b ∧ Hid (b = Pl.schemeB t2.data.toList))
  case first =>
    by_cases h0 : 0 < n3
    · obtain ⟨bb, hbb⟩ : ∃ b, Hid (Pl.hasB (t2.extract 0 n3.toNat).data.toList 47 = b) := ⟨_, rfl⟩
      have HS : Hid ((!bb) = Pl.schemeB t2.data.toList) := scheme_of HN3.out h0 hbb.out
      go_wp2_with (go_at_call 39; refine (cContainsB _ _ bb hbb.out).mono ?_; rintro e w' ⟨rfl, rfl⟩)
      go_meet
      case rel => exact ⟨rfl, !bb, rfl, HS.out⟩
    · have HS : Hid (false = Pl.schemeB t2.data.toList) := scheme_no HN3.out h0
      go_wp2
      go_meet
      case rel => exact ⟨rfl, false, rfl, HS.out⟩
  case rest =>
  obtain ⟨rfl, b1, rfl, HB1⟩ := hcut
  go_upto_if 46 with fail
  go_cut [0] (fun x wx => ∃ (t3 sc : ByteArray), x = .string t3 ∧ wx = (w.alloc (.cells #[.string ⟨#[]⟩, .string ⟨#[]⟩, .string ⟨#[]⟩, .string ⟨#[]⟩, .string ⟨#[]⟩, .bool false, .bool false, .bool false, .bool false] 38)).alloc (.cells #[.string sc, .string ⟨#[]⟩, .string ⟨#[]⟩, .string qu, .string fr, .bool b1, .bool false, .bool b3, .bool b4] 38) ∧ t3.size ≤ 140737488355328 ∧ Hid (sc.data.toList = (if b1 then Pl.bef t2.data.toList 58 else []) ∧ t3.data.toList = (if b1 then Pl.aft t2.data.toList 58 else t2.data.toList)))
  case first =>
    cases b1 with
    | true =>
      have h0 : 0 ≤ n3 := by
        have := HB1.out
        simp only [Pl.schemeB, HN3.out] at this
        have := this.symm
        simp only [Bool.and_eq_true, decide_eq_true_eq] at this
        omega
      have HC := cut_yes HN3.out h0
      have HCC : Hid ((t2.extract 0 n3.toNat).data.toList = Pl.bef t2.data.toList 58 ∧ (t2.extract (n3 + 1).toNat t2.size).data.toList = Pl.aft t2.data.toList 58) := ⟨HC.1, HC.2.1⟩
      clear HC
      go_wp2
      go_meet
      case rel => exact ⟨t2.extract (n3 + 1).toNat t2.size, t2.extract 0 n3.toNat, rfl, rfl, by rw [Pl.ex_end_size]; omega, HCC.out.1, HCC.out.2⟩
    | false =>
      go_wp2
      go_meet
      case rel => exact ⟨t2, ⟨#[]⟩, rfl, rfl, ht2, rfl, rfl⟩
  case rest =>
  obtain ⟨t3, sc, rfl, rfl, ht3, H3⟩ := hcut
  obtain ⟨b2, HB2⟩ : ∃ b, Hid (Lib.hasPrefix t3.data.toList [47, 47] = b) := ⟨_, rfl⟩
  obtain ⟨r, HR⟩ : ∃ r : ByteArray, Hid (r.data.toList = Lib.trimPrefix t3.data.toList [47, 47]) := ⟨⟨(Lib.trimPrefix t3.data.toList [47, 47]).toArray⟩, rfl⟩
  obtain ⟨n4, HN4, n4a, n4b⟩ := index_bd r 47
  have hr : r.size ≤ 140737488355328 := by
    have h1 := HR.out
    have : (Lib.trimPrefix t3.data.toList [47, 47]).length ≤ t3.data.toList.length := by
      unfold Lib.trimPrefix
      split
      · simp
      · exact Nat.le_refl _
    rw [← h1, ← Pl.size_toList, ← Pl.size_toList] at this
    omega
  go_upto_if 61 with (go_at_call 40; refine (cCutPrefix _ _ r b2 HB2.out HR.out).mono ?_; rintro e w' ⟨rfl, rfl⟩)
  go_cut [0] (fun x wx => ∃ (t4 au : ByteArray), x = .string t4 ∧ wx = (w.alloc (.cells #[.string ⟨#[]⟩, .string ⟨#[]⟩, .string ⟨#[]⟩, .string ⟨#[]⟩, .string ⟨#[]⟩, .bool false, .bool false, .bool false, .bool false] 38)).alloc (.cells #[.string sc, .string au, .string ⟨#[]⟩, .string qu, .string fr, .bool b1, .bool b2, .bool b3, .bool b4] 38) ∧ Hid (au.data.toList = (if b2 then Pl.bef r.data.toList 47 else []) ∧ t4.data.toList = (if b2 then Pl.from_ r.data.toList 47 else t3.data.toList)))
  case first =>
    cases b2 with
    | true =>
      by_cases h0 : 0 ≤ n4
      · have HC := cut_yes HN4.out h0
        have HCC : Hid ((r.extract 0 n4.toNat).data.toList = Pl.bef r.data.toList 47 ∧ (r.extract n4.toNat r.size).data.toList = Pl.from_ r.data.toList 47) := ⟨HC.1, HC.2.2.1⟩
        clear HC
        go_wp2_with (go_at_call 38; refine (cIndexByte _ _ _ n4 HN4.out).mono ?_; rintro e w' ⟨rfl, rfl⟩)
        go_meet
        case rel => exact ⟨r.extract n4.toNat r.size, r.extract 0 n4.toNat, rfl, rfl, HCC.out⟩
      · have HC := cut_no HN4.out h0
        have HCC : Hid (r.data.toList = Pl.bef r.data.toList 47 ∧ ([] : List UInt8) = Pl.from_ r.data.toList 47) := ⟨HC.1.symm, HC.2.2.1.symm⟩
        clear HC
        go_wp2_with (go_at_call 38; refine (cIndexByte _ _ _ n4 HN4.out).mono ?_; rintro e w' ⟨rfl, rfl⟩)
        go_meet
        case rel => exact ⟨ByteArray.empty, r, rfl, rfl, HCC.out⟩
    | false =>
      go_wp2
      go_meet
      case rel => exact ⟨t3, ⟨#[]⟩, rfl, rfl, rfl, rfl⟩
  case rest =>
  obtain ⟨t4, au, rfl, rfl, H4⟩ := hcut
  have HF : Hid (Pl.split s.data.toList = ⟨sc.data.toList, au.data.toList, t4.data.toList, qu.data.toList, fr.data.toList, b1, b2, b3, b4⟩) :=
    split_of H1.out H2.out HB1.out H3.out HB2.out HR.out H4.out
  go_wp2
  refine bodyPost_ret (v := .agg #[.string sc, .string au, .string t4, .string qu, .string fr, .bool b1, .bool b2, .bool b3, .bool b4]) (by simp [results, Try.results30, go_sem]) rfl ⟨sc, au, t4, qu, fr, b1, b2, b3, b4, rfl, HF.out, ?_⟩
  exact ((Below.refl _ w).alloc (Nat.le_refl _) _).alloc (by simp) _

end Go.Proofs.Qxb6605311a
