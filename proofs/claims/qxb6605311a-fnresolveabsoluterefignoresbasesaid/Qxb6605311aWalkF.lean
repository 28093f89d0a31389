/-
  The walks of ZZsplitIRI (16), b1Canonical (17), b1Join (18).
-/
import Derived.Test.Qxb6605311aWalkE
import Derived.BigQuiet
import Derived.WalkSmall
import Derived.Deep.QuietTactic
namespace Go.Proofs.Qxb6605311a
open Go.RowKit
set_option linter.unusedVariables false

set_option maxHeartbeats 1000000 in
set_option maxRecDepth 10000 in
theorem zzSplit_any (s : ByteArray) (w : World) (hs : s.size ≤ 140737488355328) :
    Calls Try.prog 16 #[.string s] w fun e w' => ∃ sc au pa qu fr : ByteArray, ∃ b1 b2 b3 b4 : Bool, e = .returned (.tuple #[.string sc, .string au, .string pa, .string qu, .string fr, .bool b1, .bool b2, .bool b3, .bool b4]) ∧
      Pl.split s.data.toList = ⟨sc.data.toList, au.data.toList, pa.data.toList, qu.data.toList, fr.data.toList, b1, b2, b3, b4⟩ ∧ Below w.heap.size w w' := by
  go_enter Try.func16, Try.ntmps16
  go_wp2_with fail
  refine (splitIRI_any s _ hs).mono ?_
  rintro e W ⟨sc, au, pa, qu, fr, b1, b2, b3, b4, rfl, hsp, hb⟩
  have HSP : Hid (Pl.split s.data.toList = ⟨sc.data.toList, au.data.toList, pa.data.toList, qu.data.toList, fr.data.toList, b1, b2, b3, b4⟩) := hsp
  clear hsp
  go_wp2
  go_quiet (fail)
  go_wp2
  refine bodyPost_ret (v := .tuple #[.string sc, .string au, .string pa, .string qu, .string fr, .bool b1, .bool b2, .bool b3, .bool b4]) (by simp [results, Try.results16, go_sem]) rfl ⟨sc, au, pa, qu, fr, b1, b2, b3, b4, rfl, HSP.out, ?_⟩
  exact below_drewN (hb.alloc hb.size _) nq


theorem cHasByte (s : ByteArray) (c : Int) (w : World) (hs : s.size ≤ 140737488355328) (h0 : 0 ≤ c) (h1 : c < 256) :
    Calls Try.prog 27 #[.string s, .int .u8 c] w fun e w' => e = .returned (.bool (Pl.hasB s.data.toList (UInt8.ofNat c.toNat))) ∧ w = w' :=
  (b1HasByte_any s c w (by unfold maxLen; omega) h0 h1).mono fun _ _ h => ⟨h.1, h.2.symm⟩

theorem cHasByteB (s : ByteArray) (c : Int) (w : World) (b : Bool) (hs : s.size ≤ 140737488355328) (h0 : 0 ≤ c) (h1 : c < 256) (hb : Pl.hasB s.data.toList (UInt8.ofNat c.toNat) = b) :
    Calls Try.prog 27 #[.string s, .int .u8 c] w fun e w' => e = .returned (.bool b) ∧ w = w' :=
  (cHasByte s c w hs h0 h1).mono fun _ _ h => ⟨by rw [h.1, hb], h.2⟩

theorem cb1IndexByte (s : ByteArray) (c : Int) (w : World) (n : Int) (hs : s.size ≤ 140737488355328) (h0 : 0 ≤ c) (h1 : c < 256) (hn : Lib.indexByte s.data.toList (UInt8.ofNat c.toNat) = n) :
    Calls Try.prog 22 #[.string s, .int .u8 c] w fun e w' => e = .returned (.int .i64 n) ∧ w = w' :=
  (b1IndexByte_any s c w (by unfold maxLen; omega) h0 h1).mono fun _ _ h => ⟨by rw [h.1, ← hn], h.2.symm⟩

theorem cb1HasPrefixE (s p : ByteArray) (w : World) (hs : s.size ≤ 140737488355328) (hp : p.size ≤ 10) :
    Calls Try.prog 28 #[.string s, .string p] w fun e w' => e = .returned (.bool (Lib.hasPrefix s.data.toList p.data.toList)) ∧ w = w' :=
  (b1HasPrefix_any s p w (by unfold maxLen; omega) (by unfold maxLen; omega)).mono fun _ _ h => ⟨h.1, h.2.symm⟩

def PB (sc au pa qu fr : ByteArray) (b1 b2 b3 b4 : Bool) : Pl.Parts := ⟨sc.data.toList, au.data.toList, pa.data.toList, qu.data.toList, fr.data.toList, b1, b2, b3, b4⟩

set_option maxHeartbeats 2000000 in
set_option maxRecDepth 10000 in
theorem canonical_any (sc au pa qu fr : ByteArray) (b1 b2 b3 b4 : Bool) (w : World) (h1 : sc.size ≤ 140737488355328) (h2 : au.size ≤ 140737488355328) (h3 : pa.size ≤ 140737488355328) (h4 : qu.size ≤ 140737488355328) :
    Calls Try.prog 17 #[.string sc, .string au, .string pa, .string qu, .string fr, .bool b1, .bool b2, .bool b3, .bool b4] w fun e w' => e = .returned (.bool (Pl.canonB (PB sc au pa qu fr b1 b2 b3 b4))) ∧ w = w' := by
  go_enter Try.func17, Try.ntmps17
  go_upto_region 1 with fail
  go_cut [5, 6, 7, 8, 49] (fun v5 v6 v7 v8 v wx => wx = w ∧ v5 = .bool b1 ∧ v6 = .bool b2 ∧ v7 = .bool b3 ∧ v8 = .bool b4 ∧ v = .bool (Pl.cA (PB sc au pa qu fr b1 b2 b3 b4)))
  case first =>
    go_wp2
    all_goals
      go_meet
      case rel => exact ⟨rfl, by simp [*], by simp [*], by simp [*], by simp [*], by simp [Pl.cA, PB, ← Lib.toList_data, *]⟩
  case rest =>
  obtain ⟨rfl, rfl, rfl, rfl, rfl, rfl⟩ := hcut
  cases hA : Pl.cA (PB sc au pa qu fr b1 b2 b3 b4) with
  | true =>
    go_wp2
    go_ret
    exact ⟨ret_bool (by simp [Pl.canonB, hA]), rfl⟩
  | false =>
  go_upto_region 3 with fail
  go_cut [5, 70] (fun v5 v wx => wx = wc ∧ v5 = .bool b1 ∧ v = .bool (Pl.cB (PB sc au pa qu fr b1 b2 b3 b4)))
  case first =>
    cases he : sc.toList.isEmpty with
    | true =>
      have he' : sc.data.toList.isEmpty = true := by rw [← Lib.toList_data]; exact he
      go_wp2_with (go_at_call 27; refine (cHasByte _ _ _ h1 (by decide) (by decide)).mono ?_; rintro e w' ⟨rfl, rfl⟩)
      all_goals
        go_meet
        case rel => exact ⟨rfl, by simp [*], by simp [Pl.cB, PB, *]⟩
    | false =>
      have he' : sc.data.toList.isEmpty = false := by rw [← Lib.toList_data]; exact he
      go_wp2_with (go_at_call 27; refine (cHasByte _ _ _ h1 (by decide) (by decide)).mono ?_; rintro e w' ⟨rfl, rfl⟩)
      all_goals
        go_meet
        case rel => exact ⟨rfl, by simp [*], by simp [Pl.cB, PB, *]⟩
  case rest =>
  obtain ⟨rfl, rfl, rfl⟩ := hcut
  cases hB : Pl.cB (PB sc au pa qu fr b1 b2 b3 b4) with
  | true =>
    go_wp2
    go_ret
    exact ⟨ret_bool (by simp [Pl.canonB, hB]), rfl⟩
  | false =>
  go_upto_region 5 with fail
  go_cut [80] (fun v wx => wx = wc ∧ v = .bool (Pl.cC (PB sc au pa qu fr b1 b2 b3 b4)))
  case first =>
    go_wp2_with (go_at_call 27; refine (cHasByte _ _ _ h2 (by decide) (by decide)).mono ?_; rintro e w' ⟨rfl, rfl⟩)
    all_goals
      go_meet
      case rel => exact ⟨rfl, by simp [Pl.cC, PB, *]⟩
  case rest =>
  obtain ⟨rfl, rfl⟩ := hcut
  cases hC : Pl.cC (PB sc au pa qu fr b1 b2 b3 b4) with
  | true =>
    go_wp2
    go_ret
    exact ⟨ret_bool (by simp [Pl.canonB, hC]), rfl⟩
  | false =>
  go_upto_region 7 with fail
  go_cut [86] (fun v wx => wx = wc ∧ v = .bool (Pl.cD (PB sc au pa qu fr b1 b2 b3 b4)))
  case first =>
    go_wp2_with (go_at_call 27; refine (cHasByte _ _ _ h3 (by decide) (by decide)).mono ?_; rintro e w' ⟨rfl, rfl⟩)
    all_goals
      go_meet
      case rel => exact ⟨rfl, by simp [Pl.cD, PB, *]⟩
  case rest =>
  obtain ⟨rfl, rfl⟩ := hcut
  cases hD : Pl.cD (PB sc au pa qu fr b1 b2 b3 b4) with
  | true =>
    go_wp2
    go_ret
    exact ⟨ret_bool (by simp [Pl.canonB, hD]), rfl⟩
  | false =>
  go_upto_region 9 with fail
  go_cut [88] (fun v wx => wx = wc ∧ v = .bool (Pl.cE (PB sc au pa qu fr b1 b2 b3 b4)))
  case first =>
    go_wp2_with (go_at_call 27; refine (cHasByte _ _ _ h4 (by decide) (by decide)).mono ?_; rintro e w' ⟨rfl, rfl⟩)
    all_goals
      go_meet
      case rel => exact ⟨rfl, by simp [Pl.cE, PB, *]⟩
  case rest =>
  obtain ⟨rfl, rfl⟩ := hcut
  cases hE : Pl.cE (PB sc au pa qu fr b1 b2 b3 b4) with
  | true =>
    go_wp2
    go_ret
    exact ⟨ret_bool (by simp [Pl.canonB, hE]), rfl⟩
  | false =>
  have hfg : ∀ c, c = (!Pl.cF (PB sc au pa qu fr b1 b2 b3 b4) && !Pl.cG (PB sc au pa qu fr b1 b2 b3 b4)) → c = Pl.canonB (PB sc au pa qu fr b1 b2 b3 b4) := by
    intro c hc
    rw [hc]
    simp [Pl.canonB, hA, hB, hC, hD, hE]
  have HFG : Hid (∀ c, c = (!Pl.cF (PB sc au pa qu fr b1 b2 b3 b4) && !Pl.cG (PB sc au pa qu fr b1 b2 b3 b4)) → c = Pl.canonB (PB sc au pa qu fr b1 b2 b3 b4)) := hfg
  clear hfg hA hB hC hD hE
  cases b2 with
  | true =>
    cases he : pa.toList.isEmpty with
    | true =>
      have he' : pa.data.toList.isEmpty = true := by rw [← Lib.toList_data]; exact he
      cases b1 with
      | true =>
        go_wp2
        go_ret
        exact ⟨ret_bool (HFG.out _ (by simp [Pl.cF, Pl.cG, PB, he'])), rfl⟩
      | false =>
        go_wp2
        go_ret
        exact ⟨ret_bool (HFG.out _ (by simp [Pl.cF, Pl.cG, PB, he'])), rfl⟩
    | false =>
      have he' : pa.data.toList.isEmpty = false := by rw [← Lib.toList_data]; exact he
      have hps : 0 < pa.size := by
        have := Pl.nonempty_data he
        rw [Pl.size_toList]
        exact List.length_pos_iff.2 this
      have hhd := Pl.head_slash pa hps
      cases hq : ((pa[0].toNat : Int) == 47) with
      | true =>
        have hq' : ((pa[0].toNat : Int) != 47) = false := by simp only [bne, hq]; rfl
        have hp : Lib.hasPrefix pa.data.toList [47] = true := by rw [hhd, hq]
        have HP : Hid (Lib.hasPrefix pa.data.toList [47] = true) := hp
        clear hp hhd
        cases b1 with
        | true =>
          go_wp2
          go_ret
          exact ⟨ret_bool (HFG.out _ (by simp [Pl.cF, Pl.cG, PB, HP.out])), rfl⟩
        | false =>
          go_wp2
          go_ret
          exact ⟨ret_bool (HFG.out _ (by simp [Pl.cF, Pl.cG, PB, HP.out])), rfl⟩
      | false =>
        have hq' : ((pa[0].toNat : Int) != 47) = true := by simp only [bne, hq]; rfl
        have hp : Lib.hasPrefix pa.data.toList [47] = false := by rw [hhd, hq]
        have HP : Hid (Lib.hasPrefix pa.data.toList [47] = false) := hp
        clear hp hhd
        go_wp2
        go_ret
        exact ⟨ret_bool (HFG.out _ (by simp [Pl.cF, PB, HP.out, he'])), rfl⟩
  | false =>
    cases hp : Lib.hasPrefix pa.data.toList [47, 47] with
    | true =>
      go_wp2_with (go_at_call 28; refine (cb1HasPrefixE _ _ _ h3 (by decide)).mono ?_; rintro e w' ⟨rfl, rfl⟩)
      go_ret
      exact ⟨ret_bool (HFG.out _ (by simp [Pl.cF, PB, hp])), rfl⟩
    | false =>
      cases b1 with
      | true =>
        go_wp2_with (go_at_call 28; refine (cb1HasPrefixE _ _ _ h3 (by decide)).mono ?_; rintro e w' ⟨rfl, rfl⟩)
        go_ret
        exact ⟨ret_bool (HFG.out _ (by simp [Pl.cF, Pl.cG, PB, hp])), rfl⟩
      | false =>
        obtain ⟨n3, HN3, n3a, n3b⟩ := index_bd pa 58
        by_cases h0 : 0 < n3
        · obtain ⟨bb, hbb⟩ : ∃ b, Hid (Pl.hasB (pa.extract 0 n3.toNat).data.toList 47 = b) := ⟨_, rfl⟩
          have HS : Hid ((!bb) = Pl.schemeB pa.data.toList) := scheme_of HN3.out h0 hbb.out
          cases bb with
          | true =>
            go_wp2_with (first | (go_at_call 28; refine (cb1HasPrefixE _ _ _ h3 (by decide)).mono ?_; rintro e w' ⟨rfl, rfl⟩) | (go_at_call 22; refine (cb1IndexByte _ 58 _ n3 h3 (by decide) (by decide) HN3.out).mono ?_; rintro e w' ⟨rfl, rfl⟩) | (go_at_call 27; refine (cHasByteB _ 47 _ true (by rw [Pl.ex_start_size _ _ (by omega)]; omega) (by decide) (by decide) hbb.out).mono ?_; rintro e w' ⟨rfl, rfl⟩))
            go_ret
            exact ⟨ret_bool (HFG.out _ (by simp [Pl.cF, Pl.cG, PB, hp, ← HS.out])), rfl⟩
          | false =>
            go_wp2_with (first | (go_at_call 28; refine (cb1HasPrefixE _ _ _ h3 (by decide)).mono ?_; rintro e w' ⟨rfl, rfl⟩) | (go_at_call 22; refine (cb1IndexByte _ 58 _ n3 h3 (by decide) (by decide) HN3.out).mono ?_; rintro e w' ⟨rfl, rfl⟩) | (go_at_call 27; refine (cHasByteB _ 47 _ false (by rw [Pl.ex_start_size _ _ (by omega)]; omega) (by decide) (by decide) hbb.out).mono ?_; rintro e w' ⟨rfl, rfl⟩))
            go_ret
            exact ⟨ret_bool (HFG.out _ (by simp [Pl.cF, Pl.cG, PB, hp, ← HS.out])), rfl⟩
        · have HS : Hid (false = Pl.schemeB pa.data.toList) := scheme_no HN3.out h0
          go_wp2_with (first | (go_at_call 28; refine (cb1HasPrefixE _ _ _ h3 (by decide)).mono ?_; rintro e w' ⟨rfl, rfl⟩) | (go_at_call 22; refine (cb1IndexByte _ 58 _ n3 h3 (by decide) (by decide) HN3.out).mono ?_; rintro e w' ⟨rfl, rfl⟩))
          go_ret
          exact ⟨ret_bool (HFG.out _ (by simp [Pl.cF, Pl.cG, PB, hp, ← HS.out])), rfl⟩

end Go.Proofs.Qxb6605311a
