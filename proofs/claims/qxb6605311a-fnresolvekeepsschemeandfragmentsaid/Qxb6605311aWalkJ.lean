/-
  The walk of b1SchemeOf (25).
-/
import Derived.Test.Qxb6605311aWalkF
namespace Go.Proofs.Qxb6605311a
open Go.RowKit
set_option linter.unusedVariables false

set_option maxHeartbeats 2000000 in
set_option maxRecDepth 10000 in
theorem schemeOf_any (s : ByteArray) (w : World) (hs : s.size ≤ 140737488355328) :
    Calls Try.prog 25 #[.string s] w fun e w' => ∃ sc : ByteArray, ∃ ok : Bool, e = .returned (.tuple #[.string sc, .bool ok]) ∧ ok = Pl.schemeB (Pl.split2 s.data.toList) ∧ (ok = true → sc.data.toList = Pl.bef (Pl.split2 s.data.toList) 58) ∧ w = w' := by
  obtain ⟨n1, HN1, n1a, n1b⟩ := index_bd s 35
  go_enter Try.func25, Try.ntmps25
  go_upto_if 10 with (go_at_call 22; refine (cb1IndexByte _ 35 _ n1 hs (by decide) (by decide) HN1.out).mono ?_; rintro e w' ⟨rfl, rfl⟩)
  go_cut [0] (fun x wx => wx = w ∧ ∃ t : ByteArray, x = .string t ∧ t.size ≤ 140737488355328 ∧ Hid (t.data.toList = Pl.bef s.data.toList 35))
  case first =>
    by_cases h0 : 0 ≤ n1
    · have HC : Hid ((s.extract 0 n1.toNat).data.toList = Pl.bef s.data.toList 35) := (cut_yes HN1.out h0).1
      go_wp2
      go_meet
      case rel => exact ⟨rfl, _, rfl, by rw [Pl.ex_start_size _ _ (by omega)]; omega, HC.out⟩
    · have HC : Hid (s.data.toList = Pl.bef s.data.toList 35) := (cut_no HN1.out h0).1.symm
      go_wp2
      go_meet
      case rel => exact ⟨rfl, _, rfl, hs, HC.out⟩
  case rest =>
  obtain ⟨rfl, t, rfl, hts, HT⟩ := hcut
  obtain ⟨n2, HN2, n2a, n2b⟩ := index_bd t 63
  go_upto_if 17 with (go_at_call 22; refine (cb1IndexByte _ 63 _ n2 hts (by decide) (by decide) HN2.out).mono ?_; rintro e w' ⟨rfl, rfl⟩)
  go_cut [0] (fun x wx => wx = wc ∧ ∃ t2 : ByteArray, x = .string t2 ∧ t2.size ≤ 140737488355328 ∧ Hid (t2.data.toList = Pl.split2 s.data.toList))
  case first =>
    by_cases h0 : 0 ≤ n2
    · have HC : Hid ((t.extract 0 n2.toNat).data.toList = Pl.split2 s.data.toList) := by
        show _ = _
        rw [(cut_yes HN2.out h0).1, HT.out]; rfl
      go_wp2
      go_meet
      case rel => exact ⟨rfl, _, rfl, by rw [Pl.ex_start_size _ _ (by omega)]; omega, HC.out⟩
    · have HC : Hid (t.data.toList = Pl.split2 s.data.toList) := by
        show _ = _
        rw [← (cut_no HN2.out h0).1, HT.out]; rfl
      go_wp2
      go_meet
      case rel => exact ⟨rfl, _, rfl, hts, HC.out⟩
  case rest =>
  obtain ⟨rfl, t2, rfl, ht2, HT2⟩ := hcut
  obtain ⟨n3, HN3, n3a, n3b⟩ := index_bd t2 58
  by_cases h0 : 0 < n3
  · obtain ⟨bb, hbb⟩ : ∃ b, Hid (Pl.hasB (t2.extract 0 n3.toNat).data.toList 47 = b) := ⟨_, rfl⟩
    have HS : Hid ((!bb) = Pl.schemeB (Pl.split2 s.data.toList)) := by
      have := scheme_of HN3.out h0 hbb.out
      rw [HT2.out] at this
      exact this
    have HB : Hid ((t2.extract 0 n3.toNat).data.toList = Pl.bef (Pl.split2 s.data.toList) 58) := by
      have := (cut_yes HN3.out (by omega)).1
      rw [HT2.out] at this
      exact this
    have hes : (t2.extract 0 n3.toNat).size ≤ 140737488355328 := by rw [Pl.ex_start_size _ _ (by omega)]; omega
    cases bb with
    | true =>
      go_wp2_with (first | (go_at_call 22; refine (cb1IndexByte _ 58 _ n3 ht2 (by decide) (by decide) HN3.out).mono ?_; rintro e w' ⟨rfl, rfl⟩) | (go_at_call 27; refine (cHasByteB _ 47 _ true hes (by decide) (by decide) hbb.out).mono ?_; rintro e w' ⟨rfl, rfl⟩))
      go_ret2
      exact ⟨_, _, rfl, HS.out, (fun h => by cases h), rfl⟩
    | false =>
      go_wp2_with (first | (go_at_call 22; refine (cb1IndexByte _ 58 _ n3 ht2 (by decide) (by decide) HN3.out).mono ?_; rintro e w' ⟨rfl, rfl⟩) | (go_at_call 27; refine (cHasByteB _ 47 _ false hes (by decide) (by decide) hbb.out).mono ?_; rintro e w' ⟨rfl, rfl⟩))
      go_ret2
      exact ⟨_, _, rfl, HS.out, fun _ => HB.out, rfl⟩
  · have HS : Hid (false = Pl.schemeB (Pl.split2 s.data.toList)) := by
      have := scheme_no HN3.out h0
      rw [HT2.out] at this
      exact this
    go_wp2_with (go_at_call 22; refine (cb1IndexByte _ 58 _ n3 ht2 (by decide) (by decide) HN3.out).mono ?_; rintro e w' ⟨rfl, rfl⟩)
    go_ret2
    exact ⟨_, _, rfl, HS.out, (fun h => by cases h), rfl⟩

end Go.Proofs.Qxb6605311a
