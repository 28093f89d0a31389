/-
  The walks: zzBytes (4), zzBoundName (9), zzFreshName (10).
-/
import Derived.Test.Qxb6608712aFmtWalkB
namespace Go.Proofs.Qxb6608712aFmt
open Go.RowKit
set_option linter.unusedVariables false

theorem ret_two {a b : ByteArray} {c d : Bool} {x : ByteArray × Bool} (h : x = (a, c)) : Ending.returned (.tuple #[.string a, .bool c]) = .returned (.tuple #[.string x.1, .bool x.2]) := by rw [h]

theorem bytes_any (p ns l : ByteArray) (w : World) (h1 : p.size ≤ maxLen) (h2 : ns.size ≤ maxLen) (h3 : l.size ≤ maxLen) :
    Calls Tryf.prog 4 #[.string p, .string ns, .string l] w fun e w' => (∃ b, e = .returned (.bool b)) ∧ w = w' := by
  unfold maxLen at h1 h2 h3
  go_enter Tryf.func4, Tryf.ntmps4
  go_wp2
  all_goals (go_ret; exact ⟨⟨_, rfl⟩, rfl⟩)

theorem boundName_any (p ns l : ByteArray) (el : Bool) (w : World) (hl : l.size ≤ maxLen) :
    Calls Tryf.prog 9 #[.string p, .string ns, .string l, .bool el] w fun e w' => e = .returned (.tuple #[.string (Pl.bound p ns l el).1, .bool (Pl.bound p ns l el).2]) ∧ w = w' := by
  refine Pl.ways p l _ (fun hc => ?_) (fun hc hp => ?_) (fun hc hp => ?_) (fun hc hp => ?_) (fun hc p1 p2 p3 => ?_)
  · have hb := Pl.hasB_true.2 hc
    have HB : Hid (Pl.hasB l.data.toList 58 = true) := hb
    rw [Pl.bound_colon hc]
    clear hc hb
    go_enter Tryf.func9, Tryf.ntmps9
    go_wp2_with (go_at_call 16; refine (cHasColon _ _ _ hl HB.out).mono ?_; rintro e w' ⟨rfl, rfl⟩)
    go_ret2
    exact ⟨rfl, rfl⟩
  · have HB : Hid (Pl.hasB l.data.toList 58 = false) := Pl.hasB_false.2 hc
    subst hp
    rw [Pl.bound_none hc]
    clear hc
    cases el <;>
    · go_enter Tryf.func9, Tryf.ntmps9
      go_wp2_with (go_at_call 16; refine (cHasColon _ _ _ hl HB.out).mono ?_; rintro e w' ⟨rfl, rfl⟩)
      go_ret2
      exact ⟨rfl, rfl⟩
  · have HB : Hid (Pl.hasB l.data.toList 58 = false) := Pl.hasB_false.2 hc
    subst hp
    rw [Pl.bound_xml hc]
    unfold Pl.xml
    clear hc
    go_enter Tryf.func9, Tryf.ntmps9
    go_wp2_with (go_at_call 16; refine (cHasColon _ _ _ hl HB.out).mono ?_; rintro e w' ⟨rfl, rfl⟩)
    go_ret2
    exact ⟨rfl, rfl⟩
  · have HB : Hid (Pl.hasB l.data.toList 58 = false) := Pl.hasB_false.2 hc
    subst hp
    rw [Pl.bound_xmlns hc]
    unfold Pl.xmlns
    clear hc
    cases el <;>
    · go_enter Tryf.func9, Tryf.ntmps9
      go_wp2_with (go_at_call 16; refine (cHasColon _ _ _ hl HB.out).mono ?_; rintro e w' ⟨rfl, rfl⟩)
      go_ret2
      exact ⟨rfl, rfl⟩
  · have HB : Hid (Pl.hasB l.data.toList 58 = false) := Pl.hasB_false.2 hc
    rw [Pl.bound_other hc p1 p2 p3]
    have q1 := Pl.ne_empty p1
    have q2 := Pl.ne_xml p2
    have q3 := Pl.ne_xmlns p3
    clear hc p1 p2 p3
    by_cases hn : ns = ⟨#[]⟩
    · rw [if_pos hn]
      subst hn
      go_enter Tryf.func9, Tryf.ntmps9
      go_wp2_with (go_at_call 16; refine (cHasColon _ _ _ hl HB.out).mono ?_; rintro e w' ⟨rfl, rfl⟩)
      go_ret2
      exact ⟨rfl, rfl⟩
    · rw [if_neg hn]
      have q4 := Pl.ne_empty hn
      clear hn
      go_enter Tryf.func9, Tryf.ntmps9
      go_wp2_with (go_at_call 16; refine (cHasColon _ _ _ hl HB.out).mono ?_; rintro e w' ⟨rfl, rfl⟩)
      go_ret2
      exact ⟨rfl, rfl⟩

theorem freshName_any (p l : ByteArray) (el : Bool) (w : World) (hl : l.size ≤ maxLen) :
    Calls Tryf.prog 10 #[.string p, .string l, .bool el] w fun e w' => e = .returned (.tuple #[.string (Pl.bound p ⟨#[]⟩ l el).1, .bool (Pl.bound p ⟨#[]⟩ l el).2]) ∧ w = w' := by
  refine Pl.ways p l _ (fun hc => ?_) (fun hc hp => ?_) (fun hc hp => ?_) (fun hc hp => ?_) (fun hc p1 p2 p3 => ?_)
  · have hb := Pl.hasB_true.2 hc
    have HB : Hid (Pl.hasB l.data.toList 58 = true) := hb
    rw [Pl.bound_colon hc]
    clear hc hb
    go_enter Tryf.func10, Tryf.ntmps10
    go_wp2_with (go_at_call 16; refine (cHasColon _ _ _ hl HB.out).mono ?_; rintro e w' ⟨rfl, rfl⟩)
    go_ret2
    exact ⟨rfl, rfl⟩
  · have HB : Hid (Pl.hasB l.data.toList 58 = false) := Pl.hasB_false.2 hc
    subst hp
    rw [Pl.bound_none hc]
    clear hc
    cases el <;>
    · go_enter Tryf.func10, Tryf.ntmps10
      go_wp2_with (go_at_call 16; refine (cHasColon _ _ _ hl HB.out).mono ?_; rintro e w' ⟨rfl, rfl⟩)
      go_ret2
      exact ⟨rfl, rfl⟩
  · have HB : Hid (Pl.hasB l.data.toList 58 = false) := Pl.hasB_false.2 hc
    subst hp
    rw [Pl.bound_xml hc]
    unfold Pl.xml
    clear hc
    go_enter Tryf.func10, Tryf.ntmps10
    go_wp2_with (go_at_call 16; refine (cHasColon _ _ _ hl HB.out).mono ?_; rintro e w' ⟨rfl, rfl⟩)
    go_ret2
    exact ⟨rfl, rfl⟩
  · have HB : Hid (Pl.hasB l.data.toList 58 = false) := Pl.hasB_false.2 hc
    subst hp
    rw [Pl.bound_xmlns hc]
    unfold Pl.xmlns
    clear hc
    cases el <;>
    · go_enter Tryf.func10, Tryf.ntmps10
      go_wp2_with (go_at_call 16; refine (cHasColon _ _ _ hl HB.out).mono ?_; rintro e w' ⟨rfl, rfl⟩)
      go_ret2
      exact ⟨rfl, rfl⟩
  · have HB : Hid (Pl.hasB l.data.toList 58 = false) := Pl.hasB_false.2 hc
    rw [Pl.bound_other hc p1 p2 p3]
    have q1 := Pl.ne_empty p1
    have q2 := Pl.ne_xml p2
    have q3 := Pl.ne_xmlns p3
    clear hc p1 p2 p3
    rw [if_pos rfl]
    go_enter Tryf.func10, Tryf.ntmps10
    go_wp2_with (go_at_call 16; refine (cHasColon _ _ _ hl HB.out).mono ?_; rintro e w' ⟨rfl, rfl⟩)
    go_ret2
    exact ⟨rfl, rfl⟩

end Go.Proofs.Qxb6608712aFmt
