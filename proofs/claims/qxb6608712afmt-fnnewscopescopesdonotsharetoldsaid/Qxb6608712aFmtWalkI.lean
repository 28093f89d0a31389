/-
  The walks: resolve (15) in one contract, ZZresolve (8).
-/
import Derived.Test.Qxb6608712aFmtWalkH
import Derived.WalkSmall
namespace Go.Proofs.Qxb6608712aFmt
open Go.RowKit Go.Extern.Stop Go.Stop Go.Extern
set_option linter.unusedVariables false

/-- How a reading ends: refused, with an error; or the Space. -/
def Reads (r : ByteArray × Bool) (sp : ByteArray) (er : Value) : Prop := ∃ x, er = errOf r.2 x ∧ (r.2 = false → sp = r.1)

theorem reads_no {r : ByteArray × Bool} {sp : ByteArray} {x : Nat} (h : r.2 = true) : Reads r sp (.iface 53 (.pointer (some ⟨x, 0, none⟩))) := ⟨x, by rw [h]; rfl, fun e => by rw [h] at e; cases e⟩
theorem reads_yes {r : ByteArray × Bool} {sp : ByteArray} (h : r = (sp, false)) : Reads r sp .nilIface := ⟨0, by rw [h]; rfl, fun _ => by rw [h]⟩

theorem resolve_any (a m : Nat) (p g l : ByteArray) (el : Bool) (w : World) (c1 : w.cell? ⟨a, 1, none⟩ = some (.map (some m))) (la : a < w.heap.size) (hG : Tryf.Gives w m p g) :
    Calls Tryf.prog 15 #[.pointer (some ⟨a, 0, none⟩), .agg #[.string p, .string l], .bool el] w fun e w' => ∃ sp er, e = .returned (.tuple #[.agg #[.string sp, .string l], er]) ∧ Reads (Pl.bound p g l el) sp er ∧ Below w.heap.size w w' := by
  refine Pl.ways p l _ (fun hc => ?_) (fun hc hp => ?_) (fun hc hp => ?_) (fun hc hp => ?_) (fun hc p1 p2 p3 => ?_)
  · refine (res_colon a p l el w (Pl.hasB_true.2 hc)).mono ?_
    rintro e w' ⟨⟨x, rfl⟩, hB⟩
    exact ⟨_, _, rfl, reads_no (by rw [Pl.bound_colon hc]), hB⟩
  · subst hp
    cases el with
    | true =>
      refine (res_default a m g l w (Pl.hasB_false.2 hc) c1 la hG).mono ?_
      rintro e w' ⟨rfl, hB⟩
      exact ⟨_, _, rfl, reads_yes (Pl.bound_none hc), hB⟩
    | false =>
      refine (res_empty a l w (Pl.hasB_false.2 hc)).mono ?_
      rintro e w' ⟨rfl, hB⟩
      exact ⟨_, _, rfl, reads_yes (Pl.bound_none hc), hB⟩
  · subst hp
    refine (res_xml a l el w (Pl.hasB_false.2 hc)).mono ?_
    rintro e w' ⟨rfl, hB⟩
    exact ⟨_, _, rfl, reads_yes (Pl.bound_xml hc), hB⟩
  · subst hp
    cases el with
    | true =>
      refine (res_xmlnsEl a l w (Pl.hasB_false.2 hc)).mono ?_
      rintro e w' ⟨⟨x, rfl⟩, hB⟩
      exact ⟨_, _, rfl, reads_no (by rw [Pl.bound_xmlns hc]), hB⟩
    | false =>
      refine (res_xmlns a l w (Pl.hasB_false.2 hc)).mono ?_
      rintro e w' ⟨rfl, hB⟩
      exact ⟨_, _, rfl, reads_yes (Pl.bound_xmlns hc), hB⟩
  · by_cases hg : g = ⟨#[]⟩
    · subst hg
      refine (res_unbound a m p l el w (Pl.hasB_false.2 hc) c1 la hG (Pl.ne_empty p1) (Pl.ne_xml p2) (Pl.ne_xmlns p3)).mono ?_
      rintro e w' ⟨⟨x, rfl⟩, hB⟩
      exact ⟨_, _, rfl, reads_no (by rw [Pl.bound_other hc p1 p2 p3, if_pos rfl]), hB⟩
    · refine (res_map a m p g l el w (Pl.hasB_false.2 hc) c1 la hG (Pl.ne_empty p1) (Pl.ne_xml p2) (Pl.ne_xmlns p3) (Pl.ne_empty hg)).mono ?_
      rintro e w' ⟨rfl, hB⟩
      exact ⟨_, _, rfl, reads_yes (by rw [Pl.bound_other hc p1 p2 p3, if_neg hg]), hB⟩

theorem zzResolve_any (a m : Nat) (p g l : ByteArray) (el : Bool) (w : World) (c1 : w.cell? ⟨a, 1, none⟩ = some (.map (some m))) (la : a < w.heap.size) (hG : Tryf.Gives w m p g) :
    Calls Tryf.prog 8 #[.pointer (some ⟨a, 0, none⟩), .string p, .string l, .bool el] w fun e w' => ∃ sp er, e = .returned (.tuple #[.string sp, .string l, er]) ∧ Reads (Pl.bound p g l el) sp er ∧ Below w.heap.size w w' := by
  have H : Hid (Calls Tryf.prog 15 #[.pointer (some ⟨a, 0, none⟩), .agg #[.string p, .string l], .bool el] w fun e w' => ∃ sp er, e = .returned (.tuple #[.agg #[.string sp, .string l], er]) ∧ Reads (Pl.bound p g l el) sp er ∧ Below w.heap.size w w') := resolve_any a m p g l el w c1 la hG
  clear c1 la hG
  go_enter Tryf.func8, Tryf.ntmps8
  go_wp2_with (go_at_call 15; refine H.out.mono ?_; rintro e w' ⟨sp, er, rfl, hR, hB⟩)
  go_quiet (fail)
  go_wp2_with fail
  go_ret3
  exact ⟨_, _, rfl, hR, below_drewN (hB.alloc hB.size _) _⟩

end Go.Proofs.Qxb6608712aFmt
