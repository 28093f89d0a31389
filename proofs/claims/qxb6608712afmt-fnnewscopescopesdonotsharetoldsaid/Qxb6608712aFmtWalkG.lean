/-
  The walks: resolve (15), the ways that refuse, and the way by the map.
-/
import Derived.Test.Qxb6608712aFmtWalkF
namespace Go.Proofs.Qxb6608712aFmt
open Go.RowKit Go.Extern.Stop Go.Stop Go.Extern
set_option linter.unusedVariables false

theorem res_colon (a : Nat) (p l : ByteArray) (el : Bool) (w : World) (HB : Hid (Pl.hasB l.data.toList 58 = true)) :
    Calls Tryf.prog 15 #[.pointer (some ⟨a, 0, none⟩), .agg #[.string p, .string l], .bool el] w fun e w' => (∃ x, e = .returned (.tuple #[.agg #[.string p, .string l], .iface 53 (.pointer (some ⟨x, 0, none⟩))])) ∧ Below w.heap.size w w' := by
  go_enter Tryf.func15, Tryf.ntmps15
  go_wp2_with (go_at_call 17; refine (cContainsB _ _ _ HB.out).mono ?_; rintro e w' ⟨rfl, rfl⟩)
  go_region_with (go_at_call 18; refine (new_any _ _).mono ?_; rintro e w' ⟨rfl, rfl⟩)
  all_goals go_wp2
  all_goals (refine bodyPost_ret (by simp [results, Tryf.results15, go_sem]; rfl) rfl ?_)
  all_goals exact ⟨⟨_, rfl⟩, ((((Below.refl _ w).alloc (Nat.le_refl _) _).alloc (by simp) _).alloc (by simp; omega) _).drew⟩

theorem res_xmlnsEl (a : Nat) (l : ByteArray) (w : World) (HB : Hid (Pl.hasB l.data.toList 58 = false)) :
    Calls Tryf.prog 15 #[.pointer (some ⟨a, 0, none⟩), .agg #[.string ⟨#[120, 109, 108, 110, 115]⟩, .string l], .bool true] w fun e w' => (∃ x, e = .returned (.tuple #[.agg #[.string ⟨#[120, 109, 108, 110, 115]⟩, .string l], .iface 53 (.pointer (some ⟨x, 0, none⟩))])) ∧ Below w.heap.size w w' := by
  go_enter Tryf.func15, Tryf.ntmps15
  go_wp2_with (go_at_call 17; refine (cContainsB _ _ _ HB.out).mono ?_; rintro e w' ⟨rfl, rfl⟩)
  go_region_with (go_at_call 18; refine (new_any _ _).mono ?_; rintro e w' ⟨rfl, rfl⟩)
  all_goals go_wp2
  all_goals (refine bodyPost_ret (by simp [results, Tryf.results15, go_sem]; rfl) rfl ?_)
  all_goals exact ⟨⟨_, rfl⟩, ((((Below.refl _ w).alloc (Nat.le_refl _) _).alloc (by simp) _).alloc (by simp; omega) _).drew⟩

theorem res_map (a m : Nat) (p g l : ByteArray) (el : Bool) (w : World) (HB : Hid (Pl.hasB l.data.toList 58 = false)) (c1 : w.cell? ⟨a, 1, none⟩ = some (.map (some m))) (la : a < w.heap.size) (HG : Hid (Tryf.Gives w m p g))
    (q1 : p.toList.isEmpty = false) (q2 : (p.toList == [120, 109, 108]) = false) (q3 : (p.toList == [120, 109, 108, 110, 115]) = false) (q4 : g.toList.isEmpty = false) :
    Calls Tryf.prog 15 #[.pointer (some ⟨a, 0, none⟩), .agg #[.string p, .string l], .bool el] w fun e w' => e = .returned (.tuple #[.agg #[.string g, .string l], .nilIface]) ∧ Below w.heap.size w w' := by
  have hlk := look_laid HG.out p l
  have hlk2 := look_laid_drew HG.out p l
  unfold laid at hlk hlk2
  go_enter Tryf.func15, Tryf.ntmps15
  go_wp2_with (go_at_call 17; refine (cContainsB _ _ _ HB.out).mono ?_; rintro e w' ⟨rfl, rfl⟩)
  go_region
  go_wp2_with fail
  refine bodyPost_ret (by simp [results, Tryf.results15, go_sem]; rfl) rfl ?_
  exact ⟨rfl, (((Below.refl _ w).alloc (Nat.le_refl _) _).alloc (by simp) _).drew⟩

end Go.Proofs.Qxb6608712aFmt
