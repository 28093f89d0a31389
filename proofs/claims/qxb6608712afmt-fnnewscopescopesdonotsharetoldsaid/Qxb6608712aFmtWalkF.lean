/-
  The walks: resolve (15), way by way.
-/
import Derived.Test.Qxb6608712aFmtWalkE
import Derived.Deep.DeepCutAuto
import Derived.BigQuiet
import Derived.BigRegion
namespace Go.Proofs.Qxb6608712aFmt
open Go.RowKit Go.Extern.Stop Go.Stop Go.Extern
set_option linter.unusedVariables false

/-- The error that is handed back. -/
def errOf (r : Bool) (x : Nat) : Value := if r then .iface 53 (.pointer (some ⟨x, 0, none⟩)) else .nilIface

/-- The world once resolve has laid its two variables. -/
def laid (w : World) (p l : ByteArray) : World := (w.alloc (.cells #[.string p, .string l] 38)).alloc (.cells #[.string ⟨#[]⟩, .string ⟨#[]⟩] 38)
theorem below_laid (w : World) (p l : ByteArray) : Below w.heap.size w (laid w p l) := ((Below.refl _ w).alloc (Nat.le_refl _) _).alloc (by simp) _

/-- A look-up behind the two variables. -/
theorem look_laid {w : World} {m : Nat} {p g : ByteArray} (h : Tryf.Gives w m p g) (q l : ByteArray) : (Instr.lookup 42 (.map (some m)) (.string p) false).run Tryf.prog (laid w q l) = .ok (.string g) (laid w q l) :=
  (h.kept ((below_laid w q l).block m h.lt)).run
theorem look_laid_drew {w : World} {m : Nat} {p g : ByteArray} (h : Tryf.Gives w m p g) (q l : ByteArray) : (Instr.lookup 42 (.map (some m)) (.string p) false).run Tryf.prog (laid w q l).drew = .ok (.string g) (laid w q l).drew :=
  (h.kept (w' := (laid w q l).drew) ((below_laid w q l).block m h.lt)).run

theorem res_empty (a : Nat) (l : ByteArray) (w : World) (HB : Hid (Pl.hasB l.data.toList 58 = false)) :
    Calls Tryf.prog 15 #[.pointer (some ⟨a, 0, none⟩), .agg #[.string ⟨#[]⟩, .string l], .bool false] w fun e w' => e = .returned (.tuple #[.agg #[.string ⟨#[]⟩, .string l], .nilIface]) ∧ Below w.heap.size w w' := by
  go_enter Tryf.func15, Tryf.ntmps15
  go_wp2_with (go_at_call 17; refine (cContainsB _ _ _ HB.out).mono ?_; rintro e w' ⟨rfl, rfl⟩)
  refine bodyPost_ret (by simp [results, Tryf.results15, go_sem]; rfl) rfl ?_
  exact ⟨rfl, ((Below.refl _ w).alloc (Nat.le_refl _) _).alloc (by simp) _⟩

theorem res_default (a m : Nat) (g l : ByteArray) (w : World) (HB : Hid (Pl.hasB l.data.toList 58 = false)) (c1 : w.cell? ⟨a, 1, none⟩ = some (.map (some m))) (la : a < w.heap.size) (HG : Hid (Tryf.Gives w m ⟨#[]⟩ g)) :
    Calls Tryf.prog 15 #[.pointer (some ⟨a, 0, none⟩), .agg #[.string ⟨#[]⟩, .string l], .bool true] w fun e w' => e = .returned (.tuple #[.agg #[.string g, .string l], .nilIface]) ∧ Below w.heap.size w w' := by
  have hlk := look_laid HG.out ⟨#[]⟩ l
  unfold laid at hlk
  go_enter Tryf.func15, Tryf.ntmps15
  go_wp2_with (go_at_call 17; refine (cContainsB _ _ _ HB.out).mono ?_; rintro e w' ⟨rfl, rfl⟩)
  refine bodyPost_ret (by simp [results, Tryf.results15, go_sem]; rfl) rfl ?_
  exact ⟨rfl, ((Below.refl _ w).alloc (Nat.le_refl _) _).alloc (by simp) _⟩

theorem res_xml (a : Nat) (l : ByteArray) (el : Bool) (w : World) (HB : Hid (Pl.hasB l.data.toList 58 = false)) :
    Calls Tryf.prog 15 #[.pointer (some ⟨a, 0, none⟩), .agg #[.string ⟨#[120, 109, 108]⟩, .string l], .bool el] w fun e w' => e = .returned (.tuple #[.agg #[.string Pl.xmlNs, .string l], .nilIface]) ∧ Below w.heap.size w w' := by
  go_enter Tryf.func15, Tryf.ntmps15
  go_wp2_with (go_at_call 17; refine (cContainsB _ _ _ HB.out).mono ?_; rintro e w' ⟨rfl, rfl⟩)
  refine bodyPost_ret (by simp [results, Tryf.results15, go_sem]; rfl) rfl ?_
  exact ⟨rfl, ((Below.refl _ w).alloc (Nat.le_refl _) _).alloc (by simp) _⟩

theorem res_xmlns (a : Nat) (l : ByteArray) (w : World) (HB : Hid (Pl.hasB l.data.toList 58 = false)) :
    Calls Tryf.prog 15 #[.pointer (some ⟨a, 0, none⟩), .agg #[.string ⟨#[120, 109, 108, 110, 115]⟩, .string l], .bool false] w fun e w' => e = .returned (.tuple #[.agg #[.string Pl.xmlns, .string l], .nilIface]) ∧ Below w.heap.size w w' := by
  go_enter Tryf.func15, Tryf.ntmps15
  go_wp2_with (go_at_call 17; refine (cContainsB _ _ _ HB.out).mono ?_; rintro e w' ⟨rfl, rfl⟩)
  refine bodyPost_ret (by simp [results, Tryf.results15, go_sem]; rfl) rfl ?_
  exact ⟨rfl, ((Below.refl _ w).alloc (Nat.le_refl _) _).alloc (by simp) _⟩

end Go.Proofs.Qxb6608712aFmt
