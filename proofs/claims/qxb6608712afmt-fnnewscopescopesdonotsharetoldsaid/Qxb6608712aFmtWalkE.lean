/-
  The walks: fmt.Errorf at the program's one format (19).
-/
import Derived.Test.Qxb6608712aFmtWalkD
namespace Go.Proofs.Qxb6608712aFmt
open Go.RowKit Go.Extern.Stop Go.Stop Go.Extern
set_option linter.unusedVariables false

theorem errorf_any (fm p q : ByteArray) (b : Nat) (w : World) (hfm : ∀ w, (FmtDoors.printed fm 2).run Tryf.prog w = .ok [(0, 115, false), (1, 115, false)] w)
    (c0 : w.cell? ⟨b, 0, none⟩ = some (.iface 9 (.string p))) (c1 : w.cell? ⟨b, 1, none⟩ = some (.iface 9 (.string q))) :
    Calls Tryf.prog 19 #[.string fm, .slice (some ⟨b, 0, none⟩) 2 2] w fun e w' => e = .returned (.iface 53 (.pointer (some ⟨w.heap.size, 0, none⟩))) ∧ ∃ s, (w.alloc (.cells #[s] 55)).drew = w' := by
  go_enter Tryf.func19, Tryf.ntmps19
  go_wp2
  go_ret
  exact ⟨rfl, _, rfl⟩

end Go.Proofs.Qxb6608712aFmt
