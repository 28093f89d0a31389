/-
  The walks: newScope (12, 5), depth (14, 7), zzAgrees (11), zzBytes (4), errors.New (18).
-/
import Derived.Test.Qxb6608712aFmtWalkA
namespace Go.Proofs.Qxb6608712aFmt
open Go.RowKit
set_option linter.unusedVariables false

/-- The world behind newScope. -/
def made (w : World) : World := (w.alloc (.map #[] 0)).alloc (.cells #[.slice none 0 0, .map (some w.heap.size), .slice none 0 0] 46)

theorem newScope_any (w : World) :
    Calls Tryf.prog 12 #[] w fun e w' => e = .returned (.pointer (some ⟨w.heap.size + 1, 0, none⟩)) ∧ made w = w' := by
  have hmm := @run_makeMap Tryf.prog
  go_enter Tryf.func12, Tryf.ntmps12
  go_wp2
  go_ret
  exact ⟨rfl, rfl⟩

theorem zzNewScope_any (w : World) :
    Calls Tryf.prog 5 #[] w fun e w' => e = .returned (.pointer (some ⟨w.heap.size + 1, 0, none⟩)) ∧ made w = w' := by
  go_enter Tryf.func5, Tryf.ntmps5
  go_wp2_with (go_at_call 12; refine (newScope_any _).mono ?_; rintro e w' ⟨rfl, rfl⟩)
  go_ret
  exact ⟨rfl, rfl⟩

theorem depth_any (a : Nat) (w : World) (c0 : w.cell? ⟨a, 0, none⟩ = some (.slice none 0 0)) :
    Calls Tryf.prog 14 #[.pointer (some ⟨a, 0, none⟩)] w fun e w' => e = .returned (.int .i64 0) ∧ w = w' := by
  go_enter Tryf.func14, Tryf.ntmps14
  go_wp2
  go_ret
  exact ⟨rfl, rfl⟩

theorem zzDepth_any (a : Nat) (w : World) (c0 : w.cell? ⟨a, 0, none⟩ = some (.slice none 0 0)) :
    Calls Tryf.prog 7 #[.pointer (some ⟨a, 0, none⟩)] w fun e w' => e = .returned (.int .i64 0) ∧ w = w' := by
  go_enter Tryf.func7, Tryf.ntmps7
  go_wp2_with (go_at_call 14; refine (depth_any _ _ c0).mono ?_; rintro e w' ⟨rfl, rfl⟩)
  go_ret
  exact ⟨rfl, rfl⟩

/-- zzAgrees where both refuse. -/
theorem agrees_refused (a b c d : ByteArray) (w : World) :
    Calls Tryf.prog 11 #[.string a, .string b, .bool true, .string c, .string d, .bool true] w fun e w' => e = .returned (.bool true) ∧ w = w' := by
  go_enter Tryf.func11, Tryf.ntmps11
  go_wp2
  go_ret
  exact ⟨rfl, rfl⟩

theorem agrees_same (a b : ByteArray) (w : World) :
    Calls Tryf.prog 11 #[.string a, .string b, .bool false, .string a, .string b, .bool false] w fun e w' => e = .returned (.bool true) ∧ w = w' := by
  go_enter Tryf.func11, Tryf.ntmps11
  go_wp2
  go_ret
  exact ⟨rfl, rfl⟩

theorem new_any (s : ByteArray) (w : World) :
    Calls Tryf.prog 18 #[.string s] w fun e w' => e = .returned (.iface 53 (.pointer (some ⟨w.heap.size, 0, none⟩))) ∧ w.alloc (.cells #[.string s] 55) = w' := by
  go_enter Tryf.func18, Tryf.ntmps18
  go_wp2
  go_ret
  exact ⟨rfl, rfl⟩

end Go.Proofs.Qxb6608712aFmt
