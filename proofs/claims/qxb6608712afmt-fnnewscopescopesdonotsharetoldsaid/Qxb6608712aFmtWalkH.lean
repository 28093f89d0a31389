/-
  The walks: resolve (15), the way that refuses a prefix that nothing binds.
-/
import Derived.Test.Qxb6608712aFmtWalkG
namespace Go.Proofs.Qxb6608712aFmt
open Go.RowKit Go.Extern.Stop Go.Stop Go.Extern
set_option linter.unusedVariables false

theorem fmt_lit (w : World) : (FmtDoors.printed ⟨#[104, 97, 115, 32, 116, 104, 101, 32, 112, 114, 101, 102, 105, 120, 32, 37, 115, 44, 32, 119, 104, 105, 99, 104, 32, 110, 111, 32, 120, 109, 108, 110, 115, 58, 37, 115, 32, 105, 110, 32, 115, 99, 111, 112, 101, 32, 98, 105, 110, 100, 115, 32, 116, 111, 32, 97, 32, 110, 97, 109, 101, 115, 112, 97, 99, 101]⟩ 2).run Tryf.prog w = .ok [(0, 115, false), (1, 115, false)] w := by kernel_rfl

theorem errorf_here (p l : ByteArray) (w : World) :
    Calls Tryf.prog 19 #[.string ⟨#[104, 97, 115, 32, 116, 104, 101, 32, 112, 114, 101, 102, 105, 120, 32, 37, 115, 44, 32, 119, 104, 105, 99, 104, 32, 110, 111, 32, 120, 109, 108, 110, 115, 58, 37, 115, 32, 105, 110, 32, 115, 99, 111, 112, 101, 32, 98, 105, 110, 100, 115, 32, 116, 111, 32, 97, 32, 110, 97, 109, 101, 115, 112, 97, 99, 101]⟩, .slice (some ⟨w.heap.size + 1 + 1, 0, none⟩) 2 2] (((w.alloc (.cells #[.string p, .string l] 38)).alloc (.cells #[.string ⟨#[]⟩, .string ⟨#[]⟩] 38)).alloc (.cells #[.iface 9 (.string p), .iface 9 (.string p)] 20)).drew.drew
      fun e w' => e = .returned (.iface 53 (.pointer (some ⟨w.heap.size + 1 + 1 + 1, 0, none⟩))) ∧ ∃ s, ((((w.alloc (.cells #[.string p, .string l] 38)).alloc (.cells #[.string ⟨#[]⟩, .string ⟨#[]⟩] 38)).alloc (.cells #[.iface 9 (.string p), .iface 9 (.string p)] 20)).alloc (.cells #[s] 55)).drew.drew.drew = w' := by
  refine (errorf_any _ p p (w.heap.size + 1 + 1) _ fmt_lit ?_ ?_).mono ?_
  · simp [go_sem]
  · simp [go_sem]
  · rintro e w' ⟨rfl, s, rfl⟩
    exact ⟨by simp [go_sem], s, rfl⟩

theorem below_four (w : World) (o1 o2 o3 o4 : Obj) : Below w.heap.size w ((((w.alloc o1).alloc o2).alloc o3).alloc o4).drew.drew.drew := by
  have h1 := (Below.refl w.heap.size w).alloc (Nat.le_refl _) o1
  have h2 := h1.alloc (by have := h1.size; omega) o2
  have h3 := h2.alloc (by have := h2.size; omega) o3
  have h4 := h3.alloc (by have := h3.size; omega) o4
  exact h4.drew.drew.drew

set_option maxHeartbeats 2000000 in
theorem res_unbound (a m : Nat) (p l : ByteArray) (el : Bool) (w : World) (HB : Hid (Pl.hasB l.data.toList 58 = false)) (c1 : w.cell? ⟨a, 1, none⟩ = some (.map (some m))) (la : a < w.heap.size) (HG : Hid (Tryf.Gives w m p ⟨#[]⟩))
    (q1 : p.toList.isEmpty = false) (q2 : (p.toList == [120, 109, 108]) = false) (q3 : (p.toList == [120, 109, 108, 110, 115]) = false) :
    Calls Tryf.prog 15 #[.pointer (some ⟨a, 0, none⟩), .agg #[.string p, .string l], .bool el] w fun e w' => (∃ x, e = .returned (.tuple #[.agg #[.string p, .string l], .iface 53 (.pointer (some ⟨x, 0, none⟩))])) ∧ Below w.heap.size w w' := by
  have hlk := look_laid HG.out p l
  have hlk2 := look_laid_drew HG.out p l
  unfold laid at hlk hlk2
  go_enter Tryf.func15, Tryf.ntmps15
  go_wp2_with (go_at_call 17; refine (cContainsB _ _ _ HB.out).mono ?_; rintro e w' ⟨rfl, rfl⟩)
  go_region
  go_wp2_with fail
  clear hlk hlk2
  have HC : Hid (∀ p l w, _) := errorf_here
  go_region_with (go_at_call 19; refine (HC.out p l w).mono ?_; rintro e w' ⟨rfl, s, rfl⟩)
  all_goals go_wp2
  all_goals (refine bodyPost_ret (by simp [results, Tryf.results15, go_sem]; rfl) rfl ?_)
  all_goals exact ⟨⟨_, rfl⟩, below_four _ _ _ _ _⟩

end Go.Proofs.Qxb6608712aFmt
