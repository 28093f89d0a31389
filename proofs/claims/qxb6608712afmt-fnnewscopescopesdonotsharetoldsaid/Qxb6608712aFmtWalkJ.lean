/-
  The walk of the law (3).
-/
import Derived.Test.Qxb6608712aFmtWalkI
namespace Go.Proofs.Qxb6608712aFmt
open Go.RowKit Go.Extern.Stop Go.Stop Go.Extern
set_option linter.unusedVariables false

@[go_sem] theorem guard_err (r : Bool) (x : Nat) (i : Tmp) (w : World) : (eqGuard .neq 28 (.tmp i) (.const .nilIface) (errOf r x) .nilIface).run Tryf.prog w = .ok () w := by
  cases r <;> simp [errOf, go_sem]
@[go_sem] theorem neq_err (r : Bool) (x : Nat) (w : World) : (binOp .neq 28 (errOf r x) .nilIface).run Tryf.prog w = .ok (.bool r) w := by
  cases r <;> simp [errOf, go_sem]

theorem size_made (w : World) : (made w).heap.size = w.heap.size + 2 := by simp [made, go_sem]
theorem below_made (w : World) : Below w.heap.size w (made w) := ((Below.refl _ w).alloc (Nat.le_refl _) _).alloc (by simp) _
theorem made_map (w : World) : (made w).heap[w.heap.size]? = some (.map #[] 0) := by
  have e : (made w).heap = (w.heap.push (.map #[] 0)).push (.cells #[.slice none 0 0, .map (some w.heap.size), .slice none 0 0] 46 (0, 0)) := rfl
  rw [e]
  simp [Array.getElem?_push]
theorem made_scope (w : World) : (made w).heap[w.heap.size + 1]? = some (.cells #[.slice none 0 0, .map (some w.heap.size), .slice none 0 0] 46 (0, 0)) := by
  have h := Array.getElem?_push_size (xs := w.heap.push (.map #[] 0)) (x := Obj.cells #[.slice none 0 0, .map (some w.heap.size), .slice none 0 0] 46 (0, 0))
  rw [Array.size_push] at h
  exact h

/-- The two scopes behind bind: each leads to its own map. -/
structure Apart (w w' : World) (p ns : ByteArray) : Prop where
  below : Below w.heap.size w w'
  size : w.heap.size + 4 ≤ w'.heap.size
  g1 : Tryf.Gives w' w.heap.size p ns
  g2 : Tryf.Gives w' (w.heap.size + 2) p ⟨#[]⟩
  a0 : w'.cell? ⟨w.heap.size + 1, 0, none⟩ = some (.slice none 0 0)
  a1 : w'.cell? ⟨w.heap.size + 1, 1, none⟩ = some (.map (some w.heap.size))
  b0 : w'.cell? ⟨w.heap.size + 3, 0, none⟩ = some (.slice none 0 0)
  b1 : w'.cell? ⟨w.heap.size + 3, 1, none⟩ = some (.map (some (w.heap.size + 2)))

theorem apart_of {w w' : World} {p ns : ByteArray} (h : Bound (made (made w)) w' (w.heap.size + 1) w.heap.size p ns) : Apart w w' p ns := by
  have z1 := size_made w
  have z2 := size_made (made w)
  have e1 : w'.heap[w.heap.size + 2]? = some (.map #[] 0) := by
    rw [h.block _ (by omega) (by omega) (by omega), ← z1, made_map]
  have e2 : w'.heap[w.heap.size + 3]? = some (.cells #[.slice none 0 0, .map (some (w.heap.size + 2)), .slice none 0 0] 46 (0, 0)) := by
    rw [h.block _ (by omega) (by omega) (by omega)]
    have := made_scope (made w)
    rw [z1] at this
    exact this
  refine ⟨⟨h.os, h.tape, h.output, ?_, ?_⟩, ?_, h.gives, .inl ⟨0, e1, rfl⟩, h.c0, h.c1, ?_, ?_⟩
  · have := h.size; omega
  · intro k hk
    rw [h.block k (by omega) (by omega) (by omega), (below_made (made w)).block k (by omega), (below_made w).block k hk]
  · have := h.size; omega
  · simp [World.cell?, e2]
  · simp [World.cell?, e2]

theorem apart_kept {w w' w2 : World} {p ns : ByteArray} (h : Apart w w' p ns) (hB : Below w'.heap.size w' w2) : Apart w w2 p ns := by
  have hs := h.size
  have z := hB.size
  refine ⟨h.below.trans (hB.mono h.below.size), by omega, h.g1.kept (hB.block _ (by omega)), h.g2.kept (hB.block _ (by omega)), ?_, ?_, ?_, ?_⟩
  · rw [World.cell?_of_block (w := w') (hB.block _ (by show w.heap.size + 1 < _; omega))]; exact h.a0
  · rw [World.cell?_of_block (w := w') (hB.block _ (by show w.heap.size + 1 < _; omega))]; exact h.a1
  · rw [World.cell?_of_block (w := w') (hB.block _ (by show w.heap.size + 3 < _; omega))]; exact h.b0
  · rw [World.cell?_of_block (w := w') (hB.block _ (by show w.heap.size + 3 < _; omega))]; exact h.b1

/-- zzAgrees at a reading as it must be. -/
theorem agrees_any (sp l : ByteArray) (r : ByteArray × Bool) (w : World) (h : r.2 = false → sp = r.1) :
    Calls Tryf.prog 11 #[.string sp, .string l, .bool r.2, .string r.1, .string l, .bool r.2] w fun e w' => e = .returned (.bool true) ∧ w = w' := by
  obtain ⟨a, b⟩ := r
  cases b with
  | true => exact agrees_refused _ _ _ _ _
  | false =>
    obtain rfl : sp = a := h rfl
    exact agrees_same _ _ _

set_option maxHeartbeats 2000000 in
set_option maxRecDepth 20000 in
theorem law_any (p ns l : ByteArray) (w : World) (h1 : p.size ≤ maxLen) (h2 : ns.size ≤ maxLen) (h3 : l.size ≤ maxLen) :
    Calls Tryf.prog 3 #[.string p, .string ns, .string l] w fun e w' => e = .returned (.bool true) ∧ Below w.heap.size w w' := by
  have K1 : Hid (p.size ≤ maxLen) := h1
  have K2 : Hid (ns.size ≤ maxLen) := h2
  have K3 : Hid (l.size ≤ maxLen) := h3
  have z1 := size_made w
  unfold maxLen at h1 h2 h3
  go_enter Tryf.func3, Tryf.ntmps3
  go_wp2_with fail
  refine (bytes_any p ns l w K1.out K2.out K3.out).mono ?_
  rintro e w' ⟨⟨b, rfl⟩, rfl⟩
  cases b with
  | false =>
    go_wp2_with fail
    go_ret
    exact ⟨rfl, Below.refl _ _⟩
  | true =>
    go_wp2_with fail
    · go_ret
      exact ⟨rfl, Below.refl _ _⟩
    · go_ret
      exact ⟨rfl, Below.refl _ _⟩
    · go_ret
      exact ⟨rfl, Below.refl _ _⟩
    refine (zzNewScope_any _).mono ?_
    rintro e w' ⟨rfl, rfl⟩
    go_wp2_with fail
    refine (zzNewScope_any _).mono ?_
    rintro e w' ⟨rfl, rfl⟩
    go_wp2_with fail
    have HM : Hid ((made (made w)).heap[w.heap.size]? = some (.map #[] 0)) := ((below_made (made w)).block _ (by omega)).trans (made_map w)
    have HS : Hid ((made (made w)).heap[w.heap.size + 1]? = some (.cells #[.slice none 0 0, .map (some w.heap.size), .slice none 0 0] 46 (0, 0))) := ((below_made (made w)).block _ (by omega)).trans (made_scope w)
    refine (zzBind_any (w.heap.size + 1) w.heap.size p ns _ HM.out HS.out).mono ?_
    rintro e w3 ⟨rfl, hB⟩
    have A3 := apart_of hB
    clear hB HM HS
    have AH : Hid (Apart w w3 p ns) := A3
    have a0 := A3.a0
    have b0 := A3.b0
    clear A3
    go_wp2_with fail
    clear z1
    refine (zzDepth_any (w.heap.size + 1) w3 a0).mono ?_
    rintro e w' ⟨rfl, rfl⟩
    go_wp2_with fail
    refine (zzDepth_any (w.heap.size + 3) w3 b0).mono ?_
    rintro e w' ⟨rfl, rfl⟩
    clear a0 b0
    go_wp2_with fail
    refine (zzResolve_any (w.heap.size + 1) w.heap.size p ns l true w3 AH.out.a1 (by have := AH.out.size; omega) AH.out.g1).mono ?_
    rintro e w4 ⟨s1, e1, rfl, R1, B1⟩
    have A4 : Hid (Apart w w4 p ns) := apart_kept AH.out B1
    clear AH B1
    obtain ⟨x1, rfl, S1⟩ := R1
    have T1 : Hid ((Pl.bound p ns l true).2 = false → s1 = (Pl.bound p ns l true).1) := S1
    clear S1
    go_wp2_with fail
    refine (zzResolve_any (w.heap.size + 1) w.heap.size p ns l false w4 A4.out.a1 (by have := A4.out.size; omega) A4.out.g1).mono ?_
    rintro e w5 ⟨s2, e2, rfl, R2, B2⟩
    have A5 : Hid (Apart w w5 p ns) := apart_kept A4.out B2
    clear A4 B2
    obtain ⟨x2, rfl, S2⟩ := R2
    have T2 : Hid ((Pl.bound p ns l false).2 = false → s2 = (Pl.bound p ns l false).1) := S2
    clear S2
    go_wp2_with fail
    refine (zzResolve_any (w.heap.size + 3) (w.heap.size + 2) p ⟨#[]⟩ l true w5 A5.out.b1 (by have := A5.out.size; omega) A5.out.g2).mono ?_
    rintro e w6 ⟨s3, e3, rfl, R3, B3⟩
    have A6 : Hid (Apart w w6 p ns) := apart_kept A5.out B3
    clear A5 B3
    obtain ⟨x3, rfl, S3⟩ := R3
    have T3 : Hid ((Pl.bound p ⟨#[]⟩ l true).2 = false → s3 = (Pl.bound p ⟨#[]⟩ l true).1) := S3
    clear S3
    go_wp2_with fail
    refine (zzResolve_any (w.heap.size + 3) (w.heap.size + 2) p ⟨#[]⟩ l false w6 A6.out.b1 (by have := A6.out.size; omega) A6.out.g2).mono ?_
    rintro e w7 ⟨s4, e4, rfl, R4, B4⟩
    have A7 : Hid (Apart w w7 p ns) := apart_kept A6.out B4
    clear A6 B4
    obtain ⟨x4, rfl, S4⟩ := R4
    have T4 : Hid ((Pl.bound p ⟨#[]⟩ l false).2 = false → s4 = (Pl.bound p ⟨#[]⟩ l false).1) := S4
    clear S4
    go_wp2_with fail
    refine (boundName_any p ns l true w7 K3.out).mono ?_
    rintro e w' ⟨rfl, rfl⟩
    go_wp2_with fail
    refine (boundName_any p ns l false w7 K3.out).mono ?_
    rintro e w' ⟨rfl, rfl⟩
    go_wp2_with fail
    refine (freshName_any p l true w7 K3.out).mono ?_
    rintro e w' ⟨rfl, rfl⟩
    go_wp2_with fail
    refine (freshName_any p l false w7 K3.out).mono ?_
    rintro e w' ⟨rfl, rfl⟩
    go_wp2_with fail
    refine (agrees_any s1 l (Pl.bound p ns l true) w7 T1.out).mono ?_
    rintro e w' ⟨rfl, rfl⟩
    go_wp2_with fail
    refine (agrees_any s2 l (Pl.bound p ns l false) w7 T2.out).mono ?_
    rintro e w' ⟨rfl, rfl⟩
    go_wp2_with fail
    refine (agrees_any s3 l (Pl.bound p ⟨#[]⟩ l true) w7 T3.out).mono ?_
    rintro e w' ⟨rfl, rfl⟩
    go_wp2_with fail
    refine (agrees_any s4 l (Pl.bound p ⟨#[]⟩ l false) w7 T4.out).mono ?_
    rintro e w' ⟨rfl, rfl⟩
    go_wp2_with fail
    go_ret
    exact ⟨rfl, A7.out.below⟩

end Go.Proofs.Qxb6608712aFmt
