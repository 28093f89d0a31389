/-
  The walks: bind (13, 6).
-/
import Derived.Test.Qxb6608712aFmtWalkC
namespace Go.Proofs.Qxb6608712aFmt
open Go.RowKit
set_option linter.unusedVariables false

/-- What bind leaves: the map m holds the one entry; the scope a still has no open element and leads to m; no other elder block is touched. -/
structure Bound (w w' : World) (a m : Nat) (p ns : ByteArray) : Prop where
  os : w'.os = w.os
  tape : w'.tape = w.tape
  output : w'.output = w.output
  size : w.heap.size ≤ w'.heap.size
  block : ∀ k, k < w.heap.size → k ≠ a → k ≠ m → w'.heap[k]? = w.heap[k]?
  gives : Tryf.Gives w' m p ns
  c0 : w'.cell? ⟨a, 0, none⟩ = some (.slice none 0 0)
  c1 : w'.cell? ⟨a, 1, none⟩ = some (.map (some m))

/-- The world behind the append and the store into the scope's last field. -/
def behind (w : World) (a : Nat) (v : Value) (o1 o2 : Obj) : World := (((w.setCell ⟨a, 2, none⟩ v).alloc o1).alloc o2).drew

theorem heap_behind (w : World) (a : Nat) (v : Value) (o1 o2 : Obj) : (behind w a v o1 o2).heap = ((w.setCell ⟨a, 2, none⟩ v).heap.push o1).push o2 := rfl
theorem heap_keep (w : World) (a k : Nat) (v : Value) (o1 o2 : Obj) (h : k ≠ a) (lk : k < w.heap.size) : (behind w a v o1 o2).heap[k]? = w.heap[k]? := by
  rw [heap_behind]
  have e : (w.setCell ⟨a, 2, none⟩ v).heap.size = w.heap.size := by simp [World.setCell]
  rw [Array.getElem?_push_lt (by simp [e]; omega), Array.getElem_push_lt (by omega)]
  rw [← Array.getElem?_eq_getElem]
  simp [World.setCell, Array.getElem?_modify, Ne.symm h]

theorem bound_of (w : World) (a m : Nat) (p ns : ByteArray) (v : Value) (o1 o2 : Obj) (hne : m ≠ a) (hA : w.heap[a]? = some (.cells #[.slice none 0 0, .map (some m), .slice none 0 0] 46 (0, 0))) (lm : m < w.heap.size) :
    Bound w { behind w a v o1 o2 with heap := (behind w a v o1 o2).heap.setIfInBounds m (.map #[{ key := .string p, val := .string ns, born := 0 }] 1) } a m p ns := by
  have la : a < w.heap.size := (Array.getElem?_eq_some_iff.1 hA).1
  have e : (w.setCell ⟨a, 2, none⟩ v).heap.size = w.heap.size := by simp [World.setCell]
  have ez : (behind w a v o1 o2).heap.size = w.heap.size + 2 := by rw [heap_behind]; simp [e]
  have ea : (behind w a v o1 o2).heap[a]? = some (.cells #[.slice none 0 0, .map (some m), v] 46 (0, 0)) := by
    rw [heap_behind]
    rw [Array.getElem?_push_lt (by simp [e]; omega), Array.getElem_push_lt (by omega)]
    rw [← Array.getElem?_eq_getElem]
    simp [World.setCell, Array.getElem?_modify, hA]
  refine ⟨rfl, rfl, rfl, ?_, ?_, ?_, ?_, ?_⟩
  · simp [ez]
  · intro k hk h1 h2
    simp only [Array.getElem?_setIfInBounds_ne (Ne.symm h2)]
    exact heap_keep w a k v o1 o2 h1 hk
  · exact .inr ⟨0, 1, by simp [Array.getElem?_setIfInBounds_self, ez]; omega⟩
  · simp [World.cell?, Array.getElem?_setIfInBounds_ne hne, ea]
  · simp [World.cell?, Array.getElem?_setIfInBounds_ne hne, ea]

theorem bind_any (a m : Nat) (p ns : ByteArray) (w : World) (hb : w.heap[m]? = some (.map #[] 0)) (hA : w.heap[a]? = some (.cells #[.slice none 0 0, .map (some m), .slice none 0 0] 46 (0, 0))) :
    Calls Tryf.prog 13 #[.pointer (some ⟨a, 0, none⟩), .string p, .string ns] w fun e w' => e = .returned (.tuple #[]) ∧ Bound w w' a m p ns := by
  have hl : (Instr.lookup 42 (.map (some m)) (.string p) true).run Tryf.prog w = .ok (.tuple #[.string ⟨#[]⟩, .bool false]) w := (Tryf.lookNone hb p rfl true).trans rfl
  have c1 : w.cell? ⟨a, 1, none⟩ = some (.map (some m)) := by simp [World.cell?, hA]
  have c2 : w.cell? ⟨a, 2, none⟩ = some (.slice none 0 0) := by simp [World.cell?, hA]
  have f2 : w.frozen? ⟨a, 2, none⟩ = false := by simp [World.frozen?, hA]
  have la : a < w.heap.size := (Array.getElem?_eq_some_iff.1 hA).1
  have lm : m < w.heap.size := (Array.getElem?_eq_some_iff.1 hb).1
  have hne : Hid (m ≠ a) := fun e => by subst e; rw [hA] at hb; cases hb
  have HB : Hid (w.heap[m]? = some (.map #[] 0)) := hb
  have HA : Hid (w.heap[a]? = some (.cells #[.slice none 0 0, .map (some m), .slice none 0 0] 46 (0, 0))) := hA
  clear hb hA
  go_enter Tryf.func13, Tryf.ntmps13
  go_wp2_with fail
  have HP := fun v o1 o2 => Tryf.put0 (w := behind w a v o1 o2) (m := m) (c := 0) ((heap_keep w a m v o1 o2 hne.out lm).trans HB.out) p ns
  unfold behind at HP
  rw [HP]
  clear HP
  go_wp2
  go_end0
  exact ⟨rfl, bound_of w a m p ns _ _ _ hne.out HA.out lm⟩

theorem zzBind_any (a m : Nat) (p ns : ByteArray) (w : World) (hb : w.heap[m]? = some (.map #[] 0)) (hA : w.heap[a]? = some (.cells #[.slice none 0 0, .map (some m), .slice none 0 0] 46 (0, 0))) :
    Calls Tryf.prog 6 #[.pointer (some ⟨a, 0, none⟩), .string p, .string ns] w fun e w' => e = .returned (.tuple #[]) ∧ Bound w w' a m p ns := by
  have H : Hid (Calls Tryf.prog 13 #[.pointer (some ⟨a, 0, none⟩), .string p, .string ns] w fun e w' => e = .returned (.tuple #[]) ∧ Bound w w' a m p ns) := bind_any a m p ns w hb hA
  clear hb hA
  go_enter Tryf.func6, Tryf.ntmps6
  go_wp2_with (go_at_call 13; refine H.out.mono ?_; rintro e w' ⟨rfl, hB⟩)
  go_end0
  exact ⟨rfl, by assumption⟩

end Go.Proofs.Qxb6608712aFmt
