/-
  Plain facts on lists of bytes: the first place of a byte, cuts, ByteArray's extract in lists' words. No program.
-/
import Derived.Lib.Bytealg
import Derived.Lib.LastIndexByte
import Derived.Lib.Strings
namespace Go.Proofs.Qxb6605311a.Pl
open Go

theorem index_none {l : List UInt8} {c : UInt8} (h : c ∉ l) : Lib.indexByte l c = -1 := by
  induction l with
  | nil => rfl
  | cons b l ih =>
    have h1 : ¬ b = c := fun e => h (by simp [e])
    have h2 : c ∉ l := fun e => h (by simp [e])
    simp [Lib.indexByte, h1, ih h2]

theorem index_at {a b : List UInt8} {c : UInt8} (h : c ∉ a) : Lib.indexByte (a ++ c :: b) c = a.length := by
  induction a with
  | nil => simp [Lib.indexByte]
  | cons x a ih =>
    have h1 : ¬ x = c := fun e => h (by simp [e])
    have h2 : c ∉ a := fun e => h (by simp [e])
    have := ih h2
    simp only [List.cons_append, Lib.indexByte, this]
    have h3 : ¬ ((a.length : Int) = -1) := by omega
    simp [h1, h3]

/-- Either c stands nowhere, or l parts at the first c. -/
theorem cut_or (l : List UInt8) (c : UInt8) : c ∉ l ∨ ∃ a b, l = a ++ c :: b ∧ c ∉ a := by
  induction l with
  | nil => simp
  | cons x l ih =>
    by_cases hx : x = c
    · exact .inr ⟨[], l, by simp [hx], by simp⟩
    · rcases ih with h | ⟨a, b, rfl, h⟩
      · exact .inl (by simp [h]; exact fun e => hx e.symm)
      · exact .inr ⟨x :: a, b, rfl, by simp [h]; exact fun e => hx e.symm⟩

theorem index_le (l : List UInt8) (c : UInt8) : Lib.indexByte l c < l.length ∧ -1 ≤ Lib.indexByte l c := by
  rcases cut_or l c with h | ⟨a, b, rfl, h⟩
  · rw [index_none h]; omega
  · rw [index_at h]; simp; omega

theorem index_neg (l : List UInt8) (c : UInt8) : Lib.indexByte l c < 0 ↔ c ∉ l := by
  rcases cut_or l c with h | ⟨a, b, rfl, h⟩
  · rw [index_none h]; simp [h]
  · rw [index_at h]; simp

theorem size_toList (s : ByteArray) : s.size = s.data.toList.length := by simp only [Array.length_toList]; rfl

theorem getElem_byte (s : ByteArray) (k : Nat) (h : k < s.size) : s[k] = s.data.toList[k]'(by rw [← size_toList]; exact h) := by simp; rfl

/-- A search that has come to k: nothing among the first k, and there it stands. -/
theorem index_found {l : List UInt8} {c : UInt8} {k : Nat} (hk : k < l.length) (hn : c ∉ l.take k) (hc : l[k] = c) : Lib.indexByte l c = k := by
  have e : l = l.take k ++ c :: l.drop (k + 1) := by
    rw [← hc, ← List.drop_eq_getElem_cons hk, List.take_append_drop]
  have := index_at (b := l.drop (k + 1)) hn
  rw [← e] at this
  rw [this]
  simp; omega

theorem take_step {l : List UInt8} {c : UInt8} {k : Nat} (hk : k < l.length) (hn : c ∉ l.take k) (hc : l[k] ≠ c) : c ∉ l.take (k + 1) := by
  rw [List.take_succ_eq_append_getElem hk]
  rw [List.mem_append, List.mem_singleton]
  exact fun e => e.elim hn (fun e => hc e.symm)

theorem index_contains (l : List UInt8) (c : UInt8) : decide (0 ≤ Lib.indexByte l c) = l.contains c := by
  have h := index_neg l c
  by_cases hm : c ∈ l
  · have : ¬ Lib.indexByte l c < 0 := fun e => (h.1 e) hm
    rw [List.contains_iff_mem.2 hm, decide_eq_true (by omega)]
  · have h2 : Lib.indexByte l c < 0 := h.2 hm
    rw [decide_eq_false (by omega)]
    exact (Bool.eq_false_iff.2 (fun e => hm (List.contains_iff_mem.1 e))).symm

theorem eq_toList (s p : ByteArray) : (s.toList == p.toList) = (s.data.toList == p.data.toList) := by
  rw [Lib.toList_data, Lib.toList_data]

theorem prefix_walk (s p : ByteArray) (h : p.size ≤ s.size) : ((s.extract 0 p.size).toList == p.toList) = Lib.hasPrefix s.data.toList p.data.toList := by
  rw [← Lib.hasPrefix_of_take, Lib.extract_toList, Lib.toList_data, ← size_toList, ← size_toList]
  simp [h]

theorem prefix_short (s p : ByteArray) (h : ¬ p.size ≤ s.size) : Lib.hasPrefix s.data.toList p.data.toList = false := by
  rw [← Lib.hasPrefix_of_take, ← size_toList, ← size_toList]
  simp [h]

end Go.Proofs.Qxb6605311a.Pl
