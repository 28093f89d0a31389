/-
  Plain facts on lists of bytes: the first place of a byte; what the program answers, as plain functions. No program.
-/
import Derived.Lib.Bytealg
import Derived.Lib.LastIndexByte
import Derived.Lib.Strings
namespace Go.Proofs.Qxb6608712aFmt.Pl
open Go

theorem index_none {l : List UInt8} {c : UInt8} (h : c ∉ l) : Lib.indexByte l c = -1 := by
  induction l with
  | nil => rfl
  | cons b l ih =>
    have h1 : ¬ b = c := fun e => h (by simp [e])
    have h2 : c ∉ l := fun e => h (by simp [e])
    simp [Lib.indexByte, h1, ih h2]

theorem index_at {a b : List UInt8} {c : UInt8} (h : c ∉ a) : Lib.indexByte (a ++ c :: b) c = a.length := by
  induction a with
  | nil => simp [Lib.indexByte]
  | cons x a ih =>
    have h1 : ¬ x = c := fun e => h (by simp [e])
    have h2 : c ∉ a := fun e => h (by simp [e])
    have := ih h2
    simp only [List.cons_append, Lib.indexByte, this]
    have h3 : ¬ ((a.length : Int) = -1) := by omega
    simp [h1, h3]

/-- Either c stands nowhere, or l parts at the first c. -/
theorem cut_or (l : List UInt8) (c : UInt8) : c ∉ l ∨ ∃ a b, l = a ++ c :: b ∧ c ∉ a := by
  induction l with
  | nil => simp
  | cons x l ih =>
    by_cases hx : x = c
    · exact .inr ⟨[], l, by simp [hx], by simp⟩
    · rcases ih with h | ⟨a, b, rfl, h⟩
      · exact .inl (by simp [h]; exact fun e => hx e.symm)
      · exact .inr ⟨x :: a, b, rfl, by simp [h]; exact fun e => hx e.symm⟩

theorem index_neg (l : List UInt8) (c : UInt8) : Lib.indexByte l c < 0 ↔ c ∉ l := by
  rcases cut_or l c with h | ⟨a, b, rfl, h⟩
  · rw [index_none h]; simp [h]
  · rw [index_at h]; simp

theorem size_toList (s : ByteArray) : s.size = s.data.toList.length := by simp only [Array.length_toList]; rfl

theorem getElem_byte (s : ByteArray) (k : Nat) (h : k < s.size) : s[k] = s.data.toList[k]'(by rw [← size_toList]; exact h) := by simp; rfl

theorem take_step {l : List UInt8} {c : UInt8} {k : Nat} (hk : k < l.length) (hn : c ∉ l.take k) (hc : l[k] ≠ c) : c ∉ l.take (k + 1) := by
  rw [List.take_succ_eq_append_getElem hk]
  rw [List.mem_append, List.mem_singleton]
  exact fun e => e.elim hn (fun e => hc e.symm)

theorem index_contains (l : List UInt8) (c : UInt8) : decide (0 ≤ Lib.indexByte l c) = l.contains c := by
  have h := index_neg l c
  by_cases hm : c ∈ l
  · have : ¬ Lib.indexByte l c < 0 := fun e => (h.1 e) hm
    rw [List.contains_iff_mem.2 hm, decide_eq_true (by omega)]
  · have h2 : Lib.indexByte l c < 0 := h.2 hm
    rw [decide_eq_false (by omega)]
    exact (Bool.eq_false_iff.2 (fun e => hm (List.contains_iff_mem.1 e))).symm

theorem eq_toList (s p : ByteArray) : (s.toList == p.toList) = (s.data.toList == p.data.toList) := by
  rw [Lib.toList_data, Lib.toList_data]


def hasB (l : List UInt8) (c : UInt8) : Bool := l.contains c
theorem hasB_true {l : List UInt8} {c : UInt8} : hasB l c = true ↔ c ∈ l := by unfold hasB; exact List.contains_iff_mem
theorem hasB_false {l : List UInt8} {c : UInt8} : hasB l c = false ↔ c ∉ l := by
  rw [← hasB_true]; cases hasB l c <;> simp

def xml : ByteArray := ⟨#[120, 109, 108]⟩
def xmlns : ByteArray := ⟨#[120, 109, 108, 110, 115]⟩
def xmlNs : ByteArray := ⟨#[104, 116, 116, 112, 58, 47, 47, 119, 119, 119, 46, 119, 51, 46, 111, 114, 103, 47, 88, 77, 76, 47, 49, 57, 57, 56, 47, 110, 97, 109, 101, 115, 112, 97, 99, 101]⟩

/-- The ways through a name p:l: a colon in l; no prefix; the prefix xml; the prefix xmlns; any other. -/
theorem ways (p l : ByteArray) (Q : Prop) (h1 : 58 ∈ l.data.toList → Q) (h2 : 58 ∉ l.data.toList → p = ⟨#[]⟩ → Q) (h3 : 58 ∉ l.data.toList → p = xml → Q) (h4 : 58 ∉ l.data.toList → p = xmlns → Q)
    (h5 : 58 ∉ l.data.toList → ¬ p = ⟨#[]⟩ → ¬ p = xml → ¬ p = xmlns → Q) : Q := by
  by_cases hc : 58 ∈ l.data.toList
  · exact h1 hc
  by_cases a : p = ⟨#[]⟩
  · exact h2 hc a
  by_cases b : p = xml
  · exact h3 hc b
  by_cases c : p = xmlns
  · exact h4 hc c
  exact h5 hc a b c

/-- How a scope that gives g at p reads the name p:l: the Space, and whether it refuses. -/
def bound (p g l : ByteArray) (el : Bool) : ByteArray × Bool :=
  if 58 ∈ l.data.toList then (⟨#[]⟩, true)
  else if p = ⟨#[]⟩ then (if el then g else ⟨#[]⟩, false)
  else if p = xml then (xmlNs, false)
  else if p = xmlns then (if el then ⟨#[]⟩ else xmlns, el)
  else if g = ⟨#[]⟩ then (⟨#[]⟩, true)
  else (g, false)

theorem bound_colon {p g l : ByteArray} {el : Bool} (h : 58 ∈ l.data.toList) : bound p g l el = (⟨#[]⟩, true) := by
  unfold bound; rw [if_pos h]
theorem bound_none {g l : ByteArray} {el : Bool} (h : 58 ∉ l.data.toList) : bound ⟨#[]⟩ g l el = (if el then g else ⟨#[]⟩, false) := by
  unfold bound; rw [if_neg h, if_pos rfl]
theorem bound_xml {g l : ByteArray} {el : Bool} (h : 58 ∉ l.data.toList) : bound xml g l el = (xmlNs, false) := by
  unfold bound; rw [if_neg h, if_neg (by decide), if_pos rfl]
theorem bound_xmlns {g l : ByteArray} {el : Bool} (h : 58 ∉ l.data.toList) : bound xmlns g l el = (if el then ⟨#[]⟩ else xmlns, el) := by
  unfold bound; rw [if_neg h, if_neg (by decide), if_neg (by decide), if_pos rfl]
theorem bound_other {p g l : ByteArray} {el : Bool} (h : 58 ∉ l.data.toList) (h1 : ¬ p = ⟨#[]⟩) (h2 : ¬ p = xml) (h3 : ¬ p = xmlns) : bound p g l el = if g = ⟨#[]⟩ then (⟨#[]⟩, true) else (g, false) := by
  unfold bound; rw [if_neg h, if_neg h1, if_neg h2, if_neg h3]

/-- A comparison with a literal, in the walk's spelling. -/
theorem ne_lit {p q : ByteArray} (h : ¬ p = q) : (p.toList == q.toList) = false := by
  rw [eq_toList]
  cases e : (p.data.toList == q.data.toList) with
  | false => rfl
  | true =>
    refine absurd ?_ h
    have := beq_iff_eq.1 e
    obtain ⟨x⟩ := p
    obtain ⟨y⟩ := q
    have e2 : x = y := Array.toList_inj.1 this
    rw [e2]

theorem ne_empty {p : ByteArray} (h : ¬ p = ⟨#[]⟩) : p.toList.isEmpty = false := by
  have := ne_lit h
  rw [Lib.toList_data, Lib.toList_data] at this
  rw [Lib.toList_data]
  cases e : p.data.toList with
  | nil => rw [e] at this; cases this
  | cons a b => rfl
theorem ne_xml {p : ByteArray} (h : ¬ p = xml) : (p.toList == [120, 109, 108]) = false := by
  have := ne_lit h
  rw [Lib.toList_data xml] at this
  exact this
theorem ne_xmlns {p : ByteArray} (h : ¬ p = xmlns) : (p.toList == [120, 109, 108, 110, 115]) = false := by
  have := ne_lit h
  rw [Lib.toList_data xmlns] at this
  exact this

end Go.Proofs.Qxb6608712aFmt.Pl
