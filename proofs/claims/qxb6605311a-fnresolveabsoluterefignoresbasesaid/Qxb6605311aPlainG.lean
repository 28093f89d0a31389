/-
  The resolution of a reference, in lists. No program.
-/
import Derived.Test.Qxb6605311aPlainF
namespace Go.Proofs.Qxb6605311a.Pl
open Go

/-- A path up to its last slash, the slash with it. -/
def dirOf (l : List UInt8) : List UInt8 := if hasB l 47 then pop l ++ [47] else []
def mergeL (ha : Bool) (bp path : List UInt8) : List UInt8 := if ha && bp.isEmpty then 47 :: path else dirOf bp ++ path

def resolveP (B R : Parts) : Parts :=
  if R.hs then ⟨R.sc, R.au, rd R.pa, R.qu, R.fr, R.hs, R.ha, R.hq, R.hf⟩
  else if R.ha then ⟨B.sc, R.au, rd R.pa, R.qu, R.fr, B.hs, true, R.hq, R.hf⟩
  else if R.pa.isEmpty then (if R.hq then ⟨B.sc, B.au, B.pa, R.qu, R.fr, B.hs, B.ha, true, R.hf⟩ else ⟨B.sc, B.au, B.pa, B.qu, R.fr, B.hs, B.ha, B.hq, R.hf⟩)
  else ⟨B.sc, B.au, (if Lib.hasPrefix R.pa [47] then rd R.pa else rd (mergeL B.ha B.pa R.pa)), R.qu, R.fr, B.hs, B.ha, R.hq, R.hf⟩
def resolveL (base ref : List UInt8) : List UInt8 := join (resolveP (split base) (split ref))

theorem dir_walk (l : List UInt8) : ∃ n : Int, Lib.lastIndexByte ⟨l.toArray⟩ 47 = n ∧ -1 ≤ n ∧ n < l.length ∧ l.take (n + 1).toNat = dirOf l := by
  rcases last_or l with h | ⟨a, b, rfl, h⟩
  · refine ⟨-1, last_none h, by omega, by omega, ?_⟩
    unfold dirOf
    rw [hasB_false.2 h]
    rfl
  · refine ⟨a.length, last_at a h, by omega, by simp; omega, ?_⟩
    unfold dirOf
    rw [hasB_true.2 (by simp), pop_at a h, show ((a.length : Int) + 1).toNat = a.length + 1 from by omega]
    simp [List.take_append, List.take_of_length_le]

theorem dir_len (l : List UInt8) : (dirOf l).length ≤ l.length := by
  rcases last_or l with h | ⟨a, b, rfl, h⟩
  · unfold dirOf; rw [hasB_false.2 h]; simp
  · unfold dirOf; rw [hasB_true.2 (by simp), pop_at a h]; simp

theorem merge_len (ha : Bool) (bp path : List UInt8) : (mergeL ha bp path).length ≤ bp.length + path.length + 1 := by
  unfold mergeL
  split
  · simp
  · have := dir_len bp; simp; omega

theorem dir_mem {l : List UInt8} {c : UInt8} (h47 : c ≠ 47) (h : c ∈ dirOf l) : c ∈ l := by
  unfold dirOf at h
  split at h
  · rcases List.mem_append.1 h with h | h
    · exact pop_mem h
    · exact absurd (List.mem_singleton.1 h) h47
  · simp at h

theorem merge_mem {ha : Bool} {bp path : List UInt8} {c : UInt8} (h47 : c ≠ 47) (h : c ∈ mergeL ha bp path) : c ∈ bp ∨ c ∈ path := by
  unfold mergeL at h
  split at h
  · rcases List.mem_cons.1 h with h | h
    · exact absurd h h47
    · exact .inr h
  · rcases List.mem_append.1 h with h | h
    · exact .inl (dir_mem h47 h)
    · exact .inr h

end Go.Proofs.Qxb6605311a.Pl
