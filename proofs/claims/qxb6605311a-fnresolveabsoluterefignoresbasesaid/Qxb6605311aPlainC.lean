/-
  Bridges: what the walk of removeDotSegments shows, in the words of rdFrom. No program.
-/
import Derived.Test.Qxb6605311aPlainB
namespace Go.Proofs.Qxb6605311a.Pl
open Go

theorem ex_end (s : ByteArray) (a : Nat) : (s.extract a s.size).data.toList = s.data.toList.drop a := by
  rw [Lib.extract_data, List.take_of_length_le (by rw [List.length_drop, ← size_toList]; omega)]

theorem ex_start (s : ByteArray) (b : Nat) : (s.extract 0 b).data.toList = s.data.toList.take b := by
  rw [Lib.extract_data]; simp

theorem ex_end_size (s : ByteArray) (a : Nat) : (s.extract a s.size).size = s.size - a := by
  rw [size_toList, ex_end, List.length_drop, ← size_toList]

theorem ex_start_size (s : ByteArray) (b : Nat) (h : b ≤ s.size) : (s.extract 0 b).size = b := by
  rw [size_toList, ex_start, List.length_take, ← size_toList]; omega

theorem beq_data {t : ByteArray} {l : List UInt8} (h : (t.toList == l) = true) : t.data.toList = l := by
  rw [Lib.toList_data] at h; simpa using h
theorem bne_data {t : ByteArray} {l : List UInt8} (h : (t.toList == l) = false) : t.data.toList ≠ l := by
  rw [Lib.toList_data] at h; simpa using h
theorem empty_data {t : ByteArray} (h : t.toList.isEmpty = true) : t.data.toList = [] := by
  rw [Lib.toList_data] at h; simpa using h
theorem nonempty_data {t : ByteArray} (h : t.toList.isEmpty = false) : t.data.toList ≠ [] := by
  rw [Lib.toList_data] at h; simpa using h

theorem pre_yes {l p : List UInt8} (h : Lib.hasPrefix l p = true) : ∃ r, l = p ++ r := by
  unfold Lib.hasPrefix at h
  rw [List.isPrefixOf_iff_prefix] at h
  obtain ⟨r, hr⟩ := h
  exact ⟨r, hr.symm⟩
theorem pre_no {l p : List UInt8} (h : Lib.hasPrefix l p = false) (r : List UInt8) : l ≠ p ++ r := by
  rintro rfl
  unfold Lib.hasPrefix at h
  rw [List.isPrefixOf_iff_prefix.2 (List.prefix_append _ _)] at h
  exact absurd h (by decide)

theorem stepA1 {t : ByteArray} (acc : List UInt8) (h : Lib.hasPrefix t.data.toList [46, 46, 47] = true) : 3 ≤ t.size ∧ rdFrom (t.extract 3 t.size).data.toList acc = rdFrom t.data.toList acc := by
  obtain ⟨r, hr⟩ := pre_yes h
  rw [ex_end, size_toList, hr]
  exact ⟨by simp, (rd_A1 r acc).symm⟩
theorem stepA2 {t : ByteArray} (acc : List UInt8) (h : Lib.hasPrefix t.data.toList [46, 47] = true) : 2 ≤ t.size ∧ rdFrom (t.extract 2 t.size).data.toList acc = rdFrom t.data.toList acc := by
  obtain ⟨r, hr⟩ := pre_yes h
  rw [ex_end, size_toList, hr]
  exact ⟨by simp, (rd_A2 r acc).symm⟩
theorem stepB1 {t : ByteArray} (acc : List UInt8) (h : Lib.hasPrefix t.data.toList [47, 46, 47] = true) : 2 ≤ t.size ∧ rdFrom (t.extract 2 t.size).data.toList acc = rdFrom t.data.toList acc := by
  obtain ⟨r, hr⟩ := pre_yes h
  rw [ex_end, size_toList, hr]
  exact ⟨by simp, (rd_B1 r acc).symm⟩
theorem stepB2 {t : ByteArray} (acc : List UInt8) (h : (t.toList == [47, 46]) = true) : 2 ≤ t.size ∧ rdFrom [47] acc = rdFrom t.data.toList acc := by
  have e := beq_data h
  rw [size_toList, e]
  exact ⟨by simp, (rd_B2 acc).symm⟩
theorem stepD {t : ByteArray} (acc : List UInt8) (h : (t.toList == [46]) = true ∨ (t.toList == [46, 46]) = true) : 1 ≤ t.size ∧ rdFrom [] acc = rdFrom t.data.toList acc := by
  rcases h with h | h
  · have e := beq_data h
    rw [size_toList, e, rd_nil]
    exact ⟨by simp, (rd_D1 acc).symm⟩
  · have e := beq_data h
    rw [size_toList, e, rd_nil]
    exact ⟨by simp, (rd_D2 acc).symm⟩
theorem stepN {t : ByteArray} (acc : List UInt8) (h : t.toList.isEmpty = true) : rdFrom t.data.toList acc = acc := by
  rw [empty_data h, rd_nil]

theorem stepC {t : ByteArray} (acc : List UInt8) (h : Lib.hasPrefix t.data.toList [47, 46, 46, 47] = true ∨ (t.toList == [47, 46, 46]) = true) :
    3 ≤ t.size ∧ (({ data := #[47] } ++ t.extract (min 4 (t.size : Int)).toNat t.size : ByteArray)).size + 2 ≤ t.size ∧
    rdFrom ({ data := #[47] } ++ t.extract (min 4 (t.size : Int)).toNat t.size : ByteArray).data.toList (pop acc) = rdFrom t.data.toList acc := by
  have ea : ∀ n, ({ data := #[47] } ++ t.extract n t.size : ByteArray).data.toList = 47 :: t.data.toList.drop n := by
    intro n
    rw [ByteArray.data_append, Array.toList_append, ex_end]
    rfl
  rcases h with h | h
  · obtain ⟨r, hr⟩ := pre_yes h
    have hsz : t.size = r.length + 4 := by rw [size_toList, hr]; simp
    have e4 : (min 4 (t.size : Int)).toNat = 4 := by omega
    rw [e4]
    refine ⟨by omega, ?_, ?_⟩
    · rw [size_toList, ea, hr]; simp; omega
    · rw [ea, hr]; exact (rd_C1 r acc).symm
  · have e := beq_data h
    have hsz : t.size = 3 := by rw [size_toList, e]; simp
    have e4 : (min 4 (t.size : Int)).toNat = 3 := by omega
    rw [e4]
    refine ⟨by omega, ?_, ?_⟩
    · rw [size_toList, ea, e]; simp; omega
    · rw [ea, e]; exact (rd_C2 acc).symm

/-- In the last arm: a first byte, and its field. -/
theorem stepE_field {t : ByteArray} (h0 : t.toList.isEmpty = false) (h1 : Lib.hasPrefix t.data.toList [46, 46, 47] = false) (h2 : Lib.hasPrefix t.data.toList [46, 47] = false)
    (h3 : Lib.hasPrefix t.data.toList [47, 46, 47] = false) (h4 : (t.toList == [47, 46]) = false) (h5 : Lib.hasPrefix t.data.toList [47, 46, 46, 47] = false) (h6 : (t.toList == [47, 46, 46]) = false)
    (h7 : (t.toList == [46]) = false) (h8 : (t.toList == [46, 46]) = false) :
    1 ≤ t.size ∧ ((Lib.indexByte (t.extract 1 t.size).data.toList 47 = -1 ∧ ∀ acc, rdFrom t.data.toList acc = acc ++ t.data.toList) ∨
    ∃ n : Nat, n + 1 < t.size ∧ Lib.indexByte (t.extract 1 t.size).data.toList 47 = (n : Int) ∧ ∀ acc, rdFrom t.data.toList acc = rdFrom (t.extract (n + 1) t.size).data.toList (acc ++ t.data.toList.take (n + 1))) := by
  have n0 := nonempty_data h0
  have n4 := bne_data h4
  have n6 := bne_data h6
  have n7 := bne_data h7
  have n8 := bne_data h8
  obtain ⟨c, l, hl⟩ : ∃ c l, t.data.toList = c :: l := by
    cases h : t.data.toList with
    | nil => exact absurd h n0
    | cons c l => exact ⟨c, l, rfl⟩
  have hsz : t.size = l.length + 1 := by rw [size_toList, hl]; simp
  have ex : (t.extract 1 t.size).data.toList = l := by rw [ex_end, hl]; rfl
  refine ⟨by omega, ?_⟩
  rw [ex]
  rcases cut_or l 47 with hn | ⟨f, r, rfl, hn⟩
  · refine .inl ⟨index_none hn, fun acc => ?_⟩
    rw [hl] at n4 n6 n7 n8 ⊢
    refine rd_E0 c l acc hn ?_ ?_
    · rintro rfl
      exact ⟨fun e => n4 (by rw [e]), fun e => n6 (by rw [e])⟩
    · intro _
      simp only [isDot, Bool.or_eq_false_iff, beq_eq_false_iff_ne]
      exact ⟨n7, n8⟩
  · refine .inr ⟨f.length, ?_, index_at hn, fun acc => ?_⟩
    · rw [hsz]; simp
    · rw [ex_end, hl]
      have e1 : (c :: (f ++ 47 :: r)).drop (f.length + 1) = 47 :: r := by simp
      have e2 : (c :: (f ++ 47 :: r)).take (f.length + 1) = c :: f := by simp
      rw [e1, e2]
      refine rd_E c f r acc hn ?_ ?_
      · rintro rfl
        exact ⟨fun e => pre_no h3 r (by rw [hl, e]; rfl), fun e => pre_no h5 r (by rw [hl, e]; rfl)⟩
      · intro _
        have m1 : c :: f ≠ [46] := fun e => pre_no h2 r (by rw [hl, ← List.cons_append, e]; rfl)
        have m2 : c :: f ≠ [46, 46] := fun e => pre_no h1 r (by rw [hl, ← List.cons_append, e]; rfl)
        simp only [isDot, Bool.or_eq_false_iff, beq_eq_false_iff_ne]
        exact ⟨m1, m2⟩

theorem get_bang (l : List UInt8) (i : Nat) (h : i < l.length) : ((⟨l.toArray⟩ : ByteArray).data[i]!) = l[i] := by simp [h]

theorem last_none {l : List UInt8} (h : (47 : UInt8) ∉ l) : Lib.lastIndexByte ⟨l.toArray⟩ 47 = -1 := by
  rcases Lib.lastIndexByte_spec ⟨l.toArray⟩ 47 with ⟨e, _⟩ | ⟨i, hi, _, hc, _⟩
  · exact e
  · exfalso
    have hi' : i < l.length := hi
    simp [hi'] at hc
    apply h
    have : l[i] = 47 := UInt8.toNat.inj (by show _ = 47; omega)
    rw [← this]
    exact List.getElem_mem hi'

theorem last_at (a : List UInt8) {b : List UInt8} (h : (47 : UInt8) ∉ b) : Lib.lastIndexByte ⟨(a ++ 47 :: b).toArray⟩ 47 = a.length := by
  have hlen : (⟨(a ++ 47 :: b).toArray⟩ : ByteArray).size = a.length + b.length + 1 := by
    show (a ++ 47 :: b).length = _
    simp; omega
  rcases Lib.lastIndexByte_spec ⟨(a ++ 47 :: b).toArray⟩ 47 with ⟨_, hn⟩ | ⟨i, hi, e, hc, hn⟩
  · exact absurd (by simp) (hn a.length (by omega))
  · rw [e]
    rcases Nat.lt_trichotomy i a.length with hlt | heq | hgt
    · exact absurd (by simp) (hn a.length hlt (by omega))
    · rw [heq]
    · exfalso
      have hi' : i < (a ++ 47 :: b).length := hi
      apply h
      have hv : (a ++ 47 :: b)[i] = 47 := by
        rw [get_bang _ _ hi'] at hc
        exact UInt8.toNat.inj (by show _ = 47; omega)
      rw [List.getElem_append_right (by omega), List.getElem_cons] at hv
      rw [dif_neg (by omega)] at hv
      rw [← hv]
      exact List.getElem_mem _

theorem last_pop (acc : List UInt8) : ∃ n : Int, Lib.lastIndexByte ⟨acc.toArray⟩ 47 = n ∧ -1 ≤ n ∧ n < acc.length + 1 ∧ (max n 0).toNat ≤ acc.length ∧ acc.take (max n 0).toNat = pop acc := by
  rcases last_or acc with h | ⟨a, b, rfl, h⟩
  · refine ⟨-1, last_none h, by omega, by omega, by rw [show (max (-1 : Int) 0).toNat = 0 from rfl]; omega, ?_⟩
    rw [pop_none h, show (max (-1 : Int) 0).toNat = 0 from rfl]; rfl
  · refine ⟨a.length, last_at a h, by omega, by simp; omega, by simp, ?_⟩
    rw [pop_at a h, show (max (a.length : Int) 0).toNat = a.length from by omega]; simp

end Go.Proofs.Qxb6605311a.Pl
