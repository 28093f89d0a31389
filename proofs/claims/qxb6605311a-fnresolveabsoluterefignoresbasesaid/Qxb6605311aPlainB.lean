/-
  Plain functions on lists of bytes: the fields between slashes, the removal of dot segments field by field, and their laws. No program.
-/
import Derived.Test.Qxb6605311aPlainA
namespace Go.Proofs.Qxb6605311a.Pl
open Go

/-- The fields between the slashes. -/
def fields : List UInt8 → List (List UInt8)
  | [] => [[]]
  | c :: l => if c = 47 then [] :: fields l else (match fields l with | [] => [[c]] | f :: fs => (c :: f) :: fs)

def isDot (f : List UInt8) : Bool := f == [46] || f == [46, 46]
def hasDot (l : List UInt8) : Bool := (fields l).any isDot

theorem fields_ne (l : List UInt8) : fields l ≠ [] := by
  cases l with
  | nil => simp [fields]
  | cons c l =>
    unfold fields
    split
    · simp
    · split <;> simp

theorem fields_slash (l : List UInt8) : fields (47 :: l) = [] :: fields l := by simp [fields]

theorem fields_app (a b : List UInt8) : fields (a ++ 47 :: b) = fields a ++ fields b := by
  induction a with
  | nil => simp [fields]
  | cons c a ih =>
    by_cases hc : c = 47
    · subst hc; simp [fields, ih]
    · simp only [List.cons_append, fields, hc, if_false, ih]
      cases h : fields a with
      | nil => exact absurd h (fields_ne a)
      | cons f fs => simp

theorem fields_one {f : List UInt8} (h : (47 : UInt8) ∉ f) : fields f = [f] := by
  induction f with
  | nil => simp [fields]
  | cons c f ih =>
    have h1 : ¬ c = 47 := fun e => h (by simp [e])
    have h2 : (47 : UInt8) ∉ f := fun e => h (by simp [e])
    simp [fields, h1, ih h2]

theorem fields_cut {f : List UInt8} (h : (47 : UInt8) ∉ f) (r : List UInt8) : fields (f ++ 47 :: r) = f :: fields r := by
  rw [fields_app, fields_one h]; rfl

theorem fields_pure (l : List UInt8) : ∀ f ∈ fields l, (47 : UInt8) ∉ f := by
  induction l with
  | nil => simp [fields]
  | cons c l ih =>
    by_cases hc : c = 47
    · subst hc; simp only [fields, if_true]; intro f hf
      rcases List.mem_cons.1 hf with rfl | hf
      · simp
      · exact ih f hf
    · simp only [fields, hc, if_false]
      cases h : fields l with
      | nil => exact absurd h (fields_ne l)
      | cons g gs =>
        rw [h] at ih
        intro f hf
        rcases List.mem_cons.1 hf with rfl | hf
        · have := ih g (by simp)
          simp [this]; exact fun e => hc e.symm
        · exact ih f (by simp [hf])

/-- What stands behind a field: each further field with its slash. -/
def tails (fs : List (List UInt8)) : List UInt8 := fs.flatMap (47 :: ·)
def joinF : List (List UInt8) → List UInt8
  | [] => []
  | f :: fs => f ++ tails fs

theorem join_fields (l : List UInt8) : joinF (fields l) = l := by
  induction l with
  | nil => simp [fields, joinF, tails]
  | cons c l ih =>
    by_cases hc : c = 47
    · subst hc
      simp only [fields, if_true, joinF]
      cases h : fields l with
      | nil => exact absurd h (fields_ne l)
      | cons f fs => rw [h] at ih; simp only [joinF] at ih; simp [tails]; simpa [tails] using ih
    · simp only [fields, hc, if_false]
      cases h : fields l with
      | nil => exact absurd h (fields_ne l)
      | cons f fs => rw [h] at ih; simp only [joinF] at ih; simp [joinF]; exact ih

/-- What is kept of the output at '..': all ahead of its last slash. -/
def pop : List UInt8 → List UInt8
  | [] => []
  | c :: l => if (47 : UInt8) ∈ l then c :: pop l else []

theorem pop_none {l : List UInt8} (h : (47 : UInt8) ∉ l) : pop l = [] := by
  cases l with
  | nil => rfl
  | cons c l =>
    have h2 : (47 : UInt8) ∉ l := fun e => h (by simp [e])
    simp [pop, h2]

theorem pop_at (a : List UInt8) {b : List UInt8} (h : (47 : UInt8) ∉ b) : pop (a ++ 47 :: b) = a := by
  induction a with
  | nil => simp [pop, h]
  | cons c a ih => simp [pop, ih]

theorem last_or (l : List UInt8) : (47 : UInt8) ∉ l ∨ ∃ a b, l = a ++ 47 :: b ∧ (47 : UInt8) ∉ b := by
  induction l with
  | nil => simp
  | cons x l ih =>
    rcases ih with h | ⟨a, b, rfl, h⟩
    · by_cases hx : x = 47
      · exact .inr ⟨[], l, by simp [hx], h⟩
      · exact .inl (by simp [h]; exact fun e => hx e.symm)
    · exact .inr ⟨x :: a, b, rfl, h⟩

theorem pop_le (l : List UInt8) : (pop l).length ≤ l.length := by
  rcases last_or l with h | ⟨a, b, rfl, h⟩
  · rw [pop_none h]; simp
  · rw [pop_at a h]; simp

theorem pop_mem {l : List UInt8} {c : UInt8} (hc : c ∈ pop l) : c ∈ l := by
  rcases last_or l with h | ⟨a, b, rfl, h⟩
  · rw [pop_none h] at hc; simp at hc
  · rw [pop_at a h] at hc; simp [hc]

/-- The fields behind the first, each ahead of which stands a slash; what has been put out. -/
def absRun : List (List UInt8) → List UInt8 → List UInt8
  | [], out => out
  | f :: fs, out =>
    if f = [46] then (if fs = [] then out ++ [47] else absRun fs out)
    else if f = [46, 46] then (if fs = [] then pop out ++ [47] else absRun fs (pop out))
    else absRun fs (out ++ 47 :: f)

/-- From the first field on. -/
def relRun : List (List UInt8) → List UInt8 → List UInt8
  | [], out => out
  | f :: fs, out => if isDot f then relRun fs out else absRun fs (out ++ f)

def rdFrom (l out : List UInt8) : List UInt8 := relRun (fields l) out
/-- The removal of dot segments. -/
def rd (l : List UInt8) : List UInt8 := rdFrom l []

/-! The steps of the loop -/
theorem rd_A1 (r out : List UInt8) : rdFrom (46 :: 46 :: 47 :: r) out = rdFrom r out := by
  have e : (46 :: 46 :: 47 :: r : List UInt8) = [46, 46] ++ 47 :: r := rfl
  unfold rdFrom
  rw [e, fields_cut (by decide)]
  simp [relRun, isDot]
theorem rd_A2 (r out : List UInt8) : rdFrom (46 :: 47 :: r) out = rdFrom r out := by
  have e : (46 :: 47 :: r : List UInt8) = [46] ++ 47 :: r := rfl
  unfold rdFrom
  rw [e, fields_cut (by decide)]
  simp [relRun, isDot]
theorem rd_slash (r out : List UInt8) : rdFrom (47 :: r) out = absRun (fields r) out := by
  unfold rdFrom
  rw [fields_slash]
  simp [relRun, isDot]
theorem rd_B1 (r out : List UInt8) : rdFrom (47 :: 46 :: 47 :: r) out = rdFrom (47 :: r) out := by
  have e : (46 :: 47 :: r : List UInt8) = [46] ++ 47 :: r := rfl
  rw [rd_slash, rd_slash, e, fields_cut (by decide)]
  simp [absRun, fields_ne]
theorem rd_B2 (out : List UInt8) : rdFrom [47, 46] out = rdFrom [47] out := by
  rw [rd_slash, rd_slash]
  simp [absRun, fields]
theorem rd_C1 (r out : List UInt8) : rdFrom (47 :: 46 :: 46 :: 47 :: r) out = rdFrom (47 :: r) (pop out) := by
  have e : (46 :: 46 :: 47 :: r : List UInt8) = [46, 46] ++ 47 :: r := rfl
  rw [rd_slash, rd_slash, e, fields_cut (by decide)]
  simp [absRun, fields_ne]
theorem rd_C2 (out : List UInt8) : rdFrom [47, 46, 46] out = rdFrom [47] (pop out) := by
  rw [rd_slash, rd_slash]
  simp [absRun, fields]
theorem rd_nil (out : List UInt8) : rdFrom [] out = out := by simp [rdFrom, fields, relRun, isDot, absRun]
theorem rd_D1 (out : List UInt8) : rdFrom [46] out = out := by simp [rdFrom, fields, relRun, isDot]
theorem rd_D2 (out : List UInt8) : rdFrom [46, 46] out = out := by simp [rdFrom, fields, relRun, isDot]

/-- The tests of the switch that say no, of a field's text. -/
theorem rd_E (c : UInt8) (f r out : List UInt8) (hf : (47 : UInt8) ∉ f) (ha : c = 47 → f ≠ [46] ∧ f ≠ [46, 46]) (hr : c ≠ 47 → isDot (c :: f) = false) :
    rdFrom (c :: (f ++ 47 :: r)) out = rdFrom (47 :: r) (out ++ c :: f) := by
  by_cases hc : c = 47
  · subst hc
    obtain ⟨h1, h2⟩ := ha rfl
    rw [rd_slash, rd_slash, fields_cut hf]
    simp [absRun, h1, h2]
  · have h1 : (47 : UInt8) ∉ c :: f := by simp [hf]; exact fun e => hc e.symm
    have e : c :: (f ++ 47 :: r) = (c :: f) ++ 47 :: r := rfl
    rw [rd_slash, e]
    unfold rdFrom
    rw [fields_cut h1]
    simp [relRun, hr hc]

theorem rd_E0 (c : UInt8) (f out : List UInt8) (hf : (47 : UInt8) ∉ f) (ha : c = 47 → f ≠ [46] ∧ f ≠ [46, 46]) (hr : c ≠ 47 → isDot (c :: f) = false) :
    rdFrom (c :: f) out = out ++ c :: f := by
  by_cases hc : c = 47
  · subst hc
    obtain ⟨h1, h2⟩ := ha rfl
    rw [rd_slash, fields_one hf]
    simp [absRun, h1, h2]
  · have h1 : (47 : UInt8) ∉ c :: f := by simp [hf]; exact fun e => hc e.symm
    unfold rdFrom
    rw [fields_one h1]
    simp [relRun, hr hc, absRun]

/-! The laws -/
theorem tails_cons (f : List UInt8) (fs : List (List UInt8)) : tails (f :: fs) = 47 :: (f ++ tails fs) := by simp [tails]
theorem tails_nil : tails [] = [] := rfl

theorem absRun_plain (fs : List (List UInt8)) (out : List UInt8) (h : fs.any isDot = false) : absRun fs out = out ++ tails fs := by
  induction fs generalizing out with
  | nil => simp [absRun, tails]
  | cons f fs ih =>
    simp only [List.any_cons, Bool.or_eq_false_iff] at h
    have h1 : f ≠ [46] := by rintro rfl; simp [isDot] at h
    have h2 : f ≠ [46, 46] := by rintro rfl; simp [isDot] at h
    simp [absRun, h1, h2, ih _ h.2, tails_cons]

theorem rd_plain (l : List UInt8) (h : hasDot l = false) : rd l = l := by
  unfold rd rdFrom
  unfold hasDot at h
  have hj := join_fields l
  cases hf : fields l with
  | nil => exact absurd hf (fields_ne l)
  | cons f fs =>
    rw [hf] at h hj
    simp only [List.any_cons, Bool.or_eq_false_iff] at h
    simp only [joinF] at hj
    simp [relRun, h.1, absRun_plain _ _ h.2, hj]

theorem absRun_le (fs : List (List UInt8)) (out : List UInt8) : (absRun fs out).length ≤ out.length + (tails fs).length ∧ (fs.any isDot = true → (absRun fs out).length < out.length + (tails fs).length) := by
  induction fs generalizing out with
  | nil => simp [absRun, tails]
  | cons f fs ih =>
    have hp := pop_le out
    by_cases h1 : f = [46]
    · subst h1
      cases hfs : fs with
      | nil => simp [absRun, tails]
      | cons g gs =>
        rw [← hfs]
        have := (ih out).1
        simp [absRun, hfs, tails_cons] at this ⊢
        omega
    · by_cases h2 : f = [46, 46]
      · subst h2
        cases hfs : fs with
        | nil => simp [absRun, tails]; omega
        | cons g gs =>
          rw [← hfs]
          have := (ih (pop out)).1
          simp [absRun, hfs, tails_cons] at this ⊢
          omega
      · have h3 : isDot f = false := by simp [isDot, h1, h2]
        have h4 := ih (out ++ 47 :: f)
        simp only [absRun, h1, h2, if_false, tails_cons, List.any_cons, h3, Bool.false_or]
        simp only [List.length_append, List.length_cons] at h4 ⊢
        constructor
        · omega
        · intro h; have := h4.2 h; omega

theorem relRun_le (fs : List (List UInt8)) (out : List UInt8) : (relRun fs out).length ≤ out.length + (joinF fs).length ∧ (fs.any isDot = true → (relRun fs out).length < out.length + (joinF fs).length) := by
  induction fs generalizing out with
  | nil => simp [relRun, joinF]
  | cons f fs ih =>
    by_cases h : isDot f = true
    · have hl : 1 ≤ f.length := by
        simp only [isDot, Bool.or_eq_true, beq_iff_eq] at h
        rcases h with rfl | rfl <;> simp
      have h4 := (ih out).1
      have h5 : (joinF fs).length ≤ (tails fs).length := by cases fs <;> simp [joinF, tails_cons]
      simp only [relRun, h, if_true, joinF, List.length_append]
      constructor
      · omega
      · intro _; omega
    · have h3 : isDot f = false := by simpa using h
      have h4 := absRun_le fs (out ++ f)
      simp only [relRun, h3, joinF, List.length_append, List.any_cons, Bool.false_or] at h4 ⊢
      constructor
      · simpa [Nat.add_assoc] using h4.1
      · intro h; simpa [Nat.add_assoc] using h4.2 h

theorem rd_le (l : List UInt8) : (rd l).length ≤ l.length := by
  have := (relRun_le (fields l) []).1
  rw [join_fields] at this
  simpa [rd, rdFrom] using this

theorem rd_shorter (l : List UInt8) (h : hasDot l = true) : (rd l).length < l.length := by
  have := (relRun_le (fields l) []).2 h
  rw [join_fields] at this
  simpa [rd, rdFrom] using this

theorem hasDot_app (a b : List UInt8) : hasDot (a ++ 47 :: b) = (hasDot a || hasDot b) := by simp [hasDot, fields_app]
theorem hasDot_one {f : List UInt8} (h : (47 : UInt8) ∉ f) : hasDot f = isDot f := by simp [hasDot, fields_one h]

theorem hasDot_pop (l : List UInt8) (h : hasDot l = false) : hasDot (pop l) = false := by
  rcases last_or l with h1 | ⟨a, b, rfl, h1⟩
  · rw [pop_none h1]; rfl
  · rw [pop_at a h1]
    rw [hasDot_app] at h
    simp only [Bool.or_eq_false_iff] at h
    exact h.1

theorem absRun_clean (fs : List (List UInt8)) (hfs : ∀ f ∈ fs, (47 : UInt8) ∉ f) (out : List UInt8) (h : hasDot out = false) : hasDot (absRun fs out) = false := by
  induction fs generalizing out with
  | nil => exact h
  | cons f fs ih =>
    have hp := hasDot_pop out h
    have hfs' : ∀ g ∈ fs, (47 : UInt8) ∉ g := fun g hg => hfs g (by simp [hg])
    have hlast : ∀ o : List UInt8, hasDot o = false → hasDot (o ++ [47]) = false := fun o ho => by rw [hasDot_app, ho]; rfl
    unfold absRun
    split
    · split
      · exact hlast _ h
      · exact ih hfs' out h
    · split
      · split
        · exact hlast _ hp
        · exact ih hfs' _ hp
      · rename_i h1 h2
        refine ih hfs' _ ?_
        rw [hasDot_app, h, hasDot_one (hfs f (by simp))]
        simp [isDot, h1, h2]

theorem relRun_clean (fs : List (List UInt8)) (hfs : ∀ f ∈ fs, (47 : UInt8) ∉ f) : hasDot (relRun fs []) = false := by
  induction fs with
  | nil => rfl
  | cons f fs ih =>
    have hfs' : ∀ g ∈ fs, (47 : UInt8) ∉ g := fun g hg => hfs g (by simp [hg])
    unfold relRun
    split
    · exact ih hfs'
    · rename_i h
      refine absRun_clean fs hfs' _ ?_
      rw [List.nil_append, hasDot_one (hfs f (by simp))]
      simpa using h

theorem rd_clean (l : List UInt8) : hasDot (rd l) = false := relRun_clean _ (fields_pure l)

theorem absRun_mem {c : UInt8} (fs : List (List UInt8)) (out : List UInt8) (hc : c ∈ absRun fs out) : c ∈ out ∨ c = 47 ∨ ∃ f ∈ fs, c ∈ f := by
  induction fs generalizing out with
  | nil => exact .inl hc
  | cons f fs ih =>
    unfold absRun at hc
    have up : (∃ g ∈ fs, c ∈ g) → ∃ g ∈ f :: fs, c ∈ g := fun ⟨g, h1, h2⟩ => ⟨g, by simp [h1], h2⟩
    split at hc
    · split at hc
      · simp at hc; exact hc.elim .inl (fun e => .inr (.inl e))
      · exact (ih _ hc).elim .inl (fun e => .inr (e.elim .inl (fun x => .inr (up x))))
    · split at hc
      · split at hc
        · simp at hc; exact hc.elim (fun e => .inl (pop_mem e)) (fun e => .inr (.inl e))
        · exact (ih _ hc).elim (fun x => .inl (pop_mem x)) (fun e => .inr (e.elim .inl (fun x => .inr (up x))))
      · rcases ih _ hc with h | h | h
        · simp at h
          rcases h with h | h | h
          · exact .inl h
          · exact .inr (.inl h)
          · exact .inr (.inr ⟨f, by simp, h⟩)
        · exact .inr (.inl h)
        · exact .inr (.inr (up h))

theorem relRun_mem {c : UInt8} (fs : List (List UInt8)) (out : List UInt8) (hc : c ∈ relRun fs out) : c ∈ out ∨ c = 47 ∨ ∃ f ∈ fs, c ∈ f := by
  induction fs generalizing out with
  | nil => exact .inl hc
  | cons f fs ih =>
    have up : (∃ g ∈ fs, c ∈ g) → ∃ g ∈ f :: fs, c ∈ g := fun ⟨g, h1, h2⟩ => ⟨g, by simp [h1], h2⟩
    unfold relRun at hc
    split at hc
    · exact (ih _ hc).elim .inl (fun e => .inr (e.elim .inl (fun x => .inr (up x))))
    · rcases absRun_mem _ _ hc with h | h | h
      · simp at h
        exact h.elim .inl (fun h => .inr (.inr ⟨f, by simp, h⟩))
      · exact .inr (.inl h)
      · exact .inr (.inr (up h))

theorem fields_mem {c : UInt8} (l : List UInt8) : (∃ f ∈ fields l, c ∈ f) → c ∈ l := by
  induction l with
  | nil => simp [fields]
  | cons x l ih =>
    by_cases hx : x = 47
    · subst hx
      simp only [fields, if_true]
      rintro ⟨f, hf, hc⟩
      rcases List.mem_cons.1 hf with rfl | hf
      · simp at hc
      · exact List.mem_cons_of_mem _ (ih ⟨f, hf, hc⟩)
    · simp only [fields, hx, if_false]
      cases h : fields l with
      | nil => exact absurd h (fields_ne l)
      | cons g gs =>
        rw [h] at ih
        rintro ⟨f, hf, hc⟩
        rcases List.mem_cons.1 hf with rfl | hf
        · rcases List.mem_cons.1 hc with rfl | hc
          · simp
          · exact List.mem_cons_of_mem _ (ih ⟨g, by simp, hc⟩)
        · exact List.mem_cons_of_mem _ (ih ⟨f, by simp [hf], hc⟩)

/-- No byte but the slash is new. -/
theorem rd_mem {c : UInt8} (l : List UInt8) (h47 : c ≠ 47) (h : c ∈ rd l) : c ∈ l := by
  rcases relRun_mem _ _ h with h | h | h
  · simp at h
  · exact absurd h h47
  · exact fields_mem l h

/-! The search for a dot field, at a place k, its field begun at a -/
theorem df_split {l : List UInt8} {a k : Nat} (hak : a ≤ k) (hk : k < l.length) (hb : l[k] = 47) : l.drop a = (l.drop a).take (k - a) ++ 47 :: l.drop (k + 1) := by
  have e : (l.drop a).drop (k - a) = 47 :: l.drop (k + 1) := by
    rw [List.drop_drop, show a + (k - a) = k from by omega, List.drop_eq_getElem_cons hk, hb]
  rw [← e, List.take_append_drop]

theorem df_mid {s : ByteArray} {a k : Nat} (hak : a ≤ k) (hlt : k < s.size) (hb : (((s[k]).toNat : Int) == 47) = true) (hn : (47 : UInt8) ∉ (s.data.toList.drop a).take (k - a)) :
    hasDot (s.data.toList.drop a) = (isDot (s.extract a k).toList || hasDot (s.data.toList.drop (k + 1))) := by
  have hl : k < s.data.toList.length := by rw [← size_toList]; exact hlt
  have hb' : s.data.toList[k] = 47 := by
    rw [← getElem_byte s k hlt]
    simp only [beq_iff_eq] at hb
    exact UInt8.toNat.inj (by show _ = 47; omega)
  have e := df_split hak hl hb'
  rw [Lib.extract_toList]
  rw [show hasDot (s.data.toList.drop a) = hasDot ((s.data.toList.drop a).take (k - a) ++ 47 :: s.data.toList.drop (k + 1)) from congrArg hasDot e, hasDot_app, hasDot_one hn]

theorem df_end {s : ByteArray} {a k : Nat} (hk : ¬ k < s.size) (hn : (47 : UInt8) ∉ (s.data.toList.drop a).take (k - a)) :
    hasDot (s.data.toList.drop a) = isDot (s.extract a k).toList := by
  rw [Lib.extract_toList]
  have e : (s.data.toList.drop a).take (k - a) = s.data.toList.drop a := List.take_of_length_le (by rw [List.length_drop, ← size_toList]; omega)
  rw [e] at hn ⊢
  exact hasDot_one hn

theorem df_step {s : ByteArray} {a k : Nat} (hak : a ≤ k) (hlt : k < s.size) (hb : (((s[k]).toNat : Int) == 47) = false) (hn : (47 : UInt8) ∉ (s.data.toList.drop a).take (k - a)) :
    (47 : UInt8) ∉ (s.data.toList.drop a).take (k + 1 - a) := by
  have hl : k - a < (s.data.toList.drop a).length := by rw [List.length_drop, ← size_toList]; omega
  rw [show k + 1 - a = (k - a) + 1 from by omega]
  refine take_step hl hn ?_
  rw [List.getElem_drop]
  simp only [show a + (k - a) = k from by omega]
  rw [← getElem_byte s k hlt]
  intro e
  rw [e] at hb
  exact absurd hb (by decide)

theorem isDot_no {f : List UInt8} (h : (f == [46]) = false ∧ (f == [46, 46]) = false) : isDot f = false := by simp [isDot, h.1, h.2]
theorem isDot_yes {f : List UInt8} (h : (f == [46]) = true ∨ (f == [46, 46]) = true) : isDot f = true := by rcases h with h | h <;> simp [isDot, h]
theorem isDot_one {f : List UInt8} (h : f = [46]) : isDot f = true := by rw [h]; rfl

end Go.Proofs.Qxb6605311a.Pl
