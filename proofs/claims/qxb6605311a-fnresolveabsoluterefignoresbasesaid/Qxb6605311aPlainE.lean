/-
  The five parts of a reference, in lists: split, join, the canonical test, and their laws. No program.
-/
import Derived.Test.Qxb6605311aPlainC
namespace Go.Proofs.Qxb6605311a.Pl
open Go

/-- Whether a byte stands in a text. -/
def hasB (l : List UInt8) (c : UInt8) : Bool := l.contains c
theorem hasB_true {l : List UInt8} {c : UInt8} : hasB l c = true ↔ c ∈ l := by unfold hasB; exact List.contains_iff_mem
theorem hasB_false {l : List UInt8} {c : UInt8} : hasB l c = false ↔ c ∉ l := by
  rw [← hasB_true]; cases hasB l c <;> simp

def bef (l : List UInt8) (c : UInt8) : List UInt8 := l.takeWhile (· != c)
def from_ (l : List UInt8) (c : UInt8) : List UInt8 := l.dropWhile (· != c)
def aft (l : List UInt8) (c : UInt8) : List UInt8 := (from_ l c).drop 1

theorem bef_none {l : List UInt8} {c : UInt8} (h : c ∉ l) : bef l c = l ∧ from_ l c = [] ∧ aft l c = [] := by
  have h1 : ∀ x ∈ l, (x != c) = true := fun x hx => by simp; rintro rfl; exact h hx
  have e2 : from_ l c = [] := by
    unfold from_
    clear h
    induction l with
    | nil => rfl
    | cons x l ih =>
      have hx := h1 x (by simp)
      rw [List.dropWhile_cons, if_pos hx]
      exact ih (fun y hy => h1 y (by simp [hy]))
  refine ⟨?_, e2, by unfold aft; rw [e2]; rfl⟩
  unfold bef
  have := List.takeWhile_append_dropWhile (p := (· != c)) (l := l)
  unfold from_ at e2
  rw [e2, List.append_nil] at this
  exact this

theorem bef_at {a b : List UInt8} {c : UInt8} (h : c ∉ a) : bef (a ++ c :: b) c = a ∧ from_ (a ++ c :: b) c = c :: b ∧ aft (a ++ c :: b) c = b := by
  have h1 : ∀ x ∈ a, (x != c) = true := fun x hx => by simp; rintro rfl; exact h hx
  have e2 : from_ (a ++ c :: b) c = c :: b := by
    unfold from_
    rw [List.dropWhile_append_of_pos h1]
    simp
  refine ⟨?_, e2, by unfold aft; rw [e2]; rfl⟩
  unfold bef
  rw [List.takeWhile_append_of_pos h1]
  simp

theorem bef_mem {l : List UInt8} {c x : UInt8} (h : x ∈ bef l c) : x ∈ l := by
  rcases cut_or l c with h1 | ⟨a, b, rfl, h1⟩
  · rwa [(bef_none h1).1] at h
  · rw [(bef_at h1).1] at h; simp [h]
theorem bef_not (l : List UInt8) (c : UInt8) : c ∉ bef l c := by
  rcases cut_or l c with h1 | ⟨a, b, rfl, h1⟩
  · rwa [(bef_none h1).1]
  · rwa [(bef_at h1).1]
theorem from_mem {l : List UInt8} {c x : UInt8} (h : x ∈ from_ l c) : x ∈ l := by
  rcases cut_or l c with h1 | ⟨a, b, rfl, h1⟩
  · rw [(bef_none h1).2.1] at h; simp at h
  · rw [(bef_at h1).2.1] at h; simp at h ⊢; rcases h with rfl | h <;> simp [*]
theorem aft_mem {l : List UInt8} {c x : UInt8} (h : x ∈ aft l c) : x ∈ l := from_mem (List.mem_of_mem_drop h)
theorem bef_from (l : List UInt8) (c : UInt8) : bef l c ++ from_ l c = l := List.takeWhile_append_dropWhile
theorem bef_aft {l : List UInt8} {c : UInt8} (h : c ∈ l) : bef l c ++ c :: aft l c = l := by
  rcases cut_or l c with h1 | ⟨a, b, rfl, h1⟩
  · exact absurd h h1
  · rw [(bef_at h1).1, (bef_at h1).2.2]
theorem from_head (l : List UInt8) (c : UInt8) : from_ l c = [] ∨ ∃ r, from_ l c = c :: r := by
  rcases cut_or l c with h1 | ⟨a, b, rfl, h1⟩
  · exact .inl (bef_none h1).2.1
  · exact .inr ⟨b, (bef_at h1).2.1⟩
theorem bef_len (l : List UInt8) (c : UInt8) : (bef l c).length + (from_ l c).length = l.length := by
  have := congrArg List.length (bef_from l c)
  rwa [List.length_append] at this

structure Parts where
  sc : List UInt8
  au : List UInt8
  pa : List UInt8
  qu : List UInt8
  fr : List UInt8
  hs : Bool
  ha : Bool
  hq : Bool
  hf : Bool

/-- Does a text open with a scheme? -/
def schemeB (l : List UInt8) : Bool := decide (0 < Lib.indexByte l 58) && !hasB (bef l 58) 47

def split2 (l : List UInt8) : List UInt8 := bef (bef l 35) 63
def split3 (l : List UInt8) : List UInt8 := if schemeB (split2 l) then aft (split2 l) 58 else split2 l
def split (l : List UInt8) : Parts :=
  { sc := if schemeB (split2 l) then bef (split2 l) 58 else []
    au := if Lib.hasPrefix (split3 l) [47, 47] then bef ((split3 l).drop 2) 47 else []
    pa := if Lib.hasPrefix (split3 l) [47, 47] then from_ ((split3 l).drop 2) 47 else split3 l
    qu := aft (bef l 35) 63
    fr := aft l 35
    hs := schemeB (split2 l)
    ha := Lib.hasPrefix (split3 l) [47, 47]
    hq := hasB (bef l 35) 63
    hf := hasB l 35 }

def joinA (p : Parts) : List UInt8 := if p.hs then p.sc ++ [58] else []
def joinB (p : Parts) : List UInt8 := if p.ha then [47, 47] ++ p.au else []
def joinQ (p : Parts) : List UInt8 := if p.hq then 63 :: p.qu else []
def joinH (p : Parts) : List UInt8 := if p.hf then 35 :: p.fr else []
def join (p : Parts) : List UInt8 := joinA p ++ joinB p ++ p.pa ++ joinQ p ++ joinH p

def cA (p : Parts) : Bool := (!p.hs && !p.sc.isEmpty) || (!p.ha && !p.au.isEmpty) || (!p.hq && !p.qu.isEmpty) || (!p.hf && !p.fr.isEmpty)
def cB (p : Parts) : Bool := p.hs && (p.sc.isEmpty || hasB p.sc 58 || hasB p.sc 47 || hasB p.sc 63 || hasB p.sc 35)
def cC (p : Parts) : Bool := hasB p.au 47 || hasB p.au 63 || hasB p.au 35
def cD (p : Parts) : Bool := hasB p.pa 63 || hasB p.pa 35
def cE (p : Parts) : Bool := hasB p.qu 35
def cF (p : Parts) : Bool := if p.ha then (!p.pa.isEmpty && !Lib.hasPrefix p.pa [47]) else Lib.hasPrefix p.pa [47, 47]
def cG (p : Parts) : Bool := !p.hs && !p.ha && schemeB p.pa
def canonB (p : Parts) : Bool := !cA p && !cB p && !cC p && !cD p && !cE p && !cF p && !cG p

theorem pre_cons {l : List UInt8} {c : UInt8} (h : Lib.hasPrefix l [c] = true) : ∃ r, l = c :: r := by
  obtain ⟨r, hr⟩ := pre_yes h; exact ⟨r, hr⟩
theorem pre_mk (p r : List UInt8) : Lib.hasPrefix (p ++ r) p = true := by
  unfold Lib.hasPrefix
  rw [List.isPrefixOf_iff_prefix]
  exact List.prefix_append _ _

/-- What the canonical test says. -/
structure Canon (p : Parts) : Prop where
  noS : p.hs = false → p.sc = []
  noA : p.ha = false → p.au = []
  noQ : p.hq = false → p.qu = []
  noF : p.hf = false → p.fr = []
  sne : p.hs = true → p.sc ≠ []
  s58 : p.hs = true → (58 : UInt8) ∉ p.sc
  s47 : p.hs = true → (47 : UInt8) ∉ p.sc
  s63 : p.hs = true → (63 : UInt8) ∉ p.sc
  s35 : p.hs = true → (35 : UInt8) ∉ p.sc
  a47 : (47 : UInt8) ∉ p.au
  a63 : (63 : UInt8) ∉ p.au
  a35 : (35 : UInt8) ∉ p.au
  p63 : (63 : UInt8) ∉ p.pa
  p35 : (35 : UInt8) ∉ p.pa
  q35 : (35 : UInt8) ∉ p.qu
  pA : p.ha = true → p.pa = [] ∨ ∃ r, p.pa = 47 :: r
  pN : p.ha = false → Lib.hasPrefix p.pa [47, 47] = false
  pS : p.hs = false → p.ha = false → schemeB p.pa = false

theorem emp_true {l : List UInt8} : l.isEmpty = true ↔ l = [] := by cases l <;> simp
theorem emp_false {l : List UInt8} : l.isEmpty = false ↔ l ≠ [] := by cases l <;> simp

theorem canon_of (p : Parts) (h : canonB p = true) : Canon p := by
  simp only [canonB, Bool.and_eq_true, Bool.not_eq_true'] at h
  obtain ⟨⟨⟨⟨⟨⟨hA, hB⟩, hC⟩, hD⟩, hE⟩, hF⟩, hG⟩ := h
  simp only [cA, Bool.or_eq_false_iff, Bool.and_eq_false_iff, Bool.not_eq_false'] at hA
  obtain ⟨⟨⟨a1, a2⟩, a3⟩, a4⟩ := hA
  simp only [cC, Bool.or_eq_false_iff, hasB_false] at hC
  simp only [cD, Bool.or_eq_false_iff, hasB_false] at hD
  simp only [cE, hasB_false] at hE
  have hB' : p.hs = true → p.sc ≠ [] ∧ (58 : UInt8) ∉ p.sc ∧ (47 : UInt8) ∉ p.sc ∧ (63 : UInt8) ∉ p.sc ∧ (35 : UInt8) ∉ p.sc := by
    intro hs
    simp only [cB, hs, Bool.true_and, Bool.or_eq_false_iff, hasB_false, emp_false] at hB
    exact ⟨hB.1.1.1.1, hB.1.1.1.2, hB.1.1.2, hB.1.2, hB.2⟩
  have off : ∀ {b : Bool} {l : List UInt8}, (b = true ∨ l.isEmpty = true) → b = false → l = [] := by
    intro b l h hb
    rcases h with h | h
    · rw [hb] at h; cases h
    · exact emp_true.1 h
  exact {
    noS := off a1, noA := off a2, noQ := off a3, noF := off a4
    sne := fun h => (hB' h).1, s58 := fun h => (hB' h).2.1, s47 := fun h => (hB' h).2.2.1, s63 := fun h => (hB' h).2.2.2.1, s35 := fun h => (hB' h).2.2.2.2
    a47 := hC.1.1, a63 := hC.1.2, a35 := hC.2, p63 := hD.1, p35 := hD.2, q35 := hE
    pA := fun h => by
      simp only [cF, h, if_true, Bool.and_eq_false_iff, Bool.not_eq_false'] at hF
      rcases hF with hF | hF
      · exact .inl (emp_true.1 hF)
      · exact .inr (pre_cons hF)
    pN := fun h => by
      simp only [cF, h] at hF
      simpa using hF
    pS := fun h1 h2 => by
      simpa [cG, h1, h2] using hG }

theorem canon_mk (p : Parts) (h : Canon p) : canonB p = true := by
  have cAf : cA p = false := by
    simp only [cA, Bool.or_eq_false_iff, Bool.and_eq_false_iff, Bool.not_eq_false']
    have off : ∀ {b : Bool} {l : List UInt8}, (b = false → l = []) → b = true ∨ l.isEmpty = true := by
      intro b l h
      cases b with
      | true => exact .inl rfl
      | false => exact .inr (emp_true.2 (h rfl))
    exact ⟨⟨⟨off h.noS, off h.noA⟩, off h.noQ⟩, off h.noF⟩
  have cBf : cB p = false := by
    cases hs : p.hs with
    | false => simp [cB, hs]
    | true =>
      simp only [cB, hs, Bool.true_and, Bool.or_eq_false_iff, hasB_false, emp_false]
      exact ⟨⟨⟨⟨h.sne hs, h.s58 hs⟩, h.s47 hs⟩, h.s63 hs⟩, h.s35 hs⟩
  have cCf : cC p = false := by
    simp only [cC, Bool.or_eq_false_iff, hasB_false]; exact ⟨⟨h.a47, h.a63⟩, h.a35⟩
  have cDf : cD p = false := by
    simp only [cD, Bool.or_eq_false_iff, hasB_false]; exact ⟨h.p63, h.p35⟩
  have cEf : cE p = false := by
    simp only [cE, hasB_false]; exact h.q35
  have cFf : cF p = false := by
    cases ha : p.ha with
    | false => simp [cF, ha, h.pN ha]
    | true =>
      rcases h.pA ha with e | ⟨r, e⟩
      · simp [cF, ha, e]
      · have : Lib.hasPrefix p.pa [47] = true := by rw [e]; exact pre_mk [47] r
        simp [cF, ha, this]
  have cGf : cG p = false := by
    cases hs : p.hs with
    | true => simp [cG, hs]
    | false =>
      cases ha : p.ha with
      | true => simp [cG, ha]
      | false => simp [cG, hs, ha, h.pS hs ha]
  simp [canonB, cAf, cBf, cCf, cDf, cEf, cFf, cGf]

theorem scheme_cut {l : List UInt8} (h : schemeB l = true) : bef l 58 ++ 58 :: aft l 58 = l ∧ bef l 58 ≠ [] ∧ (47 : UInt8) ∉ bef l 58 := by
  simp only [schemeB, Bool.and_eq_true, decide_eq_true_eq, Bool.not_eq_true', hasB_false] at h
  rcases cut_or l 58 with h1 | ⟨a, b, rfl, h1⟩
  · rw [index_none h1] at h; omega
  · rw [index_at h1] at h
    rw [(bef_at h1).1] at h ⊢
    rw [(bef_at h1).2.2]
    refine ⟨rfl, ?_, h.2⟩
    rintro rfl
    simp at h

theorem scheme_at {a b : List UInt8} (h : (58 : UInt8) ∉ a) (hn : a ≠ []) (h47 : (47 : UInt8) ∉ a) : schemeB (a ++ 58 :: b) = true := by
  simp only [schemeB, index_at h, (bef_at h).1, hasB_false.2 h47, Bool.not_false, Bool.and_true, decide_eq_true_eq]
  have := List.length_pos_iff.2 hn
  omega

theorem scheme_slash (l : List UInt8) : schemeB (47 :: l) = false := by
  rcases cut_or (47 :: l) 58 with h | ⟨a, b, e, h⟩
  · simp [schemeB, index_none h]
  · cases a with
    | nil => simp at e
    | cons x a =>
      rw [List.cons_append] at e
      injection e with e1 e2
      subst e1
      have : (47 :: l : List UInt8) = (47 :: a) ++ 58 :: b := by rw [e2]; rfl
      rw [this]
      have h47 : hasB (bef ((47 :: a) ++ 58 :: b) 58) 47 = true := by rw [(bef_at h).1, hasB_true]; simp
      simp only [schemeB, h47, Bool.not_true, Bool.and_false]

theorem split3_eq (l : List UInt8) : joinA (split l) ++ split3 l = split2 l := by
  unfold joinA split3
  simp only [split]
  by_cases h : schemeB (split2 l) = true
  case neg => simp [h]
  case pos =>
    have := (scheme_cut h).1
    simpa [h] using this

theorem splitB_eq (l : List UInt8) : joinB (split l) ++ (split l).pa = split3 l := by
  unfold joinB
  simp only [split]
  by_cases h : Lib.hasPrefix (split3 l) [47, 47] = true
  case neg => simp [h]
  case pos =>
    obtain ⟨r, hr⟩ := pre_yes h
    simp only [h, if_true]
    rw [hr]
    simp [bef_from]

theorem splitQ_eq (l : List UInt8) : split2 l ++ joinQ (split l) = bef l 35 := by
  unfold joinQ split2
  simp only [split]
  by_cases h : hasB (bef l 35) 63 = true
  case neg =>
    have h' := hasB_false.1 (Bool.not_eq_true _ ▸ h)
    simp [h, (bef_none h').1]
  case pos =>
    have := bef_aft (hasB_true.1 h)
    simpa [h] using this

theorem splitH_eq (l : List UInt8) : bef l 35 ++ joinH (split l) = l := by
  unfold joinH
  simp only [split]
  by_cases h : hasB l 35 = true
  case neg =>
    have h' := hasB_false.1 (Bool.not_eq_true _ ▸ h)
    simp [h, (bef_none h').1]
  case pos =>
    have := bef_aft (hasB_true.1 h)
    simpa [h] using this

theorem join_split (l : List UInt8) : join (split l) = l := by
  have h1 := split3_eq l
  have h2 := splitB_eq l
  have h3 := splitQ_eq l
  have h4 := splitH_eq l
  unfold join
  rw [List.append_assoc (joinA (split l)), h2, h1, h3, h4]

theorem split2_not35 (l : List UInt8) : (35 : UInt8) ∉ split2 l := fun h => bef_not l 35 (bef_mem h)
theorem split2_not63 (l : List UInt8) : (63 : UInt8) ∉ split2 l := bef_not _ 63
theorem split3_mem {l : List UInt8} {c : UInt8} (h : c ∈ split3 l) : c ∈ split2 l := by
  rw [← split3_eq]; simp [h]
theorem pa_mem {l : List UInt8} {c : UInt8} (h : c ∈ (split l).pa) : c ∈ split2 l := by
  apply split3_mem; rw [← splitB_eq]; simp [h]

theorem split_canon (l : List UInt8) : Canon (split l) := by
  have au_mem : ∀ {c : UInt8}, c ∈ (split l).au → c ∈ split2 l := by
    intro c h
    apply split3_mem
    simp only [split] at h
    split at h
    · exact List.mem_of_mem_drop (bef_mem h)
    · simp at h
  exact {
    noS := fun h => by simp only [split] at h ⊢; rw [h]; rfl
    noA := fun h => by simp only [split] at h ⊢; rw [h]; rfl
    noQ := fun h => by simp only [split] at h ⊢; exact (bef_none (hasB_false.1 h)).2.2
    noF := fun h => by simp only [split] at h ⊢; exact (bef_none (hasB_false.1 h)).2.2
    sne := fun h => by simp only [split] at h ⊢; rw [h]; exact (scheme_cut h).2.1
    s58 := fun h => by simp only [split] at h ⊢; rw [h]; exact bef_not _ _
    s47 := fun h => by simp only [split] at h ⊢; rw [h]; exact (scheme_cut h).2.2
    s63 := fun h => by simp only [split] at h ⊢; rw [h]; exact fun e => split2_not63 l (bef_mem e)
    s35 := fun h => by simp only [split] at h ⊢; rw [h]; exact fun e => split2_not35 l (bef_mem e)
    a47 := by
      simp only [split]
      split
      · exact bef_not _ _
      · simp
    a63 := fun e => split2_not63 l (au_mem e)
    a35 := fun e => split2_not35 l (au_mem e)
    p63 := fun e => split2_not63 l (pa_mem e)
    p35 := fun e => split2_not35 l (pa_mem e)
    q35 := fun e => by simp only [split] at e; exact bef_not l 35 (aft_mem e)
    pA := fun h => by
      simp only [split] at h ⊢
      rw [h]
      exact from_head _ _
    pN := fun h => by
      simp only [split] at h ⊢
      rw [h]
      exact h
    pS := fun h1 h2 => by
      simp only [split] at h1 h2 ⊢
      rw [h2]
      simp only [Bool.false_eq_true, if_false]
      unfold split3
      rw [h1]
      exact h1 }

theorem cut_opt {X y : List UInt8} {c : UInt8} {h : Bool} (hX : c ∉ X) (hy : h = false → y = []) : bef (X ++ if h then c :: y else []) c = X ∧ aft (X ++ if h then c :: y else []) c = y ∧ hasB (X ++ if h then c :: y else []) c = h := by
  cases h with
  | true =>
    simp only [if_true]
    exact ⟨(bef_at hX).1, (bef_at hX).2.2, hasB_true.2 (by simp)⟩
  | false =>
    simp only [Bool.false_eq_true, if_false, List.append_nil]
    rw [hy rfl]
    exact ⟨(bef_none hX).1, (bef_none hX).2.2, hasB_false.2 hX⟩

theorem split_join (p : Parts) (h : Canon p) : split (join p) = p := by
  obtain ⟨sc, au, pa, qu, fr, hs, ha, hq, hf⟩ := p
  have m35 : (35 : UInt8) ∉ joinA ⟨sc, au, pa, qu, fr, hs, ha, hq, hf⟩ ++ joinB ⟨sc, au, pa, qu, fr, hs, ha, hq, hf⟩ ++ pa := by
    simp only [joinA, joinB, List.mem_append, not_or]
    refine ⟨⟨?_, ?_⟩, h.p35⟩
    · cases hs with
      | true => have := h.s35 rfl; simp at this ⊢; exact this
      | false => simp
    · cases ha with
      | true => have := h.a35; simp at this ⊢; exact this
      | false => simp
  have m63 : (63 : UInt8) ∉ joinA ⟨sc, au, pa, qu, fr, hs, ha, hq, hf⟩ ++ joinB ⟨sc, au, pa, qu, fr, hs, ha, hq, hf⟩ ++ pa := by
    simp only [joinA, joinB, List.mem_append, not_or]
    refine ⟨⟨?_, ?_⟩, h.p63⟩
    · cases hs with
      | true => have := h.s63 rfl; simp at this ⊢; exact this
      | false => simp
    · cases ha with
      | true => have := h.a63; simp at this ⊢; exact this
      | false => simp
  have m35q : (35 : UInt8) ∉ joinA ⟨sc, au, pa, qu, fr, hs, ha, hq, hf⟩ ++ joinB ⟨sc, au, pa, qu, fr, hs, ha, hq, hf⟩ ++ pa ++ joinQ ⟨sc, au, pa, qu, fr, hs, ha, hq, hf⟩ := by
    rw [List.mem_append, not_or]
    refine ⟨m35, ?_⟩
    simp only [joinQ]
    cases hq with
    | true => have := h.q35; simp at this ⊢; exact this
    | false => simp
  obtain ⟨e1, e2, e3⟩ := cut_opt (h := hf) (y := fr) m35q h.noF
  obtain ⟨e4, e5, e6⟩ := cut_opt (h := hq) (y := qu) m63 h.noQ
  have b1 : bef (join ⟨sc, au, pa, qu, fr, hs, ha, hq, hf⟩) 35 = joinA ⟨sc, au, pa, qu, fr, hs, ha, hq, hf⟩ ++ joinB ⟨sc, au, pa, qu, fr, hs, ha, hq, hf⟩ ++ pa ++ joinQ ⟨sc, au, pa, qu, fr, hs, ha, hq, hf⟩ := e1
  have b2 : split2 (join ⟨sc, au, pa, qu, fr, hs, ha, hq, hf⟩) = joinA ⟨sc, au, pa, qu, fr, hs, ha, hq, hf⟩ ++ joinB ⟨sc, au, pa, qu, fr, hs, ha, hq, hf⟩ ++ pa := by
    unfold split2; rw [b1]; exact e4
  have b3 : schemeB (split2 (join ⟨sc, au, pa, qu, fr, hs, ha, hq, hf⟩)) = hs ∧ (hs = true → bef (split2 (join ⟨sc, au, pa, qu, fr, hs, ha, hq, hf⟩)) 58 = sc) ∧ split3 (join ⟨sc, au, pa, qu, fr, hs, ha, hq, hf⟩) = joinB ⟨sc, au, pa, qu, fr, hs, ha, hq, hf⟩ ++ pa := by
    unfold split3
    rw [b2]
    cases hs with
    | true =>
      have e : joinA ⟨sc, au, pa, qu, fr, true, ha, hq, hf⟩ ++ joinB ⟨sc, au, pa, qu, fr, true, ha, hq, hf⟩ ++ pa = sc ++ 58 :: (joinB ⟨sc, au, pa, qu, fr, true, ha, hq, hf⟩ ++ pa) := by simp [joinA]
      have hb := scheme_at (b := joinB ⟨sc, au, pa, qu, fr, true, ha, hq, hf⟩ ++ pa) (h.s58 rfl) (h.sne rfl) (h.s47 rfl)
      rw [e]
      rw [show schemeB (sc ++ 58 :: (joinB ⟨sc, au, pa, qu, fr, true, ha, hq, hf⟩ ++ pa)) = true from hb]
      exact ⟨rfl, fun _ => (bef_at (h.s58 rfl)).1, by simp only [if_true]; exact (bef_at (h.s58 rfl)).2.2⟩
    | false =>
      have e : joinA ⟨sc, au, pa, qu, fr, false, ha, hq, hf⟩ ++ joinB ⟨sc, au, pa, qu, fr, false, ha, hq, hf⟩ ++ pa = joinB ⟨sc, au, pa, qu, fr, false, ha, hq, hf⟩ ++ pa := by simp [joinA]
      rw [e]
      have hb : schemeB (joinB ⟨sc, au, pa, qu, fr, false, ha, hq, hf⟩ ++ pa) = false := by
        cases ha with
        | true => simp only [joinB, if_true]; exact scheme_slash _
        | false => simp only [joinB, Bool.false_eq_true, if_false, List.nil_append]; exact h.pS rfl rfl
      rw [hb]
      exact ⟨rfl, (fun e => absurd e (by decide)), by simp⟩
  have b4 : Lib.hasPrefix (joinB ⟨sc, au, pa, qu, fr, hs, ha, hq, hf⟩ ++ pa) [47, 47] = ha := by
    cases ha with
    | true => simp only [joinB, if_true, List.append_assoc]; exact pre_mk [47, 47] _
    | false => simp only [joinB, Bool.false_eq_true, if_false, List.nil_append]; exact h.pN rfl
  have b5 : ha = true → bef ((joinB ⟨sc, au, pa, qu, fr, hs, ha, hq, hf⟩ ++ pa).drop 2) 47 = au ∧ from_ ((joinB ⟨sc, au, pa, qu, fr, hs, ha, hq, hf⟩ ++ pa).drop 2) 47 = pa := by
    intro e
    subst e
    have e : (joinB ⟨sc, au, pa, qu, fr, hs, true, hq, hf⟩ ++ pa).drop 2 = au ++ pa := by simp [joinB]
    rw [e]
    rcases h.pA rfl with hp | ⟨r, hp⟩
    · have hp' : pa = [] := hp
      subst hp'
      rw [List.append_nil]
      exact ⟨(bef_none h.a47).1, (bef_none h.a47).2.1⟩
    · have hp' : pa = 47 :: r := hp
      subst hp'
      exact ⟨(bef_at h.a47).1, (bef_at h.a47).2.1⟩
  unfold split
  rw [b3.1, b3.2.2, b4]
  have f1 : (if hs = true then bef (split2 (join ⟨sc, au, pa, qu, fr, hs, ha, hq, hf⟩)) 58 else []) = sc := by
    cases hs with
    | true => simp only [if_true]; exact b3.2.1 rfl
    | false => simp only [Bool.false_eq_true, if_false]; exact (h.noS rfl).symm
  have f2 : (if ha = true then bef ((joinB ⟨sc, au, pa, qu, fr, hs, ha, hq, hf⟩ ++ pa).drop 2) 47 else []) = au := by
    cases ha with
    | true => simp only [if_true]; exact (b5 rfl).1
    | false => simp only [Bool.false_eq_true, if_false]; exact (h.noA rfl).symm
  have f3 : (if ha = true then from_ ((joinB ⟨sc, au, pa, qu, fr, hs, ha, hq, hf⟩ ++ pa).drop 2) 47 else joinB ⟨sc, au, pa, qu, fr, hs, ha, hq, hf⟩ ++ pa) = pa := by
    cases ha with
    | true => simp only [if_true]; exact (b5 rfl).2
    | false => simp [joinB]
  have f4 : aft (bef (join ⟨sc, au, pa, qu, fr, hs, ha, hq, hf⟩) 35) 63 = qu := by rw [b1]; exact e5
  have f5 : hasB (bef (join ⟨sc, au, pa, qu, fr, hs, ha, hq, hf⟩) 35) 63 = hq := by rw [b1]; exact e6
  have f6 : aft (join ⟨sc, au, pa, qu, fr, hs, ha, hq, hf⟩) 35 = fr := e2
  have f7 : hasB (join ⟨sc, au, pa, qu, fr, hs, ha, hq, hf⟩) 35 = hf := e3
  rw [f1, f2, f3, f4, f5, f6, f7]

theorem head_slashL (l : List UInt8) (h : 0 < l.length) : Lib.hasPrefix l [47] = (((l[0]).toNat : Int) == 47) := by
  cases l with
  | nil => simp at h
  | cons c l =>
    simp only [List.getElem_cons_zero]
    rw [Bool.eq_iff_iff]
    simp only [Lib.hasPrefix, List.isPrefixOf, Bool.and_true, beq_iff_eq]
    constructor
    · rintro rfl; rfl
    · intro e; exact (UInt8.toNat.inj (show UInt8.toNat 47 = c.toNat by show 47 = _; omega))

theorem head_slash (s : ByteArray) (h : 0 < s.size) : Lib.hasPrefix s.data.toList [47] = (((s[0]).toNat : Int) == 47) := by
  rw [getElem_byte s 0 h]
  exact head_slashL _ (by rw [← size_toList]; exact h)

end Go.Proofs.Qxb6605311a.Pl
