/-
  The laws of resolution, in lists. No program.
-/
import Derived.Test.Qxb6605311aPlainG
namespace Go.Proofs.Qxb6605311a.Pl
open Go

theorem bef_app {x y : List UInt8} {c : UInt8} (h : c ∉ x) : bef (x ++ y) c = x ++ bef y c := by
  rcases cut_or y c with h1 | ⟨a, b, rfl, h1⟩
  · rw [(bef_none (l := x ++ y) (by simp [h, h1])).1, (bef_none h1).1]
  · rw [← List.append_assoc, (bef_at (a := x ++ a) (by simp [h, h1])).1, (bef_at h1).1]
theorem bef_cons (c : UInt8) (y : List UInt8) : bef (c :: y) c = [] := (bef_at (a := []) (b := y) (c := c) (by simp)).1
theorem split_pa (l : List UInt8) : (split l).pa = if Lib.hasPrefix (split3 l) [47, 47] then from_ ((split3 l).drop 2) 47 else split3 l := rfl
theorem from_app {x y : List UInt8} {c : UInt8} (h : c ∉ x) : from_ (x ++ y) c = from_ y c := by
  rcases cut_or y c with h1 | ⟨a, b, rfl, h1⟩
  · rw [(bef_none (l := x ++ y) (by simp [h, h1])).2.1, (bef_none h1).2.1]
  · rw [← List.append_assoc, (bef_at (a := x ++ a) (by simp [h, h1])).2.1, (bef_at h1).2.1]

/-! A reference without scheme, authority and path -/
theorem split_bare {l : List UInt8} (h : split2 l = []) : (split l).hs = false ∧ (split l).ha = false ∧ (split l).pa = [] := by
  have h1 : schemeB (split2 l) = false := by rw [h]; rfl
  have h3 : split3 l = [] := by unfold split3; rw [h1]; exact h
  refine ⟨by simp only [split]; exact h1, by simp only [split]; rw [h3]; rfl, ?_⟩
  simp only [split, h3]
  rfl

theorem front_split (l : List UInt8) : joinA (split l) ++ joinB (split l) ++ (split l).pa = split2 l := by
  rw [List.append_assoc, splitB_eq, split3_eq]

theorem resolve_bare {base ref : List UInt8} (h : split2 ref = []) : resolveL base ref = (if hasB (bef ref 35) 63 then split2 base else bef base 35) ++ ref := by
  obtain ⟨h1, h2, h3⟩ := split_bare h
  have hq : (split ref).hq = hasB (bef ref 35) 63 := rfl
  have hj := join_split ref
  have e1 : join (split ref) = joinQ (split ref) ++ joinH (split ref) := by
    unfold join joinA joinB
    rw [h1, h2, h3]
    simp
  rw [e1] at hj
  unfold resolveL resolveP
  rw [h1, h2, h3]
  simp only [Bool.false_eq_true, if_false, List.isEmpty_nil, if_true]
  rw [← hq]
  cases hqq : (split ref).hq with
  | true =>
    simp only [if_true]
    have e2 : join ⟨(split base).sc, (split base).au, (split base).pa, (split ref).qu, (split ref).fr, (split base).hs, (split base).ha, true, (split ref).hf⟩ = (joinA (split base) ++ joinB (split base) ++ (split base).pa) ++ (joinQ (split ref) ++ joinH (split ref)) := by
      simp [join, joinA, joinB, joinQ, joinH, hqq]
    rw [e2, front_split, hj]
  | false =>
    simp only [Bool.false_eq_true, if_false]
    have e2 : join ⟨(split base).sc, (split base).au, (split base).pa, (split base).qu, (split ref).fr, (split base).hs, (split base).ha, (split base).hq, (split ref).hf⟩ = ((joinA (split base) ++ joinB (split base) ++ (split base).pa) ++ joinQ (split base)) ++ (joinQ (split ref) ++ joinH (split ref)) := by
      simp [join, joinA, joinB, joinQ, joinH, hqq]
    rw [e2, front_split, splitQ_eq, hj]

theorem resolve_nil (base : List UInt8) : resolveL base [] = bef base 35 ++ [] := by
  have := resolve_bare (base := base) (ref := []) rfl
  simpa [hasB, bef] using this
theorem resolve_hash (base r : List UInt8) : resolveL base (35 :: r) = bef base 35 ++ 35 :: r := by
  have h0 : bef (35 :: r) 35 = [] := (bef_at (a := []) (b := r) (c := 35) (by simp)).1
  have := resolve_bare (base := base) (ref := 35 :: r) (by unfold split2; rw [h0]; rfl)
  rw [h0] at this
  simpa [hasB] using this
theorem resolve_query (base r : List UInt8) : resolveL base (63 :: r) = split2 base ++ 63 :: r := by
  have h0 : bef (63 :: r) 35 = 63 :: bef r 35 := bef_app (x := [63]) (y := r) (c := 35) (by decide)
  have h1 : bef (63 :: bef r 35) 63 = [] := (bef_at (a := []) (b := bef r 35) (c := 63) (by simp)).1
  have h2 : hasB (63 :: bef r 35) 63 = true := hasB_true.2 (by simp)
  have := resolve_bare (base := base) (ref := 63 :: r) (by unfold split2; rw [h0, h1])
  rw [h0, h2] at this
  simpa using this

/-! Sizes -/
theorem resolve_len (base ref : List UInt8) : (resolveL base ref).length ≤ base.length + ref.length + 6 := by
  have hB := part_sizes (l := base) rfl
  have hR := part_sizes (l := ref) rfl
  have h1 := rd_le (split ref).pa
  have h2 := rd_le (mergeL (split base).ha (split base).pa (split ref).pa)
  have h3 := merge_len (split base).ha (split base).pa (split ref).pa
  unfold resolveL
  have key : ∀ p : Parts, p.sc.length + p.au.length + p.pa.length + p.qu.length + p.fr.length ≤ base.length + ref.length + 1 → (join p).length ≤ base.length + ref.length + 6 := by
    intro p hp
    have := join_len p
    omega
  apply key
  unfold resolveP
  split
  · simp only; omega
  · split
    · simp only; omega
    · split
      · split
        · simp only; omega
        · simp only; omega
      · split
        · simp only; omega
        · simp only; omega

/-! A text that opens with a scheme -/
theorem scheme_front {sc rest : List UInt8} (hn : sc ≠ []) (h58 : (58 : UInt8) ∉ sc) (h47 : (47 : UInt8) ∉ sc) (h63 : (63 : UInt8) ∉ sc) (h35 : (35 : UInt8) ∉ sc) :
    schemeB (split2 (sc ++ 58 :: rest)) = true ∧ bef (split2 (sc ++ 58 :: rest)) 58 = sc := by
  have e : sc ++ 58 :: rest = (sc ++ [58]) ++ rest := by simp
  have e2 : split2 (sc ++ 58 :: rest) = sc ++ 58 :: bef (bef rest 35) 63 := by
    unfold split2
    rw [e, bef_app (by simp [h35]), bef_app (by simp [h63])]
    simp
  rw [e2]
  exact ⟨scheme_at h58 hn h47, (bef_at h58).1⟩

/-- What the resolved parts keep. -/
theorem resolve_scheme {base ref : List UInt8} (hB : (split base).hs = true) :
    schemeB (split2 (resolveL base ref)) = true ∧ bef (split2 (resolveL base ref)) 58 = (if (split ref).hs then (split ref).sc else (split base).sc) := by
  have cB := split_canon base
  have cR := split_canon ref
  unfold resolveL
  cases hR : (split ref).hs with
  | true =>
    have e : join (resolveP (split base) (split ref)) = (split ref).sc ++ 58 :: (joinB (split ref) ++ rd (split ref).pa ++ joinQ (split ref) ++ joinH (split ref)) := by
      simp [resolveP, hR, join, joinA, joinB, joinQ, joinH]
    rw [e]
    exact scheme_front (cR.sne hR) (cR.s58 hR) (cR.s47 hR) (cR.s63 hR) (cR.s35 hR)
  | false =>
    have e : ∃ x, join (resolveP (split base) (split ref)) = (split base).sc ++ 58 :: x := by
      unfold resolveP
      rw [hR]
      simp only [Bool.false_eq_true, if_false]
      split
      · exact ⟨_, by simp only [join, joinA, hB, if_true, List.append_assoc]; rfl⟩
      · split
        · split
          · exact ⟨_, by simp only [join, joinA, hB, if_true, List.append_assoc]; rfl⟩
          · exact ⟨_, by simp only [join, joinA, hB, if_true, List.append_assoc]; rfl⟩
        · exact ⟨_, by simp only [join, joinA, hB, if_true, List.append_assoc]; rfl⟩
    obtain ⟨x, hx⟩ := e
    rw [hx]
    exact scheme_front (cB.sne hB) (cB.s58 hB) (cB.s47 hB) (cB.s63 hB) (cB.s35 hB)

theorem front35 {p : Parts} (h1 : (35 : UInt8) ∉ p.sc) (h2 : (35 : UInt8) ∉ p.au) (h3 : (35 : UInt8) ∉ p.pa) (h4 : (35 : UInt8) ∉ p.qu) : (35 : UInt8) ∉ joinA p ++ joinB p ++ p.pa ++ joinQ p := by
  simp only [List.mem_append, not_or]
  refine ⟨⟨⟨?_, ?_⟩, h3⟩, ?_⟩
  · unfold joinA; split <;> simp [h1]
  · unfold joinB; split <;> simp [h2]
  · unfold joinQ; split <;> simp [h4]

theorem from_join {p : Parts} (h : (35 : UInt8) ∉ joinA p ++ joinB p ++ p.pa ++ joinQ p) : from_ (join p) 35 = joinH p := by
  unfold join
  rw [from_app h]
  unfold joinH
  split
  · exact (bef_at (a := []) (b := p.fr) (c := 35) (by simp)).2.1
  · rfl

theorem sc35 {p : Parts} (h : Canon p) : (35 : UInt8) ∉ p.sc := by
  cases hs : p.hs with
  | true => exact h.s35 hs
  | false => rw [h.noS hs]; simp

theorem resolve_fragment (base ref : List UInt8) : from_ (resolveL base ref) 35 = from_ ref 35 := by
  have cB := split_canon base
  have cR := split_canon ref
  have eR : from_ ref 35 = joinH (split ref) := by
    have := from_join (front35 (sc35 cR) cR.a35 cR.p35 cR.q35)
    rwa [join_split] at this
  have hrd : (35 : UInt8) ∉ rd (split ref).pa := fun e => cR.p35 (rd_mem _ (by decide) e)
  have hmg : (35 : UInt8) ∉ rd (mergeL (split base).ha (split base).pa (split ref).pa) := by
    intro e
    rcases merge_mem (by decide) (rd_mem _ (by decide) e) with h | h
    · exact cB.p35 h
    · exact cR.p35 h
  rw [eR]
  unfold resolveL
  have key : ∀ p : Parts, (35 : UInt8) ∉ p.sc → (35 : UInt8) ∉ p.au → (35 : UInt8) ∉ p.pa → (35 : UInt8) ∉ p.qu → p.fr = (split ref).fr → p.hf = (split ref).hf → from_ (join p) 35 = joinH (split ref) := by
    intro p h1 h2 h3 h4 h5 h6
    rw [from_join (front35 h1 h2 h3 h4)]
    unfold joinH
    rw [h5, h6]
  have sB := sc35 cB
  have sR := sc35 cR
  unfold resolveP
  split
  · exact key _ sR cR.a35 hrd cR.q35 rfl rfl
  · split
    · exact key _ sB cR.a35 hrd cR.q35 rfl rfl
    · split
      · split
        · exact key _ sB cB.a35 cB.p35 cR.q35 rfl rfl
        · exact key _ sB cB.a35 cB.p35 cB.q35 rfl rfl
      · split
        · exact key _ sB cB.a35 hrd cR.q35 rfl rfl
        · exact key _ sB cB.a35 hmg cR.q35 rfl rfl

/-! A reference with a scheme -/
def tailOf (l : List UInt8) : List UInt8 := joinQ (split l) ++ joinH (split l)
def preOf (l : List UInt8) : List UInt8 := joinA (split l) ++ joinB (split l)

theorem pre_tail (l : List UInt8) : preOf l ++ (split l).pa ++ tailOf l = l := by
  have := join_split l
  unfold join at this
  unfold preOf tailOf
  simpa using this
theorem head_tail (l : List UInt8) : split2 l ++ tailOf l = l := by
  rw [← front_split]; exact pre_tail l

theorem resolve_abs {base ref : List UInt8} (h : (split ref).hs = true) : resolveL base ref = preOf ref ++ rd (split ref).pa ++ tailOf ref := by
  unfold resolveL resolveP
  rw [h]
  simp only [if_true]
  simp [join, preOf, tailOf, joinA, joinB, joinQ, joinH, h]

theorem hasDot_from (u : List UInt8) (h : hasDot u = false) : hasDot (from_ u 47) = false := by
  rcases cut_or u 47 with h1 | ⟨a, b, rfl, h1⟩
  · rw [(bef_none h1).2.1]; rfl
  · rw [(bef_at h1).2.1]
    rw [hasDot_app] at h
    simp only [Bool.or_eq_false_iff] at h
    have := hasDot_app [] b
    simp only [List.nil_append] at this
    rw [this, h.2]
    rfl

theorem resolve_again {base base' ref : List UInt8} (h : (split ref).hs = true) : resolveL base' (resolveL base ref) = resolveL base ref := by
  have cR := split_canon ref
  have hab := resolve_abs (base := base) h
  obtain ⟨got, hg⟩ : ∃ got, got = resolveL base ref := ⟨_, rfl⟩
  rw [← hg] at hab ⊢
  have hcl := rd_clean (split ref).pa
  have nrd : ∀ c : UInt8, c ≠ 47 → c ∈ rd (split ref).pa → c ∈ (split ref).pa := fun c hc => rd_mem _ hc
  have s35 : (35 : UInt8) ∉ preOf ref ++ rd (split ref).pa := by
    intro e
    have h1 := front35 (p := split ref) (sc35 cR) cR.a35 cR.p35 cR.q35
    rcases List.mem_append.1 e with e | e
    · exact h1 (by unfold preOf at e; simp only [List.mem_append] at e ⊢; exact .inl (.inl e))
    · exact cR.p35 (nrd _ (by decide) e)
  have s63 : (63 : UInt8) ∉ preOf ref ++ rd (split ref).pa := by
    intro e
    have h2 := split2_not63 ref
    rw [← front_split] at h2
    rcases List.mem_append.1 e with e | e
    · exact h2 (List.mem_append.2 (.inl e))
    · exact cR.p63 (nrd _ (by decide) e)
  have e2 : split2 got = preOf ref ++ rd (split ref).pa := by
    have hQ : joinQ (split ref) = [] ∨ ∃ y, joinQ (split ref) = 63 :: y := by unfold joinQ; split; exact .inr ⟨_, rfl⟩; exact .inl rfl
    have hH : joinH (split ref) = [] ∨ ∃ y, joinH (split ref) = 35 :: y := by unfold joinH; split; exact .inr ⟨_, rfl⟩; exact .inl rfl
    have q35 : (35 : UInt8) ∉ joinQ (split ref) := by unfold joinQ; split <;> simp [cR.q35]
    have b1 : bef got 35 = preOf ref ++ rd (split ref).pa ++ joinQ (split ref) := by
      rw [hab]
      unfold tailOf
      rw [← List.append_assoc (preOf ref ++ rd (split ref).pa)]
      rw [bef_app (by rw [List.mem_append, not_or]; exact ⟨s35, q35⟩)]
      rcases hH with e | ⟨y, e⟩
      · rw [e]; simp [bef]
      · rw [e, bef_cons]; simp
    unfold split2
    rw [b1, bef_app s63]
    rcases hQ with e | ⟨y, e⟩
    · rw [e]; simp [bef]
    · rw [e, bef_cons]; simp
  have eA : joinA (split ref) = (split ref).sc ++ [58] := by unfold joinA; rw [h]; rfl
  have e2' : split2 got = (split ref).sc ++ 58 :: (joinB (split ref) ++ rd (split ref).pa) := by
    rw [e2]; unfold preOf; rw [eA]; simp
  have hs2 : schemeB (split2 got) = true := by rw [e2']; exact scheme_at (cR.s58 h) (cR.sne h) (cR.s47 h)
  have e3 : split3 got = joinB (split ref) ++ rd (split ref).pa := by
    unfold split3
    rw [hs2, e2']
    simp only [if_true]
    exact (bef_at (cR.s58 h)).2.2
  have hpa : hasDot (split got).pa = false := by
    rw [split_pa, e3]
    cases ha : (split ref).ha with
    | true =>
      have eB : joinB (split ref) = [47, 47] ++ (split ref).au := by unfold joinB; rw [ha]; rfl
      rw [eB, List.append_assoc, pre_mk]
      simp only [if_true]
      have : List.drop 2 ([47, 47] ++ ((split ref).au ++ rd (split ref).pa)) = (split ref).au ++ rd (split ref).pa := rfl
      rw [this, from_app cR.a47]
      exact hasDot_from _ hcl
    | false =>
      have eB : joinB (split ref) = [] := by unfold joinB; rw [ha]; rfl
      rw [eB, List.nil_append]
      by_cases hp : Lib.hasPrefix (rd (split ref).pa) [47, 47] = true
      · obtain ⟨r, hr⟩ := pre_yes hp
        rw [hp]
        simp only [if_true]
        rw [hr] at hcl ⊢
        have : List.drop 2 ([47, 47] ++ r) = r := rfl
        rw [this]
        apply hasDot_from
        have e5 : ([47, 47] ++ r : List UInt8) = [] ++ 47 :: ([] ++ 47 :: r) := rfl
        rw [e5, hasDot_app, hasDot_app] at hcl
        simp only [Bool.or_eq_false_iff] at hcl
        exact hcl.2.2
      · simp only [hp, Bool.false_eq_true, if_false]
        exact hcl
  have hsg : (split got).hs = true := hs2
  rw [resolve_abs hsg, rd_plain _ hpa, pre_tail]

end Go.Proofs.Qxb6605311a.Pl
