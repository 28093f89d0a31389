/-
  More plain facts on the parts of a reference. No program.
-/
import Derived.Test.Qxb6605311aPlainE
namespace Go.Proofs.Qxb6605311a.Pl
open Go

theorem part_sizes {l : List UInt8} {p : Parts} (h : split l = p) : p.sc.length + p.au.length + p.pa.length + p.qu.length + p.fr.length ≤ l.length := by
  subst h
  have hj := congrArg List.length (join_split l)
  have hc := split_canon l
  have e1 : (split l).sc.length ≤ (joinA (split l)).length := by
    unfold joinA
    cases h : (split l).hs with
    | true => simp
    | false => rw [hc.noS h]; simp
  have e2 : (split l).au.length ≤ (joinB (split l)).length := by
    unfold joinB
    cases h : (split l).ha with
    | true => simp; omega
    | false => rw [hc.noA h]; simp
  have e3 : (split l).qu.length ≤ (joinQ (split l)).length := by
    unfold joinQ
    cases h : (split l).hq with
    | true => simp
    | false => rw [hc.noQ h]; simp
  have e4 : (split l).fr.length ≤ (joinH (split l)).length := by
    unfold joinH
    cases h : (split l).hf with
    | true => simp
    | false => rw [hc.noF h]; simp
  unfold join at hj
  simp only [List.length_append] at hj
  omega

theorem join_len (p : Parts) : (join p).length ≤ p.sc.length + p.au.length + p.pa.length + p.qu.length + p.fr.length + 5 := by
  unfold join
  simp only [List.length_append]
  have e1 : (joinA p).length ≤ p.sc.length + 1 := by unfold joinA; split <;> simp
  have e2 : (joinB p).length ≤ p.au.length + 2 := by unfold joinB; split <;> simp
  have e3 : (joinQ p).length ≤ p.qu.length + 1 := by unfold joinQ; split <;> simp
  have e4 : (joinH p).length ≤ p.fr.length + 1 := by unfold joinH; split <;> simp
  omega

end Go.Proofs.Qxb6605311a.Pl
