/-
  The segment-stack model of dot-segment removal, in lists: pieces, what a pop and a push do, and that it comes to rd. No program.
-/
import Derived.Test.Qxb6605311aPlainC
namespace Go.Proofs.Qxb6605311a.Pl
open Go

/-- A piece that opens with a slash and has no other. -/
def Good (p : List UInt8) : Prop := ∃ f, p = 47 :: f ∧ (47 : UInt8) ∉ f

def Wf : List (List UInt8) → Prop
  | [] => True
  | p :: ps => (Good p ∨ (47 : UInt8) ∉ p) ∧ ∀ q ∈ ps, Good q

theorem wf_snoc {ps : List (List UInt8)} {q : List UInt8} (h : Wf ps) (hq : Good q) : Wf (ps ++ [q]) := by
  cases ps with
  | nil => exact ⟨.inl hq, by simp⟩
  | cons p ps =>
    refine ⟨h.1, fun r hr => ?_⟩
    rcases List.mem_append.1 hr with hr | hr
    · exact h.2 r hr
    · rw [List.mem_singleton.1 hr]; exact hq

theorem wf_dropLast {ps : List (List UInt8)} (h : Wf ps) : Wf ps.dropLast := by
  cases ps with
  | nil => exact h
  | cons p ps =>
    cases ps with
    | nil => exact True.intro
    | cons q qs => exact ⟨h.1, fun r hr => h.2 r (List.dropLast_subset _ hr)⟩

theorem wf_pop {ps : List (List UInt8)} (h : Wf ps) : pop ps.flatten = ps.dropLast.flatten := by
  cases ps with
  | nil => rfl
  | cons p ps =>
    rcases List.eq_nil_or_concat ps with rfl | ⟨init, q, rfl⟩
    · simp only [List.flatten_cons, List.flatten_nil, List.append_nil, List.dropLast_singleton]
      rcases h.1 with ⟨f, rfl, hf⟩ | hp
      · exact pop_at [] hf
      · exact pop_none hp
    · obtain ⟨f, rfl, hf⟩ := h.2 q (by simp)
      have e1 : (p :: init.concat (47 :: f)).flatten = (p :: init).flatten ++ 47 :: f := by simp [List.concat_eq_append]
      have e2 : (p :: init.concat (47 :: f)).dropLast = p :: init := by
        rw [List.concat_eq_append, ← List.cons_append, List.dropLast_concat]
      rw [e1, e2]
      exact pop_at _ hf

/-! One field of the third loop -/
theorem run_push {f : List UInt8} {fs : List (List UInt8)} {ps : List (List UInt8)} {out : List UInt8} (hd : isDot f = false) (h : absRun (f :: fs) ps.flatten = out) : absRun fs (ps ++ [47 :: f]).flatten = out := by
  have h1 : f ≠ [46] := by rintro rfl; simp [isDot] at hd
  have h2 : f ≠ [46, 46] := by rintro rfl; simp [isDot] at hd
  rw [← h]
  simp [absRun, h1, h2]

theorem run_dot {fs : List (List UInt8)} {ps : List (List UInt8)} {out : List UInt8} (hl : fs ≠ []) (h : absRun ([46] :: fs) ps.flatten = out) : absRun fs ps.flatten = out := by
  rw [← h]; simp [absRun, hl]
theorem run_dot_last {ps : List (List UInt8)} {out : List UInt8} (h : absRun ([46] :: []) ps.flatten = out) : absRun [] (ps ++ [[47]]).flatten = out := by
  rw [← h]; simp [absRun]
theorem run_up {fs : List (List UInt8)} {ps : List (List UInt8)} {out : List UInt8} (hw : Wf ps) (hl : fs ≠ []) (h : absRun ([46, 46] :: fs) ps.flatten = out) : absRun fs ps.dropLast.flatten = out := by
  rw [← h, ← wf_pop hw]; simp [absRun, hl]
theorem run_up_last {ps : List (List UInt8)} {out : List UInt8} (hw : Wf ps) (h : absRun ([46, 46] :: []) ps.flatten = out) : absRun [] (ps.dropLast ++ [[47]]).flatten = out := by
  rw [← h]
  simp [absRun, wf_pop hw]

theorem good_slash : Good [47] := ⟨[], rfl, by simp⟩
theorem good_field {f : List UInt8} (h : (47 : UInt8) ∉ f) : Good (47 :: f) := ⟨f, rfl, h⟩

/-- Behind the first loop: the first field is no dot. -/
theorem first_field {t : ByteArray} (h1 : Lib.hasPrefix t.data.toList [46, 46, 47] = false) (h2 : Lib.hasPrefix t.data.toList [46, 47] = false) (h7 : (t.toList == [46]) = false) (h8 : (t.toList == [46, 46]) = false)
    {f : List UInt8} {fs : List (List UInt8)} (hf : fields t.data.toList = f :: fs) : rdFrom t.data.toList [] = absRun fs f ∧ Wf (if f = [] then [] else [f]) ∧ (if f = [] then [] else [f]).flatten = f := by
  have n7 := bne_data h7
  have n8 := bne_data h8
  have hj := join_fields t.data.toList
  have hp := fields_pure t.data.toList f (by rw [hf]; simp)
  rw [hf] at hj
  simp only [joinF] at hj
  have hnd : isDot f = false := by
    cases hd : isDot f with
    | false => rfl
    | true =>
      exfalso
      simp only [isDot, Bool.or_eq_true, beq_iff_eq] at hd
      cases fs with
      | nil =>
        simp only [tails_nil, List.append_nil] at hj
        rcases hd with rfl | rfl
        · exact n7 hj.symm
        · exact n8 hj.symm
      | cons g gs =>
        rw [tails_cons] at hj
        rcases hd with rfl | rfl
        · exact pre_no h2 _ (by rw [← hj]; rfl)
        · exact pre_no h1 _ (by rw [← hj]; rfl)
  refine ⟨by simp [rdFrom, hf, relRun, hnd], ?_, ?_⟩
  · split
    · exact True.intro
    · exact ⟨.inr hp, by simp⟩
  · split
    · rename_i e; rw [e]; rfl
    · simp

/-- The second loop: a field ends at k. -/
theorem gather_mid {s : ByteArray} {a k : Nat} {gs : List (List UInt8)} (hak : a ≤ k) (hlt : k < s.size) (hb : (((s[k]).toNat : Int) == 47) = true) (hn : (47 : UInt8) ∉ (s.data.toList.drop a).take (k - a))
    (h : fields s.data.toList = gs ++ fields (s.data.toList.drop a)) : fields s.data.toList = (gs ++ [(s.extract a k).data.toList]) ++ fields (s.data.toList.drop (k + 1)) := by
  have hl : k < s.data.toList.length := by rw [← size_toList]; exact hlt
  have hb' : s.data.toList[k] = 47 := by
    rw [← getElem_byte s k hlt]
    simp only [beq_iff_eq] at hb
    exact UInt8.toNat.inj (by show _ = 47; omega)
  have e := df_split hak hl hb'
  rw [Lib.extract_data]
  have e2 : fields (s.data.toList.drop a) = (s.data.toList.drop a).take (k - a) :: fields (s.data.toList.drop (k + 1)) := by
    rw [show fields (s.data.toList.drop a) = fields ((s.data.toList.drop a).take (k - a) ++ 47 :: s.data.toList.drop (k + 1)) from congrArg fields e, fields_cut hn]
  rw [h, e2]
  simp

theorem gather_end {s : ByteArray} {a k : Nat} {gs : List (List UInt8)} (hk : ¬ k < s.size) (hn : (47 : UInt8) ∉ (s.data.toList.drop a).take (k - a))
    (h : fields s.data.toList = gs ++ fields (s.data.toList.drop a)) : fields s.data.toList = gs ++ [(s.extract a s.size).data.toList] := by
  have e : (s.data.toList.drop a).take (k - a) = s.data.toList.drop a := List.take_of_length_le (by rw [List.length_drop, ← size_toList]; omega)
  rw [e] at hn
  rw [ex_end, h, fields_one hn]

theorem joinF_len {f : List UInt8} {fs : List (List UInt8)} (h : f ∈ fs) : f.length ≤ (tails fs).length := by
  induction fs with
  | nil => simp at h
  | cons g gs ih =>
    rw [tails_cons, List.length_cons, List.length_append]
    rcases List.mem_cons.1 h with rfl | h
    · omega
    · have := ih h; omega

theorem field_len (l : List UInt8) : ∀ f ∈ fields l, f.length ≤ l.length := by
  intro f hf
  have hj := congrArg List.length (join_fields l)
  cases h : fields l with
  | nil => exact absurd h (fields_ne l)
  | cons g gs =>
    rw [h] at hj hf
    simp only [joinF, List.length_append] at hj
    rcases List.mem_cons.1 hf with rfl | hf
    · omega
    · have := joinF_len hf; omega

/-! The third loop's ways, over the byte strings themselves -/
def St (ps : List ByteArray) (fs : List (List UInt8)) (out : List UInt8) : Prop := Wf (ps.map (·.data.toList)) ∧ absRun fs (ps.map (·.data.toList)).flatten = out

theorem slash_data (x : ByteArray) : ({ data := #[47] } ++ x : ByteArray).data.toList = 47 :: x.data.toList := by
  rw [ByteArray.data_append, Array.toList_append]; rfl

theorem st_push {ps : List ByteArray} {x : ByteArray} {fs : List (List UInt8)} {out : List UInt8} (h : St ps (x.data.toList :: fs) out) (hx : (47 : UInt8) ∉ x.data.toList) (h1 : (x.toList == [46]) = false) (h2 : (x.toList == [46, 46]) = false) :
    St (ps ++ [{ data := #[47] } ++ x]) fs out := by
  have hd : isDot x.data.toList = false := by rw [← Lib.toList_data]; exact isDot_no ⟨h1, h2⟩
  have e : (ps ++ [{ data := #[47] } ++ x]).map (·.data.toList) = ps.map (·.data.toList) ++ [47 :: x.data.toList] := by rw [List.map_append, List.map_singleton, slash_data]
  unfold St
  rw [e]
  exact ⟨wf_snoc h.1 (good_field hx), run_push hd h.2⟩

theorem st_dot {ps : List ByteArray} {x : ByteArray} {fs : List (List UInt8)} {out : List UInt8} (h : St ps (x.data.toList :: fs) out) (h1 : (x.toList == [46]) = true) (hl : fs ≠ []) : St ps fs out := by
  unfold St at h
  rw [beq_data h1] at h
  exact ⟨h.1, run_dot hl h.2⟩

theorem st_dot_last {ps : List ByteArray} {x : ByteArray} {fs : List (List UInt8)} {out : List UInt8} (h : St ps (x.data.toList :: fs) out) (h1 : (x.toList == [46]) = true) (hl : fs = []) : St (ps ++ [{ data := #[47] }]) fs out := by
  subst hl
  unfold St at h
  rw [beq_data h1] at h
  unfold St
  have e : (ps ++ [({ data := #[47] } : ByteArray)]).map (·.data.toList) = ps.map (·.data.toList) ++ [[47]] := by rw [List.map_append]; rfl
  rw [e]
  exact ⟨wf_snoc h.1 good_slash, run_dot_last h.2⟩

theorem st_up {ps qs : List ByteArray} {x : ByteArray} {fs : List (List UInt8)} {out : List UInt8} (h : St ps (x.data.toList :: fs) out) (hq : ps.dropLast = qs) (h1 : (x.toList == [46, 46]) = true) (hl : fs ≠ []) : St qs fs out := by
  subst hq
  unfold St at h
  rw [beq_data h1] at h
  have e : ps.dropLast.map (·.data.toList) = (ps.map (·.data.toList)).dropLast := by rw [List.map_dropLast]
  unfold St
  rw [e]
  exact ⟨wf_dropLast h.1, run_up h.1 hl h.2⟩

theorem st_up_last {ps qs : List ByteArray} {x : ByteArray} {fs : List (List UInt8)} {out : List UInt8} (h : St ps (x.data.toList :: fs) out) (hq : ps.dropLast = qs) (h1 : (x.toList == [46, 46]) = true) (hl : fs = []) : St (qs ++ [{ data := #[47] }]) fs out := by
  subst hq
  subst hl
  unfold St at h
  rw [beq_data h1] at h
  have e : (ps.dropLast ++ [({ data := #[47] } : ByteArray)]).map (·.data.toList) = (ps.map (·.data.toList)).dropLast ++ [[47]] := by rw [List.map_append, List.map_dropLast]; rfl
  unfold St
  rw [e]
  exact ⟨wf_snoc (wf_dropLast h.1) good_slash, run_up_last h.1 h.2⟩

/-! The fourth loop: the first k pieces, joined -/
def upTo (ps : List ByteArray) (k : Nat) : List UInt8 := ((ps.take k).map (·.data.toList)).flatten

theorem upTo_zero (ps : List ByteArray) : upTo ps 0 = [] := by simp [upTo]
theorem upTo_succ {ps : List ByteArray} {k : Nat} (h : k < ps.length) : upTo ps (k + 1) = upTo ps k ++ ps[k].data.toList := by
  unfold upTo
  rw [List.take_succ_eq_append_getElem h, List.map_append, List.flatten_append, List.map_singleton, List.flatten_singleton]
theorem upTo_all {ps : List ByteArray} {out : List UInt8} (h : St ps [] out) : upTo ps ps.length = out := by
  unfold upTo
  rw [List.take_length]
  exact h.2
theorem upTo_le (ps : List ByteArray) (k : Nat) : (upTo ps k).length ≤ (upTo ps ps.length).length := by
  by_cases h : k ≤ ps.length
  · have e : upTo ps ps.length = upTo ps k ++ ((ps.drop k).map (·.data.toList)).flatten := by
      unfold upTo
      rw [List.take_length, ← List.flatten_append, ← List.map_append, List.take_append_drop]
    rw [e]; simp
  · unfold upTo
    rw [List.take_of_length_le (by omega), List.take_length]
    exact Nat.le_refl _

end Go.Proofs.Qxb6605311a.Pl
