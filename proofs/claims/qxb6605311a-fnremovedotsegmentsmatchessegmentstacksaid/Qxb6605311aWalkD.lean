/-
  The walk of b1ModelRemoveDots (12).
-/
import Derived.Test.Qxb6605311aWalkC
import Derived.Test.Qxb6605311aPlainD
import Derived.OwnWalk
import Derived.Deep.DeepCutAuto
import Derived.WalkSmall
import Derived.Lib.AppendStr
import Derived.Laws.IdiomStrings
namespace Go.Proofs.Qxb6605311a
open Go.RowKit
set_option linter.unusedVariables false

theorem Try.info9 : (Try.prog.info? 9).map (fun i => (i.zero, i.size, i.bytes)) = some (some (.string ⟨#[]⟩), 1, 16) := by kernel_rfl
theorem Try.info5 : (Try.prog.info? 5).map (fun i => (i.zero, i.size, i.bytes)) = some (some (.int .u8 0), 1, 1) := by kernel_rfl

theorem cb1HasPrefix (s p : ByteArray) (w : World) (hs : s.size ≤ maxLen) (hp : p.size ≤ maxLen) :
    Calls Try.prog 28 #[.string s, .string p] w fun e w' => e = .returned (.bool (Lib.hasPrefix s.data.toList p.data.toList)) ∧ w = w' :=
  (b1HasPrefix_any s p w hs hp).mono fun _ _ h => ⟨h.1, h.2.symm⟩

/-- What 'string(b)' gives of a row of bytes that the call owns. -/
theorem own_string {w : World} {base : Nat} {v : Value} {n : Nat} {l : List UInt8} (h : w.ownsRow base 5 1 v n (Lib.byteCells l)) : (convert 36 9 v).run Try.prog w = .ok (.string ⟨l.toArray⟩) w := by
  have hn : l.length = n := by have := h.1; rw [Lib.byteCells_length] at this; omega
  rcases h.2 with ⟨rfl, h0⟩ | ⟨g, cap, cur, rfl, hb, hg, _, _, hcs, htake⟩
  · have : l = [] := by rw [h0] at hn; exact List.length_eq_zero_iff.1 hn
    subst this
    exact run_convert_bytes_nil w 36 5 Try.underlying36 Try.underlying5 0 0 9 Try.underlying9
  · subst hn
    refine run_convert_bytes_back w 36 9 5 ⟨g, 0, none⟩ cap l Try.underlying36 Try.underlying5 Try.underlying9 (fun j hj => ?_)
    exact h.cells (g := g) rfl j _ (by simp [Lib.byteCells, hj])

theorem own_form {w : World} {base : Nat} {e : TypeId} {size : Nat} {v : Value} {n : Nat} {xs : List Value} (h : w.ownsRow base e size v n xs) : ∃ p cap, v = .slice p n cap := by
  rcases h.2 with ⟨rfl, rfl⟩ | ⟨g, cap, cur, rfl, _⟩
  · exact ⟨none, 0, rfl⟩
  · exact ⟨_, cap, rfl⟩

theorem own_some {w : World} {base : Nat} {e : TypeId} {size : Nat} {p : Option Addr} {n cap : Nat} {xs : List Value} (h : w.ownsRow base e size (.slice p n cap) n xs) (hn : 0 < n) : ∃ g, p = some ⟨g, 0, none⟩ ∧ base ≤ g ∧ g < w.heap.size := by
  rcases h.2 with ⟨hv, h0⟩ | ⟨g, cap', cur, hv, hb, hg, _⟩
  · omega
  · injection hv with h1 h2 h3
    exact ⟨g, h1, hb, (Array.getElem?_eq_some_iff.1 hg).1⟩

theorem ret_str {a b : List UInt8} (h : a = b) : Ending.returned (.string ⟨a.toArray⟩) = .returned (.string ⟨b.toArray⟩) := by rw [h]
theorem hml (n : Nat) (h : n ≤ 65540) : n ≤ maxLen := by unfold maxLen; omega
theorem one_string (x : ByteArray) : ∀ u ∈ [Value.string x], u.oneCell' = true := by intro u hu; simp at hu; subst hu; rfl
theorem size_alloc_le {B : Nat} {w : World} (h : B ≤ w.heap.size) (o : Obj) : B ≤ (w.alloc o).heap.size := by simp; omega

theorem append_rel {W wr w1 : World} {v v' : Value} {ps : List ByteArray} {q : ByteArray} {o : Obj} (hbw : Below W.heap.size W wr) (hown : wr.ownsRow W.heap.size 9 1 v ps.length (ps.map Value.string))
    (hown' : w1.ownsRow W.heap.size 9 1 v' (ps.length + 1) (ps.map Value.string ++ [.string q])) (hgrow : (wr.alloc o).grownBy w1 v.ownBlock) :
    ∃ p' cap', v' = .slice p' (ps ++ [q]).length cap' ∧ w1.ownsRow W.heap.size 9 1 (.slice p' (ps ++ [q]).length cap') (ps ++ [q]).length ((ps ++ [q]).map Value.string) ∧ Below W.heap.size W w1 := by
  have e1 : ps.length + 1 = (ps ++ [q]).length := by simp
  have e2 : ps.map Value.string ++ [.string q] = (ps ++ [q]).map Value.string := by simp
  rw [e1, e2] at hown'
  obtain ⟨p', cap', hv⟩ := own_form hown'
  subst hv
  exact ⟨p', cap', rfl, hown', (hbw.alloc hbw.size _).grown hgrow (size_alloc_le hbw.size _) (fun k hk => (hown.lt k hk).1)⟩

theorem pop_rel {W wr : World} {p : Option Addr} {cap : Nat} {ps : List ByteArray} {q : ByteArray} (hown : wr.ownsRow W.heap.size 9 1 (.slice p (ps.length + 1) cap) (ps.length + 1) ((ps ++ [q]).map Value.string)) :
    ∃ g, p = some ⟨g, 0, none⟩ ∧ ps.length + 1 ≤ cap ∧ wr.ownsRow W.heap.size 9 1 (.slice (some ⟨g, 0, none⟩) ps.length cap) ps.length (ps.map Value.string) := by
  obtain ⟨g, hp, _, _⟩ := own_some hown (by omega)
  subst hp
  rw [List.map_append] at hown
  have hc : ps.length + 1 ≤ cap := by
    rcases hown.2 with ⟨hv, _⟩ | ⟨g', cap', cur, hv, _, _, hn, _⟩
    · cases hv
    · injection hv with _ _ h3
      omega
  exact ⟨g, rfl, hc, ownsRow_pop (by simp) hown⟩

set_option maxHeartbeats 4000000 in
set_option maxRecDepth 100000 in
theorem model_any (s : ByteArray) (w : World) (hs : s.size ≤ 65536) :
    Calls Try.prog 12 #[.string s] w fun e w' => e = .returned (.string ⟨(Pl.rd s.data.toList).toArray⟩) ∧ Below w.heap.size w w' := by
  obtain ⟨i9, hi9, hz9, hs9, hb9⟩ := info_parts Try.info9
  obtain ⟨i5, hi5, hz5, hs5, hb5⟩ := info_parts Try.info5
  go_enter Try.func12, Try.ntmps12
  go_wp2
  go_loop [3] (fun x => ∃ t : ByteArray, x = .string t ∧ t.size ≤ 65536 ∧ Hid (Pl.rdFrom t.data.toList [] = Pl.rd s.data.toList)) (fun x => strLen x)
  case atStart => exact ⟨s, rfl, hs, rfl⟩
  case round =>
    obtain ⟨t, rfl, hle, hR⟩ := hrel
    cases h0 : t.toList.isEmpty with
    | true =>
      have hsz : t.size = 0 := by rw [Pl.size_toList, Pl.empty_data h0]; rfl
      go_wp2
      go_ret
      have := hR.out
      rw [Pl.stepN [] h0] at this
      rw [← this]
      exact ⟨rfl, Below.refl _ _⟩
    | false => 
    have hsz : 0 < t.size := by
      have := Pl.nonempty_data h0
      rw [Pl.size_toList]
      exact List.length_pos_iff.2 this
    cases h1 : Lib.hasPrefix t.data.toList [46, 46, 47] with
    | true =>
      obtain ⟨k1, k2⟩ := Pl.stepA1 [] h1
      have HH : Hid (Pl.rdFrom (t.extract 3 t.size).data.toList [] = Pl.rd s.data.toList ∧ (t.extract 3 t.size).size = t.size - 3) := ⟨k2.trans hR.out, Pl.ex_end_size t 3⟩
      clear k2
      go_wp2_with (go_at_call 28; refine (cb1HasPrefix _ _ _ (hml _ (by omega)) (by decide)).mono ?_; rintro e w' ⟨rfl, rfl⟩)
      exact ⟨⟨_, rfl, by rw [HH.out.2]; omega, HH.out.1⟩, by show (t.extract 3 t.size).size < t.size; rw [HH.out.2]; omega⟩
    | false =>
    cases h2 : Lib.hasPrefix t.data.toList [46, 47] with
    | true =>
      obtain ⟨k1, k2⟩ := Pl.stepA2 [] h2
      have HH : Hid (Pl.rdFrom (t.extract 2 t.size).data.toList [] = Pl.rd s.data.toList ∧ (t.extract 2 t.size).size = t.size - 2) := ⟨k2.trans hR.out, Pl.ex_end_size t 2⟩
      clear k2
      go_wp2_with (go_at_call 28; refine (cb1HasPrefix _ _ _ (hml _ (by omega)) (by decide)).mono ?_; rintro e w' ⟨rfl, rfl⟩)
      exact ⟨⟨_, rfl, by rw [HH.out.2]; omega, HH.out.1⟩, by show (t.extract 2 t.size).size < t.size; rw [HH.out.2]; omega⟩
    | false =>
    cases h7 : t.toList == [46] with
    | true =>
      go_wp2_with (go_at_call 28; refine (cb1HasPrefix _ _ _ (hml _ (by omega)) (by decide)).mono ?_; rintro e w' ⟨rfl, rfl⟩)
      go_ret
      have := hR.out
      rw [← (Pl.stepD [] (.inl h7)).2, Pl.rd_nil] at this
      rw [← this]
      exact ⟨rfl, Below.refl _ _⟩
    | false =>
    cases h8 : t.toList == [46, 46] with
    | true =>
      go_wp2_with (go_at_call 28; refine (cb1HasPrefix _ _ _ (hml _ (by omega)) (by decide)).mono ?_; rintro e w' ⟨rfl, rfl⟩)
      go_ret
      have := hR.out
      rw [← (Pl.stepD [] (.inr h8)).2, Pl.rd_nil] at this
      rw [← this]
      exact ⟨rfl, Below.refl _ _⟩
    | false =>
    go_wp2_with (go_at_call 28; refine (cb1HasPrefix _ _ _ (hml _ (by omega)) (by decide)).mono ?_; rintro e w' ⟨rfl, rfl⟩)
    go_loopw [4, 5, 6] (fun v st i wr => ∃ (a k : Nat) (ss : List ByteArray), i = .int .i64 k ∧ st = .int .i64 a ∧ k ≤ t.size ∧ a ≤ k ∧ ss.length ≤ k ∧ wr.ownsRow w.heap.size 9 1 v ss.length (ss.map Value.string) ∧ Below w.heap.size w wr ∧ Hid ((47 : UInt8) ∉ (t.data.toList.drop a).take (k - a) ∧ Pl.fields t.data.toList = ss.map (·.data.toList) ++ Pl.fields (t.data.toList.drop a))) (fun _ _ i _ => t.size - (intOf i).toNat)
    case atStart => exact ⟨0, 0, [], rfl, rfl, by omega, by omega, by simp, World.ownsRow_nil _ _ _ _, Below.refl _ _, by simp, rfl⟩
    case round =>
      obtain ⟨a, k, ss, rfl, rfl, hk, hak, hsl, hown, hbw, hF⟩ := hrel
      have hbs := hbw.size
      by_cases hlt : k < t.size
      · cases hb : ((t[k].toNat : Int) == 47) with
        | false =>
          have HF : Hid ((47 : UInt8) ∉ (t.data.toList.drop a).take (k + 1 - a)) := Pl.df_step hak hlt hb hF.out.1
          go_wp2
          exact ⟨⟨a, k + 1, ss, by go_num, rfl, by omega, by omega, by omega, hown, hbw, HF.out, hF.out.2⟩, by simp [intOf]; omega⟩
        | true =>
          have HF : Hid (Pl.fields t.data.toList = (ss.map (·.data.toList) ++ [(t.extract a k).data.toList]) ++ Pl.fields (t.data.toList.drop (k + 1))) := Pl.gather_mid hak hlt hb hF.out.1 hF.out.2
          go_wp2_with (at_builtin; refine wpList_append_own _ rfl (.tmp 45) (.tmp 50) 35 rfl w.heap.size 9 i9 (.string ⟨#[]⟩) 1 16 Try.underlying35 hi9 hz9 hs9 hb9 rfl (by decide) _ _ _ rfl (hown.alloc _) ⟨wr.heap.size, 0, none⟩ 1 1 [.string (t.extract a k)] rfl rfl (cell_one_new _ _ _) (one_string _) (hml _ (by omega)) (by omega) (size_alloc_le hbs _) ?_)
          intro v' w1 hown' hgrow _
          have hb1 : Below w.heap.size w w1 := (hbw.alloc hbs _).grown hgrow (size_alloc_le hbs _) (fun k hk => (hown.lt k hk).1)
          clear hown hbw hgrow
          go_wp2
          go_roundw
          case rel => exact ⟨k + 1, k + 1, ss ++ [t.extract a k], by go_num, by go_num, by omega, by omega, by simp; omega, by simpa using hown', hb1, by simp, by have := HF.out; simpa using this⟩
          case measure => simp [intOf]; omega
      · have HF : Hid (Pl.fields t.data.toList = ss.map (·.data.toList) ++ [(t.extract a t.size).data.toList]) := Pl.gather_end hlt hF.out.1 hF.out.2
        go_wp2_with (at_builtin; refine wpList_append_own _ rfl (.tmp 54) (.tmp 58) 35 rfl w.heap.size 9 i9 (.string ⟨#[]⟩) 1 16 Try.underlying35 hi9 hz9 hs9 hb9 rfl (by decide) _ _ _ rfl (hown.alloc _) ⟨wr.heap.size, 0, none⟩ 1 1 [.string (t.extract a t.size)] rfl rfl (cell_one_new _ _ _) (one_string _) (hml _ (by omega)) (by omega) (size_alloc_le hbs _) ?_)
        intro v' W hown' hgrow _
        have hb1 : Below w.heap.size w W := (hbw.alloc hbs _).grown hgrow (size_alloc_le hbs _) (fun k hk => (hown.lt k hk).1)
        clear hown hbw hgrow
        obtain ⟨ss', hss⟩ : ∃ ss', ss' = ss ++ [t.extract a t.size] := ⟨_, rfl⟩
        have hl' : ss'.length = ss.length + 1 := by rw [hss]; simp
        have HF' : Hid (Pl.fields t.data.toList = ss'.map (·.data.toList)) := by show _ = _; rw [hss]; have := HF.out; simpa using this
        have ho : W.ownsRow w.heap.size 9 1 v' ss'.length (ss'.map Value.string) := by rw [hl', hss]; simpa using hown'
        have HL : Hid (ss'.length = ss.length + 1) := hl'
        have hn1 : 1 ≤ ss'.length := by omega
        have hn2 : ss'.length ≤ 65537 := by omega
        clear hown' hss hl' HF
        obtain ⟨p4, cap4, hv⟩ := own_form ho
        obtain ⟨g4, hp4, hg4, hg4'⟩ := own_some (hv ▸ ho) (by omega)
        subst hp4
        rw [hv]
        rw [hv] at ho
        have hc4 : ∀ j (hj : j < ss'.length), W.cell? ⟨g4, j, none⟩ = some (.string ss'[j]) := fun j hj => by
          rw [ho.cellAt j (by omega)]
          simp [hj]
        clear hv
        obtain ⟨f0, hf0⟩ : ∃ f0, f0 = ss'[0] := ⟨_, rfl⟩
        have hc0 : W.cell? ⟨g4, 0, none⟩ = some (.string f0) := by rw [hc4 0 (by omega), hf0]
        have HFF : Hid (Pl.fields t.data.toList = f0.data.toList :: (Pl.fields t.data.toList).drop 1) := by
          show _ = _
          rw [HF'.out, hf0]
          cases ss' with
          | nil => simp at hn1
          | cons x xs => rfl
        clear hf0
        obtain ⟨FR, FW, FL⟩ := Pl.first_field h1 h2 h7 h8 HFF.out
        have HFR : Hid (Pl.absRun ((Pl.fields t.data.toList).drop 1) f0.data.toList = Pl.rd s.data.toList) := FR.symm.trans hR.out
        have HE0 : Hid (f0.toList.isEmpty = true → Pl.Wf ((([] : List ByteArray)).map (·.data.toList)) ∧ Pl.absRun ((Pl.fields t.data.toList).drop 1) ((([] : List ByteArray)).map (·.data.toList)).flatten = Pl.rd s.data.toList) := by
          intro h
          refine ⟨True.intro, ?_⟩
          rw [← HFR.out, Pl.empty_data h]
          rfl
        have HE1 : Hid (f0.toList.isEmpty = false → Pl.Wf ([f0].map (·.data.toList)) ∧ Pl.absRun ((Pl.fields t.data.toList).drop 1) ([f0].map (·.data.toList)).flatten = Pl.rd s.data.toList) := by
          intro h
          rw [if_neg (Pl.nonempty_data h)] at FW
          refine ⟨FW, ?_⟩
          rw [← HFR.out]
          simp
        clear FR FW FL
        go_upto_if 63 with fail
        go_cut [7] (fun v wr => ∃ (ps : List ByteArray) (p : Option Addr) (cap : Nat), v = .slice p ps.length cap ∧ ps.length ≤ 1 ∧ wr.ownsRow W.heap.size 9 1 (.slice p ps.length cap) ps.length (ps.map Value.string) ∧ Below W.heap.size W wr ∧ Hid (Pl.St ps ((Pl.fields t.data.toList).drop 1) (Pl.rd s.data.toList)))
        case first =>
          cases he0 : f0.toList.isEmpty with
          | true =>
            go_wp2
            go_meet
            case rel => exact ⟨[], none, 0, rfl, by simp, World.ownsRow_nil W W.heap.size 9 1, Below.refl _ W, HE0.out he0⟩
          | false =>
            go_wp2_with (at_builtin; refine wpList_append_own _ rfl (.tmp 64) (.tmp 68) 35 rfl W.heap.size 9 i9 (.string ⟨#[]⟩) 1 16 Try.underlying35 hi9 hz9 hs9 hb9 rfl (by decide) _ _ _ rfl ((World.ownsRow_nil W W.heap.size 9 1).alloc _) ⟨W.heap.size, 0, none⟩ 1 1 [.string f0] rfl rfl (cell_one_new _ _ _) (one_string _) (hml _ (by omega)) (by omega) (size_alloc_le (Nat.le_refl _) _) ?_)
            intro v7 w7 hown7 hgrow7 _
            obtain ⟨p7, cap7, hv7, ho7, hb7⟩ := append_rel (ps := []) (Below.refl _ W) (World.ownsRow_nil W W.heap.size 9 1) hown7 hgrow7
            clear hown7 hgrow7
            rw [hv7]
            clear hv7
            go_wp2
            go_meet
            case rel => exact ⟨[f0], p7, cap7, rfl, by simp, ho7, hb7, HE1.out he0⟩
        case rest =>
          obtain ⟨ps0, p70, cap70, rfl, hl0, ho70, hb70, HST⟩ := hcut
          clear HE0 HE1
          go_wp2
          go_loopw [7, 9] (fun v i wr => ∃ (k : Nat) (ps : List ByteArray) (p : Option Addr) (cap : Nat), i = .int .i64 k ∧ v = .slice p ps.length cap ∧ 1 ≤ k ∧ k ≤ ss'.length ∧ ps.length ≤ k ∧ wr.ownsRow W.heap.size 9 1 (.slice p ps.length cap) ps.length (ps.map Value.string) ∧ Below W.heap.size W wr ∧ Hid (Pl.St ps ((Pl.fields t.data.toList).drop k) (Pl.rd s.data.toList))) (fun _ i _ => ss'.length - (intOf i).toNat)
          case atStart => exact ⟨1, ps0, p70, cap70, rfl, rfl, by omega, by omega, by omega, ho70, hb70, HST.out⟩
          case round =>
            obtain ⟨k3, ps, p7, cap7, rfl, rfl, hk1, hk2, hk3, ho7, hb7, hA⟩ := hrel
            have hbs7 := hb7.size
            by_cases hlt3 : k3 < ss'.length
            · obtain ⟨x, hx⟩ : ∃ x, x = ss'[k3] := ⟨_, rfl⟩
              have hcx : wr.cell? ⟨g4, k3, none⟩ = some (.string x) := by rw [hb7.cell (by exact hg4'), hc4 k3 hlt3, hx]
              have HD : Hid ((Pl.fields t.data.toList).drop k3 = x.data.toList :: (Pl.fields t.data.toList).drop (k3 + 1)) := by
                show _ = _
                rw [HF'.out, List.drop_eq_getElem_cons (by simpa using hlt3)]
                simp [hx]
              have hmem : x.data.toList ∈ Pl.fields t.data.toList := by rw [HF'.out, hx]; exact List.mem_map_of_mem (List.getElem_mem hlt3)
              have HX : Hid ((47 : UInt8) ∉ x.data.toList) := Pl.fields_pure t.data.toList _ hmem
              have hxs : x.size ≤ 65536 := by
                have := Pl.field_len _ _ hmem
                rw [← Pl.size_toList, ← Pl.size_toList] at this
                omega
              have HN : Hid ((Pl.fields t.data.toList).length = ss'.length) := by show _ = _; rw [HF'.out]; simp
              have HA : Hid (Pl.St ps (x.data.toList :: (Pl.fields t.data.toList).drop (k3 + 1)) (Pl.rd s.data.toList)) := by
                show Pl.St _ _ _
                rw [← HD.out]; exact hA.out
              clear hx hmem ho70 hb70 HST hl0 ho hA
              by_cases hlast : k3 + 1 = ss'.length
              · have hkl : ((k3 : Int) == (ss'.length : Int) - 1) = true := by simp; omega
                have HZ : Hid ((Pl.fields t.data.toList).drop (k3 + 1) = []) := List.drop_of_length_le (by rw [HN.out]; omega)
                have hlast' : ss'.length ≤ k3 + 1 := by omega
                clear hlast
                cases hd1 : x.toList == [46] with
                | true =>
                  have hd2 : (x.toList == [46, 46]) = false := by rw [beq_iff_eq.1 hd1]; rfl
                  go_wp2_with (at_builtin; refine wpList_append_own _ rfl (.tmp 103) (.tmp 104) 35 rfl W.heap.size 9 i9 (.string ⟨#[]⟩) 1 16 Try.underlying35 hi9 hz9 hs9 hb9 rfl (by decide) _ _ _ rfl (ho7.alloc _) ⟨wr.heap.size, 0, none⟩ 1 1 [.string ({ data := #[47] })] rfl rfl (cell_one_new _ _ _) (one_string _) (hml _ (by omega)) (by omega) (size_alloc_le hbs7 _) ?_)
                  intro v8 w8 hown8 hgrow8 _
                  obtain ⟨p8, cap8, hv8, ho8, hb8⟩ := append_rel hb7 ho7 hown8 hgrow8
                  rw [hv8]
                  clear hown8 hgrow8 hv8 ho7 hb7
                  go_wp2
                  go_roundw
                  case rel => exact ⟨k3 + 1, _, p8, cap8, by go_num, rfl, by omega, by omega, by simp; omega, ho8, hb8, Pl.st_dot_last HA.out hd1 HZ.out⟩
                  case measure => simp [intOf]; omega
                | false =>
                cases hd2 : x.toList == [46, 46] with
                | true =>
                  rcases List.eq_nil_or_concat ps with hps | ⟨qs, q, hps⟩
                  · have HQ : Hid (ps.dropLast = ps) := by show _ = _; rw [hps]; rfl
                    have hl0 : ps.length ≤ 0 := by rw [hps]; exact Nat.le_refl 0
                    clear hps
                    go_wp2_with (at_builtin; refine wpList_append_own _ rfl (.tmp 103) (.tmp 104) 35 rfl W.heap.size 9 i9 (.string ⟨#[]⟩) 1 16 Try.underlying35 hi9 hz9 hs9 hb9 rfl (by decide) _ _ _ rfl (ho7.alloc _) ⟨wr.heap.size, 0, none⟩ 1 1 [.string ({ data := #[47] })] rfl rfl (cell_one_new _ _ _) (one_string _) (hml _ (by omega)) (by omega) (size_alloc_le hbs7 _) ?_)
                    intro v8 w8 hown8 hgrow8 _
                    obtain ⟨p8, cap8, hv8, ho8, hb8⟩ := append_rel hb7 ho7 hown8 hgrow8
                    rw [hv8]
                    clear hown8 hgrow8 hv8 ho7 hb7
                    go_wp2
                    go_roundw
                    case rel => exact ⟨k3 + 1, _, p8, cap8, by go_num, rfl, by omega, by omega, by simp; omega, ho8, hb8, Pl.st_up_last HA.out HQ.out hd2 HZ.out⟩
                    case measure => simp [intOf]; omega
                  · have HQ : Hid (ps.dropLast = qs) := by show _ = _; rw [hps, List.concat_eq_append, List.dropLast_concat]
                    have hl0 : ps.length = qs.length + 1 := by rw [hps]; simp
                    rw [hl0] at ho7 hk3 ⊢
                    rw [hps, List.concat_eq_append] at ho7
                    obtain ⟨g7, rfl, hc7, ho7'⟩ := pop_rel ho7
                    clear hps hl0
                    go_wp2_with (at_builtin; refine wpList_append_own _ rfl (.tmp 103) (.tmp 104) 35 rfl W.heap.size 9 i9 (.string ⟨#[]⟩) 1 16 Try.underlying35 hi9 hz9 hs9 hb9 rfl (by decide) _ _ _ rfl (ho7'.alloc _) ⟨wr.heap.size, 0, none⟩ 1 1 [.string ({ data := #[47] })] rfl rfl (cell_one_new _ _ _) (one_string _) (hml _ (by omega)) (by omega) (size_alloc_le hbs7 _) ?_)
                    intro v8 w8 hown8 hgrow8 _
                    obtain ⟨p8, cap8, hv8, ho8, hb8⟩ := append_rel hb7 ho7' hown8 hgrow8
                    rw [hv8]
                    clear hown8 hgrow8 hv8 ho7 hb7
                    go_wp2
                    go_roundw
                    case rel => exact ⟨k3 + 1, _, p8, cap8, by go_num, rfl, by omega, by omega, by simp; omega, ho8, hb8, Pl.st_up_last HA.out HQ.out hd2 HZ.out⟩
                    case measure => simp [intOf]; omega
                | false =>
                  go_wp2_with (at_builtin; refine wpList_append_own _ rfl (.tmp 106) (.tmp 109) 35 rfl W.heap.size 9 i9 (.string ⟨#[]⟩) 1 16 Try.underlying35 hi9 hz9 hs9 hb9 rfl (by decide) _ _ _ rfl (ho7.alloc _) ⟨wr.heap.size, 0, none⟩ 1 1 [.string ({ data := #[47] } ++ x)] rfl rfl (cell_one_new _ _ _) (one_string _) (hml _ (by omega)) (by omega) (size_alloc_le hbs7 _) ?_)
                  intro v8 w8 hown8 hgrow8 _
                  obtain ⟨p8, cap8, hv8, ho8, hb8⟩ := append_rel hb7 ho7 hown8 hgrow8
                  rw [hv8]
                  clear hown8 hgrow8 hv8 ho7 hb7
                  go_wp2
                  go_roundw
                  case rel => exact ⟨k3 + 1, _, p8, cap8, by go_num, rfl, by omega, by omega, by simp; omega, ho8, hb8, Pl.st_push HA.out HX.out hd1 hd2⟩
                  case measure => simp [intOf]; omega
              · have hkl : ((k3 : Int) == (ss'.length : Int) - 1) = false := by simp; omega
                have HZ : Hid ((Pl.fields t.data.toList).drop (k3 + 1) ≠ []) := by
                  intro e
                  have := congrArg List.length e
                  rw [List.length_drop, HN.out] at this
                  simp at this
                  omega
                have hlast' : k3 + 1 < ss'.length := by omega
                clear hlast
                cases hd1 : x.toList == [46] with
                | true =>
                  have hd2 : (x.toList == [46, 46]) = false := by rw [beq_iff_eq.1 hd1]; rfl
                  go_wp2
                  go_roundw
                  case rel => exact ⟨k3 + 1, ps, p7, cap7, by go_num, rfl, by omega, by omega, by omega, ho7, hb7, Pl.st_dot HA.out hd1 HZ.out⟩
                  case measure => simp [intOf]; omega
                | false =>
                cases hd2 : x.toList == [46, 46] with
                | true =>
                  rcases List.eq_nil_or_concat ps with hps | ⟨qs, q, hps⟩
                  · have HQ : Hid (ps.dropLast = ps) := by show _ = _; rw [hps]; rfl
                    have hl0 : ps.length ≤ 0 := by rw [hps]; exact Nat.le_refl 0
                    clear hps
                    go_wp2
                    go_roundw
                    case rel => exact ⟨k3 + 1, ps, p7, cap7, by go_num, rfl, by omega, by omega, by omega, ho7, hb7, Pl.st_up HA.out HQ.out hd2 HZ.out⟩
                    case measure => simp [intOf]; omega
                  · have HQ : Hid (ps.dropLast = qs) := by show _ = _; rw [hps, List.concat_eq_append, List.dropLast_concat]
                    have hl0 : ps.length = qs.length + 1 := by rw [hps]; simp
                    rw [hl0] at ho7 hk3 ⊢
                    rw [hps, List.concat_eq_append] at ho7
                    obtain ⟨g7, rfl, hc7, ho7'⟩ := pop_rel ho7
                    clear hps hl0
                    go_wp2
                    go_roundw
                    case rel => exact ⟨k3 + 1, qs, _, cap7, by go_num, rfl, by omega, by omega, by omega, ho7', hb7, Pl.st_up HA.out HQ.out hd2 HZ.out⟩
                    case measure => simp [intOf]; omega
                | false =>
                  go_wp2_with (at_builtin; refine wpList_append_own _ rfl (.tmp 106) (.tmp 109) 35 rfl W.heap.size 9 i9 (.string ⟨#[]⟩) 1 16 Try.underlying35 hi9 hz9 hs9 hb9 rfl (by decide) _ _ _ rfl (ho7.alloc _) ⟨wr.heap.size, 0, none⟩ 1 1 [.string ({ data := #[47] } ++ x)] rfl rfl (cell_one_new _ _ _) (one_string _) (hml _ (by omega)) (by omega) (size_alloc_le hbs7 _) ?_)
                  intro v8 w8 hown8 hgrow8 _
                  obtain ⟨p8, cap8, hv8, ho8, hb8⟩ := append_rel hb7 ho7 hown8 hgrow8
                  rw [hv8]
                  clear hown8 hgrow8 hv8 ho7 hb7
                  go_wp2
                  go_roundw
                  case rel => exact ⟨k3 + 1, _, p8, cap8, by go_num, rfl, by omega, by omega, by simp; omega, ho8, hb8, Pl.st_push HA.out HX.out hd1 hd2⟩
                  case measure => simp [intOf]; omega
            · have HA : Hid (Pl.upTo ps ps.length = Pl.rd s.data.toList) := by
                have h1 := hA.out
                have e : (Pl.fields t.data.toList).drop k3 = [] := List.drop_of_length_le (by rw [HF'.out]; simp; omega)
                rw [e] at h1
                exact Pl.upTo_all h1
              have HB : Hid ((Pl.rd s.data.toList).length ≤ 65536) := by
                have := Pl.rd_le s.data.toList
                rw [← Pl.size_toList] at this
                exact Nat.le_trans this hs
              clear hA ho70 hb70 HST hl0 ho hc4 hc0
              obtain ⟨W8, rfl⟩ : ∃ W8, W8 = wr := ⟨_, rfl⟩
              have HBA : Hid (Below w.heap.size w W8) := hb1.trans (hb7.mono hb1.size)
              go_wp2
              go_loopw [11, 12] (fun v i wx => ∃ k : Nat, i = .int .i64 k ∧ k ≤ ps.length ∧ wx.ownsRow W8.heap.size 5 1 v (Pl.upTo ps k).length (Lib.byteCells (Pl.upTo ps k)) ∧ Below W8.heap.size W8 wx) (fun _ i _ => ps.length - (intOf i).toNat)
              case atStart => exact ⟨0, rfl, by omega, by rw [Pl.upTo_zero]; exact World.ownsRow_nil _ _ _ _, Below.refl _ _⟩
              case round =>
                obtain ⟨k4, rfl, hk4, hown4, hb4⟩ := hrel
                have hbs4 := hb4.size
                by_cases hlt4 : k4 < ps.length
                · obtain ⟨g7, rfl, hg7, hg7'⟩ := own_some ho7 (by omega)
                  obtain ⟨y, hy⟩ : ∃ y, y = ps[k4] := ⟨_, rfl⟩
                  have hcy : wr.cell? ⟨g7, k4, none⟩ = some (.string y) := by
                    rw [hb4.cell (by exact hg7'), ho7.cellAt k4 (by omega), hy]
                    simp [hlt4]
                  have HU : Hid (Pl.upTo ps (k4 + 1) = Pl.upTo ps k4 ++ y.data.toList) := by rw [hy]; exact Pl.upTo_succ hlt4
                  have hle4 : (Pl.upTo ps k4).length + y.size ≤ 65536 := by
                    have h1 := congrArg List.length HU.out
                    have h2 := Pl.upTo_le ps (k4 + 1)
                    have h3 := HB.out
                    rw [HA.out] at h2
                    rw [List.length_append, ← Pl.size_toList] at h1
                    omega
                  clear hy
                  go_wp2_with (at_builtin; refine Lib.wpList_append_own_string _ rfl (.tmp 117) (.tmp 121) 36 9 rfl W8.heap.size 5 i5 Try.underlying36 Try.underlying9 hi5 hz5 hs5 hb5 _ _ _ rfl hown4 y rfl (hml _ (by omega)) (by omega) hbs4 ?_)
                  intro v9 w9 hown9 hgrow9 _
                  have ho9 : w9.ownsRow W8.heap.size 5 1 v9 (Pl.upTo ps (k4 + 1)).length (Lib.byteCells (Pl.upTo ps (k4 + 1))) := by
                    rw [HU.out, Lib.byteCells_append, ← Lib.strCells_eq, List.length_append, ← Pl.size_toList]
                    exact hown9
                  have hb9 : Below W8.heap.size W8 w9 := hb4.grown hgrow9 hbs4 (fun k hk => (hown4.lt k hk).1)
                  clear hown9 hgrow9 hown4 hb4 ho7 hb7
                  go_wp2
                  go_roundw
                  case rel => exact ⟨k4 + 1, by go_num, by omega, ho9, hb9⟩
                  case measure => simp [intOf]; omega
                · have hcv : (convert 36 9 u11).run Try.prog wr = .ok (.string ⟨(Pl.upTo ps k4).toArray⟩) wr := own_string hown4
                  go_wp2
                  go_ret
                  have e : k4 = ps.length := by omega
                  refine ⟨ret_str ?_, HBA.out.trans (hb4.mono HBA.out.size)⟩
                  rw [e]
                  exact HA.out

end Go.Proofs.Qxb6605311a
