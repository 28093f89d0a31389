/-
  The walk of b1HasDotField (14).
-/
import Derived.Test.Qxb6605311aWalkA
import Derived.Test.Qxb6605311aPlainB
namespace Go.Proofs.Qxb6605311a
open Go.RowKit
set_option linter.unusedVariables false

set_option maxHeartbeats 400000 in
theorem hasDotField_any (s : ByteArray) (w : World) (hs : s.size < 4611686018427387904) :
    Calls Try.prog 14 #[.string s] w fun e w' => e = .returned (.bool (Pl.hasDot s.data.toList)) ∧ w' = w := by
  go_enter Try.func14, Try.ntmps14
  go_wp2
  go_loop [3, 4] (fun st i => ∃ a k : Nat, i = .int .i64 k ∧ st = .int .i64 a ∧ k ≤ s.size + 1 ∧ (k ≤ s.size → a ≤ k) ∧ Hid ((k ≤ s.size → (47 : UInt8) ∉ (s.data.toList.drop a).take (k - a) ∧ Pl.hasDot s.data.toList = Pl.hasDot (s.data.toList.drop a)) ∧ (s.size < k → Pl.hasDot s.data.toList = false))) (fun _ i => s.size + 1 - (intOf i).toNat)
  case atStart => exact ⟨0, 0, rfl, rfl, by omega, by omega, by simp [Hid]⟩
  case round =>
    obtain ⟨a, k, rfl, rfl, hk, hak, hn⟩ := hrel
    by_cases hle : k ≤ s.size
    · have hak' := hak hle
      by_cases hlt : k < s.size
      · have ne : ((k : Int) == (s.size : Int)) = false := by simp; omega
        have hl : k < s.data.toList.length := by rw [← Pl.size_toList]; exact hlt
        have hg : Hid (s[k] = s.data.toList[k]) := Pl.getElem_byte s k hlt
        have hf := hn.out.1 hle
        have H1 : Hid (Pl.hasDot s.data.toList = Pl.hasDot (s.data.toList.drop a)) := hf.2
        have H0 : Hid ((47 : UInt8) ∉ (s.data.toList.drop a).take (k - a)) := hf.1
        clear hf
        go_wp2
        · rename_i hq _
          have hb : ((s[k].toNat : Int) == 47) = true := by assumption
          go_ret
          exact ⟨ret_bool (by rw [H1.out, Pl.df_mid hak' hlt hb H0.out, Pl.isDot_one hq]; rfl), rfl⟩
        · rename_i hq _
          have hb : ((s[k].toNat : Int) == 47) = true := by assumption
          go_ret
          exact ⟨ret_bool (by rw [H1.out, Pl.df_mid hak' hlt hb H0.out, Pl.isDot_yes hq]; rfl), rfl⟩
        · rename_i hq
          have hb : ((s[k].toNat : Int) == 47) = true := by assumption
          have e : Pl.hasDot s.data.toList = Pl.hasDot (s.data.toList.drop (k + 1)) := by rw [H1.out, Pl.df_mid hak' hlt hb H0.out, Pl.isDot_no hq]; rfl
          exact ⟨⟨k + 1, k + 1, by go_num, by go_num, by omega, by omega, fun _ => ⟨by simp, e⟩, by omega⟩, by simp [intOf]; omega⟩
        · rename_i hb
          exact ⟨⟨a, k + 1, by go_num, rfl, by omega, by omega, fun _ => ⟨Pl.df_step hak' hlt hb H0.out, H1.out⟩, by omega⟩, by simp [intOf]; omega⟩
      · have ne : ((k : Int) == (s.size : Int)) = true := by simp; omega
        have hf := hn.out.1 hle
        have H1 : Hid (Pl.hasDot s.data.toList = Pl.hasDot (s.data.toList.drop a)) := hf.2
        have H0 : Hid ((47 : UInt8) ∉ (s.data.toList.drop a).take (k - a)) := hf.1
        clear hf
        go_wp2
        · rename_i hq _
          go_ret
          exact ⟨ret_bool (by rw [H1.out, Pl.df_end hlt H0.out, Pl.isDot_one hq]), rfl⟩
        · rename_i hq _
          go_ret
          exact ⟨ret_bool (by rw [H1.out, Pl.df_end hlt H0.out, Pl.isDot_yes hq]), rfl⟩
        · rename_i hq
          exact ⟨⟨k + 1, k + 1, by go_num, by go_num, by omega, by omega, by omega, fun _ => by rw [H1.out, Pl.df_end hlt H0.out, Pl.isDot_no hq]⟩, by simp [intOf]; omega⟩
    · go_wp2
      go_ret
      exact ⟨ret_bool ((hn.out.2 (by omega)).symm), rfl⟩

end Go.Proofs.Qxb6605311a
