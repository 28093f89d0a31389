/-
  The walks of the small helpers: b1IndexByte (22), b1HasByte (27), b1HasPrefix (28).
-/
import Derived.Test.Qxb6605311aRows
import Derived.Test.Qxb6605311aShelf
import Derived.Test.Qxb6605311aPlainA
import Derived.WalkKit
import Derived.WalkSpells
import Derived.BigCall
namespace Go.Proofs.Qxb6605311a
open Go.RowKit
set_option linter.unusedVariables false

theorem ret_int {k : IntKind} {a b : Int} (h : a = b) : Ending.returned (.int k a) = .returned (.int k b) := by rw [h]
theorem ret_bool {a b : Bool} (h : a = b) : Ending.returned (.bool a) = .returned (.bool b) := by rw [h]

theorem byte_eq (x : UInt8) (c : Int) (h0 : 0 ≤ c) (h1 : c < 256) : ((x.toNat : Int) = c) ↔ x = c.toNat.toUInt8 := by
  constructor
  · intro h
    subst h
    simp
  · intro h
    subst h
    simp
    omega

set_option maxHeartbeats 400000 in
theorem b1IndexByte_any (s : ByteArray) (c : Int) (w : World) (hs : s.size ≤ maxLen) (h0 : 0 ≤ c) (h1 : c < 256) :
    Calls Try.prog 22 #[.string s, .int .u8 c] w fun e w' => e = .returned (.int .i64 (Lib.indexByte s.data.toList c.toNat.toUInt8)) ∧ w' = w := by
  unfold maxLen at hs
  go_enter Try.func22, Try.ntmps22
  go_wp2
  go_loop [5] (fun i => ∃ k : Nat, k ≤ s.size ∧ i = .int .i64 k ∧ Hid (c.toNat.toUInt8 ∉ s.data.toList.take k)) (fun i => s.size - (intOf i).toNat)
  case atStart => exact ⟨0, Nat.zero_le _, rfl, by simp [Hid]⟩
  case round =>
    obtain ⟨k, hk, rfl, hn⟩ := hrel
    by_cases hlt : k < s.size
    · have hl : k < s.data.toList.length := by rw [← Pl.size_toList]; exact hlt
      have hg : Hid (s[k] = s.data.toList[k]) := Pl.getElem_byte s k hlt
      go_wp2
      · go_ret
        rename_i hq _
        refine ⟨ret_int ?_, rfl⟩
        refine (Pl.index_found hl hn ?_).symm
        rw [← hg.out]
        exact (byte_eq _ c h0 h1).1 (by simpa using hq)
      · rename_i hq
        refine ⟨⟨k + 1, by omega, by go_num, Pl.take_step hl hn.out ?_⟩, by simp [intOf]; omega⟩
        rw [← hg.out]
        exact fun e => by simp [(byte_eq _ c h0 h1).2 e] at hq
    · go_wp2
      go_ret
      exact ⟨ret_int (by rw [Pl.index_none]; have := hn.out; rwa [List.take_of_length_le (by rw [← Pl.size_toList]; omega)] at this), rfl⟩


theorem b1HasByte_any (s : ByteArray) (c : Int) (w : World) (hs : s.size ≤ maxLen) (h0 : 0 ≤ c) (h1 : c < 256) :
    Calls Try.prog 27 #[.string s, .int .u8 c] w fun e w' => e = .returned (.bool (s.data.toList.contains (UInt8.ofNat c.toNat))) ∧ w' = w := by
  go_enter Try.func27, Try.ntmps27
  go_wp2_with (go_at_call 22; refine (b1IndexByte_any s c _ hs h0 h1).mono ?_; rintro e w' ⟨rfl, rfl⟩)
  go_ret
  exact ⟨ret_bool (Pl.index_contains _ _), rfl⟩

theorem b1HasPrefix_any (s p : ByteArray) (w : World) (hs : s.size ≤ maxLen) (hp : p.size ≤ maxLen) :
    Calls Try.prog 28 #[.string s, .string p] w fun e w' => e = .returned (.bool (Lib.hasPrefix s.data.toList p.data.toList)) ∧ w' = w := by
  unfold maxLen at hs hp
  by_cases h : p.size ≤ s.size
  · go_enter Try.func28, Try.ntmps28
    go_wp2
    go_ret
    exact ⟨ret_bool (Pl.prefix_walk s p h), rfl⟩
  · go_enter Try.func28, Try.ntmps28
    go_wp2
    go_ret
    exact ⟨ret_bool (Pl.prefix_short s p h).symm, rfl⟩

end Go.Proofs.Qxb6605311a
