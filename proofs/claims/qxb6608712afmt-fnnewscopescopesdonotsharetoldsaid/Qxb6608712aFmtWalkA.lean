/-
  The walks of the small functions: zzHasColon (16), strings.Contains at a colon (17), newScope (12, 5), depth (14, 7), zzAgrees (11), zzBytes (4).
-/
import Derived.Test.Qxb6608712aFmtFacts
import Derived.Test.Qxb6608712aFmtPlain
import Derived.Shelf.Strings.Search1
import Derived.WalkKit
import Derived.WalkSpells
import Derived.BigCall
import Derived.OwnWalk
namespace Go.Proofs
open Go.Shelf
def Tryf.lays217_ren : Go.Shelf.Ren := ⟨fun | 217 => 23 | 266 => 27 | n => n, fun | 9 => 9 | 5 => 5 | 3 => 3 | n => n, fun | n => n⟩
theorem Tryf.lays217 : Go.Proofs.Lays.n217 Tryf.prog Tryf.lays217_ren := {
  mixed := by kernel_rfl
  f217 := Tryf.func23.trans (congrArg some (by kernel_rfl))
  f266 := Tryf.func27.trans (congrArg some (by kernel_rfl))
  t3 := Tryf.underlying3
  a3 := Tryf.isAgg3
  z3 := Tryf.sizeOf3
  v3 := Tryf.zeroValue3
  t5 := Tryf.underlying5
  a5 := Tryf.isAgg5
  z5 := Tryf.sizeOf5
  v5 := Tryf.zeroValue5
  t9 := Tryf.underlying9
  a9 := Tryf.isAgg9
  z9 := Tryf.sizeOf9
  v9 := Tryf.zeroValue9 }
open Go.RowKit Go.Lib in
theorem Tryf.stringslite_IndexByte (s : ByteArray) (c : Int) (w : World) :
    Calls Tryf.prog 23 #[.string s, .int .u8 c] w fun e w' => e = .returned (.int .i64 (Lib.indexByte s.data.toList c.toNat.toUInt8)) ∧ w' = w := Any.stringslite_IndexByte Tryf.lays217 s c w
end Go.Proofs

namespace Go.Proofs.Qxb6608712aFmt
open Go.RowKit
set_option linter.unusedVariables false

theorem ret_int {k : IntKind} {a b : Int} (h : a = b) : Ending.returned (.int k a) = .returned (.int k b) := by rw [h]
theorem ret_bool {a b : Bool} (h : a = b) : Ending.returned (.bool a) = .returned (.bool b) := by rw [h]

theorem byte_eq (x : UInt8) (c : Int) (h0 : 0 ≤ c) (h1 : c < 256) : ((x.toNat : Int) = c) ↔ x = c.toNat.toUInt8 := by
  constructor
  · intro h
    subst h
    simp
  · intro h
    subst h
    simp
    omega

theorem cLiteIndexByte (s : ByteArray) (c : Int) (w : World) (n : Int) (h : Lib.indexByte s.data.toList (UInt8.ofNat c.toNat) = n) :
    Calls Tryf.prog 23 #[.string s, .int .u8 c] w fun e w' => e = .returned (.int .i64 n) ∧ w = w' :=
  (Tryf.stringslite_IndexByte s c w).mono fun _ _ k => ⟨by rw [k.1, ← h], k.2.symm⟩

set_option maxHeartbeats 400000 in
theorem cIndexColon (s : ByteArray) (w : World) (n : Int) (h : Lib.indexByte s.data.toList 58 = n) :
    Calls Tryf.prog 22 #[.string s, .string ⟨#[58]⟩] w fun e w' => e = .returned (.int .i64 n) ∧ w = w' := by
  have HH : Hid (Lib.indexByte s.data.toList 58 = n) := h
  clear h
  cases h0 : ([58] == s.toList) with
  | true =>
    go_enter Tryf.func22, Tryf.ntmps22
    go_wp2_with (go_at_call 23; refine (cLiteIndexByte _ _ _ n HH.out).mono ?_; rintro e w' ⟨rfl, rfl⟩)
    go_ret
    refine ⟨ret_int ?_, rfl⟩
    rw [← HH.out, ← Lib.toList_data, ← beq_iff_eq.1 h0]
    rfl
  | false =>
    go_enter Tryf.func22, Tryf.ntmps22
    go_wp2_with (go_at_call 23; refine (cLiteIndexByte _ _ _ n HH.out).mono ?_; rintro e w' ⟨rfl, rfl⟩)
    go_ret
    exact ⟨rfl, rfl⟩

theorem cContains (s : ByteArray) (w : World) :
    Calls Tryf.prog 17 #[.string s, .string ⟨#[58]⟩] w fun e w' => e = .returned (.bool (Pl.hasB s.data.toList 58)) ∧ w = w' := by
  have h47 : Calls Tryf.prog 20 #[.string s, .string ⟨#[58]⟩] w fun e w' => e = .returned (.int .i64 (Lib.indexByte s.data.toList 58)) ∧ w = w' := by
    go_enter Tryf.func20, Tryf.ntmps20
    go_wp2_with (go_at_call 22; refine (cIndexColon _ _ _ rfl).mono ?_; rintro e w' ⟨rfl, rfl⟩)
    go_ret
    exact ⟨rfl, rfl⟩
  have H47 : Hid (Calls Tryf.prog 20 #[.string s, .string ⟨#[58]⟩] w fun e w' => e = .returned (.int .i64 (Lib.indexByte s.data.toList 58)) ∧ w = w') := h47
  clear h47
  go_enter Tryf.func17, Tryf.ntmps17
  go_wp2_with (go_at_call 20; refine H47.out.mono ?_; rintro e w' ⟨rfl, rfl⟩)
  go_ret
  exact ⟨ret_bool (Pl.index_contains _ _), rfl⟩

theorem cContainsB (s : ByteArray) (w : World) (b : Bool) (h : Pl.hasB s.data.toList 58 = b) :
    Calls Tryf.prog 17 #[.string s, .string ⟨#[58]⟩] w fun e w' => e = .returned (.bool b) ∧ w = w' :=
  (cContains s w).mono fun _ _ k => ⟨by rw [k.1, h], k.2⟩

set_option maxHeartbeats 400000 in
theorem hasColon_any (s : ByteArray) (w : World) (hs : s.size ≤ maxLen) :
    Calls Tryf.prog 16 #[.string s] w fun e w' => e = .returned (.bool (Pl.hasB s.data.toList 58)) ∧ w = w' := by
  unfold maxLen at hs
  go_enter Tryf.func16, Tryf.ntmps16
  go_wp2
  go_loop [3] (fun i => ∃ k : Nat, k ≤ s.size ∧ i = .int .i64 k ∧ Hid (58 ∉ s.data.toList.take k)) (fun i => s.size - (intOf i).toNat)
  case atStart => exact ⟨0, Nat.zero_le _, rfl, by simp [Hid]⟩
  case round =>
    obtain ⟨k, hk, rfl, hn⟩ := hrel
    by_cases hlt : k < s.size
    · have hl : k < s.data.toList.length := by rw [← Pl.size_toList]; exact hlt
      have hg : Hid (s[k] = s.data.toList[k]) := Pl.getElem_byte s k hlt
      go_wp2
      · go_ret
        rename_i hq _
        refine ⟨ret_bool (Pl.hasB_true.2 ?_).symm, rfl⟩
        have e : s[k] = 58 := (byte_eq _ 58 (by decide) (by decide)).1 (by simpa using hq)
        rw [hg.out] at e
        rw [← e]
        exact List.getElem_mem hl
      · rename_i hq
        refine ⟨⟨k + 1, by omega, by go_num, Pl.take_step hl hn.out ?_⟩, by simp [intOf]; omega⟩
        rw [← hg.out]
        exact fun e => by simp [(byte_eq _ 58 (by decide) (by decide)).2 e] at hq
    · go_wp2
      go_ret
      exact ⟨ret_bool (Pl.hasB_false.2 (by have := hn.out; rwa [List.take_of_length_le (by rw [← Pl.size_toList]; omega)] at this)).symm, rfl⟩

theorem cHasColon (s : ByteArray) (w : World) (b : Bool) (hs : s.size ≤ maxLen) (h : Pl.hasB s.data.toList 58 = b) :
    Calls Tryf.prog 16 #[.string s] w fun e w' => e = .returned (.bool b) ∧ w = w' :=
  (hasColon_any s w hs).mono fun _ _ k => ⟨by rw [k.1, h], k.2⟩

end Go.Proofs.Qxb6608712aFmt
